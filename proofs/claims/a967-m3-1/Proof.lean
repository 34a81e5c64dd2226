import JvmDerived
import JvmDerived.Pilot.@@N@@Statement
import JvmDerived.Pilot.@@N@@Code
set_option linter.unusedVariables false
set_option linter.unusedSimpArgs false
namespace Jvm.RoadKit
open Sem ClassFile Op Lib Jvm.Stand Jvm.Free Jvm.LawKit
section New
variable {p : Program} {l : Launch} {e : Env} {R : Room} {s : State} {m : MethodId} {args : Array Value} {below : List Frame} {meth : Method} {c : Code} {T : State} {locs : List Loc} {cells slots : Nat}
theorem retI (X : Stand p l e R s m args below meth c T locs cells slots) (hx : p.tables.exec = Jvm.exec) {pc : Nat} {Ls : Array Slot} {z : Int32} {rest : List Value} (hret : meth.sig.returnType = some .int) (hd : decode c.code pc = .ok (.ireturn, 1)) {fs : List Frame}
    (hl : ∀ (f : JFrame) (acts : List Action), f.method = m → f.locked = none → f.entered = [] → (doReturn e (T.setTop f) acts (some (.int z))).1 = T.setFrames fs) : Steps p.tables e below (T.setTop (mkF m pc Ls (.int z :: rest))) (T.setFrames fs) := by
  have hm' : T.vm.method? m = some meth := X.method'
  have hn : narrow .int (.int z) = .int z := rfl
  show Steps p.tables e below (T.setTop { method := m, pc := pc, locals := Ls, stack := _ :: rest, locked := none }) _
  jvm_step X.here [X.here.top, hx, hd, hm', hret, hn]
  first | (intro acts; rw [hl _ acts rfl rfl rfl]) | rw [hl _ _ rfl rfl rfl]
  exact Steps.refl _
end New
end Jvm.RoadKit
namespace Jvm.Pilot.@@N@@
open Jvm Jvm.ClassFile Sem Op Lib Jvm.Free Jvm.Stand Jvm.LawKit Jvm.RoadKit Bundle Jvm.Pilot.@@N@@.Jvm.D
section Own
variable {p : Program} {l : Launch} {e : Env} {R : Room} {s : State} {m : MethodId} {args : Array Value} {below : List Frame} {meth : Method} {c : Code} {T : State} {locs : List Loc} {cells slots : Nat}
theorem own_retL (X : Stand p l e R s m args below meth c T locs cells slots) (hx : p.tables.exec = Jvm.exec) {pc : Nat} {Ls : Array Slot} {z : Int64} {rest : List Value} (hret : meth.sig.returnType = some .long) (hd : decode c.code pc = .ok (.lreturn, 1)) {fs : List Frame}
    (hl : ∀ (f : JFrame) (acts : List Action), f.method = m → f.locked = none → f.entered = [] → (doReturn e (T.setTop f) acts (some (.long z))).1 = T.setFrames fs) : Steps p.tables e below (T.setTop (mkF m pc Ls (.long z :: rest))) (T.setFrames fs) := by
  have hm' : T.vm.method? m = some meth := X.method'
  have hn : narrow .long (.long z) = .long z := rfl
  show Steps p.tables e below (T.setTop { method := m, pc := pc, locals := Ls, stack := _ :: rest, locked := none }) _
  jvm_step X.here [X.here.top, hx, hd, hm', hret, hn]
  first | (intro acts; rw [hl _ acts rfl rfl rfl]) | rw [hl _ _ rfl rfl rfl]
  exact Steps.refl _
theorem own_retA (X : Stand p l e R s m args below meth c T locs cells slots) (hx : p.tables.exec = Jvm.exec) {pc : Nat} {Ls : Array Slot} {v : Value} {t : FieldType} {rest : List Value} (hret : meth.sig.returnType = some t) (ht : t.isReference = true) (hv : v.isRef = true) (hd : decode c.code pc = .ok (.areturn, 1)) {fs : List Frame}
    (hl : ∀ (f : JFrame) (acts : List Action), f.method = m → f.locked = none → f.entered = [] → (doReturn e (T.setTop f) acts (some v)).1 = T.setFrames fs) : Steps p.tables e below (T.setTop (mkF m pc Ls (v :: rest))) (T.setFrames fs) := by
  have hm' : T.vm.method? m = some meth := X.method'
  show Steps p.tables e below (T.setTop { method := m, pc := pc, locals := Ls, stack := _ :: rest, locked := none }) _
  jvm_step X.here [X.here.top, hx, hd, hm', hret, hv, ht]
  first | (intro acts; rw [hl _ acts rfl rfl rfl]) | rw [hl _ _ rfl rfl rfl]
  exact Steps.refl _
def OGo (p : Program) (e : Env) (below : List Frame) (P : State → Outcome → Prop) (S : State) : Prop := ∃ s₂ o, Steps p.tables e below S s₂ ∧ s₂.status = .running ∧ Ended s₂ below o ∧ P s₂ o
theorem OGo.to {P : State → Outcome → Prop} {S S' : State} (h : ∀ t, Steps p.tables e below S' t → Steps p.tables e below S t) (g : OGo p e below P S') : OGo p e below P S := by
  obtain ⟨s₂, o, h1, r⟩ := g
  exact ⟨s₂, o, h _ h1, r⟩
theorem OGo.ret {Q : Option Value → Heap → List Loc → Prop} (X : Stand p l e R s m args below meth c T locs cells slots) {g : JFrame} (v : Option Value) (hv : meth.sig.returnType = none → v = none) (hlocks : meth.locks = false)
    (st : ∀ fs : List Frame, (∀ (f : JFrame) (acts : List Action), f.method = m → f.locked = none → f.entered = [] → (doReturn e (T.setTop f) acts v).1 = T.setFrames fs) → Steps p.tables e below (T.setTop g) (T.setFrames fs)) (hq : Q v T.heap locs) {rc rs : Nat} (h1 : cells ≤ rc) (h2 : slots ≤ rs) :
    OGo p e below (fun s₂ o => ∃ v L, o = .returned v ∧ Q v s₂.heap L ∧ FrameEnd s o s₂ L rc rs) (T.setTop g) := by
  obtain ⟨fs, hr, hrun, hended, hW, hsame⟩ := X.leave (v := v) hv hlocks
  exact ⟨_, _, st fs hr, hrun, hended, _, _, rfl, hq, ⟨_, rfl⟩, hW, hsame.mono h1 h2⟩
theorem OGo.retW {vm₁ : Vm} {Q : Option Value → Heap → List Loc → Prop} (X : Stand p l e R (s.setVm vm₁) m args below meth c T locs cells slots) {n : Nat} (hS : s.Since vm₁ n) (hn : n ≤ T.heap.size) {g : JFrame} (v : Option Value) (hv : meth.sig.returnType = none → v = none) (hlocks : meth.locks = false)
    (st : ∀ fs : List Frame, (∀ (f : JFrame) (acts : List Action), f.method = m → f.locked = none → f.entered = [] → (doReturn e (T.setTop f) acts v).1 = T.setFrames fs) → Steps p.tables e below (T.setTop g) (T.setFrames fs)) (hq : Q v T.heap locs) {rc rs : Nat} (h1 : cells ≤ rc) (h2 : slots ≤ rs) :
    OGo p e below (fun s₂ o => ∃ v L, o = .returned v ∧ Q v s₂.heap L ∧ ReturnedEndW s o s₂ L rc rs) (T.setTop g) := by
  obtain ⟨fs, hr, hrun, hended, a, b, c', d⟩ := X.leaveW hS hn (v := v) hv hlocks
  exact ⟨_, _, st fs hr, hrun, hended, _, _, rfl, hq, a, b, c', d.mono h1 h2⟩
theorem own_unS {Z : State} {own : String} {vm0 : Vm} {k0 : Nat} (hS : s.Since vm0 k0) (hk : k0 ≤ T.heap.size) (hZ : Z.Warmed39 (s.setVm vm0).vm) (hown : (s.setVm vm0).vm.findClass own = some m.cls) (X0 : Stand p l e R (s.setVm vm0) m args below meth c T locs cells slots) {Q : Option Value → State → List Loc → Prop} {rc rs : Nat} {W : Option Value → State → Prop}
    (h : ∃ (v : Option Value) (vm₁ : Vm) (B : Pt), (s.setVm vm0).WarmedH vm₁ ∧ Stand p l e R ((s.setVm vm0).setVm B.U.vm) m args below meth c B.U B.locs B.cells B.slots ∧ (s.setVm vm0).Since B.U.vm B.U.heap.size ∧ T.heap.size ≤ B.U.heap.size ∧ (∃ L, Q v B.U L ∧ B.locs = locs ++ L ∧ B.cells = cells + rc ∧ B.slots = slots + rs) ∧ W v B.U) :
    ∃ (v : Option Value) (T' : State) (Lc : List Loc), Stand p l e R (s.setVm T'.vm) m args below meth c T' (locs ++ Lc) (cells + rc) (slots + rs) ∧ s.Since T'.vm T'.heap.size ∧ Z.Warmed39 (s.setVm T'.vm).vm ∧ (s.setVm T'.vm).vm.findClass own = some m.cls ∧ Q v T' Lc ∧ W v T' := by
  obtain ⟨v, vm₁, ⟨T', L', k', n'⟩, -, X, h2, gg, ⟨Lc, hQ, q1, q2, q3⟩, st⟩ := h
  subst q1 q2 q3
  obtain ⟨r1, r2, r3, r4⟩ := rebS hS hk X h2 gg hZ hown
  exact ⟨v, T', Lc, r1, r2, r3, r4, hQ, st⟩
theorem own_un (X0 : Stand p l e R s m args below meth c T locs cells slots) {Q : Option Value → Heap → List Loc → Prop} {rc rs : Nat} {W : Option Value → State → Prop}
    (h : ∃ (v : Option Value) (vm₁ : Vm) (B : Pt), s.WarmedH vm₁ ∧ Stand p l e R s m args below meth c B.U B.locs B.cells B.slots ∧ (∃ L, Q v B.U.heap L ∧ B.locs = locs ++ L ∧ B.cells = cells + rc ∧ B.slots = slots + rs) ∧ W v B.U) :
    ∃ (v : Option Value) (T' : State) (Lc : List Loc), Stand p l e R s m args below meth c T' (locs ++ Lc) (cells + rc) (slots + rs) ∧ Q v T'.heap Lc ∧ W v T' := by
  obtain ⟨v, vm₁, ⟨T', L', k', n'⟩, -, X, ⟨Lc, hQ, h1, h2, h3⟩, st⟩ := h
  subst h1 h2 h3
  exact ⟨v, T', Lc, X, hQ, st⟩
theorem own_selP {Z : State} {a0 : Array Value} (hZ : Z.Warmed39 s.vm) {y : MethodName} {n : Nat} (wi : (Jvm.Cond.instantiable y.cls n).before a0 Z = true) (wp : (Jvm.Cond.privateMethod y).before a0 Z = true) (wm : (Jvm.Cond.instanceMethod y).before a0 Z = true) (hy : y.cls ≠ "java/lang/invoke/MethodHandle" ∧ y.cls ≠ "java/lang/invoke/VarHandle") : (Jvm.Cond.selects y.cls y y).before args s = true := by
  obtain ⟨c, k, h1, h2, -, h3, -⟩ := Cond.instantiable_spec (mvT (args := args) hZ wi)
  exact selects_self_of_private h1 h2 ((Bool.or_eq_false_iff.mp h3).1) (Cond.privateMethod_at (mvP hZ wp (args := args))) (mvT hZ wm) hy
end Own
theorem own_ieq {a b : Int32} (h : a = b) : a.toInt = b.toInt := congrArg _ h
theorem own_ine {a b : Int32} (h : ¬ a = b) : a.toInt ≠ b.toInt := fun q => h (Int32.toInt_inj.mp q)
theorem own_ilt {a b : Int32} (h : a < b) : a.toInt < b.toInt := Int32.lt_iff_toInt_lt.mp h
theorem own_inlt {a b : Int32} (h : ¬ a < b) : b.toInt ≤ a.toInt := Int.not_lt.mp fun q => h (Int32.lt_iff_toInt_lt.mpr q)
theorem own_eqi {a b : Int32} (h : a.toInt = b.toInt) : a = b := Int32.toInt_inj.mp h
theorem own_lti {a b : Int32} (h : a.toInt < b.toInt) : a < b := Int32.lt_iff_toInt_lt.mpr h
theorem own_nlti {a b : Int32} (h : b.toInt ≤ a.toInt) : ¬ a < b := fun q => absurd (Int32.lt_iff_toInt_lt.mp q) (Int.not_lt.mpr h)
theorem own_c255 (x : Int32) : ¬ (255 : Int32) < (x &&& (255 : Int32)) := fun q => by
  have h := c_and x (255 : Int32) (by decide)
  have q2 := Int32.lt_iff_toInt_lt.mp q
  omega
theorem own_cc (x : Int32) : ((x &&& (255 : Int32)).toUInt32.toUInt16.toUInt32.toInt32) = x &&& (255 : Int32) := i2c_mask x
theorem own_cn (x : Int32) : nar .char ((x &&& (255 : Int32)).toUInt32.toUInt16.toUInt32.toInt32) = x &&& (255 : Int32) := by
  rw [own_cc]; exact i2c_mask x
theorem own_cs {args : Array Value} {s : State} {t : Jvm.Term} {cs : Int32} (e : t.eval args s none [] s = some (.int cs)) (h : (Jvm.Cond.not (Jvm.Cond.eq t (Jvm.Term.int (0 : Int32)))).before args s = true) : ¬ (cs = (0 : Int32)) := by
  rintro rfl
  have q := not_v (Cond.before_iff.mp h)
  have r := eq_i (args := args) (first := s) (o := none) (idx := []) (s := s) e (Term.int_eval (0)) rfl
  rw [r] at q
  cases q
def own_Emp (Z : State) (h : Heap) (a : Addr) : Prop := Exa Z h a "java/lang/String" ∧ Fld Z h a "java/lang/String" "coder" "B" (.int (0 : Int32)) ∧ ∃ (b : Addr) (k : ClassId), Fld Z h a "java/lang/String" "value" "[B" (.ref b) ∧ Arv Z h b k .byte (0 : Int32) [] (.int (0 : Int32))
def own_Inv (Z : State) (vm : Vm) (h : Heap) : Prop := vm.interned = Z.vm.interned ∨ ∃ a, Lit (Z.setVm vm) "java/lang/String" 7 a ∧ own_Emp Z h a
theorem own_Emp.keep {Z : State} {h h' : Heap} {a : Addr} {ws : List Addr} (E : own_Emp Z h a) (K : Keep h h' ws) (q : ∀ x ∈ ws, h.size ≤ x) : own_Emp Z h' a := by
  obtain ⟨e1, e2, b, k, e3, e4⟩ := E
  have na : a ∉ ws := fun m => absurd e1.lt (Nat.not_lt.mpr (q a m))
  have nb : b ∉ ws := fun m => absurd e4.lt (Nat.not_lt.mpr (q b m))
  exact ⟨e1.keep K, e2.keep K na, b, k, e3.keep K na, e4.keep K nb⟩
theorem own_Inv.keep {Z : State} {vm : Vm} {h h' : Heap} {ws : List Addr} (I : own_Inv Z vm h) (K : Keep h h' ws) (q : ∀ x ∈ ws, h.size ≤ x) : own_Inv Z vm h' := by
  rcases I with I | ⟨a, L, E⟩
  · exact Or.inl I
  · exact Or.inr ⟨a, L, E.keep K q⟩
theorem own_litMv {Z s : State} {vm : Vm} {a : Addr} (L : Lit (s.setVm vm) "java/lang/String" 7 a) : Lit (Z.setVm vm) "java/lang/String" 7 a := L
theorem own_Inv.warm {Z s : State} {h : Heap} {vm' : Vm} (I : own_Inv Z s.vm h) (W : s.WarmedH vm') : own_Inv Z vm' h := by
  rcases I with I | ⟨a, L, E⟩
  · exact Or.inl (W.interned_eq.trans I)
  · exact Or.inr ⟨a, Lit.stays (s := Z) (vm0 := s.vm) L (show (Z.setVm s.vm).Warmed39 vm' from W.wide), E⟩
section OwnI
variable {p : Program} {l : Launch} {e : Env} {R : Room} {s : State} {m : MethodId} {args : Array Value} {below : List Frame} {meth : Method} {c : Code} {T : State} {locs : List Loc} {cells slots : Nat} {Z : State} {a0 : Array Value} {h : Heap}
theorem OGo.retI {vm₁ : Vm} {Q : Option Value → Heap → List Loc → Prop} {I : Vm → Heap → Prop} (X : Stand p l e R (s.setVm vm₁) m args below meth c T locs cells slots) {n : Nat} (hS : s.Since vm₁ n) (hn : n ≤ T.heap.size) {g : JFrame} (v : Option Value) (hv : meth.sig.returnType = none → v = none) (hlocks : meth.locks = false)
    (st : ∀ fs : List Frame, (∀ (f : JFrame) (acts : List Action), f.method = m → f.locked = none → f.entered = [] → (doReturn e (T.setTop f) acts v).1 = T.setFrames fs) → Steps p.tables e below (T.setTop g) (T.setFrames fs)) (hq : Q v T.heap locs) (hi : I T.vm T.heap) {rc rs : Nat} (h1 : cells ≤ rc) (h2 : slots ≤ rs) :
    OGo p e below (fun s₂ o => ∃ v L, o = .returned v ∧ (Q v s₂.heap L ∧ I s₂.vm s₂.heap) ∧ ReturnedEndW s o s₂ L rc rs) (T.setTop g) := by
  obtain ⟨fs, hr, hrun, hended, a, b, c', d⟩ := X.leaveW hS hn (v := v) hv hlocks
  exact ⟨_, _, st fs hr, hrun, hended, _, _, rfl, ⟨hq, hi⟩, a, b, c', d.mono h1 h2⟩
theorem own_backOfI {y : MethodName} {bytes : ByteArray} {maxL : Nat} {ret : Option FieldType} {rm : Room} {len W : Nat} {as' : Array Value} {Q : Option Value → Heap → List Loc → Prop} {I : Vm → Heap → Prop}
    (hM : MetFree l y (head1 [Jvm.Cond.code y bytes maxL ret] rm) (fun a U => a = as' ∧ Z.Warmed39 U.vm ∧ U.heap = h ∧ I U.vm h) (fun _ _ _ _ _ => True) (fun _ U o U' => ∃ v L, o = .returned v ∧ (Q v U'.heap L ∧ I U'.vm U'.heap) ∧ ReturnedEndW U o U' L rm.cells rm.slots))
    (hI : ∀ vm', s.WarmedH vm' → I vm' h)
    (hZ : Z.Warmed39 s.vm) (wc : (Jvm.Cond.code y bytes maxL ret).before a0 Z = true) (wz : (Jvm.Cond.initialized y.cls).before a0 Z = true) (hf : rm.frames + 1 ≤ R.frames) (hl : W + (maxL + 11) + rm.locals ≤ R.locals) :
    BackS l R p e below s args y len W (fun A a => a = as' ∧ A.U.heap = h ∧ A.cells + rm.cells ≤ R.cells ∧ A.slots + rm.slots ≤ R.slots)
      (fun A _ v B => ∃ L, (Q v B.U.heap L ∧ I B.U.vm B.U.heap) ∧ B.locs = A.locs ++ L ∧ B.cells = A.cells + rm.cells ∧ B.slots = A.slots + rm.slots) :=
  BackS.of_freeW (bytes := bytes) (maxL := maxL) (ret := ret) (E := fun _ _ o t L k n => k = rm.cells ∧ n = rm.slots ∧ ∃ v, o = .returned v ∧ (Q v t.heap L ∧ I t.vm t.heap)) hM hf hl
    (fun m meth c A a Y hp => have hU : Z.Warmed39 A.U.vm := wtrans hZ Y.warmed
      ⟨by show (Jvm.Cond.and _ .tt).before a A.U = true; rw [Cond.before_and, mv hU wc]; rfl, mv hU wc, mv hU wz, hp.2.2.1, hp.2.2.2⟩)
    (fun m meth c A a g mk Y hp => ⟨hp.1, wtrans hZ Y.warmed, hp.2.1, hI _ Y.warmed⟩) (fun _ _ _ _ _ _ _ _ _ => trivial)
    (fun _ _ _ _ ⟨v, L, h1, h2, h3⟩ => ⟨L, _, _, h3, rfl, rfl, v, h1, h2⟩)
    (fun m meth c A a g mk v t L k n Y hp _ _ ⟨e1, e2, v', e3, e4⟩ => by cases e3; subst e1 e2; exact ⟨L, e4, rfl, rfl, rfl⟩)
end OwnI
theorem own_wS {Z : State} {a0 : Array Value} (hw : ∀ d ∈ tables_1, d.before a0 Z = true) : ∀ a ∈ Bundle.stringAtoms, a.before a0 Z = true := by
  intro a ha
  simp only [Bundle.stringAtoms, List.mem_cons, List.not_mem_nil, or_false] at ha
  rcases ha with rfl | rfl | rfl | rfl | rfl | rfl | rfl
  · exact (hw _ (List.mem_of_getElem? (i := 6) rfl))
  · exact (hw _ (List.mem_of_getElem? (i := 5) rfl))
  · exact (hw _ (List.mem_of_getElem? (i := 19) rfl))
  · exact (hw _ (List.mem_of_getElem? (i := 20) rfl))
  · exact (hw _ (List.mem_of_getElem? (i := 21) rfl))
  · exact (hw _ (List.mem_of_getElem? (i := 22) rfl))
  · exact (hw _ (List.mem_of_getElem? (i := 23) rfl))
theorem own_IB0 {Z s : State} (h : s.vm.interned = Z.vm.interned) : IB Z s.vm [] := ⟨#[], by rw [h]; simp, fun q hq => by simp at hq⟩
theorem own_fldU {Z : State} {h : Heap} {a : Addr} {C n d : String} {v w : Value} (F : Fld Z h a C n d v) (G : Fld Z h a C n d w) : v = w := by
  obtain ⟨cell, cf, k, i, f, f1, f2, -, -, -, -, f7⟩ := F
  obtain ⟨cell', cf', k', i', f', g1, g2, -, -, -, -, g7⟩ := G
  cases f1.symm.trans g1
  cases f2.symm.trans g2
  exact Option.some.inj (f7.symm.trans g7)
theorem own_neF {Z : State} {h : Heap} {a b : Addr} {C n d : String} {v w : Value} (F : Fld Z h a C n d v) (G : Fld Z h b C n d w) (hn : v ≠ w) : a ≠ b := by
  rintro rfl; exact hn (own_fldU F G)
def own_i (n : Nat) : Int32 := Int32.ofNat n
theorem own_iI {n : Nat} (h : n < 100) : (own_i n).toInt = n := Int32.toInt_ofNat_small (Nat.lt_trans h (by decide))
theorem own_clamp (n : Nat) (h : n < 100) : (own_i n).toNatClampNeg = n := by rw [Int32.toNatClampNeg, own_iI h]; rfl
def own_gc (x : Int32) : Int32 := nar .char (((x &&& (255 : Int32))).toUInt32.toUInt16.toUInt32.toInt32)
def own_scmp : List Int32 → List Int32 → Int32
  | x :: xs, y :: ys => if x = y then own_scmp xs ys else own_gc x - own_gc y
  | l1, l2 => own_i l1.length - own_i l2.length
theorem own_scmp_cc {x y : Int32} {xs ys : List Int32} : own_scmp (x :: xs) (y :: ys) = if x = y then own_scmp xs ys else own_gc x - own_gc y := rfl
def own_seq (l1 l2 : List Int32) : Int32 := if l1 = l2 then (1 : Int32) else (0 : Int32)
theorem own_seq_yes {l1 l2 : List Int32} (h : l1 = l2) : (1 : Int32) = own_seq l1 l2 := by unfold own_seq; rw [if_pos h]
theorem own_seq_no {l1 l2 : List Int32} (h : ¬ l1 = l2) : (0 : Int32) = own_seq l1 l2 := by unfold own_seq; rw [if_neg h]
theorem own_seq_1 {l1 l2 : List Int32} (h : ¬ own_seq l1 l2 = (0 : Int32)) : (1 : Int32) = own_seq l1 l2 := by
  unfold own_seq at *
  by_cases q : l1 = l2
  · rw [if_pos q]
  · rw [if_neg q] at h; exact absurd rfl h
def own_ok (l : List Int32) : Prop := l.length ≤ 2 ∧ ∀ x ∈ l, -128 ≤ x.toInt ∧ x.toInt ≤ 127
theorem own_len2 {l : List Int32} (h : own_ok l) : l = [] ∨ (∃ x0, l = [x0]) ∨ (∃ x0 x1, l = [x0, x1]) := by
  obtain ⟨h, -⟩ := h
  match l, h with
  | [], _ => exact Or.inl rfl
  | [x], _ => exact Or.inr (Or.inl ⟨x, rfl⟩)
  | [x, y], _ => exact Or.inr (Or.inr ⟨x, y, rfl⟩)
  | _ :: _ :: _ :: _, h => simp at h
theorem own_castS {Z : State} {h : Heap} {b : Addr} {k : ClassId} {n : Int32} {L L' : List Int32} {d : Value} (F : Arv Z h b k .byte n (L.map Value.int) d) (e : L = L') (hn : n = own_i L.length) : Arv Z h b k .byte (own_i L'.length) (L'.map Value.int) d := by subst e hn; exact F
theorem own_castL {Z : State} {h : Heap} {b : Addr} {k : ClassId} {L L' : List Int32} {d : Value} (F : Arv Z h b k .byte (own_i L.length) (L.map Value.int) d) (e : L = L') : Arv Z h b k .byte (own_i L'.length) (L'.map Value.int) d := by subst e; exact F
theorem own_same {Z : State} {h : Heap} {a1 a2 t1 t2 : Addr} {k1 k2 : ClassId} {l1 l2 : List Int32} {d : Value} (e : a1 = a2) (F1 : Fld Z h a1 "java/lang/String" "value" "[B" (.ref t1)) (F2 : Fld Z h a2 "java/lang/String" "value" "[B" (.ref t2)) (V1 : Arv Z h t1 k1 .byte (own_i l1.length) (l1.map Value.int) d) (V2 : Arv Z h t2 k2 .byte (own_i l2.length) (l2.map Value.int) d) (ok1 : own_ok l1) (ok2 : own_ok l2) : l1 = l2 := by
  subst e
  cases Value.ref.inj (own_fldU F1 F2)
  obtain ⟨c, A1, -, s1, -, H1, -⟩ := V1
  obtain ⟨c', A2, -, s2, -, H2, -⟩ := V2
  cases A1.1.symm.trans A2.1
  have b1 : l1.length < 100 := Nat.lt_of_le_of_lt ok1.1 (by decide)
  have b2 : l2.length < 100 := Nat.lt_of_le_of_lt ok2.1 (by decide)
  rw [own_clamp _ b1] at s1
  rw [own_clamp _ b2] at s2
  refine List.ext_getElem (s1.symm.trans s2) fun i h1 h2 => ?_
  have q1 := H1 i (by rw [s1]; exact h1)
  have q2 := H2 i (by rw [s2]; exact h2)
  have q := Option.some.inj (q1.symm.trans q2)
  rw [List.getD_eq_getElem?_getD, List.getD_eq_getElem?_getD, List.getElem?_map, List.getElem?_map, List.getElem?_eq_getElem h1, List.getElem?_eq_getElem h2] at q
  exact Value.int.inj q
def own_pick (p : Int32) (l1 l2 l3 : List Int32) : List Int32 := if p = (0 : Int32) then l1 else if p = (1 : Int32) then l2 else l3
def own_mk (p1 : Int32) : List Int32 := if ((((p1.toUInt32 >>> ((16 : Int32) &&& 31).toUInt32).toInt32) &&& (32767 : Int32)) % (3 : Int32)) = (0 : Int32) then [] else if ((((p1.toUInt32 >>> ((16 : Int32) &&& 31).toUInt32).toInt32) &&& (32767 : Int32)) % (3 : Int32)) = (1 : Int32) then [((((p1 &&& (255 : Int32)).toUInt32.toUInt16.toUInt32.toInt32).toInt8.toInt32)).toInt8.toInt32] else [(((nar .char ((p1 &&& (255 : Int32)).toUInt32.toUInt16.toUInt32.toInt32)).toInt8.toInt32)).toInt8.toInt32, (((nar .char ((((p1.toUInt32 >>> ((8 : Int32) &&& 31).toUInt32).toInt32) &&& (255 : Int32)).toUInt32.toUInt16.toUInt32.toInt32)).toInt8.toInt32)).toInt8.toInt32]
def own_fst (l1 l2 : List Int32) : List Int32 := if own_scmp l1 l2 < (0 : Int32) then l1 else l2
def own_snd (l1 l2 : List Int32) : List Int32 := if own_scmp l1 l2 < (0 : Int32) then l2 else l1
def own_teq (l1 l2 l3 l4 : List Int32) : Int32 := if l1 = l3 then (if l2 = l4 then (1 : Int32) else (0 : Int32)) else (0 : Int32)
theorem own_seq_e {l1 l2 : List Int32} (h : ¬ own_seq l1 l2 = (0 : Int32)) : l1 = l2 := by
  unfold own_seq at h
  by_cases q : l1 = l2
  · exact q
  · rw [if_neg q] at h; exact absurd rfl h
theorem own_seq_n {l1 l2 : List Int32} (h : own_seq l1 l2 = (0 : Int32)) : ¬ l1 = l2 := by
  intro q; unfold own_seq at h; rw [if_pos q] at h; exact absurd h (by decide)
theorem own_teq_a {l1 l2 l3 l4 : List Int32} (h : ¬ l1 = l3) : (0 : Int32) = own_teq l1 l2 l3 l4 := by unfold own_teq; rw [if_neg h]
theorem own_teq_b {l1 l2 l3 l4 : List Int32} (h : l1 = l3) (h2 : ¬ l2 = l4) : (0 : Int32) = own_teq l1 l2 l3 l4 := by unfold own_teq; rw [if_pos h, if_neg h2]
theorem own_teq_c {l1 l2 l3 l4 : List Int32} (h : l1 = l3) (h2 : l2 = l4) : (1 : Int32) = own_teq l1 l2 l3 l4 := by unfold own_teq; rw [if_pos h, if_pos h2]
theorem own_teq_0 {l1 l2 l3 l4 : List Int32} (h : ¬ l1 = l3 ∨ ¬ l2 = l4) : own_teq l1 l2 l3 l4 = (0 : Int32) := by
  by_cases q : l1 = l3
  · exact (own_teq_b q (h.resolve_left fun z => z q)).symm
  · exact (own_teq_a q).symm
theorem own_teq_s (l1 l2 l3 l4 : List Int32) : own_teq l1 l2 l3 l4 = own_teq l3 l4 l1 l2 := by
  unfold own_teq
  simp only [eq_comm]
theorem own_ok_pick {p : Int32} {l1 l2 l3 : List Int32} (h1 : own_ok l1) (h2 : own_ok l2) (h3 : own_ok l3) : own_ok (own_pick p l1 l2 l3) := by
  unfold own_pick
  by_cases a : p = (0 : Int32)
  · rw [if_pos a]; exact h1
  · rw [if_neg a]
    by_cases b : p = (1 : Int32)
    · rw [if_pos b]; exact h2
    · rw [if_neg b]; exact h3
theorem own_ok_fst {l1 l2 : List Int32} (h1 : own_ok l1) (h2 : own_ok l2) : own_ok (own_fst l1 l2) := by
  unfold own_fst
  by_cases a : own_scmp l1 l2 < (0 : Int32)
  · rw [if_pos a]; exact h1
  · rw [if_neg a]; exact h2
theorem own_ok_snd {l1 l2 : List Int32} (h1 : own_ok l1) (h2 : own_ok l2) : own_ok (own_snd l1 l2) := by
  unfold own_snd
  by_cases a : own_scmp l1 l2 < (0 : Int32)
  · rw [if_pos a]; exact h2
  · rw [if_neg a]; exact h1
theorem own_b8 (c : Int32) : -128 ≤ (c.toInt8.toInt32).toInt ∧ (c.toInt8.toInt32).toInt ≤ 127 := by
  have h := c_i2b c; omega
theorem own_ok_mk (p1 : Int32) : own_ok (own_mk p1) := by
  unfold own_mk
  split
  · exact ⟨by decide, fun x hx => by simp at hx⟩
  · split
    · exact ⟨by simp, fun x hx => by rw [List.mem_singleton] at hx; subst hx; exact own_b8 _⟩
    · refine ⟨by simp, fun x hx => ?_⟩
      simp only [List.mem_cons, List.not_mem_nil, or_false] at hx
      rcases hx with rfl | rfl <;> exact own_b8 _
theorem own_gcI {x : Int32} (h : -128 ≤ x.toInt ∧ x.toInt ≤ 127) : (own_gc x).toInt = x.toInt % 256 := by
  have e : own_gc x = x &&& (255 : Int32) := own_cn x
  rw [e]
  exact c_mask x (255 : Int32) 8 (by decide) (by decide)
theorem own_scmp_n1 (l : List Int32) : own_scmp [] l = own_i 0 - own_i l.length := by cases l <;> rfl
theorem own_scmp_n2 (l : List Int32) : own_scmp l [] = own_i l.length - own_i 0 := by cases l <;> rfl
theorem own_subI {a b : Int32} (ha : 0 ≤ a.toInt ∧ a.toInt ≤ 1000) (hb : 0 ≤ b.toInt ∧ b.toInt ≤ 1000) : (a - b).toInt = a.toInt - b.toInt := by
  have h1 := c_isub a b
  have h2 := rng32 (a - b)
  omega
theorem own_sw : ∀ (l1 l2 : List Int32), l1.length < 100 → l2.length < 100 → (∀ x ∈ l1, -128 ≤ x.toInt ∧ x.toInt ≤ 127) → (∀ x ∈ l2, -128 ≤ x.toInt ∧ x.toInt ≤ 127) → (own_scmp l2 l1).toInt = -(own_scmp l1 l2).toInt ∧ ((own_scmp l1 l2).toInt = 0 → l1 = l2) := by
  intro l1
  induction l1 with
  | nil =>
    intro l2 h1 h2 _ _
    rw [own_scmp_n1, own_scmp_n2]
    have i2 := own_iI h2
    have i0 : (own_i 0).toInt = 0 := by decide
    have s1 := own_subI (a := own_i l2.length) (b := own_i 0) (by omega) (by omega)
    have s2 := own_subI (a := own_i 0) (b := own_i l2.length) (by omega) (by omega)
    refine ⟨by omega, fun q => ?_⟩
    cases l2 with
    | nil => rfl
    | cons y ys => simp only [List.length_cons] at *; omega
  | cons x xs ih =>
    intro l2 h1 h2 b1 b2
    cases l2 with
    | nil =>
      rw [own_scmp_n1, own_scmp_n2]
      have i2 := own_iI h1
      have i0 : (own_i 0).toInt = 0 := by decide
      have s1 := own_subI (a := own_i (x :: xs).length) (b := own_i 0) (by omega) (by omega)
      have s2 := own_subI (a := own_i 0) (b := own_i (x :: xs).length) (by omega) (by omega)
      refine ⟨by omega, fun q => ?_⟩
      simp only [List.length_cons] at *; omega
    | cons y ys =>
      rw [own_scmp_cc, own_scmp_cc]
      by_cases q : x = y
      · rw [if_pos q, if_pos q.symm]
        have r := ih ys (by simp at h1; omega) (by simp at h2; omega) (fun z hz => b1 z (List.mem_cons_of_mem _ hz)) (fun z hz => b2 z (List.mem_cons_of_mem _ hz))
        exact ⟨r.1, fun z => by rw [q, r.2 z]⟩
      · rw [if_neg q, if_neg (fun z => q z.symm)]
        have bx := b1 x (List.mem_cons_self ..)
        have by_ := b2 y (List.mem_cons_self ..)
        have gx := own_gcI bx
        have gy := own_gcI by_
        rw [own_subI (by omega) (by omega), own_subI (by omega) (by omega)]
        refine ⟨by omega, fun z => absurd (Int32.toInt_inj.mp (by omega)) q⟩
theorem own_ltI {a : Int32} : a < (0 : Int32) ↔ a.toInt < 0 := Int32.lt_iff_toInt_lt
theorem own_T1 {a b c d : List Int32} (oa : own_ok a) (ob : own_ok b) (oc : own_ok c) (od : own_ok d) (h : (a = c ∧ b = d) ∨ (a = d ∧ b = c)) : own_teq (own_fst a b) (own_snd a b) (own_fst c d) (own_snd c d) = (1 : Int32) := by
  rcases h with ⟨rfl, rfl⟩ | ⟨rfl, rfl⟩
  · exact (own_teq_c rfl rfl).symm
  · have sw := own_sw a b (Nat.lt_of_le_of_lt oa.1 (by decide)) (Nat.lt_of_le_of_lt ob.1 (by decide)) oa.2 ob.2
    have e : own_fst a b = own_fst b a ∧ own_snd a b = own_snd b a := by
      unfold own_fst own_snd
      by_cases h1 : own_scmp a b < (0 : Int32)
      · have h2 : ¬ own_scmp b a < (0 : Int32) := by rw [own_ltI] at h1 ⊢; omega
        rw [if_pos h1, if_neg h2, if_pos h1, if_neg h2]; exact ⟨rfl, rfl⟩
      · by_cases h2 : own_scmp b a < (0 : Int32)
        · rw [if_neg h1, if_pos h2, if_neg h1, if_pos h2]; exact ⟨rfl, rfl⟩
        · have z : a = b := sw.2 (by rw [own_ltI] at h1 h2; omega)
          subst z; exact ⟨rfl, rfl⟩
    exact (own_teq_c e.1 e.2).symm
theorem own_T0 {a b c d : List Int32} (h1 : ¬ a = c ∨ ¬ b = d) (h2 : ¬ a = d ∨ ¬ b = c) : own_teq (own_fst a b) (own_snd a b) (own_fst c d) (own_snd c d) = (0 : Int32) := by
  unfold own_fst own_snd
  by_cases p : own_scmp a b < (0 : Int32) <;> by_cases q : own_scmp c d < (0 : Int32)
  · rw [if_pos p, if_pos q, if_pos p, if_pos q]; exact own_teq_0 h1
  · rw [if_pos p, if_neg q, if_pos p, if_neg q]; exact own_teq_0 h2
  · rw [if_neg p, if_pos q, if_neg p, if_pos q]; exact own_teq_0 h2.symm
  · rw [if_neg p, if_neg q, if_neg p, if_neg q]; exact own_teq_0 h1.symm
theorem own_T1s {a b c d : List Int32} (oa : own_ok a) (ob : own_ok b) (oc : own_ok c) (od : own_ok d) (h : (a = c ∧ b = d) ∨ (a = d ∧ b = c)) : own_teq (own_fst c d) (own_snd c d) (own_fst a b) (own_snd a b) = (1 : Int32) := (own_teq_s _ _ _ _).trans (own_T1 oa ob oc od h)
theorem own_T0s {a b c d : List Int32} (h1 : ¬ a = c ∨ ¬ b = d) (h2 : ¬ a = d ∨ ¬ b = c) : own_teq (own_fst c d) (own_snd c d) (own_fst a b) (own_snd a b) = (0 : Int32) := (own_teq_s _ _ _ _).trans (own_T0 h1 h2)
theorem own_notTP {Z : State} {a0 : Array Value} (hw : ∀ d ∈ tables_1, d.before a0 Z = true) : ∃ c t, Z.vm.findClass "java/lang/String" = some c ∧ Z.vm.findClass "com/example/cogram/cogram/model/TermPair" = some t ∧ Z.vm.assignable c t = false := by
  obtain ⟨t, kt, g1, g2, g3, g4, -⟩ := Cond.instantiable_spec (hw _ (List.mem_of_getElem? (i := 30) rfl))
  obtain ⟨o, ko, o1, o2, o3, -, -⟩ := Cond.noSuperclass_spec (hw _ (List.mem_of_getElem? (i := 109) rfl))
  obtain ⟨c, c0⟩ := found_sup (hw _ (List.mem_of_getElem? (i := 108) rfl))
  obtain ⟨p', k', kp', h1', h2', h3', h4', h5', -, h7'⟩ := Cond.superclass_spec c0 (hw _ (List.mem_of_getElem? (i := 108) rfl))
  cases o1.symm.trans h1'
  have ne1 := ids_ne c0 g1 (by decide)
  have ne3 := ids_ne o1 g1 (by decide)
  have g5 := (Bool.or_eq_false_iff.mp g4).1
  refine ⟨c, t, c0, g1, ?_⟩
  show Z.vm.assignableAux (255 + 1) c t = false
  have q0 : ∀ f, Z.vm.isSubclassAux f o t = false := fun f => by
    cases f with
    | zero => rfl
    | succ f => simp [Vm.isSubclassAux, ne3, o2, o3]
  have q2 : ∀ f, Z.vm.isSubclassAux f c t = false := fun f => by
    cases f with
    | zero => rfl
    | succ f => simp [Vm.isSubclassAux, ne1, h2', h4', q0]
  simp [Vm.assignableAux, ne1, h2', g2, h5', g3, g5, Vm.isSubclass, q2]

theorem pd_0 : parseMethodDescriptor "(C)Z" = some ⟨[.char], some .boolean⟩ := by decide +kernel
theorem pd_1 : parseMethodDescriptor "(C)[B" = some ⟨[.char], some (.array .byte)⟩ := by decide +kernel
theorem pd_2 : parseMethodDescriptor "([BB)V" = some ⟨[(.array .byte), .byte], none⟩ := by decide +kernel
theorem pd_3 : parseMethodDescriptor "([CI[BII)I" = some ⟨[(.array .char), .int, (.array .byte), .int, .int], some .int⟩ := by decide +kernel
theorem pd_4 : parseMethodDescriptor "([CII)[B" = some ⟨[(.array .char), .int, .int], some (.array .byte)⟩ := by decide +kernel
theorem pd_5 : parseMethodDescriptor "([BI)B" = some ⟨[(.array .byte), .int], some .byte⟩ := by decide +kernel
theorem pd_6 : parseMethodDescriptor "([CIILjava/lang/Void;)V" = some ⟨[(.array .char), .int, .int, (.object "java/lang/Void")], none⟩ := by decide +kernel
theorem pd_7 : parseMethodDescriptor "([C)V" = some ⟨[(.array .char)], none⟩ := by decide +kernel
theorem pd_8 : parseMethodDescriptor "(C)Ljava/lang/String;" = some ⟨[.char], some (.object "java/lang/String")⟩ := by decide +kernel
theorem pd_9 : parseMethodDescriptor "(II)I" = some ⟨[.int, .int], some .int⟩ := by decide +kernel
theorem pd_10 : parseMethodDescriptor "([B[BI)I" = some ⟨[(.array .byte), (.array .byte), .int], some .int⟩ := by decide +kernel
theorem pd_11 : parseMethodDescriptor "([B[BII)I" = some ⟨[(.array .byte), (.array .byte), .int, .int], some .int⟩ := by decide +kernel
theorem pd_12 : parseMethodDescriptor "([BI)C" = some ⟨[(.array .byte), .int], some .char⟩ := by decide +kernel
theorem pd_13 : parseMethodDescriptor "()B" = some ⟨[], some .byte⟩ := by decide +kernel
theorem pd_14 : parseMethodDescriptor "([B[B)I" = some ⟨[(.array .byte), (.array .byte)], some .int⟩ := by decide +kernel
theorem pd_15 : parseMethodDescriptor "([B[B)Z" = some ⟨[(.array .byte), (.array .byte)], some .boolean⟩ := by decide +kernel
theorem pd_16 : parseMethodDescriptor "(Ljava/lang/String;)I" = some ⟨[(.object "java/lang/String")], some .int⟩ := by decide +kernel
theorem pd_17 : parseMethodDescriptor "(Ljava/lang/Object;)Z" = some ⟨[(.object "java/lang/Object")], some .boolean⟩ := by decide +kernel
theorem pd_18 : parseMethodDescriptor "(I)Ljava/lang/String;" = some ⟨[.int], some (.object "java/lang/String")⟩ := by decide +kernel
theorem pd_19 : parseMethodDescriptor "(ILjava/lang/String;Ljava/lang/String;Ljava/lang/String;)Ljava/lang/String;" = some ⟨[.int, (.object "java/lang/String"), (.object "java/lang/String"), (.object "java/lang/String")], some (.object "java/lang/String")⟩ := by decide +kernel
theorem pd_20 : parseMethodDescriptor "(Ljava/lang/String;Ljava/lang/String;)V" = some ⟨[(.object "java/lang/String"), (.object "java/lang/String")], none⟩ := by decide +kernel
theorem pn_0 : plainName "java/lang/StringLatin1" = true := by first | (simp [plainName, overriddenIn]; done) | decide +kernel
theorem pn_1 : plainName "java/lang/String" = true := by first | (simp [plainName, overriddenIn]; done) | decide +kernel
theorem pn_2 : plainName "java/lang/StringUTF16" = true := by first | (simp [plainName, overriddenIn]; done) | decide +kernel
theorem pn_3 : plainName "com/example/cogram/cogram/model/TermPairEqualsPinLaw" = true := by first | (simp [plainName, overriddenIn]; done) | decide +kernel
theorem pn_4 : plainName "jdk/internal/util/ArraysSupport" = true := by first | (simp [plainName, overriddenIn]; done) | decide +kernel
theorem pn_5 : plainName "com/example/cogram/cogram/model/TermPair" = true := by first | (simp [plainName, overriddenIn]; done) | decide +kernel
theorem d20_0 : decode jdk_43_method_3_code 0 = .ok (.iload_n 0, 1) := by decide +kernel
theorem d20_1 : decode jdk_43_method_3_code 1 = .ok (.sipush 255, 3) := by decide +kernel
theorem d20_4 : decode jdk_43_method_3_code 4 = .ok (.if_icmp .gt 7, 3) := by decide +kernel
theorem d20_7 : decode jdk_43_method_3_code 7 = .ok (.iconst 1, 1) := by decide +kernel
theorem d20_8 : decode jdk_43_method_3_code 8 = .ok (.goto 4, 3) := by decide +kernel
theorem d20_12 : decode jdk_43_method_3_code 12 = .ok (.ireturn, 1) := by decide +kernel
theorem ef_ce (m : MethodId) (x0 : Int32) : entryFrame m #[(.int x0)] 1 = mkF m 0 #[.val (.int x0)] [] := by first | (simp [entryFrame, mkF, argsToLocals, Value.category]; done) | rfl
def Qce (Z : State) (p1 : Int32) (h0 : Heap) (n0 : Nat) (v : Option Value) (h : Heap) (L : List Loc) : Prop := v = some (.int (1 : Int32)) ∧ Fr n0 L ∧ h = h0
set_option maxRecDepth 65536 in
set_option maxHeartbeats 40000000 in
theorem rmce (l : Launch) (Z : State) (a0 : Array Value) (hw : ∀ d ∈ tables_1, d.before a0 Z = true) (ws : List Jvm.Cond) (p1 : Int32) (h0 : Heap) (n0 : Nat) (Z0 : n0 ≤ h0.size) (hx0 : ¬ ((255 : Int32) < p1)) :
    MetFree l (⟨"java/lang/StringLatin1", "canEncode", "(C)Z"⟩ : MethodName) (head1 (Jvm.Cond.code (⟨"java/lang/StringLatin1", "canEncode", "(C)Z"⟩ : MethodName) jdk_43_method_3_code 1 (some .boolean) :: ws) ({ frames := 0, cells := 0, slots := 0, locals := 0 } : Room)) (fun a U => a = #[(.int p1)] ∧ Z.Warmed39 U.vm ∧ U.heap = h0) (fun _ _ _ _ _ => True) (fun _ U o U' => ∃ v L, o = .returned v ∧ Qce Z p1 h0 n0 v U'.heap L ∧ FrameEnd U o U' L ({ frames := 0, cells := 0, slots := 0, locals := 0 } : Room).cells ({ frames := 0, cells := 0, slots := 0, locals := 0 } : Room).slots) := by
  refine MetFree.of_bodySF (plainFor_of_name pn_0) hisR ?_
  intro p e s m args below meth c s₁ Bd hml0 hP hK
  obtain ⟨rfl, hZ, hh⟩ := hP
  have hx := Bd.exec
  have hby := Bd.bytes
  have hml : c.maxLocals = 1 := hml0
  have hown : s.vm.findClass "java/lang/StringLatin1" = some m.cls := findClass_of_methodNamed Bd.named
  have hnm := (name_of_methodNamed Bd.named Bd.method).1
  have X0 : Stand p l e ({ frames := 0, cells := 0, slots := 0, locals := 0 } : Room) s m #[(.int p1)] below meth c s₁ [] 0 0 := Stand.of_body Bd
  have e0 : s₁.heap = h0 := by rw [← hh, Bd.state]; rfl
  have N0 := Fr.nil n0
  show OGo p e below (fun s₂ o => ∃ v L, o = .returned v ∧ Qce Z p1 h0 n0 v s₂.heap L ∧ FrameEnd s o s₂ L ({ frames := 0, cells := 0, slots := 0, locals := 0 } : Room).cells ({ frames := 0, cells := 0, slots := 0, locals := 0 } : Room).slots) _
  refine OGo.to (fun _ k => castTop (ef_ce m p1) k) ?_
  refine OGo.to (fun _ k => XS.iloadN X0.here hx rfl (hb hby d20_0) rfl k) ?_
  refine OGo.to (fun _ k => XS.sipush X0.here hx rfl (hb hby d20_1) k) ?_
  have hc4__1 : ¬ ((255 : Int32) < p1) := hx0
  refine OGo.to (fun _ k => XS.icmpNo X0.here hx rfl (hb hby d20_4) rfl (flt hc4__1).2.2.1 k) ?_
  show OGo p e below _ (s₁.setTop (mkF m 7 #[.val (.int p1)] []))
  refine OGo.to (fun _ k => XS.iconst X0.here hx rfl (hb hby d20_7) k) ?_
  refine OGo.to (fun _ k => XS.goto X0.here hx rfl (pc0 := 8) (pc' := 12) rfl (hb hby d20_8) (by decide) (by decide) k) ?_
  refine OGo.ret (Q := Qce Z p1 h0 n0) X0 (some (.int (1 : Int32))) (fun h => by rw [Bd.returns] at h; cases h) Bd.notSynchronized (fun fs hr => retN X0 hx (t := .boolean) (z := (1 : Int32)) Bd.returns (by simp) (hb hby d20_12) hr) ?_ (by decide) (by decide)
  show Qce Z p1 h0 n0 _ s₁.heap _
  rw [e0]
  exact ⟨rfl, N0, rfl⟩
theorem d21_0 : decode jdk_43_method_46_code 0 = .ok (.iconst 1, 1) := by decide +kernel
theorem d21_1 : decode jdk_43_method_46_code 1 = .ok (.newarray .byte, 2) := by decide +kernel
theorem d21_3 : decode jdk_43_method_46_code 3 = .ok (.dup, 1) := by decide +kernel
theorem d21_4 : decode jdk_43_method_46_code 4 = .ok (.iconst 0, 1) := by decide +kernel
theorem d21_5 : decode jdk_43_method_46_code 5 = .ok (.iload_n 0, 1) := by decide +kernel
theorem d21_6 : decode jdk_43_method_46_code 6 = .ok (.i2b, 1) := by decide +kernel
theorem d21_7 : decode jdk_43_method_46_code 7 = .ok (.bastore, 1) := by decide +kernel
theorem d21_8 : decode jdk_43_method_46_code 8 = .ok (.areturn, 1) := by decide +kernel
theorem ef_tb (m : MethodId) (x0 : Int32) : entryFrame m #[(.int x0)] 1 = mkF m 0 #[.val (.int x0)] [] := by first | (simp [entryFrame, mkF, argsToLocals, Value.category]; done) | rfl
def Qtb (Z : State) (p1 : Int32) (h0 : Heap) (n0 : Nat) (v : Option Value) (h : Heap) (L : List Loc) : Prop := ∃ (b : Addr), ∃ (kb : ClassId), v = some (.ref b) ∧ Fr n0 L ∧ Keep h0 h [] ∧ n0 ≤ b ∧ h0.size ≤ b ∧ Arv Z h b kb .byte (1 : Int32) [(.int ((p1.toInt8.toInt32)).toInt8.toInt32)] (.int (0 : Int32))
set_option maxRecDepth 65536 in
set_option maxHeartbeats 40000000 in
theorem rmtb (l : Launch) (Z : State) (a0 : Array Value) (hw : ∀ d ∈ tables_1, d.before a0 Z = true) (ws : List Jvm.Cond) (p1 : Int32) (h0 : Heap) (n0 : Nat) (Z0 : n0 ≤ h0.size) :
    MetFree l (⟨"java/lang/StringLatin1", "toBytes", "(C)[B"⟩ : MethodName) (head1 (Jvm.Cond.code (⟨"java/lang/StringLatin1", "toBytes", "(C)[B"⟩ : MethodName) jdk_43_method_46_code 1 (some (.array .byte)) :: ws) ({ frames := 0, cells := 1, slots := 1, locals := 0 } : Room)) (fun a U => a = #[(.int p1)] ∧ Z.Warmed39 U.vm ∧ U.heap = h0) (fun _ _ _ _ _ => True) (fun _ U o U' => ∃ v L, o = .returned v ∧ Qtb Z p1 h0 n0 v U'.heap L ∧ FrameEnd U o U' L ({ frames := 0, cells := 1, slots := 1, locals := 0 } : Room).cells ({ frames := 0, cells := 1, slots := 1, locals := 0 } : Room).slots) := by
  refine MetFree.of_bodySF (plainFor_of_name pn_0) hisR ?_
  intro p e s m args below meth c s₁ Bd hml0 hP hK
  obtain ⟨rfl, hZ, hh⟩ := hP
  have hx := Bd.exec
  have hby := Bd.bytes
  have hml : c.maxLocals = 1 := hml0
  have hown : s.vm.findClass "java/lang/StringLatin1" = some m.cls := findClass_of_methodNamed Bd.named
  have hnm := (name_of_methodNamed Bd.named Bd.method).1
  have X0 : Stand p l e ({ frames := 0, cells := 1, slots := 1, locals := 0 } : Room) s m #[(.int p1)] below meth c s₁ [] 0 0 := Stand.of_body Bd
  have e0 : s₁.heap = h0 := by rw [← hh, Bd.state]; rfl
  have N0 := Fr.nil n0
  show OGo p e below (fun s₂ o => ∃ v L, o = .returned v ∧ Qtb Z p1 h0 n0 v s₂.heap L ∧ FrameEnd s o s₂ L ({ frames := 0, cells := 1, slots := 1, locals := 0 } : Room).cells ({ frames := 0, cells := 1, slots := 1, locals := 0 } : Room).slots) _
  refine OGo.to (fun _ k => castTop (ef_tb m p1) k) ?_
  refine OGo.to (fun _ k => XS.iconst X0.here hx rfl (hb hby d21_0) k) ?_
  obtain ⟨T_1, h_1, k_1, X_1, e_1, E_1, A_1, st_1⟩ := newP X0 hx hZ (hw _ (List.mem_of_getElem? (i := 19) rfl)) e0 (g := (mkF m 1 #[.val (.int p1)] [(.int (1 : Int32))])) rfl (hb hby d21_1) rfl (by decide) (cap := 1) (by decide) (by decide) (by decide) (by decide)
  obtain ⟨b_1, g_1⟩ : ∃ z, z = h0.size := ⟨_, rfl⟩
  rw [← g_1] at A_1 st_1
  have g_b_1 : n0 ≤ b_1 := Nat.le_trans Z0 (Nat.le_of_eq g_1.symm)
  have sz_b_1 : h0.size ≤ b_1 := Nat.le_trans (Keep.refl h0 []).1 (Nat.le_of_eq g_1.symm)
  refine OGo.to st_1 ?_
  have z_2 : n0 ≤ h_1.size := Nat.le_trans Z0 E_1.1
  have K_3 : Keep h0 h_1 [] := (Keep.refl h0 []).ext E_1
  have V_1 : Arv Z h_1 b_1 k_1 .byte (1 : Int32) [(.int (0 : Int32))] (.int (0 : Int32)) := (Arv.new A_1 (by decide)).pad (pad_rep [] (.int (0 : Int32)) 1)
  show OGo p e below _ (T_1.setTop (mkF m 3 #[.val (.int p1)] [(.ref b_1)]))
  refine OGo.to (fun _ k => XS.dup X_1.here hx rfl (hb hby d21_3) rfl rfl k) ?_
  refine OGo.to (fun _ k => XS.iconst X_1.here hx rfl (hb hby d21_4) k) ?_
  refine OGo.to (fun _ k => XS.iloadN X_1.here hx rfl (hb hby d21_5) rfl k) ?_
  refine OGo.to (fun _ k => XS.i2b X_1.here hx rfl (hb hby d21_6) rfl k) ?_
  have Vq_4 := V_1
  obtain ⟨cl_4, Ar_4, q_4, S_4, M_4, Hs_4, G_4⟩ := Vq_4
  have hin_5 : ¬ ((0 : Int32) < 0 ∨ cl_4.slots.size ≤ ((0 : Int32)).toNatClampNeg) := inb_of S_4 ⟨by decide, by decide⟩
  obtain ⟨T_5, h_5, X_5, e_5, W_5, st_5⟩ := stB X_1 hx hZ e_1 Ar_4 (j := (0 : Int32)) hin_5 (g := (mkF m 7 #[.val (.int p1)] [(.int (p1.toInt8.toInt32)), (.int (0 : Int32)), (.ref b_1), (.ref b_1)])) rfl rfl (hb hby d21_7)
  refine OGo.to st_5 ?_
  have V_5 : Arv Z h_5 b_1 k_1 .byte (1 : Int32) [(.int ((p1.toInt8.toInt32)).toInt8.toInt32)] (.int (0 : Int32)) := Arv.set Ar_4 q_4 S_4 M_4 Hs_4 G_4 (fits_nar_byte _) W_5 0 rfl (Nat.le_of_ble_eq_true rfl)
  have N_5 := Fr.snoc X_5 N0 g_b_1
  have z_6 : n0 ≤ h_5.size := Nat.le_trans z_2 (Keep.of_wr W_5).1
  have K_7 : Keep h0 h_5 [] := K_3.wr W_5 (Or.inr sz_b_1)
  show OGo p e below _ (T_5.setTop (mkF m 8 #[.val (.int p1)] [(.ref b_1)]))
  refine OGo.ret (Q := Qtb Z p1 h0 n0) X_5 (some (.ref b_1)) (fun h => by rw [Bd.returns] at h; cases h) Bd.notSynchronized (fun fs hr => own_retA X_5 hx Bd.returns rfl rfl (hb hby d21_8) hr) ?_ (by decide) (by decide)
  show Qtb Z p1 h0 n0 _ T_5.heap _
  rw [e_5]
  exact ⟨b_1, k_1, rfl, N_5, K_7, g_b_1, sz_b_1, V_5⟩
theorem d22_0 : decode jdk_42_method_151_code 0 = .ok (.aload_n 0, 1) := by decide +kernel
theorem d22_1 : decode jdk_42_method_151_code 1 = .ok (.invokespecial 1, 3) := by decide +kernel
theorem d22_4 : decode jdk_42_method_151_code 4 = .ok (.aload_n 0, 1) := by decide +kernel
theorem d22_5 : decode jdk_42_method_151_code 5 = .ok (.aload_n 1, 1) := by decide +kernel
theorem d22_6 : decode jdk_42_method_151_code 6 = .ok (.putfield 9, 3) := by decide +kernel
theorem d22_9 : decode jdk_42_method_151_code 9 = .ok (.aload_n 0, 1) := by decide +kernel
theorem d22_10 : decode jdk_42_method_151_code 10 = .ok (.iload_n 2, 1) := by decide +kernel
theorem d22_11 : decode jdk_42_method_151_code 11 = .ok (.putfield 15, 3) := by decide +kernel
theorem d22_14 : decode jdk_42_method_151_code 14 = .ok (.return_, 1) := by decide +kernel
theorem ef_sb (m : MethodId) (x0 : Addr) (x1 : Addr) (x2 : Int32) : entryFrame m #[(.ref x0), (.ref x1), (.int x2)] 3 = mkF m 0 #[.val (.ref x0), .val (.ref x1), .val (.int x2)] [] := by first | (simp [entryFrame, mkF, argsToLocals, Value.category]; done) | rfl
def Qsb (Z : State) (a1 : Addr) (a2 : Addr) (h0 : Heap) (n0 : Nat) (v : Option Value) (h : Heap) (L : List Loc) : Prop := v = none ∧ Fr n0 L ∧ Keep h0 h [a1] ∧ Fld Z h a1 "java/lang/String" "value" "[B" (.ref a2) ∧ Fld Z h a1 "java/lang/String" "coder" "B" (.int (0 : Int32))
set_option maxRecDepth 65536 in
set_option maxHeartbeats 40000000 in
theorem rmsb (l : Launch) (Z : State) (a0 : Array Value) (hw : ∀ d ∈ tables_1, d.before a0 Z = true) (ws : List Jvm.Cond) (a1 : Addr) (a2 : Addr) (h0 : Heap) (n0 : Nat) (Z0 : n0 ≤ h0.size) (E1 : Exa Z h0 a1 "java/lang/String") (F1 : Fld Z h0 a1 "java/lang/String" "value" "[B" .null) (F2 : Fld Z h0 a1 "java/lang/String" "coder" "B" (.int (0 : Int32))) (g1 : n0 ≤ a1) :
    MetFree l (⟨"java/lang/String", "<init>", "([BB)V"⟩ : MethodName) (head1 (Jvm.Cond.code (⟨"java/lang/String", "<init>", "([BB)V"⟩ : MethodName) jdk_42_method_151_code 3 none :: ws) ({ frames := 1, cells := 0, slots := 0, locals := 12 } : Room)) (fun a U => a = #[(.ref a1), (.ref a2), (.int (0 : Int32))] ∧ Z.Warmed39 U.vm ∧ U.heap = h0) (fun _ _ _ _ _ => True) (fun _ U o U' => ∃ v L, o = .returned v ∧ Qsb Z a1 a2 h0 n0 v U'.heap L ∧ FrameEnd U o U' L ({ frames := 1, cells := 0, slots := 0, locals := 12 } : Room).cells ({ frames := 1, cells := 0, slots := 0, locals := 12 } : Room).slots) := by
  refine MetFree.of_bodySF (plainFor_of_name pn_1) hisR ?_
  intro p e s m args below meth c s₁ Bd hml0 hP hK
  obtain ⟨rfl, hZ, hh⟩ := hP
  have hx := Bd.exec
  have hby := Bd.bytes
  have hml : c.maxLocals = 3 := hml0
  have hown : s.vm.findClass "java/lang/String" = some m.cls := findClass_of_methodNamed Bd.named
  have hnm := (name_of_methodNamed Bd.named Bd.method).1
  have X0 : Stand p l e ({ frames := 1, cells := 0, slots := 0, locals := 12 } : Room) s m #[(.ref a1), (.ref a2), (.int (0 : Int32))] below meth c s₁ [] 0 0 := Stand.of_body Bd
  have e0 : s₁.heap = h0 := by rw [← hh, Bd.state]; rfl
  have N0 := Fr.nil n0
  show OGo p e below (fun s₂ o => ∃ v L, o = .returned v ∧ Qsb Z a1 a2 h0 n0 v s₂.heap L ∧ FrameEnd s o s₂ L ({ frames := 1, cells := 0, slots := 0, locals := 12 } : Room).cells ({ frames := 1, cells := 0, slots := 0, locals := 12 } : Room).slots) _
  refine OGo.to (fun _ k => castTop (ef_sb m a1 a2 (0 : Int32)) k) ?_
  refine OGo.to (fun _ k => XS.aloadN X0.here hx rfl (hb hby d22_0) rfl rfl k) ?_
  obtain ⟨T_1, X_1, e_1, st_1⟩ := initO X0 hx hZ hown (hw _ (List.mem_of_getElem? (i := 15) rfl)) (hw _ (List.mem_of_getElem? (i := 16) rfl)) (hw _ (List.mem_of_getElem? (i := 17) rfl)) e0 (g := (mkF m 1 #[.val (.ref a1), .val (.ref a2), .val (.int (0 : Int32))] [(.ref a1)])) rfl (by rw [hml]; rfl) rfl (hb hby d22_1) (by decide) (W := 0) (by show 2 * 0 + _ ≤ _; exact Nat.le_of_eq rfl) (by decide)
  refine OGo.to st_1 ?_
  show OGo p e below _ (T_1.setTop (mkF m 4 #[.val (.ref a1), .val (.ref a2), .val (.int (0 : Int32))] []))
  refine OGo.to (fun _ k => XS.aloadN X_1.here hx rfl (hb hby d22_4) rfl rfl k) ?_
  refine OGo.to (fun _ k => XS.aloadN X_1.here hx rfl (hb hby d22_5) rfl rfl k) ?_
  obtain ⟨T_2, h_2, X_2, e_2, W_2, st_2⟩ := putF X_1 hx hZ hown (host := "") (Or.inl (hw _ (List.mem_of_getElem? (i := 24) rfl))) Via.refl e_1 F1 E1 (Or.inr ⟨(hw _ (List.mem_of_getElem? (i := 20) rfl)), rfl, hnm⟩) (hw _ (List.mem_of_getElem? (i := 5) rfl)) (ty := (.array .byte)) (by decide) rfl rfl (g := (mkF m 6 #[.val (.ref a1), .val (.ref a2), .val (.int (0 : Int32))] [(.ref a2), (.ref a1)])) rfl rfl (hb hby d22_6)
  refine OGo.to st_2 ?_
  have Fw_2 : Fld Z h_2 a1 "java/lang/String" "value" "[B" (.ref a2) := F1.same W_2
  have N_2 := Fr.snoc X_2 N0 g1
  have z_3 : n0 ≤ h_2.size := Nat.le_trans Z0 (Keep.of_wr W_2).1
  have K_4 : Keep h0 h_2 [a1] := (Keep.refl h0 [a1]).wr W_2 (Or.inl (List.mem_of_getElem? (i := 0) rfl))
  show OGo p e below _ (T_2.setTop (mkF m 9 #[.val (.ref a1), .val (.ref a2), .val (.int (0 : Int32))] []))
  refine OGo.to (fun _ k => XS.aloadN X_2.here hx rfl (hb hby d22_9) rfl rfl k) ?_
  refine OGo.to (fun _ k => XS.iloadN X_2.here hx rfl (hb hby d22_10) rfl k) ?_
  have f_5 : Exa Z h_2 a1 "java/lang/String" := (E1.wr W_2)
  have f_6 : Fld Z h_2 a1 "java/lang/String" "coder" "B" (.int (0 : Int32)) := (F2.other W_2 (Or.inr (slot_ne (Or.inr (hw _ (List.mem_of_getElem? (i := 21) rfl))) (Or.inr (hw _ (List.mem_of_getElem? (i := 20) rfl))) (by decide) (t := .byte) (t' := (.array .byte)) (by decide) (by decide))))
  obtain ⟨T_7, h_7, X_7, e_7, W_7, st_7⟩ := putF X_2 hx hZ hown (host := "") (Or.inl (hw _ (List.mem_of_getElem? (i := 25) rfl))) Via.refl e_2 f_6 f_5 (Or.inr ⟨(hw _ (List.mem_of_getElem? (i := 21) rfl)), rfl, hnm⟩) (hw _ (List.mem_of_getElem? (i := 5) rfl)) (ty := .byte) (by decide) rfl rfl (g := (mkF m 11 #[.val (.ref a1), .val (.ref a2), .val (.int (0 : Int32))] [(.int (0 : Int32)), (.ref a1)])) rfl rfl (hb hby d22_11)
  refine OGo.to st_7 ?_
  have Fw_7 : Fld Z h_7 a1 "java/lang/String" "coder" "B" (.int (0 : Int32)) := f_6.same W_7
  have N_7 := Fr.snoc X_7 N_2 g1
  have z_8 : n0 ≤ h_7.size := Nat.le_trans z_3 (Keep.of_wr W_7).1
  have K_9 : Keep h0 h_7 [a1] := K_4.wr W_7 (Or.inl (List.mem_of_getElem? (i := 0) rfl))
  show OGo p e below _ (T_7.setTop (mkF m 14 #[.val (.ref a1), .val (.ref a2), .val (.int (0 : Int32))] []))
  refine OGo.ret (Q := Qsb Z a1 a2 h0 n0) X_7 none (fun _ => rfl) Bd.notSynchronized (fun fs hr => X_7.returnOut hx Bd.returns (hb hby d22_14) hr) ?_ (by decide) (by decide)
  have f_10 : Fld Z h_7 a1 "java/lang/String" "value" "[B" (.ref a2) := (Fw_2.other W_7 (Or.inr (slot_ne (Or.inr (hw _ (List.mem_of_getElem? (i := 20) rfl))) (Or.inr (hw _ (List.mem_of_getElem? (i := 21) rfl))) (by decide) (t := (.array .byte)) (t' := .byte) (by decide) (by decide))))
  show Qsb Z a1 a2 h0 n0 _ T_7.heap _
  rw [e_7]
  exact ⟨rfl, N_7, K_9, f_10, Fw_7⟩
theorem d19_0 : decode jdk_42_method_139_code 0 = .ok (.getstatic 38, 3) := by decide +kernel
theorem d19_3 : decode jdk_42_method_139_code 3 = .ok (.ifCond .eq 23, 3) := by decide +kernel
theorem d19_6 : decode jdk_42_method_139_code 6 = .ok (.iload_n 0, 1) := by decide +kernel
theorem d19_7 : decode jdk_42_method_139_code 7 = .ok (.invokestatic 1015, 3) := by decide +kernel
theorem d19_10 : decode jdk_42_method_139_code 10 = .ok (.ifCond .eq 16, 3) := by decide +kernel
theorem d19_13 : decode jdk_42_method_139_code 13 = .ok (.new 10, 3) := by decide +kernel
theorem d19_16 : decode jdk_42_method_139_code 16 = .ok (.dup, 1) := by decide +kernel
theorem d19_17 : decode jdk_42_method_139_code 17 = .ok (.iload_n 0, 1) := by decide +kernel
theorem d19_18 : decode jdk_42_method_139_code 18 = .ok (.invokestatic 1018, 3) := by decide +kernel
theorem d19_21 : decode jdk_42_method_139_code 21 = .ok (.iconst 0, 1) := by decide +kernel
theorem d19_22 : decode jdk_42_method_139_code 22 = .ok (.invokespecial 209, 3) := by decide +kernel
theorem d19_25 : decode jdk_42_method_139_code 25 = .ok (.areturn, 1) := by decide +kernel
theorem ef_vo (m : MethodId) (x0 : Int32) : entryFrame m #[(.int x0)] 1 = mkF m 0 #[.val (.int x0)] [] := by first | (simp [entryFrame, mkF, argsToLocals, Value.category]; done) | rfl
def Qvo (Z : State) (p1 : Int32) (cs : Int32) (h0 : Heap) (n0 : Nat) (v : Option Value) (h : Heap) (L : List Loc) : Prop := ∃ (o : Addr), ∃ (b : Addr), ∃ (kb : ClassId), v = some (.ref o) ∧ Fr n0 L ∧ Keep h0 h [] ∧ n0 ≤ o ∧ h0.size ≤ o ∧ n0 ≤ b ∧ h0.size ≤ b ∧ Exa Z h o "java/lang/String" ∧ Fld Z h o "java/lang/String" "value" "[B" (.ref b) ∧ Fld Z h o "java/lang/String" "coder" "B" (.int (0 : Int32)) ∧ Arv Z h b kb .byte (1 : Int32) [(.int ((p1.toInt8.toInt32)).toInt8.toInt32)] (.int (0 : Int32)) ∧ (o ≠ b)
set_option maxRecDepth 65536 in
set_option maxHeartbeats 40000000 in
theorem rmvo (l : Launch) (Z : State) (a0 : Array Value) (hw : ∀ d ∈ tables_1, d.before a0 Z = true) (ws : List Jvm.Cond) (p1 : Int32) (cs : Int32) (h0 : Heap) (n0 : Nat) (Z0 : n0 ≤ h0.size) (SC : Sta Z Z.heap "java/lang/String" "COMPACT_STRINGS" "Z" (.int cs)) (O0 : Old Z n0 h0) (hcs : ¬ (cs = (0 : Int32))) (hx0 : ¬ ((255 : Int32) < p1)) :
    MetFree l (⟨"java/lang/String", "valueOf", "(C)Ljava/lang/String;"⟩ : MethodName) (head1 (Jvm.Cond.code (⟨"java/lang/String", "valueOf", "(C)Ljava/lang/String;"⟩ : MethodName) jdk_42_method_139_code 1 (some (.object "java/lang/String")) :: ws) ({ frames := 2, cells := 2, slots := 5, locals := 27 } : Room)) (fun a U => a = #[(.int p1)] ∧ Z.Warmed39 U.vm ∧ U.heap = h0) (fun _ _ _ _ _ => True) (fun _ U o U' => ∃ v L, o = .returned v ∧ Qvo Z p1 cs h0 n0 v U'.heap L ∧ FrameEnd U o U' L ({ frames := 2, cells := 2, slots := 5, locals := 27 } : Room).cells ({ frames := 2, cells := 2, slots := 5, locals := 27 } : Room).slots) := by
  refine MetFree.of_bodySF (plainFor_of_name pn_1) hisR ?_
  intro p e s m args below meth c s₁ Bd hml0 hP hK
  obtain ⟨rfl, hZ, hh⟩ := hP
  have hx := Bd.exec
  have hby := Bd.bytes
  have hml : c.maxLocals = 1 := hml0
  have hown : s.vm.findClass "java/lang/String" = some m.cls := findClass_of_methodNamed Bd.named
  have hnm := (name_of_methodNamed Bd.named Bd.method).1
  have X0 : Stand p l e ({ frames := 2, cells := 2, slots := 5, locals := 27 } : Room) s m #[(.int p1)] below meth c s₁ [] 0 0 := Stand.of_body Bd
  have e0 : s₁.heap = h0 := by rw [← hh, Bd.state]; rfl
  have N0 := Fr.nil n0
  show OGo p e below (fun s₂ o => ∃ v L, o = .returned v ∧ Qvo Z p1 cs h0 n0 v s₂.heap L ∧ FrameEnd s o s₂ L ({ frames := 2, cells := 2, slots := 5, locals := 27 } : Room).cells ({ frames := 2, cells := 2, slots := 5, locals := 27 } : Room).slots) _
  refine OGo.to (fun _ k => castTop (ef_vo m p1) k) ?_
  have f_1 : Sta Z h0 "java/lang/String" "COMPACT_STRINGS" "Z" (.int cs) := Sta.ext O0.2 SC
  obtain ⟨T_2, X_2, e_2, st_2⟩ := getS2 X0 hx hZ hown (host := "") (Or.inl (hw _ (List.mem_of_getElem? (i := 46) rfl))) Via.refl e0 f_1 (g := (mkF m 0 #[.val (.int p1)] [])) rfl (hb hby d19_0)
  refine OGo.to st_2 ?_
  show OGo p e below _ (T_2.setTop (mkF m 3 #[.val (.int p1)] [(.int cs)]))
  refine OGo.to (fun _ k => XS.ifNo X_2.here hx rfl (hb hby d19_3) rfl ((if0 _ _).trans (feq hcs).1) k) ?_
  show OGo p e below _ (T_2.setTop (mkF m 6 #[.val (.int p1)] []))
  refine OGo.to (fun _ k => XS.iloadN X_2.here hx rfl (hb hby d19_6) rfl k) ?_
  obtain ⟨_, T_4, Lc_4, X_4, hQ_4, st_4⟩ := own_un X_2 (Q := Qce Z p1 h0 n0) (rc := 0) (rs := 0) (W := fun v B => ∀ target, Steps p.tables e below (B.setTop { (mkF m 7 #[.val (.int p1)] [(.int p1)]) with pc := 10, stack := v.toList ++ [] }) target → Steps p.tables e below (T_2.setTop (mkF m 7 #[.val (.int p1)] [(.int p1)])) target) <| Jvm.LawKit.callS X_2 hx (y := (⟨"java/lang/StringLatin1", "canEncode", "(C)Z"⟩ : MethodName)) hown (mvT hZ (hw _ (List.mem_of_getElem? (i := 96) rfl))) (mvT hZ (hw _ (List.mem_of_getElem? (i := 97) rfl))) (mvT hZ (hw _ (List.mem_of_getElem? (i := 49) rfl))) (mvT hZ (hw _ (List.mem_of_getElem? (i := 98) rfl))) (by decide) (backOf (W := 0) (rmce l Z a0 hw [] p1 h0 n0 Z0 (hx0)) hZ (hw _ (List.mem_of_getElem? (i := 98) rfl)) (hw _ (List.mem_of_getElem? (i := 49) rfl)) (by decide) (by decide)) (g := (mkF m 7 #[.val (.int p1)] [(.int p1)])) rfl (by rw [hml]; rfl) (argsL := [(.int p1)]) (rest := []) (lenOf pd_0 rfl) rfl (by show 2 * 0 + _ ≤ _; exact Nat.le_of_eq rfl) (hb hby d19_7) (fun _ _ => ⟨rfl, e_2, (by decide : 0 + 0 ≤ _), (by decide : 0 + 0 ≤ _)⟩)
  obtain ⟨rfl, N_4q, e_4⟩ := hQ_4
  have N_4 := Fr.app N0 N_4q
  refine OGo.to st_4 ?_
  show OGo p e below _ (T_4.setTop (mkF m 10 #[.val (.int p1)] [(.int (1 : Int32))]))
  have hc10__5 : ¬ ((1 : Int32) = (0 : Int32)) := by decide
  refine OGo.to (fun _ k => XS.ifNo X_4.here hx rfl (hb hby d19_10) rfl ((if0 _ _).trans (feq hc10__5).1) k) ?_
  show OGo p e below _ (T_4.setTop (mkF m 13 #[.val (.int p1)] []))
  obtain ⟨T_6, h_6, X_6, e_6, E_6, A_6, D_6, -, st_6⟩ := newO X_4 hx hZ hown (hw _ (List.mem_of_getElem? (i := 76) rfl)) (hw _ (List.mem_of_getElem? (i := 5) rfl)) (hw _ (List.mem_of_getElem? (i := 6) rfl)) e_4 (g := (mkF m 13 #[.val (.int p1)] [])) rfl (hb hby d19_13) (by decide) (by decide)
  obtain ⟨b_6, g_6⟩ : ∃ z, z = h0.size := ⟨_, rfl⟩
  rw [← g_6] at A_6 D_6 st_6
  have g_b_6 : n0 ≤ b_6 := Nat.le_trans Z0 (Nat.le_of_eq g_6.symm)
  have sz_b_6 : h0.size ≤ b_6 := Nat.le_trans (Keep.refl h0 []).1 (Nat.le_of_eq g_6.symm)
  refine OGo.to st_6 ?_
  have z_7 : n0 ≤ h_6.size := Nat.le_trans Z0 E_6.1
  have O_8 : Old Z n0 h_6 := O0.ext E_6
  have K_9 : Keep h0 h_6 [] := (Keep.refl h0 []).ext E_6
  have F_value_b_6 : Fld Z h_6 b_6 "java/lang/String" "value" "[B" .null := D_6 (Or.inr (hw _ (List.mem_of_getElem? (i := 20) rfl))) (ty := (.array .byte)) (by decide)
  have F_coder_b_6 : Fld Z h_6 b_6 "java/lang/String" "coder" "B" (.int (0 : Int32)) := D_6 (Or.inr (hw _ (List.mem_of_getElem? (i := 21) rfl))) (ty := .byte) (by decide)
  show OGo p e below _ (T_6.setTop (mkF m 16 #[.val (.int p1)] [(.ref b_6)]))
  refine OGo.to (fun _ k => XS.dup X_6.here hx rfl (hb hby d19_16) rfl rfl k) ?_
  refine OGo.to (fun _ k => XS.iloadN X_6.here hx rfl (hb hby d19_17) rfl k) ?_
  obtain ⟨_, T_10, Lc_10, X_10, hQ_10, st_10⟩ := own_un X_6 (Q := Qtb Z p1 h_6 n0) (rc := 1) (rs := 1) (W := fun v B => ∀ target, Steps p.tables e below (B.setTop { (mkF m 18 #[.val (.int p1)] [(.int p1), (.ref b_6), (.ref b_6)]) with pc := 21, stack := v.toList ++ [(.ref b_6), (.ref b_6)] }) target → Steps p.tables e below (T_6.setTop (mkF m 18 #[.val (.int p1)] [(.int p1), (.ref b_6), (.ref b_6)])) target) <| Jvm.LawKit.callS X_6 hx (y := (⟨"java/lang/StringLatin1", "toBytes", "(C)[B"⟩ : MethodName)) hown (mvT hZ (hw _ (List.mem_of_getElem? (i := 99) rfl))) (mvT hZ (hw _ (List.mem_of_getElem? (i := 100) rfl))) (mvT hZ (hw _ (List.mem_of_getElem? (i := 49) rfl))) (mvT hZ (hw _ (List.mem_of_getElem? (i := 101) rfl))) (by decide) (backOf (W := 2) (rmtb l Z a0 hw [] p1 h_6 n0 z_7 ) hZ (hw _ (List.mem_of_getElem? (i := 101) rfl)) (hw _ (List.mem_of_getElem? (i := 49) rfl)) (by decide) (by decide)) (g := (mkF m 18 #[.val (.int p1)] [(.int p1), (.ref b_6), (.ref b_6)])) rfl (by rw [hml]; rfl) (argsL := [(.int p1)]) (rest := [(.ref b_6), (.ref b_6)]) (lenOf pd_1 rfl) rfl (by show 2 * 0 + _ ≤ _; exact Nat.le_of_eq rfl) (hb hby d19_18) (fun _ _ => ⟨rfl, e_6, (by decide : 1 + 1 ≤ _), (by decide : 4 + 1 ≤ _)⟩)
  obtain ⟨b__10, kb__10, rfl, N_10q, K_10, gq_b__10, sq_b__10, p_10_0⟩ := hQ_10
  have N_10 := Fr.app N_4 N_10q
  refine OGo.to st_10 ?_
  have ne_b_6_b__10 : b_6 ≠ b__10 := Nat.ne_of_lt (Nat.lt_of_lt_of_le A_6.lt sq_b__10)
  have sz_b__10 : h0.size ≤ b__10 := Nat.le_trans K_9.1 sq_b__10
  have z_11 : n0 ≤ T_10.heap.size := Nat.le_trans z_7 K_10.1
  have O_12 : Old Z n0 T_10.heap := O_8.keep K_10 all0
  have K_13 : Keep h0 T_10.heap [] := K_9.trans K_10 (by simp)
  show OGo p e below _ (T_10.setTop (mkF m 21 #[.val (.int p1)] [(.ref b__10), (.ref b_6), (.ref b_6)]))
  refine OGo.to (fun _ k => XS.iconst X_10.here hx rfl (hb hby d19_21) k) ?_
  have f_15 : Exa Z T_10.heap b_6 "java/lang/String" := (A_6.keep K_10)
  have f_16 : Fld Z T_10.heap b_6 "java/lang/String" "value" "[B" .null := (F_value_b_6.keep K_10 (List.not_mem_nil))
  have f_17 : Fld Z T_10.heap b_6 "java/lang/String" "coder" "B" (.int (0 : Int32)) := (F_coder_b_6.keep K_10 (List.not_mem_nil))
  obtain ⟨_, T_14, Lc_14, X_14, hQ_14, st_14⟩ := own_un X_10 (Q := Qsb Z b_6 b__10 T_10.heap n0) (rc := 0) (rs := 0) (W := fun v B => Steps p.tables e below (T_10.setTop (mkF m 22 #[.val (.int p1)] [(.int (0 : Int32)), (.ref b__10), (.ref b_6), (.ref b_6)])) (B.setTop { (mkF m 22 #[.val (.int p1)] [(.int (0 : Int32)), (.ref b__10), (.ref b_6), (.ref b_6)]) with pc := 25, stack := v.toList ++ [(.ref b_6)] })) <| X_10.specialBack hx (y := (⟨"java/lang/String", "<init>", "([BB)V"⟩ : MethodName)) rfl hown (mvT hZ (hw _ (List.mem_of_getElem? (i := 102) rfl))) (mvT hZ (hw _ (List.mem_of_getElem? (i := 103) rfl))) (mvT hZ (hw _ (List.mem_of_getElem? (i := 104) rfl))) (by decide) (backOf (W := 1) (rmsb l Z a0 hw [] b_6 b__10 T_10.heap n0 z_11 f_15 f_16 f_17 g_b_6) hZ (hw _ (List.mem_of_getElem? (i := 104) rfl)) (hw _ (List.mem_of_getElem? (i := 6) rfl)) (by decide) (by decide)) (g := (mkF m 22 #[.val (.int p1)] [(.int (0 : Int32)), (.ref b__10), (.ref b_6), (.ref b_6)])) rfl (by rw [hml]; rfl) (Steps.refl _) (a := b_6) (argsL := [(.ref b__10), (.int (0 : Int32))]) (rest := [(.ref b_6)]) (lenOf pd_2 rfl) rfl (by show 2 * 0 + _ ≤ _; exact Nat.le_of_eq rfl) (hb hby d19_22) (fun _ _ => ⟨rfl, (rfl : T_10.heap = T_10.heap), (by decide : 2 + 0 ≤ _), (by decide : 5 + 0 ≤ _)⟩)
  obtain ⟨rfl, N_14q, K_14, p_14_0, p_14_1⟩ := hQ_14
  have N_14 := Fr.app N_10 N_14q
  refine OGo.to (fun _ k => st_14.trans k) ?_
  have z_18 : n0 ≤ T_14.heap.size := Nat.le_trans z_11 K_14.1
  have O_19 : Old Z n0 T_14.heap := O_12.keep K_14 (allS g_b_6 all0)
  have K_20 : Keep h0 T_14.heap [] := K_13.trans K_14 (by intro x hx'; cases List.mem_singleton.mp hx'; exact (Or.inr sz_b_6))
  show OGo p e below _ (T_14.setTop (mkF m 25 #[.val (.int p1)] [(.ref b_6)]))
  refine OGo.ret (Q := Qvo Z p1 cs h0 n0) X_14 (some (.ref b_6)) (fun h => by rw [Bd.returns] at h; cases h) Bd.notSynchronized (fun fs hr => own_retA X_14 hx Bd.returns rfl rfl (hb hby d19_25) hr) ?_ (by decide) (by decide)
  have f_21 : Exa Z T_14.heap b_6 "java/lang/String" := (f_15.keep K_14)
  have f_22 : Arv Z T_14.heap b__10 kb__10 .byte (1 : Int32) [(.int ((p1.toInt8.toInt32)).toInt8.toInt32)] (.int (0 : Int32)) := (p_10_0.keep K_14 (fun q => (Ne.symm ne_b_6_b__10) (List.mem_singleton.mp q)))
  show Qvo Z p1 cs h0 n0 _ T_14.heap _
  exact ⟨b_6, b__10, kb__10, rfl, N_14, K_20, g_b_6, sz_b_6, gq_b__10, sz_b__10, f_21, p_14_0, p_14_1, f_22, ne_b_6_b__10⟩
theorem d17_0 : decode jdk_52_method_21_code 0 = .ok (.iconst 0, 1) := by decide +kernel
theorem d17_1 : decode jdk_52_method_21_code 1 = .ok (.istore 5, 2) := by decide +kernel
theorem d17_3 : decode jdk_52_method_21_code 3 = .ok (.iload 5, 2) := by decide +kernel
theorem d17_5 : decode jdk_52_method_21_code 5 = .ok (.iload 4, 2) := by decide +kernel
theorem d17_7 : decode jdk_52_method_21_code 7 = .ok (.if_icmp .ge 37, 3) := by decide +kernel
theorem d17_10 : decode jdk_52_method_21_code 10 = .ok (.aload_n 0, 1) := by decide +kernel
theorem d17_11 : decode jdk_52_method_21_code 11 = .ok (.iload_n 1, 1) := by decide +kernel
theorem d17_12 : decode jdk_52_method_21_code 12 = .ok (.caload, 1) := by decide +kernel
theorem d17_13 : decode jdk_52_method_21_code 13 = .ok (.istore 6, 2) := by decide +kernel
theorem d17_15 : decode jdk_52_method_21_code 15 = .ok (.iload 6, 2) := by decide +kernel
theorem d17_17 : decode jdk_52_method_21_code 17 = .ok (.sipush 255, 3) := by decide +kernel
theorem d17_20 : decode jdk_52_method_21_code 20 = .ok (.if_icmp .le 6, 3) := by decide +kernel
theorem d17_26 : decode jdk_52_method_21_code 26 = .ok (.aload_n 2, 1) := by decide +kernel
theorem d17_27 : decode jdk_52_method_21_code 27 = .ok (.iload_n 3, 1) := by decide +kernel
theorem d17_28 : decode jdk_52_method_21_code 28 = .ok (.iload 6, 2) := by decide +kernel
theorem d17_30 : decode jdk_52_method_21_code 30 = .ok (.i2b, 1) := by decide +kernel
theorem d17_31 : decode jdk_52_method_21_code 31 = .ok (.bastore, 1) := by decide +kernel
theorem d17_32 : decode jdk_52_method_21_code 32 = .ok (.iinc 1 1, 3) := by decide +kernel
theorem d17_35 : decode jdk_52_method_21_code 35 = .ok (.iinc 3 1, 3) := by decide +kernel
theorem d17_38 : decode jdk_52_method_21_code 38 = .ok (.iinc 5 1, 3) := by decide +kernel
theorem d17_41 : decode jdk_52_method_21_code 41 = .ok (.goto (-38), 3) := by decide +kernel
theorem d17_44 : decode jdk_52_method_21_code 44 = .ok (.iload 4, 2) := by decide +kernel
theorem d17_46 : decode jdk_52_method_21_code 46 = .ok (.ireturn, 1) := by decide +kernel
theorem ef_cp2 (m : MethodId) (x0 : Addr) (x1 : Int32) (x2 : Addr) (x3 : Int32) (x4 : Int32) : entryFrame m #[(.ref x0), (.int x1), (.ref x2), (.int x3), (.int x4)] 7 = mkF m 0 #[.val (.ref x0), .val (.int x1), .val (.ref x2), .val (.int x3), .val (.int x4), .unset, .unset] [] := by first | (simp [entryFrame, mkF, argsToLocals, Value.category]; done) | rfl
def Qcp2 (Z : State) (a1 : Addr) (a2 : Addr) (kc : ClassId) (x0 : Int32) (x1 : Int32) (kb : ClassId) (h0 : Heap) (n0 : Nat) (v : Option Value) (h : Heap) (L : List Loc) : Prop := v = some (.int (2 : Int32)) ∧ Fr n0 L ∧ Keep h0 h [a2] ∧ Arv Z h a2 kb .byte (2 : Int32) [(.int ((x0.toInt8.toInt32)).toInt8.toInt32), (.int ((x1.toInt8.toInt32)).toInt8.toInt32)] (.int (0 : Int32))
set_option maxRecDepth 65536 in
set_option maxHeartbeats 40000000 in
theorem rmcp2 (l : Launch) (Z : State) (a0 : Array Value) (hw : ∀ d ∈ tables_1, d.before a0 Z = true) (ws : List Jvm.Cond) (a1 : Addr) (a2 : Addr) (kc : ClassId) (x0 : Int32) (x1 : Int32) (kb : ClassId) (h0 : Heap) (n0 : Nat) (Z0 : n0 ≤ h0.size) (VA : Arv Z h0 a1 kc .char (2 : Int32) [(.int x0), (.int x1)] (.int (0 : Int32))) (VB : Arv Z h0 a2 kb .byte (2 : Int32) [(.int (0 : Int32)), (.int (0 : Int32))] (.int (0 : Int32))) (nab : a1 ≠ a2) (g2 : n0 ≤ a2) (hx0 : ¬ ((255 : Int32) < x0)) (hx1 : ¬ ((255 : Int32) < x1)) :
    MetFree l (⟨"java/lang/StringUTF16", "compress", "([CI[BII)I"⟩ : MethodName) (head1 (Jvm.Cond.code (⟨"java/lang/StringUTF16", "compress", "([CI[BII)I"⟩ : MethodName) jdk_52_method_21_code 7 (some .int) :: ws) ({ frames := 0, cells := 0, slots := 0, locals := 0 } : Room)) (fun a U => a = #[(.ref a1), (.int (0 : Int32)), (.ref a2), (.int (0 : Int32)), (.int (2 : Int32))] ∧ Z.Warmed39 U.vm ∧ U.heap = h0) (fun _ _ _ _ _ => True) (fun _ U o U' => ∃ v L, o = .returned v ∧ Qcp2 Z a1 a2 kc x0 x1 kb h0 n0 v U'.heap L ∧ FrameEnd U o U' L ({ frames := 0, cells := 0, slots := 0, locals := 0 } : Room).cells ({ frames := 0, cells := 0, slots := 0, locals := 0 } : Room).slots) := by
  refine MetFree.of_bodySF (plainFor_of_name pn_2) hisR ?_
  intro p e s m args below meth c s₁ Bd hml0 hP hK
  obtain ⟨rfl, hZ, hh⟩ := hP
  have hx := Bd.exec
  have hby := Bd.bytes
  have hml : c.maxLocals = 7 := hml0
  have hown : s.vm.findClass "java/lang/StringUTF16" = some m.cls := findClass_of_methodNamed Bd.named
  have hnm := (name_of_methodNamed Bd.named Bd.method).1
  have X0 : Stand p l e ({ frames := 0, cells := 0, slots := 0, locals := 0 } : Room) s m #[(.ref a1), (.int (0 : Int32)), (.ref a2), (.int (0 : Int32)), (.int (2 : Int32))] below meth c s₁ [] 0 0 := Stand.of_body Bd
  have e0 : s₁.heap = h0 := by rw [← hh, Bd.state]; rfl
  have N0 := Fr.nil n0
  show OGo p e below (fun s₂ o => ∃ v L, o = .returned v ∧ Qcp2 Z a1 a2 kc x0 x1 kb h0 n0 v s₂.heap L ∧ FrameEnd s o s₂ L ({ frames := 0, cells := 0, slots := 0, locals := 0 } : Room).cells ({ frames := 0, cells := 0, slots := 0, locals := 0 } : Room).slots) _
  refine OGo.to (fun _ k => castTop (ef_cp2 m a1 (0 : Int32) a2 (0 : Int32) (2 : Int32)) k) ?_
  refine OGo.to (fun _ k => XS.iconst X0.here hx rfl (hb hby d17_0) k) ?_
  refine OGo.to (fun _ k => XS.istore X0.here hx rfl (hb hby d17_1) rfl (l' := #[.val (.ref a1), .val (.int (0 : Int32)), .val (.ref a2), .val (.int (0 : Int32)), .val (.int (2 : Int32)), .val (.int (0 : Int32)), .unset]) rfl k) ?_
  refine OGo.to (fun _ k => XS.iload X0.here hx rfl (hb hby d17_3) rfl k) ?_
  refine OGo.to (fun _ k => XS.iload X0.here hx rfl (hb hby d17_5) rfl k) ?_
  have hc7__1 : (0 : Int32) < (2 : Int32) := by decide
  refine OGo.to (fun _ k => XS.icmpNo X0.here hx rfl (hb hby d17_7) rfl (tlt hc7__1).2.1 k) ?_
  show OGo p e below _ (s₁.setTop (mkF m 10 #[.val (.ref a1), .val (.int (0 : Int32)), .val (.ref a2), .val (.int (0 : Int32)), .val (.int (2 : Int32)), .val (.int (0 : Int32)), .unset] []))
  refine OGo.to (fun _ k => XS.aloadN X0.here hx rfl (hb hby d17_10) rfl rfl k) ?_
  refine OGo.to (fun _ k => XS.iloadN X0.here hx rfl (hb hby d17_11) rfl k) ?_
  have Vq_2 := VA
  obtain ⟨cl_2, Ar_2, q_2, S_2, M_2, Hs_2, G_2⟩ := Vq_2
  have hin_3 : ¬ ((0 : Int32) < 0 ∨ cl_2.slots.size ≤ ((0 : Int32)).toNatClampNeg) := inb_of S_2 ⟨by decide, by decide⟩
  have hat_3 : cl_2.slots[((0 : Int32)).toNatClampNeg]? = some (.int x0) := Hs_2.at hin_3 (rfl)
  refine OGo.to (fun _ k => X0.caload hx (j := (0 : Int32)) (v := (.int x0)) (by rw [e0]; exact Ar_2.1) (State.isArrayOf_alike hZ.alike Ar_2.2.1) Ar_2.2.2 hin_3 hat_3 (g := (mkF m 12 #[.val (.ref a1), .val (.int (0 : Int32)), .val (.ref a2), .val (.int (0 : Int32)), .val (.int (2 : Int32)), .val (.int (0 : Int32)), .unset] [(.int (0 : Int32)), (.ref a1)])) rfl rfl (hb hby d17_12) _ k) ?_
  show OGo p e below _ (s₁.setTop (mkF m 13 #[.val (.ref a1), .val (.int (0 : Int32)), .val (.ref a2), .val (.int (0 : Int32)), .val (.int (2 : Int32)), .val (.int (0 : Int32)), .unset] [(.int x0)]))
  refine OGo.to (fun _ k => XS.istore X0.here hx rfl (hb hby d17_13) rfl (l' := #[.val (.ref a1), .val (.int (0 : Int32)), .val (.ref a2), .val (.int (0 : Int32)), .val (.int (2 : Int32)), .val (.int (0 : Int32)), .val (.int x0)]) rfl k) ?_
  refine OGo.to (fun _ k => XS.iload X0.here hx rfl (hb hby d17_15) rfl k) ?_
  refine OGo.to (fun _ k => XS.sipush X0.here hx rfl (hb hby d17_17) k) ?_
  have hc20__4 : ¬ ((255 : Int32) < x0) := hx0
  refine OGo.to (fun _ k => XS.icmpYes X0.here hx rfl (pc0 := 20) (pc' := 26) rfl (hb hby d17_20) rfl (flt hc20__4).2.2.2 (by decide) (by decide) k) ?_
  show OGo p e below _ (s₁.setTop (mkF m 26 #[.val (.ref a1), .val (.int (0 : Int32)), .val (.ref a2), .val (.int (0 : Int32)), .val (.int (2 : Int32)), .val (.int (0 : Int32)), .val (.int x0)] []))
  refine OGo.to (fun _ k => XS.aloadN X0.here hx rfl (hb hby d17_26) rfl rfl k) ?_
  refine OGo.to (fun _ k => XS.iloadN X0.here hx rfl (hb hby d17_27) rfl k) ?_
  refine OGo.to (fun _ k => XS.iload X0.here hx rfl (hb hby d17_28) rfl k) ?_
  refine OGo.to (fun _ k => XS.i2b X0.here hx rfl (hb hby d17_30) rfl k) ?_
  have Vq_5 := VB
  obtain ⟨cl_5, Ar_5, q_5, S_5, M_5, Hs_5, G_5⟩ := Vq_5
  have hin_6 : ¬ ((0 : Int32) < 0 ∨ cl_5.slots.size ≤ ((0 : Int32)).toNatClampNeg) := inb_of S_5 ⟨by decide, by decide⟩
  obtain ⟨T_6, h_6, X_6, e_6, W_6, st_6⟩ := stB X0 hx hZ e0 Ar_5 (j := (0 : Int32)) hin_6 (g := (mkF m 31 #[.val (.ref a1), .val (.int (0 : Int32)), .val (.ref a2), .val (.int (0 : Int32)), .val (.int (2 : Int32)), .val (.int (0 : Int32)), .val (.int x0)] [(.int (x0.toInt8.toInt32)), (.int (0 : Int32)), (.ref a2)])) rfl rfl (hb hby d17_31)
  refine OGo.to st_6 ?_
  have V_6 : Arv Z h_6 a2 kb .byte (2 : Int32) [(.int ((x0.toInt8.toInt32)).toInt8.toInt32), (.int (0 : Int32))] (.int (0 : Int32)) := Arv.set Ar_5 q_5 S_5 M_5 Hs_5 G_5 (fits_nar_byte _) W_6 0 rfl (Nat.le_of_ble_eq_true rfl)
  have N_6 := Fr.snoc X_6 N0 g2
  have z_7 : n0 ≤ h_6.size := Nat.le_trans Z0 (Keep.of_wr W_6).1
  have K_8 : Keep h0 h_6 [a2] := (Keep.refl h0 [a2]).wr W_6 (Or.inl (List.mem_of_getElem? (i := 0) rfl))
  show OGo p e below _ (T_6.setTop (mkF m 32 #[.val (.ref a1), .val (.int (0 : Int32)), .val (.ref a2), .val (.int (0 : Int32)), .val (.int (2 : Int32)), .val (.int (0 : Int32)), .val (.int x0)] []))
  refine OGo.to (fun _ k => XS.iinc X_6.here hx rfl (hb hby d17_32) rfl (l' := #[.val (.ref a1), .val (.int (1 : Int32)), .val (.ref a2), .val (.int (0 : Int32)), .val (.int (2 : Int32)), .val (.int (0 : Int32)), .val (.int x0)]) rfl k) ?_
  refine OGo.to (fun _ k => XS.iinc X_6.here hx rfl (hb hby d17_35) rfl (l' := #[.val (.ref a1), .val (.int (1 : Int32)), .val (.ref a2), .val (.int (1 : Int32)), .val (.int (2 : Int32)), .val (.int (0 : Int32)), .val (.int x0)]) rfl k) ?_
  show OGo p e below _ (T_6.setTop (mkF m 38 #[.val (.ref a1), .val (.int (1 : Int32)), .val (.ref a2), .val (.int (1 : Int32)), .val (.int (2 : Int32)), .val (.int (0 : Int32)), .val (.int x0)] []))
  refine OGo.to (fun _ k => XS.iinc X_6.here hx rfl (hb hby d17_38) rfl (l' := #[.val (.ref a1), .val (.int (1 : Int32)), .val (.ref a2), .val (.int (1 : Int32)), .val (.int (2 : Int32)), .val (.int (1 : Int32)), .val (.int x0)]) rfl k) ?_
  refine OGo.to (fun _ k => XS.goto X_6.here hx rfl (pc0 := 41) (pc' := 3) rfl (hb hby d17_41) (by decide) (by decide) k) ?_
  refine OGo.to (fun _ k => XS.iload X_6.here hx rfl (hb hby d17_3) rfl k) ?_
  refine OGo.to (fun _ k => XS.iload X_6.here hx rfl (hb hby d17_5) rfl k) ?_
  have hc7__9 : (1 : Int32) < (2 : Int32) := by decide
  refine OGo.to (fun _ k => XS.icmpNo X_6.here hx rfl (hb hby d17_7) rfl (tlt hc7__9).2.1 k) ?_
  show OGo p e below _ (T_6.setTop (mkF m 10 #[.val (.ref a1), .val (.int (1 : Int32)), .val (.ref a2), .val (.int (1 : Int32)), .val (.int (2 : Int32)), .val (.int (1 : Int32)), .val (.int x0)] []))
  refine OGo.to (fun _ k => XS.aloadN X_6.here hx rfl (hb hby d17_10) rfl rfl k) ?_
  refine OGo.to (fun _ k => XS.iloadN X_6.here hx rfl (hb hby d17_11) rfl k) ?_
  have f_10 : Arv Z h_6 a1 kc .char (2 : Int32) [(.int x0), (.int x1)] (.int (0 : Int32)) := (VA.other W_6 nab)
  have Vq_11 := f_10
  obtain ⟨cl_11, Ar_11, q_11, S_11, M_11, Hs_11, G_11⟩ := Vq_11
  have hin_12 : ¬ ((1 : Int32) < 0 ∨ cl_11.slots.size ≤ ((1 : Int32)).toNatClampNeg) := inb_of S_11 ⟨by decide, by decide⟩
  have hat_12 : cl_11.slots[((1 : Int32)).toNatClampNeg]? = some (.int x1) := Hs_11.at hin_12 (rfl)
  refine OGo.to (fun _ k => X_6.caload hx (j := (1 : Int32)) (v := (.int x1)) (by rw [e_6]; exact Ar_11.1) (State.isArrayOf_alike hZ.alike Ar_11.2.1) Ar_11.2.2 hin_12 hat_12 (g := (mkF m 12 #[.val (.ref a1), .val (.int (1 : Int32)), .val (.ref a2), .val (.int (1 : Int32)), .val (.int (2 : Int32)), .val (.int (1 : Int32)), .val (.int x0)] [(.int (1 : Int32)), (.ref a1)])) rfl rfl (hb hby d17_12) _ k) ?_
  show OGo p e below _ (T_6.setTop (mkF m 13 #[.val (.ref a1), .val (.int (1 : Int32)), .val (.ref a2), .val (.int (1 : Int32)), .val (.int (2 : Int32)), .val (.int (1 : Int32)), .val (.int x0)] [(.int x1)]))
  refine OGo.to (fun _ k => XS.istore X_6.here hx rfl (hb hby d17_13) rfl (l' := #[.val (.ref a1), .val (.int (1 : Int32)), .val (.ref a2), .val (.int (1 : Int32)), .val (.int (2 : Int32)), .val (.int (1 : Int32)), .val (.int x1)]) rfl k) ?_
  refine OGo.to (fun _ k => XS.iload X_6.here hx rfl (hb hby d17_15) rfl k) ?_
  refine OGo.to (fun _ k => XS.sipush X_6.here hx rfl (hb hby d17_17) k) ?_
  have hc20__13 : ¬ ((255 : Int32) < x1) := hx1
  refine OGo.to (fun _ k => XS.icmpYes X_6.here hx rfl (pc0 := 20) (pc' := 26) rfl (hb hby d17_20) rfl (flt hc20__13).2.2.2 (by decide) (by decide) k) ?_
  show OGo p e below _ (T_6.setTop (mkF m 26 #[.val (.ref a1), .val (.int (1 : Int32)), .val (.ref a2), .val (.int (1 : Int32)), .val (.int (2 : Int32)), .val (.int (1 : Int32)), .val (.int x1)] []))
  refine OGo.to (fun _ k => XS.aloadN X_6.here hx rfl (hb hby d17_26) rfl rfl k) ?_
  refine OGo.to (fun _ k => XS.iloadN X_6.here hx rfl (hb hby d17_27) rfl k) ?_
  refine OGo.to (fun _ k => XS.iload X_6.here hx rfl (hb hby d17_28) rfl k) ?_
  refine OGo.to (fun _ k => XS.i2b X_6.here hx rfl (hb hby d17_30) rfl k) ?_
  have Vq_14 := V_6
  obtain ⟨cl_14, Ar_14, q_14, S_14, M_14, Hs_14, G_14⟩ := Vq_14
  have hin_15 : ¬ ((1 : Int32) < 0 ∨ cl_14.slots.size ≤ ((1 : Int32)).toNatClampNeg) := inb_of S_14 ⟨by decide, by decide⟩
  obtain ⟨T_15, h_15, X_15, e_15, W_15, st_15⟩ := stB X_6 hx hZ e_6 Ar_14 (j := (1 : Int32)) hin_15 (g := (mkF m 31 #[.val (.ref a1), .val (.int (1 : Int32)), .val (.ref a2), .val (.int (1 : Int32)), .val (.int (2 : Int32)), .val (.int (1 : Int32)), .val (.int x1)] [(.int (x1.toInt8.toInt32)), (.int (1 : Int32)), (.ref a2)])) rfl rfl (hb hby d17_31)
  refine OGo.to st_15 ?_
  have V_15 : Arv Z h_15 a2 kb .byte (2 : Int32) [(.int ((x0.toInt8.toInt32)).toInt8.toInt32), (.int ((x1.toInt8.toInt32)).toInt8.toInt32)] (.int (0 : Int32)) := Arv.set Ar_14 q_14 S_14 M_14 Hs_14 G_14 (fits_nar_byte _) W_15 1 rfl (Nat.le_of_ble_eq_true rfl)
  have N_15 := Fr.snoc X_15 N_6 g2
  have z_16 : n0 ≤ h_15.size := Nat.le_trans z_7 (Keep.of_wr W_15).1
  have K_17 : Keep h0 h_15 [a2] := K_8.wr W_15 (Or.inl (List.mem_of_getElem? (i := 0) rfl))
  show OGo p e below _ (T_15.setTop (mkF m 32 #[.val (.ref a1), .val (.int (1 : Int32)), .val (.ref a2), .val (.int (1 : Int32)), .val (.int (2 : Int32)), .val (.int (1 : Int32)), .val (.int x1)] []))
  refine OGo.to (fun _ k => XS.iinc X_15.here hx rfl (hb hby d17_32) rfl (l' := #[.val (.ref a1), .val (.int (2 : Int32)), .val (.ref a2), .val (.int (1 : Int32)), .val (.int (2 : Int32)), .val (.int (1 : Int32)), .val (.int x1)]) rfl k) ?_
  refine OGo.to (fun _ k => XS.iinc X_15.here hx rfl (hb hby d17_35) rfl (l' := #[.val (.ref a1), .val (.int (2 : Int32)), .val (.ref a2), .val (.int (2 : Int32)), .val (.int (2 : Int32)), .val (.int (1 : Int32)), .val (.int x1)]) rfl k) ?_
  show OGo p e below _ (T_15.setTop (mkF m 38 #[.val (.ref a1), .val (.int (2 : Int32)), .val (.ref a2), .val (.int (2 : Int32)), .val (.int (2 : Int32)), .val (.int (1 : Int32)), .val (.int x1)] []))
  refine OGo.to (fun _ k => XS.iinc X_15.here hx rfl (hb hby d17_38) rfl (l' := #[.val (.ref a1), .val (.int (2 : Int32)), .val (.ref a2), .val (.int (2 : Int32)), .val (.int (2 : Int32)), .val (.int (2 : Int32)), .val (.int x1)]) rfl k) ?_
  refine OGo.to (fun _ k => XS.goto X_15.here hx rfl (pc0 := 41) (pc' := 3) rfl (hb hby d17_41) (by decide) (by decide) k) ?_
  refine OGo.to (fun _ k => XS.iload X_15.here hx rfl (hb hby d17_3) rfl k) ?_
  refine OGo.to (fun _ k => XS.iload X_15.here hx rfl (hb hby d17_5) rfl k) ?_
  have hc7__18 : ¬ ((2 : Int32) < (2 : Int32)) := by decide
  refine OGo.to (fun _ k => XS.icmpYes X_15.here hx rfl (pc0 := 7) (pc' := 44) rfl (hb hby d17_7) rfl (flt hc7__18).2.1 (by decide) (by decide) k) ?_
  show OGo p e below _ (T_15.setTop (mkF m 44 #[.val (.ref a1), .val (.int (2 : Int32)), .val (.ref a2), .val (.int (2 : Int32)), .val (.int (2 : Int32)), .val (.int (2 : Int32)), .val (.int x1)] []))
  refine OGo.to (fun _ k => XS.iload X_15.here hx rfl (hb hby d17_44) rfl k) ?_
  refine OGo.ret (Q := Qcp2 Z a1 a2 kc x0 x1 kb h0 n0) X_15 (some (.int (2 : Int32))) (fun h => by rw [Bd.returns] at h; cases h) Bd.notSynchronized (fun fs hr => retI X_15 hx Bd.returns (hb hby d17_46) hr) ?_ (by decide) (by decide)
  show Qcp2 Z a1 a2 kc x0 x1 kb h0 n0 _ T_15.heap _
  rw [e_15]
  exact ⟨rfl, N_15, K_17, V_15⟩
theorem d16_0 : decode jdk_52_method_16_code 0 = .ok (.iload_n 2, 1) := by decide +kernel
theorem d16_1 : decode jdk_52_method_16_code 1 = .ok (.newarray .byte, 2) := by decide +kernel
theorem d16_3 : decode jdk_52_method_16_code 3 = .ok (.astore_n 3, 1) := by decide +kernel
theorem d16_4 : decode jdk_52_method_16_code 4 = .ok (.aload_n 0, 1) := by decide +kernel
theorem d16_5 : decode jdk_52_method_16_code 5 = .ok (.iload_n 1, 1) := by decide +kernel
theorem d16_6 : decode jdk_52_method_16_code 6 = .ok (.aload_n 3, 1) := by decide +kernel
theorem d16_7 : decode jdk_52_method_16_code 7 = .ok (.iconst 0, 1) := by decide +kernel
theorem d16_8 : decode jdk_52_method_16_code 8 = .ok (.iload_n 2, 1) := by decide +kernel
theorem d16_9 : decode jdk_52_method_16_code 9 = .ok (.invokestatic 115, 3) := by decide +kernel
theorem d16_12 : decode jdk_52_method_16_code 12 = .ok (.istore 4, 2) := by decide +kernel
theorem d16_14 : decode jdk_52_method_16_code 14 = .ok (.iload 4, 2) := by decide +kernel
theorem d16_16 : decode jdk_52_method_16_code 16 = .ok (.iload_n 2, 1) := by decide +kernel
theorem d16_17 : decode jdk_52_method_16_code 17 = .ok (.if_icmp .eq 40, 3) := by decide +kernel
theorem d16_57 : decode jdk_52_method_16_code 57 = .ok (.aload_n 3, 1) := by decide +kernel
theorem d16_58 : decode jdk_52_method_16_code 58 = .ok (.areturn, 1) := by decide +kernel
theorem ef_cq2 (m : MethodId) (x0 : Addr) (x1 : Int32) (x2 : Int32) : entryFrame m #[(.ref x0), (.int x1), (.int x2)] 6 = mkF m 0 #[.val (.ref x0), .val (.int x1), .val (.int x2), .unset, .unset, .unset] [] := by first | (simp [entryFrame, mkF, argsToLocals, Value.category]; done) | rfl
def Qcq2 (Z : State) (a1 : Addr) (kc : ClassId) (x0 : Int32) (x1 : Int32) (h0 : Heap) (n0 : Nat) (v : Option Value) (h : Heap) (L : List Loc) : Prop := ∃ (b : Addr), ∃ (kb : ClassId), v = some (.ref b) ∧ Fr n0 L ∧ Keep h0 h [] ∧ n0 ≤ b ∧ h0.size ≤ b ∧ Arv Z h b kb .byte (2 : Int32) [(.int ((x0.toInt8.toInt32)).toInt8.toInt32), (.int ((x1.toInt8.toInt32)).toInt8.toInt32)] (.int (0 : Int32))
set_option maxRecDepth 65536 in
set_option maxHeartbeats 40000000 in
theorem rmcq2 (l : Launch) (Z : State) (a0 : Array Value) (hw : ∀ d ∈ tables_1, d.before a0 Z = true) (ws : List Jvm.Cond) (a1 : Addr) (kc : ClassId) (x0 : Int32) (x1 : Int32) (h0 : Heap) (n0 : Nat) (Z0 : n0 ≤ h0.size) (VA : Arv Z h0 a1 kc .char (2 : Int32) [(.int x0), (.int x1)] (.int (0 : Int32))) (hx0 : ¬ ((255 : Int32) < x0)) (hx1 : ¬ ((255 : Int32) < x1)) :
    MetFree l (⟨"java/lang/StringUTF16", "compress", "([CII)[B"⟩ : MethodName) (head1 (Jvm.Cond.code (⟨"java/lang/StringUTF16", "compress", "([CII)[B"⟩ : MethodName) jdk_52_method_16_code 6 (some (.array .byte)) :: ws) ({ frames := 1, cells := 1, slots := 2, locals := 18 } : Room)) (fun a U => a = #[(.ref a1), (.int (0 : Int32)), (.int (2 : Int32))] ∧ Z.Warmed39 U.vm ∧ U.heap = h0) (fun _ _ _ _ _ => True) (fun _ U o U' => ∃ v L, o = .returned v ∧ Qcq2 Z a1 kc x0 x1 h0 n0 v U'.heap L ∧ FrameEnd U o U' L ({ frames := 1, cells := 1, slots := 2, locals := 18 } : Room).cells ({ frames := 1, cells := 1, slots := 2, locals := 18 } : Room).slots) := by
  refine MetFree.of_bodySF (plainFor_of_name pn_2) hisR ?_
  intro p e s m args below meth c s₁ Bd hml0 hP hK
  obtain ⟨rfl, hZ, hh⟩ := hP
  have hx := Bd.exec
  have hby := Bd.bytes
  have hml : c.maxLocals = 6 := hml0
  have hown : s.vm.findClass "java/lang/StringUTF16" = some m.cls := findClass_of_methodNamed Bd.named
  have hnm := (name_of_methodNamed Bd.named Bd.method).1
  have X0 : Stand p l e ({ frames := 1, cells := 1, slots := 2, locals := 18 } : Room) s m #[(.ref a1), (.int (0 : Int32)), (.int (2 : Int32))] below meth c s₁ [] 0 0 := Stand.of_body Bd
  have e0 : s₁.heap = h0 := by rw [← hh, Bd.state]; rfl
  have N0 := Fr.nil n0
  show OGo p e below (fun s₂ o => ∃ v L, o = .returned v ∧ Qcq2 Z a1 kc x0 x1 h0 n0 v s₂.heap L ∧ FrameEnd s o s₂ L ({ frames := 1, cells := 1, slots := 2, locals := 18 } : Room).cells ({ frames := 1, cells := 1, slots := 2, locals := 18 } : Room).slots) _
  refine OGo.to (fun _ k => castTop (ef_cq2 m a1 (0 : Int32) (2 : Int32)) k) ?_
  refine OGo.to (fun _ k => XS.iloadN X0.here hx rfl (hb hby d16_0) rfl k) ?_
  obtain ⟨T_1, h_1, k_1, X_1, e_1, E_1, A_1, st_1⟩ := newP X0 hx hZ (hw _ (List.mem_of_getElem? (i := 19) rfl)) e0 (g := (mkF m 1 #[.val (.ref a1), .val (.int (0 : Int32)), .val (.int (2 : Int32)), .unset, .unset, .unset] [(.int (2 : Int32))])) rfl (hb hby d16_1) rfl (by decide) (cap := 2) (by decide) (by decide) (by decide) (by decide)
  obtain ⟨b_1, g_1⟩ : ∃ z, z = h0.size := ⟨_, rfl⟩
  rw [← g_1] at A_1 st_1
  have g_b_1 : n0 ≤ b_1 := Nat.le_trans Z0 (Nat.le_of_eq g_1.symm)
  have sz_b_1 : h0.size ≤ b_1 := Nat.le_trans (Keep.refl h0 []).1 (Nat.le_of_eq g_1.symm)
  refine OGo.to st_1 ?_
  have ne_a1_b_1 : a1 ≠ b_1 := Nat.ne_of_lt (Nat.lt_of_lt_of_le VA.lt (Nat.le_of_eq g_1.symm))
  have z_2 : n0 ≤ h_1.size := Nat.le_trans Z0 E_1.1
  have K_3 : Keep h0 h_1 [] := (Keep.refl h0 []).ext E_1
  have V_1 : Arv Z h_1 b_1 k_1 .byte (2 : Int32) [(.int (0 : Int32)), (.int (0 : Int32))] (.int (0 : Int32)) := (Arv.new A_1 (by decide)).pad (pad_rep [] (.int (0 : Int32)) 2)
  show OGo p e below _ (T_1.setTop (mkF m 3 #[.val (.ref a1), .val (.int (0 : Int32)), .val (.int (2 : Int32)), .unset, .unset, .unset] [(.ref b_1)]))
  refine OGo.to (fun _ k => XS.astoreN X_1.here hx rfl (hb hby d16_3) rfl rfl (l' := #[.val (.ref a1), .val (.int (0 : Int32)), .val (.int (2 : Int32)), .val (.ref b_1), .unset, .unset]) rfl k) ?_
  refine OGo.to (fun _ k => XS.aloadN X_1.here hx rfl (hb hby d16_4) rfl rfl k) ?_
  refine OGo.to (fun _ k => XS.iloadN X_1.here hx rfl (hb hby d16_5) rfl k) ?_
  refine OGo.to (fun _ k => XS.aloadN X_1.here hx rfl (hb hby d16_6) rfl rfl k) ?_
  refine OGo.to (fun _ k => XS.iconst X_1.here hx rfl (hb hby d16_7) k) ?_
  refine OGo.to (fun _ k => XS.iloadN X_1.here hx rfl (hb hby d16_8) rfl k) ?_
  have f_5 : Arv Z h_1 a1 kc .char (2 : Int32) [(.int x0), (.int x1)] (.int (0 : Int32)) := (VA.ext E_1)
  obtain ⟨_, T_4, Lc_4, X_4, hQ_4, st_4⟩ := own_un X_1 (Q := Qcp2 Z a1 b_1 kc x0 x1 k_1 h_1 n0) (rc := 0) (rs := 0) (W := fun v B => ∀ target, Steps p.tables e below (B.setTop { (mkF m 9 #[.val (.ref a1), .val (.int (0 : Int32)), .val (.int (2 : Int32)), .val (.ref b_1), .unset, .unset] [(.int (2 : Int32)), (.int (0 : Int32)), (.ref b_1), (.int (0 : Int32)), (.ref a1)]) with pc := 12, stack := v.toList ++ [] }) target → Steps p.tables e below (T_1.setTop (mkF m 9 #[.val (.ref a1), .val (.int (0 : Int32)), .val (.int (2 : Int32)), .val (.ref b_1), .unset, .unset] [(.int (2 : Int32)), (.int (0 : Int32)), (.ref b_1), (.int (0 : Int32)), (.ref a1)])) target) <| Jvm.LawKit.callS X_1 hx (y := (⟨"java/lang/StringUTF16", "compress", "([CI[BII)I"⟩ : MethodName)) hown (mvT hZ (hw _ (List.mem_of_getElem? (i := 87) rfl))) (mvT hZ (hw _ (List.mem_of_getElem? (i := 88) rfl))) (mvT hZ (hw _ (List.mem_of_getElem? (i := 85) rfl))) (mvT hZ (hw _ (List.mem_of_getElem? (i := 89) rfl))) (by decide) (backOf (W := 0) (rmcp2 l Z a0 hw [] a1 b_1 kc x0 x1 k_1 h_1 n0 z_2 f_5 V_1 ne_a1_b_1 g_b_1 (hx0) (hx1)) hZ (hw _ (List.mem_of_getElem? (i := 89) rfl)) (hw _ (List.mem_of_getElem? (i := 85) rfl)) (by decide) (by decide)) (g := (mkF m 9 #[.val (.ref a1), .val (.int (0 : Int32)), .val (.int (2 : Int32)), .val (.ref b_1), .unset, .unset] [(.int (2 : Int32)), (.int (0 : Int32)), (.ref b_1), (.int (0 : Int32)), (.ref a1)])) rfl (by rw [hml]; rfl) (argsL := [(.ref a1), (.int (0 : Int32)), (.ref b_1), (.int (0 : Int32)), (.int (2 : Int32))]) (rest := []) (lenOf pd_3 rfl) rfl (by show 2 * 0 + _ ≤ _; exact Nat.le_of_eq rfl) (hb hby d16_9) (fun _ _ => ⟨rfl, e_1, (by decide : 1 + 0 ≤ _), (by decide : 2 + 0 ≤ _)⟩)
  obtain ⟨rfl, N_4q, K_4, p_4_0⟩ := hQ_4
  have N_4 := Fr.app N0 N_4q
  refine OGo.to st_4 ?_
  have z_6 : n0 ≤ T_4.heap.size := Nat.le_trans z_2 K_4.1
  have K_7 : Keep h0 T_4.heap [] := K_3.trans K_4 (by intro x hx'; cases List.mem_singleton.mp hx'; exact (Or.inr sz_b_1))
  show OGo p e below _ (T_4.setTop (mkF m 12 #[.val (.ref a1), .val (.int (0 : Int32)), .val (.int (2 : Int32)), .val (.ref b_1), .unset, .unset] [(.int (2 : Int32))]))
  refine OGo.to (fun _ k => XS.istore X_4.here hx rfl (hb hby d16_12) rfl (l' := #[.val (.ref a1), .val (.int (0 : Int32)), .val (.int (2 : Int32)), .val (.ref b_1), .val (.int (2 : Int32)), .unset]) rfl k) ?_
  refine OGo.to (fun _ k => XS.iload X_4.here hx rfl (hb hby d16_14) rfl k) ?_
  refine OGo.to (fun _ k => XS.iloadN X_4.here hx rfl (hb hby d16_16) rfl k) ?_
  have hc17__8 : (2 : Int32) = (2 : Int32) := by decide
  refine OGo.to (fun _ k => XS.icmpYes X_4.here hx rfl (pc0 := 17) (pc' := 57) rfl (hb hby d16_17) rfl (teq hc17__8).1 (by decide) (by decide) k) ?_
  show OGo p e below _ (T_4.setTop (mkF m 57 #[.val (.ref a1), .val (.int (0 : Int32)), .val (.int (2 : Int32)), .val (.ref b_1), .val (.int (2 : Int32)), .unset] []))
  refine OGo.to (fun _ k => XS.aloadN X_4.here hx rfl (hb hby d16_57) rfl rfl k) ?_
  refine OGo.ret (Q := Qcq2 Z a1 kc x0 x1 h0 n0) X_4 (some (.ref b_1)) (fun h => by rw [Bd.returns] at h; cases h) Bd.notSynchronized (fun fs hr => own_retA X_4 hx Bd.returns rfl rfl (hb hby d16_58) hr) ?_ (by decide) (by decide)
  show Qcq2 Z a1 kc x0 x1 h0 n0 _ T_4.heap _
  exact ⟨b_1, k_1, rfl, N_4, K_7, g_b_1, sz_b_1, p_4_0⟩
theorem d18_0 : decode jdk_52_method_15_code 0 = .ok (.iload_n 1, 1) := by decide +kernel
theorem d18_1 : decode jdk_52_method_15_code 1 = .ok (.aload_n 0, 1) := by decide +kernel
theorem d18_2 : decode jdk_52_method_15_code 2 = .ok (.arraylength, 1) := by decide +kernel
theorem d18_3 : decode jdk_52_method_15_code 3 = .ok (.isub, 1) := by decide +kernel
theorem d18_4 : decode jdk_52_method_15_code 4 = .ok (.bipush 31, 2) := by decide +kernel
theorem d18_6 : decode jdk_52_method_15_code 6 = .ok (.iushr, 1) := by decide +kernel
theorem d18_7 : decode jdk_52_method_15_code 7 = .ok (.i2b, 1) := by decide +kernel
theorem d18_8 : decode jdk_52_method_15_code 8 = .ok (.ireturn, 1) := by decide +kernel
theorem ef_cl2 (m : MethodId) (x0 : Addr) (x1 : Int32) : entryFrame m #[(.ref x0), (.int x1)] 2 = mkF m 0 #[.val (.ref x0), .val (.int x1)] [] := by first | (simp [entryFrame, mkF, argsToLocals, Value.category]; done) | rfl
def Qcl2 (Z : State) (a1 : Addr) (kb : ClassId) (y0 : Int32) (y1 : Int32) (h0 : Heap) (n0 : Nat) (v : Option Value) (h : Heap) (L : List Loc) : Prop := v = some (.int (0 : Int32)) ∧ Fr n0 L ∧ h = h0
set_option maxRecDepth 65536 in
set_option maxHeartbeats 40000000 in
theorem rmcl2 (l : Launch) (Z : State) (a0 : Array Value) (hw : ∀ d ∈ tables_1, d.before a0 Z = true) (ws : List Jvm.Cond) (a1 : Addr) (kb : ClassId) (y0 : Int32) (y1 : Int32) (h0 : Heap) (n0 : Nat) (Z0 : n0 ≤ h0.size) (VB : Arv Z h0 a1 kb .byte (2 : Int32) [(.int y0), (.int y1)] (.int (0 : Int32))) :
    MetFree l (⟨"java/lang/StringUTF16", "coderFromArrayLen", "([BI)B"⟩ : MethodName) (head1 (Jvm.Cond.code (⟨"java/lang/StringUTF16", "coderFromArrayLen", "([BI)B"⟩ : MethodName) jdk_52_method_15_code 2 (some .byte) :: ws) ({ frames := 0, cells := 0, slots := 0, locals := 0 } : Room)) (fun a U => a = #[(.ref a1), (.int (2 : Int32))] ∧ Z.Warmed39 U.vm ∧ U.heap = h0) (fun _ _ _ _ _ => True) (fun _ U o U' => ∃ v L, o = .returned v ∧ Qcl2 Z a1 kb y0 y1 h0 n0 v U'.heap L ∧ FrameEnd U o U' L ({ frames := 0, cells := 0, slots := 0, locals := 0 } : Room).cells ({ frames := 0, cells := 0, slots := 0, locals := 0 } : Room).slots) := by
  refine MetFree.of_bodySF (plainFor_of_name pn_2) hisR ?_
  intro p e s m args below meth c s₁ Bd hml0 hP hK
  obtain ⟨rfl, hZ, hh⟩ := hP
  have hx := Bd.exec
  have hby := Bd.bytes
  have hml : c.maxLocals = 2 := hml0
  have hown : s.vm.findClass "java/lang/StringUTF16" = some m.cls := findClass_of_methodNamed Bd.named
  have hnm := (name_of_methodNamed Bd.named Bd.method).1
  have X0 : Stand p l e ({ frames := 0, cells := 0, slots := 0, locals := 0 } : Room) s m #[(.ref a1), (.int (2 : Int32))] below meth c s₁ [] 0 0 := Stand.of_body Bd
  have e0 : s₁.heap = h0 := by rw [← hh, Bd.state]; rfl
  have N0 := Fr.nil n0
  show OGo p e below (fun s₂ o => ∃ v L, o = .returned v ∧ Qcl2 Z a1 kb y0 y1 h0 n0 v s₂.heap L ∧ FrameEnd s o s₂ L ({ frames := 0, cells := 0, slots := 0, locals := 0 } : Room).cells ({ frames := 0, cells := 0, slots := 0, locals := 0 } : Room).slots) _
  refine OGo.to (fun _ k => castTop (ef_cl2 m a1 (2 : Int32)) k) ?_
  refine OGo.to (fun _ k => XS.iloadN X0.here hx rfl (hb hby d18_0) rfl k) ?_
  refine OGo.to (fun _ k => XS.aloadN X0.here hx rfl (hb hby d18_1) rfl rfl k) ?_
  have Vq_1 := VB
  obtain ⟨cl_1, Ar_1, q_1, S_1, M_1, Hs_1, G_1⟩ := Vq_1
  refine OGo.to (fun _ k => X0.arraylength hx (by rw [e0]; exact Ar_1.1) (State.isArrayOf_alike hZ.alike Ar_1.2.1) (g := (mkF m 2 #[.val (.ref a1), .val (.int (2 : Int32))] [(.ref a1), (.int (2 : Int32))])) rfl rfl (hb hby d18_2) _ k) ?_
  rw [len_of S_1 M_1]
  show OGo p e below _ (s₁.setTop (mkF m 3 #[.val (.ref a1), .val (.int (2 : Int32))] [(.int (2 : Int32)), (.int (2 : Int32))]))
  refine OGo.to (fun _ k => XS.isub X0.here hx rfl (hb hby d18_3) rfl k) ?_
  refine OGo.to (fun _ k => XS.bipush X0.here hx rfl (hb hby d18_4) k) ?_
  refine OGo.to (fun _ k => XS.iushr X0.here hx rfl (hb hby d18_6) rfl k) ?_
  refine OGo.to (fun _ k => XS.i2b X0.here hx rfl (hb hby d18_7) rfl k) ?_
  refine OGo.ret (Q := Qcl2 Z a1 kb y0 y1 h0 n0) X0 (some (.int (0 : Int32))) (fun h => by rw [Bd.returns] at h; cases h) Bd.notSynchronized (fun fs hr => retN X0 hx (t := .byte) (z := (0 : Int32)) Bd.returns (by simp) (hb hby d18_8) hr) ?_ (by decide) (by decide)
  show Qcl2 Z a1 kb y0 y1 h0 n0 _ s₁.heap _
  rw [e0]
  exact ⟨rfl, N0, rfl⟩
theorem d3_0 : decode jdk_42_method_149_code 0 = .ok (.aload_n 0, 1) := by decide +kernel
theorem d3_1 : decode jdk_42_method_149_code 1 = .ok (.invokespecial 1, 3) := by decide +kernel
theorem d3_4 : decode jdk_42_method_149_code 4 = .ok (.iload_n 3, 1) := by decide +kernel
theorem d3_5 : decode jdk_42_method_149_code 5 = .ok (.ifCond .ne 22, 3) := by decide +kernel
theorem d3_27 : decode jdk_42_method_149_code 27 = .ok (.getstatic 38, 3) := by decide +kernel
theorem d3_30 : decode jdk_42_method_149_code 30 = .ok (.ifCond .eq 28, 3) := by decide +kernel
theorem d3_33 : decode jdk_42_method_149_code 33 = .ok (.aload_n 1, 1) := by decide +kernel
theorem d3_34 : decode jdk_42_method_149_code 34 = .ok (.iload_n 2, 1) := by decide +kernel
theorem d3_35 : decode jdk_42_method_149_code 35 = .ok (.iload_n 3, 1) := by decide +kernel
theorem d3_36 : decode jdk_42_method_149_code 36 = .ok (.invokestatic 177, 3) := by decide +kernel
theorem d3_39 : decode jdk_42_method_149_code 39 = .ok (.astore 5, 2) := by decide +kernel
theorem d3_41 : decode jdk_42_method_149_code 41 = .ok (.aload_n 0, 1) := by decide +kernel
theorem d3_42 : decode jdk_42_method_149_code 42 = .ok (.aload 5, 2) := by decide +kernel
theorem d3_44 : decode jdk_42_method_149_code 44 = .ok (.iload_n 3, 1) := by decide +kernel
theorem d3_45 : decode jdk_42_method_149_code 45 = .ok (.invokestatic 47, 3) := by decide +kernel
theorem d3_48 : decode jdk_42_method_149_code 48 = .ok (.putfield 15, 3) := by decide +kernel
theorem d3_51 : decode jdk_42_method_149_code 51 = .ok (.aload_n 0, 1) := by decide +kernel
theorem d3_52 : decode jdk_42_method_149_code 52 = .ok (.aload 5, 2) := by decide +kernel
theorem d3_54 : decode jdk_42_method_149_code 54 = .ok (.putfield 9, 3) := by decide +kernel
theorem d3_57 : decode jdk_42_method_149_code 57 = .ok (.return_, 1) := by decide +kernel
theorem ef_si2 (m : MethodId) (x0 : Addr) (x1 : Addr) (x2 : Int32) (x3 : Int32) : entryFrame m #[(.ref x0), (.ref x1), (.int x2), (.int x3), .null] 6 = mkF m 0 #[.val (.ref x0), .val (.ref x1), .val (.int x2), .val (.int x3), .val .null, .unset] [] := by first | (simp [entryFrame, mkF, argsToLocals, Value.category]; done) | rfl
def Qsi2 (Z : State) (a1 : Addr) (a2 : Addr) (kc : ClassId) (x0 : Int32) (x1 : Int32) (cs : Int32) (h0 : Heap) (n0 : Nat) (v : Option Value) (h : Heap) (L : List Loc) : Prop := ∃ (b : Addr), ∃ (kb : ClassId), v = none ∧ Fr n0 L ∧ Keep h0 h [a1] ∧ n0 ≤ b ∧ h0.size ≤ b ∧ Fld Z h a1 "java/lang/String" "value" "[B" (.ref b) ∧ Fld Z h a1 "java/lang/String" "coder" "B" (.int (0 : Int32)) ∧ Arv Z h b kb .byte (2 : Int32) [(.int ((x0.toInt8.toInt32)).toInt8.toInt32), (.int ((x1.toInt8.toInt32)).toInt8.toInt32)] (.int (0 : Int32))
set_option maxRecDepth 65536 in
set_option maxHeartbeats 40000000 in
theorem rmsi2 (l : Launch) (Z : State) (a0 : Array Value) (hw : ∀ d ∈ tables_1, d.before a0 Z = true) (ws : List Jvm.Cond) (a1 : Addr) (a2 : Addr) (kc : ClassId) (x0 : Int32) (x1 : Int32) (cs : Int32) (h0 : Heap) (n0 : Nat) (Z0 : n0 ≤ h0.size) (E1 : Exa Z h0 a1 "java/lang/String") (F1 : Fld Z h0 a1 "java/lang/String" "value" "[B" .null) (F2 : Fld Z h0 a1 "java/lang/String" "coder" "B" (.int (0 : Int32))) (g1 : n0 ≤ a1) (VA : Arv Z h0 a2 kc .char (2 : Int32) [(.int x0), (.int x1)] (.int (0 : Int32))) (n12 : a1 ≠ a2) (SC : Sta Z Z.heap "java/lang/String" "COMPACT_STRINGS" "Z" (.int cs)) (O0 : Old Z n0 h0) (hcs : ¬ (cs = (0 : Int32))) (hx0 : ¬ ((255 : Int32) < x0)) (hx1 : ¬ ((255 : Int32) < x1)) :
    MetFree l (⟨"java/lang/String", "<init>", "([CIILjava/lang/Void;)V"⟩ : MethodName) (head1 (Jvm.Cond.code (⟨"java/lang/String", "<init>", "([CIILjava/lang/Void;)V"⟩ : MethodName) jdk_42_method_149_code 6 none :: ws) ({ frames := 2, cells := 1, slots := 2, locals := 35 } : Room)) (fun a U => a = #[(.ref a1), (.ref a2), (.int (0 : Int32)), (.int (2 : Int32)), .null] ∧ Z.Warmed39 U.vm ∧ U.heap = h0) (fun _ _ _ _ _ => True) (fun _ U o U' => ∃ v L, o = .returned v ∧ Qsi2 Z a1 a2 kc x0 x1 cs h0 n0 v U'.heap L ∧ FrameEnd U o U' L ({ frames := 2, cells := 1, slots := 2, locals := 35 } : Room).cells ({ frames := 2, cells := 1, slots := 2, locals := 35 } : Room).slots) := by
  refine MetFree.of_bodySF (plainFor_of_name pn_1) hisR ?_
  intro p e s m args below meth c s₁ Bd hml0 hP hK
  obtain ⟨rfl, hZ, hh⟩ := hP
  have hx := Bd.exec
  have hby := Bd.bytes
  have hml : c.maxLocals = 6 := hml0
  have hown : s.vm.findClass "java/lang/String" = some m.cls := findClass_of_methodNamed Bd.named
  have hnm := (name_of_methodNamed Bd.named Bd.method).1
  have X0 : Stand p l e ({ frames := 2, cells := 1, slots := 2, locals := 35 } : Room) s m #[(.ref a1), (.ref a2), (.int (0 : Int32)), (.int (2 : Int32)), .null] below meth c s₁ [] 0 0 := Stand.of_body Bd
  have e0 : s₁.heap = h0 := by rw [← hh, Bd.state]; rfl
  have N0 := Fr.nil n0
  show OGo p e below (fun s₂ o => ∃ v L, o = .returned v ∧ Qsi2 Z a1 a2 kc x0 x1 cs h0 n0 v s₂.heap L ∧ FrameEnd s o s₂ L ({ frames := 2, cells := 1, slots := 2, locals := 35 } : Room).cells ({ frames := 2, cells := 1, slots := 2, locals := 35 } : Room).slots) _
  refine OGo.to (fun _ k => castTop (ef_si2 m a1 a2 (0 : Int32) (2 : Int32)) k) ?_
  refine OGo.to (fun _ k => XS.aloadN X0.here hx rfl (hb hby d3_0) rfl rfl k) ?_
  obtain ⟨T_1, X_1, e_1, st_1⟩ := initO X0 hx hZ hown (hw _ (List.mem_of_getElem? (i := 15) rfl)) (hw _ (List.mem_of_getElem? (i := 16) rfl)) (hw _ (List.mem_of_getElem? (i := 17) rfl)) e0 (g := (mkF m 1 #[.val (.ref a1), .val (.ref a2), .val (.int (0 : Int32)), .val (.int (2 : Int32)), .val .null, .unset] [(.ref a1)])) rfl (by rw [hml]; rfl) rfl (hb hby d3_1) (by decide) (W := 0) (by show 2 * 0 + _ ≤ _; exact Nat.le_of_eq rfl) (by decide)
  refine OGo.to st_1 ?_
  show OGo p e below _ (T_1.setTop (mkF m 4 #[.val (.ref a1), .val (.ref a2), .val (.int (0 : Int32)), .val (.int (2 : Int32)), .val .null, .unset] []))
  refine OGo.to (fun _ k => XS.iloadN X_1.here hx rfl (hb hby d3_4) rfl k) ?_
  have hc5__2 : ¬ ((2 : Int32) = (0 : Int32)) := by decide
  refine OGo.to (fun _ k => XS.ifYes X_1.here hx rfl (pc0 := 5) (pc' := 27) rfl (hb hby d3_5) rfl ((if0 _ _).trans (feq hc5__2).2) (by decide) (by decide) k) ?_
  show OGo p e below _ (T_1.setTop (mkF m 27 #[.val (.ref a1), .val (.ref a2), .val (.int (0 : Int32)), .val (.int (2 : Int32)), .val .null, .unset] []))
  have f_3 : Sta Z h0 "java/lang/String" "COMPACT_STRINGS" "Z" (.int cs) := Sta.ext O0.2 SC
  obtain ⟨T_4, X_4, e_4, st_4⟩ := getS2 X_1 hx hZ hown (host := "") (Or.inl (hw _ (List.mem_of_getElem? (i := 46) rfl))) Via.refl e_1 f_3 (g := (mkF m 27 #[.val (.ref a1), .val (.ref a2), .val (.int (0 : Int32)), .val (.int (2 : Int32)), .val .null, .unset] [])) rfl (hb hby d3_27)
  refine OGo.to st_4 ?_
  show OGo p e below _ (T_4.setTop (mkF m 30 #[.val (.ref a1), .val (.ref a2), .val (.int (0 : Int32)), .val (.int (2 : Int32)), .val .null, .unset] [(.int cs)]))
  refine OGo.to (fun _ k => XS.ifNo X_4.here hx rfl (hb hby d3_30) rfl ((if0 _ _).trans (feq hcs).1) k) ?_
  show OGo p e below _ (T_4.setTop (mkF m 33 #[.val (.ref a1), .val (.ref a2), .val (.int (0 : Int32)), .val (.int (2 : Int32)), .val .null, .unset] []))
  refine OGo.to (fun _ k => XS.aloadN X_4.here hx rfl (hb hby d3_33) rfl rfl k) ?_
  refine OGo.to (fun _ k => XS.iloadN X_4.here hx rfl (hb hby d3_34) rfl k) ?_
  refine OGo.to (fun _ k => XS.iloadN X_4.here hx rfl (hb hby d3_35) rfl k) ?_
  obtain ⟨_, T_6, Lc_6, X_6, hQ_6, st_6⟩ := own_un X_4 (Q := Qcq2 Z a2 kc x0 x1 h0 n0) (rc := 1) (rs := 2) (W := fun v B => ∀ target, Steps p.tables e below (B.setTop { (mkF m 36 #[.val (.ref a1), .val (.ref a2), .val (.int (0 : Int32)), .val (.int (2 : Int32)), .val .null, .unset] [(.int (2 : Int32)), (.int (0 : Int32)), (.ref a2)]) with pc := 39, stack := v.toList ++ [] }) target → Steps p.tables e below (T_4.setTop (mkF m 36 #[.val (.ref a1), .val (.ref a2), .val (.int (0 : Int32)), .val (.int (2 : Int32)), .val .null, .unset] [(.int (2 : Int32)), (.int (0 : Int32)), (.ref a2)])) target) <| Jvm.LawKit.callS X_4 hx (y := (⟨"java/lang/StringUTF16", "compress", "([CII)[B"⟩ : MethodName)) hown (mvT hZ (hw _ (List.mem_of_getElem? (i := 83) rfl))) (mvT hZ (hw _ (List.mem_of_getElem? (i := 84) rfl))) (mvT hZ (hw _ (List.mem_of_getElem? (i := 85) rfl))) (mvT hZ (hw _ (List.mem_of_getElem? (i := 86) rfl))) (by decide) (backOf (W := 0) (rmcq2 l Z a0 hw [] a2 kc x0 x1 h0 n0 Z0 VA (hx0) (hx1)) hZ (hw _ (List.mem_of_getElem? (i := 86) rfl)) (hw _ (List.mem_of_getElem? (i := 85) rfl)) (by decide) (by decide)) (g := (mkF m 36 #[.val (.ref a1), .val (.ref a2), .val (.int (0 : Int32)), .val (.int (2 : Int32)), .val .null, .unset] [(.int (2 : Int32)), (.int (0 : Int32)), (.ref a2)])) rfl (by rw [hml]; rfl) (argsL := [(.ref a2), (.int (0 : Int32)), (.int (2 : Int32))]) (rest := []) (lenOf pd_4 rfl) rfl (by show 2 * 0 + _ ≤ _; exact Nat.le_of_eq rfl) (hb hby d3_36) (fun _ _ => ⟨rfl, e_4, (by decide : 0 + 1 ≤ _), (by decide : 0 + 2 ≤ _)⟩)
  obtain ⟨b__6, kb__6, rfl, N_6q, K_6, gq_b__6, sq_b__6, p_6_0⟩ := hQ_6
  have N_6 := Fr.app N0 N_6q
  refine OGo.to st_6 ?_
  have ne_a1_b__6 : a1 ≠ b__6 := Nat.ne_of_lt (Nat.lt_of_lt_of_le E1.lt sq_b__6)
  have ne_a2_b__6 : a2 ≠ b__6 := Nat.ne_of_lt (Nat.lt_of_lt_of_le VA.lt sq_b__6)
  have sz_b__6 : h0.size ≤ b__6 := Nat.le_trans (Keep.refl h0 [a1]).1 sq_b__6
  have z_7 : n0 ≤ T_6.heap.size := Nat.le_trans Z0 K_6.1
  have O_8 : Old Z n0 T_6.heap := O0.keep K_6 all0
  have K_9 : Keep h0 T_6.heap [a1] := (Keep.refl h0 [a1]).trans K_6 (by simp)
  show OGo p e below _ (T_6.setTop (mkF m 39 #[.val (.ref a1), .val (.ref a2), .val (.int (0 : Int32)), .val (.int (2 : Int32)), .val .null, .unset] [(.ref b__6)]))
  refine OGo.to (fun _ k => XS.astore X_6.here hx rfl (hb hby d3_39) rfl rfl (l' := #[.val (.ref a1), .val (.ref a2), .val (.int (0 : Int32)), .val (.int (2 : Int32)), .val .null, .val (.ref b__6)]) rfl k) ?_
  refine OGo.to (fun _ k => XS.aloadN X_6.here hx rfl (hb hby d3_41) rfl rfl k) ?_
  refine OGo.to (fun _ k => XS.aload X_6.here hx rfl (hb hby d3_42) rfl rfl k) ?_
  refine OGo.to (fun _ k => XS.iloadN X_6.here hx rfl (hb hby d3_44) rfl k) ?_
  obtain ⟨_, T_10, Lc_10, X_10, hQ_10, st_10⟩ := own_un X_6 (Q := Qcl2 Z b__6 kb__6 ((x0.toInt8.toInt32)).toInt8.toInt32 ((x1.toInt8.toInt32)).toInt8.toInt32 T_6.heap n0) (rc := 0) (rs := 0) (W := fun v B => ∀ target, Steps p.tables e below (B.setTop { (mkF m 45 #[.val (.ref a1), .val (.ref a2), .val (.int (0 : Int32)), .val (.int (2 : Int32)), .val .null, .val (.ref b__6)] [(.int (2 : Int32)), (.ref b__6), (.ref a1)]) with pc := 48, stack := v.toList ++ [(.ref a1)] }) target → Steps p.tables e below (T_6.setTop (mkF m 45 #[.val (.ref a1), .val (.ref a2), .val (.int (0 : Int32)), .val (.int (2 : Int32)), .val .null, .val (.ref b__6)] [(.int (2 : Int32)), (.ref b__6), (.ref a1)])) target) <| Jvm.LawKit.callS X_6 hx (y := (⟨"java/lang/StringUTF16", "coderFromArrayLen", "([BI)B"⟩ : MethodName)) hown (mvT hZ (hw _ (List.mem_of_getElem? (i := 90) rfl))) (mvT hZ (hw _ (List.mem_of_getElem? (i := 91) rfl))) (mvT hZ (hw _ (List.mem_of_getElem? (i := 85) rfl))) (mvT hZ (hw _ (List.mem_of_getElem? (i := 92) rfl))) (by decide) (backOf (W := 1) (rmcl2 l Z a0 hw [] b__6 kb__6 ((x0.toInt8.toInt32)).toInt8.toInt32 ((x1.toInt8.toInt32)).toInt8.toInt32 T_6.heap n0 z_7 p_6_0) hZ (hw _ (List.mem_of_getElem? (i := 92) rfl)) (hw _ (List.mem_of_getElem? (i := 85) rfl)) (by decide) (by decide)) (g := (mkF m 45 #[.val (.ref a1), .val (.ref a2), .val (.int (0 : Int32)), .val (.int (2 : Int32)), .val .null, .val (.ref b__6)] [(.int (2 : Int32)), (.ref b__6), (.ref a1)])) rfl (by rw [hml]; rfl) (argsL := [(.ref b__6), (.int (2 : Int32))]) (rest := [(.ref a1)]) (lenOf pd_5 rfl) rfl (by show 2 * 0 + _ ≤ _; exact Nat.le_of_eq rfl) (hb hby d3_45) (fun _ _ => ⟨rfl, (rfl : T_6.heap = T_6.heap), (by decide : 1 + 0 ≤ _), (by decide : 2 + 0 ≤ _)⟩)
  obtain ⟨rfl, N_10q, e_10⟩ := hQ_10
  have N_10 := Fr.app N_6 N_10q
  refine OGo.to st_10 ?_
  show OGo p e below _ (T_10.setTop (mkF m 48 #[.val (.ref a1), .val (.ref a2), .val (.int (0 : Int32)), .val (.int (2 : Int32)), .val .null, .val (.ref b__6)] [(.int (0 : Int32)), (.ref a1)]))
  have f_11 : Exa Z T_6.heap a1 "java/lang/String" := (E1.keep K_6)
  have f_12 : Fld Z T_6.heap a1 "java/lang/String" "coder" "B" (.int (0 : Int32)) := (F2.keep K_6 (List.not_mem_nil))
  obtain ⟨T_13, h_13, X_13, e_13, W_13, st_13⟩ := putF X_10 hx hZ hown (host := "") (Or.inl (hw _ (List.mem_of_getElem? (i := 25) rfl))) Via.refl e_10 f_12 f_11 (Or.inr ⟨(hw _ (List.mem_of_getElem? (i := 21) rfl)), rfl, hnm⟩) (hw _ (List.mem_of_getElem? (i := 5) rfl)) (ty := .byte) (by decide) rfl rfl (g := (mkF m 48 #[.val (.ref a1), .val (.ref a2), .val (.int (0 : Int32)), .val (.int (2 : Int32)), .val .null, .val (.ref b__6)] [(.int (0 : Int32)), (.ref a1)])) rfl rfl (hb hby d3_48)
  refine OGo.to st_13 ?_
  have Fw_13 : Fld Z h_13 a1 "java/lang/String" "coder" "B" (.int (0 : Int32)) := f_12.same W_13
  have N_13 := Fr.snoc X_13 N_10 g1
  have z_14 : n0 ≤ h_13.size := Nat.le_trans z_7 (Keep.of_wr W_13).1
  have O_15 : Old Z n0 h_13 := O_8.wr W_13 g1
  have K_16 : Keep h0 h_13 [a1] := K_9.wr W_13 (Or.inl (List.mem_of_getElem? (i := 0) rfl))
  show OGo p e below _ (T_13.setTop (mkF m 51 #[.val (.ref a1), .val (.ref a2), .val (.int (0 : Int32)), .val (.int (2 : Int32)), .val .null, .val (.ref b__6)] []))
  refine OGo.to (fun _ k => XS.aloadN X_13.here hx rfl (hb hby d3_51) rfl rfl k) ?_
  refine OGo.to (fun _ k => XS.aload X_13.here hx rfl (hb hby d3_52) rfl rfl k) ?_
  have f_17 : Exa Z h_13 a1 "java/lang/String" := (f_11.wr W_13)
  have f_18 : Fld Z h_13 a1 "java/lang/String" "value" "[B" .null := ((F1.keep K_6 (List.not_mem_nil)).other W_13 (Or.inr (slot_ne (Or.inr (hw _ (List.mem_of_getElem? (i := 20) rfl))) (Or.inr (hw _ (List.mem_of_getElem? (i := 21) rfl))) (by decide) (t := (.array .byte)) (t' := .byte) (by decide) (by decide))))
  obtain ⟨T_19, h_19, X_19, e_19, W_19, st_19⟩ := putF X_13 hx hZ hown (host := "") (Or.inl (hw _ (List.mem_of_getElem? (i := 24) rfl))) Via.refl e_13 f_18 f_17 (Or.inr ⟨(hw _ (List.mem_of_getElem? (i := 20) rfl)), rfl, hnm⟩) (hw _ (List.mem_of_getElem? (i := 5) rfl)) (ty := (.array .byte)) (by decide) rfl rfl (g := (mkF m 54 #[.val (.ref a1), .val (.ref a2), .val (.int (0 : Int32)), .val (.int (2 : Int32)), .val .null, .val (.ref b__6)] [(.ref b__6), (.ref a1)])) rfl rfl (hb hby d3_54)
  refine OGo.to st_19 ?_
  have Fw_19 : Fld Z h_19 a1 "java/lang/String" "value" "[B" (.ref b__6) := f_18.same W_19
  have N_19 := Fr.snoc X_19 N_13 g1
  have z_20 : n0 ≤ h_19.size := Nat.le_trans z_14 (Keep.of_wr W_19).1
  have O_21 : Old Z n0 h_19 := O_15.wr W_19 g1
  have K_22 : Keep h0 h_19 [a1] := K_16.wr W_19 (Or.inl (List.mem_of_getElem? (i := 0) rfl))
  show OGo p e below _ (T_19.setTop (mkF m 57 #[.val (.ref a1), .val (.ref a2), .val (.int (0 : Int32)), .val (.int (2 : Int32)), .val .null, .val (.ref b__6)] []))
  refine OGo.ret (Q := Qsi2 Z a1 a2 kc x0 x1 cs h0 n0) X_19 none (fun _ => rfl) Bd.notSynchronized (fun fs hr => X_19.returnOut hx Bd.returns (hb hby d3_57) hr) ?_ (by decide) (by decide)
  have f_23 : Fld Z h_19 a1 "java/lang/String" "coder" "B" (.int (0 : Int32)) := (Fw_13.other W_19 (Or.inr (slot_ne (Or.inr (hw _ (List.mem_of_getElem? (i := 21) rfl))) (Or.inr (hw _ (List.mem_of_getElem? (i := 20) rfl))) (by decide) (t := .byte) (t' := (.array .byte)) (by decide) (by decide))))
  have f_24 : Arv Z h_19 b__6 kb__6 .byte (2 : Int32) [(.int ((x0.toInt8.toInt32)).toInt8.toInt32), (.int ((x1.toInt8.toInt32)).toInt8.toInt32)] (.int (0 : Int32)) := ((p_6_0.other W_13 (Ne.symm ne_a1_b__6)).other W_19 (Ne.symm ne_a1_b__6))
  show Qsi2 Z a1 a2 kc x0 x1 cs h0 n0 _ T_19.heap _
  rw [e_19]
  exact ⟨b__6, kb__6, rfl, N_19, K_22, gq_b__6, sz_b__6, Fw_19, f_23, f_24⟩
theorem d2_0 : decode jdk_42_method_3_code 0 = .ok (.aload_n 0, 1) := by decide +kernel
theorem d2_1 : decode jdk_42_method_3_code 1 = .ok (.aload_n 1, 1) := by decide +kernel
theorem d2_2 : decode jdk_42_method_3_code 2 = .ok (.iconst 0, 1) := by decide +kernel
theorem d2_3 : decode jdk_42_method_3_code 3 = .ok (.aload_n 1, 1) := by decide +kernel
theorem d2_4 : decode jdk_42_method_3_code 4 = .ok (.arraylength, 1) := by decide +kernel
theorem d2_5 : decode jdk_42_method_3_code 5 = .ok (.aconst_null, 1) := by decide +kernel
theorem d2_6 : decode jdk_42_method_3_code 6 = .ok (.invokespecial 27, 3) := by decide +kernel
theorem d2_9 : decode jdk_42_method_3_code 9 = .ok (.return_, 1) := by decide +kernel
theorem ef_sc2 (m : MethodId) (x0 : Addr) (x1 : Addr) : entryFrame m #[(.ref x0), (.ref x1)] 2 = mkF m 0 #[.val (.ref x0), .val (.ref x1)] [] := by first | (simp [entryFrame, mkF, argsToLocals, Value.category]; done) | rfl
def Qsc2 (Z : State) (a1 : Addr) (a2 : Addr) (kc : ClassId) (x0 : Int32) (x1 : Int32) (cs : Int32) (h0 : Heap) (n0 : Nat) (v : Option Value) (h : Heap) (L : List Loc) : Prop := ∃ (b : Addr), ∃ (kb : ClassId), v = none ∧ Fr n0 L ∧ Keep h0 h [a1] ∧ n0 ≤ b ∧ h0.size ≤ b ∧ Fld Z h a1 "java/lang/String" "value" "[B" (.ref b) ∧ Fld Z h a1 "java/lang/String" "coder" "B" (.int (0 : Int32)) ∧ Arv Z h b kb .byte (2 : Int32) [(.int ((x0.toInt8.toInt32)).toInt8.toInt32), (.int ((x1.toInt8.toInt32)).toInt8.toInt32)] (.int (0 : Int32))
set_option maxRecDepth 65536 in
set_option maxHeartbeats 40000000 in
theorem rmsc2 (l : Launch) (Z : State) (a0 : Array Value) (hw : ∀ d ∈ tables_1, d.before a0 Z = true) (ws : List Jvm.Cond) (a1 : Addr) (a2 : Addr) (kc : ClassId) (x0 : Int32) (x1 : Int32) (cs : Int32) (h0 : Heap) (n0 : Nat) (Z0 : n0 ≤ h0.size) (E1 : Exa Z h0 a1 "java/lang/String") (F1 : Fld Z h0 a1 "java/lang/String" "value" "[B" .null) (F2 : Fld Z h0 a1 "java/lang/String" "coder" "B" (.int (0 : Int32))) (g1 : n0 ≤ a1) (VA : Arv Z h0 a2 kc .char (2 : Int32) [(.int x0), (.int x1)] (.int (0 : Int32))) (n12 : a1 ≠ a2) (SC : Sta Z Z.heap "java/lang/String" "COMPACT_STRINGS" "Z" (.int cs)) (O0 : Old Z n0 h0) (hcs : ¬ (cs = (0 : Int32))) (hx0 : ¬ ((255 : Int32) < x0)) (hx1 : ¬ ((255 : Int32) < x1)) :
    MetFree l (⟨"java/lang/String", "<init>", "([C)V"⟩ : MethodName) (head1 (Jvm.Cond.code (⟨"java/lang/String", "<init>", "([C)V"⟩ : MethodName) jdk_42_method_3_code 2 none :: ws) ({ frames := 3, cells := 1, slots := 2, locals := 52 } : Room)) (fun a U => a = #[(.ref a1), (.ref a2)] ∧ Z.Warmed39 U.vm ∧ U.heap = h0) (fun _ _ _ _ _ => True) (fun _ U o U' => ∃ v L, o = .returned v ∧ Qsc2 Z a1 a2 kc x0 x1 cs h0 n0 v U'.heap L ∧ FrameEnd U o U' L ({ frames := 3, cells := 1, slots := 2, locals := 52 } : Room).cells ({ frames := 3, cells := 1, slots := 2, locals := 52 } : Room).slots) := by
  refine MetFree.of_bodySF (plainFor_of_name pn_1) hisR ?_
  intro p e s m args below meth c s₁ Bd hml0 hP hK
  obtain ⟨rfl, hZ, hh⟩ := hP
  have hx := Bd.exec
  have hby := Bd.bytes
  have hml : c.maxLocals = 2 := hml0
  have hown : s.vm.findClass "java/lang/String" = some m.cls := findClass_of_methodNamed Bd.named
  have hnm := (name_of_methodNamed Bd.named Bd.method).1
  have X0 : Stand p l e ({ frames := 3, cells := 1, slots := 2, locals := 52 } : Room) s m #[(.ref a1), (.ref a2)] below meth c s₁ [] 0 0 := Stand.of_body Bd
  have e0 : s₁.heap = h0 := by rw [← hh, Bd.state]; rfl
  have N0 := Fr.nil n0
  show OGo p e below (fun s₂ o => ∃ v L, o = .returned v ∧ Qsc2 Z a1 a2 kc x0 x1 cs h0 n0 v s₂.heap L ∧ FrameEnd s o s₂ L ({ frames := 3, cells := 1, slots := 2, locals := 52 } : Room).cells ({ frames := 3, cells := 1, slots := 2, locals := 52 } : Room).slots) _
  refine OGo.to (fun _ k => castTop (ef_sc2 m a1 a2) k) ?_
  refine OGo.to (fun _ k => XS.aloadN X0.here hx rfl (hb hby d2_0) rfl rfl k) ?_
  refine OGo.to (fun _ k => XS.aloadN X0.here hx rfl (hb hby d2_1) rfl rfl k) ?_
  refine OGo.to (fun _ k => XS.iconst X0.here hx rfl (hb hby d2_2) k) ?_
  refine OGo.to (fun _ k => XS.aloadN X0.here hx rfl (hb hby d2_3) rfl rfl k) ?_
  have Vq_1 := VA
  obtain ⟨cl_1, Ar_1, q_1, S_1, M_1, Hs_1, G_1⟩ := Vq_1
  refine OGo.to (fun _ k => X0.arraylength hx (by rw [e0]; exact Ar_1.1) (State.isArrayOf_alike hZ.alike Ar_1.2.1) (g := (mkF m 4 #[.val (.ref a1), .val (.ref a2)] [(.ref a2), (.int (0 : Int32)), (.ref a2), (.ref a1)])) rfl rfl (hb hby d2_4) _ k) ?_
  rw [len_of S_1 M_1]
  show OGo p e below _ (s₁.setTop (mkF m 5 #[.val (.ref a1), .val (.ref a2)] [(.int (2 : Int32)), (.int (0 : Int32)), (.ref a2), (.ref a1)]))
  refine OGo.to (fun _ k => XS.aconstNull X0.here hx rfl (hb hby d2_5) k) ?_
  obtain ⟨_, T_2, Lc_2, X_2, hQ_2, st_2⟩ := own_un X0 (Q := Qsi2 Z a1 a2 kc x0 x1 cs h0 n0) (rc := 1) (rs := 2) (W := fun v B => Steps p.tables e below (s₁.setTop (mkF m 6 #[.val (.ref a1), .val (.ref a2)] [.null, (.int (2 : Int32)), (.int (0 : Int32)), (.ref a2), (.ref a1)])) (B.setTop { (mkF m 6 #[.val (.ref a1), .val (.ref a2)] [.null, (.int (2 : Int32)), (.int (0 : Int32)), (.ref a2), (.ref a1)]) with pc := 9, stack := v.toList ++ [] })) <| X0.specialBack hx (y := (⟨"java/lang/String", "<init>", "([CIILjava/lang/Void;)V"⟩ : MethodName)) rfl hown (mvT hZ (hw _ (List.mem_of_getElem? (i := 11) rfl))) (mvT hZ (hw _ (List.mem_of_getElem? (i := 12) rfl))) (mvT hZ (hw _ (List.mem_of_getElem? (i := 14) rfl))) (by decide) (backOf (W := 0) (rmsi2 l Z a0 hw [] a1 a2 kc x0 x1 cs h0 n0 Z0 E1 F1 F2 g1 VA n12 SC O0 (hcs) (hx0) (hx1)) hZ (hw _ (List.mem_of_getElem? (i := 14) rfl)) (hw _ (List.mem_of_getElem? (i := 6) rfl)) (by decide) (by decide)) (g := (mkF m 6 #[.val (.ref a1), .val (.ref a2)] [.null, (.int (2 : Int32)), (.int (0 : Int32)), (.ref a2), (.ref a1)])) rfl (by rw [hml]; rfl) (Steps.refl _) (a := a1) (argsL := [(.ref a2), (.int (0 : Int32)), (.int (2 : Int32)), .null]) (rest := []) (lenOf pd_6 rfl) rfl (by show 2 * 0 + _ ≤ _; exact Nat.le_of_eq rfl) (hb hby d2_6) (fun _ _ => ⟨rfl, e0, (by decide : 0 + 1 ≤ _), (by decide : 0 + 2 ≤ _)⟩)
  obtain ⟨b__2, kb__2, rfl, N_2q, K_2, gq_b__2, sq_b__2, p_2_0, p_2_1, p_2_2⟩ := hQ_2
  have N_2 := Fr.app N0 N_2q
  refine OGo.to (fun _ k => st_2.trans k) ?_
  have ne_a1_b__2 : a1 ≠ b__2 := Nat.ne_of_lt (Nat.lt_of_lt_of_le E1.lt sq_b__2)
  have ne_a2_b__2 : a2 ≠ b__2 := Nat.ne_of_lt (Nat.lt_of_lt_of_le VA.lt sq_b__2)
  have sz_b__2 : h0.size ≤ b__2 := Nat.le_trans (Keep.refl h0 [a1]).1 sq_b__2
  have z_3 : n0 ≤ T_2.heap.size := Nat.le_trans Z0 K_2.1
  have O_4 : Old Z n0 T_2.heap := O0.keep K_2 (allS g1 all0)
  have K_5 : Keep h0 T_2.heap [a1] := (Keep.refl h0 [a1]).trans K_2 (by intro x hx'; cases List.mem_singleton.mp hx'; exact (Or.inl (List.mem_of_getElem? (i := 0) rfl)))
  show OGo p e below _ (T_2.setTop (mkF m 9 #[.val (.ref a1), .val (.ref a2)] []))
  refine OGo.ret (Q := Qsc2 Z a1 a2 kc x0 x1 cs h0 n0) X_2 none (fun _ => rfl) Bd.notSynchronized (fun fs hr => X_2.returnOut hx Bd.returns (hb hby d2_9) hr) ?_ (by decide) (by decide)
  show Qsc2 Z a1 a2 kc x0 x1 cs h0 n0 _ T_2.heap _
  exact ⟨b__2, kb__2, rfl, N_2, K_5, gq_b__2, sz_b__2, p_2_0, p_2_1, p_2_2⟩
theorem d3_8 : decode jdk_42_method_149_code 8 = .ok (.aload_n 0, 1) := by decide +kernel
theorem d3_9 : decode jdk_42_method_149_code 9 = .ok (.ldc 7, 2) := by decide +kernel
theorem d3_11 : decode jdk_42_method_149_code 11 = .ok (.getfield 9, 3) := by decide +kernel
theorem d3_14 : decode jdk_42_method_149_code 14 = .ok (.putfield 9, 3) := by decide +kernel
theorem d3_17 : decode jdk_42_method_149_code 17 = .ok (.aload_n 0, 1) := by decide +kernel
theorem d3_18 : decode jdk_42_method_149_code 18 = .ok (.ldc 7, 2) := by decide +kernel
theorem d3_20 : decode jdk_42_method_149_code 20 = .ok (.getfield 15, 3) := by decide +kernel
theorem d3_23 : decode jdk_42_method_149_code 23 = .ok (.putfield 15, 3) := by decide +kernel
theorem d3_26 : decode jdk_42_method_149_code 26 = .ok (.return_, 1) := by decide +kernel
theorem ef_si0 (m : MethodId) (x0 : Addr) (x1 : Addr) (x2 : Int32) (x3 : Int32) : entryFrame m #[(.ref x0), (.ref x1), (.int x2), (.int x3), .null] 6 = mkF m 0 #[.val (.ref x0), .val (.ref x1), .val (.int x2), .val (.int x3), .val .null, .unset] [] := by first | (simp [entryFrame, mkF, argsToLocals, Value.category]; done) | rfl
def Qsi0 (Z : State) (a1 : Addr) (a2 : Addr) (kc : ClassId) (h0 : Heap) (n0 : Nat) (v : Option Value) (h : Heap) (L : List Loc) : Prop := ∃ (b : Addr), ∃ (kb : ClassId), v = none ∧ Fr n0 L ∧ Keep h0 h [a1] ∧ Fld Z h a1 "java/lang/String" "value" "[B" (.ref b) ∧ Fld Z h a1 "java/lang/String" "coder" "B" (.int (0 : Int32)) ∧ Arv Z h b kb .byte (0 : Int32) [] (.int (0 : Int32))
set_option maxRecDepth 65536 in
set_option maxHeartbeats 40000000 in
theorem rmsi0 (l : Launch) (Z : State) (a0 : Array Value) (hw : ∀ d ∈ tables_1, d.before a0 Z = true) (ws : List Jvm.Cond) (a1 : Addr) (a2 : Addr) (kc : ClassId) (h0 : Heap) (n0 : Nat) (Z0 : n0 ≤ h0.size) (E1 : Exa Z h0 a1 "java/lang/String") (F1 : Fld Z h0 a1 "java/lang/String" "value" "[B" .null) (F2 : Fld Z h0 a1 "java/lang/String" "coder" "B" (.int (0 : Int32))) (g1 : n0 ≤ a1) (VA0 : Arv Z h0 a2 kc .char (0 : Int32) [] (.int (0 : Int32))) (n12 : a1 ≠ a2) (O0 : Old Z n0 h0) (HH : Jvm.Lit.constHeld Z "java/lang/String" 7) (HW : Jvm.Lit.compactW.before a0 Z = true) :
    MetFree l (⟨"java/lang/String", "<init>", "([CIILjava/lang/Void;)V"⟩ : MethodName) (head1 (Jvm.Cond.code (⟨"java/lang/String", "<init>", "([CIILjava/lang/Void;)V"⟩ : MethodName) jdk_42_method_149_code 6 none :: ws) ({ frames := 1, cells := 2, slots := 4, locals := 12 } : Room)) (fun a U => a = #[(.ref a1), (.ref a2), (.int (0 : Int32)), (.int (0 : Int32)), .null] ∧ Z.Warmed39 U.vm ∧ U.heap = h0 ∧ own_Inv Z U.vm h0) (fun _ _ _ _ _ => True) (fun _ U o U' => ∃ v L, o = .returned v ∧ (Qsi0 Z a1 a2 kc h0 n0 v U'.heap L ∧ own_Inv Z U'.vm U'.heap) ∧ ReturnedEndW U o U' L ({ frames := 1, cells := 2, slots := 4, locals := 12 } : Room).cells ({ frames := 1, cells := 2, slots := 4, locals := 12 } : Room).slots) := by
  refine MetFree.of_bodySF (plainFor_of_name pn_1) hisR ?_
  intro p e s m args below meth c s₁ Bd hml0 hP hK
  obtain ⟨rfl, hZ, hh, hI⟩ := hP
  have hx := Bd.exec
  have hby := Bd.bytes
  have hml : c.maxLocals = 6 := hml0
  have hown : s.vm.findClass "java/lang/String" = some m.cls := findClass_of_methodNamed Bd.named
  have hnm := (name_of_methodNamed Bd.named Bd.method).1
  have X0 : Stand p l e ({ frames := 1, cells := 2, slots := 4, locals := 12 } : Room) (s.setVm s.vm) m #[(.ref a1), (.ref a2), (.int (0 : Int32)), (.int (0 : Int32)), .null] below meth c s₁ [] 0 0 := Stand.of_body Bd
  have hZ : Z.Warmed39 (s.setVm s.vm).vm := hZ
  have hown : (s.setVm s.vm).vm.findClass "java/lang/String" = some m.cls := hown
  have hS0 : s.Since s.vm h0.size := (State.WarmedH.refl s).since _
  have e0 : s₁.heap = h0 := by rw [← hh, Bd.state]; rfl
  have N0 := Fr.nil n0
  show OGo p e below (fun s₂ o => ∃ v L, o = .returned v ∧ (Qsi0 Z a1 a2 kc h0 n0 v s₂.heap L ∧ own_Inv Z s₂.vm s₂.heap) ∧ ReturnedEndW s o s₂ L ({ frames := 1, cells := 2, slots := 4, locals := 12 } : Room).cells ({ frames := 1, cells := 2, slots := 4, locals := 12 } : Room).slots) _
  refine OGo.to (fun _ k => castTop (ef_si0 m a1 a2 (0 : Int32) (0 : Int32)) k) ?_
  refine OGo.to (fun _ k => XS.aloadN X0.here hx rfl (hb hby d3_0) rfl rfl k) ?_
  obtain ⟨T_1, X_1, e_1, st_1⟩ := initO X0 hx hZ hown (hw _ (List.mem_of_getElem? (i := 15) rfl)) (hw _ (List.mem_of_getElem? (i := 16) rfl)) (hw _ (List.mem_of_getElem? (i := 17) rfl)) e0 (g := (mkF m 1 #[.val (.ref a1), .val (.ref a2), .val (.int (0 : Int32)), .val (.int (0 : Int32)), .val .null, .unset] [(.ref a1)])) rfl (by rw [hml]; rfl) rfl (hb hby d3_1) (by decide) (W := 0) (by show 2 * 0 + _ ≤ _; exact Nat.le_of_eq rfl) (by decide)
  refine OGo.to st_1 ?_
  show OGo p e below _ (T_1.setTop (mkF m 4 #[.val (.ref a1), .val (.ref a2), .val (.int (0 : Int32)), .val (.int (0 : Int32)), .val .null, .unset] []))
  refine OGo.to (fun _ k => XS.iloadN X_1.here hx rfl (hb hby d3_4) rfl k) ?_
  have hc5__2 : (0 : Int32) = (0 : Int32) := by decide
  refine OGo.to (fun _ k => XS.ifNo X_1.here hx rfl (hb hby d3_5) rfl ((if0 _ _).trans (teq hc5__2).2) k) ?_
  show OGo p e below _ (T_1.setTop (mkF m 8 #[.val (.ref a1), .val (.ref a2), .val (.int (0 : Int32)), .val (.int (0 : Int32)), .val .null, .unset] []))
  refine OGo.to (fun _ k => XS.aloadN X_1.here hx rfl (hb hby d3_8) rfl rfl k) ?_
  rcases hI with hI | ⟨al, Ll, El⟩
  ·  -- cold
    obtain ⟨al, T_3, h_3, k_3, bl, kl, X_3, e_3, E_3, hS_3, hk_3, hZ, hown, EA, FC, FV, VA, -, -, -, LI, st_3⟩ := ldcSVL X_1 hx hZ hown (hw _ (List.mem_of_getElem? (i := 18) rfl)) (own_wS hw) e_1 hS0 (Nat.le_refl h0.size) (Fr.nil _) (fun b cl q => by rw [hh]; exact O0.2.2 b cl q) (own_IB0 hI) List.not_mem_nil HH HW (vs := []) (z := (0 : Int32)) ⟨by decide, rfl⟩ (by decide) rfl (g := (mkF m 9 #[.val (.ref a1), .val (.ref a2), .val (.int (0 : Int32)), .val (.int (0 : Int32)), .val .null, .unset] [(.ref a1)])) rfl (hb hby d3_9) (n := 0) (by decide) (by decide) (by decide) (by decide)
    refine OGo.to st_3 ?_
    have z_4 : n0 ≤ h_3.size := Nat.le_trans Z0 E_3.1
    have O_5 : Old Z n0 h_3 := O0.ext E_3
    have K_6 : Keep h0 h_3 [a1] := (Keep.refl h0 [a1]).ext E_3
    have f_7 : Fld Z h_3 a1 "java/lang/String" "value" "[B" .null := (F1.ext E_3)
    have f_8 : Exa Z h_3 a1 "java/lang/String" := (E1.ext E_3)
    have n1a : a1 ≠ al := own_neF f_7 FV (by simp)
    have n1b : a1 ≠ bl := Exa.neArv f_8 VA (hw _ (List.mem_of_getElem? (i := 5) rfl))
    show OGo p e below _ (T_3.setTop (mkF m 11 #[.val (.ref a1), .val (.ref a2), .val (.int (0 : Int32)), .val (.int (0 : Int32)), .val .null, .unset] [(.ref al), (.ref a1)]))
    obtain ⟨T_9, X_9, e_9, st_9⟩ := getF X_3 hx hZ hown (host := "") (Or.inl (hw _ (List.mem_of_getElem? (i := 24) rfl))) Via.refl e_3 FV (g := (mkF m 11 #[.val (.ref a1), .val (.ref a2), .val (.int (0 : Int32)), .val (.int (0 : Int32)), .val .null, .unset] [(.ref al), (.ref a1)])) rfl rfl (hb hby d3_11)
    refine OGo.to st_9 ?_
    show OGo p e below _ (T_9.setTop (mkF m 14 #[.val (.ref a1), .val (.ref a2), .val (.int (0 : Int32)), .val (.int (0 : Int32)), .val .null, .unset] [(.ref bl), (.ref a1)]))
    obtain ⟨T_10, h_10, X_10, e_10, W_10, st_10⟩ := putF X_9 hx hZ hown (host := "") (Or.inl (hw _ (List.mem_of_getElem? (i := 24) rfl))) Via.refl e_9 f_7 f_8 (Or.inr ⟨(hw _ (List.mem_of_getElem? (i := 20) rfl)), rfl, hnm⟩) (hw _ (List.mem_of_getElem? (i := 5) rfl)) (ty := (.array .byte)) (by decide) rfl rfl (g := (mkF m 14 #[.val (.ref a1), .val (.ref a2), .val (.int (0 : Int32)), .val (.int (0 : Int32)), .val .null, .unset] [(.ref bl), (.ref a1)])) rfl rfl (hb hby d3_14)
    refine OGo.to st_10 ?_
    have Fw_10 : Fld Z h_10 a1 "java/lang/String" "value" "[B" (.ref bl) := f_7.same W_10
    have N_10 := Fr.snoc X_10 N0 g1
    have z_11 : n0 ≤ h_10.size := Nat.le_trans z_4 (Keep.of_wr W_10).1
    have O_12 : Old Z n0 h_10 := O_5.wr W_10 g1
    have K_13 : Keep h0 h_10 [a1] := K_6.wr W_10 (Or.inl (List.mem_of_getElem? (i := 0) rfl))
    show OGo p e below _ (T_10.setTop (mkF m 17 #[.val (.ref a1), .val (.ref a2), .val (.int (0 : Int32)), .val (.int (0 : Int32)), .val .null, .unset] []))
    refine OGo.to (fun _ k => XS.aloadN X_10.here hx rfl (hb hby d3_17) rfl rfl k) ?_
    refine OGo.to (fun _ k => ldcAgain X_10 hx hZ hown (hw _ (List.mem_of_getElem? (i := 18) rfl)) LI (g := (mkF m 18 #[.val (.ref a1), .val (.ref a2), .val (.int (0 : Int32)), .val (.int (0 : Int32)), .val .null, .unset] [(.ref a1)])) rfl (hb hby d3_18) _ k) ?_
    show OGo p e below _ (T_10.setTop (mkF m 20 #[.val (.ref a1), .val (.ref a2), .val (.int (0 : Int32)), .val (.int (0 : Int32)), .val .null, .unset] [(.ref al), (.ref a1)]))
    have f_14 : Fld Z h_10 al "java/lang/String" "coder" "B" (.int (0 : Int32)) := (FC.other W_10 (Or.inl (Ne.symm n1a)))
    obtain ⟨T_15, X_15, e_15, st_15⟩ := getF X_10 hx hZ hown (host := "") (Or.inl (hw _ (List.mem_of_getElem? (i := 25) rfl))) Via.refl e_10 f_14 (g := (mkF m 20 #[.val (.ref a1), .val (.ref a2), .val (.int (0 : Int32)), .val (.int (0 : Int32)), .val .null, .unset] [(.ref al), (.ref a1)])) rfl rfl (hb hby d3_20)
    refine OGo.to st_15 ?_
    show OGo p e below _ (T_15.setTop (mkF m 23 #[.val (.ref a1), .val (.ref a2), .val (.int (0 : Int32)), .val (.int (0 : Int32)), .val .null, .unset] [(.int (0 : Int32)), (.ref a1)]))
    have f_16 : Exa Z h_10 a1 "java/lang/String" := (f_8.wr W_10)
    have f_17 : Fld Z h_10 a1 "java/lang/String" "coder" "B" (.int (0 : Int32)) := ((F2.ext E_3).other W_10 (Or.inr (slot_ne (Or.inr (hw _ (List.mem_of_getElem? (i := 21) rfl))) (Or.inr (hw _ (List.mem_of_getElem? (i := 20) rfl))) (by decide) (t := .byte) (t' := (.array .byte)) (by decide) (by decide))))
    obtain ⟨T_18, h_18, X_18, e_18, W_18, st_18⟩ := putF X_15 hx hZ hown (host := "") (Or.inl (hw _ (List.mem_of_getElem? (i := 25) rfl))) Via.refl e_15 f_17 f_16 (Or.inr ⟨(hw _ (List.mem_of_getElem? (i := 21) rfl)), rfl, hnm⟩) (hw _ (List.mem_of_getElem? (i := 5) rfl)) (ty := .byte) (by decide) rfl rfl (g := (mkF m 23 #[.val (.ref a1), .val (.ref a2), .val (.int (0 : Int32)), .val (.int (0 : Int32)), .val .null, .unset] [(.int (0 : Int32)), (.ref a1)])) rfl rfl (hb hby d3_23)
    refine OGo.to st_18 ?_
    have Fw_18 : Fld Z h_18 a1 "java/lang/String" "coder" "B" (.int (0 : Int32)) := f_17.same W_18
    have N_18 := Fr.snoc X_18 N_10 g1
    have z_19 : n0 ≤ h_18.size := Nat.le_trans z_11 (Keep.of_wr W_18).1
    have O_20 : Old Z n0 h_18 := O_12.wr W_18 g1
    have K_21 : Keep h0 h_18 [a1] := K_13.wr W_18 (Or.inl (List.mem_of_getElem? (i := 0) rfl))
    show OGo p e below _ (T_18.setTop (mkF m 26 #[.val (.ref a1), .val (.ref a2), .val (.int (0 : Int32)), .val (.int (0 : Int32)), .val .null, .unset] []))
    have f_22 : Exa Z h_18 al "java/lang/String" := ((EA.wr W_10).wr W_18)
    have f_23 : Fld Z h_18 al "java/lang/String" "coder" "B" (.int (0 : Int32)) := (f_14.other W_18 (Or.inl (Ne.symm n1a)))
    have f_24 : Fld Z h_18 al "java/lang/String" "value" "[B" (.ref bl) := ((FV.other W_10 (Or.inl (Ne.symm n1a))).other W_18 (Or.inl (Ne.symm n1a)))
    have f_25 : Arv Z h_18 bl kl .byte (0 : Int32) [] (.int (0 : Int32)) := ((VA.other W_10 (Ne.symm n1b)).other W_18 (Ne.symm n1b))
    have hI26 : own_Inv Z T_3.vm h_18 := Or.inr ⟨al, own_litMv LI, f_22, f_23, bl, kl, f_24, f_25⟩
    refine OGo.retI (Q := Qsi0 Z a1 a2 kc h0 n0) (I := own_Inv Z) X_18 hS_3 (by rw [e_18]; exact (Nat.le_trans (Nat.le_trans hk_3 (Keep.of_wr W_10).1) (Keep.of_wr W_18).1)) none (fun _ => rfl) Bd.notSynchronized (fun fs hr => X_18.returnOut hx Bd.returns (hb hby d3_26) hr) ?_ ?_ (by decide) (by decide)
    rotate_left
    · exact own_Inv.warm (e_18.symm ▸ hI26) X_18.warmed
    have f_26 : Fld Z h_18 a1 "java/lang/String" "value" "[B" (.ref bl) := (Fw_10.other W_18 (Or.inr (slot_ne (Or.inr (hw _ (List.mem_of_getElem? (i := 20) rfl))) (Or.inr (hw _ (List.mem_of_getElem? (i := 21) rfl))) (by decide) (t := (.array .byte)) (t' := .byte) (by decide) (by decide))))
    show Qsi0 Z a1 a2 kc h0 n0 _ T_18.heap _
    rw [e_18]
    exact ⟨bl, kl, rfl, N_18, K_21, f_26, Fw_18, f_25⟩
  ·  -- warm
    obtain ⟨EA, FC, bl, kl, FV, VA⟩ := El
    have LI := own_litMv (Z := s) Ll
    refine OGo.to (fun _ k => ldcAgain X_1 hx hZ hown (hw _ (List.mem_of_getElem? (i := 18) rfl)) LI (g := (mkF m 9 #[.val (.ref a1), .val (.ref a2), .val (.int (0 : Int32)), .val (.int (0 : Int32)), .val .null, .unset] [(.ref a1)])) rfl (hb hby d3_9) _ k) ?_
    have n1a : a1 ≠ al := own_neF F1 FV (by simp)
    have n1b : a1 ≠ bl := Exa.neArv E1 VA (hw _ (List.mem_of_getElem? (i := 5) rfl))
    show OGo p e below _ (T_1.setTop (mkF m 11 #[.val (.ref a1), .val (.ref a2), .val (.int (0 : Int32)), .val (.int (0 : Int32)), .val .null, .unset] [(.ref al), (.ref a1)]))
    obtain ⟨T_28, X_28, e_28, st_28⟩ := getF X_1 hx hZ hown (host := "") (Or.inl (hw _ (List.mem_of_getElem? (i := 24) rfl))) Via.refl e_1 FV (g := (mkF m 11 #[.val (.ref a1), .val (.ref a2), .val (.int (0 : Int32)), .val (.int (0 : Int32)), .val .null, .unset] [(.ref al), (.ref a1)])) rfl rfl (hb hby d3_11)
    refine OGo.to st_28 ?_
    show OGo p e below _ (T_28.setTop (mkF m 14 #[.val (.ref a1), .val (.ref a2), .val (.int (0 : Int32)), .val (.int (0 : Int32)), .val .null, .unset] [(.ref bl), (.ref a1)]))
    obtain ⟨T_29, h_29, X_29, e_29, W_29, st_29⟩ := putF X_28 hx hZ hown (host := "") (Or.inl (hw _ (List.mem_of_getElem? (i := 24) rfl))) Via.refl e_28 F1 E1 (Or.inr ⟨(hw _ (List.mem_of_getElem? (i := 20) rfl)), rfl, hnm⟩) (hw _ (List.mem_of_getElem? (i := 5) rfl)) (ty := (.array .byte)) (by decide) rfl rfl (g := (mkF m 14 #[.val (.ref a1), .val (.ref a2), .val (.int (0 : Int32)), .val (.int (0 : Int32)), .val .null, .unset] [(.ref bl), (.ref a1)])) rfl rfl (hb hby d3_14)
    refine OGo.to st_29 ?_
    have Fw_29 : Fld Z h_29 a1 "java/lang/String" "value" "[B" (.ref bl) := F1.same W_29
    have N_29 := Fr.snoc X_29 N0 g1
    have z_30 : n0 ≤ h_29.size := Nat.le_trans Z0 (Keep.of_wr W_29).1
    have O_31 : Old Z n0 h_29 := O0.wr W_29 g1
    have K_32 : Keep h0 h_29 [a1] := (Keep.refl h0 [a1]).wr W_29 (Or.inl (List.mem_of_getElem? (i := 0) rfl))
    show OGo p e below _ (T_29.setTop (mkF m 17 #[.val (.ref a1), .val (.ref a2), .val (.int (0 : Int32)), .val (.int (0 : Int32)), .val .null, .unset] []))
    refine OGo.to (fun _ k => XS.aloadN X_29.here hx rfl (hb hby d3_17) rfl rfl k) ?_
    refine OGo.to (fun _ k => ldcAgain X_29 hx hZ hown (hw _ (List.mem_of_getElem? (i := 18) rfl)) LI (g := (mkF m 18 #[.val (.ref a1), .val (.ref a2), .val (.int (0 : Int32)), .val (.int (0 : Int32)), .val .null, .unset] [(.ref a1)])) rfl (hb hby d3_18) _ k) ?_
    show OGo p e below _ (T_29.setTop (mkF m 20 #[.val (.ref a1), .val (.ref a2), .val (.int (0 : Int32)), .val (.int (0 : Int32)), .val .null, .unset] [(.ref al), (.ref a1)]))
    have f_33 : Fld Z h_29 al "java/lang/String" "coder" "B" (.int (0 : Int32)) := (FC.other W_29 (Or.inl (Ne.symm n1a)))
    obtain ⟨T_34, X_34, e_34, st_34⟩ := getF X_29 hx hZ hown (host := "") (Or.inl (hw _ (List.mem_of_getElem? (i := 25) rfl))) Via.refl e_29 f_33 (g := (mkF m 20 #[.val (.ref a1), .val (.ref a2), .val (.int (0 : Int32)), .val (.int (0 : Int32)), .val .null, .unset] [(.ref al), (.ref a1)])) rfl rfl (hb hby d3_20)
    refine OGo.to st_34 ?_
    show OGo p e below _ (T_34.setTop (mkF m 23 #[.val (.ref a1), .val (.ref a2), .val (.int (0 : Int32)), .val (.int (0 : Int32)), .val .null, .unset] [(.int (0 : Int32)), (.ref a1)]))
    have f_35 : Exa Z h_29 a1 "java/lang/String" := (E1.wr W_29)
    have f_36 : Fld Z h_29 a1 "java/lang/String" "coder" "B" (.int (0 : Int32)) := (F2.other W_29 (Or.inr (slot_ne (Or.inr (hw _ (List.mem_of_getElem? (i := 21) rfl))) (Or.inr (hw _ (List.mem_of_getElem? (i := 20) rfl))) (by decide) (t := .byte) (t' := (.array .byte)) (by decide) (by decide))))
    obtain ⟨T_37, h_37, X_37, e_37, W_37, st_37⟩ := putF X_34 hx hZ hown (host := "") (Or.inl (hw _ (List.mem_of_getElem? (i := 25) rfl))) Via.refl e_34 f_36 f_35 (Or.inr ⟨(hw _ (List.mem_of_getElem? (i := 21) rfl)), rfl, hnm⟩) (hw _ (List.mem_of_getElem? (i := 5) rfl)) (ty := .byte) (by decide) rfl rfl (g := (mkF m 23 #[.val (.ref a1), .val (.ref a2), .val (.int (0 : Int32)), .val (.int (0 : Int32)), .val .null, .unset] [(.int (0 : Int32)), (.ref a1)])) rfl rfl (hb hby d3_23)
    refine OGo.to st_37 ?_
    have Fw_37 : Fld Z h_37 a1 "java/lang/String" "coder" "B" (.int (0 : Int32)) := f_36.same W_37
    have N_37 := Fr.snoc X_37 N_29 g1
    have z_38 : n0 ≤ h_37.size := Nat.le_trans z_30 (Keep.of_wr W_37).1
    have O_39 : Old Z n0 h_37 := O_31.wr W_37 g1
    have K_40 : Keep h0 h_37 [a1] := K_32.wr W_37 (Or.inl (List.mem_of_getElem? (i := 0) rfl))
    show OGo p e below _ (T_37.setTop (mkF m 26 #[.val (.ref a1), .val (.ref a2), .val (.int (0 : Int32)), .val (.int (0 : Int32)), .val .null, .unset] []))
    have f_41 : Exa Z h_37 al "java/lang/String" := ((EA.wr W_29).wr W_37)
    have f_42 : Fld Z h_37 al "java/lang/String" "coder" "B" (.int (0 : Int32)) := (f_33.other W_37 (Or.inl (Ne.symm n1a)))
    have f_43 : Fld Z h_37 al "java/lang/String" "value" "[B" (.ref bl) := ((FV.other W_29 (Or.inl (Ne.symm n1a))).other W_37 (Or.inl (Ne.symm n1a)))
    have f_44 : Arv Z h_37 bl kl .byte (0 : Int32) [] (.int (0 : Int32)) := ((VA.other W_29 (Ne.symm n1b)).other W_37 (Ne.symm n1b))
    have hI26 : own_Inv Z s.vm h_37 := Or.inr ⟨al, own_litMv LI, f_41, f_42, bl, kl, f_43, f_44⟩
    refine OGo.retI (Q := Qsi0 Z a1 a2 kc h0 n0) (I := own_Inv Z) X_37 hS0 (by rw [e_37]; exact (Nat.le_trans (Nat.le_trans (Nat.le_refl h0.size) (Keep.of_wr W_29).1) (Keep.of_wr W_37).1)) none (fun _ => rfl) Bd.notSynchronized (fun fs hr => X_37.returnOut hx Bd.returns (hb hby d3_26) hr) ?_ ?_ (by decide) (by decide)
    rotate_left
    · exact own_Inv.warm (e_37.symm ▸ hI26) X_37.warmed
    have f_45 : Fld Z h_37 a1 "java/lang/String" "value" "[B" (.ref bl) := (Fw_29.other W_37 (Or.inr (slot_ne (Or.inr (hw _ (List.mem_of_getElem? (i := 20) rfl))) (Or.inr (hw _ (List.mem_of_getElem? (i := 21) rfl))) (by decide) (t := (.array .byte)) (t' := .byte) (by decide) (by decide))))
    show Qsi0 Z a1 a2 kc h0 n0 _ T_37.heap _
    rw [e_37]
    exact ⟨bl, kl, rfl, N_37, K_40, f_45, Fw_37, f_44⟩
theorem ef_sc0 (m : MethodId) (x0 : Addr) (x1 : Addr) : entryFrame m #[(.ref x0), (.ref x1)] 2 = mkF m 0 #[.val (.ref x0), .val (.ref x1)] [] := by first | (simp [entryFrame, mkF, argsToLocals, Value.category]; done) | rfl
def Qsc0 (Z : State) (a1 : Addr) (a2 : Addr) (kc : ClassId) (h0 : Heap) (n0 : Nat) (v : Option Value) (h : Heap) (L : List Loc) : Prop := ∃ (b : Addr), ∃ (kb : ClassId), v = none ∧ Fr n0 L ∧ Keep h0 h [a1] ∧ Fld Z h a1 "java/lang/String" "value" "[B" (.ref b) ∧ Fld Z h a1 "java/lang/String" "coder" "B" (.int (0 : Int32)) ∧ Arv Z h b kb .byte (0 : Int32) [] (.int (0 : Int32))
set_option maxRecDepth 65536 in
set_option maxHeartbeats 40000000 in
theorem rmsc0 (l : Launch) (Z : State) (a0 : Array Value) (hw : ∀ d ∈ tables_1, d.before a0 Z = true) (ws : List Jvm.Cond) (a1 : Addr) (a2 : Addr) (kc : ClassId) (h0 : Heap) (n0 : Nat) (Z0 : n0 ≤ h0.size) (E1 : Exa Z h0 a1 "java/lang/String") (F1 : Fld Z h0 a1 "java/lang/String" "value" "[B" .null) (F2 : Fld Z h0 a1 "java/lang/String" "coder" "B" (.int (0 : Int32))) (g1 : n0 ≤ a1) (VA0 : Arv Z h0 a2 kc .char (0 : Int32) [] (.int (0 : Int32))) (n12 : a1 ≠ a2) (O0 : Old Z n0 h0) (HH : Jvm.Lit.constHeld Z "java/lang/String" 7) (HW : Jvm.Lit.compactW.before a0 Z = true) :
    MetFree l (⟨"java/lang/String", "<init>", "([C)V"⟩ : MethodName) (head1 (Jvm.Cond.code (⟨"java/lang/String", "<init>", "([C)V"⟩ : MethodName) jdk_42_method_3_code 2 none :: ws) ({ frames := 2, cells := 2, slots := 4, locals := 29 } : Room)) (fun a U => a = #[(.ref a1), (.ref a2)] ∧ Z.Warmed39 U.vm ∧ U.heap = h0 ∧ own_Inv Z U.vm h0) (fun _ _ _ _ _ => True) (fun _ U o U' => ∃ v L, o = .returned v ∧ (Qsc0 Z a1 a2 kc h0 n0 v U'.heap L ∧ own_Inv Z U'.vm U'.heap) ∧ ReturnedEndW U o U' L ({ frames := 2, cells := 2, slots := 4, locals := 29 } : Room).cells ({ frames := 2, cells := 2, slots := 4, locals := 29 } : Room).slots) := by
  refine MetFree.of_bodySF (plainFor_of_name pn_1) hisR ?_
  intro p e s m args below meth c s₁ Bd hml0 hP hK
  obtain ⟨rfl, hZ, hh, hI⟩ := hP
  have hx := Bd.exec
  have hby := Bd.bytes
  have hml : c.maxLocals = 2 := hml0
  have hown : s.vm.findClass "java/lang/String" = some m.cls := findClass_of_methodNamed Bd.named
  have hnm := (name_of_methodNamed Bd.named Bd.method).1
  have X0 : Stand p l e ({ frames := 2, cells := 2, slots := 4, locals := 29 } : Room) (s.setVm s.vm) m #[(.ref a1), (.ref a2)] below meth c s₁ [] 0 0 := Stand.of_body Bd
  have hZ : Z.Warmed39 (s.setVm s.vm).vm := hZ
  have hown : (s.setVm s.vm).vm.findClass "java/lang/String" = some m.cls := hown
  have hS0 : s.Since s.vm h0.size := (State.WarmedH.refl s).since _
  have e0 : s₁.heap = h0 := by rw [← hh, Bd.state]; rfl
  have N0 := Fr.nil n0
  show OGo p e below (fun s₂ o => ∃ v L, o = .returned v ∧ (Qsc0 Z a1 a2 kc h0 n0 v s₂.heap L ∧ own_Inv Z s₂.vm s₂.heap) ∧ ReturnedEndW s o s₂ L ({ frames := 2, cells := 2, slots := 4, locals := 29 } : Room).cells ({ frames := 2, cells := 2, slots := 4, locals := 29 } : Room).slots) _
  refine OGo.to (fun _ k => castTop (ef_sc0 m a1 a2) k) ?_
  refine OGo.to (fun _ k => XS.aloadN X0.here hx rfl (hb hby d2_0) rfl rfl k) ?_
  refine OGo.to (fun _ k => XS.aloadN X0.here hx rfl (hb hby d2_1) rfl rfl k) ?_
  refine OGo.to (fun _ k => XS.iconst X0.here hx rfl (hb hby d2_2) k) ?_
  refine OGo.to (fun _ k => XS.aloadN X0.here hx rfl (hb hby d2_3) rfl rfl k) ?_
  have Vq_1 := VA0
  obtain ⟨cl_1, Ar_1, q_1, S_1, M_1, Hs_1, G_1⟩ := Vq_1
  refine OGo.to (fun _ k => X0.arraylength hx (by rw [e0]; exact Ar_1.1) (State.isArrayOf_alike hZ.alike Ar_1.2.1) (g := (mkF m 4 #[.val (.ref a1), .val (.ref a2)] [(.ref a2), (.int (0 : Int32)), (.ref a2), (.ref a1)])) rfl rfl (hb hby d2_4) _ k) ?_
  rw [len_of S_1 M_1]
  show OGo p e below _ (s₁.setTop (mkF m 5 #[.val (.ref a1), .val (.ref a2)] [(.int (0 : Int32)), (.int (0 : Int32)), (.ref a2), (.ref a1)]))
  refine OGo.to (fun _ k => XS.aconstNull X0.here hx rfl (hb hby d2_5) k) ?_
  obtain ⟨_, T_2, Lc_2, X_2, hS_2, hZ, hown, hQ_2, st_2⟩ := own_unS hS0 (by rw [e0]; exact (Nat.le_refl h0.size)) hZ hown X0 (Q := fun v U L => Qsi0 Z a1 a2 kc h0 n0 v U.heap L ∧ own_Inv Z U.vm U.heap) (rc := 2) (rs := 4) (W := fun v B => Steps p.tables e below (s₁.setTop (mkF m 6 #[.val (.ref a1), .val (.ref a2)] [.null, (.int (0 : Int32)), (.int (0 : Int32)), (.ref a2), (.ref a1)])) (B.setTop { (mkF m 6 #[.val (.ref a1), .val (.ref a2)] [.null, (.int (0 : Int32)), (.int (0 : Int32)), (.ref a2), (.ref a1)]) with pc := 9, stack := v.toList ++ [] })) <| X0.specialBackS hx (y := (⟨"java/lang/String", "<init>", "([CIILjava/lang/Void;)V"⟩ : MethodName)) rfl hown (mvT hZ (hw _ (List.mem_of_getElem? (i := 11) rfl))) (mvT hZ (hw _ (List.mem_of_getElem? (i := 12) rfl))) (mvT hZ (hw _ (List.mem_of_getElem? (i := 14) rfl))) (by decide) (own_backOfI (I := own_Inv Z) (W := 0) (rmsi0 l Z a0 hw [] a1 a2 kc h0 n0 Z0 E1 F1 F2 g1 VA0 n12 O0 (HH) (HW)) (fun _ W_ => own_Inv.warm hI W_) hZ (hw _ (List.mem_of_getElem? (i := 14) rfl)) (hw _ (List.mem_of_getElem? (i := 6) rfl)) (by decide) (by decide)) (g := (mkF m 6 #[.val (.ref a1), .val (.ref a2)] [.null, (.int (0 : Int32)), (.int (0 : Int32)), (.ref a2), (.ref a1)])) rfl (by rw [hml]; rfl) (Steps.refl _) (a := a1) (argsL := [(.ref a2), (.int (0 : Int32)), (.int (0 : Int32)), .null]) (rest := []) (lenOf pd_6 rfl) rfl (by show 2 * 0 + _ ≤ _; exact Nat.le_of_eq rfl) (hb hby d2_6) (fun _ _ => ⟨rfl, e0, (by decide : 0 + 2 ≤ _), (by decide : 0 + 4 ≤ _)⟩)
  obtain ⟨hQ_2, hI_2⟩ := hQ_2
  obtain ⟨b__2, kb__2, rfl, N_2q, K_2, p_2_0, p_2_1, p_2_2⟩ := hQ_2
  have N_2 := Fr.app N0 N_2q
  refine OGo.to (fun _ k => st_2.trans k) ?_
  have z_3 : n0 ≤ T_2.heap.size := Nat.le_trans Z0 K_2.1
  have O_4 : Old Z n0 T_2.heap := O0.keep K_2 (allS g1 all0)
  have K_5 : Keep h0 T_2.heap [a1] := (Keep.refl h0 [a1]).trans K_2 (by intro x hx'; cases List.mem_singleton.mp hx'; exact (Or.inl (List.mem_of_getElem? (i := 0) rfl)))
  show OGo p e below _ (T_2.setTop (mkF m 9 #[.val (.ref a1), .val (.ref a2)] []))
  refine OGo.retI (Q := Qsc0 Z a1 a2 kc h0 n0) (I := own_Inv Z) X_2 hS_2 (Nat.le_refl T_2.heap.size) none (fun _ => rfl) Bd.notSynchronized (fun fs hr => X_2.returnOut hx Bd.returns (hb hby d2_9) hr) ?_ ?_ (by decide) (by decide)
  rotate_left
  · exact own_Inv.warm hI_2 X_2.warmed
  show Qsc0 Z a1 a2 kc h0 n0 _ T_2.heap _
  exact ⟨b__2, kb__2, rfl, N_2, K_5, p_2_0, p_2_1, p_2_2⟩
theorem d1_0 : decode method_2_code 0 = .ok (.iload_n 0, 1) := by decide +kernel
theorem d1_1 : decode method_2_code 1 = .ok (.sipush 255, 3) := by decide +kernel
theorem d1_4 : decode method_2_code 4 = .ok (.iand, 1) := by decide +kernel
theorem d1_5 : decode method_2_code 5 = .ok (.i2c, 1) := by decide +kernel
theorem d1_6 : decode method_2_code 6 = .ok (.istore_n 1, 1) := by decide +kernel
theorem d1_7 : decode method_2_code 7 = .ok (.iload_n 0, 1) := by decide +kernel
theorem d1_8 : decode method_2_code 8 = .ok (.bipush 8, 2) := by decide +kernel
theorem d1_10 : decode method_2_code 10 = .ok (.iushr, 1) := by decide +kernel
theorem d1_11 : decode method_2_code 11 = .ok (.sipush 255, 3) := by decide +kernel
theorem d1_14 : decode method_2_code 14 = .ok (.iand, 1) := by decide +kernel
theorem d1_15 : decode method_2_code 15 = .ok (.i2c, 1) := by decide +kernel
theorem d1_16 : decode method_2_code 16 = .ok (.istore_n 2, 1) := by decide +kernel
theorem d1_17 : decode method_2_code 17 = .ok (.iload_n 0, 1) := by decide +kernel
theorem d1_18 : decode method_2_code 18 = .ok (.bipush 16, 2) := by decide +kernel
theorem d1_20 : decode method_2_code 20 = .ok (.iushr, 1) := by decide +kernel
theorem d1_21 : decode method_2_code 21 = .ok (.sipush 32767, 3) := by decide +kernel
theorem d1_24 : decode method_2_code 24 = .ok (.iand, 1) := by decide +kernel
theorem d1_25 : decode method_2_code 25 = .ok (.iconst 3, 1) := by decide +kernel
theorem d1_26 : decode method_2_code 26 = .ok (.irem, 1) := by decide +kernel
theorem d1_27 : decode method_2_code 27 = .ok (.istore_n 3, 1) := by decide +kernel
theorem d1_28 : decode method_2_code 28 = .ok (.iload_n 3, 1) := by decide +kernel
theorem d1_29 : decode method_2_code 29 = .ok (.ifCond .ne 14, 3) := by decide +kernel
theorem d1_32 : decode method_2_code 32 = .ok (.new 7, 3) := by decide +kernel
theorem d1_35 : decode method_2_code 35 = .ok (.dup, 1) := by decide +kernel
theorem d1_36 : decode method_2_code 36 = .ok (.iconst 0, 1) := by decide +kernel
theorem d1_37 : decode method_2_code 37 = .ok (.newarray .char, 2) := by decide +kernel
theorem d1_39 : decode method_2_code 39 = .ok (.invokespecial 9, 3) := by decide +kernel
theorem d1_42 : decode method_2_code 42 = .ok (.areturn, 1) := by decide +kernel
theorem d1_43 : decode method_2_code 43 = .ok (.iload_n 3, 1) := by decide +kernel
theorem d1_44 : decode method_2_code 44 = .ok (.iconst 1, 1) := by decide +kernel
theorem d1_45 : decode method_2_code 45 = .ok (.if_icmp .ne 8, 3) := by decide +kernel
theorem d1_48 : decode method_2_code 48 = .ok (.iload_n 1, 1) := by decide +kernel
theorem d1_49 : decode method_2_code 49 = .ok (.invokestatic 12, 3) := by decide +kernel
theorem d1_52 : decode method_2_code 52 = .ok (.areturn, 1) := by decide +kernel
theorem d1_53 : decode method_2_code 53 = .ok (.new 7, 3) := by decide +kernel
theorem d1_56 : decode method_2_code 56 = .ok (.dup, 1) := by decide +kernel
theorem d1_57 : decode method_2_code 57 = .ok (.iconst 2, 1) := by decide +kernel
theorem d1_58 : decode method_2_code 58 = .ok (.newarray .char, 2) := by decide +kernel
theorem d1_60 : decode method_2_code 60 = .ok (.dup, 1) := by decide +kernel
theorem d1_61 : decode method_2_code 61 = .ok (.iconst 0, 1) := by decide +kernel
theorem d1_62 : decode method_2_code 62 = .ok (.iload_n 1, 1) := by decide +kernel
theorem d1_63 : decode method_2_code 63 = .ok (.castore, 1) := by decide +kernel
theorem d1_64 : decode method_2_code 64 = .ok (.dup, 1) := by decide +kernel
theorem d1_65 : decode method_2_code 65 = .ok (.iconst 1, 1) := by decide +kernel
theorem d1_66 : decode method_2_code 66 = .ok (.iload_n 2, 1) := by decide +kernel
theorem d1_67 : decode method_2_code 67 = .ok (.castore, 1) := by decide +kernel
theorem d1_68 : decode method_2_code 68 = .ok (.invokespecial 9, 3) := by decide +kernel
theorem d1_71 : decode method_2_code 71 = .ok (.areturn, 1) := by decide +kernel
theorem ef_mk (m : MethodId) (x0 : Int32) : entryFrame m #[(.int x0)] 4 = mkF m 0 #[.val (.int x0), .unset, .unset, .unset] [] := by first | (simp [entryFrame, mkF, argsToLocals, Value.category]; done) | rfl
def Qmk (Z : State) (p1 : Int32) (cs : Int32) (h0 : Heap) (n0 : Nat) (v : Option Value) (h : Heap) (L : List Loc) : Prop := ∃ (o : Addr), ∃ (b : Addr), ∃ (kb : ClassId), v = some (.ref o) ∧ Fr n0 L ∧ Keep h0 h [] ∧ n0 ≤ o ∧ h0.size ≤ o ∧ Exa Z h o "java/lang/String" ∧ Fld Z h o "java/lang/String" "coder" "B" (.int (0 : Int32)) ∧ Fld Z h o "java/lang/String" "value" "[B" (.ref b) ∧ Arv Z h b kb .byte (own_i (own_mk p1).length) ((own_mk p1).map Value.int) (.int (0 : Int32))
set_option maxRecDepth 65536 in
set_option maxHeartbeats 40000000 in
theorem rmmk (l : Launch) (Z : State) (a0 : Array Value) (hw : ∀ d ∈ tables_1, d.before a0 Z = true) (ws : List Jvm.Cond) (p1 : Int32) (cs : Int32) (h0 : Heap) (n0 : Nat) (Z0 : n0 ≤ h0.size) (SC : Sta Z Z.heap "java/lang/String" "COMPACT_STRINGS" "Z" (.int cs)) (O0 : Old Z n0 h0) (hcs : ¬ (cs = (0 : Int32))) (HH : Jvm.Lit.constHeld Z "java/lang/String" 7) (HW : Jvm.Lit.compactW.before a0 Z = true) :
    MetFree l (⟨"com/example/cogram/cogram/model/TermPairEqualsPinLaw", "mk", "(I)Ljava/lang/String;"⟩ : MethodName) (head1 (Jvm.Cond.code (⟨"com/example/cogram/cogram/model/TermPairEqualsPinLaw", "mk", "(I)Ljava/lang/String;"⟩ : MethodName) method_2_code 4 (some (.object "java/lang/String")) :: ws) ({ frames := 4, cells := 4, slots := 8, locals := 66 } : Room)) (fun a U => a = #[(.int p1)] ∧ Z.Warmed39 U.vm ∧ U.heap = h0 ∧ own_Inv Z U.vm h0) (fun _ _ _ _ _ => True) (fun _ U o U' => ∃ v L, o = .returned v ∧ (Qmk Z p1 cs h0 n0 v U'.heap L ∧ own_Inv Z U'.vm U'.heap) ∧ ReturnedEndW U o U' L ({ frames := 4, cells := 4, slots := 8, locals := 66 } : Room).cells ({ frames := 4, cells := 4, slots := 8, locals := 66 } : Room).slots) := by
  refine MetFree.of_bodySF (plainFor_of_name pn_3) hisR ?_
  intro p e s m args below meth c s₁ Bd hml0 hP hK
  obtain ⟨rfl, hZ, hh, hI⟩ := hP
  have hx := Bd.exec
  have hby := Bd.bytes
  have hml : c.maxLocals = 4 := hml0
  have hown : s.vm.findClass "com/example/cogram/cogram/model/TermPairEqualsPinLaw" = some m.cls := findClass_of_methodNamed Bd.named
  have hnm := (name_of_methodNamed Bd.named Bd.method).1
  have X0 : Stand p l e ({ frames := 4, cells := 4, slots := 8, locals := 66 } : Room) (s.setVm s.vm) m #[(.int p1)] below meth c s₁ [] 0 0 := Stand.of_body Bd
  have hZ : Z.Warmed39 (s.setVm s.vm).vm := hZ
  have hown : (s.setVm s.vm).vm.findClass "com/example/cogram/cogram/model/TermPairEqualsPinLaw" = some m.cls := hown
  have hS0 : s.Since s.vm h0.size := (State.WarmedH.refl s).since _
  have e0 : s₁.heap = h0 := by rw [← hh, Bd.state]; rfl
  have N0 := Fr.nil n0
  show OGo p e below (fun s₂ o => ∃ v L, o = .returned v ∧ (Qmk Z p1 cs h0 n0 v s₂.heap L ∧ own_Inv Z s₂.vm s₂.heap) ∧ ReturnedEndW s o s₂ L ({ frames := 4, cells := 4, slots := 8, locals := 66 } : Room).cells ({ frames := 4, cells := 4, slots := 8, locals := 66 } : Room).slots) _
  refine OGo.to (fun _ k => castTop (ef_mk m p1) k) ?_
  refine OGo.to (fun _ k => XS.iloadN X0.here hx rfl (hb hby d1_0) rfl k) ?_
  refine OGo.to (fun _ k => XS.sipush X0.here hx rfl (hb hby d1_1) k) ?_
  refine OGo.to (fun _ k => XS.iand X0.here hx rfl (hb hby d1_4) rfl k) ?_
  refine OGo.to (fun _ k => XS.i2c X0.here hx rfl (hb hby d1_5) rfl k) ?_
  refine OGo.to (fun _ k => XS.istoreN X0.here hx rfl (hb hby d1_6) rfl (l' := #[.val (.int p1), .val (.int ((p1 &&& (255 : Int32)).toUInt32.toUInt16.toUInt32.toInt32)), .unset, .unset]) rfl k) ?_
  refine OGo.to (fun _ k => XS.iloadN X0.here hx rfl (hb hby d1_7) rfl k) ?_
  refine OGo.to (fun _ k => XS.bipush X0.here hx rfl (hb hby d1_8) k) ?_
  refine OGo.to (fun _ k => XS.iushr X0.here hx rfl (hb hby d1_10) rfl k) ?_
  refine OGo.to (fun _ k => XS.sipush X0.here hx rfl (hb hby d1_11) k) ?_
  refine OGo.to (fun _ k => XS.iand X0.here hx rfl (hb hby d1_14) rfl k) ?_
  refine OGo.to (fun _ k => XS.i2c X0.here hx rfl (hb hby d1_15) rfl k) ?_
  refine OGo.to (fun _ k => XS.istoreN X0.here hx rfl (hb hby d1_16) rfl (l' := #[.val (.int p1), .val (.int ((p1 &&& (255 : Int32)).toUInt32.toUInt16.toUInt32.toInt32)), .val (.int ((((p1.toUInt32 >>> ((8 : Int32) &&& 31).toUInt32).toInt32) &&& (255 : Int32)).toUInt32.toUInt16.toUInt32.toInt32)), .unset]) rfl k) ?_
  refine OGo.to (fun _ k => XS.iloadN X0.here hx rfl (hb hby d1_17) rfl k) ?_
  refine OGo.to (fun _ k => XS.bipush X0.here hx rfl (hb hby d1_18) k) ?_
  refine OGo.to (fun _ k => XS.iushr X0.here hx rfl (hb hby d1_20) rfl k) ?_
  show OGo p e below _ (s₁.setTop (mkF m 21 #[.val (.int p1), .val (.int ((p1 &&& (255 : Int32)).toUInt32.toUInt16.toUInt32.toInt32)), .val (.int ((((p1.toUInt32 >>> ((8 : Int32) &&& 31).toUInt32).toInt32) &&& (255 : Int32)).toUInt32.toUInt16.toUInt32.toInt32)), .unset] [(.int ((p1.toUInt32 >>> ((16 : Int32) &&& 31).toUInt32).toInt32))]))
  refine OGo.to (fun _ k => XS.sipush X0.here hx rfl (hb hby d1_21) k) ?_
  refine OGo.to (fun _ k => XS.iand X0.here hx rfl (hb hby d1_24) rfl k) ?_
  refine OGo.to (fun _ k => XS.iconst X0.here hx rfl (hb hby d1_25) k) ?_
  have hnz26__1 : (3 : Int32) ≠ (0 : Int32) := by decide
  refine OGo.to (fun _ k => iremM X0 hx rfl (hb hby d1_26) rfl hnz26__1 k) ?_
  show OGo p e below _ (s₁.setTop (mkF m 27 #[.val (.int p1), .val (.int ((p1 &&& (255 : Int32)).toUInt32.toUInt16.toUInt32.toInt32)), .val (.int ((((p1.toUInt32 >>> ((8 : Int32) &&& 31).toUInt32).toInt32) &&& (255 : Int32)).toUInt32.toUInt16.toUInt32.toInt32)), .unset] [(.int ((((p1.toUInt32 >>> ((16 : Int32) &&& 31).toUInt32).toInt32) &&& (32767 : Int32)) % (3 : Int32)))]))
  obtain ⟨ln, hv_ln⟩ : ∃ z : Int32, z = ((((p1.toUInt32 >>> ((16 : Int32) &&& 31).toUInt32).toInt32) &&& (32767 : Int32)) % (3 : Int32)) := ⟨_, rfl⟩
  rw [← hv_ln]
  refine OGo.to (fun _ k => XS.istoreN X0.here hx rfl (hb hby d1_27) rfl (l' := #[.val (.int p1), .val (.int ((p1 &&& (255 : Int32)).toUInt32.toUInt16.toUInt32.toInt32)), .val (.int ((((p1.toUInt32 >>> ((8 : Int32) &&& 31).toUInt32).toInt32) &&& (255 : Int32)).toUInt32.toUInt16.toUInt32.toInt32)), .val (.int ln)]) rfl k) ?_
  refine OGo.to (fun _ k => XS.iloadN X0.here hx rfl (hb hby d1_28) rfl k) ?_
  by_cases hc29__2 : ln = (0 : Int32)
  ·  -- pc 29: yes
    refine OGo.to (fun _ k => XS.ifNo X0.here hx rfl (hb hby d1_29) rfl ((if0 _ _).trans (teq hc29__2).2) k) ?_
    show OGo p e below _ (s₁.setTop (mkF m 32 #[.val (.int p1), .val (.int ((p1 &&& (255 : Int32)).toUInt32.toUInt16.toUInt32.toInt32)), .val (.int ((((p1.toUInt32 >>> ((8 : Int32) &&& 31).toUInt32).toInt32) &&& (255 : Int32)).toUInt32.toUInt16.toUInt32.toInt32)), .val (.int ln)] []))
    obtain ⟨T_3, h_3, X_3, e_3, E_3, A_3, D_3, -, st_3⟩ := newO X0 hx hZ hown (hw _ (List.mem_of_getElem? (i := 4) rfl)) (hw _ (List.mem_of_getElem? (i := 5) rfl)) (hw _ (List.mem_of_getElem? (i := 6) rfl)) e0 (g := (mkF m 32 #[.val (.int p1), .val (.int ((p1 &&& (255 : Int32)).toUInt32.toUInt16.toUInt32.toInt32)), .val (.int ((((p1.toUInt32 >>> ((8 : Int32) &&& 31).toUInt32).toInt32) &&& (255 : Int32)).toUInt32.toUInt16.toUInt32.toInt32)), .val (.int ln)] [])) rfl (hb hby d1_32) (by decide) (by decide)
    obtain ⟨b_3, g_3⟩ : ∃ z, z = h0.size := ⟨_, rfl⟩
    rw [← g_3] at A_3 D_3 st_3
    have g_b_3 : n0 ≤ b_3 := Nat.le_trans Z0 (Nat.le_of_eq g_3.symm)
    have sz_b_3 : h0.size ≤ b_3 := Nat.le_trans (Keep.refl h0 []).1 (Nat.le_of_eq g_3.symm)
    refine OGo.to st_3 ?_
    have z_4 : n0 ≤ h_3.size := Nat.le_trans Z0 E_3.1
    have O_5 : Old Z n0 h_3 := O0.ext E_3
    have K_6 : Keep h0 h_3 [] := (Keep.refl h0 []).ext E_3
    have F_value_b_3 : Fld Z h_3 b_3 "java/lang/String" "value" "[B" .null := D_3 (Or.inr (hw _ (List.mem_of_getElem? (i := 20) rfl))) (ty := (.array .byte)) (by decide)
    have F_coder_b_3 : Fld Z h_3 b_3 "java/lang/String" "coder" "B" (.int (0 : Int32)) := D_3 (Or.inr (hw _ (List.mem_of_getElem? (i := 21) rfl))) (ty := .byte) (by decide)
    show OGo p e below _ (T_3.setTop (mkF m 35 #[.val (.int p1), .val (.int ((p1 &&& (255 : Int32)).toUInt32.toUInt16.toUInt32.toInt32)), .val (.int ((((p1.toUInt32 >>> ((8 : Int32) &&& 31).toUInt32).toInt32) &&& (255 : Int32)).toUInt32.toUInt16.toUInt32.toInt32)), .val (.int ln)] [(.ref b_3)]))
    refine OGo.to (fun _ k => XS.dup X_3.here hx rfl (hb hby d1_35) rfl rfl k) ?_
    refine OGo.to (fun _ k => XS.iconst X_3.here hx rfl (hb hby d1_36) k) ?_
    obtain ⟨T_7, h_7, k_7, X_7, e_7, E_7, A_7, st_7⟩ := newP X_3 hx hZ (hw _ (List.mem_of_getElem? (i := 7) rfl)) e_3 (g := (mkF m 37 #[.val (.int p1), .val (.int ((p1 &&& (255 : Int32)).toUInt32.toUInt16.toUInt32.toInt32)), .val (.int ((((p1.toUInt32 >>> ((8 : Int32) &&& 31).toUInt32).toInt32) &&& (255 : Int32)).toUInt32.toUInt16.toUInt32.toInt32)), .val (.int ln)] [(.int (0 : Int32)), (.ref b_3), (.ref b_3)])) rfl (hb hby d1_37) rfl (by decide) (cap := 0) (by decide) (by decide) (by decide) (by decide)
    obtain ⟨b_7, g_7⟩ : ∃ z, z = h_3.size := ⟨_, rfl⟩
    rw [← g_7] at A_7 st_7
    have g_b_7 : n0 ≤ b_7 := Nat.le_trans z_4 (Nat.le_of_eq g_7.symm)
    have sz_b_7 : h0.size ≤ b_7 := Nat.le_trans K_6.1 (Nat.le_of_eq g_7.symm)
    refine OGo.to st_7 ?_
    have ne_b_3_b_7 : b_3 ≠ b_7 := Nat.ne_of_lt (Nat.lt_of_lt_of_le A_3.lt (Nat.le_of_eq g_7.symm))
    have z_8 : n0 ≤ h_7.size := Nat.le_trans z_4 E_7.1
    have O_9 : Old Z n0 h_7 := O_5.ext E_7
    have K_10 : Keep h0 h_7 [] := K_6.ext E_7
    have V_7 : Arv Z h_7 b_7 k_7 .char (0 : Int32) [] (.int (0 : Int32)) := (Arv.new A_7 (by decide)).pad (pad_rep [] (.int (0 : Int32)) 0)
    show OGo p e below _ (T_7.setTop (mkF m 39 #[.val (.int p1), .val (.int ((p1 &&& (255 : Int32)).toUInt32.toUInt16.toUInt32.toInt32)), .val (.int ((((p1.toUInt32 >>> ((8 : Int32) &&& 31).toUInt32).toInt32) &&& (255 : Int32)).toUInt32.toUInt16.toUInt32.toInt32)), .val (.int ln)] [(.ref b_7), (.ref b_3), (.ref b_3)]))
    have f_12 : Exa Z h_7 b_3 "java/lang/String" := (A_3.ext E_7)
    have f_13 : Fld Z h_7 b_3 "java/lang/String" "value" "[B" .null := (F_value_b_3.ext E_7)
    have f_14 : Fld Z h_7 b_3 "java/lang/String" "coder" "B" (.int (0 : Int32)) := (F_coder_b_3.ext E_7)
    obtain ⟨_, T_11, Lc_11, X_11, hS_11, hZ, hown, hQ_11, st_11⟩ := own_unS hS0 (by rw [e_7]; exact (Nat.le_trans (Nat.le_trans (Nat.le_refl h0.size) E_3.1) E_7.1)) hZ hown X_7 (Q := fun v U L => Qsc0 Z b_3 b_7 k_7 h_7 n0 v U.heap L ∧ own_Inv Z U.vm U.heap) (rc := 2) (rs := 4) (W := fun v B => Steps p.tables e below (T_7.setTop (mkF m 39 #[.val (.int p1), .val (.int ((p1 &&& (255 : Int32)).toUInt32.toUInt16.toUInt32.toInt32)), .val (.int ((((p1.toUInt32 >>> ((8 : Int32) &&& 31).toUInt32).toInt32) &&& (255 : Int32)).toUInt32.toUInt16.toUInt32.toInt32)), .val (.int ln)] [(.ref b_7), (.ref b_3), (.ref b_3)])) (B.setTop { (mkF m 39 #[.val (.int p1), .val (.int ((p1 &&& (255 : Int32)).toUInt32.toUInt16.toUInt32.toInt32)), .val (.int ((((p1.toUInt32 >>> ((8 : Int32) &&& 31).toUInt32).toInt32) &&& (255 : Int32)).toUInt32.toUInt16.toUInt32.toInt32)), .val (.int ln)] [(.ref b_7), (.ref b_3), (.ref b_3)]) with pc := 42, stack := v.toList ++ [(.ref b_3)] })) <| X_7.specialBackS hx (y := (⟨"java/lang/String", "<init>", "([C)V"⟩ : MethodName)) rfl hown (mvT hZ (hw _ (List.mem_of_getElem? (i := 8) rfl))) (mvT hZ (hw _ (List.mem_of_getElem? (i := 9) rfl))) (mvT hZ (hw _ (List.mem_of_getElem? (i := 10) rfl))) (by decide) (own_backOfI (I := own_Inv Z) (W := 1) (rmsc0 l Z a0 hw [] b_3 b_7 k_7 h_7 n0 z_8 f_12 f_13 f_14 g_b_3 V_7 ne_b_3_b_7 O_9 (HH) (HW)) (fun _ W_ => own_Inv.warm (own_Inv.keep hI K_10 (by simp)) W_) hZ (hw _ (List.mem_of_getElem? (i := 10) rfl)) (hw _ (List.mem_of_getElem? (i := 6) rfl)) (by decide) (by decide)) (g := (mkF m 39 #[.val (.int p1), .val (.int ((p1 &&& (255 : Int32)).toUInt32.toUInt16.toUInt32.toInt32)), .val (.int ((((p1.toUInt32 >>> ((8 : Int32) &&& 31).toUInt32).toInt32) &&& (255 : Int32)).toUInt32.toUInt16.toUInt32.toInt32)), .val (.int ln)] [(.ref b_7), (.ref b_3), (.ref b_3)])) rfl (by rw [hml]; rfl) (Steps.refl _) (a := b_3) (argsL := [(.ref b_7)]) (rest := [(.ref b_3)]) (lenOf pd_7 rfl) rfl (by show 2 * 0 + _ ≤ _; exact Nat.le_of_eq rfl) (hb hby d1_39) (fun _ _ => ⟨rfl, e_7, (by decide : 2 + 2 ≤ _), (by decide : 4 + 4 ≤ _)⟩)
    obtain ⟨hQ_11, hI_11⟩ := hQ_11
    obtain ⟨b__11, kb__11, rfl, N_11q, K_11, p_11_0, p_11_1, p_11_2⟩ := hQ_11
    have N_11 := Fr.app N0 N_11q
    refine OGo.to (fun _ k => st_11.trans k) ?_
    have z_15 : n0 ≤ T_11.heap.size := Nat.le_trans z_8 K_11.1
    have O_16 : Old Z n0 T_11.heap := O_9.keep K_11 (allS g_b_3 all0)
    have K_17 : Keep h0 T_11.heap [] := K_10.trans K_11 (by intro x hx'; cases List.mem_singleton.mp hx'; exact (Or.inr sz_b_3))
    show OGo p e below _ (T_11.setTop (mkF m 42 #[.val (.int p1), .val (.int ((p1 &&& (255 : Int32)).toUInt32.toUInt16.toUInt32.toInt32)), .val (.int ((((p1.toUInt32 >>> ((8 : Int32) &&& 31).toUInt32).toInt32) &&& (255 : Int32)).toUInt32.toUInt16.toUInt32.toInt32)), .val (.int ln)] [(.ref b_3)]))
    refine OGo.retI (Q := Qmk Z p1 cs h0 n0) (I := own_Inv Z) X_11 hS_11 (Nat.le_refl T_11.heap.size) (some (.ref b_3)) (fun h => by rw [Bd.returns] at h; cases h) Bd.notSynchronized (fun fs hr => own_retA X_11 hx Bd.returns rfl rfl (hb hby d1_42) hr) ?_ ?_ (by decide) (by decide)
    rotate_left
    · exact own_Inv.warm hI_11 X_11.warmed
    have f_18 : Exa Z T_11.heap b_3 "java/lang/String" := (f_12.keep K_11)
    have hmk : ([] : List Int32) = own_mk p1 := by unfold own_mk; rw [← hv_ln, if_pos hc29__2]
    show Qmk Z p1 cs h0 n0 _ T_11.heap _
    exact ⟨b_3, b__11, kb__11, rfl, N_11, K_17, g_b_3, sz_b_3, f_18, p_11_1, p_11_0, (own_castS (L := ([] : List Int32)) p_11_2 hmk rfl)⟩
  ·  -- pc 29: no
    refine OGo.to (fun _ k => XS.ifYes X0.here hx rfl (pc0 := 29) (pc' := 43) rfl (hb hby d1_29) rfl ((if0 _ _).trans (feq hc29__2).2) (by decide) (by decide) k) ?_
    show OGo p e below _ (s₁.setTop (mkF m 43 #[.val (.int p1), .val (.int ((p1 &&& (255 : Int32)).toUInt32.toUInt16.toUInt32.toInt32)), .val (.int ((((p1.toUInt32 >>> ((8 : Int32) &&& 31).toUInt32).toInt32) &&& (255 : Int32)).toUInt32.toUInt16.toUInt32.toInt32)), .val (.int ln)] []))
    refine OGo.to (fun _ k => XS.iloadN X0.here hx rfl (hb hby d1_43) rfl k) ?_
    refine OGo.to (fun _ k => XS.iconst X0.here hx rfl (hb hby d1_44) k) ?_
    by_cases hc45__19 : ln = (1 : Int32)
    ·  -- pc 45: yes
      refine OGo.to (fun _ k => XS.icmpNo X0.here hx rfl (hb hby d1_45) rfl (teq hc45__19).2 k) ?_
      show OGo p e below _ (s₁.setTop (mkF m 48 #[.val (.int p1), .val (.int ((p1 &&& (255 : Int32)).toUInt32.toUInt16.toUInt32.toInt32)), .val (.int ((((p1.toUInt32 >>> ((8 : Int32) &&& 31).toUInt32).toInt32) &&& (255 : Int32)).toUInt32.toUInt16.toUInt32.toInt32)), .val (.int ln)] []))
      refine OGo.to (fun _ k => XS.iloadN X0.here hx rfl (hb hby d1_48) rfl k) ?_
      obtain ⟨_, T_20, Lc_20, X_20, hQ_20, st_20⟩ := own_un X0 (Q := Qvo Z ((p1 &&& (255 : Int32)).toUInt32.toUInt16.toUInt32.toInt32) cs h0 n0) (rc := 2) (rs := 5) (W := fun v B => ∀ target, Steps p.tables e below (B.setTop { (mkF m 49 #[.val (.int p1), .val (.int ((p1 &&& (255 : Int32)).toUInt32.toUInt16.toUInt32.toInt32)), .val (.int ((((p1.toUInt32 >>> ((8 : Int32) &&& 31).toUInt32).toInt32) &&& (255 : Int32)).toUInt32.toUInt16.toUInt32.toInt32)), .val (.int ln)] [(.int ((p1 &&& (255 : Int32)).toUInt32.toUInt16.toUInt32.toInt32))]) with pc := 52, stack := v.toList ++ [] }) target → Steps p.tables e below (s₁.setTop (mkF m 49 #[.val (.int p1), .val (.int ((p1 &&& (255 : Int32)).toUInt32.toUInt16.toUInt32.toInt32)), .val (.int ((((p1.toUInt32 >>> ((8 : Int32) &&& 31).toUInt32).toInt32) &&& (255 : Int32)).toUInt32.toUInt16.toUInt32.toInt32)), .val (.int ln)] [(.int ((p1 &&& (255 : Int32)).toUInt32.toUInt16.toUInt32.toInt32))])) target) <| Jvm.LawKit.callS X0 hx (y := (⟨"java/lang/String", "valueOf", "(C)Ljava/lang/String;"⟩ : MethodName)) hown (mvT hZ (hw _ (List.mem_of_getElem? (i := 93) rfl))) (mvT hZ (hw _ (List.mem_of_getElem? (i := 94) rfl))) (mvT hZ (hw _ (List.mem_of_getElem? (i := 6) rfl))) (mvT hZ (hw _ (List.mem_of_getElem? (i := 95) rfl))) (by decide) (backOf (W := 0) (rmvo l Z a0 hw [] ((p1 &&& (255 : Int32)).toUInt32.toUInt16.toUInt32.toInt32) cs h0 n0 Z0 SC O0 (hcs) (by rw [own_cc]; exact own_c255 _)) hZ (hw _ (List.mem_of_getElem? (i := 95) rfl)) (hw _ (List.mem_of_getElem? (i := 6) rfl)) (by decide) (by decide)) (g := (mkF m 49 #[.val (.int p1), .val (.int ((p1 &&& (255 : Int32)).toUInt32.toUInt16.toUInt32.toInt32)), .val (.int ((((p1.toUInt32 >>> ((8 : Int32) &&& 31).toUInt32).toInt32) &&& (255 : Int32)).toUInt32.toUInt16.toUInt32.toInt32)), .val (.int ln)] [(.int ((p1 &&& (255 : Int32)).toUInt32.toUInt16.toUInt32.toInt32))])) rfl (by rw [hml]; rfl) (argsL := [(.int ((p1 &&& (255 : Int32)).toUInt32.toUInt16.toUInt32.toInt32))]) (rest := []) (lenOf pd_8 rfl) rfl (by show 2 * 0 + _ ≤ _; exact Nat.le_of_eq rfl) (hb hby d1_49) (fun _ _ => ⟨rfl, e0, (by decide : 0 + 2 ≤ _), (by decide : 0 + 5 ≤ _)⟩)
      obtain ⟨o__20, b__20, kb__20, rfl, N_20q, K_20, gq_o__20, sq_o__20, gq_b__20, sq_b__20, p_20_0, p_20_1, p_20_2, p_20_3, p_20_4⟩ := hQ_20
      have N_20 := Fr.app N0 N_20q
      refine OGo.to st_20 ?_
      have sz_o__20 : h0.size ≤ o__20 := Nat.le_trans (Keep.refl h0 []).1 sq_o__20
      have sz_b__20 : h0.size ≤ b__20 := Nat.le_trans (Keep.refl h0 []).1 sq_b__20
      have z_21 : n0 ≤ T_20.heap.size := Nat.le_trans Z0 K_20.1
      have O_22 : Old Z n0 T_20.heap := O0.keep K_20 all0
      have K_23 : Keep h0 T_20.heap [] := (Keep.refl h0 []).trans K_20 (by simp)
      show OGo p e below _ (T_20.setTop (mkF m 52 #[.val (.int p1), .val (.int ((p1 &&& (255 : Int32)).toUInt32.toUInt16.toUInt32.toInt32)), .val (.int ((((p1.toUInt32 >>> ((8 : Int32) &&& 31).toUInt32).toInt32) &&& (255 : Int32)).toUInt32.toUInt16.toUInt32.toInt32)), .val (.int ln)] [(.ref o__20)]))
      refine OGo.retI (Q := Qmk Z p1 cs h0 n0) (I := own_Inv Z) X_20 hS0 (Nat.le_trans (Nat.le_refl h0.size) K_20.1) (some (.ref o__20)) (fun h => by rw [Bd.returns] at h; cases h) Bd.notSynchronized (fun fs hr => own_retA X_20 hx Bd.returns rfl rfl (hb hby d1_52) hr) ?_ ?_ (by decide) (by decide)
      rotate_left
      · exact own_Inv.warm (own_Inv.keep hI K_23 (by simp)) X_20.warmed
      have hmk : ([((((p1 &&& (255 : Int32)).toUInt32.toUInt16.toUInt32.toInt32).toInt8.toInt32)).toInt8.toInt32] : List Int32) = own_mk p1 := by unfold own_mk; rw [← hv_ln, if_neg hc29__2, if_pos hc45__19]
      show Qmk Z p1 cs h0 n0 _ T_20.heap _
      exact ⟨o__20, b__20, kb__20, rfl, N_20, K_23, gq_o__20, sz_o__20, p_20_0, p_20_2, p_20_1, (own_castS (L := ([((((p1 &&& (255 : Int32)).toUInt32.toUInt16.toUInt32.toInt32).toInt8.toInt32)).toInt8.toInt32] : List Int32)) p_20_3 hmk rfl)⟩
    ·  -- pc 45: no
      refine OGo.to (fun _ k => XS.icmpYes X0.here hx rfl (pc0 := 45) (pc' := 53) rfl (hb hby d1_45) rfl (feq hc45__19).2 (by decide) (by decide) k) ?_
      show OGo p e below _ (s₁.setTop (mkF m 53 #[.val (.int p1), .val (.int ((p1 &&& (255 : Int32)).toUInt32.toUInt16.toUInt32.toInt32)), .val (.int ((((p1.toUInt32 >>> ((8 : Int32) &&& 31).toUInt32).toInt32) &&& (255 : Int32)).toUInt32.toUInt16.toUInt32.toInt32)), .val (.int ln)] []))
      obtain ⟨T_24, h_24, X_24, e_24, E_24, A_24, D_24, -, st_24⟩ := newO X0 hx hZ hown (hw _ (List.mem_of_getElem? (i := 4) rfl)) (hw _ (List.mem_of_getElem? (i := 5) rfl)) (hw _ (List.mem_of_getElem? (i := 6) rfl)) e0 (g := (mkF m 53 #[.val (.int p1), .val (.int ((p1 &&& (255 : Int32)).toUInt32.toUInt16.toUInt32.toInt32)), .val (.int ((((p1.toUInt32 >>> ((8 : Int32) &&& 31).toUInt32).toInt32) &&& (255 : Int32)).toUInt32.toUInt16.toUInt32.toInt32)), .val (.int ln)] [])) rfl (hb hby d1_53) (by decide) (by decide)
      obtain ⟨b_24, g_24⟩ : ∃ z, z = h0.size := ⟨_, rfl⟩
      rw [← g_24] at A_24 D_24 st_24
      have g_b_24 : n0 ≤ b_24 := Nat.le_trans Z0 (Nat.le_of_eq g_24.symm)
      have sz_b_24 : h0.size ≤ b_24 := Nat.le_trans (Keep.refl h0 []).1 (Nat.le_of_eq g_24.symm)
      refine OGo.to st_24 ?_
      have z_25 : n0 ≤ h_24.size := Nat.le_trans Z0 E_24.1
      have O_26 : Old Z n0 h_24 := O0.ext E_24
      have K_27 : Keep h0 h_24 [] := (Keep.refl h0 []).ext E_24
      have F_value_b_24 : Fld Z h_24 b_24 "java/lang/String" "value" "[B" .null := D_24 (Or.inr (hw _ (List.mem_of_getElem? (i := 20) rfl))) (ty := (.array .byte)) (by decide)
      have F_coder_b_24 : Fld Z h_24 b_24 "java/lang/String" "coder" "B" (.int (0 : Int32)) := D_24 (Or.inr (hw _ (List.mem_of_getElem? (i := 21) rfl))) (ty := .byte) (by decide)
      show OGo p e below _ (T_24.setTop (mkF m 56 #[.val (.int p1), .val (.int ((p1 &&& (255 : Int32)).toUInt32.toUInt16.toUInt32.toInt32)), .val (.int ((((p1.toUInt32 >>> ((8 : Int32) &&& 31).toUInt32).toInt32) &&& (255 : Int32)).toUInt32.toUInt16.toUInt32.toInt32)), .val (.int ln)] [(.ref b_24)]))
      refine OGo.to (fun _ k => XS.dup X_24.here hx rfl (hb hby d1_56) rfl rfl k) ?_
      refine OGo.to (fun _ k => XS.iconst X_24.here hx rfl (hb hby d1_57) k) ?_
      obtain ⟨T_28, h_28, k_28, X_28, e_28, E_28, A_28, st_28⟩ := newP X_24 hx hZ (hw _ (List.mem_of_getElem? (i := 7) rfl)) e_24 (g := (mkF m 58 #[.val (.int p1), .val (.int ((p1 &&& (255 : Int32)).toUInt32.toUInt16.toUInt32.toInt32)), .val (.int ((((p1.toUInt32 >>> ((8 : Int32) &&& 31).toUInt32).toInt32) &&& (255 : Int32)).toUInt32.toUInt16.toUInt32.toInt32)), .val (.int ln)] [(.int (2 : Int32)), (.ref b_24), (.ref b_24)])) rfl (hb hby d1_58) rfl (by decide) (cap := 2) (by decide) (by decide) (by decide) (by decide)
      obtain ⟨b_28, g_28⟩ : ∃ z, z = h_24.size := ⟨_, rfl⟩
      rw [← g_28] at A_28 st_28
      have g_b_28 : n0 ≤ b_28 := Nat.le_trans z_25 (Nat.le_of_eq g_28.symm)
      have sz_b_28 : h0.size ≤ b_28 := Nat.le_trans K_27.1 (Nat.le_of_eq g_28.symm)
      refine OGo.to st_28 ?_
      have ne_b_24_b_28 : b_24 ≠ b_28 := Nat.ne_of_lt (Nat.lt_of_lt_of_le A_24.lt (Nat.le_of_eq g_28.symm))
      have z_29 : n0 ≤ h_28.size := Nat.le_trans z_25 E_28.1
      have O_30 : Old Z n0 h_28 := O_26.ext E_28
      have K_31 : Keep h0 h_28 [] := K_27.ext E_28
      have V_28 : Arv Z h_28 b_28 k_28 .char (2 : Int32) [(.int (0 : Int32)), (.int (0 : Int32))] (.int (0 : Int32)) := (Arv.new A_28 (by decide)).pad (pad_rep [] (.int (0 : Int32)) 2)
      show OGo p e below _ (T_28.setTop (mkF m 60 #[.val (.int p1), .val (.int ((p1 &&& (255 : Int32)).toUInt32.toUInt16.toUInt32.toInt32)), .val (.int ((((p1.toUInt32 >>> ((8 : Int32) &&& 31).toUInt32).toInt32) &&& (255 : Int32)).toUInt32.toUInt16.toUInt32.toInt32)), .val (.int ln)] [(.ref b_28), (.ref b_24), (.ref b_24)]))
      refine OGo.to (fun _ k => XS.dup X_28.here hx rfl (hb hby d1_60) rfl rfl k) ?_
      refine OGo.to (fun _ k => XS.iconst X_28.here hx rfl (hb hby d1_61) k) ?_
      show OGo p e below _ (T_28.setTop (mkF m 62 #[.val (.int p1), .val (.int ((p1 &&& (255 : Int32)).toUInt32.toUInt16.toUInt32.toInt32)), .val (.int ((((p1.toUInt32 >>> ((8 : Int32) &&& 31).toUInt32).toInt32) &&& (255 : Int32)).toUInt32.toUInt16.toUInt32.toInt32)), .val (.int ln)] [(.int (0 : Int32)), (.ref b_28), (.ref b_28), (.ref b_24), (.ref b_24)]))
      refine OGo.to (fun _ k => XS.iloadN X_28.here hx rfl (hb hby d1_62) rfl k) ?_
      have Vq_32 := V_28
      obtain ⟨cl_32, Ar_32, q_32, S_32, M_32, Hs_32, G_32⟩ := Vq_32
      have hin_33 : ¬ ((0 : Int32) < 0 ∨ cl_32.slots.size ≤ ((0 : Int32)).toNatClampNeg) := inb_of S_32 ⟨by decide, by decide⟩
      obtain ⟨T_33, h_33, X_33, e_33, W_33, st_33⟩ := stC X_28 hx hZ e_28 Ar_32 (j := (0 : Int32)) hin_33 (g := (mkF m 63 #[.val (.int p1), .val (.int ((p1 &&& (255 : Int32)).toUInt32.toUInt16.toUInt32.toInt32)), .val (.int ((((p1.toUInt32 >>> ((8 : Int32) &&& 31).toUInt32).toInt32) &&& (255 : Int32)).toUInt32.toUInt16.toUInt32.toInt32)), .val (.int ln)] [(.int ((p1 &&& (255 : Int32)).toUInt32.toUInt16.toUInt32.toInt32)), (.int (0 : Int32)), (.ref b_28), (.ref b_28), (.ref b_24), (.ref b_24)])) rfl rfl (hb hby d1_63)
      refine OGo.to st_33 ?_
      have V_33 : Arv Z h_33 b_28 k_28 .char (2 : Int32) [(.int (nar .char ((p1 &&& (255 : Int32)).toUInt32.toUInt16.toUInt32.toInt32))), (.int (0 : Int32))] (.int (0 : Int32)) := Arv.set Ar_32 q_32 S_32 M_32 Hs_32 G_32 (fits_nar_char _) W_33 0 rfl (Nat.le_of_ble_eq_true rfl)
      have N_33 := Fr.snoc X_33 N0 g_b_28
      have z_34 : n0 ≤ h_33.size := Nat.le_trans z_29 (Keep.of_wr W_33).1
      have O_35 : Old Z n0 h_33 := O_30.wr W_33 g_b_28
      have K_36 : Keep h0 h_33 [] := K_31.wr W_33 (Or.inr sz_b_28)
      show OGo p e below _ (T_33.setTop (mkF m 64 #[.val (.int p1), .val (.int ((p1 &&& (255 : Int32)).toUInt32.toUInt16.toUInt32.toInt32)), .val (.int ((((p1.toUInt32 >>> ((8 : Int32) &&& 31).toUInt32).toInt32) &&& (255 : Int32)).toUInt32.toUInt16.toUInt32.toInt32)), .val (.int ln)] [(.ref b_28), (.ref b_24), (.ref b_24)]))
      refine OGo.to (fun _ k => XS.dup X_33.here hx rfl (hb hby d1_64) rfl rfl k) ?_
      refine OGo.to (fun _ k => XS.iconst X_33.here hx rfl (hb hby d1_65) k) ?_
      refine OGo.to (fun _ k => XS.iloadN X_33.here hx rfl (hb hby d1_66) rfl k) ?_
      have Vq_37 := V_33
      obtain ⟨cl_37, Ar_37, q_37, S_37, M_37, Hs_37, G_37⟩ := Vq_37
      have hin_38 : ¬ ((1 : Int32) < 0 ∨ cl_37.slots.size ≤ ((1 : Int32)).toNatClampNeg) := inb_of S_37 ⟨by decide, by decide⟩
      obtain ⟨T_38, h_38, X_38, e_38, W_38, st_38⟩ := stC X_33 hx hZ e_33 Ar_37 (j := (1 : Int32)) hin_38 (g := (mkF m 67 #[.val (.int p1), .val (.int ((p1 &&& (255 : Int32)).toUInt32.toUInt16.toUInt32.toInt32)), .val (.int ((((p1.toUInt32 >>> ((8 : Int32) &&& 31).toUInt32).toInt32) &&& (255 : Int32)).toUInt32.toUInt16.toUInt32.toInt32)), .val (.int ln)] [(.int ((((p1.toUInt32 >>> ((8 : Int32) &&& 31).toUInt32).toInt32) &&& (255 : Int32)).toUInt32.toUInt16.toUInt32.toInt32)), (.int (1 : Int32)), (.ref b_28), (.ref b_28), (.ref b_24), (.ref b_24)])) rfl rfl (hb hby d1_67)
      refine OGo.to st_38 ?_
      have V_38 : Arv Z h_38 b_28 k_28 .char (2 : Int32) [(.int (nar .char ((p1 &&& (255 : Int32)).toUInt32.toUInt16.toUInt32.toInt32))), (.int (nar .char ((((p1.toUInt32 >>> ((8 : Int32) &&& 31).toUInt32).toInt32) &&& (255 : Int32)).toUInt32.toUInt16.toUInt32.toInt32)))] (.int (0 : Int32)) := Arv.set Ar_37 q_37 S_37 M_37 Hs_37 G_37 (fits_nar_char _) W_38 1 rfl (Nat.le_of_ble_eq_true rfl)
      have N_38 := Fr.snoc X_38 N_33 g_b_28
      have z_39 : n0 ≤ h_38.size := Nat.le_trans z_34 (Keep.of_wr W_38).1
      have O_40 : Old Z n0 h_38 := O_35.wr W_38 g_b_28
      have K_41 : Keep h0 h_38 [] := K_36.wr W_38 (Or.inr sz_b_28)
      show OGo p e below _ (T_38.setTop (mkF m 68 #[.val (.int p1), .val (.int ((p1 &&& (255 : Int32)).toUInt32.toUInt16.toUInt32.toInt32)), .val (.int ((((p1.toUInt32 >>> ((8 : Int32) &&& 31).toUInt32).toInt32) &&& (255 : Int32)).toUInt32.toUInt16.toUInt32.toInt32)), .val (.int ln)] [(.ref b_28), (.ref b_24), (.ref b_24)]))
      have f_43 : Exa Z h_38 b_24 "java/lang/String" := (((A_24.ext E_28).wr W_33).wr W_38)
      have f_44 : Fld Z h_38 b_24 "java/lang/String" "value" "[B" .null := (((F_value_b_24.ext E_28).other W_33 (Or.inl ne_b_24_b_28)).other W_38 (Or.inl ne_b_24_b_28))
      have f_45 : Fld Z h_38 b_24 "java/lang/String" "coder" "B" (.int (0 : Int32)) := (((F_coder_b_24.ext E_28).other W_33 (Or.inl ne_b_24_b_28)).other W_38 (Or.inl ne_b_24_b_28))
      obtain ⟨_, T_42, Lc_42, X_42, hQ_42, st_42⟩ := own_un X_38 (Q := Qsc2 Z b_24 b_28 k_28 (nar .char ((p1 &&& (255 : Int32)).toUInt32.toUInt16.toUInt32.toInt32)) (nar .char ((((p1.toUInt32 >>> ((8 : Int32) &&& 31).toUInt32).toInt32) &&& (255 : Int32)).toUInt32.toUInt16.toUInt32.toInt32)) cs h_38 n0) (rc := 1) (rs := 2) (W := fun v B => Steps p.tables e below (T_38.setTop (mkF m 68 #[.val (.int p1), .val (.int ((p1 &&& (255 : Int32)).toUInt32.toUInt16.toUInt32.toInt32)), .val (.int ((((p1.toUInt32 >>> ((8 : Int32) &&& 31).toUInt32).toInt32) &&& (255 : Int32)).toUInt32.toUInt16.toUInt32.toInt32)), .val (.int ln)] [(.ref b_28), (.ref b_24), (.ref b_24)])) (B.setTop { (mkF m 68 #[.val (.int p1), .val (.int ((p1 &&& (255 : Int32)).toUInt32.toUInt16.toUInt32.toInt32)), .val (.int ((((p1.toUInt32 >>> ((8 : Int32) &&& 31).toUInt32).toInt32) &&& (255 : Int32)).toUInt32.toUInt16.toUInt32.toInt32)), .val (.int ln)] [(.ref b_28), (.ref b_24), (.ref b_24)]) with pc := 71, stack := v.toList ++ [(.ref b_24)] })) <| X_38.specialBack hx (y := (⟨"java/lang/String", "<init>", "([C)V"⟩ : MethodName)) rfl hown (mvT hZ (hw _ (List.mem_of_getElem? (i := 8) rfl))) (mvT hZ (hw _ (List.mem_of_getElem? (i := 9) rfl))) (mvT hZ (hw _ (List.mem_of_getElem? (i := 10) rfl))) (by decide) (backOf (W := 1) (rmsc2 l Z a0 hw [] b_24 b_28 k_28 (nar .char ((p1 &&& (255 : Int32)).toUInt32.toUInt16.toUInt32.toInt32)) (nar .char ((((p1.toUInt32 >>> ((8 : Int32) &&& 31).toUInt32).toInt32) &&& (255 : Int32)).toUInt32.toUInt16.toUInt32.toInt32)) cs h_38 n0 z_39 f_43 f_44 f_45 g_b_24 V_38 ne_b_24_b_28 SC O_40 (hcs) (by rw [own_cn]; exact own_c255 _) (by rw [own_cn]; exact own_c255 _)) hZ (hw _ (List.mem_of_getElem? (i := 10) rfl)) (hw _ (List.mem_of_getElem? (i := 6) rfl)) (by decide) (by decide)) (g := (mkF m 68 #[.val (.int p1), .val (.int ((p1 &&& (255 : Int32)).toUInt32.toUInt16.toUInt32.toInt32)), .val (.int ((((p1.toUInt32 >>> ((8 : Int32) &&& 31).toUInt32).toInt32) &&& (255 : Int32)).toUInt32.toUInt16.toUInt32.toInt32)), .val (.int ln)] [(.ref b_28), (.ref b_24), (.ref b_24)])) rfl (by rw [hml]; rfl) (Steps.refl _) (a := b_24) (argsL := [(.ref b_28)]) (rest := [(.ref b_24)]) (lenOf pd_7 rfl) rfl (by show 2 * 0 + _ ≤ _; exact Nat.le_of_eq rfl) (hb hby d1_68) (fun _ _ => ⟨rfl, e_38, (by decide : 2 + 1 ≤ _), (by decide : 6 + 2 ≤ _)⟩)
      obtain ⟨b__42, kb__42, rfl, N_42q, K_42, gq_b__42, sq_b__42, p_42_0, p_42_1, p_42_2⟩ := hQ_42
      have N_42 := Fr.app N_38 N_42q
      refine OGo.to (fun _ k => st_42.trans k) ?_
      have ne_b_24_b__42 : b_24 ≠ b__42 := Nat.ne_of_lt (Nat.lt_of_lt_of_le f_43.lt sq_b__42)
      have ne_b_28_b__42 : b_28 ≠ b__42 := Nat.ne_of_lt (Nat.lt_of_lt_of_le V_38.lt sq_b__42)
      have sz_b__42 : h0.size ≤ b__42 := Nat.le_trans K_41.1 sq_b__42
      have z_46 : n0 ≤ T_42.heap.size := Nat.le_trans z_39 K_42.1
      have O_47 : Old Z n0 T_42.heap := O_40.keep K_42 (allS g_b_24 all0)
      have K_48 : Keep h0 T_42.heap [] := K_41.trans K_42 (by intro x hx'; cases List.mem_singleton.mp hx'; exact (Or.inr sz_b_24))
      show OGo p e below _ (T_42.setTop (mkF m 71 #[.val (.int p1), .val (.int ((p1 &&& (255 : Int32)).toUInt32.toUInt16.toUInt32.toInt32)), .val (.int ((((p1.toUInt32 >>> ((8 : Int32) &&& 31).toUInt32).toInt32) &&& (255 : Int32)).toUInt32.toUInt16.toUInt32.toInt32)), .val (.int ln)] [(.ref b_24)]))
      refine OGo.retI (Q := Qmk Z p1 cs h0 n0) (I := own_Inv Z) X_42 hS0 (Nat.le_trans (Nat.le_trans (Nat.le_trans (Nat.le_trans (Nat.le_trans (Nat.le_refl h0.size) E_24.1) E_28.1) (Keep.of_wr W_33).1) (Keep.of_wr W_38).1) K_42.1) (some (.ref b_24)) (fun h => by rw [Bd.returns] at h; cases h) Bd.notSynchronized (fun fs hr => own_retA X_42 hx Bd.returns rfl rfl (hb hby d1_71) hr) ?_ ?_ (by decide) (by decide)
      rotate_left
      · exact own_Inv.warm (own_Inv.keep hI K_48 (by simp)) X_42.warmed
      have f_49 : Exa Z T_42.heap b_24 "java/lang/String" := (f_43.keep K_42)
      have hmk : ([(((nar .char ((p1 &&& (255 : Int32)).toUInt32.toUInt16.toUInt32.toInt32)).toInt8.toInt32)).toInt8.toInt32, (((nar .char ((((p1.toUInt32 >>> ((8 : Int32) &&& 31).toUInt32).toInt32) &&& (255 : Int32)).toUInt32.toUInt16.toUInt32.toInt32)).toInt8.toInt32)).toInt8.toInt32] : List Int32) = own_mk p1 := by unfold own_mk; rw [← hv_ln, if_neg hc29__2, if_neg hc45__19]
      show Qmk Z p1 cs h0 n0 _ T_42.heap _
      exact ⟨b_24, b__42, kb__42, rfl, N_42, K_48, g_b_24, sz_b_24, f_49, p_42_1, p_42_0, (own_castS (L := ([(((nar .char ((p1 &&& (255 : Int32)).toUInt32.toUInt16.toUInt32.toInt32)).toInt8.toInt32)).toInt8.toInt32, (((nar .char ((((p1.toUInt32 >>> ((8 : Int32) &&& 31).toUInt32).toInt32) &&& (255 : Int32)).toUInt32.toUInt16.toUInt32.toInt32)).toInt8.toInt32)).toInt8.toInt32] : List Int32)) p_42_2 hmk rfl)⟩
theorem d5_0 : decode method_3_code 0 = .ok (.iload_n 0, 1) := by decide +kernel
theorem d5_1 : decode method_3_code 1 = .ok (.ifCond .ne 5, 3) := by decide +kernel
theorem d5_4 : decode method_3_code 4 = .ok (.aload_n 1, 1) := by decide +kernel
theorem d5_5 : decode method_3_code 5 = .ok (.areturn, 1) := by decide +kernel
theorem d5_6 : decode method_3_code 6 = .ok (.iload_n 0, 1) := by decide +kernel
theorem d5_7 : decode method_3_code 7 = .ok (.iconst 1, 1) := by decide +kernel
theorem d5_8 : decode method_3_code 8 = .ok (.if_icmp .ne 5, 3) := by decide +kernel
theorem d5_11 : decode method_3_code 11 = .ok (.aload_n 2, 1) := by decide +kernel
theorem d5_12 : decode method_3_code 12 = .ok (.areturn, 1) := by decide +kernel
theorem d5_13 : decode method_3_code 13 = .ok (.aload_n 3, 1) := by decide +kernel
theorem d5_14 : decode method_3_code 14 = .ok (.areturn, 1) := by decide +kernel
theorem ef_pick (m : MethodId) (x0 : Int32) (x1 : Addr) (x2 : Addr) (x3 : Addr) : entryFrame m #[(.int x0), (.ref x1), (.ref x2), (.ref x3)] 4 = mkF m 0 #[.val (.int x0), .val (.ref x1), .val (.ref x2), .val (.ref x3)] [] := by first | (simp [entryFrame, mkF, argsToLocals, Value.category]; done) | rfl
def Qpick (Z : State) (p1 : Int32) (a1 : Addr) (a2 : Addr) (a3 : Addr) (t1 : Addr) (k1 : ClassId) (l1 : List Int32) (t2 : Addr) (k2 : ClassId) (l2 : List Int32) (t3 : Addr) (k3 : ClassId) (l3 : List Int32) (h0 : Heap) (n0 : Nat) (v : Option Value) (h : Heap) (L : List Loc) : Prop := ∃ (o : Addr), ∃ (b : Addr), ∃ (kb : ClassId), v = some (.ref o) ∧ Fr n0 L ∧ h = h0 ∧ Exa Z h o "java/lang/String" ∧ Fld Z h o "java/lang/String" "coder" "B" (.int (0 : Int32)) ∧ Fld Z h o "java/lang/String" "value" "[B" (.ref b) ∧ Arv Z h b kb .byte (own_i (own_pick p1 l1 l2 l3).length) ((own_pick p1 l1 l2 l3).map Value.int) (.int (0 : Int32))
set_option maxRecDepth 65536 in
set_option maxHeartbeats 40000000 in
theorem rmpick (l : Launch) (Z : State) (a0 : Array Value) (hw : ∀ d ∈ tables_1, d.before a0 Z = true) (ws : List Jvm.Cond) (p1 : Int32) (a1 : Addr) (a2 : Addr) (a3 : Addr) (t1 : Addr) (k1 : ClassId) (l1 : List Int32) (t2 : Addr) (k2 : ClassId) (l2 : List Int32) (t3 : Addr) (k3 : ClassId) (l3 : List Int32) (h0 : Heap) (n0 : Nat) (Z0 : n0 ≤ h0.size) (E1_ : Exa Z h0 a1 "java/lang/String") (Fc1_ : Fld Z h0 a1 "java/lang/String" "coder" "B" (.int (0 : Int32))) (Fv1_ : Fld Z h0 a1 "java/lang/String" "value" "[B" (.ref t1)) (V1_ : Arv Z h0 t1 k1 .byte (own_i l1.length) (l1.map Value.int) (.int (0 : Int32))) (E2_ : Exa Z h0 a2 "java/lang/String") (Fc2_ : Fld Z h0 a2 "java/lang/String" "coder" "B" (.int (0 : Int32))) (Fv2_ : Fld Z h0 a2 "java/lang/String" "value" "[B" (.ref t2)) (V2_ : Arv Z h0 t2 k2 .byte (own_i l2.length) (l2.map Value.int) (.int (0 : Int32))) (E3_ : Exa Z h0 a3 "java/lang/String") (Fc3_ : Fld Z h0 a3 "java/lang/String" "coder" "B" (.int (0 : Int32))) (Fv3_ : Fld Z h0 a3 "java/lang/String" "value" "[B" (.ref t3)) (V3_ : Arv Z h0 t3 k3 .byte (own_i l3.length) (l3.map Value.int) (.int (0 : Int32))) :
    MetFree l (⟨"com/example/cogram/cogram/model/TermPairEqualsPinLaw", "pick", "(ILjava/lang/String;Ljava/lang/String;Ljava/lang/String;)Ljava/lang/String;"⟩ : MethodName) (head1 (Jvm.Cond.code (⟨"com/example/cogram/cogram/model/TermPairEqualsPinLaw", "pick", "(ILjava/lang/String;Ljava/lang/String;Ljava/lang/String;)Ljava/lang/String;"⟩ : MethodName) method_3_code 4 (some (.object "java/lang/String")) :: ws) ({ frames := 0, cells := 0, slots := 0, locals := 0 } : Room)) (fun a U => a = #[(.int p1), (.ref a1), (.ref a2), (.ref a3)] ∧ Z.Warmed39 U.vm ∧ U.heap = h0) (fun _ _ _ _ _ => True) (fun _ U o U' => ∃ v L, o = .returned v ∧ Qpick Z p1 a1 a2 a3 t1 k1 l1 t2 k2 l2 t3 k3 l3 h0 n0 v U'.heap L ∧ FrameEnd U o U' L ({ frames := 0, cells := 0, slots := 0, locals := 0 } : Room).cells ({ frames := 0, cells := 0, slots := 0, locals := 0 } : Room).slots) := by
  refine MetFree.of_bodySF (plainFor_of_name pn_3) hisR ?_
  intro p e s m args below meth c s₁ Bd hml0 hP hK
  obtain ⟨rfl, hZ, hh⟩ := hP
  have hx := Bd.exec
  have hby := Bd.bytes
  have hml : c.maxLocals = 4 := hml0
  have hown : s.vm.findClass "com/example/cogram/cogram/model/TermPairEqualsPinLaw" = some m.cls := findClass_of_methodNamed Bd.named
  have hnm := (name_of_methodNamed Bd.named Bd.method).1
  have X0 : Stand p l e ({ frames := 0, cells := 0, slots := 0, locals := 0 } : Room) s m #[(.int p1), (.ref a1), (.ref a2), (.ref a3)] below meth c s₁ [] 0 0 := Stand.of_body Bd
  have e0 : s₁.heap = h0 := by rw [← hh, Bd.state]; rfl
  have N0 := Fr.nil n0
  show OGo p e below (fun s₂ o => ∃ v L, o = .returned v ∧ Qpick Z p1 a1 a2 a3 t1 k1 l1 t2 k2 l2 t3 k3 l3 h0 n0 v s₂.heap L ∧ FrameEnd s o s₂ L ({ frames := 0, cells := 0, slots := 0, locals := 0 } : Room).cells ({ frames := 0, cells := 0, slots := 0, locals := 0 } : Room).slots) _
  refine OGo.to (fun _ k => castTop (ef_pick m p1 a1 a2 a3) k) ?_
  refine OGo.to (fun _ k => XS.iloadN X0.here hx rfl (hb hby d5_0) rfl k) ?_
  by_cases hc1__1 : p1 = (0 : Int32)
  ·  -- pc 1: yes
    refine OGo.to (fun _ k => XS.ifNo X0.here hx rfl (hb hby d5_1) rfl ((if0 _ _).trans (teq hc1__1).2) k) ?_
    show OGo p e below _ (s₁.setTop (mkF m 4 #[.val (.int p1), .val (.ref a1), .val (.ref a2), .val (.ref a3)] []))
    refine OGo.to (fun _ k => XS.aloadN X0.here hx rfl (hb hby d5_4) rfl rfl k) ?_
    refine OGo.ret (Q := Qpick Z p1 a1 a2 a3 t1 k1 l1 t2 k2 l2 t3 k3 l3 h0 n0) X0 (some (.ref a1)) (fun h => by rw [Bd.returns] at h; cases h) Bd.notSynchronized (fun fs hr => own_retA X0 hx Bd.returns rfl rfl (hb hby d5_5) hr) ?_ (by decide) (by decide)
    show Qpick Z p1 a1 a2 a3 t1 k1 l1 t2 k2 l2 t3 k3 l3 h0 n0 _ s₁.heap _
    rw [e0]
    exact ⟨a1, t1, k1, rfl, N0, rfl, E1_, Fc1_, Fv1_, (own_castL V1_ (by unfold own_pick; rw [if_pos hc1__1]))⟩
  ·  -- pc 1: no
    refine OGo.to (fun _ k => XS.ifYes X0.here hx rfl (pc0 := 1) (pc' := 6) rfl (hb hby d5_1) rfl ((if0 _ _).trans (feq hc1__1).2) (by decide) (by decide) k) ?_
    show OGo p e below _ (s₁.setTop (mkF m 6 #[.val (.int p1), .val (.ref a1), .val (.ref a2), .val (.ref a3)] []))
    refine OGo.to (fun _ k => XS.iloadN X0.here hx rfl (hb hby d5_6) rfl k) ?_
    refine OGo.to (fun _ k => XS.iconst X0.here hx rfl (hb hby d5_7) k) ?_
    by_cases hc8__2 : p1 = (1 : Int32)
    ·  -- pc 8: yes
      refine OGo.to (fun _ k => XS.icmpNo X0.here hx rfl (hb hby d5_8) rfl (teq hc8__2).2 k) ?_
      show OGo p e below _ (s₁.setTop (mkF m 11 #[.val (.int p1), .val (.ref a1), .val (.ref a2), .val (.ref a3)] []))
      refine OGo.to (fun _ k => XS.aloadN X0.here hx rfl (hb hby d5_11) rfl rfl k) ?_
      refine OGo.ret (Q := Qpick Z p1 a1 a2 a3 t1 k1 l1 t2 k2 l2 t3 k3 l3 h0 n0) X0 (some (.ref a2)) (fun h => by rw [Bd.returns] at h; cases h) Bd.notSynchronized (fun fs hr => own_retA X0 hx Bd.returns rfl rfl (hb hby d5_12) hr) ?_ (by decide) (by decide)
      show Qpick Z p1 a1 a2 a3 t1 k1 l1 t2 k2 l2 t3 k3 l3 h0 n0 _ s₁.heap _
      rw [e0]
      exact ⟨a2, t2, k2, rfl, N0, rfl, E2_, Fc2_, Fv2_, (own_castL V2_ (by unfold own_pick; rw [if_neg hc1__1, if_pos hc8__2]))⟩
    ·  -- pc 8: no
      refine OGo.to (fun _ k => XS.icmpYes X0.here hx rfl (pc0 := 8) (pc' := 13) rfl (hb hby d5_8) rfl (feq hc8__2).2 (by decide) (by decide) k) ?_
      show OGo p e below _ (s₁.setTop (mkF m 13 #[.val (.int p1), .val (.ref a1), .val (.ref a2), .val (.ref a3)] []))
      refine OGo.to (fun _ k => XS.aloadN X0.here hx rfl (hb hby d5_13) rfl rfl k) ?_
      refine OGo.ret (Q := Qpick Z p1 a1 a2 a3 t1 k1 l1 t2 k2 l2 t3 k3 l3 h0 n0) X0 (some (.ref a3)) (fun h => by rw [Bd.returns] at h; cases h) Bd.notSynchronized (fun fs hr => own_retA X0 hx Bd.returns rfl rfl (hb hby d5_14) hr) ?_ (by decide) (by decide)
      show Qpick Z p1 a1 a2 a3 t1 k1 l1 t2 k2 l2 t3 k3 l3 h0 n0 _ s₁.heap _
      rw [e0]
      exact ⟨a3, t3, k3, rfl, N0, rfl, E3_, Fc3_, Fv3_, (own_castL V3_ (by unfold own_pick; rw [if_neg hc1__1, if_neg hc8__2]))⟩
theorem d11_0 : decode jdk_29_method_69_code 0 = .ok (.iload_n 0, 1) := by decide +kernel
theorem d11_1 : decode jdk_29_method_69_code 1 = .ok (.iload_n 1, 1) := by decide +kernel
theorem d11_2 : decode jdk_29_method_69_code 2 = .ok (.if_icmp .gt 7, 3) := by decide +kernel
theorem d11_5 : decode jdk_29_method_69_code 5 = .ok (.iload_n 0, 1) := by decide +kernel
theorem d11_6 : decode jdk_29_method_69_code 6 = .ok (.goto 4, 3) := by decide +kernel
theorem d11_10 : decode jdk_29_method_69_code 10 = .ok (.ireturn, 1) := by decide +kernel
theorem ef_mn00 (m : MethodId) (x0 : Int32) (x1 : Int32) : entryFrame m #[(.int x0), (.int x1)] 2 = mkF m 0 #[.val (.int x0), .val (.int x1)] [] := by first | (simp [entryFrame, mkF, argsToLocals, Value.category]; done) | rfl
def Qmn00 (Z : State)  (h0 : Heap) (n0 : Nat) (v : Option Value) (h : Heap) (L : List Loc) : Prop := v = some (.int (0 : Int32)) ∧ Fr n0 L ∧ h = h0
set_option maxRecDepth 65536 in
set_option maxHeartbeats 40000000 in
theorem rmmn00 (l : Launch) (Z : State) (a0 : Array Value) (hw : ∀ d ∈ tables_1, d.before a0 Z = true) (ws : List Jvm.Cond)  (h0 : Heap) (n0 : Nat) (Z0 : n0 ≤ h0.size) :
    MetFree l (⟨"java/lang/Math", "min", "(II)I"⟩ : MethodName) (head1 (Jvm.Cond.code (⟨"java/lang/Math", "min", "(II)I"⟩ : MethodName) jdk_29_method_69_code 2 (some .int) :: ws) ({ frames := 0, cells := 0, slots := 0, locals := 0 } : Room)) (fun a U => a = #[(.int (0 : Int32)), (.int (0 : Int32))] ∧ Z.Warmed39 U.vm ∧ U.heap = h0) (fun _ _ _ _ _ => True) (fun _ U o U' => ∃ v L, o = .returned v ∧ Qmn00 Z  h0 n0 v U'.heap L ∧ FrameEnd U o U' L ({ frames := 0, cells := 0, slots := 0, locals := 0 } : Room).cells ({ frames := 0, cells := 0, slots := 0, locals := 0 } : Room).slots) := by
  refine MetFree.of_bodySF (Jvm.Free.JP.mathPlain rfl (by decide +kernel)) hisR ?_
  intro p e s m args below meth c s₁ Bd hml0 hP hK
  obtain ⟨rfl, hZ, hh⟩ := hP
  have hx := Bd.exec
  have hby := Bd.bytes
  have hml : c.maxLocals = 2 := hml0
  have hown : s.vm.findClass "java/lang/Math" = some m.cls := findClass_of_methodNamed Bd.named
  have hnm := (name_of_methodNamed Bd.named Bd.method).1
  have X0 : Stand p l e ({ frames := 0, cells := 0, slots := 0, locals := 0 } : Room) s m #[(.int (0 : Int32)), (.int (0 : Int32))] below meth c s₁ [] 0 0 := Stand.of_body Bd
  have e0 : s₁.heap = h0 := by rw [← hh, Bd.state]; rfl
  have N0 := Fr.nil n0
  show OGo p e below (fun s₂ o => ∃ v L, o = .returned v ∧ Qmn00 Z  h0 n0 v s₂.heap L ∧ FrameEnd s o s₂ L ({ frames := 0, cells := 0, slots := 0, locals := 0 } : Room).cells ({ frames := 0, cells := 0, slots := 0, locals := 0 } : Room).slots) _
  refine OGo.to (fun _ k => castTop (ef_mn00 m (0 : Int32) (0 : Int32)) k) ?_
  refine OGo.to (fun _ k => XS.iloadN X0.here hx rfl (hb hby d11_0) rfl k) ?_
  refine OGo.to (fun _ k => XS.iloadN X0.here hx rfl (hb hby d11_1) rfl k) ?_
  have hc2__1 : ¬ ((0 : Int32) < (0 : Int32)) := by decide
  refine OGo.to (fun _ k => XS.icmpNo X0.here hx rfl (hb hby d11_2) rfl (flt hc2__1).2.2.1 k) ?_
  show OGo p e below _ (s₁.setTop (mkF m 5 #[.val (.int (0 : Int32)), .val (.int (0 : Int32))] []))
  refine OGo.to (fun _ k => XS.iloadN X0.here hx rfl (hb hby d11_5) rfl k) ?_
  refine OGo.to (fun _ k => XS.goto X0.here hx rfl (pc0 := 6) (pc' := 10) rfl (hb hby d11_6) (by decide) (by decide) k) ?_
  refine OGo.ret (Q := Qmn00 Z  h0 n0) X0 (some (.int (0 : Int32))) (fun h => by rw [Bd.returns] at h; cases h) Bd.notSynchronized (fun fs hr => retI X0 hx Bd.returns (hb hby d11_10) hr) ?_ (by decide) (by decide)
  show Qmn00 Z  h0 n0 _ s₁.heap _
  rw [e0]
  exact ⟨rfl, N0, rfl⟩
theorem d12_0 : decode jdk_48_method_13_code 0 = .ok (.iconst 0, 1) := by decide +kernel
theorem d12_1 : decode jdk_48_method_13_code 1 = .ok (.istore_n 3, 1) := by decide +kernel
theorem d12_2 : decode jdk_48_method_13_code 2 = .ok (.iload_n 2, 1) := by decide +kernel
theorem d12_3 : decode jdk_48_method_13_code 3 = .ok (.bipush 7, 2) := by decide +kernel
theorem d12_5 : decode jdk_48_method_13_code 5 = .ok (.if_icmp .le 44, 3) := by decide +kernel
theorem d12_49 : decode jdk_48_method_13_code 49 = .ok (.iload_n 3, 1) := by decide +kernel
theorem d12_50 : decode jdk_48_method_13_code 50 = .ok (.iload_n 2, 1) := by decide +kernel
theorem d12_51 : decode jdk_48_method_13_code 51 = .ok (.if_icmp .ge 20, 3) := by decide +kernel
theorem d12_71 : decode jdk_48_method_13_code 71 = .ok (.iconst (-1), 1) := by decide +kernel
theorem d12_72 : decode jdk_48_method_13_code 72 = .ok (.ireturn, 1) := by decide +kernel
theorem ef_mm00 (m : MethodId) (x0 : Addr) (x1 : Addr) (x2 : Int32) : entryFrame m #[(.ref x0), (.ref x1), (.int x2)] 4 = mkF m 0 #[.val (.ref x0), .val (.ref x1), .val (.int x2), .unset] [] := by first | (simp [entryFrame, mkF, argsToLocals, Value.category]; done) | rfl
def Qmm00 (Z : State) (a1 : Addr) (a2 : Addr) (ka : ClassId) (kb : ClassId) (h0 : Heap) (n0 : Nat) (v : Option Value) (h : Heap) (L : List Loc) : Prop := v = some (.int (-1 : Int32)) ∧ Fr n0 L ∧ h = h0
set_option maxRecDepth 65536 in
set_option maxHeartbeats 40000000 in
theorem rmmm00 (l : Launch) (Z : State) (a0 : Array Value) (hw : ∀ d ∈ tables_1, d.before a0 Z = true) (ws : List Jvm.Cond) (a1 : Addr) (a2 : Addr) (ka : ClassId) (kb : ClassId) (h0 : Heap) (n0 : Nat) (Z0 : n0 ≤ h0.size) (VX : Arv Z h0 a1 ka .byte (0 : Int32) [] (.int (0 : Int32))) (VY : Arv Z h0 a2 kb .byte (0 : Int32) [] (.int (0 : Int32))) :
    MetFree l (⟨"jdk/internal/util/ArraysSupport", "mismatch", "([B[BI)I"⟩ : MethodName) (head1 (Jvm.Cond.code (⟨"jdk/internal/util/ArraysSupport", "mismatch", "([B[BI)I"⟩ : MethodName) jdk_48_method_13_code 4 (some .int) :: ws) ({ frames := 0, cells := 0, slots := 0, locals := 0 } : Room)) (fun a U => a = #[(.ref a1), (.ref a2), (.int (0 : Int32))] ∧ Z.Warmed39 U.vm ∧ U.heap = h0) (fun _ _ _ _ _ => True) (fun _ U o U' => ∃ v L, o = .returned v ∧ Qmm00 Z a1 a2 ka kb h0 n0 v U'.heap L ∧ FrameEnd U o U' L ({ frames := 0, cells := 0, slots := 0, locals := 0 } : Room).cells ({ frames := 0, cells := 0, slots := 0, locals := 0 } : Room).slots) := by
  refine MetFree.of_bodySF (plainFor_of_name pn_4) hisR ?_
  intro p e s m args below meth c s₁ Bd hml0 hP hK
  obtain ⟨rfl, hZ, hh⟩ := hP
  have hx := Bd.exec
  have hby := Bd.bytes
  have hml : c.maxLocals = 4 := hml0
  have hown : s.vm.findClass "jdk/internal/util/ArraysSupport" = some m.cls := findClass_of_methodNamed Bd.named
  have hnm := (name_of_methodNamed Bd.named Bd.method).1
  have X0 : Stand p l e ({ frames := 0, cells := 0, slots := 0, locals := 0 } : Room) s m #[(.ref a1), (.ref a2), (.int (0 : Int32))] below meth c s₁ [] 0 0 := Stand.of_body Bd
  have e0 : s₁.heap = h0 := by rw [← hh, Bd.state]; rfl
  have N0 := Fr.nil n0
  show OGo p e below (fun s₂ o => ∃ v L, o = .returned v ∧ Qmm00 Z a1 a2 ka kb h0 n0 v s₂.heap L ∧ FrameEnd s o s₂ L ({ frames := 0, cells := 0, slots := 0, locals := 0 } : Room).cells ({ frames := 0, cells := 0, slots := 0, locals := 0 } : Room).slots) _
  refine OGo.to (fun _ k => castTop (ef_mm00 m a1 a2 (0 : Int32)) k) ?_
  refine OGo.to (fun _ k => XS.iconst X0.here hx rfl (hb hby d12_0) k) ?_
  refine OGo.to (fun _ k => XS.istoreN X0.here hx rfl (hb hby d12_1) rfl (l' := #[.val (.ref a1), .val (.ref a2), .val (.int (0 : Int32)), .val (.int (0 : Int32))]) rfl k) ?_
  refine OGo.to (fun _ k => XS.iloadN X0.here hx rfl (hb hby d12_2) rfl k) ?_
  refine OGo.to (fun _ k => XS.bipush X0.here hx rfl (hb hby d12_3) k) ?_
  have hc5__1 : ¬ ((7 : Int32) < (0 : Int32)) := by decide
  refine OGo.to (fun _ k => XS.icmpYes X0.here hx rfl (pc0 := 5) (pc' := 49) rfl (hb hby d12_5) rfl (flt hc5__1).2.2.2 (by decide) (by decide) k) ?_
  show OGo p e below _ (s₁.setTop (mkF m 49 #[.val (.ref a1), .val (.ref a2), .val (.int (0 : Int32)), .val (.int (0 : Int32))] []))
  refine OGo.to (fun _ k => XS.iloadN X0.here hx rfl (hb hby d12_49) rfl k) ?_
  refine OGo.to (fun _ k => XS.iloadN X0.here hx rfl (hb hby d12_50) rfl k) ?_
  have hc51__2 : ¬ ((0 : Int32) < (0 : Int32)) := by decide
  refine OGo.to (fun _ k => XS.icmpYes X0.here hx rfl (pc0 := 51) (pc' := 71) rfl (hb hby d12_51) rfl (flt hc51__2).2.1 (by decide) (by decide) k) ?_
  show OGo p e below _ (s₁.setTop (mkF m 71 #[.val (.ref a1), .val (.ref a2), .val (.int (0 : Int32)), .val (.int (0 : Int32))] []))
  refine OGo.to (fun _ k => XS.iconst X0.here hx rfl (hb hby d12_71) k) ?_
  refine OGo.ret (Q := Qmm00 Z a1 a2 ka kb h0 n0) X0 (some (.int (-1 : Int32))) (fun h => by rw [Bd.returns] at h; cases h) Bd.notSynchronized (fun fs hr => retI X0 hx Bd.returns (hb hby d12_72) hr) ?_ (by decide) (by decide)
  show Qmm00 Z a1 a2 ka kb h0 n0 _ s₁.heap _
  rw [e0]
  exact ⟨rfl, N0, rfl⟩
theorem d23_0 : decode jdk_43_method_44_code 0 = .ok (.aload_n 0, 1) := by decide +kernel
theorem d23_1 : decode jdk_43_method_44_code 1 = .ok (.iload_n 1, 1) := by decide +kernel
theorem d23_2 : decode jdk_43_method_44_code 2 = .ok (.baload, 1) := by decide +kernel
theorem d23_3 : decode jdk_43_method_44_code 3 = .ok (.sipush 255, 3) := by decide +kernel
theorem d23_6 : decode jdk_43_method_44_code 6 = .ok (.iand, 1) := by decide +kernel
theorem d23_7 : decode jdk_43_method_44_code 7 = .ok (.i2c, 1) := by decide +kernel
theorem d23_8 : decode jdk_43_method_44_code 8 = .ok (.ireturn, 1) := by decide +kernel
theorem ef_gc1_0 (m : MethodId) (x0 : Addr) (x1 : Int32) : entryFrame m #[(.ref x0), (.int x1)] 2 = mkF m 0 #[.val (.ref x0), .val (.int x1)] [] := by first | (simp [entryFrame, mkF, argsToLocals, Value.category]; done) | rfl
def Qgc1_0 (Z : State) (a1 : Addr) (ka : ClassId) (x0 : Int32) (h0 : Heap) (n0 : Nat) (v : Option Value) (h : Heap) (L : List Loc) : Prop := v = some (.int (own_gc x0)) ∧ Fr n0 L ∧ h = h0
set_option maxRecDepth 65536 in
set_option maxHeartbeats 40000000 in
theorem rmgc1_0 (l : Launch) (Z : State) (a0 : Array Value) (hw : ∀ d ∈ tables_1, d.before a0 Z = true) (ws : List Jvm.Cond) (a1 : Addr) (ka : ClassId) (x0 : Int32) (h0 : Heap) (n0 : Nat) (Z0 : n0 ≤ h0.size) (VX : Arv Z h0 a1 ka .byte (1 : Int32) [(.int x0)] (.int (0 : Int32))) :
    MetFree l (⟨"java/lang/StringLatin1", "getChar", "([BI)C"⟩ : MethodName) (head1 (Jvm.Cond.code (⟨"java/lang/StringLatin1", "getChar", "([BI)C"⟩ : MethodName) jdk_43_method_44_code 2 (some .char) :: ws) ({ frames := 0, cells := 0, slots := 0, locals := 0 } : Room)) (fun a U => a = #[(.ref a1), (.int (0 : Int32))] ∧ Z.Warmed39 U.vm ∧ U.heap = h0) (fun _ _ _ _ _ => True) (fun _ U o U' => ∃ v L, o = .returned v ∧ Qgc1_0 Z a1 ka x0 h0 n0 v U'.heap L ∧ FrameEnd U o U' L ({ frames := 0, cells := 0, slots := 0, locals := 0 } : Room).cells ({ frames := 0, cells := 0, slots := 0, locals := 0 } : Room).slots) := by
  refine MetFree.of_bodySF (plainFor_of_name pn_0) hisR ?_
  intro p e s m args below meth c s₁ Bd hml0 hP hK
  obtain ⟨rfl, hZ, hh⟩ := hP
  have hx := Bd.exec
  have hby := Bd.bytes
  have hml : c.maxLocals = 2 := hml0
  have hown : s.vm.findClass "java/lang/StringLatin1" = some m.cls := findClass_of_methodNamed Bd.named
  have hnm := (name_of_methodNamed Bd.named Bd.method).1
  have X0 : Stand p l e ({ frames := 0, cells := 0, slots := 0, locals := 0 } : Room) s m #[(.ref a1), (.int (0 : Int32))] below meth c s₁ [] 0 0 := Stand.of_body Bd
  have e0 : s₁.heap = h0 := by rw [← hh, Bd.state]; rfl
  have N0 := Fr.nil n0
  show OGo p e below (fun s₂ o => ∃ v L, o = .returned v ∧ Qgc1_0 Z a1 ka x0 h0 n0 v s₂.heap L ∧ FrameEnd s o s₂ L ({ frames := 0, cells := 0, slots := 0, locals := 0 } : Room).cells ({ frames := 0, cells := 0, slots := 0, locals := 0 } : Room).slots) _
  refine OGo.to (fun _ k => castTop (ef_gc1_0 m a1 (0 : Int32)) k) ?_
  refine OGo.to (fun _ k => XS.aloadN X0.here hx rfl (hb hby d23_0) rfl rfl k) ?_
  refine OGo.to (fun _ k => XS.iloadN X0.here hx rfl (hb hby d23_1) rfl k) ?_
  have Vq_1 := VX
  obtain ⟨cl_1, Ar_1, q_1, S_1, M_1, Hs_1, G_1⟩ := Vq_1
  have hin_2 : ¬ ((0 : Int32) < 0 ∨ cl_1.slots.size ≤ ((0 : Int32)).toNatClampNeg) := inb_of S_1 ⟨by decide, by decide⟩
  have hat_2 : cl_1.slots[((0 : Int32)).toNatClampNeg]? = some (.int x0) := Hs_1.at hin_2 (rfl)
  refine OGo.to (fun _ k => X0.baloadBytes hx (j := (0 : Int32)) (v := (.int x0)) (by rw [e0]; exact Ar_1.1) (State.isArrayOf_alike hZ.alike Ar_1.2.1) Ar_1.2.2 hin_2 hat_2 (g := (mkF m 2 #[.val (.ref a1), .val (.int (0 : Int32))] [(.int (0 : Int32)), (.ref a1)])) rfl rfl (hb hby d23_2) _ k) ?_
  show OGo p e below _ (s₁.setTop (mkF m 3 #[.val (.ref a1), .val (.int (0 : Int32))] [(.int x0)]))
  refine OGo.to (fun _ k => XS.sipush X0.here hx rfl (hb hby d23_3) k) ?_
  refine OGo.to (fun _ k => XS.iand X0.here hx rfl (hb hby d23_6) rfl k) ?_
  refine OGo.to (fun _ k => XS.i2c X0.here hx rfl (hb hby d23_7) rfl k) ?_
  refine OGo.ret (Q := Qgc1_0 Z a1 ka x0 h0 n0) X0 (some (.int (nar .char ((x0 &&& (255 : Int32)).toUInt32.toUInt16.toUInt32.toInt32)))) (fun h => by rw [Bd.returns] at h; cases h) Bd.notSynchronized (fun fs hr => retN X0 hx (t := .char) (z := ((x0 &&& (255 : Int32)).toUInt32.toUInt16.toUInt32.toInt32)) Bd.returns (by simp) (hb hby d23_8) hr) ?_ (by decide) (by decide)
  show Qgc1_0 Z a1 ka x0 h0 n0 _ s₁.heap _
  rw [e0]
  exact ⟨rfl, N0, rfl⟩
theorem ef_gc2_0 (m : MethodId) (x0 : Addr) (x1 : Int32) : entryFrame m #[(.ref x0), (.int x1)] 2 = mkF m 0 #[.val (.ref x0), .val (.int x1)] [] := by first | (simp [entryFrame, mkF, argsToLocals, Value.category]; done) | rfl
def Qgc2_0 (Z : State) (a1 : Addr) (ka : ClassId) (x0 : Int32) (x1 : Int32) (h0 : Heap) (n0 : Nat) (v : Option Value) (h : Heap) (L : List Loc) : Prop := v = some (.int (own_gc x0)) ∧ Fr n0 L ∧ h = h0
set_option maxRecDepth 65536 in
set_option maxHeartbeats 40000000 in
theorem rmgc2_0 (l : Launch) (Z : State) (a0 : Array Value) (hw : ∀ d ∈ tables_1, d.before a0 Z = true) (ws : List Jvm.Cond) (a1 : Addr) (ka : ClassId) (x0 : Int32) (x1 : Int32) (h0 : Heap) (n0 : Nat) (Z0 : n0 ≤ h0.size) (VX : Arv Z h0 a1 ka .byte (2 : Int32) [(.int x0), (.int x1)] (.int (0 : Int32))) :
    MetFree l (⟨"java/lang/StringLatin1", "getChar", "([BI)C"⟩ : MethodName) (head1 (Jvm.Cond.code (⟨"java/lang/StringLatin1", "getChar", "([BI)C"⟩ : MethodName) jdk_43_method_44_code 2 (some .char) :: ws) ({ frames := 0, cells := 0, slots := 0, locals := 0 } : Room)) (fun a U => a = #[(.ref a1), (.int (0 : Int32))] ∧ Z.Warmed39 U.vm ∧ U.heap = h0) (fun _ _ _ _ _ => True) (fun _ U o U' => ∃ v L, o = .returned v ∧ Qgc2_0 Z a1 ka x0 x1 h0 n0 v U'.heap L ∧ FrameEnd U o U' L ({ frames := 0, cells := 0, slots := 0, locals := 0 } : Room).cells ({ frames := 0, cells := 0, slots := 0, locals := 0 } : Room).slots) := by
  refine MetFree.of_bodySF (plainFor_of_name pn_0) hisR ?_
  intro p e s m args below meth c s₁ Bd hml0 hP hK
  obtain ⟨rfl, hZ, hh⟩ := hP
  have hx := Bd.exec
  have hby := Bd.bytes
  have hml : c.maxLocals = 2 := hml0
  have hown : s.vm.findClass "java/lang/StringLatin1" = some m.cls := findClass_of_methodNamed Bd.named
  have hnm := (name_of_methodNamed Bd.named Bd.method).1
  have X0 : Stand p l e ({ frames := 0, cells := 0, slots := 0, locals := 0 } : Room) s m #[(.ref a1), (.int (0 : Int32))] below meth c s₁ [] 0 0 := Stand.of_body Bd
  have e0 : s₁.heap = h0 := by rw [← hh, Bd.state]; rfl
  have N0 := Fr.nil n0
  show OGo p e below (fun s₂ o => ∃ v L, o = .returned v ∧ Qgc2_0 Z a1 ka x0 x1 h0 n0 v s₂.heap L ∧ FrameEnd s o s₂ L ({ frames := 0, cells := 0, slots := 0, locals := 0 } : Room).cells ({ frames := 0, cells := 0, slots := 0, locals := 0 } : Room).slots) _
  refine OGo.to (fun _ k => castTop (ef_gc2_0 m a1 (0 : Int32)) k) ?_
  refine OGo.to (fun _ k => XS.aloadN X0.here hx rfl (hb hby d23_0) rfl rfl k) ?_
  refine OGo.to (fun _ k => XS.iloadN X0.here hx rfl (hb hby d23_1) rfl k) ?_
  have Vq_1 := VX
  obtain ⟨cl_1, Ar_1, q_1, S_1, M_1, Hs_1, G_1⟩ := Vq_1
  have hin_2 : ¬ ((0 : Int32) < 0 ∨ cl_1.slots.size ≤ ((0 : Int32)).toNatClampNeg) := inb_of S_1 ⟨by decide, by decide⟩
  have hat_2 : cl_1.slots[((0 : Int32)).toNatClampNeg]? = some (.int x0) := Hs_1.at hin_2 (rfl)
  refine OGo.to (fun _ k => X0.baloadBytes hx (j := (0 : Int32)) (v := (.int x0)) (by rw [e0]; exact Ar_1.1) (State.isArrayOf_alike hZ.alike Ar_1.2.1) Ar_1.2.2 hin_2 hat_2 (g := (mkF m 2 #[.val (.ref a1), .val (.int (0 : Int32))] [(.int (0 : Int32)), (.ref a1)])) rfl rfl (hb hby d23_2) _ k) ?_
  show OGo p e below _ (s₁.setTop (mkF m 3 #[.val (.ref a1), .val (.int (0 : Int32))] [(.int x0)]))
  refine OGo.to (fun _ k => XS.sipush X0.here hx rfl (hb hby d23_3) k) ?_
  refine OGo.to (fun _ k => XS.iand X0.here hx rfl (hb hby d23_6) rfl k) ?_
  refine OGo.to (fun _ k => XS.i2c X0.here hx rfl (hb hby d23_7) rfl k) ?_
  refine OGo.ret (Q := Qgc2_0 Z a1 ka x0 x1 h0 n0) X0 (some (.int (nar .char ((x0 &&& (255 : Int32)).toUInt32.toUInt16.toUInt32.toInt32)))) (fun h => by rw [Bd.returns] at h; cases h) Bd.notSynchronized (fun fs hr => retN X0 hx (t := .char) (z := ((x0 &&& (255 : Int32)).toUInt32.toUInt16.toUInt32.toInt32)) Bd.returns (by simp) (hb hby d23_8) hr) ?_ (by decide) (by decide)
  show Qgc2_0 Z a1 ka x0 x1 h0 n0 _ s₁.heap _
  rw [e0]
  exact ⟨rfl, N0, rfl⟩
theorem ef_gc2_1 (m : MethodId) (x0 : Addr) (x1 : Int32) : entryFrame m #[(.ref x0), (.int x1)] 2 = mkF m 0 #[.val (.ref x0), .val (.int x1)] [] := by first | (simp [entryFrame, mkF, argsToLocals, Value.category]; done) | rfl
def Qgc2_1 (Z : State) (a1 : Addr) (ka : ClassId) (x0 : Int32) (x1 : Int32) (h0 : Heap) (n0 : Nat) (v : Option Value) (h : Heap) (L : List Loc) : Prop := v = some (.int (own_gc x1)) ∧ Fr n0 L ∧ h = h0
set_option maxRecDepth 65536 in
set_option maxHeartbeats 40000000 in
theorem rmgc2_1 (l : Launch) (Z : State) (a0 : Array Value) (hw : ∀ d ∈ tables_1, d.before a0 Z = true) (ws : List Jvm.Cond) (a1 : Addr) (ka : ClassId) (x0 : Int32) (x1 : Int32) (h0 : Heap) (n0 : Nat) (Z0 : n0 ≤ h0.size) (VX : Arv Z h0 a1 ka .byte (2 : Int32) [(.int x0), (.int x1)] (.int (0 : Int32))) :
    MetFree l (⟨"java/lang/StringLatin1", "getChar", "([BI)C"⟩ : MethodName) (head1 (Jvm.Cond.code (⟨"java/lang/StringLatin1", "getChar", "([BI)C"⟩ : MethodName) jdk_43_method_44_code 2 (some .char) :: ws) ({ frames := 0, cells := 0, slots := 0, locals := 0 } : Room)) (fun a U => a = #[(.ref a1), (.int (1 : Int32))] ∧ Z.Warmed39 U.vm ∧ U.heap = h0) (fun _ _ _ _ _ => True) (fun _ U o U' => ∃ v L, o = .returned v ∧ Qgc2_1 Z a1 ka x0 x1 h0 n0 v U'.heap L ∧ FrameEnd U o U' L ({ frames := 0, cells := 0, slots := 0, locals := 0 } : Room).cells ({ frames := 0, cells := 0, slots := 0, locals := 0 } : Room).slots) := by
  refine MetFree.of_bodySF (plainFor_of_name pn_0) hisR ?_
  intro p e s m args below meth c s₁ Bd hml0 hP hK
  obtain ⟨rfl, hZ, hh⟩ := hP
  have hx := Bd.exec
  have hby := Bd.bytes
  have hml : c.maxLocals = 2 := hml0
  have hown : s.vm.findClass "java/lang/StringLatin1" = some m.cls := findClass_of_methodNamed Bd.named
  have hnm := (name_of_methodNamed Bd.named Bd.method).1
  have X0 : Stand p l e ({ frames := 0, cells := 0, slots := 0, locals := 0 } : Room) s m #[(.ref a1), (.int (1 : Int32))] below meth c s₁ [] 0 0 := Stand.of_body Bd
  have e0 : s₁.heap = h0 := by rw [← hh, Bd.state]; rfl
  have N0 := Fr.nil n0
  show OGo p e below (fun s₂ o => ∃ v L, o = .returned v ∧ Qgc2_1 Z a1 ka x0 x1 h0 n0 v s₂.heap L ∧ FrameEnd s o s₂ L ({ frames := 0, cells := 0, slots := 0, locals := 0 } : Room).cells ({ frames := 0, cells := 0, slots := 0, locals := 0 } : Room).slots) _
  refine OGo.to (fun _ k => castTop (ef_gc2_1 m a1 (1 : Int32)) k) ?_
  refine OGo.to (fun _ k => XS.aloadN X0.here hx rfl (hb hby d23_0) rfl rfl k) ?_
  refine OGo.to (fun _ k => XS.iloadN X0.here hx rfl (hb hby d23_1) rfl k) ?_
  have Vq_1 := VX
  obtain ⟨cl_1, Ar_1, q_1, S_1, M_1, Hs_1, G_1⟩ := Vq_1
  have hin_2 : ¬ ((1 : Int32) < 0 ∨ cl_1.slots.size ≤ ((1 : Int32)).toNatClampNeg) := inb_of S_1 ⟨by decide, by decide⟩
  have hat_2 : cl_1.slots[((1 : Int32)).toNatClampNeg]? = some (.int x1) := Hs_1.at hin_2 (rfl)
  refine OGo.to (fun _ k => X0.baloadBytes hx (j := (1 : Int32)) (v := (.int x1)) (by rw [e0]; exact Ar_1.1) (State.isArrayOf_alike hZ.alike Ar_1.2.1) Ar_1.2.2 hin_2 hat_2 (g := (mkF m 2 #[.val (.ref a1), .val (.int (1 : Int32))] [(.int (1 : Int32)), (.ref a1)])) rfl rfl (hb hby d23_2) _ k) ?_
  show OGo p e below _ (s₁.setTop (mkF m 3 #[.val (.ref a1), .val (.int (1 : Int32))] [(.int x1)]))
  refine OGo.to (fun _ k => XS.sipush X0.here hx rfl (hb hby d23_3) k) ?_
  refine OGo.to (fun _ k => XS.iand X0.here hx rfl (hb hby d23_6) rfl k) ?_
  refine OGo.to (fun _ k => XS.i2c X0.here hx rfl (hb hby d23_7) rfl k) ?_
  refine OGo.ret (Q := Qgc2_1 Z a1 ka x0 x1 h0 n0) X0 (some (.int (nar .char ((x1 &&& (255 : Int32)).toUInt32.toUInt16.toUInt32.toInt32)))) (fun h => by rw [Bd.returns] at h; cases h) Bd.notSynchronized (fun fs hr => retN X0 hx (t := .char) (z := ((x1 &&& (255 : Int32)).toUInt32.toUInt16.toUInt32.toInt32)) Bd.returns (by simp) (hb hby d23_8) hr) ?_ (by decide) (by decide)
  show Qgc2_1 Z a1 ka x0 x1 h0 n0 _ s₁.heap _
  rw [e0]
  exact ⟨rfl, N0, rfl⟩
theorem d10_0 : decode jdk_43_method_15_code 0 = .ok (.iload_n 2, 1) := by decide +kernel
theorem d10_1 : decode jdk_43_method_15_code 1 = .ok (.iload_n 3, 1) := by decide +kernel
theorem d10_2 : decode jdk_43_method_15_code 2 = .ok (.invokestatic 38, 3) := by decide +kernel
theorem d10_5 : decode jdk_43_method_15_code 5 = .ok (.istore 4, 2) := by decide +kernel
theorem d10_7 : decode jdk_43_method_15_code 7 = .ok (.aload_n 0, 1) := by decide +kernel
theorem d10_8 : decode jdk_43_method_15_code 8 = .ok (.aload_n 1, 1) := by decide +kernel
theorem d10_9 : decode jdk_43_method_15_code 9 = .ok (.iload 4, 2) := by decide +kernel
theorem d10_11 : decode jdk_43_method_15_code 11 = .ok (.invokestatic 44, 3) := by decide +kernel
theorem d10_14 : decode jdk_43_method_15_code 14 = .ok (.istore 5, 2) := by decide +kernel
theorem d10_16 : decode jdk_43_method_15_code 16 = .ok (.iload 5, 2) := by decide +kernel
theorem d10_18 : decode jdk_43_method_15_code 18 = .ok (.ifCond .ge 9, 3) := by decide +kernel
theorem d10_21 : decode jdk_43_method_15_code 21 = .ok (.iload_n 2, 1) := by decide +kernel
theorem d10_22 : decode jdk_43_method_15_code 22 = .ok (.iload_n 3, 1) := by decide +kernel
theorem d10_23 : decode jdk_43_method_15_code 23 = .ok (.isub, 1) := by decide +kernel
theorem d10_24 : decode jdk_43_method_15_code 24 = .ok (.goto 16, 3) := by decide +kernel
theorem d10_40 : decode jdk_43_method_15_code 40 = .ok (.ireturn, 1) := by decide +kernel
theorem ef_c400 (m : MethodId) (x0 : Addr) (x1 : Addr) (x2 : Int32) (x3 : Int32) : entryFrame m #[(.ref x0), (.ref x1), (.int x2), (.int x3)] 6 = mkF m 0 #[.val (.ref x0), .val (.ref x1), .val (.int x2), .val (.int x3), .unset, .unset] [] := by first | (simp [entryFrame, mkF, argsToLocals, Value.category]; done) | rfl
def Qc400 (Z : State) (a1 : Addr) (a2 : Addr) (ka : ClassId) (kb : ClassId) (h0 : Heap) (n0 : Nat) (v : Option Value) (h : Heap) (L : List Loc) : Prop := v = some (.int (own_scmp [] [])) ∧ Fr n0 L ∧ h = h0
set_option maxRecDepth 65536 in
set_option maxHeartbeats 40000000 in
theorem rmc400 (l : Launch) (Z : State) (a0 : Array Value) (hw : ∀ d ∈ tables_1, d.before a0 Z = true) (ws : List Jvm.Cond) (a1 : Addr) (a2 : Addr) (ka : ClassId) (kb : ClassId) (h0 : Heap) (n0 : Nat) (Z0 : n0 ≤ h0.size) (VX : Arv Z h0 a1 ka .byte (0 : Int32) [] (.int (0 : Int32))) (VY : Arv Z h0 a2 kb .byte (0 : Int32) [] (.int (0 : Int32))) :
    MetFree l (⟨"java/lang/StringLatin1", "compareTo", "([B[BII)I"⟩ : MethodName) (head1 (Jvm.Cond.code (⟨"java/lang/StringLatin1", "compareTo", "([B[BII)I"⟩ : MethodName) jdk_43_method_15_code 6 (some .int) :: ws) ({ frames := 1, cells := 0, slots := 0, locals := 15 } : Room)) (fun a U => a = #[(.ref a1), (.ref a2), (.int (0 : Int32)), (.int (0 : Int32))] ∧ Z.Warmed39 U.vm ∧ U.heap = h0) (fun _ _ _ _ _ => True) (fun _ U o U' => ∃ v L, o = .returned v ∧ Qc400 Z a1 a2 ka kb h0 n0 v U'.heap L ∧ FrameEnd U o U' L ({ frames := 1, cells := 0, slots := 0, locals := 15 } : Room).cells ({ frames := 1, cells := 0, slots := 0, locals := 15 } : Room).slots) := by
  refine MetFree.of_bodySF (plainFor_of_name pn_0) hisR ?_
  intro p e s m args below meth c s₁ Bd hml0 hP hK
  obtain ⟨rfl, hZ, hh⟩ := hP
  have hx := Bd.exec
  have hby := Bd.bytes
  have hml : c.maxLocals = 6 := hml0
  have hown : s.vm.findClass "java/lang/StringLatin1" = some m.cls := findClass_of_methodNamed Bd.named
  have hnm := (name_of_methodNamed Bd.named Bd.method).1
  have X0 : Stand p l e ({ frames := 1, cells := 0, slots := 0, locals := 15 } : Room) s m #[(.ref a1), (.ref a2), (.int (0 : Int32)), (.int (0 : Int32))] below meth c s₁ [] 0 0 := Stand.of_body Bd
  have e0 : s₁.heap = h0 := by rw [← hh, Bd.state]; rfl
  have N0 := Fr.nil n0
  show OGo p e below (fun s₂ o => ∃ v L, o = .returned v ∧ Qc400 Z a1 a2 ka kb h0 n0 v s₂.heap L ∧ FrameEnd s o s₂ L ({ frames := 1, cells := 0, slots := 0, locals := 15 } : Room).cells ({ frames := 1, cells := 0, slots := 0, locals := 15 } : Room).slots) _
  refine OGo.to (fun _ k => castTop (ef_c400 m a1 a2 (0 : Int32) (0 : Int32)) k) ?_
  refine OGo.to (fun _ k => XS.iloadN X0.here hx rfl (hb hby d10_0) rfl k) ?_
  refine OGo.to (fun _ k => XS.iloadN X0.here hx rfl (hb hby d10_1) rfl k) ?_
  obtain ⟨_, T_1, Lc_1, X_1, hQ_1, st_1⟩ := own_un X0 (Q := Qmn00 Z  h0 n0) (rc := 0) (rs := 0) (W := fun v B => ∀ target, Steps p.tables e below (B.setTop { (mkF m 2 #[.val (.ref a1), .val (.ref a2), .val (.int (0 : Int32)), .val (.int (0 : Int32)), .unset, .unset] [(.int (0 : Int32)), (.int (0 : Int32))]) with pc := 5, stack := v.toList ++ [] }) target → Steps p.tables e below (s₁.setTop (mkF m 2 #[.val (.ref a1), .val (.ref a2), .val (.int (0 : Int32)), .val (.int (0 : Int32)), .unset, .unset] [(.int (0 : Int32)), (.int (0 : Int32))])) target) <| Jvm.LawKit.callS X0 hx (y := (⟨"java/lang/Math", "min", "(II)I"⟩ : MethodName)) hown (mvT hZ (hw _ (List.mem_of_getElem? (i := 54) rfl))) (mvT hZ (hw _ (List.mem_of_getElem? (i := 55) rfl))) (mvT hZ (hw _ (List.mem_of_getElem? (i := 56) rfl))) (mvT hZ (hw _ (List.mem_of_getElem? (i := 57) rfl))) (by decide) (backOf (W := 0) (rmmn00 l Z a0 hw []  h0 n0 Z0 ) hZ (hw _ (List.mem_of_getElem? (i := 57) rfl)) (hw _ (List.mem_of_getElem? (i := 56) rfl)) (by decide) (by decide)) (g := (mkF m 2 #[.val (.ref a1), .val (.ref a2), .val (.int (0 : Int32)), .val (.int (0 : Int32)), .unset, .unset] [(.int (0 : Int32)), (.int (0 : Int32))])) rfl (by rw [hml]; rfl) (argsL := [(.int (0 : Int32)), (.int (0 : Int32))]) (rest := []) (lenOf pd_9 rfl) rfl (by show 2 * 0 + _ ≤ _; exact Nat.le_of_eq rfl) (hb hby d10_2) (fun _ _ => ⟨rfl, e0, (by decide : 0 + 0 ≤ _), (by decide : 0 + 0 ≤ _)⟩)
  obtain ⟨rfl, N_1q, e_1⟩ := hQ_1
  have N_1 := Fr.app N0 N_1q
  refine OGo.to st_1 ?_
  show OGo p e below _ (T_1.setTop (mkF m 5 #[.val (.ref a1), .val (.ref a2), .val (.int (0 : Int32)), .val (.int (0 : Int32)), .unset, .unset] [(.int (0 : Int32))]))
  refine OGo.to (fun _ k => XS.istore X_1.here hx rfl (hb hby d10_5) rfl (l' := #[.val (.ref a1), .val (.ref a2), .val (.int (0 : Int32)), .val (.int (0 : Int32)), .val (.int (0 : Int32)), .unset]) rfl k) ?_
  refine OGo.to (fun _ k => XS.aloadN X_1.here hx rfl (hb hby d10_7) rfl rfl k) ?_
  refine OGo.to (fun _ k => XS.aloadN X_1.here hx rfl (hb hby d10_8) rfl rfl k) ?_
  refine OGo.to (fun _ k => XS.iload X_1.here hx rfl (hb hby d10_9) rfl k) ?_
  obtain ⟨_, T_2, Lc_2, X_2, hQ_2, st_2⟩ := own_un X_1 (Q := Qmm00 Z a1 a2 ka kb h0 n0) (rc := 0) (rs := 0) (W := fun v B => ∀ target, Steps p.tables e below (B.setTop { (mkF m 11 #[.val (.ref a1), .val (.ref a2), .val (.int (0 : Int32)), .val (.int (0 : Int32)), .val (.int (0 : Int32)), .unset] [(.int (0 : Int32)), (.ref a2), (.ref a1)]) with pc := 14, stack := v.toList ++ [] }) target → Steps p.tables e below (T_1.setTop (mkF m 11 #[.val (.ref a1), .val (.ref a2), .val (.int (0 : Int32)), .val (.int (0 : Int32)), .val (.int (0 : Int32)), .unset] [(.int (0 : Int32)), (.ref a2), (.ref a1)])) target) <| Jvm.LawKit.callS X_1 hx (y := (⟨"jdk/internal/util/ArraysSupport", "mismatch", "([B[BI)I"⟩ : MethodName)) hown (mvT hZ (hw _ (List.mem_of_getElem? (i := 58) rfl))) (mvT hZ (hw _ (List.mem_of_getElem? (i := 59) rfl))) (mvT hZ (hw _ (List.mem_of_getElem? (i := 60) rfl))) (mvT hZ (hw _ (List.mem_of_getElem? (i := 61) rfl))) (by decide) (backOf (W := 0) (rmmm00 l Z a0 hw [] a1 a2 ka kb h0 n0 Z0 VX VY) hZ (hw _ (List.mem_of_getElem? (i := 61) rfl)) (hw _ (List.mem_of_getElem? (i := 60) rfl)) (by decide) (by decide)) (g := (mkF m 11 #[.val (.ref a1), .val (.ref a2), .val (.int (0 : Int32)), .val (.int (0 : Int32)), .val (.int (0 : Int32)), .unset] [(.int (0 : Int32)), (.ref a2), (.ref a1)])) rfl (by rw [hml]; rfl) (argsL := [(.ref a1), (.ref a2), (.int (0 : Int32))]) (rest := []) (lenOf pd_10 rfl) rfl (by show 2 * 0 + _ ≤ _; exact Nat.le_of_eq rfl) (hb hby d10_11) (fun _ _ => ⟨rfl, e_1, (by decide : 0 + 0 ≤ _), (by decide : 0 + 0 ≤ _)⟩)
  obtain ⟨rfl, N_2q, e_2⟩ := hQ_2
  have N_2 := Fr.app N_1 N_2q
  refine OGo.to st_2 ?_
  show OGo p e below _ (T_2.setTop (mkF m 14 #[.val (.ref a1), .val (.ref a2), .val (.int (0 : Int32)), .val (.int (0 : Int32)), .val (.int (0 : Int32)), .unset] [(.int (-1 : Int32))]))
  refine OGo.to (fun _ k => XS.istore X_2.here hx rfl (hb hby d10_14) rfl (l' := #[.val (.ref a1), .val (.ref a2), .val (.int (0 : Int32)), .val (.int (0 : Int32)), .val (.int (0 : Int32)), .val (.int (-1 : Int32))]) rfl k) ?_
  refine OGo.to (fun _ k => XS.iload X_2.here hx rfl (hb hby d10_16) rfl k) ?_
  have hc18__3 : (-1 : Int32) < (0 : Int32) := by decide
  refine OGo.to (fun _ k => XS.ifNo X_2.here hx rfl (hb hby d10_18) rfl ((if0 _ _).trans (tlt hc18__3).2.1) k) ?_
  show OGo p e below _ (T_2.setTop (mkF m 21 #[.val (.ref a1), .val (.ref a2), .val (.int (0 : Int32)), .val (.int (0 : Int32)), .val (.int (0 : Int32)), .val (.int (-1 : Int32))] []))
  refine OGo.to (fun _ k => XS.iloadN X_2.here hx rfl (hb hby d10_21) rfl k) ?_
  refine OGo.to (fun _ k => XS.iloadN X_2.here hx rfl (hb hby d10_22) rfl k) ?_
  refine OGo.to (fun _ k => XS.isub X_2.here hx rfl (hb hby d10_23) rfl k) ?_
  refine OGo.to (fun _ k => XS.goto X_2.here hx rfl (pc0 := 24) (pc' := 40) rfl (hb hby d10_24) (by decide) (by decide) k) ?_
  refine OGo.ret (Q := Qc400 Z a1 a2 ka kb h0 n0) X_2 (some (.int (0 : Int32))) (fun h => by rw [Bd.returns] at h; cases h) Bd.notSynchronized (fun fs hr => retI X_2 hx Bd.returns (hb hby d10_40) hr) ?_ (by decide) (by decide)
  show Qc400 Z a1 a2 ka kb h0 n0 _ T_2.heap _
  rw [e_2]
  exact ⟨congrArg (fun z => some (Value.int z)) (show (0 : Int32) = (own_scmp [] []) from by show _ = own_i 0 - own_i 0; decide), N_2, rfl⟩
theorem d9_0 : decode jdk_43_method_14_code 0 = .ok (.aload_n 0, 1) := by decide +kernel
theorem d9_1 : decode jdk_43_method_14_code 1 = .ok (.arraylength, 1) := by decide +kernel
theorem d9_2 : decode jdk_43_method_14_code 2 = .ok (.istore_n 2, 1) := by decide +kernel
theorem d9_3 : decode jdk_43_method_14_code 3 = .ok (.aload_n 1, 1) := by decide +kernel
theorem d9_4 : decode jdk_43_method_14_code 4 = .ok (.arraylength, 1) := by decide +kernel
theorem d9_5 : decode jdk_43_method_14_code 5 = .ok (.istore_n 3, 1) := by decide +kernel
theorem d9_6 : decode jdk_43_method_14_code 6 = .ok (.aload_n 0, 1) := by decide +kernel
theorem d9_7 : decode jdk_43_method_14_code 7 = .ok (.aload_n 1, 1) := by decide +kernel
theorem d9_8 : decode jdk_43_method_14_code 8 = .ok (.iload_n 2, 1) := by decide +kernel
theorem d9_9 : decode jdk_43_method_14_code 9 = .ok (.iload_n 3, 1) := by decide +kernel
theorem d9_10 : decode jdk_43_method_14_code 10 = .ok (.invokestatic 34, 3) := by decide +kernel
theorem d9_13 : decode jdk_43_method_14_code 13 = .ok (.ireturn, 1) := by decide +kernel
theorem ef_c200 (m : MethodId) (x0 : Addr) (x1 : Addr) : entryFrame m #[(.ref x0), (.ref x1)] 4 = mkF m 0 #[.val (.ref x0), .val (.ref x1), .unset, .unset] [] := by first | (simp [entryFrame, mkF, argsToLocals, Value.category]; done) | rfl
def Qc200 (Z : State) (a1 : Addr) (a2 : Addr) (ka : ClassId) (kb : ClassId) (h0 : Heap) (n0 : Nat) (v : Option Value) (h : Heap) (L : List Loc) : Prop := v = some (.int (own_scmp [] [])) ∧ Fr n0 L ∧ h = h0
set_option maxRecDepth 65536 in
set_option maxHeartbeats 40000000 in
theorem rmc200 (l : Launch) (Z : State) (a0 : Array Value) (hw : ∀ d ∈ tables_1, d.before a0 Z = true) (ws : List Jvm.Cond) (a1 : Addr) (a2 : Addr) (ka : ClassId) (kb : ClassId) (h0 : Heap) (n0 : Nat) (Z0 : n0 ≤ h0.size) (VX : Arv Z h0 a1 ka .byte (0 : Int32) [] (.int (0 : Int32))) (VY : Arv Z h0 a2 kb .byte (0 : Int32) [] (.int (0 : Int32))) :
    MetFree l (⟨"java/lang/StringLatin1", "compareTo", "([B[B)I"⟩ : MethodName) (head1 (Jvm.Cond.code (⟨"java/lang/StringLatin1", "compareTo", "([B[B)I"⟩ : MethodName) jdk_43_method_14_code 4 (some .int) :: ws) ({ frames := 2, cells := 0, slots := 0, locals := 32 } : Room)) (fun a U => a = #[(.ref a1), (.ref a2)] ∧ Z.Warmed39 U.vm ∧ U.heap = h0) (fun _ _ _ _ _ => True) (fun _ U o U' => ∃ v L, o = .returned v ∧ Qc200 Z a1 a2 ka kb h0 n0 v U'.heap L ∧ FrameEnd U o U' L ({ frames := 2, cells := 0, slots := 0, locals := 32 } : Room).cells ({ frames := 2, cells := 0, slots := 0, locals := 32 } : Room).slots) := by
  refine MetFree.of_bodySF (plainFor_of_name pn_0) hisR ?_
  intro p e s m args below meth c s₁ Bd hml0 hP hK
  obtain ⟨rfl, hZ, hh⟩ := hP
  have hx := Bd.exec
  have hby := Bd.bytes
  have hml : c.maxLocals = 4 := hml0
  have hown : s.vm.findClass "java/lang/StringLatin1" = some m.cls := findClass_of_methodNamed Bd.named
  have hnm := (name_of_methodNamed Bd.named Bd.method).1
  have X0 : Stand p l e ({ frames := 2, cells := 0, slots := 0, locals := 32 } : Room) s m #[(.ref a1), (.ref a2)] below meth c s₁ [] 0 0 := Stand.of_body Bd
  have e0 : s₁.heap = h0 := by rw [← hh, Bd.state]; rfl
  have N0 := Fr.nil n0
  show OGo p e below (fun s₂ o => ∃ v L, o = .returned v ∧ Qc200 Z a1 a2 ka kb h0 n0 v s₂.heap L ∧ FrameEnd s o s₂ L ({ frames := 2, cells := 0, slots := 0, locals := 32 } : Room).cells ({ frames := 2, cells := 0, slots := 0, locals := 32 } : Room).slots) _
  refine OGo.to (fun _ k => castTop (ef_c200 m a1 a2) k) ?_
  refine OGo.to (fun _ k => XS.aloadN X0.here hx rfl (hb hby d9_0) rfl rfl k) ?_
  have Vq_1 := VX
  obtain ⟨cl_1, Ar_1, q_1, S_1, M_1, Hs_1, G_1⟩ := Vq_1
  refine OGo.to (fun _ k => X0.arraylength hx (by rw [e0]; exact Ar_1.1) (State.isArrayOf_alike hZ.alike Ar_1.2.1) (g := (mkF m 1 #[.val (.ref a1), .val (.ref a2), .unset, .unset] [(.ref a1)])) rfl rfl (hb hby d9_1) _ k) ?_
  rw [len_of S_1 M_1]
  show OGo p e below _ (s₁.setTop (mkF m 2 #[.val (.ref a1), .val (.ref a2), .unset, .unset] [(.int (0 : Int32))]))
  refine OGo.to (fun _ k => XS.istoreN X0.here hx rfl (hb hby d9_2) rfl (l' := #[.val (.ref a1), .val (.ref a2), .val (.int (0 : Int32)), .unset]) rfl k) ?_
  refine OGo.to (fun _ k => XS.aloadN X0.here hx rfl (hb hby d9_3) rfl rfl k) ?_
  have Vq_2 := VY
  obtain ⟨cl_2, Ar_2, q_2, S_2, M_2, Hs_2, G_2⟩ := Vq_2
  refine OGo.to (fun _ k => X0.arraylength hx (by rw [e0]; exact Ar_2.1) (State.isArrayOf_alike hZ.alike Ar_2.2.1) (g := (mkF m 4 #[.val (.ref a1), .val (.ref a2), .val (.int (0 : Int32)), .unset] [(.ref a2)])) rfl rfl (hb hby d9_4) _ k) ?_
  rw [len_of S_2 M_2]
  show OGo p e below _ (s₁.setTop (mkF m 5 #[.val (.ref a1), .val (.ref a2), .val (.int (0 : Int32)), .unset] [(.int (0 : Int32))]))
  refine OGo.to (fun _ k => XS.istoreN X0.here hx rfl (hb hby d9_5) rfl (l' := #[.val (.ref a1), .val (.ref a2), .val (.int (0 : Int32)), .val (.int (0 : Int32))]) rfl k) ?_
  refine OGo.to (fun _ k => XS.aloadN X0.here hx rfl (hb hby d9_6) rfl rfl k) ?_
  refine OGo.to (fun _ k => XS.aloadN X0.here hx rfl (hb hby d9_7) rfl rfl k) ?_
  refine OGo.to (fun _ k => XS.iloadN X0.here hx rfl (hb hby d9_8) rfl k) ?_
  refine OGo.to (fun _ k => XS.iloadN X0.here hx rfl (hb hby d9_9) rfl k) ?_
  obtain ⟨_, T_3, Lc_3, X_3, hQ_3, st_3⟩ := own_un X0 (Q := Qc400 Z a1 a2 ka kb h0 n0) (rc := 0) (rs := 0) (W := fun v B => ∀ target, Steps p.tables e below (B.setTop { (mkF m 10 #[.val (.ref a1), .val (.ref a2), .val (.int (0 : Int32)), .val (.int (0 : Int32))] [(.int (0 : Int32)), (.int (0 : Int32)), (.ref a2), (.ref a1)]) with pc := 13, stack := v.toList ++ [] }) target → Steps p.tables e below (s₁.setTop (mkF m 10 #[.val (.ref a1), .val (.ref a2), .val (.int (0 : Int32)), .val (.int (0 : Int32))] [(.int (0 : Int32)), (.int (0 : Int32)), (.ref a2), (.ref a1)])) target) <| Jvm.LawKit.callS X0 hx (y := (⟨"java/lang/StringLatin1", "compareTo", "([B[BII)I"⟩ : MethodName)) hown (mvT hZ (hw _ (List.mem_of_getElem? (i := 51) rfl))) (mvT hZ (hw _ (List.mem_of_getElem? (i := 52) rfl))) (mvT hZ (hw _ (List.mem_of_getElem? (i := 49) rfl))) (mvT hZ (hw _ (List.mem_of_getElem? (i := 53) rfl))) (by decide) (backOf (W := 0) (rmc400 l Z a0 hw [] a1 a2 ka kb h0 n0 Z0 VX VY) hZ (hw _ (List.mem_of_getElem? (i := 53) rfl)) (hw _ (List.mem_of_getElem? (i := 49) rfl)) (by decide) (by decide)) (g := (mkF m 10 #[.val (.ref a1), .val (.ref a2), .val (.int (0 : Int32)), .val (.int (0 : Int32))] [(.int (0 : Int32)), (.int (0 : Int32)), (.ref a2), (.ref a1)])) rfl (by rw [hml]; rfl) (argsL := [(.ref a1), (.ref a2), (.int (0 : Int32)), (.int (0 : Int32))]) (rest := []) (lenOf pd_11 rfl) rfl (by show 2 * 0 + _ ≤ _; exact Nat.le_of_eq rfl) (hb hby d9_10) (fun _ _ => ⟨rfl, e0, (by decide : 0 + 0 ≤ _), (by decide : 0 + 0 ≤ _)⟩)
  obtain ⟨rfl, N_3q, e_3⟩ := hQ_3
  have N_3 := Fr.app N0 N_3q
  refine OGo.to st_3 ?_
  show OGo p e below _ (T_3.setTop (mkF m 13 #[.val (.ref a1), .val (.ref a2), .val (.int (0 : Int32)), .val (.int (0 : Int32))] [(.int (own_scmp [] []))]))
  refine OGo.ret (Q := Qc200 Z a1 a2 ka kb h0 n0) X_3 (some (.int (own_scmp [] []))) (fun h => by rw [Bd.returns] at h; cases h) Bd.notSynchronized (fun fs hr => retI X_3 hx Bd.returns (hb hby d9_13) hr) ?_ (by decide) (by decide)
  show Qc200 Z a1 a2 ka kb h0 n0 _ T_3.heap _
  rw [e_3]
  exact ⟨rfl, N_3, rfl⟩
theorem d15_0 : decode jdk_43_method_13_code 0 = .ok (.aload_n 0, 1) := by decide +kernel
theorem d15_1 : decode jdk_43_method_13_code 1 = .ok (.arraylength, 1) := by decide +kernel
theorem d15_2 : decode jdk_43_method_13_code 2 = .ok (.aload_n 1, 1) := by decide +kernel
theorem d15_3 : decode jdk_43_method_13_code 3 = .ok (.arraylength, 1) := by decide +kernel
theorem d15_4 : decode jdk_43_method_13_code 4 = .ok (.if_icmp .ne 30, 3) := by decide +kernel
theorem d15_7 : decode jdk_43_method_13_code 7 = .ok (.iconst 0, 1) := by decide +kernel
theorem d15_8 : decode jdk_43_method_13_code 8 = .ok (.istore_n 2, 1) := by decide +kernel
theorem d15_9 : decode jdk_43_method_13_code 9 = .ok (.iload_n 2, 1) := by decide +kernel
theorem d15_10 : decode jdk_43_method_13_code 10 = .ok (.aload_n 0, 1) := by decide +kernel
theorem d15_11 : decode jdk_43_method_13_code 11 = .ok (.arraylength, 1) := by decide +kernel
theorem d15_12 : decode jdk_43_method_13_code 12 = .ok (.if_icmp .ge 20, 3) := by decide +kernel
theorem d15_32 : decode jdk_43_method_13_code 32 = .ok (.iconst 1, 1) := by decide +kernel
theorem d15_33 : decode jdk_43_method_13_code 33 = .ok (.ireturn, 1) := by decide +kernel
theorem ef_eq00 (m : MethodId) (x0 : Addr) (x1 : Addr) : entryFrame m #[(.ref x0), (.ref x1)] 3 = mkF m 0 #[.val (.ref x0), .val (.ref x1), .unset] [] := by first | (simp [entryFrame, mkF, argsToLocals, Value.category]; done) | rfl
def Qeq00 (Z : State) (a1 : Addr) (a2 : Addr) (ka : ClassId) (kb : ClassId) (h0 : Heap) (n0 : Nat) (v : Option Value) (h : Heap) (L : List Loc) : Prop := v = some (.int (own_seq [] [])) ∧ Fr n0 L ∧ h = h0
set_option maxRecDepth 65536 in
set_option maxHeartbeats 40000000 in
theorem rmeq00 (l : Launch) (Z : State) (a0 : Array Value) (hw : ∀ d ∈ tables_1, d.before a0 Z = true) (ws : List Jvm.Cond) (a1 : Addr) (a2 : Addr) (ka : ClassId) (kb : ClassId) (h0 : Heap) (n0 : Nat) (Z0 : n0 ≤ h0.size) (VX : Arv Z h0 a1 ka .byte (0 : Int32) [] (.int (0 : Int32))) (VY : Arv Z h0 a2 kb .byte (0 : Int32) [] (.int (0 : Int32))) :
    MetFree l (⟨"java/lang/StringLatin1", "equals", "([B[B)Z"⟩ : MethodName) (head1 (Jvm.Cond.code (⟨"java/lang/StringLatin1", "equals", "([B[B)Z"⟩ : MethodName) jdk_43_method_13_code 3 (some .boolean) :: ws) ({ frames := 0, cells := 0, slots := 0, locals := 0 } : Room)) (fun a U => a = #[(.ref a1), (.ref a2)] ∧ Z.Warmed39 U.vm ∧ U.heap = h0) (fun _ _ _ _ _ => True) (fun _ U o U' => ∃ v L, o = .returned v ∧ Qeq00 Z a1 a2 ka kb h0 n0 v U'.heap L ∧ FrameEnd U o U' L ({ frames := 0, cells := 0, slots := 0, locals := 0 } : Room).cells ({ frames := 0, cells := 0, slots := 0, locals := 0 } : Room).slots) := by
  refine MetFree.of_bodySF (plainFor_of_name pn_0) hisR ?_
  intro p e s m args below meth c s₁ Bd hml0 hP hK
  obtain ⟨rfl, hZ, hh⟩ := hP
  have hx := Bd.exec
  have hby := Bd.bytes
  have hml : c.maxLocals = 3 := hml0
  have hown : s.vm.findClass "java/lang/StringLatin1" = some m.cls := findClass_of_methodNamed Bd.named
  have hnm := (name_of_methodNamed Bd.named Bd.method).1
  have X0 : Stand p l e ({ frames := 0, cells := 0, slots := 0, locals := 0 } : Room) s m #[(.ref a1), (.ref a2)] below meth c s₁ [] 0 0 := Stand.of_body Bd
  have e0 : s₁.heap = h0 := by rw [← hh, Bd.state]; rfl
  have N0 := Fr.nil n0
  show OGo p e below (fun s₂ o => ∃ v L, o = .returned v ∧ Qeq00 Z a1 a2 ka kb h0 n0 v s₂.heap L ∧ FrameEnd s o s₂ L ({ frames := 0, cells := 0, slots := 0, locals := 0 } : Room).cells ({ frames := 0, cells := 0, slots := 0, locals := 0 } : Room).slots) _
  refine OGo.to (fun _ k => castTop (ef_eq00 m a1 a2) k) ?_
  refine OGo.to (fun _ k => XS.aloadN X0.here hx rfl (hb hby d15_0) rfl rfl k) ?_
  have Vq_1 := VX
  obtain ⟨cl_1, Ar_1, q_1, S_1, M_1, Hs_1, G_1⟩ := Vq_1
  refine OGo.to (fun _ k => X0.arraylength hx (by rw [e0]; exact Ar_1.1) (State.isArrayOf_alike hZ.alike Ar_1.2.1) (g := (mkF m 1 #[.val (.ref a1), .val (.ref a2), .unset] [(.ref a1)])) rfl rfl (hb hby d15_1) _ k) ?_
  rw [len_of S_1 M_1]
  show OGo p e below _ (s₁.setTop (mkF m 2 #[.val (.ref a1), .val (.ref a2), .unset] [(.int (0 : Int32))]))
  refine OGo.to (fun _ k => XS.aloadN X0.here hx rfl (hb hby d15_2) rfl rfl k) ?_
  have Vq_2 := VY
  obtain ⟨cl_2, Ar_2, q_2, S_2, M_2, Hs_2, G_2⟩ := Vq_2
  refine OGo.to (fun _ k => X0.arraylength hx (by rw [e0]; exact Ar_2.1) (State.isArrayOf_alike hZ.alike Ar_2.2.1) (g := (mkF m 3 #[.val (.ref a1), .val (.ref a2), .unset] [(.ref a2), (.int (0 : Int32))])) rfl rfl (hb hby d15_3) _ k) ?_
  rw [len_of S_2 M_2]
  show OGo p e below _ (s₁.setTop (mkF m 4 #[.val (.ref a1), .val (.ref a2), .unset] [(.int (0 : Int32)), (.int (0 : Int32))]))
  have hc4__3 : (0 : Int32) = (0 : Int32) := by decide
  refine OGo.to (fun _ k => XS.icmpNo X0.here hx rfl (hb hby d15_4) rfl (teq hc4__3).2 k) ?_
  show OGo p e below _ (s₁.setTop (mkF m 7 #[.val (.ref a1), .val (.ref a2), .unset] []))
  refine OGo.to (fun _ k => XS.iconst X0.here hx rfl (hb hby d15_7) k) ?_
  refine OGo.to (fun _ k => XS.istoreN X0.here hx rfl (hb hby d15_8) rfl (l' := #[.val (.ref a1), .val (.ref a2), .val (.int (0 : Int32))]) rfl k) ?_
  refine OGo.to (fun _ k => XS.iloadN X0.here hx rfl (hb hby d15_9) rfl k) ?_
  refine OGo.to (fun _ k => XS.aloadN X0.here hx rfl (hb hby d15_10) rfl rfl k) ?_
  have Vq_4 := VX
  obtain ⟨cl_4, Ar_4, q_4, S_4, M_4, Hs_4, G_4⟩ := Vq_4
  refine OGo.to (fun _ k => X0.arraylength hx (by rw [e0]; exact Ar_4.1) (State.isArrayOf_alike hZ.alike Ar_4.2.1) (g := (mkF m 11 #[.val (.ref a1), .val (.ref a2), .val (.int (0 : Int32))] [(.ref a1), (.int (0 : Int32))])) rfl rfl (hb hby d15_11) _ k) ?_
  rw [len_of S_4 M_4]
  show OGo p e below _ (s₁.setTop (mkF m 12 #[.val (.ref a1), .val (.ref a2), .val (.int (0 : Int32))] [(.int (0 : Int32)), (.int (0 : Int32))]))
  have hc12__5 : ¬ ((0 : Int32) < (0 : Int32)) := by decide
  refine OGo.to (fun _ k => XS.icmpYes X0.here hx rfl (pc0 := 12) (pc' := 32) rfl (hb hby d15_12) rfl (flt hc12__5).2.1 (by decide) (by decide) k) ?_
  show OGo p e below _ (s₁.setTop (mkF m 32 #[.val (.ref a1), .val (.ref a2), .val (.int (0 : Int32))] []))
  refine OGo.to (fun _ k => XS.iconst X0.here hx rfl (hb hby d15_32) k) ?_
  refine OGo.ret (Q := Qeq00 Z a1 a2 ka kb h0 n0) X0 (some (.int (1 : Int32))) (fun h => by rw [Bd.returns] at h; cases h) Bd.notSynchronized (fun fs hr => retN X0 hx (t := .boolean) (z := (1 : Int32)) Bd.returns (by simp) (hb hby d15_33) hr) ?_ (by decide) (by decide)
  show Qeq00 Z a1 a2 ka kb h0 n0 _ s₁.heap _
  rw [e0]
  exact ⟨congrArg (fun z => some (Value.int z)) (show (1 : Int32) = (own_seq [] []) from own_seq_yes (by simp [])), N0, rfl⟩
theorem ef_mn01 (m : MethodId) (x0 : Int32) (x1 : Int32) : entryFrame m #[(.int x0), (.int x1)] 2 = mkF m 0 #[.val (.int x0), .val (.int x1)] [] := by first | (simp [entryFrame, mkF, argsToLocals, Value.category]; done) | rfl
def Qmn01 (Z : State)  (h0 : Heap) (n0 : Nat) (v : Option Value) (h : Heap) (L : List Loc) : Prop := v = some (.int (0 : Int32)) ∧ Fr n0 L ∧ h = h0
set_option maxRecDepth 65536 in
set_option maxHeartbeats 40000000 in
theorem rmmn01 (l : Launch) (Z : State) (a0 : Array Value) (hw : ∀ d ∈ tables_1, d.before a0 Z = true) (ws : List Jvm.Cond)  (h0 : Heap) (n0 : Nat) (Z0 : n0 ≤ h0.size) :
    MetFree l (⟨"java/lang/Math", "min", "(II)I"⟩ : MethodName) (head1 (Jvm.Cond.code (⟨"java/lang/Math", "min", "(II)I"⟩ : MethodName) jdk_29_method_69_code 2 (some .int) :: ws) ({ frames := 0, cells := 0, slots := 0, locals := 0 } : Room)) (fun a U => a = #[(.int (0 : Int32)), (.int (1 : Int32))] ∧ Z.Warmed39 U.vm ∧ U.heap = h0) (fun _ _ _ _ _ => True) (fun _ U o U' => ∃ v L, o = .returned v ∧ Qmn01 Z  h0 n0 v U'.heap L ∧ FrameEnd U o U' L ({ frames := 0, cells := 0, slots := 0, locals := 0 } : Room).cells ({ frames := 0, cells := 0, slots := 0, locals := 0 } : Room).slots) := by
  refine MetFree.of_bodySF (Jvm.Free.JP.mathPlain rfl (by decide +kernel)) hisR ?_
  intro p e s m args below meth c s₁ Bd hml0 hP hK
  obtain ⟨rfl, hZ, hh⟩ := hP
  have hx := Bd.exec
  have hby := Bd.bytes
  have hml : c.maxLocals = 2 := hml0
  have hown : s.vm.findClass "java/lang/Math" = some m.cls := findClass_of_methodNamed Bd.named
  have hnm := (name_of_methodNamed Bd.named Bd.method).1
  have X0 : Stand p l e ({ frames := 0, cells := 0, slots := 0, locals := 0 } : Room) s m #[(.int (0 : Int32)), (.int (1 : Int32))] below meth c s₁ [] 0 0 := Stand.of_body Bd
  have e0 : s₁.heap = h0 := by rw [← hh, Bd.state]; rfl
  have N0 := Fr.nil n0
  show OGo p e below (fun s₂ o => ∃ v L, o = .returned v ∧ Qmn01 Z  h0 n0 v s₂.heap L ∧ FrameEnd s o s₂ L ({ frames := 0, cells := 0, slots := 0, locals := 0 } : Room).cells ({ frames := 0, cells := 0, slots := 0, locals := 0 } : Room).slots) _
  refine OGo.to (fun _ k => castTop (ef_mn01 m (0 : Int32) (1 : Int32)) k) ?_
  refine OGo.to (fun _ k => XS.iloadN X0.here hx rfl (hb hby d11_0) rfl k) ?_
  refine OGo.to (fun _ k => XS.iloadN X0.here hx rfl (hb hby d11_1) rfl k) ?_
  have hc2__1 : ¬ ((1 : Int32) < (0 : Int32)) := by decide
  refine OGo.to (fun _ k => XS.icmpNo X0.here hx rfl (hb hby d11_2) rfl (flt hc2__1).2.2.1 k) ?_
  show OGo p e below _ (s₁.setTop (mkF m 5 #[.val (.int (0 : Int32)), .val (.int (1 : Int32))] []))
  refine OGo.to (fun _ k => XS.iloadN X0.here hx rfl (hb hby d11_5) rfl k) ?_
  refine OGo.to (fun _ k => XS.goto X0.here hx rfl (pc0 := 6) (pc' := 10) rfl (hb hby d11_6) (by decide) (by decide) k) ?_
  refine OGo.ret (Q := Qmn01 Z  h0 n0) X0 (some (.int (0 : Int32))) (fun h => by rw [Bd.returns] at h; cases h) Bd.notSynchronized (fun fs hr => retI X0 hx Bd.returns (hb hby d11_10) hr) ?_ (by decide) (by decide)
  show Qmn01 Z  h0 n0 _ s₁.heap _
  rw [e0]
  exact ⟨rfl, N0, rfl⟩
theorem ef_mm01 (m : MethodId) (x0 : Addr) (x1 : Addr) (x2 : Int32) : entryFrame m #[(.ref x0), (.ref x1), (.int x2)] 4 = mkF m 0 #[.val (.ref x0), .val (.ref x1), .val (.int x2), .unset] [] := by first | (simp [entryFrame, mkF, argsToLocals, Value.category]; done) | rfl
def Qmm01 (Z : State) (a1 : Addr) (a2 : Addr) (ka : ClassId) (kb : ClassId) (y0 : Int32) (h0 : Heap) (n0 : Nat) (v : Option Value) (h : Heap) (L : List Loc) : Prop := v = some (.int (-1 : Int32)) ∧ Fr n0 L ∧ h = h0
set_option maxRecDepth 65536 in
set_option maxHeartbeats 40000000 in
theorem rmmm01 (l : Launch) (Z : State) (a0 : Array Value) (hw : ∀ d ∈ tables_1, d.before a0 Z = true) (ws : List Jvm.Cond) (a1 : Addr) (a2 : Addr) (ka : ClassId) (kb : ClassId) (y0 : Int32) (h0 : Heap) (n0 : Nat) (Z0 : n0 ≤ h0.size) (VX : Arv Z h0 a1 ka .byte (0 : Int32) [] (.int (0 : Int32))) (VY : Arv Z h0 a2 kb .byte (1 : Int32) [(.int y0)] (.int (0 : Int32))) :
    MetFree l (⟨"jdk/internal/util/ArraysSupport", "mismatch", "([B[BI)I"⟩ : MethodName) (head1 (Jvm.Cond.code (⟨"jdk/internal/util/ArraysSupport", "mismatch", "([B[BI)I"⟩ : MethodName) jdk_48_method_13_code 4 (some .int) :: ws) ({ frames := 0, cells := 0, slots := 0, locals := 0 } : Room)) (fun a U => a = #[(.ref a1), (.ref a2), (.int (0 : Int32))] ∧ Z.Warmed39 U.vm ∧ U.heap = h0) (fun _ _ _ _ _ => True) (fun _ U o U' => ∃ v L, o = .returned v ∧ Qmm01 Z a1 a2 ka kb y0 h0 n0 v U'.heap L ∧ FrameEnd U o U' L ({ frames := 0, cells := 0, slots := 0, locals := 0 } : Room).cells ({ frames := 0, cells := 0, slots := 0, locals := 0 } : Room).slots) := by
  refine MetFree.of_bodySF (plainFor_of_name pn_4) hisR ?_
  intro p e s m args below meth c s₁ Bd hml0 hP hK
  obtain ⟨rfl, hZ, hh⟩ := hP
  have hx := Bd.exec
  have hby := Bd.bytes
  have hml : c.maxLocals = 4 := hml0
  have hown : s.vm.findClass "jdk/internal/util/ArraysSupport" = some m.cls := findClass_of_methodNamed Bd.named
  have hnm := (name_of_methodNamed Bd.named Bd.method).1
  have X0 : Stand p l e ({ frames := 0, cells := 0, slots := 0, locals := 0 } : Room) s m #[(.ref a1), (.ref a2), (.int (0 : Int32))] below meth c s₁ [] 0 0 := Stand.of_body Bd
  have e0 : s₁.heap = h0 := by rw [← hh, Bd.state]; rfl
  have N0 := Fr.nil n0
  show OGo p e below (fun s₂ o => ∃ v L, o = .returned v ∧ Qmm01 Z a1 a2 ka kb y0 h0 n0 v s₂.heap L ∧ FrameEnd s o s₂ L ({ frames := 0, cells := 0, slots := 0, locals := 0 } : Room).cells ({ frames := 0, cells := 0, slots := 0, locals := 0 } : Room).slots) _
  refine OGo.to (fun _ k => castTop (ef_mm01 m a1 a2 (0 : Int32)) k) ?_
  refine OGo.to (fun _ k => XS.iconst X0.here hx rfl (hb hby d12_0) k) ?_
  refine OGo.to (fun _ k => XS.istoreN X0.here hx rfl (hb hby d12_1) rfl (l' := #[.val (.ref a1), .val (.ref a2), .val (.int (0 : Int32)), .val (.int (0 : Int32))]) rfl k) ?_
  refine OGo.to (fun _ k => XS.iloadN X0.here hx rfl (hb hby d12_2) rfl k) ?_
  refine OGo.to (fun _ k => XS.bipush X0.here hx rfl (hb hby d12_3) k) ?_
  have hc5__1 : ¬ ((7 : Int32) < (0 : Int32)) := by decide
  refine OGo.to (fun _ k => XS.icmpYes X0.here hx rfl (pc0 := 5) (pc' := 49) rfl (hb hby d12_5) rfl (flt hc5__1).2.2.2 (by decide) (by decide) k) ?_
  show OGo p e below _ (s₁.setTop (mkF m 49 #[.val (.ref a1), .val (.ref a2), .val (.int (0 : Int32)), .val (.int (0 : Int32))] []))
  refine OGo.to (fun _ k => XS.iloadN X0.here hx rfl (hb hby d12_49) rfl k) ?_
  refine OGo.to (fun _ k => XS.iloadN X0.here hx rfl (hb hby d12_50) rfl k) ?_
  have hc51__2 : ¬ ((0 : Int32) < (0 : Int32)) := by decide
  refine OGo.to (fun _ k => XS.icmpYes X0.here hx rfl (pc0 := 51) (pc' := 71) rfl (hb hby d12_51) rfl (flt hc51__2).2.1 (by decide) (by decide) k) ?_
  show OGo p e below _ (s₁.setTop (mkF m 71 #[.val (.ref a1), .val (.ref a2), .val (.int (0 : Int32)), .val (.int (0 : Int32))] []))
  refine OGo.to (fun _ k => XS.iconst X0.here hx rfl (hb hby d12_71) k) ?_
  refine OGo.ret (Q := Qmm01 Z a1 a2 ka kb y0 h0 n0) X0 (some (.int (-1 : Int32))) (fun h => by rw [Bd.returns] at h; cases h) Bd.notSynchronized (fun fs hr => retI X0 hx Bd.returns (hb hby d12_72) hr) ?_ (by decide) (by decide)
  show Qmm01 Z a1 a2 ka kb y0 h0 n0 _ s₁.heap _
  rw [e0]
  exact ⟨rfl, N0, rfl⟩
theorem ef_c401 (m : MethodId) (x0 : Addr) (x1 : Addr) (x2 : Int32) (x3 : Int32) : entryFrame m #[(.ref x0), (.ref x1), (.int x2), (.int x3)] 6 = mkF m 0 #[.val (.ref x0), .val (.ref x1), .val (.int x2), .val (.int x3), .unset, .unset] [] := by first | (simp [entryFrame, mkF, argsToLocals, Value.category]; done) | rfl
def Qc401 (Z : State) (a1 : Addr) (a2 : Addr) (ka : ClassId) (kb : ClassId) (y0 : Int32) (h0 : Heap) (n0 : Nat) (v : Option Value) (h : Heap) (L : List Loc) : Prop := v = some (.int (own_scmp [] [y0])) ∧ Fr n0 L ∧ h = h0
set_option maxRecDepth 65536 in
set_option maxHeartbeats 40000000 in
theorem rmc401 (l : Launch) (Z : State) (a0 : Array Value) (hw : ∀ d ∈ tables_1, d.before a0 Z = true) (ws : List Jvm.Cond) (a1 : Addr) (a2 : Addr) (ka : ClassId) (kb : ClassId) (y0 : Int32) (h0 : Heap) (n0 : Nat) (Z0 : n0 ≤ h0.size) (VX : Arv Z h0 a1 ka .byte (0 : Int32) [] (.int (0 : Int32))) (VY : Arv Z h0 a2 kb .byte (1 : Int32) [(.int y0)] (.int (0 : Int32))) :
    MetFree l (⟨"java/lang/StringLatin1", "compareTo", "([B[BII)I"⟩ : MethodName) (head1 (Jvm.Cond.code (⟨"java/lang/StringLatin1", "compareTo", "([B[BII)I"⟩ : MethodName) jdk_43_method_15_code 6 (some .int) :: ws) ({ frames := 1, cells := 0, slots := 0, locals := 15 } : Room)) (fun a U => a = #[(.ref a1), (.ref a2), (.int (0 : Int32)), (.int (1 : Int32))] ∧ Z.Warmed39 U.vm ∧ U.heap = h0) (fun _ _ _ _ _ => True) (fun _ U o U' => ∃ v L, o = .returned v ∧ Qc401 Z a1 a2 ka kb y0 h0 n0 v U'.heap L ∧ FrameEnd U o U' L ({ frames := 1, cells := 0, slots := 0, locals := 15 } : Room).cells ({ frames := 1, cells := 0, slots := 0, locals := 15 } : Room).slots) := by
  refine MetFree.of_bodySF (plainFor_of_name pn_0) hisR ?_
  intro p e s m args below meth c s₁ Bd hml0 hP hK
  obtain ⟨rfl, hZ, hh⟩ := hP
  have hx := Bd.exec
  have hby := Bd.bytes
  have hml : c.maxLocals = 6 := hml0
  have hown : s.vm.findClass "java/lang/StringLatin1" = some m.cls := findClass_of_methodNamed Bd.named
  have hnm := (name_of_methodNamed Bd.named Bd.method).1
  have X0 : Stand p l e ({ frames := 1, cells := 0, slots := 0, locals := 15 } : Room) s m #[(.ref a1), (.ref a2), (.int (0 : Int32)), (.int (1 : Int32))] below meth c s₁ [] 0 0 := Stand.of_body Bd
  have e0 : s₁.heap = h0 := by rw [← hh, Bd.state]; rfl
  have N0 := Fr.nil n0
  show OGo p e below (fun s₂ o => ∃ v L, o = .returned v ∧ Qc401 Z a1 a2 ka kb y0 h0 n0 v s₂.heap L ∧ FrameEnd s o s₂ L ({ frames := 1, cells := 0, slots := 0, locals := 15 } : Room).cells ({ frames := 1, cells := 0, slots := 0, locals := 15 } : Room).slots) _
  refine OGo.to (fun _ k => castTop (ef_c401 m a1 a2 (0 : Int32) (1 : Int32)) k) ?_
  refine OGo.to (fun _ k => XS.iloadN X0.here hx rfl (hb hby d10_0) rfl k) ?_
  refine OGo.to (fun _ k => XS.iloadN X0.here hx rfl (hb hby d10_1) rfl k) ?_
  obtain ⟨_, T_1, Lc_1, X_1, hQ_1, st_1⟩ := own_un X0 (Q := Qmn01 Z  h0 n0) (rc := 0) (rs := 0) (W := fun v B => ∀ target, Steps p.tables e below (B.setTop { (mkF m 2 #[.val (.ref a1), .val (.ref a2), .val (.int (0 : Int32)), .val (.int (1 : Int32)), .unset, .unset] [(.int (1 : Int32)), (.int (0 : Int32))]) with pc := 5, stack := v.toList ++ [] }) target → Steps p.tables e below (s₁.setTop (mkF m 2 #[.val (.ref a1), .val (.ref a2), .val (.int (0 : Int32)), .val (.int (1 : Int32)), .unset, .unset] [(.int (1 : Int32)), (.int (0 : Int32))])) target) <| Jvm.LawKit.callS X0 hx (y := (⟨"java/lang/Math", "min", "(II)I"⟩ : MethodName)) hown (mvT hZ (hw _ (List.mem_of_getElem? (i := 54) rfl))) (mvT hZ (hw _ (List.mem_of_getElem? (i := 55) rfl))) (mvT hZ (hw _ (List.mem_of_getElem? (i := 56) rfl))) (mvT hZ (hw _ (List.mem_of_getElem? (i := 57) rfl))) (by decide) (backOf (W := 0) (rmmn01 l Z a0 hw []  h0 n0 Z0 ) hZ (hw _ (List.mem_of_getElem? (i := 57) rfl)) (hw _ (List.mem_of_getElem? (i := 56) rfl)) (by decide) (by decide)) (g := (mkF m 2 #[.val (.ref a1), .val (.ref a2), .val (.int (0 : Int32)), .val (.int (1 : Int32)), .unset, .unset] [(.int (1 : Int32)), (.int (0 : Int32))])) rfl (by rw [hml]; rfl) (argsL := [(.int (0 : Int32)), (.int (1 : Int32))]) (rest := []) (lenOf pd_9 rfl) rfl (by show 2 * 0 + _ ≤ _; exact Nat.le_of_eq rfl) (hb hby d10_2) (fun _ _ => ⟨rfl, e0, (by decide : 0 + 0 ≤ _), (by decide : 0 + 0 ≤ _)⟩)
  obtain ⟨rfl, N_1q, e_1⟩ := hQ_1
  have N_1 := Fr.app N0 N_1q
  refine OGo.to st_1 ?_
  show OGo p e below _ (T_1.setTop (mkF m 5 #[.val (.ref a1), .val (.ref a2), .val (.int (0 : Int32)), .val (.int (1 : Int32)), .unset, .unset] [(.int (0 : Int32))]))
  refine OGo.to (fun _ k => XS.istore X_1.here hx rfl (hb hby d10_5) rfl (l' := #[.val (.ref a1), .val (.ref a2), .val (.int (0 : Int32)), .val (.int (1 : Int32)), .val (.int (0 : Int32)), .unset]) rfl k) ?_
  refine OGo.to (fun _ k => XS.aloadN X_1.here hx rfl (hb hby d10_7) rfl rfl k) ?_
  refine OGo.to (fun _ k => XS.aloadN X_1.here hx rfl (hb hby d10_8) rfl rfl k) ?_
  refine OGo.to (fun _ k => XS.iload X_1.here hx rfl (hb hby d10_9) rfl k) ?_
  obtain ⟨_, T_2, Lc_2, X_2, hQ_2, st_2⟩ := own_un X_1 (Q := Qmm01 Z a1 a2 ka kb y0 h0 n0) (rc := 0) (rs := 0) (W := fun v B => ∀ target, Steps p.tables e below (B.setTop { (mkF m 11 #[.val (.ref a1), .val (.ref a2), .val (.int (0 : Int32)), .val (.int (1 : Int32)), .val (.int (0 : Int32)), .unset] [(.int (0 : Int32)), (.ref a2), (.ref a1)]) with pc := 14, stack := v.toList ++ [] }) target → Steps p.tables e below (T_1.setTop (mkF m 11 #[.val (.ref a1), .val (.ref a2), .val (.int (0 : Int32)), .val (.int (1 : Int32)), .val (.int (0 : Int32)), .unset] [(.int (0 : Int32)), (.ref a2), (.ref a1)])) target) <| Jvm.LawKit.callS X_1 hx (y := (⟨"jdk/internal/util/ArraysSupport", "mismatch", "([B[BI)I"⟩ : MethodName)) hown (mvT hZ (hw _ (List.mem_of_getElem? (i := 58) rfl))) (mvT hZ (hw _ (List.mem_of_getElem? (i := 59) rfl))) (mvT hZ (hw _ (List.mem_of_getElem? (i := 60) rfl))) (mvT hZ (hw _ (List.mem_of_getElem? (i := 61) rfl))) (by decide) (backOf (W := 0) (rmmm01 l Z a0 hw [] a1 a2 ka kb y0 h0 n0 Z0 VX VY) hZ (hw _ (List.mem_of_getElem? (i := 61) rfl)) (hw _ (List.mem_of_getElem? (i := 60) rfl)) (by decide) (by decide)) (g := (mkF m 11 #[.val (.ref a1), .val (.ref a2), .val (.int (0 : Int32)), .val (.int (1 : Int32)), .val (.int (0 : Int32)), .unset] [(.int (0 : Int32)), (.ref a2), (.ref a1)])) rfl (by rw [hml]; rfl) (argsL := [(.ref a1), (.ref a2), (.int (0 : Int32))]) (rest := []) (lenOf pd_10 rfl) rfl (by show 2 * 0 + _ ≤ _; exact Nat.le_of_eq rfl) (hb hby d10_11) (fun _ _ => ⟨rfl, e_1, (by decide : 0 + 0 ≤ _), (by decide : 0 + 0 ≤ _)⟩)
  obtain ⟨rfl, N_2q, e_2⟩ := hQ_2
  have N_2 := Fr.app N_1 N_2q
  refine OGo.to st_2 ?_
  show OGo p e below _ (T_2.setTop (mkF m 14 #[.val (.ref a1), .val (.ref a2), .val (.int (0 : Int32)), .val (.int (1 : Int32)), .val (.int (0 : Int32)), .unset] [(.int (-1 : Int32))]))
  refine OGo.to (fun _ k => XS.istore X_2.here hx rfl (hb hby d10_14) rfl (l' := #[.val (.ref a1), .val (.ref a2), .val (.int (0 : Int32)), .val (.int (1 : Int32)), .val (.int (0 : Int32)), .val (.int (-1 : Int32))]) rfl k) ?_
  refine OGo.to (fun _ k => XS.iload X_2.here hx rfl (hb hby d10_16) rfl k) ?_
  have hc18__3 : (-1 : Int32) < (0 : Int32) := by decide
  refine OGo.to (fun _ k => XS.ifNo X_2.here hx rfl (hb hby d10_18) rfl ((if0 _ _).trans (tlt hc18__3).2.1) k) ?_
  show OGo p e below _ (T_2.setTop (mkF m 21 #[.val (.ref a1), .val (.ref a2), .val (.int (0 : Int32)), .val (.int (1 : Int32)), .val (.int (0 : Int32)), .val (.int (-1 : Int32))] []))
  refine OGo.to (fun _ k => XS.iloadN X_2.here hx rfl (hb hby d10_21) rfl k) ?_
  refine OGo.to (fun _ k => XS.iloadN X_2.here hx rfl (hb hby d10_22) rfl k) ?_
  refine OGo.to (fun _ k => XS.isub X_2.here hx rfl (hb hby d10_23) rfl k) ?_
  refine OGo.to (fun _ k => XS.goto X_2.here hx rfl (pc0 := 24) (pc' := 40) rfl (hb hby d10_24) (by decide) (by decide) k) ?_
  refine OGo.ret (Q := Qc401 Z a1 a2 ka kb y0 h0 n0) X_2 (some (.int (-1 : Int32))) (fun h => by rw [Bd.returns] at h; cases h) Bd.notSynchronized (fun fs hr => retI X_2 hx Bd.returns (hb hby d10_40) hr) ?_ (by decide) (by decide)
  show Qc401 Z a1 a2 ka kb y0 h0 n0 _ T_2.heap _
  rw [e_2]
  exact ⟨congrArg (fun z => some (Value.int z)) (show (-1 : Int32) = (own_scmp [] [y0]) from by show _ = own_i 0 - own_i 1; decide), N_2, rfl⟩
theorem ef_c201 (m : MethodId) (x0 : Addr) (x1 : Addr) : entryFrame m #[(.ref x0), (.ref x1)] 4 = mkF m 0 #[.val (.ref x0), .val (.ref x1), .unset, .unset] [] := by first | (simp [entryFrame, mkF, argsToLocals, Value.category]; done) | rfl
def Qc201 (Z : State) (a1 : Addr) (a2 : Addr) (ka : ClassId) (kb : ClassId) (y0 : Int32) (h0 : Heap) (n0 : Nat) (v : Option Value) (h : Heap) (L : List Loc) : Prop := v = some (.int (own_scmp [] [y0])) ∧ Fr n0 L ∧ h = h0
set_option maxRecDepth 65536 in
set_option maxHeartbeats 40000000 in
theorem rmc201 (l : Launch) (Z : State) (a0 : Array Value) (hw : ∀ d ∈ tables_1, d.before a0 Z = true) (ws : List Jvm.Cond) (a1 : Addr) (a2 : Addr) (ka : ClassId) (kb : ClassId) (y0 : Int32) (h0 : Heap) (n0 : Nat) (Z0 : n0 ≤ h0.size) (VX : Arv Z h0 a1 ka .byte (0 : Int32) [] (.int (0 : Int32))) (VY : Arv Z h0 a2 kb .byte (1 : Int32) [(.int y0)] (.int (0 : Int32))) :
    MetFree l (⟨"java/lang/StringLatin1", "compareTo", "([B[B)I"⟩ : MethodName) (head1 (Jvm.Cond.code (⟨"java/lang/StringLatin1", "compareTo", "([B[B)I"⟩ : MethodName) jdk_43_method_14_code 4 (some .int) :: ws) ({ frames := 2, cells := 0, slots := 0, locals := 32 } : Room)) (fun a U => a = #[(.ref a1), (.ref a2)] ∧ Z.Warmed39 U.vm ∧ U.heap = h0) (fun _ _ _ _ _ => True) (fun _ U o U' => ∃ v L, o = .returned v ∧ Qc201 Z a1 a2 ka kb y0 h0 n0 v U'.heap L ∧ FrameEnd U o U' L ({ frames := 2, cells := 0, slots := 0, locals := 32 } : Room).cells ({ frames := 2, cells := 0, slots := 0, locals := 32 } : Room).slots) := by
  refine MetFree.of_bodySF (plainFor_of_name pn_0) hisR ?_
  intro p e s m args below meth c s₁ Bd hml0 hP hK
  obtain ⟨rfl, hZ, hh⟩ := hP
  have hx := Bd.exec
  have hby := Bd.bytes
  have hml : c.maxLocals = 4 := hml0
  have hown : s.vm.findClass "java/lang/StringLatin1" = some m.cls := findClass_of_methodNamed Bd.named
  have hnm := (name_of_methodNamed Bd.named Bd.method).1
  have X0 : Stand p l e ({ frames := 2, cells := 0, slots := 0, locals := 32 } : Room) s m #[(.ref a1), (.ref a2)] below meth c s₁ [] 0 0 := Stand.of_body Bd
  have e0 : s₁.heap = h0 := by rw [← hh, Bd.state]; rfl
  have N0 := Fr.nil n0
  show OGo p e below (fun s₂ o => ∃ v L, o = .returned v ∧ Qc201 Z a1 a2 ka kb y0 h0 n0 v s₂.heap L ∧ FrameEnd s o s₂ L ({ frames := 2, cells := 0, slots := 0, locals := 32 } : Room).cells ({ frames := 2, cells := 0, slots := 0, locals := 32 } : Room).slots) _
  refine OGo.to (fun _ k => castTop (ef_c201 m a1 a2) k) ?_
  refine OGo.to (fun _ k => XS.aloadN X0.here hx rfl (hb hby d9_0) rfl rfl k) ?_
  have Vq_1 := VX
  obtain ⟨cl_1, Ar_1, q_1, S_1, M_1, Hs_1, G_1⟩ := Vq_1
  refine OGo.to (fun _ k => X0.arraylength hx (by rw [e0]; exact Ar_1.1) (State.isArrayOf_alike hZ.alike Ar_1.2.1) (g := (mkF m 1 #[.val (.ref a1), .val (.ref a2), .unset, .unset] [(.ref a1)])) rfl rfl (hb hby d9_1) _ k) ?_
  rw [len_of S_1 M_1]
  show OGo p e below _ (s₁.setTop (mkF m 2 #[.val (.ref a1), .val (.ref a2), .unset, .unset] [(.int (0 : Int32))]))
  refine OGo.to (fun _ k => XS.istoreN X0.here hx rfl (hb hby d9_2) rfl (l' := #[.val (.ref a1), .val (.ref a2), .val (.int (0 : Int32)), .unset]) rfl k) ?_
  refine OGo.to (fun _ k => XS.aloadN X0.here hx rfl (hb hby d9_3) rfl rfl k) ?_
  have Vq_2 := VY
  obtain ⟨cl_2, Ar_2, q_2, S_2, M_2, Hs_2, G_2⟩ := Vq_2
  refine OGo.to (fun _ k => X0.arraylength hx (by rw [e0]; exact Ar_2.1) (State.isArrayOf_alike hZ.alike Ar_2.2.1) (g := (mkF m 4 #[.val (.ref a1), .val (.ref a2), .val (.int (0 : Int32)), .unset] [(.ref a2)])) rfl rfl (hb hby d9_4) _ k) ?_
  rw [len_of S_2 M_2]
  show OGo p e below _ (s₁.setTop (mkF m 5 #[.val (.ref a1), .val (.ref a2), .val (.int (0 : Int32)), .unset] [(.int (1 : Int32))]))
  refine OGo.to (fun _ k => XS.istoreN X0.here hx rfl (hb hby d9_5) rfl (l' := #[.val (.ref a1), .val (.ref a2), .val (.int (0 : Int32)), .val (.int (1 : Int32))]) rfl k) ?_
  refine OGo.to (fun _ k => XS.aloadN X0.here hx rfl (hb hby d9_6) rfl rfl k) ?_
  refine OGo.to (fun _ k => XS.aloadN X0.here hx rfl (hb hby d9_7) rfl rfl k) ?_
  refine OGo.to (fun _ k => XS.iloadN X0.here hx rfl (hb hby d9_8) rfl k) ?_
  refine OGo.to (fun _ k => XS.iloadN X0.here hx rfl (hb hby d9_9) rfl k) ?_
  obtain ⟨_, T_3, Lc_3, X_3, hQ_3, st_3⟩ := own_un X0 (Q := Qc401 Z a1 a2 ka kb y0 h0 n0) (rc := 0) (rs := 0) (W := fun v B => ∀ target, Steps p.tables e below (B.setTop { (mkF m 10 #[.val (.ref a1), .val (.ref a2), .val (.int (0 : Int32)), .val (.int (1 : Int32))] [(.int (1 : Int32)), (.int (0 : Int32)), (.ref a2), (.ref a1)]) with pc := 13, stack := v.toList ++ [] }) target → Steps p.tables e below (s₁.setTop (mkF m 10 #[.val (.ref a1), .val (.ref a2), .val (.int (0 : Int32)), .val (.int (1 : Int32))] [(.int (1 : Int32)), (.int (0 : Int32)), (.ref a2), (.ref a1)])) target) <| Jvm.LawKit.callS X0 hx (y := (⟨"java/lang/StringLatin1", "compareTo", "([B[BII)I"⟩ : MethodName)) hown (mvT hZ (hw _ (List.mem_of_getElem? (i := 51) rfl))) (mvT hZ (hw _ (List.mem_of_getElem? (i := 52) rfl))) (mvT hZ (hw _ (List.mem_of_getElem? (i := 49) rfl))) (mvT hZ (hw _ (List.mem_of_getElem? (i := 53) rfl))) (by decide) (backOf (W := 0) (rmc401 l Z a0 hw [] a1 a2 ka kb y0 h0 n0 Z0 VX VY) hZ (hw _ (List.mem_of_getElem? (i := 53) rfl)) (hw _ (List.mem_of_getElem? (i := 49) rfl)) (by decide) (by decide)) (g := (mkF m 10 #[.val (.ref a1), .val (.ref a2), .val (.int (0 : Int32)), .val (.int (1 : Int32))] [(.int (1 : Int32)), (.int (0 : Int32)), (.ref a2), (.ref a1)])) rfl (by rw [hml]; rfl) (argsL := [(.ref a1), (.ref a2), (.int (0 : Int32)), (.int (1 : Int32))]) (rest := []) (lenOf pd_11 rfl) rfl (by show 2 * 0 + _ ≤ _; exact Nat.le_of_eq rfl) (hb hby d9_10) (fun _ _ => ⟨rfl, e0, (by decide : 0 + 0 ≤ _), (by decide : 0 + 0 ≤ _)⟩)
  obtain ⟨rfl, N_3q, e_3⟩ := hQ_3
  have N_3 := Fr.app N0 N_3q
  refine OGo.to st_3 ?_
  show OGo p e below _ (T_3.setTop (mkF m 13 #[.val (.ref a1), .val (.ref a2), .val (.int (0 : Int32)), .val (.int (1 : Int32))] [(.int (own_scmp [] [y0]))]))
  refine OGo.ret (Q := Qc201 Z a1 a2 ka kb y0 h0 n0) X_3 (some (.int (own_scmp [] [y0]))) (fun h => by rw [Bd.returns] at h; cases h) Bd.notSynchronized (fun fs hr => retI X_3 hx Bd.returns (hb hby d9_13) hr) ?_ (by decide) (by decide)
  show Qc201 Z a1 a2 ka kb y0 h0 n0 _ T_3.heap _
  rw [e_3]
  exact ⟨rfl, N_3, rfl⟩
theorem d15_34 : decode jdk_43_method_13_code 34 = .ok (.iconst 0, 1) := by decide +kernel
theorem d15_35 : decode jdk_43_method_13_code 35 = .ok (.ireturn, 1) := by decide +kernel
theorem ef_eq01 (m : MethodId) (x0 : Addr) (x1 : Addr) : entryFrame m #[(.ref x0), (.ref x1)] 3 = mkF m 0 #[.val (.ref x0), .val (.ref x1), .unset] [] := by first | (simp [entryFrame, mkF, argsToLocals, Value.category]; done) | rfl
def Qeq01 (Z : State) (a1 : Addr) (a2 : Addr) (ka : ClassId) (kb : ClassId) (y0 : Int32) (h0 : Heap) (n0 : Nat) (v : Option Value) (h : Heap) (L : List Loc) : Prop := v = some (.int (own_seq [] [y0])) ∧ Fr n0 L ∧ h = h0
set_option maxRecDepth 65536 in
set_option maxHeartbeats 40000000 in
theorem rmeq01 (l : Launch) (Z : State) (a0 : Array Value) (hw : ∀ d ∈ tables_1, d.before a0 Z = true) (ws : List Jvm.Cond) (a1 : Addr) (a2 : Addr) (ka : ClassId) (kb : ClassId) (y0 : Int32) (h0 : Heap) (n0 : Nat) (Z0 : n0 ≤ h0.size) (VX : Arv Z h0 a1 ka .byte (0 : Int32) [] (.int (0 : Int32))) (VY : Arv Z h0 a2 kb .byte (1 : Int32) [(.int y0)] (.int (0 : Int32))) :
    MetFree l (⟨"java/lang/StringLatin1", "equals", "([B[B)Z"⟩ : MethodName) (head1 (Jvm.Cond.code (⟨"java/lang/StringLatin1", "equals", "([B[B)Z"⟩ : MethodName) jdk_43_method_13_code 3 (some .boolean) :: ws) ({ frames := 0, cells := 0, slots := 0, locals := 0 } : Room)) (fun a U => a = #[(.ref a1), (.ref a2)] ∧ Z.Warmed39 U.vm ∧ U.heap = h0) (fun _ _ _ _ _ => True) (fun _ U o U' => ∃ v L, o = .returned v ∧ Qeq01 Z a1 a2 ka kb y0 h0 n0 v U'.heap L ∧ FrameEnd U o U' L ({ frames := 0, cells := 0, slots := 0, locals := 0 } : Room).cells ({ frames := 0, cells := 0, slots := 0, locals := 0 } : Room).slots) := by
  refine MetFree.of_bodySF (plainFor_of_name pn_0) hisR ?_
  intro p e s m args below meth c s₁ Bd hml0 hP hK
  obtain ⟨rfl, hZ, hh⟩ := hP
  have hx := Bd.exec
  have hby := Bd.bytes
  have hml : c.maxLocals = 3 := hml0
  have hown : s.vm.findClass "java/lang/StringLatin1" = some m.cls := findClass_of_methodNamed Bd.named
  have hnm := (name_of_methodNamed Bd.named Bd.method).1
  have X0 : Stand p l e ({ frames := 0, cells := 0, slots := 0, locals := 0 } : Room) s m #[(.ref a1), (.ref a2)] below meth c s₁ [] 0 0 := Stand.of_body Bd
  have e0 : s₁.heap = h0 := by rw [← hh, Bd.state]; rfl
  have N0 := Fr.nil n0
  show OGo p e below (fun s₂ o => ∃ v L, o = .returned v ∧ Qeq01 Z a1 a2 ka kb y0 h0 n0 v s₂.heap L ∧ FrameEnd s o s₂ L ({ frames := 0, cells := 0, slots := 0, locals := 0 } : Room).cells ({ frames := 0, cells := 0, slots := 0, locals := 0 } : Room).slots) _
  refine OGo.to (fun _ k => castTop (ef_eq01 m a1 a2) k) ?_
  refine OGo.to (fun _ k => XS.aloadN X0.here hx rfl (hb hby d15_0) rfl rfl k) ?_
  have Vq_1 := VX
  obtain ⟨cl_1, Ar_1, q_1, S_1, M_1, Hs_1, G_1⟩ := Vq_1
  refine OGo.to (fun _ k => X0.arraylength hx (by rw [e0]; exact Ar_1.1) (State.isArrayOf_alike hZ.alike Ar_1.2.1) (g := (mkF m 1 #[.val (.ref a1), .val (.ref a2), .unset] [(.ref a1)])) rfl rfl (hb hby d15_1) _ k) ?_
  rw [len_of S_1 M_1]
  show OGo p e below _ (s₁.setTop (mkF m 2 #[.val (.ref a1), .val (.ref a2), .unset] [(.int (0 : Int32))]))
  refine OGo.to (fun _ k => XS.aloadN X0.here hx rfl (hb hby d15_2) rfl rfl k) ?_
  have Vq_2 := VY
  obtain ⟨cl_2, Ar_2, q_2, S_2, M_2, Hs_2, G_2⟩ := Vq_2
  refine OGo.to (fun _ k => X0.arraylength hx (by rw [e0]; exact Ar_2.1) (State.isArrayOf_alike hZ.alike Ar_2.2.1) (g := (mkF m 3 #[.val (.ref a1), .val (.ref a2), .unset] [(.ref a2), (.int (0 : Int32))])) rfl rfl (hb hby d15_3) _ k) ?_
  rw [len_of S_2 M_2]
  show OGo p e below _ (s₁.setTop (mkF m 4 #[.val (.ref a1), .val (.ref a2), .unset] [(.int (1 : Int32)), (.int (0 : Int32))]))
  have hc4__3 : ¬ ((0 : Int32) = (1 : Int32)) := by decide
  refine OGo.to (fun _ k => XS.icmpYes X0.here hx rfl (pc0 := 4) (pc' := 34) rfl (hb hby d15_4) rfl (feq hc4__3).2 (by decide) (by decide) k) ?_
  show OGo p e below _ (s₁.setTop (mkF m 34 #[.val (.ref a1), .val (.ref a2), .unset] []))
  refine OGo.to (fun _ k => XS.iconst X0.here hx rfl (hb hby d15_34) k) ?_
  refine OGo.ret (Q := Qeq01 Z a1 a2 ka kb y0 h0 n0) X0 (some (.int (0 : Int32))) (fun h => by rw [Bd.returns] at h; cases h) Bd.notSynchronized (fun fs hr => retN X0 hx (t := .boolean) (z := (0 : Int32)) Bd.returns (by simp) (hb hby d15_35) hr) ?_ (by decide) (by decide)
  show Qeq01 Z a1 a2 ka kb y0 h0 n0 _ s₁.heap _
  rw [e0]
  exact ⟨congrArg (fun z => some (Value.int z)) (show (0 : Int32) = (own_seq [] [y0]) from own_seq_no (by simp [])), N0, rfl⟩
theorem ef_mn02 (m : MethodId) (x0 : Int32) (x1 : Int32) : entryFrame m #[(.int x0), (.int x1)] 2 = mkF m 0 #[.val (.int x0), .val (.int x1)] [] := by first | (simp [entryFrame, mkF, argsToLocals, Value.category]; done) | rfl
def Qmn02 (Z : State)  (h0 : Heap) (n0 : Nat) (v : Option Value) (h : Heap) (L : List Loc) : Prop := v = some (.int (0 : Int32)) ∧ Fr n0 L ∧ h = h0
set_option maxRecDepth 65536 in
set_option maxHeartbeats 40000000 in
theorem rmmn02 (l : Launch) (Z : State) (a0 : Array Value) (hw : ∀ d ∈ tables_1, d.before a0 Z = true) (ws : List Jvm.Cond)  (h0 : Heap) (n0 : Nat) (Z0 : n0 ≤ h0.size) :
    MetFree l (⟨"java/lang/Math", "min", "(II)I"⟩ : MethodName) (head1 (Jvm.Cond.code (⟨"java/lang/Math", "min", "(II)I"⟩ : MethodName) jdk_29_method_69_code 2 (some .int) :: ws) ({ frames := 0, cells := 0, slots := 0, locals := 0 } : Room)) (fun a U => a = #[(.int (0 : Int32)), (.int (2 : Int32))] ∧ Z.Warmed39 U.vm ∧ U.heap = h0) (fun _ _ _ _ _ => True) (fun _ U o U' => ∃ v L, o = .returned v ∧ Qmn02 Z  h0 n0 v U'.heap L ∧ FrameEnd U o U' L ({ frames := 0, cells := 0, slots := 0, locals := 0 } : Room).cells ({ frames := 0, cells := 0, slots := 0, locals := 0 } : Room).slots) := by
  refine MetFree.of_bodySF (Jvm.Free.JP.mathPlain rfl (by decide +kernel)) hisR ?_
  intro p e s m args below meth c s₁ Bd hml0 hP hK
  obtain ⟨rfl, hZ, hh⟩ := hP
  have hx := Bd.exec
  have hby := Bd.bytes
  have hml : c.maxLocals = 2 := hml0
  have hown : s.vm.findClass "java/lang/Math" = some m.cls := findClass_of_methodNamed Bd.named
  have hnm := (name_of_methodNamed Bd.named Bd.method).1
  have X0 : Stand p l e ({ frames := 0, cells := 0, slots := 0, locals := 0 } : Room) s m #[(.int (0 : Int32)), (.int (2 : Int32))] below meth c s₁ [] 0 0 := Stand.of_body Bd
  have e0 : s₁.heap = h0 := by rw [← hh, Bd.state]; rfl
  have N0 := Fr.nil n0
  show OGo p e below (fun s₂ o => ∃ v L, o = .returned v ∧ Qmn02 Z  h0 n0 v s₂.heap L ∧ FrameEnd s o s₂ L ({ frames := 0, cells := 0, slots := 0, locals := 0 } : Room).cells ({ frames := 0, cells := 0, slots := 0, locals := 0 } : Room).slots) _
  refine OGo.to (fun _ k => castTop (ef_mn02 m (0 : Int32) (2 : Int32)) k) ?_
  refine OGo.to (fun _ k => XS.iloadN X0.here hx rfl (hb hby d11_0) rfl k) ?_
  refine OGo.to (fun _ k => XS.iloadN X0.here hx rfl (hb hby d11_1) rfl k) ?_
  have hc2__1 : ¬ ((2 : Int32) < (0 : Int32)) := by decide
  refine OGo.to (fun _ k => XS.icmpNo X0.here hx rfl (hb hby d11_2) rfl (flt hc2__1).2.2.1 k) ?_
  show OGo p e below _ (s₁.setTop (mkF m 5 #[.val (.int (0 : Int32)), .val (.int (2 : Int32))] []))
  refine OGo.to (fun _ k => XS.iloadN X0.here hx rfl (hb hby d11_5) rfl k) ?_
  refine OGo.to (fun _ k => XS.goto X0.here hx rfl (pc0 := 6) (pc' := 10) rfl (hb hby d11_6) (by decide) (by decide) k) ?_
  refine OGo.ret (Q := Qmn02 Z  h0 n0) X0 (some (.int (0 : Int32))) (fun h => by rw [Bd.returns] at h; cases h) Bd.notSynchronized (fun fs hr => retI X0 hx Bd.returns (hb hby d11_10) hr) ?_ (by decide) (by decide)
  show Qmn02 Z  h0 n0 _ s₁.heap _
  rw [e0]
  exact ⟨rfl, N0, rfl⟩
theorem ef_mm02 (m : MethodId) (x0 : Addr) (x1 : Addr) (x2 : Int32) : entryFrame m #[(.ref x0), (.ref x1), (.int x2)] 4 = mkF m 0 #[.val (.ref x0), .val (.ref x1), .val (.int x2), .unset] [] := by first | (simp [entryFrame, mkF, argsToLocals, Value.category]; done) | rfl
def Qmm02 (Z : State) (a1 : Addr) (a2 : Addr) (ka : ClassId) (kb : ClassId) (y0 : Int32) (y1 : Int32) (h0 : Heap) (n0 : Nat) (v : Option Value) (h : Heap) (L : List Loc) : Prop := v = some (.int (-1 : Int32)) ∧ Fr n0 L ∧ h = h0
set_option maxRecDepth 65536 in
set_option maxHeartbeats 40000000 in
theorem rmmm02 (l : Launch) (Z : State) (a0 : Array Value) (hw : ∀ d ∈ tables_1, d.before a0 Z = true) (ws : List Jvm.Cond) (a1 : Addr) (a2 : Addr) (ka : ClassId) (kb : ClassId) (y0 : Int32) (y1 : Int32) (h0 : Heap) (n0 : Nat) (Z0 : n0 ≤ h0.size) (VX : Arv Z h0 a1 ka .byte (0 : Int32) [] (.int (0 : Int32))) (VY : Arv Z h0 a2 kb .byte (2 : Int32) [(.int y0), (.int y1)] (.int (0 : Int32))) :
    MetFree l (⟨"jdk/internal/util/ArraysSupport", "mismatch", "([B[BI)I"⟩ : MethodName) (head1 (Jvm.Cond.code (⟨"jdk/internal/util/ArraysSupport", "mismatch", "([B[BI)I"⟩ : MethodName) jdk_48_method_13_code 4 (some .int) :: ws) ({ frames := 0, cells := 0, slots := 0, locals := 0 } : Room)) (fun a U => a = #[(.ref a1), (.ref a2), (.int (0 : Int32))] ∧ Z.Warmed39 U.vm ∧ U.heap = h0) (fun _ _ _ _ _ => True) (fun _ U o U' => ∃ v L, o = .returned v ∧ Qmm02 Z a1 a2 ka kb y0 y1 h0 n0 v U'.heap L ∧ FrameEnd U o U' L ({ frames := 0, cells := 0, slots := 0, locals := 0 } : Room).cells ({ frames := 0, cells := 0, slots := 0, locals := 0 } : Room).slots) := by
  refine MetFree.of_bodySF (plainFor_of_name pn_4) hisR ?_
  intro p e s m args below meth c s₁ Bd hml0 hP hK
  obtain ⟨rfl, hZ, hh⟩ := hP
  have hx := Bd.exec
  have hby := Bd.bytes
  have hml : c.maxLocals = 4 := hml0
  have hown : s.vm.findClass "jdk/internal/util/ArraysSupport" = some m.cls := findClass_of_methodNamed Bd.named
  have hnm := (name_of_methodNamed Bd.named Bd.method).1
  have X0 : Stand p l e ({ frames := 0, cells := 0, slots := 0, locals := 0 } : Room) s m #[(.ref a1), (.ref a2), (.int (0 : Int32))] below meth c s₁ [] 0 0 := Stand.of_body Bd
  have e0 : s₁.heap = h0 := by rw [← hh, Bd.state]; rfl
  have N0 := Fr.nil n0
  show OGo p e below (fun s₂ o => ∃ v L, o = .returned v ∧ Qmm02 Z a1 a2 ka kb y0 y1 h0 n0 v s₂.heap L ∧ FrameEnd s o s₂ L ({ frames := 0, cells := 0, slots := 0, locals := 0 } : Room).cells ({ frames := 0, cells := 0, slots := 0, locals := 0 } : Room).slots) _
  refine OGo.to (fun _ k => castTop (ef_mm02 m a1 a2 (0 : Int32)) k) ?_
  refine OGo.to (fun _ k => XS.iconst X0.here hx rfl (hb hby d12_0) k) ?_
  refine OGo.to (fun _ k => XS.istoreN X0.here hx rfl (hb hby d12_1) rfl (l' := #[.val (.ref a1), .val (.ref a2), .val (.int (0 : Int32)), .val (.int (0 : Int32))]) rfl k) ?_
  refine OGo.to (fun _ k => XS.iloadN X0.here hx rfl (hb hby d12_2) rfl k) ?_
  refine OGo.to (fun _ k => XS.bipush X0.here hx rfl (hb hby d12_3) k) ?_
  have hc5__1 : ¬ ((7 : Int32) < (0 : Int32)) := by decide
  refine OGo.to (fun _ k => XS.icmpYes X0.here hx rfl (pc0 := 5) (pc' := 49) rfl (hb hby d12_5) rfl (flt hc5__1).2.2.2 (by decide) (by decide) k) ?_
  show OGo p e below _ (s₁.setTop (mkF m 49 #[.val (.ref a1), .val (.ref a2), .val (.int (0 : Int32)), .val (.int (0 : Int32))] []))
  refine OGo.to (fun _ k => XS.iloadN X0.here hx rfl (hb hby d12_49) rfl k) ?_
  refine OGo.to (fun _ k => XS.iloadN X0.here hx rfl (hb hby d12_50) rfl k) ?_
  have hc51__2 : ¬ ((0 : Int32) < (0 : Int32)) := by decide
  refine OGo.to (fun _ k => XS.icmpYes X0.here hx rfl (pc0 := 51) (pc' := 71) rfl (hb hby d12_51) rfl (flt hc51__2).2.1 (by decide) (by decide) k) ?_
  show OGo p e below _ (s₁.setTop (mkF m 71 #[.val (.ref a1), .val (.ref a2), .val (.int (0 : Int32)), .val (.int (0 : Int32))] []))
  refine OGo.to (fun _ k => XS.iconst X0.here hx rfl (hb hby d12_71) k) ?_
  refine OGo.ret (Q := Qmm02 Z a1 a2 ka kb y0 y1 h0 n0) X0 (some (.int (-1 : Int32))) (fun h => by rw [Bd.returns] at h; cases h) Bd.notSynchronized (fun fs hr => retI X0 hx Bd.returns (hb hby d12_72) hr) ?_ (by decide) (by decide)
  show Qmm02 Z a1 a2 ka kb y0 y1 h0 n0 _ s₁.heap _
  rw [e0]
  exact ⟨rfl, N0, rfl⟩
theorem ef_c402 (m : MethodId) (x0 : Addr) (x1 : Addr) (x2 : Int32) (x3 : Int32) : entryFrame m #[(.ref x0), (.ref x1), (.int x2), (.int x3)] 6 = mkF m 0 #[.val (.ref x0), .val (.ref x1), .val (.int x2), .val (.int x3), .unset, .unset] [] := by first | (simp [entryFrame, mkF, argsToLocals, Value.category]; done) | rfl
def Qc402 (Z : State) (a1 : Addr) (a2 : Addr) (ka : ClassId) (kb : ClassId) (y0 : Int32) (y1 : Int32) (h0 : Heap) (n0 : Nat) (v : Option Value) (h : Heap) (L : List Loc) : Prop := v = some (.int (own_scmp [] [y0, y1])) ∧ Fr n0 L ∧ h = h0
set_option maxRecDepth 65536 in
set_option maxHeartbeats 40000000 in
theorem rmc402 (l : Launch) (Z : State) (a0 : Array Value) (hw : ∀ d ∈ tables_1, d.before a0 Z = true) (ws : List Jvm.Cond) (a1 : Addr) (a2 : Addr) (ka : ClassId) (kb : ClassId) (y0 : Int32) (y1 : Int32) (h0 : Heap) (n0 : Nat) (Z0 : n0 ≤ h0.size) (VX : Arv Z h0 a1 ka .byte (0 : Int32) [] (.int (0 : Int32))) (VY : Arv Z h0 a2 kb .byte (2 : Int32) [(.int y0), (.int y1)] (.int (0 : Int32))) :
    MetFree l (⟨"java/lang/StringLatin1", "compareTo", "([B[BII)I"⟩ : MethodName) (head1 (Jvm.Cond.code (⟨"java/lang/StringLatin1", "compareTo", "([B[BII)I"⟩ : MethodName) jdk_43_method_15_code 6 (some .int) :: ws) ({ frames := 1, cells := 0, slots := 0, locals := 15 } : Room)) (fun a U => a = #[(.ref a1), (.ref a2), (.int (0 : Int32)), (.int (2 : Int32))] ∧ Z.Warmed39 U.vm ∧ U.heap = h0) (fun _ _ _ _ _ => True) (fun _ U o U' => ∃ v L, o = .returned v ∧ Qc402 Z a1 a2 ka kb y0 y1 h0 n0 v U'.heap L ∧ FrameEnd U o U' L ({ frames := 1, cells := 0, slots := 0, locals := 15 } : Room).cells ({ frames := 1, cells := 0, slots := 0, locals := 15 } : Room).slots) := by
  refine MetFree.of_bodySF (plainFor_of_name pn_0) hisR ?_
  intro p e s m args below meth c s₁ Bd hml0 hP hK
  obtain ⟨rfl, hZ, hh⟩ := hP
  have hx := Bd.exec
  have hby := Bd.bytes
  have hml : c.maxLocals = 6 := hml0
  have hown : s.vm.findClass "java/lang/StringLatin1" = some m.cls := findClass_of_methodNamed Bd.named
  have hnm := (name_of_methodNamed Bd.named Bd.method).1
  have X0 : Stand p l e ({ frames := 1, cells := 0, slots := 0, locals := 15 } : Room) s m #[(.ref a1), (.ref a2), (.int (0 : Int32)), (.int (2 : Int32))] below meth c s₁ [] 0 0 := Stand.of_body Bd
  have e0 : s₁.heap = h0 := by rw [← hh, Bd.state]; rfl
  have N0 := Fr.nil n0
  show OGo p e below (fun s₂ o => ∃ v L, o = .returned v ∧ Qc402 Z a1 a2 ka kb y0 y1 h0 n0 v s₂.heap L ∧ FrameEnd s o s₂ L ({ frames := 1, cells := 0, slots := 0, locals := 15 } : Room).cells ({ frames := 1, cells := 0, slots := 0, locals := 15 } : Room).slots) _
  refine OGo.to (fun _ k => castTop (ef_c402 m a1 a2 (0 : Int32) (2 : Int32)) k) ?_
  refine OGo.to (fun _ k => XS.iloadN X0.here hx rfl (hb hby d10_0) rfl k) ?_
  refine OGo.to (fun _ k => XS.iloadN X0.here hx rfl (hb hby d10_1) rfl k) ?_
  obtain ⟨_, T_1, Lc_1, X_1, hQ_1, st_1⟩ := own_un X0 (Q := Qmn02 Z  h0 n0) (rc := 0) (rs := 0) (W := fun v B => ∀ target, Steps p.tables e below (B.setTop { (mkF m 2 #[.val (.ref a1), .val (.ref a2), .val (.int (0 : Int32)), .val (.int (2 : Int32)), .unset, .unset] [(.int (2 : Int32)), (.int (0 : Int32))]) with pc := 5, stack := v.toList ++ [] }) target → Steps p.tables e below (s₁.setTop (mkF m 2 #[.val (.ref a1), .val (.ref a2), .val (.int (0 : Int32)), .val (.int (2 : Int32)), .unset, .unset] [(.int (2 : Int32)), (.int (0 : Int32))])) target) <| Jvm.LawKit.callS X0 hx (y := (⟨"java/lang/Math", "min", "(II)I"⟩ : MethodName)) hown (mvT hZ (hw _ (List.mem_of_getElem? (i := 54) rfl))) (mvT hZ (hw _ (List.mem_of_getElem? (i := 55) rfl))) (mvT hZ (hw _ (List.mem_of_getElem? (i := 56) rfl))) (mvT hZ (hw _ (List.mem_of_getElem? (i := 57) rfl))) (by decide) (backOf (W := 0) (rmmn02 l Z a0 hw []  h0 n0 Z0 ) hZ (hw _ (List.mem_of_getElem? (i := 57) rfl)) (hw _ (List.mem_of_getElem? (i := 56) rfl)) (by decide) (by decide)) (g := (mkF m 2 #[.val (.ref a1), .val (.ref a2), .val (.int (0 : Int32)), .val (.int (2 : Int32)), .unset, .unset] [(.int (2 : Int32)), (.int (0 : Int32))])) rfl (by rw [hml]; rfl) (argsL := [(.int (0 : Int32)), (.int (2 : Int32))]) (rest := []) (lenOf pd_9 rfl) rfl (by show 2 * 0 + _ ≤ _; exact Nat.le_of_eq rfl) (hb hby d10_2) (fun _ _ => ⟨rfl, e0, (by decide : 0 + 0 ≤ _), (by decide : 0 + 0 ≤ _)⟩)
  obtain ⟨rfl, N_1q, e_1⟩ := hQ_1
  have N_1 := Fr.app N0 N_1q
  refine OGo.to st_1 ?_
  show OGo p e below _ (T_1.setTop (mkF m 5 #[.val (.ref a1), .val (.ref a2), .val (.int (0 : Int32)), .val (.int (2 : Int32)), .unset, .unset] [(.int (0 : Int32))]))
  refine OGo.to (fun _ k => XS.istore X_1.here hx rfl (hb hby d10_5) rfl (l' := #[.val (.ref a1), .val (.ref a2), .val (.int (0 : Int32)), .val (.int (2 : Int32)), .val (.int (0 : Int32)), .unset]) rfl k) ?_
  refine OGo.to (fun _ k => XS.aloadN X_1.here hx rfl (hb hby d10_7) rfl rfl k) ?_
  refine OGo.to (fun _ k => XS.aloadN X_1.here hx rfl (hb hby d10_8) rfl rfl k) ?_
  refine OGo.to (fun _ k => XS.iload X_1.here hx rfl (hb hby d10_9) rfl k) ?_
  obtain ⟨_, T_2, Lc_2, X_2, hQ_2, st_2⟩ := own_un X_1 (Q := Qmm02 Z a1 a2 ka kb y0 y1 h0 n0) (rc := 0) (rs := 0) (W := fun v B => ∀ target, Steps p.tables e below (B.setTop { (mkF m 11 #[.val (.ref a1), .val (.ref a2), .val (.int (0 : Int32)), .val (.int (2 : Int32)), .val (.int (0 : Int32)), .unset] [(.int (0 : Int32)), (.ref a2), (.ref a1)]) with pc := 14, stack := v.toList ++ [] }) target → Steps p.tables e below (T_1.setTop (mkF m 11 #[.val (.ref a1), .val (.ref a2), .val (.int (0 : Int32)), .val (.int (2 : Int32)), .val (.int (0 : Int32)), .unset] [(.int (0 : Int32)), (.ref a2), (.ref a1)])) target) <| Jvm.LawKit.callS X_1 hx (y := (⟨"jdk/internal/util/ArraysSupport", "mismatch", "([B[BI)I"⟩ : MethodName)) hown (mvT hZ (hw _ (List.mem_of_getElem? (i := 58) rfl))) (mvT hZ (hw _ (List.mem_of_getElem? (i := 59) rfl))) (mvT hZ (hw _ (List.mem_of_getElem? (i := 60) rfl))) (mvT hZ (hw _ (List.mem_of_getElem? (i := 61) rfl))) (by decide) (backOf (W := 0) (rmmm02 l Z a0 hw [] a1 a2 ka kb y0 y1 h0 n0 Z0 VX VY) hZ (hw _ (List.mem_of_getElem? (i := 61) rfl)) (hw _ (List.mem_of_getElem? (i := 60) rfl)) (by decide) (by decide)) (g := (mkF m 11 #[.val (.ref a1), .val (.ref a2), .val (.int (0 : Int32)), .val (.int (2 : Int32)), .val (.int (0 : Int32)), .unset] [(.int (0 : Int32)), (.ref a2), (.ref a1)])) rfl (by rw [hml]; rfl) (argsL := [(.ref a1), (.ref a2), (.int (0 : Int32))]) (rest := []) (lenOf pd_10 rfl) rfl (by show 2 * 0 + _ ≤ _; exact Nat.le_of_eq rfl) (hb hby d10_11) (fun _ _ => ⟨rfl, e_1, (by decide : 0 + 0 ≤ _), (by decide : 0 + 0 ≤ _)⟩)
  obtain ⟨rfl, N_2q, e_2⟩ := hQ_2
  have N_2 := Fr.app N_1 N_2q
  refine OGo.to st_2 ?_
  show OGo p e below _ (T_2.setTop (mkF m 14 #[.val (.ref a1), .val (.ref a2), .val (.int (0 : Int32)), .val (.int (2 : Int32)), .val (.int (0 : Int32)), .unset] [(.int (-1 : Int32))]))
  refine OGo.to (fun _ k => XS.istore X_2.here hx rfl (hb hby d10_14) rfl (l' := #[.val (.ref a1), .val (.ref a2), .val (.int (0 : Int32)), .val (.int (2 : Int32)), .val (.int (0 : Int32)), .val (.int (-1 : Int32))]) rfl k) ?_
  refine OGo.to (fun _ k => XS.iload X_2.here hx rfl (hb hby d10_16) rfl k) ?_
  have hc18__3 : (-1 : Int32) < (0 : Int32) := by decide
  refine OGo.to (fun _ k => XS.ifNo X_2.here hx rfl (hb hby d10_18) rfl ((if0 _ _).trans (tlt hc18__3).2.1) k) ?_
  show OGo p e below _ (T_2.setTop (mkF m 21 #[.val (.ref a1), .val (.ref a2), .val (.int (0 : Int32)), .val (.int (2 : Int32)), .val (.int (0 : Int32)), .val (.int (-1 : Int32))] []))
  refine OGo.to (fun _ k => XS.iloadN X_2.here hx rfl (hb hby d10_21) rfl k) ?_
  refine OGo.to (fun _ k => XS.iloadN X_2.here hx rfl (hb hby d10_22) rfl k) ?_
  refine OGo.to (fun _ k => XS.isub X_2.here hx rfl (hb hby d10_23) rfl k) ?_
  refine OGo.to (fun _ k => XS.goto X_2.here hx rfl (pc0 := 24) (pc' := 40) rfl (hb hby d10_24) (by decide) (by decide) k) ?_
  refine OGo.ret (Q := Qc402 Z a1 a2 ka kb y0 y1 h0 n0) X_2 (some (.int (-2 : Int32))) (fun h => by rw [Bd.returns] at h; cases h) Bd.notSynchronized (fun fs hr => retI X_2 hx Bd.returns (hb hby d10_40) hr) ?_ (by decide) (by decide)
  show Qc402 Z a1 a2 ka kb y0 y1 h0 n0 _ T_2.heap _
  rw [e_2]
  exact ⟨congrArg (fun z => some (Value.int z)) (show (-2 : Int32) = (own_scmp [] [y0, y1]) from by show _ = own_i 0 - own_i 2; decide), N_2, rfl⟩
theorem ef_c202 (m : MethodId) (x0 : Addr) (x1 : Addr) : entryFrame m #[(.ref x0), (.ref x1)] 4 = mkF m 0 #[.val (.ref x0), .val (.ref x1), .unset, .unset] [] := by first | (simp [entryFrame, mkF, argsToLocals, Value.category]; done) | rfl
def Qc202 (Z : State) (a1 : Addr) (a2 : Addr) (ka : ClassId) (kb : ClassId) (y0 : Int32) (y1 : Int32) (h0 : Heap) (n0 : Nat) (v : Option Value) (h : Heap) (L : List Loc) : Prop := v = some (.int (own_scmp [] [y0, y1])) ∧ Fr n0 L ∧ h = h0
set_option maxRecDepth 65536 in
set_option maxHeartbeats 40000000 in
theorem rmc202 (l : Launch) (Z : State) (a0 : Array Value) (hw : ∀ d ∈ tables_1, d.before a0 Z = true) (ws : List Jvm.Cond) (a1 : Addr) (a2 : Addr) (ka : ClassId) (kb : ClassId) (y0 : Int32) (y1 : Int32) (h0 : Heap) (n0 : Nat) (Z0 : n0 ≤ h0.size) (VX : Arv Z h0 a1 ka .byte (0 : Int32) [] (.int (0 : Int32))) (VY : Arv Z h0 a2 kb .byte (2 : Int32) [(.int y0), (.int y1)] (.int (0 : Int32))) :
    MetFree l (⟨"java/lang/StringLatin1", "compareTo", "([B[B)I"⟩ : MethodName) (head1 (Jvm.Cond.code (⟨"java/lang/StringLatin1", "compareTo", "([B[B)I"⟩ : MethodName) jdk_43_method_14_code 4 (some .int) :: ws) ({ frames := 2, cells := 0, slots := 0, locals := 32 } : Room)) (fun a U => a = #[(.ref a1), (.ref a2)] ∧ Z.Warmed39 U.vm ∧ U.heap = h0) (fun _ _ _ _ _ => True) (fun _ U o U' => ∃ v L, o = .returned v ∧ Qc202 Z a1 a2 ka kb y0 y1 h0 n0 v U'.heap L ∧ FrameEnd U o U' L ({ frames := 2, cells := 0, slots := 0, locals := 32 } : Room).cells ({ frames := 2, cells := 0, slots := 0, locals := 32 } : Room).slots) := by
  refine MetFree.of_bodySF (plainFor_of_name pn_0) hisR ?_
  intro p e s m args below meth c s₁ Bd hml0 hP hK
  obtain ⟨rfl, hZ, hh⟩ := hP
  have hx := Bd.exec
  have hby := Bd.bytes
  have hml : c.maxLocals = 4 := hml0
  have hown : s.vm.findClass "java/lang/StringLatin1" = some m.cls := findClass_of_methodNamed Bd.named
  have hnm := (name_of_methodNamed Bd.named Bd.method).1
  have X0 : Stand p l e ({ frames := 2, cells := 0, slots := 0, locals := 32 } : Room) s m #[(.ref a1), (.ref a2)] below meth c s₁ [] 0 0 := Stand.of_body Bd
  have e0 : s₁.heap = h0 := by rw [← hh, Bd.state]; rfl
  have N0 := Fr.nil n0
  show OGo p e below (fun s₂ o => ∃ v L, o = .returned v ∧ Qc202 Z a1 a2 ka kb y0 y1 h0 n0 v s₂.heap L ∧ FrameEnd s o s₂ L ({ frames := 2, cells := 0, slots := 0, locals := 32 } : Room).cells ({ frames := 2, cells := 0, slots := 0, locals := 32 } : Room).slots) _
  refine OGo.to (fun _ k => castTop (ef_c202 m a1 a2) k) ?_
  refine OGo.to (fun _ k => XS.aloadN X0.here hx rfl (hb hby d9_0) rfl rfl k) ?_
  have Vq_1 := VX
  obtain ⟨cl_1, Ar_1, q_1, S_1, M_1, Hs_1, G_1⟩ := Vq_1
  refine OGo.to (fun _ k => X0.arraylength hx (by rw [e0]; exact Ar_1.1) (State.isArrayOf_alike hZ.alike Ar_1.2.1) (g := (mkF m 1 #[.val (.ref a1), .val (.ref a2), .unset, .unset] [(.ref a1)])) rfl rfl (hb hby d9_1) _ k) ?_
  rw [len_of S_1 M_1]
  show OGo p e below _ (s₁.setTop (mkF m 2 #[.val (.ref a1), .val (.ref a2), .unset, .unset] [(.int (0 : Int32))]))
  refine OGo.to (fun _ k => XS.istoreN X0.here hx rfl (hb hby d9_2) rfl (l' := #[.val (.ref a1), .val (.ref a2), .val (.int (0 : Int32)), .unset]) rfl k) ?_
  refine OGo.to (fun _ k => XS.aloadN X0.here hx rfl (hb hby d9_3) rfl rfl k) ?_
  have Vq_2 := VY
  obtain ⟨cl_2, Ar_2, q_2, S_2, M_2, Hs_2, G_2⟩ := Vq_2
  refine OGo.to (fun _ k => X0.arraylength hx (by rw [e0]; exact Ar_2.1) (State.isArrayOf_alike hZ.alike Ar_2.2.1) (g := (mkF m 4 #[.val (.ref a1), .val (.ref a2), .val (.int (0 : Int32)), .unset] [(.ref a2)])) rfl rfl (hb hby d9_4) _ k) ?_
  rw [len_of S_2 M_2]
  show OGo p e below _ (s₁.setTop (mkF m 5 #[.val (.ref a1), .val (.ref a2), .val (.int (0 : Int32)), .unset] [(.int (2 : Int32))]))
  refine OGo.to (fun _ k => XS.istoreN X0.here hx rfl (hb hby d9_5) rfl (l' := #[.val (.ref a1), .val (.ref a2), .val (.int (0 : Int32)), .val (.int (2 : Int32))]) rfl k) ?_
  refine OGo.to (fun _ k => XS.aloadN X0.here hx rfl (hb hby d9_6) rfl rfl k) ?_
  refine OGo.to (fun _ k => XS.aloadN X0.here hx rfl (hb hby d9_7) rfl rfl k) ?_
  refine OGo.to (fun _ k => XS.iloadN X0.here hx rfl (hb hby d9_8) rfl k) ?_
  refine OGo.to (fun _ k => XS.iloadN X0.here hx rfl (hb hby d9_9) rfl k) ?_
  obtain ⟨_, T_3, Lc_3, X_3, hQ_3, st_3⟩ := own_un X0 (Q := Qc402 Z a1 a2 ka kb y0 y1 h0 n0) (rc := 0) (rs := 0) (W := fun v B => ∀ target, Steps p.tables e below (B.setTop { (mkF m 10 #[.val (.ref a1), .val (.ref a2), .val (.int (0 : Int32)), .val (.int (2 : Int32))] [(.int (2 : Int32)), (.int (0 : Int32)), (.ref a2), (.ref a1)]) with pc := 13, stack := v.toList ++ [] }) target → Steps p.tables e below (s₁.setTop (mkF m 10 #[.val (.ref a1), .val (.ref a2), .val (.int (0 : Int32)), .val (.int (2 : Int32))] [(.int (2 : Int32)), (.int (0 : Int32)), (.ref a2), (.ref a1)])) target) <| Jvm.LawKit.callS X0 hx (y := (⟨"java/lang/StringLatin1", "compareTo", "([B[BII)I"⟩ : MethodName)) hown (mvT hZ (hw _ (List.mem_of_getElem? (i := 51) rfl))) (mvT hZ (hw _ (List.mem_of_getElem? (i := 52) rfl))) (mvT hZ (hw _ (List.mem_of_getElem? (i := 49) rfl))) (mvT hZ (hw _ (List.mem_of_getElem? (i := 53) rfl))) (by decide) (backOf (W := 0) (rmc402 l Z a0 hw [] a1 a2 ka kb y0 y1 h0 n0 Z0 VX VY) hZ (hw _ (List.mem_of_getElem? (i := 53) rfl)) (hw _ (List.mem_of_getElem? (i := 49) rfl)) (by decide) (by decide)) (g := (mkF m 10 #[.val (.ref a1), .val (.ref a2), .val (.int (0 : Int32)), .val (.int (2 : Int32))] [(.int (2 : Int32)), (.int (0 : Int32)), (.ref a2), (.ref a1)])) rfl (by rw [hml]; rfl) (argsL := [(.ref a1), (.ref a2), (.int (0 : Int32)), (.int (2 : Int32))]) (rest := []) (lenOf pd_11 rfl) rfl (by show 2 * 0 + _ ≤ _; exact Nat.le_of_eq rfl) (hb hby d9_10) (fun _ _ => ⟨rfl, e0, (by decide : 0 + 0 ≤ _), (by decide : 0 + 0 ≤ _)⟩)
  obtain ⟨rfl, N_3q, e_3⟩ := hQ_3
  have N_3 := Fr.app N0 N_3q
  refine OGo.to st_3 ?_
  show OGo p e below _ (T_3.setTop (mkF m 13 #[.val (.ref a1), .val (.ref a2), .val (.int (0 : Int32)), .val (.int (2 : Int32))] [(.int (own_scmp [] [y0, y1]))]))
  refine OGo.ret (Q := Qc202 Z a1 a2 ka kb y0 y1 h0 n0) X_3 (some (.int (own_scmp [] [y0, y1]))) (fun h => by rw [Bd.returns] at h; cases h) Bd.notSynchronized (fun fs hr => retI X_3 hx Bd.returns (hb hby d9_13) hr) ?_ (by decide) (by decide)
  show Qc202 Z a1 a2 ka kb y0 y1 h0 n0 _ T_3.heap _
  rw [e_3]
  exact ⟨rfl, N_3, rfl⟩
theorem ef_eq02 (m : MethodId) (x0 : Addr) (x1 : Addr) : entryFrame m #[(.ref x0), (.ref x1)] 3 = mkF m 0 #[.val (.ref x0), .val (.ref x1), .unset] [] := by first | (simp [entryFrame, mkF, argsToLocals, Value.category]; done) | rfl
def Qeq02 (Z : State) (a1 : Addr) (a2 : Addr) (ka : ClassId) (kb : ClassId) (y0 : Int32) (y1 : Int32) (h0 : Heap) (n0 : Nat) (v : Option Value) (h : Heap) (L : List Loc) : Prop := v = some (.int (own_seq [] [y0, y1])) ∧ Fr n0 L ∧ h = h0
set_option maxRecDepth 65536 in
set_option maxHeartbeats 40000000 in
theorem rmeq02 (l : Launch) (Z : State) (a0 : Array Value) (hw : ∀ d ∈ tables_1, d.before a0 Z = true) (ws : List Jvm.Cond) (a1 : Addr) (a2 : Addr) (ka : ClassId) (kb : ClassId) (y0 : Int32) (y1 : Int32) (h0 : Heap) (n0 : Nat) (Z0 : n0 ≤ h0.size) (VX : Arv Z h0 a1 ka .byte (0 : Int32) [] (.int (0 : Int32))) (VY : Arv Z h0 a2 kb .byte (2 : Int32) [(.int y0), (.int y1)] (.int (0 : Int32))) :
    MetFree l (⟨"java/lang/StringLatin1", "equals", "([B[B)Z"⟩ : MethodName) (head1 (Jvm.Cond.code (⟨"java/lang/StringLatin1", "equals", "([B[B)Z"⟩ : MethodName) jdk_43_method_13_code 3 (some .boolean) :: ws) ({ frames := 0, cells := 0, slots := 0, locals := 0 } : Room)) (fun a U => a = #[(.ref a1), (.ref a2)] ∧ Z.Warmed39 U.vm ∧ U.heap = h0) (fun _ _ _ _ _ => True) (fun _ U o U' => ∃ v L, o = .returned v ∧ Qeq02 Z a1 a2 ka kb y0 y1 h0 n0 v U'.heap L ∧ FrameEnd U o U' L ({ frames := 0, cells := 0, slots := 0, locals := 0 } : Room).cells ({ frames := 0, cells := 0, slots := 0, locals := 0 } : Room).slots) := by
  refine MetFree.of_bodySF (plainFor_of_name pn_0) hisR ?_
  intro p e s m args below meth c s₁ Bd hml0 hP hK
  obtain ⟨rfl, hZ, hh⟩ := hP
  have hx := Bd.exec
  have hby := Bd.bytes
  have hml : c.maxLocals = 3 := hml0
  have hown : s.vm.findClass "java/lang/StringLatin1" = some m.cls := findClass_of_methodNamed Bd.named
  have hnm := (name_of_methodNamed Bd.named Bd.method).1
  have X0 : Stand p l e ({ frames := 0, cells := 0, slots := 0, locals := 0 } : Room) s m #[(.ref a1), (.ref a2)] below meth c s₁ [] 0 0 := Stand.of_body Bd
  have e0 : s₁.heap = h0 := by rw [← hh, Bd.state]; rfl
  have N0 := Fr.nil n0
  show OGo p e below (fun s₂ o => ∃ v L, o = .returned v ∧ Qeq02 Z a1 a2 ka kb y0 y1 h0 n0 v s₂.heap L ∧ FrameEnd s o s₂ L ({ frames := 0, cells := 0, slots := 0, locals := 0 } : Room).cells ({ frames := 0, cells := 0, slots := 0, locals := 0 } : Room).slots) _
  refine OGo.to (fun _ k => castTop (ef_eq02 m a1 a2) k) ?_
  refine OGo.to (fun _ k => XS.aloadN X0.here hx rfl (hb hby d15_0) rfl rfl k) ?_
  have Vq_1 := VX
  obtain ⟨cl_1, Ar_1, q_1, S_1, M_1, Hs_1, G_1⟩ := Vq_1
  refine OGo.to (fun _ k => X0.arraylength hx (by rw [e0]; exact Ar_1.1) (State.isArrayOf_alike hZ.alike Ar_1.2.1) (g := (mkF m 1 #[.val (.ref a1), .val (.ref a2), .unset] [(.ref a1)])) rfl rfl (hb hby d15_1) _ k) ?_
  rw [len_of S_1 M_1]
  show OGo p e below _ (s₁.setTop (mkF m 2 #[.val (.ref a1), .val (.ref a2), .unset] [(.int (0 : Int32))]))
  refine OGo.to (fun _ k => XS.aloadN X0.here hx rfl (hb hby d15_2) rfl rfl k) ?_
  have Vq_2 := VY
  obtain ⟨cl_2, Ar_2, q_2, S_2, M_2, Hs_2, G_2⟩ := Vq_2
  refine OGo.to (fun _ k => X0.arraylength hx (by rw [e0]; exact Ar_2.1) (State.isArrayOf_alike hZ.alike Ar_2.2.1) (g := (mkF m 3 #[.val (.ref a1), .val (.ref a2), .unset] [(.ref a2), (.int (0 : Int32))])) rfl rfl (hb hby d15_3) _ k) ?_
  rw [len_of S_2 M_2]
  show OGo p e below _ (s₁.setTop (mkF m 4 #[.val (.ref a1), .val (.ref a2), .unset] [(.int (2 : Int32)), (.int (0 : Int32))]))
  have hc4__3 : ¬ ((0 : Int32) = (2 : Int32)) := by decide
  refine OGo.to (fun _ k => XS.icmpYes X0.here hx rfl (pc0 := 4) (pc' := 34) rfl (hb hby d15_4) rfl (feq hc4__3).2 (by decide) (by decide) k) ?_
  show OGo p e below _ (s₁.setTop (mkF m 34 #[.val (.ref a1), .val (.ref a2), .unset] []))
  refine OGo.to (fun _ k => XS.iconst X0.here hx rfl (hb hby d15_34) k) ?_
  refine OGo.ret (Q := Qeq02 Z a1 a2 ka kb y0 y1 h0 n0) X0 (some (.int (0 : Int32))) (fun h => by rw [Bd.returns] at h; cases h) Bd.notSynchronized (fun fs hr => retN X0 hx (t := .boolean) (z := (0 : Int32)) Bd.returns (by simp) (hb hby d15_35) hr) ?_ (by decide) (by decide)
  show Qeq02 Z a1 a2 ka kb y0 y1 h0 n0 _ s₁.heap _
  rw [e0]
  exact ⟨congrArg (fun z => some (Value.int z)) (show (0 : Int32) = (own_seq [] [y0, y1]) from own_seq_no (by simp [])), N0, rfl⟩
theorem d11_9 : decode jdk_29_method_69_code 9 = .ok (.iload_n 1, 1) := by decide +kernel
theorem ef_mn10 (m : MethodId) (x0 : Int32) (x1 : Int32) : entryFrame m #[(.int x0), (.int x1)] 2 = mkF m 0 #[.val (.int x0), .val (.int x1)] [] := by first | (simp [entryFrame, mkF, argsToLocals, Value.category]; done) | rfl
def Qmn10 (Z : State)  (h0 : Heap) (n0 : Nat) (v : Option Value) (h : Heap) (L : List Loc) : Prop := v = some (.int (0 : Int32)) ∧ Fr n0 L ∧ h = h0
set_option maxRecDepth 65536 in
set_option maxHeartbeats 40000000 in
theorem rmmn10 (l : Launch) (Z : State) (a0 : Array Value) (hw : ∀ d ∈ tables_1, d.before a0 Z = true) (ws : List Jvm.Cond)  (h0 : Heap) (n0 : Nat) (Z0 : n0 ≤ h0.size) :
    MetFree l (⟨"java/lang/Math", "min", "(II)I"⟩ : MethodName) (head1 (Jvm.Cond.code (⟨"java/lang/Math", "min", "(II)I"⟩ : MethodName) jdk_29_method_69_code 2 (some .int) :: ws) ({ frames := 0, cells := 0, slots := 0, locals := 0 } : Room)) (fun a U => a = #[(.int (1 : Int32)), (.int (0 : Int32))] ∧ Z.Warmed39 U.vm ∧ U.heap = h0) (fun _ _ _ _ _ => True) (fun _ U o U' => ∃ v L, o = .returned v ∧ Qmn10 Z  h0 n0 v U'.heap L ∧ FrameEnd U o U' L ({ frames := 0, cells := 0, slots := 0, locals := 0 } : Room).cells ({ frames := 0, cells := 0, slots := 0, locals := 0 } : Room).slots) := by
  refine MetFree.of_bodySF (Jvm.Free.JP.mathPlain rfl (by decide +kernel)) hisR ?_
  intro p e s m args below meth c s₁ Bd hml0 hP hK
  obtain ⟨rfl, hZ, hh⟩ := hP
  have hx := Bd.exec
  have hby := Bd.bytes
  have hml : c.maxLocals = 2 := hml0
  have hown : s.vm.findClass "java/lang/Math" = some m.cls := findClass_of_methodNamed Bd.named
  have hnm := (name_of_methodNamed Bd.named Bd.method).1
  have X0 : Stand p l e ({ frames := 0, cells := 0, slots := 0, locals := 0 } : Room) s m #[(.int (1 : Int32)), (.int (0 : Int32))] below meth c s₁ [] 0 0 := Stand.of_body Bd
  have e0 : s₁.heap = h0 := by rw [← hh, Bd.state]; rfl
  have N0 := Fr.nil n0
  show OGo p e below (fun s₂ o => ∃ v L, o = .returned v ∧ Qmn10 Z  h0 n0 v s₂.heap L ∧ FrameEnd s o s₂ L ({ frames := 0, cells := 0, slots := 0, locals := 0 } : Room).cells ({ frames := 0, cells := 0, slots := 0, locals := 0 } : Room).slots) _
  refine OGo.to (fun _ k => castTop (ef_mn10 m (1 : Int32) (0 : Int32)) k) ?_
  refine OGo.to (fun _ k => XS.iloadN X0.here hx rfl (hb hby d11_0) rfl k) ?_
  refine OGo.to (fun _ k => XS.iloadN X0.here hx rfl (hb hby d11_1) rfl k) ?_
  have hc2__1 : (0 : Int32) < (1 : Int32) := by decide
  refine OGo.to (fun _ k => XS.icmpYes X0.here hx rfl (pc0 := 2) (pc' := 9) rfl (hb hby d11_2) rfl (tlt hc2__1).2.2.1 (by decide) (by decide) k) ?_
  show OGo p e below _ (s₁.setTop (mkF m 9 #[.val (.int (1 : Int32)), .val (.int (0 : Int32))] []))
  refine OGo.to (fun _ k => XS.iloadN X0.here hx rfl (hb hby d11_9) rfl k) ?_
  refine OGo.ret (Q := Qmn10 Z  h0 n0) X0 (some (.int (0 : Int32))) (fun h => by rw [Bd.returns] at h; cases h) Bd.notSynchronized (fun fs hr => retI X0 hx Bd.returns (hb hby d11_10) hr) ?_ (by decide) (by decide)
  show Qmn10 Z  h0 n0 _ s₁.heap _
  rw [e0]
  exact ⟨rfl, N0, rfl⟩
theorem ef_mm10 (m : MethodId) (x0 : Addr) (x1 : Addr) (x2 : Int32) : entryFrame m #[(.ref x0), (.ref x1), (.int x2)] 4 = mkF m 0 #[.val (.ref x0), .val (.ref x1), .val (.int x2), .unset] [] := by first | (simp [entryFrame, mkF, argsToLocals, Value.category]; done) | rfl
def Qmm10 (Z : State) (a1 : Addr) (a2 : Addr) (ka : ClassId) (kb : ClassId) (x0 : Int32) (h0 : Heap) (n0 : Nat) (v : Option Value) (h : Heap) (L : List Loc) : Prop := v = some (.int (-1 : Int32)) ∧ Fr n0 L ∧ h = h0
set_option maxRecDepth 65536 in
set_option maxHeartbeats 40000000 in
theorem rmmm10 (l : Launch) (Z : State) (a0 : Array Value) (hw : ∀ d ∈ tables_1, d.before a0 Z = true) (ws : List Jvm.Cond) (a1 : Addr) (a2 : Addr) (ka : ClassId) (kb : ClassId) (x0 : Int32) (h0 : Heap) (n0 : Nat) (Z0 : n0 ≤ h0.size) (VX : Arv Z h0 a1 ka .byte (1 : Int32) [(.int x0)] (.int (0 : Int32))) (VY : Arv Z h0 a2 kb .byte (0 : Int32) [] (.int (0 : Int32))) :
    MetFree l (⟨"jdk/internal/util/ArraysSupport", "mismatch", "([B[BI)I"⟩ : MethodName) (head1 (Jvm.Cond.code (⟨"jdk/internal/util/ArraysSupport", "mismatch", "([B[BI)I"⟩ : MethodName) jdk_48_method_13_code 4 (some .int) :: ws) ({ frames := 0, cells := 0, slots := 0, locals := 0 } : Room)) (fun a U => a = #[(.ref a1), (.ref a2), (.int (0 : Int32))] ∧ Z.Warmed39 U.vm ∧ U.heap = h0) (fun _ _ _ _ _ => True) (fun _ U o U' => ∃ v L, o = .returned v ∧ Qmm10 Z a1 a2 ka kb x0 h0 n0 v U'.heap L ∧ FrameEnd U o U' L ({ frames := 0, cells := 0, slots := 0, locals := 0 } : Room).cells ({ frames := 0, cells := 0, slots := 0, locals := 0 } : Room).slots) := by
  refine MetFree.of_bodySF (plainFor_of_name pn_4) hisR ?_
  intro p e s m args below meth c s₁ Bd hml0 hP hK
  obtain ⟨rfl, hZ, hh⟩ := hP
  have hx := Bd.exec
  have hby := Bd.bytes
  have hml : c.maxLocals = 4 := hml0
  have hown : s.vm.findClass "jdk/internal/util/ArraysSupport" = some m.cls := findClass_of_methodNamed Bd.named
  have hnm := (name_of_methodNamed Bd.named Bd.method).1
  have X0 : Stand p l e ({ frames := 0, cells := 0, slots := 0, locals := 0 } : Room) s m #[(.ref a1), (.ref a2), (.int (0 : Int32))] below meth c s₁ [] 0 0 := Stand.of_body Bd
  have e0 : s₁.heap = h0 := by rw [← hh, Bd.state]; rfl
  have N0 := Fr.nil n0
  show OGo p e below (fun s₂ o => ∃ v L, o = .returned v ∧ Qmm10 Z a1 a2 ka kb x0 h0 n0 v s₂.heap L ∧ FrameEnd s o s₂ L ({ frames := 0, cells := 0, slots := 0, locals := 0 } : Room).cells ({ frames := 0, cells := 0, slots := 0, locals := 0 } : Room).slots) _
  refine OGo.to (fun _ k => castTop (ef_mm10 m a1 a2 (0 : Int32)) k) ?_
  refine OGo.to (fun _ k => XS.iconst X0.here hx rfl (hb hby d12_0) k) ?_
  refine OGo.to (fun _ k => XS.istoreN X0.here hx rfl (hb hby d12_1) rfl (l' := #[.val (.ref a1), .val (.ref a2), .val (.int (0 : Int32)), .val (.int (0 : Int32))]) rfl k) ?_
  refine OGo.to (fun _ k => XS.iloadN X0.here hx rfl (hb hby d12_2) rfl k) ?_
  refine OGo.to (fun _ k => XS.bipush X0.here hx rfl (hb hby d12_3) k) ?_
  have hc5__1 : ¬ ((7 : Int32) < (0 : Int32)) := by decide
  refine OGo.to (fun _ k => XS.icmpYes X0.here hx rfl (pc0 := 5) (pc' := 49) rfl (hb hby d12_5) rfl (flt hc5__1).2.2.2 (by decide) (by decide) k) ?_
  show OGo p e below _ (s₁.setTop (mkF m 49 #[.val (.ref a1), .val (.ref a2), .val (.int (0 : Int32)), .val (.int (0 : Int32))] []))
  refine OGo.to (fun _ k => XS.iloadN X0.here hx rfl (hb hby d12_49) rfl k) ?_
  refine OGo.to (fun _ k => XS.iloadN X0.here hx rfl (hb hby d12_50) rfl k) ?_
  have hc51__2 : ¬ ((0 : Int32) < (0 : Int32)) := by decide
  refine OGo.to (fun _ k => XS.icmpYes X0.here hx rfl (pc0 := 51) (pc' := 71) rfl (hb hby d12_51) rfl (flt hc51__2).2.1 (by decide) (by decide) k) ?_
  show OGo p e below _ (s₁.setTop (mkF m 71 #[.val (.ref a1), .val (.ref a2), .val (.int (0 : Int32)), .val (.int (0 : Int32))] []))
  refine OGo.to (fun _ k => XS.iconst X0.here hx rfl (hb hby d12_71) k) ?_
  refine OGo.ret (Q := Qmm10 Z a1 a2 ka kb x0 h0 n0) X0 (some (.int (-1 : Int32))) (fun h => by rw [Bd.returns] at h; cases h) Bd.notSynchronized (fun fs hr => retI X0 hx Bd.returns (hb hby d12_72) hr) ?_ (by decide) (by decide)
  show Qmm10 Z a1 a2 ka kb x0 h0 n0 _ s₁.heap _
  rw [e0]
  exact ⟨rfl, N0, rfl⟩
theorem ef_c410 (m : MethodId) (x0 : Addr) (x1 : Addr) (x2 : Int32) (x3 : Int32) : entryFrame m #[(.ref x0), (.ref x1), (.int x2), (.int x3)] 6 = mkF m 0 #[.val (.ref x0), .val (.ref x1), .val (.int x2), .val (.int x3), .unset, .unset] [] := by first | (simp [entryFrame, mkF, argsToLocals, Value.category]; done) | rfl
def Qc410 (Z : State) (a1 : Addr) (a2 : Addr) (ka : ClassId) (kb : ClassId) (x0 : Int32) (h0 : Heap) (n0 : Nat) (v : Option Value) (h : Heap) (L : List Loc) : Prop := v = some (.int (own_scmp [x0] [])) ∧ Fr n0 L ∧ h = h0
set_option maxRecDepth 65536 in
set_option maxHeartbeats 40000000 in
theorem rmc410 (l : Launch) (Z : State) (a0 : Array Value) (hw : ∀ d ∈ tables_1, d.before a0 Z = true) (ws : List Jvm.Cond) (a1 : Addr) (a2 : Addr) (ka : ClassId) (kb : ClassId) (x0 : Int32) (h0 : Heap) (n0 : Nat) (Z0 : n0 ≤ h0.size) (VX : Arv Z h0 a1 ka .byte (1 : Int32) [(.int x0)] (.int (0 : Int32))) (VY : Arv Z h0 a2 kb .byte (0 : Int32) [] (.int (0 : Int32))) :
    MetFree l (⟨"java/lang/StringLatin1", "compareTo", "([B[BII)I"⟩ : MethodName) (head1 (Jvm.Cond.code (⟨"java/lang/StringLatin1", "compareTo", "([B[BII)I"⟩ : MethodName) jdk_43_method_15_code 6 (some .int) :: ws) ({ frames := 1, cells := 0, slots := 0, locals := 15 } : Room)) (fun a U => a = #[(.ref a1), (.ref a2), (.int (1 : Int32)), (.int (0 : Int32))] ∧ Z.Warmed39 U.vm ∧ U.heap = h0) (fun _ _ _ _ _ => True) (fun _ U o U' => ∃ v L, o = .returned v ∧ Qc410 Z a1 a2 ka kb x0 h0 n0 v U'.heap L ∧ FrameEnd U o U' L ({ frames := 1, cells := 0, slots := 0, locals := 15 } : Room).cells ({ frames := 1, cells := 0, slots := 0, locals := 15 } : Room).slots) := by
  refine MetFree.of_bodySF (plainFor_of_name pn_0) hisR ?_
  intro p e s m args below meth c s₁ Bd hml0 hP hK
  obtain ⟨rfl, hZ, hh⟩ := hP
  have hx := Bd.exec
  have hby := Bd.bytes
  have hml : c.maxLocals = 6 := hml0
  have hown : s.vm.findClass "java/lang/StringLatin1" = some m.cls := findClass_of_methodNamed Bd.named
  have hnm := (name_of_methodNamed Bd.named Bd.method).1
  have X0 : Stand p l e ({ frames := 1, cells := 0, slots := 0, locals := 15 } : Room) s m #[(.ref a1), (.ref a2), (.int (1 : Int32)), (.int (0 : Int32))] below meth c s₁ [] 0 0 := Stand.of_body Bd
  have e0 : s₁.heap = h0 := by rw [← hh, Bd.state]; rfl
  have N0 := Fr.nil n0
  show OGo p e below (fun s₂ o => ∃ v L, o = .returned v ∧ Qc410 Z a1 a2 ka kb x0 h0 n0 v s₂.heap L ∧ FrameEnd s o s₂ L ({ frames := 1, cells := 0, slots := 0, locals := 15 } : Room).cells ({ frames := 1, cells := 0, slots := 0, locals := 15 } : Room).slots) _
  refine OGo.to (fun _ k => castTop (ef_c410 m a1 a2 (1 : Int32) (0 : Int32)) k) ?_
  refine OGo.to (fun _ k => XS.iloadN X0.here hx rfl (hb hby d10_0) rfl k) ?_
  refine OGo.to (fun _ k => XS.iloadN X0.here hx rfl (hb hby d10_1) rfl k) ?_
  obtain ⟨_, T_1, Lc_1, X_1, hQ_1, st_1⟩ := own_un X0 (Q := Qmn10 Z  h0 n0) (rc := 0) (rs := 0) (W := fun v B => ∀ target, Steps p.tables e below (B.setTop { (mkF m 2 #[.val (.ref a1), .val (.ref a2), .val (.int (1 : Int32)), .val (.int (0 : Int32)), .unset, .unset] [(.int (0 : Int32)), (.int (1 : Int32))]) with pc := 5, stack := v.toList ++ [] }) target → Steps p.tables e below (s₁.setTop (mkF m 2 #[.val (.ref a1), .val (.ref a2), .val (.int (1 : Int32)), .val (.int (0 : Int32)), .unset, .unset] [(.int (0 : Int32)), (.int (1 : Int32))])) target) <| Jvm.LawKit.callS X0 hx (y := (⟨"java/lang/Math", "min", "(II)I"⟩ : MethodName)) hown (mvT hZ (hw _ (List.mem_of_getElem? (i := 54) rfl))) (mvT hZ (hw _ (List.mem_of_getElem? (i := 55) rfl))) (mvT hZ (hw _ (List.mem_of_getElem? (i := 56) rfl))) (mvT hZ (hw _ (List.mem_of_getElem? (i := 57) rfl))) (by decide) (backOf (W := 0) (rmmn10 l Z a0 hw []  h0 n0 Z0 ) hZ (hw _ (List.mem_of_getElem? (i := 57) rfl)) (hw _ (List.mem_of_getElem? (i := 56) rfl)) (by decide) (by decide)) (g := (mkF m 2 #[.val (.ref a1), .val (.ref a2), .val (.int (1 : Int32)), .val (.int (0 : Int32)), .unset, .unset] [(.int (0 : Int32)), (.int (1 : Int32))])) rfl (by rw [hml]; rfl) (argsL := [(.int (1 : Int32)), (.int (0 : Int32))]) (rest := []) (lenOf pd_9 rfl) rfl (by show 2 * 0 + _ ≤ _; exact Nat.le_of_eq rfl) (hb hby d10_2) (fun _ _ => ⟨rfl, e0, (by decide : 0 + 0 ≤ _), (by decide : 0 + 0 ≤ _)⟩)
  obtain ⟨rfl, N_1q, e_1⟩ := hQ_1
  have N_1 := Fr.app N0 N_1q
  refine OGo.to st_1 ?_
  show OGo p e below _ (T_1.setTop (mkF m 5 #[.val (.ref a1), .val (.ref a2), .val (.int (1 : Int32)), .val (.int (0 : Int32)), .unset, .unset] [(.int (0 : Int32))]))
  refine OGo.to (fun _ k => XS.istore X_1.here hx rfl (hb hby d10_5) rfl (l' := #[.val (.ref a1), .val (.ref a2), .val (.int (1 : Int32)), .val (.int (0 : Int32)), .val (.int (0 : Int32)), .unset]) rfl k) ?_
  refine OGo.to (fun _ k => XS.aloadN X_1.here hx rfl (hb hby d10_7) rfl rfl k) ?_
  refine OGo.to (fun _ k => XS.aloadN X_1.here hx rfl (hb hby d10_8) rfl rfl k) ?_
  refine OGo.to (fun _ k => XS.iload X_1.here hx rfl (hb hby d10_9) rfl k) ?_
  obtain ⟨_, T_2, Lc_2, X_2, hQ_2, st_2⟩ := own_un X_1 (Q := Qmm10 Z a1 a2 ka kb x0 h0 n0) (rc := 0) (rs := 0) (W := fun v B => ∀ target, Steps p.tables e below (B.setTop { (mkF m 11 #[.val (.ref a1), .val (.ref a2), .val (.int (1 : Int32)), .val (.int (0 : Int32)), .val (.int (0 : Int32)), .unset] [(.int (0 : Int32)), (.ref a2), (.ref a1)]) with pc := 14, stack := v.toList ++ [] }) target → Steps p.tables e below (T_1.setTop (mkF m 11 #[.val (.ref a1), .val (.ref a2), .val (.int (1 : Int32)), .val (.int (0 : Int32)), .val (.int (0 : Int32)), .unset] [(.int (0 : Int32)), (.ref a2), (.ref a1)])) target) <| Jvm.LawKit.callS X_1 hx (y := (⟨"jdk/internal/util/ArraysSupport", "mismatch", "([B[BI)I"⟩ : MethodName)) hown (mvT hZ (hw _ (List.mem_of_getElem? (i := 58) rfl))) (mvT hZ (hw _ (List.mem_of_getElem? (i := 59) rfl))) (mvT hZ (hw _ (List.mem_of_getElem? (i := 60) rfl))) (mvT hZ (hw _ (List.mem_of_getElem? (i := 61) rfl))) (by decide) (backOf (W := 0) (rmmm10 l Z a0 hw [] a1 a2 ka kb x0 h0 n0 Z0 VX VY) hZ (hw _ (List.mem_of_getElem? (i := 61) rfl)) (hw _ (List.mem_of_getElem? (i := 60) rfl)) (by decide) (by decide)) (g := (mkF m 11 #[.val (.ref a1), .val (.ref a2), .val (.int (1 : Int32)), .val (.int (0 : Int32)), .val (.int (0 : Int32)), .unset] [(.int (0 : Int32)), (.ref a2), (.ref a1)])) rfl (by rw [hml]; rfl) (argsL := [(.ref a1), (.ref a2), (.int (0 : Int32))]) (rest := []) (lenOf pd_10 rfl) rfl (by show 2 * 0 + _ ≤ _; exact Nat.le_of_eq rfl) (hb hby d10_11) (fun _ _ => ⟨rfl, e_1, (by decide : 0 + 0 ≤ _), (by decide : 0 + 0 ≤ _)⟩)
  obtain ⟨rfl, N_2q, e_2⟩ := hQ_2
  have N_2 := Fr.app N_1 N_2q
  refine OGo.to st_2 ?_
  show OGo p e below _ (T_2.setTop (mkF m 14 #[.val (.ref a1), .val (.ref a2), .val (.int (1 : Int32)), .val (.int (0 : Int32)), .val (.int (0 : Int32)), .unset] [(.int (-1 : Int32))]))
  refine OGo.to (fun _ k => XS.istore X_2.here hx rfl (hb hby d10_14) rfl (l' := #[.val (.ref a1), .val (.ref a2), .val (.int (1 : Int32)), .val (.int (0 : Int32)), .val (.int (0 : Int32)), .val (.int (-1 : Int32))]) rfl k) ?_
  refine OGo.to (fun _ k => XS.iload X_2.here hx rfl (hb hby d10_16) rfl k) ?_
  have hc18__3 : (-1 : Int32) < (0 : Int32) := by decide
  refine OGo.to (fun _ k => XS.ifNo X_2.here hx rfl (hb hby d10_18) rfl ((if0 _ _).trans (tlt hc18__3).2.1) k) ?_
  show OGo p e below _ (T_2.setTop (mkF m 21 #[.val (.ref a1), .val (.ref a2), .val (.int (1 : Int32)), .val (.int (0 : Int32)), .val (.int (0 : Int32)), .val (.int (-1 : Int32))] []))
  refine OGo.to (fun _ k => XS.iloadN X_2.here hx rfl (hb hby d10_21) rfl k) ?_
  refine OGo.to (fun _ k => XS.iloadN X_2.here hx rfl (hb hby d10_22) rfl k) ?_
  refine OGo.to (fun _ k => XS.isub X_2.here hx rfl (hb hby d10_23) rfl k) ?_
  refine OGo.to (fun _ k => XS.goto X_2.here hx rfl (pc0 := 24) (pc' := 40) rfl (hb hby d10_24) (by decide) (by decide) k) ?_
  refine OGo.ret (Q := Qc410 Z a1 a2 ka kb x0 h0 n0) X_2 (some (.int (1 : Int32))) (fun h => by rw [Bd.returns] at h; cases h) Bd.notSynchronized (fun fs hr => retI X_2 hx Bd.returns (hb hby d10_40) hr) ?_ (by decide) (by decide)
  show Qc410 Z a1 a2 ka kb x0 h0 n0 _ T_2.heap _
  rw [e_2]
  exact ⟨congrArg (fun z => some (Value.int z)) (show (1 : Int32) = (own_scmp [x0] []) from by show _ = own_i 1 - own_i 0; decide), N_2, rfl⟩
theorem ef_c210 (m : MethodId) (x0 : Addr) (x1 : Addr) : entryFrame m #[(.ref x0), (.ref x1)] 4 = mkF m 0 #[.val (.ref x0), .val (.ref x1), .unset, .unset] [] := by first | (simp [entryFrame, mkF, argsToLocals, Value.category]; done) | rfl
def Qc210 (Z : State) (a1 : Addr) (a2 : Addr) (ka : ClassId) (kb : ClassId) (x0 : Int32) (h0 : Heap) (n0 : Nat) (v : Option Value) (h : Heap) (L : List Loc) : Prop := v = some (.int (own_scmp [x0] [])) ∧ Fr n0 L ∧ h = h0
set_option maxRecDepth 65536 in
set_option maxHeartbeats 40000000 in
theorem rmc210 (l : Launch) (Z : State) (a0 : Array Value) (hw : ∀ d ∈ tables_1, d.before a0 Z = true) (ws : List Jvm.Cond) (a1 : Addr) (a2 : Addr) (ka : ClassId) (kb : ClassId) (x0 : Int32) (h0 : Heap) (n0 : Nat) (Z0 : n0 ≤ h0.size) (VX : Arv Z h0 a1 ka .byte (1 : Int32) [(.int x0)] (.int (0 : Int32))) (VY : Arv Z h0 a2 kb .byte (0 : Int32) [] (.int (0 : Int32))) :
    MetFree l (⟨"java/lang/StringLatin1", "compareTo", "([B[B)I"⟩ : MethodName) (head1 (Jvm.Cond.code (⟨"java/lang/StringLatin1", "compareTo", "([B[B)I"⟩ : MethodName) jdk_43_method_14_code 4 (some .int) :: ws) ({ frames := 2, cells := 0, slots := 0, locals := 32 } : Room)) (fun a U => a = #[(.ref a1), (.ref a2)] ∧ Z.Warmed39 U.vm ∧ U.heap = h0) (fun _ _ _ _ _ => True) (fun _ U o U' => ∃ v L, o = .returned v ∧ Qc210 Z a1 a2 ka kb x0 h0 n0 v U'.heap L ∧ FrameEnd U o U' L ({ frames := 2, cells := 0, slots := 0, locals := 32 } : Room).cells ({ frames := 2, cells := 0, slots := 0, locals := 32 } : Room).slots) := by
  refine MetFree.of_bodySF (plainFor_of_name pn_0) hisR ?_
  intro p e s m args below meth c s₁ Bd hml0 hP hK
  obtain ⟨rfl, hZ, hh⟩ := hP
  have hx := Bd.exec
  have hby := Bd.bytes
  have hml : c.maxLocals = 4 := hml0
  have hown : s.vm.findClass "java/lang/StringLatin1" = some m.cls := findClass_of_methodNamed Bd.named
  have hnm := (name_of_methodNamed Bd.named Bd.method).1
  have X0 : Stand p l e ({ frames := 2, cells := 0, slots := 0, locals := 32 } : Room) s m #[(.ref a1), (.ref a2)] below meth c s₁ [] 0 0 := Stand.of_body Bd
  have e0 : s₁.heap = h0 := by rw [← hh, Bd.state]; rfl
  have N0 := Fr.nil n0
  show OGo p e below (fun s₂ o => ∃ v L, o = .returned v ∧ Qc210 Z a1 a2 ka kb x0 h0 n0 v s₂.heap L ∧ FrameEnd s o s₂ L ({ frames := 2, cells := 0, slots := 0, locals := 32 } : Room).cells ({ frames := 2, cells := 0, slots := 0, locals := 32 } : Room).slots) _
  refine OGo.to (fun _ k => castTop (ef_c210 m a1 a2) k) ?_
  refine OGo.to (fun _ k => XS.aloadN X0.here hx rfl (hb hby d9_0) rfl rfl k) ?_
  have Vq_1 := VX
  obtain ⟨cl_1, Ar_1, q_1, S_1, M_1, Hs_1, G_1⟩ := Vq_1
  refine OGo.to (fun _ k => X0.arraylength hx (by rw [e0]; exact Ar_1.1) (State.isArrayOf_alike hZ.alike Ar_1.2.1) (g := (mkF m 1 #[.val (.ref a1), .val (.ref a2), .unset, .unset] [(.ref a1)])) rfl rfl (hb hby d9_1) _ k) ?_
  rw [len_of S_1 M_1]
  show OGo p e below _ (s₁.setTop (mkF m 2 #[.val (.ref a1), .val (.ref a2), .unset, .unset] [(.int (1 : Int32))]))
  refine OGo.to (fun _ k => XS.istoreN X0.here hx rfl (hb hby d9_2) rfl (l' := #[.val (.ref a1), .val (.ref a2), .val (.int (1 : Int32)), .unset]) rfl k) ?_
  refine OGo.to (fun _ k => XS.aloadN X0.here hx rfl (hb hby d9_3) rfl rfl k) ?_
  have Vq_2 := VY
  obtain ⟨cl_2, Ar_2, q_2, S_2, M_2, Hs_2, G_2⟩ := Vq_2
  refine OGo.to (fun _ k => X0.arraylength hx (by rw [e0]; exact Ar_2.1) (State.isArrayOf_alike hZ.alike Ar_2.2.1) (g := (mkF m 4 #[.val (.ref a1), .val (.ref a2), .val (.int (1 : Int32)), .unset] [(.ref a2)])) rfl rfl (hb hby d9_4) _ k) ?_
  rw [len_of S_2 M_2]
  show OGo p e below _ (s₁.setTop (mkF m 5 #[.val (.ref a1), .val (.ref a2), .val (.int (1 : Int32)), .unset] [(.int (0 : Int32))]))
  refine OGo.to (fun _ k => XS.istoreN X0.here hx rfl (hb hby d9_5) rfl (l' := #[.val (.ref a1), .val (.ref a2), .val (.int (1 : Int32)), .val (.int (0 : Int32))]) rfl k) ?_
  refine OGo.to (fun _ k => XS.aloadN X0.here hx rfl (hb hby d9_6) rfl rfl k) ?_
  refine OGo.to (fun _ k => XS.aloadN X0.here hx rfl (hb hby d9_7) rfl rfl k) ?_
  refine OGo.to (fun _ k => XS.iloadN X0.here hx rfl (hb hby d9_8) rfl k) ?_
  refine OGo.to (fun _ k => XS.iloadN X0.here hx rfl (hb hby d9_9) rfl k) ?_
  obtain ⟨_, T_3, Lc_3, X_3, hQ_3, st_3⟩ := own_un X0 (Q := Qc410 Z a1 a2 ka kb x0 h0 n0) (rc := 0) (rs := 0) (W := fun v B => ∀ target, Steps p.tables e below (B.setTop { (mkF m 10 #[.val (.ref a1), .val (.ref a2), .val (.int (1 : Int32)), .val (.int (0 : Int32))] [(.int (0 : Int32)), (.int (1 : Int32)), (.ref a2), (.ref a1)]) with pc := 13, stack := v.toList ++ [] }) target → Steps p.tables e below (s₁.setTop (mkF m 10 #[.val (.ref a1), .val (.ref a2), .val (.int (1 : Int32)), .val (.int (0 : Int32))] [(.int (0 : Int32)), (.int (1 : Int32)), (.ref a2), (.ref a1)])) target) <| Jvm.LawKit.callS X0 hx (y := (⟨"java/lang/StringLatin1", "compareTo", "([B[BII)I"⟩ : MethodName)) hown (mvT hZ (hw _ (List.mem_of_getElem? (i := 51) rfl))) (mvT hZ (hw _ (List.mem_of_getElem? (i := 52) rfl))) (mvT hZ (hw _ (List.mem_of_getElem? (i := 49) rfl))) (mvT hZ (hw _ (List.mem_of_getElem? (i := 53) rfl))) (by decide) (backOf (W := 0) (rmc410 l Z a0 hw [] a1 a2 ka kb x0 h0 n0 Z0 VX VY) hZ (hw _ (List.mem_of_getElem? (i := 53) rfl)) (hw _ (List.mem_of_getElem? (i := 49) rfl)) (by decide) (by decide)) (g := (mkF m 10 #[.val (.ref a1), .val (.ref a2), .val (.int (1 : Int32)), .val (.int (0 : Int32))] [(.int (0 : Int32)), (.int (1 : Int32)), (.ref a2), (.ref a1)])) rfl (by rw [hml]; rfl) (argsL := [(.ref a1), (.ref a2), (.int (1 : Int32)), (.int (0 : Int32))]) (rest := []) (lenOf pd_11 rfl) rfl (by show 2 * 0 + _ ≤ _; exact Nat.le_of_eq rfl) (hb hby d9_10) (fun _ _ => ⟨rfl, e0, (by decide : 0 + 0 ≤ _), (by decide : 0 + 0 ≤ _)⟩)
  obtain ⟨rfl, N_3q, e_3⟩ := hQ_3
  have N_3 := Fr.app N0 N_3q
  refine OGo.to st_3 ?_
  show OGo p e below _ (T_3.setTop (mkF m 13 #[.val (.ref a1), .val (.ref a2), .val (.int (1 : Int32)), .val (.int (0 : Int32))] [(.int (own_scmp [x0] []))]))
  refine OGo.ret (Q := Qc210 Z a1 a2 ka kb x0 h0 n0) X_3 (some (.int (own_scmp [x0] []))) (fun h => by rw [Bd.returns] at h; cases h) Bd.notSynchronized (fun fs hr => retI X_3 hx Bd.returns (hb hby d9_13) hr) ?_ (by decide) (by decide)
  show Qc210 Z a1 a2 ka kb x0 h0 n0 _ T_3.heap _
  rw [e_3]
  exact ⟨rfl, N_3, rfl⟩
theorem ef_eq10 (m : MethodId) (x0 : Addr) (x1 : Addr) : entryFrame m #[(.ref x0), (.ref x1)] 3 = mkF m 0 #[.val (.ref x0), .val (.ref x1), .unset] [] := by first | (simp [entryFrame, mkF, argsToLocals, Value.category]; done) | rfl
def Qeq10 (Z : State) (a1 : Addr) (a2 : Addr) (ka : ClassId) (kb : ClassId) (x0 : Int32) (h0 : Heap) (n0 : Nat) (v : Option Value) (h : Heap) (L : List Loc) : Prop := v = some (.int (own_seq [x0] [])) ∧ Fr n0 L ∧ h = h0
set_option maxRecDepth 65536 in
set_option maxHeartbeats 40000000 in
theorem rmeq10 (l : Launch) (Z : State) (a0 : Array Value) (hw : ∀ d ∈ tables_1, d.before a0 Z = true) (ws : List Jvm.Cond) (a1 : Addr) (a2 : Addr) (ka : ClassId) (kb : ClassId) (x0 : Int32) (h0 : Heap) (n0 : Nat) (Z0 : n0 ≤ h0.size) (VX : Arv Z h0 a1 ka .byte (1 : Int32) [(.int x0)] (.int (0 : Int32))) (VY : Arv Z h0 a2 kb .byte (0 : Int32) [] (.int (0 : Int32))) :
    MetFree l (⟨"java/lang/StringLatin1", "equals", "([B[B)Z"⟩ : MethodName) (head1 (Jvm.Cond.code (⟨"java/lang/StringLatin1", "equals", "([B[B)Z"⟩ : MethodName) jdk_43_method_13_code 3 (some .boolean) :: ws) ({ frames := 0, cells := 0, slots := 0, locals := 0 } : Room)) (fun a U => a = #[(.ref a1), (.ref a2)] ∧ Z.Warmed39 U.vm ∧ U.heap = h0) (fun _ _ _ _ _ => True) (fun _ U o U' => ∃ v L, o = .returned v ∧ Qeq10 Z a1 a2 ka kb x0 h0 n0 v U'.heap L ∧ FrameEnd U o U' L ({ frames := 0, cells := 0, slots := 0, locals := 0 } : Room).cells ({ frames := 0, cells := 0, slots := 0, locals := 0 } : Room).slots) := by
  refine MetFree.of_bodySF (plainFor_of_name pn_0) hisR ?_
  intro p e s m args below meth c s₁ Bd hml0 hP hK
  obtain ⟨rfl, hZ, hh⟩ := hP
  have hx := Bd.exec
  have hby := Bd.bytes
  have hml : c.maxLocals = 3 := hml0
  have hown : s.vm.findClass "java/lang/StringLatin1" = some m.cls := findClass_of_methodNamed Bd.named
  have hnm := (name_of_methodNamed Bd.named Bd.method).1
  have X0 : Stand p l e ({ frames := 0, cells := 0, slots := 0, locals := 0 } : Room) s m #[(.ref a1), (.ref a2)] below meth c s₁ [] 0 0 := Stand.of_body Bd
  have e0 : s₁.heap = h0 := by rw [← hh, Bd.state]; rfl
  have N0 := Fr.nil n0
  show OGo p e below (fun s₂ o => ∃ v L, o = .returned v ∧ Qeq10 Z a1 a2 ka kb x0 h0 n0 v s₂.heap L ∧ FrameEnd s o s₂ L ({ frames := 0, cells := 0, slots := 0, locals := 0 } : Room).cells ({ frames := 0, cells := 0, slots := 0, locals := 0 } : Room).slots) _
  refine OGo.to (fun _ k => castTop (ef_eq10 m a1 a2) k) ?_
  refine OGo.to (fun _ k => XS.aloadN X0.here hx rfl (hb hby d15_0) rfl rfl k) ?_
  have Vq_1 := VX
  obtain ⟨cl_1, Ar_1, q_1, S_1, M_1, Hs_1, G_1⟩ := Vq_1
  refine OGo.to (fun _ k => X0.arraylength hx (by rw [e0]; exact Ar_1.1) (State.isArrayOf_alike hZ.alike Ar_1.2.1) (g := (mkF m 1 #[.val (.ref a1), .val (.ref a2), .unset] [(.ref a1)])) rfl rfl (hb hby d15_1) _ k) ?_
  rw [len_of S_1 M_1]
  show OGo p e below _ (s₁.setTop (mkF m 2 #[.val (.ref a1), .val (.ref a2), .unset] [(.int (1 : Int32))]))
  refine OGo.to (fun _ k => XS.aloadN X0.here hx rfl (hb hby d15_2) rfl rfl k) ?_
  have Vq_2 := VY
  obtain ⟨cl_2, Ar_2, q_2, S_2, M_2, Hs_2, G_2⟩ := Vq_2
  refine OGo.to (fun _ k => X0.arraylength hx (by rw [e0]; exact Ar_2.1) (State.isArrayOf_alike hZ.alike Ar_2.2.1) (g := (mkF m 3 #[.val (.ref a1), .val (.ref a2), .unset] [(.ref a2), (.int (1 : Int32))])) rfl rfl (hb hby d15_3) _ k) ?_
  rw [len_of S_2 M_2]
  show OGo p e below _ (s₁.setTop (mkF m 4 #[.val (.ref a1), .val (.ref a2), .unset] [(.int (0 : Int32)), (.int (1 : Int32))]))
  have hc4__3 : ¬ ((1 : Int32) = (0 : Int32)) := by decide
  refine OGo.to (fun _ k => XS.icmpYes X0.here hx rfl (pc0 := 4) (pc' := 34) rfl (hb hby d15_4) rfl (feq hc4__3).2 (by decide) (by decide) k) ?_
  show OGo p e below _ (s₁.setTop (mkF m 34 #[.val (.ref a1), .val (.ref a2), .unset] []))
  refine OGo.to (fun _ k => XS.iconst X0.here hx rfl (hb hby d15_34) k) ?_
  refine OGo.ret (Q := Qeq10 Z a1 a2 ka kb x0 h0 n0) X0 (some (.int (0 : Int32))) (fun h => by rw [Bd.returns] at h; cases h) Bd.notSynchronized (fun fs hr => retN X0 hx (t := .boolean) (z := (0 : Int32)) Bd.returns (by simp) (hb hby d15_35) hr) ?_ (by decide) (by decide)
  show Qeq10 Z a1 a2 ka kb x0 h0 n0 _ s₁.heap _
  rw [e0]
  exact ⟨congrArg (fun z => some (Value.int z)) (show (0 : Int32) = (own_seq [x0] []) from own_seq_no (by simp [])), N0, rfl⟩
theorem ef_mn11 (m : MethodId) (x0 : Int32) (x1 : Int32) : entryFrame m #[(.int x0), (.int x1)] 2 = mkF m 0 #[.val (.int x0), .val (.int x1)] [] := by first | (simp [entryFrame, mkF, argsToLocals, Value.category]; done) | rfl
def Qmn11 (Z : State)  (h0 : Heap) (n0 : Nat) (v : Option Value) (h : Heap) (L : List Loc) : Prop := v = some (.int (1 : Int32)) ∧ Fr n0 L ∧ h = h0
set_option maxRecDepth 65536 in
set_option maxHeartbeats 40000000 in
theorem rmmn11 (l : Launch) (Z : State) (a0 : Array Value) (hw : ∀ d ∈ tables_1, d.before a0 Z = true) (ws : List Jvm.Cond)  (h0 : Heap) (n0 : Nat) (Z0 : n0 ≤ h0.size) :
    MetFree l (⟨"java/lang/Math", "min", "(II)I"⟩ : MethodName) (head1 (Jvm.Cond.code (⟨"java/lang/Math", "min", "(II)I"⟩ : MethodName) jdk_29_method_69_code 2 (some .int) :: ws) ({ frames := 0, cells := 0, slots := 0, locals := 0 } : Room)) (fun a U => a = #[(.int (1 : Int32)), (.int (1 : Int32))] ∧ Z.Warmed39 U.vm ∧ U.heap = h0) (fun _ _ _ _ _ => True) (fun _ U o U' => ∃ v L, o = .returned v ∧ Qmn11 Z  h0 n0 v U'.heap L ∧ FrameEnd U o U' L ({ frames := 0, cells := 0, slots := 0, locals := 0 } : Room).cells ({ frames := 0, cells := 0, slots := 0, locals := 0 } : Room).slots) := by
  refine MetFree.of_bodySF (Jvm.Free.JP.mathPlain rfl (by decide +kernel)) hisR ?_
  intro p e s m args below meth c s₁ Bd hml0 hP hK
  obtain ⟨rfl, hZ, hh⟩ := hP
  have hx := Bd.exec
  have hby := Bd.bytes
  have hml : c.maxLocals = 2 := hml0
  have hown : s.vm.findClass "java/lang/Math" = some m.cls := findClass_of_methodNamed Bd.named
  have hnm := (name_of_methodNamed Bd.named Bd.method).1
  have X0 : Stand p l e ({ frames := 0, cells := 0, slots := 0, locals := 0 } : Room) s m #[(.int (1 : Int32)), (.int (1 : Int32))] below meth c s₁ [] 0 0 := Stand.of_body Bd
  have e0 : s₁.heap = h0 := by rw [← hh, Bd.state]; rfl
  have N0 := Fr.nil n0
  show OGo p e below (fun s₂ o => ∃ v L, o = .returned v ∧ Qmn11 Z  h0 n0 v s₂.heap L ∧ FrameEnd s o s₂ L ({ frames := 0, cells := 0, slots := 0, locals := 0 } : Room).cells ({ frames := 0, cells := 0, slots := 0, locals := 0 } : Room).slots) _
  refine OGo.to (fun _ k => castTop (ef_mn11 m (1 : Int32) (1 : Int32)) k) ?_
  refine OGo.to (fun _ k => XS.iloadN X0.here hx rfl (hb hby d11_0) rfl k) ?_
  refine OGo.to (fun _ k => XS.iloadN X0.here hx rfl (hb hby d11_1) rfl k) ?_
  have hc2__1 : ¬ ((1 : Int32) < (1 : Int32)) := by decide
  refine OGo.to (fun _ k => XS.icmpNo X0.here hx rfl (hb hby d11_2) rfl (flt hc2__1).2.2.1 k) ?_
  show OGo p e below _ (s₁.setTop (mkF m 5 #[.val (.int (1 : Int32)), .val (.int (1 : Int32))] []))
  refine OGo.to (fun _ k => XS.iloadN X0.here hx rfl (hb hby d11_5) rfl k) ?_
  refine OGo.to (fun _ k => XS.goto X0.here hx rfl (pc0 := 6) (pc' := 10) rfl (hb hby d11_6) (by decide) (by decide) k) ?_
  refine OGo.ret (Q := Qmn11 Z  h0 n0) X0 (some (.int (1 : Int32))) (fun h => by rw [Bd.returns] at h; cases h) Bd.notSynchronized (fun fs hr => retI X0 hx Bd.returns (hb hby d11_10) hr) ?_ (by decide) (by decide)
  show Qmn11 Z  h0 n0 _ s₁.heap _
  rw [e0]
  exact ⟨rfl, N0, rfl⟩
theorem d12_54 : decode jdk_48_method_13_code 54 = .ok (.aload_n 0, 1) := by decide +kernel
theorem d12_55 : decode jdk_48_method_13_code 55 = .ok (.iload_n 3, 1) := by decide +kernel
theorem d12_56 : decode jdk_48_method_13_code 56 = .ok (.baload, 1) := by decide +kernel
theorem d12_57 : decode jdk_48_method_13_code 57 = .ok (.aload_n 1, 1) := by decide +kernel
theorem d12_58 : decode jdk_48_method_13_code 58 = .ok (.iload_n 3, 1) := by decide +kernel
theorem d12_59 : decode jdk_48_method_13_code 59 = .ok (.baload, 1) := by decide +kernel
theorem d12_60 : decode jdk_48_method_13_code 60 = .ok (.if_icmp .eq 5, 3) := by decide +kernel
theorem d12_63 : decode jdk_48_method_13_code 63 = .ok (.iload_n 3, 1) := by decide +kernel
theorem d12_64 : decode jdk_48_method_13_code 64 = .ok (.ireturn, 1) := by decide +kernel
theorem d12_65 : decode jdk_48_method_13_code 65 = .ok (.iinc 3 1, 3) := by decide +kernel
theorem d12_68 : decode jdk_48_method_13_code 68 = .ok (.goto (-19), 3) := by decide +kernel
theorem ef_mm11 (m : MethodId) (x0 : Addr) (x1 : Addr) (x2 : Int32) : entryFrame m #[(.ref x0), (.ref x1), (.int x2)] 4 = mkF m 0 #[.val (.ref x0), .val (.ref x1), .val (.int x2), .unset] [] := by first | (simp [entryFrame, mkF, argsToLocals, Value.category]; done) | rfl
def Qmm11 (Z : State) (a1 : Addr) (a2 : Addr) (ka : ClassId) (kb : ClassId) (x0 : Int32) (y0 : Int32) (h0 : Heap) (n0 : Nat) (v : Option Value) (h : Heap) (L : List Loc) : Prop := ∃ (r : Int32), v = some (.int r) ∧ Fr n0 L ∧ h = h0 ∧ ((x0 = y0 ∧ r = (-1 : Int32)) ∨ (¬ x0 = y0 ∧ r = (0 : Int32)))
set_option maxRecDepth 65536 in
set_option maxHeartbeats 40000000 in
theorem rmmm11 (l : Launch) (Z : State) (a0 : Array Value) (hw : ∀ d ∈ tables_1, d.before a0 Z = true) (ws : List Jvm.Cond) (a1 : Addr) (a2 : Addr) (ka : ClassId) (kb : ClassId) (x0 : Int32) (y0 : Int32) (h0 : Heap) (n0 : Nat) (Z0 : n0 ≤ h0.size) (VX : Arv Z h0 a1 ka .byte (1 : Int32) [(.int x0)] (.int (0 : Int32))) (VY : Arv Z h0 a2 kb .byte (1 : Int32) [(.int y0)] (.int (0 : Int32))) :
    MetFree l (⟨"jdk/internal/util/ArraysSupport", "mismatch", "([B[BI)I"⟩ : MethodName) (head1 (Jvm.Cond.code (⟨"jdk/internal/util/ArraysSupport", "mismatch", "([B[BI)I"⟩ : MethodName) jdk_48_method_13_code 4 (some .int) :: ws) ({ frames := 0, cells := 0, slots := 0, locals := 0 } : Room)) (fun a U => a = #[(.ref a1), (.ref a2), (.int (1 : Int32))] ∧ Z.Warmed39 U.vm ∧ U.heap = h0) (fun _ _ _ _ _ => True) (fun _ U o U' => ∃ v L, o = .returned v ∧ Qmm11 Z a1 a2 ka kb x0 y0 h0 n0 v U'.heap L ∧ FrameEnd U o U' L ({ frames := 0, cells := 0, slots := 0, locals := 0 } : Room).cells ({ frames := 0, cells := 0, slots := 0, locals := 0 } : Room).slots) := by
  refine MetFree.of_bodySF (plainFor_of_name pn_4) hisR ?_
  intro p e s m args below meth c s₁ Bd hml0 hP hK
  obtain ⟨rfl, hZ, hh⟩ := hP
  have hx := Bd.exec
  have hby := Bd.bytes
  have hml : c.maxLocals = 4 := hml0
  have hown : s.vm.findClass "jdk/internal/util/ArraysSupport" = some m.cls := findClass_of_methodNamed Bd.named
  have hnm := (name_of_methodNamed Bd.named Bd.method).1
  have X0 : Stand p l e ({ frames := 0, cells := 0, slots := 0, locals := 0 } : Room) s m #[(.ref a1), (.ref a2), (.int (1 : Int32))] below meth c s₁ [] 0 0 := Stand.of_body Bd
  have e0 : s₁.heap = h0 := by rw [← hh, Bd.state]; rfl
  have N0 := Fr.nil n0
  show OGo p e below (fun s₂ o => ∃ v L, o = .returned v ∧ Qmm11 Z a1 a2 ka kb x0 y0 h0 n0 v s₂.heap L ∧ FrameEnd s o s₂ L ({ frames := 0, cells := 0, slots := 0, locals := 0 } : Room).cells ({ frames := 0, cells := 0, slots := 0, locals := 0 } : Room).slots) _
  refine OGo.to (fun _ k => castTop (ef_mm11 m a1 a2 (1 : Int32)) k) ?_
  refine OGo.to (fun _ k => XS.iconst X0.here hx rfl (hb hby d12_0) k) ?_
  refine OGo.to (fun _ k => XS.istoreN X0.here hx rfl (hb hby d12_1) rfl (l' := #[.val (.ref a1), .val (.ref a2), .val (.int (1 : Int32)), .val (.int (0 : Int32))]) rfl k) ?_
  refine OGo.to (fun _ k => XS.iloadN X0.here hx rfl (hb hby d12_2) rfl k) ?_
  refine OGo.to (fun _ k => XS.bipush X0.here hx rfl (hb hby d12_3) k) ?_
  have hc5__1 : ¬ ((7 : Int32) < (1 : Int32)) := by decide
  refine OGo.to (fun _ k => XS.icmpYes X0.here hx rfl (pc0 := 5) (pc' := 49) rfl (hb hby d12_5) rfl (flt hc5__1).2.2.2 (by decide) (by decide) k) ?_
  show OGo p e below _ (s₁.setTop (mkF m 49 #[.val (.ref a1), .val (.ref a2), .val (.int (1 : Int32)), .val (.int (0 : Int32))] []))
  refine OGo.to (fun _ k => XS.iloadN X0.here hx rfl (hb hby d12_49) rfl k) ?_
  refine OGo.to (fun _ k => XS.iloadN X0.here hx rfl (hb hby d12_50) rfl k) ?_
  have hc51__2 : (0 : Int32) < (1 : Int32) := by decide
  refine OGo.to (fun _ k => XS.icmpNo X0.here hx rfl (hb hby d12_51) rfl (tlt hc51__2).2.1 k) ?_
  show OGo p e below _ (s₁.setTop (mkF m 54 #[.val (.ref a1), .val (.ref a2), .val (.int (1 : Int32)), .val (.int (0 : Int32))] []))
  refine OGo.to (fun _ k => XS.aloadN X0.here hx rfl (hb hby d12_54) rfl rfl k) ?_
  refine OGo.to (fun _ k => XS.iloadN X0.here hx rfl (hb hby d12_55) rfl k) ?_
  have Vq_3 := VX
  obtain ⟨cl_3, Ar_3, q_3, S_3, M_3, Hs_3, G_3⟩ := Vq_3
  have hin_4 : ¬ ((0 : Int32) < 0 ∨ cl_3.slots.size ≤ ((0 : Int32)).toNatClampNeg) := inb_of S_3 ⟨by decide, by decide⟩
  have hat_4 : cl_3.slots[((0 : Int32)).toNatClampNeg]? = some (.int x0) := Hs_3.at hin_4 (rfl)
  refine OGo.to (fun _ k => X0.baloadBytes hx (j := (0 : Int32)) (v := (.int x0)) (by rw [e0]; exact Ar_3.1) (State.isArrayOf_alike hZ.alike Ar_3.2.1) Ar_3.2.2 hin_4 hat_4 (g := (mkF m 56 #[.val (.ref a1), .val (.ref a2), .val (.int (1 : Int32)), .val (.int (0 : Int32))] [(.int (0 : Int32)), (.ref a1)])) rfl rfl (hb hby d12_56) _ k) ?_
  show OGo p e below _ (s₁.setTop (mkF m 57 #[.val (.ref a1), .val (.ref a2), .val (.int (1 : Int32)), .val (.int (0 : Int32))] [(.int x0)]))
  refine OGo.to (fun _ k => XS.aloadN X0.here hx rfl (hb hby d12_57) rfl rfl k) ?_
  refine OGo.to (fun _ k => XS.iloadN X0.here hx rfl (hb hby d12_58) rfl k) ?_
  have Vq_5 := VY
  obtain ⟨cl_5, Ar_5, q_5, S_5, M_5, Hs_5, G_5⟩ := Vq_5
  have hin_6 : ¬ ((0 : Int32) < 0 ∨ cl_5.slots.size ≤ ((0 : Int32)).toNatClampNeg) := inb_of S_5 ⟨by decide, by decide⟩
  have hat_6 : cl_5.slots[((0 : Int32)).toNatClampNeg]? = some (.int y0) := Hs_5.at hin_6 (rfl)
  refine OGo.to (fun _ k => X0.baloadBytes hx (j := (0 : Int32)) (v := (.int y0)) (by rw [e0]; exact Ar_5.1) (State.isArrayOf_alike hZ.alike Ar_5.2.1) Ar_5.2.2 hin_6 hat_6 (g := (mkF m 59 #[.val (.ref a1), .val (.ref a2), .val (.int (1 : Int32)), .val (.int (0 : Int32))] [(.int (0 : Int32)), (.ref a2), (.int x0)])) rfl rfl (hb hby d12_59) _ k) ?_
  show OGo p e below _ (s₁.setTop (mkF m 60 #[.val (.ref a1), .val (.ref a2), .val (.int (1 : Int32)), .val (.int (0 : Int32))] [(.int y0), (.int x0)]))
  by_cases hc60__7 : x0 = y0
  ·  -- pc 60: yes
    refine OGo.to (fun _ k => XS.icmpYes X0.here hx rfl (pc0 := 60) (pc' := 65) rfl (hb hby d12_60) rfl (teq hc60__7).1 (by decide) (by decide) k) ?_
    show OGo p e below _ (s₁.setTop (mkF m 65 #[.val (.ref a1), .val (.ref a2), .val (.int (1 : Int32)), .val (.int (0 : Int32))] []))
    refine OGo.to (fun _ k => XS.iinc X0.here hx rfl (hb hby d12_65) rfl (l' := #[.val (.ref a1), .val (.ref a2), .val (.int (1 : Int32)), .val (.int (1 : Int32))]) rfl k) ?_
    refine OGo.to (fun _ k => XS.goto X0.here hx rfl (pc0 := 68) (pc' := 49) rfl (hb hby d12_68) (by decide) (by decide) k) ?_
    refine OGo.to (fun _ k => XS.iloadN X0.here hx rfl (hb hby d12_49) rfl k) ?_
    refine OGo.to (fun _ k => XS.iloadN X0.here hx rfl (hb hby d12_50) rfl k) ?_
    have hc51__8 : ¬ ((1 : Int32) < (1 : Int32)) := by decide
    refine OGo.to (fun _ k => XS.icmpYes X0.here hx rfl (pc0 := 51) (pc' := 71) rfl (hb hby d12_51) rfl (flt hc51__8).2.1 (by decide) (by decide) k) ?_
    show OGo p e below _ (s₁.setTop (mkF m 71 #[.val (.ref a1), .val (.ref a2), .val (.int (1 : Int32)), .val (.int (1 : Int32))] []))
    refine OGo.to (fun _ k => XS.iconst X0.here hx rfl (hb hby d12_71) k) ?_
    show OGo p e below _ (s₁.setTop (mkF m 72 #[.val (.ref a1), .val (.ref a2), .val (.int (1 : Int32)), .val (.int (1 : Int32))] [(.int (-1 : Int32))]))
    refine OGo.ret (Q := Qmm11 Z a1 a2 ka kb x0 y0 h0 n0) X0 (some (.int (-1 : Int32))) (fun h => by rw [Bd.returns] at h; cases h) Bd.notSynchronized (fun fs hr => retI X0 hx Bd.returns (hb hby d12_72) hr) ?_ (by decide) (by decide)
    show Qmm11 Z a1 a2 ka kb x0 y0 h0 n0 _ s₁.heap _
    rw [e0]
    exact ⟨(-1 : Int32), rfl, N0, rfl, (Or.inl ⟨hc60__7, rfl⟩)⟩
  ·  -- pc 60: no
    refine OGo.to (fun _ k => XS.icmpNo X0.here hx rfl (hb hby d12_60) rfl (feq hc60__7).1 k) ?_
    show OGo p e below _ (s₁.setTop (mkF m 63 #[.val (.ref a1), .val (.ref a2), .val (.int (1 : Int32)), .val (.int (0 : Int32))] []))
    refine OGo.to (fun _ k => XS.iloadN X0.here hx rfl (hb hby d12_63) rfl k) ?_
    refine OGo.ret (Q := Qmm11 Z a1 a2 ka kb x0 y0 h0 n0) X0 (some (.int (0 : Int32))) (fun h => by rw [Bd.returns] at h; cases h) Bd.notSynchronized (fun fs hr => retI X0 hx Bd.returns (hb hby d12_64) hr) ?_ (by decide) (by decide)
    show Qmm11 Z a1 a2 ka kb x0 y0 h0 n0 _ s₁.heap _
    rw [e0]
    exact ⟨(0 : Int32), rfl, N0, rfl, (Or.inr ⟨hc60__7, rfl⟩)⟩
theorem d10_27 : decode jdk_43_method_15_code 27 = .ok (.aload_n 0, 1) := by decide +kernel
theorem d10_28 : decode jdk_43_method_15_code 28 = .ok (.iload 5, 2) := by decide +kernel
theorem d10_30 : decode jdk_43_method_15_code 30 = .ok (.invokestatic 50, 3) := by decide +kernel
theorem d10_33 : decode jdk_43_method_15_code 33 = .ok (.aload_n 1, 1) := by decide +kernel
theorem d10_34 : decode jdk_43_method_15_code 34 = .ok (.iload 5, 2) := by decide +kernel
theorem d10_36 : decode jdk_43_method_15_code 36 = .ok (.invokestatic 50, 3) := by decide +kernel
theorem d10_39 : decode jdk_43_method_15_code 39 = .ok (.isub, 1) := by decide +kernel
theorem ef_c411 (m : MethodId) (x0 : Addr) (x1 : Addr) (x2 : Int32) (x3 : Int32) : entryFrame m #[(.ref x0), (.ref x1), (.int x2), (.int x3)] 6 = mkF m 0 #[.val (.ref x0), .val (.ref x1), .val (.int x2), .val (.int x3), .unset, .unset] [] := by first | (simp [entryFrame, mkF, argsToLocals, Value.category]; done) | rfl
def Qc411 (Z : State) (a1 : Addr) (a2 : Addr) (ka : ClassId) (kb : ClassId) (x0 : Int32) (y0 : Int32) (h0 : Heap) (n0 : Nat) (v : Option Value) (h : Heap) (L : List Loc) : Prop := v = some (.int (own_scmp [x0] [y0])) ∧ Fr n0 L ∧ h = h0
set_option maxRecDepth 65536 in
set_option maxHeartbeats 40000000 in
theorem rmc411 (l : Launch) (Z : State) (a0 : Array Value) (hw : ∀ d ∈ tables_1, d.before a0 Z = true) (ws : List Jvm.Cond) (a1 : Addr) (a2 : Addr) (ka : ClassId) (kb : ClassId) (x0 : Int32) (y0 : Int32) (h0 : Heap) (n0 : Nat) (Z0 : n0 ≤ h0.size) (VX : Arv Z h0 a1 ka .byte (1 : Int32) [(.int x0)] (.int (0 : Int32))) (VY : Arv Z h0 a2 kb .byte (1 : Int32) [(.int y0)] (.int (0 : Int32))) :
    MetFree l (⟨"java/lang/StringLatin1", "compareTo", "([B[BII)I"⟩ : MethodName) (head1 (Jvm.Cond.code (⟨"java/lang/StringLatin1", "compareTo", "([B[BII)I"⟩ : MethodName) jdk_43_method_15_code 6 (some .int) :: ws) ({ frames := 1, cells := 0, slots := 0, locals := 15 } : Room)) (fun a U => a = #[(.ref a1), (.ref a2), (.int (1 : Int32)), (.int (1 : Int32))] ∧ Z.Warmed39 U.vm ∧ U.heap = h0) (fun _ _ _ _ _ => True) (fun _ U o U' => ∃ v L, o = .returned v ∧ Qc411 Z a1 a2 ka kb x0 y0 h0 n0 v U'.heap L ∧ FrameEnd U o U' L ({ frames := 1, cells := 0, slots := 0, locals := 15 } : Room).cells ({ frames := 1, cells := 0, slots := 0, locals := 15 } : Room).slots) := by
  refine MetFree.of_bodySF (plainFor_of_name pn_0) hisR ?_
  intro p e s m args below meth c s₁ Bd hml0 hP hK
  obtain ⟨rfl, hZ, hh⟩ := hP
  have hx := Bd.exec
  have hby := Bd.bytes
  have hml : c.maxLocals = 6 := hml0
  have hown : s.vm.findClass "java/lang/StringLatin1" = some m.cls := findClass_of_methodNamed Bd.named
  have hnm := (name_of_methodNamed Bd.named Bd.method).1
  have X0 : Stand p l e ({ frames := 1, cells := 0, slots := 0, locals := 15 } : Room) s m #[(.ref a1), (.ref a2), (.int (1 : Int32)), (.int (1 : Int32))] below meth c s₁ [] 0 0 := Stand.of_body Bd
  have e0 : s₁.heap = h0 := by rw [← hh, Bd.state]; rfl
  have N0 := Fr.nil n0
  show OGo p e below (fun s₂ o => ∃ v L, o = .returned v ∧ Qc411 Z a1 a2 ka kb x0 y0 h0 n0 v s₂.heap L ∧ FrameEnd s o s₂ L ({ frames := 1, cells := 0, slots := 0, locals := 15 } : Room).cells ({ frames := 1, cells := 0, slots := 0, locals := 15 } : Room).slots) _
  refine OGo.to (fun _ k => castTop (ef_c411 m a1 a2 (1 : Int32) (1 : Int32)) k) ?_
  refine OGo.to (fun _ k => XS.iloadN X0.here hx rfl (hb hby d10_0) rfl k) ?_
  refine OGo.to (fun _ k => XS.iloadN X0.here hx rfl (hb hby d10_1) rfl k) ?_
  obtain ⟨_, T_1, Lc_1, X_1, hQ_1, st_1⟩ := own_un X0 (Q := Qmn11 Z  h0 n0) (rc := 0) (rs := 0) (W := fun v B => ∀ target, Steps p.tables e below (B.setTop { (mkF m 2 #[.val (.ref a1), .val (.ref a2), .val (.int (1 : Int32)), .val (.int (1 : Int32)), .unset, .unset] [(.int (1 : Int32)), (.int (1 : Int32))]) with pc := 5, stack := v.toList ++ [] }) target → Steps p.tables e below (s₁.setTop (mkF m 2 #[.val (.ref a1), .val (.ref a2), .val (.int (1 : Int32)), .val (.int (1 : Int32)), .unset, .unset] [(.int (1 : Int32)), (.int (1 : Int32))])) target) <| Jvm.LawKit.callS X0 hx (y := (⟨"java/lang/Math", "min", "(II)I"⟩ : MethodName)) hown (mvT hZ (hw _ (List.mem_of_getElem? (i := 54) rfl))) (mvT hZ (hw _ (List.mem_of_getElem? (i := 55) rfl))) (mvT hZ (hw _ (List.mem_of_getElem? (i := 56) rfl))) (mvT hZ (hw _ (List.mem_of_getElem? (i := 57) rfl))) (by decide) (backOf (W := 0) (rmmn11 l Z a0 hw []  h0 n0 Z0 ) hZ (hw _ (List.mem_of_getElem? (i := 57) rfl)) (hw _ (List.mem_of_getElem? (i := 56) rfl)) (by decide) (by decide)) (g := (mkF m 2 #[.val (.ref a1), .val (.ref a2), .val (.int (1 : Int32)), .val (.int (1 : Int32)), .unset, .unset] [(.int (1 : Int32)), (.int (1 : Int32))])) rfl (by rw [hml]; rfl) (argsL := [(.int (1 : Int32)), (.int (1 : Int32))]) (rest := []) (lenOf pd_9 rfl) rfl (by show 2 * 0 + _ ≤ _; exact Nat.le_of_eq rfl) (hb hby d10_2) (fun _ _ => ⟨rfl, e0, (by decide : 0 + 0 ≤ _), (by decide : 0 + 0 ≤ _)⟩)
  obtain ⟨rfl, N_1q, e_1⟩ := hQ_1
  have N_1 := Fr.app N0 N_1q
  refine OGo.to st_1 ?_
  show OGo p e below _ (T_1.setTop (mkF m 5 #[.val (.ref a1), .val (.ref a2), .val (.int (1 : Int32)), .val (.int (1 : Int32)), .unset, .unset] [(.int (1 : Int32))]))
  refine OGo.to (fun _ k => XS.istore X_1.here hx rfl (hb hby d10_5) rfl (l' := #[.val (.ref a1), .val (.ref a2), .val (.int (1 : Int32)), .val (.int (1 : Int32)), .val (.int (1 : Int32)), .unset]) rfl k) ?_
  refine OGo.to (fun _ k => XS.aloadN X_1.here hx rfl (hb hby d10_7) rfl rfl k) ?_
  refine OGo.to (fun _ k => XS.aloadN X_1.here hx rfl (hb hby d10_8) rfl rfl k) ?_
  refine OGo.to (fun _ k => XS.iload X_1.here hx rfl (hb hby d10_9) rfl k) ?_
  obtain ⟨_, T_2, Lc_2, X_2, hQ_2, st_2⟩ := own_un X_1 (Q := Qmm11 Z a1 a2 ka kb x0 y0 h0 n0) (rc := 0) (rs := 0) (W := fun v B => ∀ target, Steps p.tables e below (B.setTop { (mkF m 11 #[.val (.ref a1), .val (.ref a2), .val (.int (1 : Int32)), .val (.int (1 : Int32)), .val (.int (1 : Int32)), .unset] [(.int (1 : Int32)), (.ref a2), (.ref a1)]) with pc := 14, stack := v.toList ++ [] }) target → Steps p.tables e below (T_1.setTop (mkF m 11 #[.val (.ref a1), .val (.ref a2), .val (.int (1 : Int32)), .val (.int (1 : Int32)), .val (.int (1 : Int32)), .unset] [(.int (1 : Int32)), (.ref a2), (.ref a1)])) target) <| Jvm.LawKit.callS X_1 hx (y := (⟨"jdk/internal/util/ArraysSupport", "mismatch", "([B[BI)I"⟩ : MethodName)) hown (mvT hZ (hw _ (List.mem_of_getElem? (i := 58) rfl))) (mvT hZ (hw _ (List.mem_of_getElem? (i := 59) rfl))) (mvT hZ (hw _ (List.mem_of_getElem? (i := 60) rfl))) (mvT hZ (hw _ (List.mem_of_getElem? (i := 61) rfl))) (by decide) (backOf (W := 0) (rmmm11 l Z a0 hw [] a1 a2 ka kb x0 y0 h0 n0 Z0 VX VY) hZ (hw _ (List.mem_of_getElem? (i := 61) rfl)) (hw _ (List.mem_of_getElem? (i := 60) rfl)) (by decide) (by decide)) (g := (mkF m 11 #[.val (.ref a1), .val (.ref a2), .val (.int (1 : Int32)), .val (.int (1 : Int32)), .val (.int (1 : Int32)), .unset] [(.int (1 : Int32)), (.ref a2), (.ref a1)])) rfl (by rw [hml]; rfl) (argsL := [(.ref a1), (.ref a2), (.int (1 : Int32))]) (rest := []) (lenOf pd_10 rfl) rfl (by show 2 * 0 + _ ≤ _; exact Nat.le_of_eq rfl) (hb hby d10_11) (fun _ _ => ⟨rfl, e_1, (by decide : 0 + 0 ≤ _), (by decide : 0 + 0 ≤ _)⟩)
  obtain ⟨r__2, rfl, N_2q, e_2, p_2_0⟩ := hQ_2
  have N_2 := Fr.app N_1 N_2q
  refine OGo.to st_2 ?_
  show OGo p e below _ (T_2.setTop (mkF m 14 #[.val (.ref a1), .val (.ref a2), .val (.int (1 : Int32)), .val (.int (1 : Int32)), .val (.int (1 : Int32)), .unset] [(.int r__2)]))
  rcases p_2_0 with ⟨q0, rfl⟩ | ⟨q0, rfl⟩
  ·
    show OGo p e below _ (T_2.setTop (mkF m 14 #[.val (.ref a1), .val (.ref a2), .val (.int (1 : Int32)), .val (.int (1 : Int32)), .val (.int (1 : Int32)), .unset] [(.int (-1 : Int32))]))
    refine OGo.to (fun _ k => XS.istore X_2.here hx rfl (hb hby d10_14) rfl (l' := #[.val (.ref a1), .val (.ref a2), .val (.int (1 : Int32)), .val (.int (1 : Int32)), .val (.int (1 : Int32)), .val (.int (-1 : Int32))]) rfl k) ?_
    refine OGo.to (fun _ k => XS.iload X_2.here hx rfl (hb hby d10_16) rfl k) ?_
    have hc18__3 : (-1 : Int32) < (0 : Int32) := by decide
    refine OGo.to (fun _ k => XS.ifNo X_2.here hx rfl (hb hby d10_18) rfl ((if0 _ _).trans (tlt hc18__3).2.1) k) ?_
    show OGo p e below _ (T_2.setTop (mkF m 21 #[.val (.ref a1), .val (.ref a2), .val (.int (1 : Int32)), .val (.int (1 : Int32)), .val (.int (1 : Int32)), .val (.int (-1 : Int32))] []))
    refine OGo.to (fun _ k => XS.iloadN X_2.here hx rfl (hb hby d10_21) rfl k) ?_
    refine OGo.to (fun _ k => XS.iloadN X_2.here hx rfl (hb hby d10_22) rfl k) ?_
    refine OGo.to (fun _ k => XS.isub X_2.here hx rfl (hb hby d10_23) rfl k) ?_
    refine OGo.to (fun _ k => XS.goto X_2.here hx rfl (pc0 := 24) (pc' := 40) rfl (hb hby d10_24) (by decide) (by decide) k) ?_
    refine OGo.ret (Q := Qc411 Z a1 a2 ka kb x0 y0 h0 n0) X_2 (some (.int (0 : Int32))) (fun h => by rw [Bd.returns] at h; cases h) Bd.notSynchronized (fun fs hr => retI X_2 hx Bd.returns (hb hby d10_40) hr) ?_ (by decide) (by decide)
    show Qc411 Z a1 a2 ka kb x0 y0 h0 n0 _ T_2.heap _
    rw [e_2]
    exact ⟨congrArg (fun z => some (Value.int z)) (show (0 : Int32) = (own_scmp [x0] [y0]) from by rw [own_scmp_cc, if_pos q0]; show _ = own_i 0 - own_i 0; decide), N_2, rfl⟩
  ·
    show OGo p e below _ (T_2.setTop (mkF m 14 #[.val (.ref a1), .val (.ref a2), .val (.int (1 : Int32)), .val (.int (1 : Int32)), .val (.int (1 : Int32)), .unset] [(.int (0 : Int32))]))
    refine OGo.to (fun _ k => XS.istore X_2.here hx rfl (hb hby d10_14) rfl (l' := #[.val (.ref a1), .val (.ref a2), .val (.int (1 : Int32)), .val (.int (1 : Int32)), .val (.int (1 : Int32)), .val (.int (0 : Int32))]) rfl k) ?_
    refine OGo.to (fun _ k => XS.iload X_2.here hx rfl (hb hby d10_16) rfl k) ?_
    have hc18__4 : ¬ ((0 : Int32) < (0 : Int32)) := by decide
    refine OGo.to (fun _ k => XS.ifYes X_2.here hx rfl (pc0 := 18) (pc' := 27) rfl (hb hby d10_18) rfl ((if0 _ _).trans (flt hc18__4).2.1) (by decide) (by decide) k) ?_
    show OGo p e below _ (T_2.setTop (mkF m 27 #[.val (.ref a1), .val (.ref a2), .val (.int (1 : Int32)), .val (.int (1 : Int32)), .val (.int (1 : Int32)), .val (.int (0 : Int32))] []))
    refine OGo.to (fun _ k => XS.aloadN X_2.here hx rfl (hb hby d10_27) rfl rfl k) ?_
    show OGo p e below _ (T_2.setTop (mkF m 28 #[.val (.ref a1), .val (.ref a2), .val (.int (1 : Int32)), .val (.int (1 : Int32)), .val (.int (1 : Int32)), .val (.int (0 : Int32))] [(.ref a1)]))
    refine OGo.to (fun _ k => XS.iload X_2.here hx rfl (hb hby d10_28) rfl k) ?_
    obtain ⟨_, T_5, Lc_5, X_5, hQ_5, st_5⟩ := own_un X_2 (Q := Qgc1_0 Z a1 ka x0 h0 n0) (rc := 0) (rs := 0) (W := fun v B => ∀ target, Steps p.tables e below (B.setTop { (mkF m 30 #[.val (.ref a1), .val (.ref a2), .val (.int (1 : Int32)), .val (.int (1 : Int32)), .val (.int (1 : Int32)), .val (.int (0 : Int32))] [(.int (0 : Int32)), (.ref a1)]) with pc := 33, stack := v.toList ++ [] }) target → Steps p.tables e below (T_2.setTop (mkF m 30 #[.val (.ref a1), .val (.ref a2), .val (.int (1 : Int32)), .val (.int (1 : Int32)), .val (.int (1 : Int32)), .val (.int (0 : Int32))] [(.int (0 : Int32)), (.ref a1)])) target) <| Jvm.LawKit.callS X_2 hx (y := (⟨"java/lang/StringLatin1", "getChar", "([BI)C"⟩ : MethodName)) hown (mvT hZ (hw _ (List.mem_of_getElem? (i := 105) rfl))) (mvT hZ (hw _ (List.mem_of_getElem? (i := 106) rfl))) (mvT hZ (hw _ (List.mem_of_getElem? (i := 49) rfl))) (mvT hZ (hw _ (List.mem_of_getElem? (i := 107) rfl))) (by decide) (backOf (W := 0) (rmgc1_0 l Z a0 hw [] a1 ka x0 h0 n0 Z0 VX) hZ (hw _ (List.mem_of_getElem? (i := 107) rfl)) (hw _ (List.mem_of_getElem? (i := 49) rfl)) (by decide) (by decide)) (g := (mkF m 30 #[.val (.ref a1), .val (.ref a2), .val (.int (1 : Int32)), .val (.int (1 : Int32)), .val (.int (1 : Int32)), .val (.int (0 : Int32))] [(.int (0 : Int32)), (.ref a1)])) rfl (by rw [hml]; rfl) (argsL := [(.ref a1), (.int (0 : Int32))]) (rest := []) (lenOf pd_12 rfl) rfl (by show 2 * 0 + _ ≤ _; exact Nat.le_of_eq rfl) (hb hby d10_30) (fun _ _ => ⟨rfl, e_2, (by decide : 0 + 0 ≤ _), (by decide : 0 + 0 ≤ _)⟩)
    obtain ⟨rfl, N_5q, e_5⟩ := hQ_5
    have N_5 := Fr.app N_2 N_5q
    refine OGo.to st_5 ?_
    show OGo p e below _ (T_5.setTop (mkF m 33 #[.val (.ref a1), .val (.ref a2), .val (.int (1 : Int32)), .val (.int (1 : Int32)), .val (.int (1 : Int32)), .val (.int (0 : Int32))] [(.int (own_gc x0))]))
    refine OGo.to (fun _ k => XS.aloadN X_5.here hx rfl (hb hby d10_33) rfl rfl k) ?_
    refine OGo.to (fun _ k => XS.iload X_5.here hx rfl (hb hby d10_34) rfl k) ?_
    obtain ⟨_, T_6, Lc_6, X_6, hQ_6, st_6⟩ := own_un X_5 (Q := Qgc1_0 Z a2 kb y0 h0 n0) (rc := 0) (rs := 0) (W := fun v B => ∀ target, Steps p.tables e below (B.setTop { (mkF m 36 #[.val (.ref a1), .val (.ref a2), .val (.int (1 : Int32)), .val (.int (1 : Int32)), .val (.int (1 : Int32)), .val (.int (0 : Int32))] [(.int (0 : Int32)), (.ref a2), (.int (own_gc x0))]) with pc := 39, stack := v.toList ++ [(.int (own_gc x0))] }) target → Steps p.tables e below (T_5.setTop (mkF m 36 #[.val (.ref a1), .val (.ref a2), .val (.int (1 : Int32)), .val (.int (1 : Int32)), .val (.int (1 : Int32)), .val (.int (0 : Int32))] [(.int (0 : Int32)), (.ref a2), (.int (own_gc x0))])) target) <| Jvm.LawKit.callS X_5 hx (y := (⟨"java/lang/StringLatin1", "getChar", "([BI)C"⟩ : MethodName)) hown (mvT hZ (hw _ (List.mem_of_getElem? (i := 105) rfl))) (mvT hZ (hw _ (List.mem_of_getElem? (i := 106) rfl))) (mvT hZ (hw _ (List.mem_of_getElem? (i := 49) rfl))) (mvT hZ (hw _ (List.mem_of_getElem? (i := 107) rfl))) (by decide) (backOf (W := 1) (rmgc1_0 l Z a0 hw [] a2 kb y0 h0 n0 Z0 VY) hZ (hw _ (List.mem_of_getElem? (i := 107) rfl)) (hw _ (List.mem_of_getElem? (i := 49) rfl)) (by decide) (by decide)) (g := (mkF m 36 #[.val (.ref a1), .val (.ref a2), .val (.int (1 : Int32)), .val (.int (1 : Int32)), .val (.int (1 : Int32)), .val (.int (0 : Int32))] [(.int (0 : Int32)), (.ref a2), (.int (own_gc x0))])) rfl (by rw [hml]; rfl) (argsL := [(.ref a2), (.int (0 : Int32))]) (rest := [(.int (own_gc x0))]) (lenOf pd_12 rfl) rfl (by show 2 * 0 + _ ≤ _; exact Nat.le_of_eq rfl) (hb hby d10_36) (fun _ _ => ⟨rfl, e_5, (by decide : 0 + 0 ≤ _), (by decide : 0 + 0 ≤ _)⟩)
    obtain ⟨rfl, N_6q, e_6⟩ := hQ_6
    have N_6 := Fr.app N_5 N_6q
    refine OGo.to st_6 ?_
    show OGo p e below _ (T_6.setTop (mkF m 39 #[.val (.ref a1), .val (.ref a2), .val (.int (1 : Int32)), .val (.int (1 : Int32)), .val (.int (1 : Int32)), .val (.int (0 : Int32))] [(.int (own_gc y0)), (.int (own_gc x0))]))
    refine OGo.to (fun _ k => XS.isub X_6.here hx rfl (hb hby d10_39) rfl k) ?_
    refine OGo.ret (Q := Qc411 Z a1 a2 ka kb x0 y0 h0 n0) X_6 (some (.int ((own_gc x0) - (own_gc y0)))) (fun h => by rw [Bd.returns] at h; cases h) Bd.notSynchronized (fun fs hr => retI X_6 hx Bd.returns (hb hby d10_40) hr) ?_ (by decide) (by decide)
    show Qc411 Z a1 a2 ka kb x0 y0 h0 n0 _ T_6.heap _
    rw [e_6]
    exact ⟨congrArg (fun z => some (Value.int z)) (show ((own_gc x0) - (own_gc y0)) = (own_scmp [x0] [y0]) from by rw [own_scmp_cc, if_neg q0]), N_6, rfl⟩
theorem ef_c211 (m : MethodId) (x0 : Addr) (x1 : Addr) : entryFrame m #[(.ref x0), (.ref x1)] 4 = mkF m 0 #[.val (.ref x0), .val (.ref x1), .unset, .unset] [] := by first | (simp [entryFrame, mkF, argsToLocals, Value.category]; done) | rfl
def Qc211 (Z : State) (a1 : Addr) (a2 : Addr) (ka : ClassId) (kb : ClassId) (x0 : Int32) (y0 : Int32) (h0 : Heap) (n0 : Nat) (v : Option Value) (h : Heap) (L : List Loc) : Prop := v = some (.int (own_scmp [x0] [y0])) ∧ Fr n0 L ∧ h = h0
set_option maxRecDepth 65536 in
set_option maxHeartbeats 40000000 in
theorem rmc211 (l : Launch) (Z : State) (a0 : Array Value) (hw : ∀ d ∈ tables_1, d.before a0 Z = true) (ws : List Jvm.Cond) (a1 : Addr) (a2 : Addr) (ka : ClassId) (kb : ClassId) (x0 : Int32) (y0 : Int32) (h0 : Heap) (n0 : Nat) (Z0 : n0 ≤ h0.size) (VX : Arv Z h0 a1 ka .byte (1 : Int32) [(.int x0)] (.int (0 : Int32))) (VY : Arv Z h0 a2 kb .byte (1 : Int32) [(.int y0)] (.int (0 : Int32))) :
    MetFree l (⟨"java/lang/StringLatin1", "compareTo", "([B[B)I"⟩ : MethodName) (head1 (Jvm.Cond.code (⟨"java/lang/StringLatin1", "compareTo", "([B[B)I"⟩ : MethodName) jdk_43_method_14_code 4 (some .int) :: ws) ({ frames := 2, cells := 0, slots := 0, locals := 32 } : Room)) (fun a U => a = #[(.ref a1), (.ref a2)] ∧ Z.Warmed39 U.vm ∧ U.heap = h0) (fun _ _ _ _ _ => True) (fun _ U o U' => ∃ v L, o = .returned v ∧ Qc211 Z a1 a2 ka kb x0 y0 h0 n0 v U'.heap L ∧ FrameEnd U o U' L ({ frames := 2, cells := 0, slots := 0, locals := 32 } : Room).cells ({ frames := 2, cells := 0, slots := 0, locals := 32 } : Room).slots) := by
  refine MetFree.of_bodySF (plainFor_of_name pn_0) hisR ?_
  intro p e s m args below meth c s₁ Bd hml0 hP hK
  obtain ⟨rfl, hZ, hh⟩ := hP
  have hx := Bd.exec
  have hby := Bd.bytes
  have hml : c.maxLocals = 4 := hml0
  have hown : s.vm.findClass "java/lang/StringLatin1" = some m.cls := findClass_of_methodNamed Bd.named
  have hnm := (name_of_methodNamed Bd.named Bd.method).1
  have X0 : Stand p l e ({ frames := 2, cells := 0, slots := 0, locals := 32 } : Room) s m #[(.ref a1), (.ref a2)] below meth c s₁ [] 0 0 := Stand.of_body Bd
  have e0 : s₁.heap = h0 := by rw [← hh, Bd.state]; rfl
  have N0 := Fr.nil n0
  show OGo p e below (fun s₂ o => ∃ v L, o = .returned v ∧ Qc211 Z a1 a2 ka kb x0 y0 h0 n0 v s₂.heap L ∧ FrameEnd s o s₂ L ({ frames := 2, cells := 0, slots := 0, locals := 32 } : Room).cells ({ frames := 2, cells := 0, slots := 0, locals := 32 } : Room).slots) _
  refine OGo.to (fun _ k => castTop (ef_c211 m a1 a2) k) ?_
  refine OGo.to (fun _ k => XS.aloadN X0.here hx rfl (hb hby d9_0) rfl rfl k) ?_
  have Vq_1 := VX
  obtain ⟨cl_1, Ar_1, q_1, S_1, M_1, Hs_1, G_1⟩ := Vq_1
  refine OGo.to (fun _ k => X0.arraylength hx (by rw [e0]; exact Ar_1.1) (State.isArrayOf_alike hZ.alike Ar_1.2.1) (g := (mkF m 1 #[.val (.ref a1), .val (.ref a2), .unset, .unset] [(.ref a1)])) rfl rfl (hb hby d9_1) _ k) ?_
  rw [len_of S_1 M_1]
  show OGo p e below _ (s₁.setTop (mkF m 2 #[.val (.ref a1), .val (.ref a2), .unset, .unset] [(.int (1 : Int32))]))
  refine OGo.to (fun _ k => XS.istoreN X0.here hx rfl (hb hby d9_2) rfl (l' := #[.val (.ref a1), .val (.ref a2), .val (.int (1 : Int32)), .unset]) rfl k) ?_
  refine OGo.to (fun _ k => XS.aloadN X0.here hx rfl (hb hby d9_3) rfl rfl k) ?_
  have Vq_2 := VY
  obtain ⟨cl_2, Ar_2, q_2, S_2, M_2, Hs_2, G_2⟩ := Vq_2
  refine OGo.to (fun _ k => X0.arraylength hx (by rw [e0]; exact Ar_2.1) (State.isArrayOf_alike hZ.alike Ar_2.2.1) (g := (mkF m 4 #[.val (.ref a1), .val (.ref a2), .val (.int (1 : Int32)), .unset] [(.ref a2)])) rfl rfl (hb hby d9_4) _ k) ?_
  rw [len_of S_2 M_2]
  show OGo p e below _ (s₁.setTop (mkF m 5 #[.val (.ref a1), .val (.ref a2), .val (.int (1 : Int32)), .unset] [(.int (1 : Int32))]))
  refine OGo.to (fun _ k => XS.istoreN X0.here hx rfl (hb hby d9_5) rfl (l' := #[.val (.ref a1), .val (.ref a2), .val (.int (1 : Int32)), .val (.int (1 : Int32))]) rfl k) ?_
  refine OGo.to (fun _ k => XS.aloadN X0.here hx rfl (hb hby d9_6) rfl rfl k) ?_
  refine OGo.to (fun _ k => XS.aloadN X0.here hx rfl (hb hby d9_7) rfl rfl k) ?_
  refine OGo.to (fun _ k => XS.iloadN X0.here hx rfl (hb hby d9_8) rfl k) ?_
  refine OGo.to (fun _ k => XS.iloadN X0.here hx rfl (hb hby d9_9) rfl k) ?_
  obtain ⟨_, T_3, Lc_3, X_3, hQ_3, st_3⟩ := own_un X0 (Q := Qc411 Z a1 a2 ka kb x0 y0 h0 n0) (rc := 0) (rs := 0) (W := fun v B => ∀ target, Steps p.tables e below (B.setTop { (mkF m 10 #[.val (.ref a1), .val (.ref a2), .val (.int (1 : Int32)), .val (.int (1 : Int32))] [(.int (1 : Int32)), (.int (1 : Int32)), (.ref a2), (.ref a1)]) with pc := 13, stack := v.toList ++ [] }) target → Steps p.tables e below (s₁.setTop (mkF m 10 #[.val (.ref a1), .val (.ref a2), .val (.int (1 : Int32)), .val (.int (1 : Int32))] [(.int (1 : Int32)), (.int (1 : Int32)), (.ref a2), (.ref a1)])) target) <| Jvm.LawKit.callS X0 hx (y := (⟨"java/lang/StringLatin1", "compareTo", "([B[BII)I"⟩ : MethodName)) hown (mvT hZ (hw _ (List.mem_of_getElem? (i := 51) rfl))) (mvT hZ (hw _ (List.mem_of_getElem? (i := 52) rfl))) (mvT hZ (hw _ (List.mem_of_getElem? (i := 49) rfl))) (mvT hZ (hw _ (List.mem_of_getElem? (i := 53) rfl))) (by decide) (backOf (W := 0) (rmc411 l Z a0 hw [] a1 a2 ka kb x0 y0 h0 n0 Z0 VX VY) hZ (hw _ (List.mem_of_getElem? (i := 53) rfl)) (hw _ (List.mem_of_getElem? (i := 49) rfl)) (by decide) (by decide)) (g := (mkF m 10 #[.val (.ref a1), .val (.ref a2), .val (.int (1 : Int32)), .val (.int (1 : Int32))] [(.int (1 : Int32)), (.int (1 : Int32)), (.ref a2), (.ref a1)])) rfl (by rw [hml]; rfl) (argsL := [(.ref a1), (.ref a2), (.int (1 : Int32)), (.int (1 : Int32))]) (rest := []) (lenOf pd_11 rfl) rfl (by show 2 * 0 + _ ≤ _; exact Nat.le_of_eq rfl) (hb hby d9_10) (fun _ _ => ⟨rfl, e0, (by decide : 0 + 0 ≤ _), (by decide : 0 + 0 ≤ _)⟩)
  obtain ⟨rfl, N_3q, e_3⟩ := hQ_3
  have N_3 := Fr.app N0 N_3q
  refine OGo.to st_3 ?_
  show OGo p e below _ (T_3.setTop (mkF m 13 #[.val (.ref a1), .val (.ref a2), .val (.int (1 : Int32)), .val (.int (1 : Int32))] [(.int (own_scmp [x0] [y0]))]))
  refine OGo.ret (Q := Qc211 Z a1 a2 ka kb x0 y0 h0 n0) X_3 (some (.int (own_scmp [x0] [y0]))) (fun h => by rw [Bd.returns] at h; cases h) Bd.notSynchronized (fun fs hr => retI X_3 hx Bd.returns (hb hby d9_13) hr) ?_ (by decide) (by decide)
  show Qc211 Z a1 a2 ka kb x0 y0 h0 n0 _ T_3.heap _
  rw [e_3]
  exact ⟨rfl, N_3, rfl⟩
theorem d15_15 : decode jdk_43_method_13_code 15 = .ok (.aload_n 0, 1) := by decide +kernel
theorem d15_16 : decode jdk_43_method_13_code 16 = .ok (.iload_n 2, 1) := by decide +kernel
theorem d15_17 : decode jdk_43_method_13_code 17 = .ok (.baload, 1) := by decide +kernel
theorem d15_18 : decode jdk_43_method_13_code 18 = .ok (.aload_n 1, 1) := by decide +kernel
theorem d15_19 : decode jdk_43_method_13_code 19 = .ok (.iload_n 2, 1) := by decide +kernel
theorem d15_20 : decode jdk_43_method_13_code 20 = .ok (.baload, 1) := by decide +kernel
theorem d15_21 : decode jdk_43_method_13_code 21 = .ok (.if_icmp .eq 5, 3) := by decide +kernel
theorem d15_24 : decode jdk_43_method_13_code 24 = .ok (.iconst 0, 1) := by decide +kernel
theorem d15_25 : decode jdk_43_method_13_code 25 = .ok (.ireturn, 1) := by decide +kernel
theorem d15_26 : decode jdk_43_method_13_code 26 = .ok (.iinc 2 1, 3) := by decide +kernel
theorem d15_29 : decode jdk_43_method_13_code 29 = .ok (.goto (-20), 3) := by decide +kernel
theorem ef_eq11 (m : MethodId) (x0 : Addr) (x1 : Addr) : entryFrame m #[(.ref x0), (.ref x1)] 3 = mkF m 0 #[.val (.ref x0), .val (.ref x1), .unset] [] := by first | (simp [entryFrame, mkF, argsToLocals, Value.category]; done) | rfl
def Qeq11 (Z : State) (a1 : Addr) (a2 : Addr) (ka : ClassId) (kb : ClassId) (x0 : Int32) (y0 : Int32) (h0 : Heap) (n0 : Nat) (v : Option Value) (h : Heap) (L : List Loc) : Prop := v = some (.int (own_seq [x0] [y0])) ∧ Fr n0 L ∧ h = h0
set_option maxRecDepth 65536 in
set_option maxHeartbeats 40000000 in
theorem rmeq11 (l : Launch) (Z : State) (a0 : Array Value) (hw : ∀ d ∈ tables_1, d.before a0 Z = true) (ws : List Jvm.Cond) (a1 : Addr) (a2 : Addr) (ka : ClassId) (kb : ClassId) (x0 : Int32) (y0 : Int32) (h0 : Heap) (n0 : Nat) (Z0 : n0 ≤ h0.size) (VX : Arv Z h0 a1 ka .byte (1 : Int32) [(.int x0)] (.int (0 : Int32))) (VY : Arv Z h0 a2 kb .byte (1 : Int32) [(.int y0)] (.int (0 : Int32))) :
    MetFree l (⟨"java/lang/StringLatin1", "equals", "([B[B)Z"⟩ : MethodName) (head1 (Jvm.Cond.code (⟨"java/lang/StringLatin1", "equals", "([B[B)Z"⟩ : MethodName) jdk_43_method_13_code 3 (some .boolean) :: ws) ({ frames := 0, cells := 0, slots := 0, locals := 0 } : Room)) (fun a U => a = #[(.ref a1), (.ref a2)] ∧ Z.Warmed39 U.vm ∧ U.heap = h0) (fun _ _ _ _ _ => True) (fun _ U o U' => ∃ v L, o = .returned v ∧ Qeq11 Z a1 a2 ka kb x0 y0 h0 n0 v U'.heap L ∧ FrameEnd U o U' L ({ frames := 0, cells := 0, slots := 0, locals := 0 } : Room).cells ({ frames := 0, cells := 0, slots := 0, locals := 0 } : Room).slots) := by
  refine MetFree.of_bodySF (plainFor_of_name pn_0) hisR ?_
  intro p e s m args below meth c s₁ Bd hml0 hP hK
  obtain ⟨rfl, hZ, hh⟩ := hP
  have hx := Bd.exec
  have hby := Bd.bytes
  have hml : c.maxLocals = 3 := hml0
  have hown : s.vm.findClass "java/lang/StringLatin1" = some m.cls := findClass_of_methodNamed Bd.named
  have hnm := (name_of_methodNamed Bd.named Bd.method).1
  have X0 : Stand p l e ({ frames := 0, cells := 0, slots := 0, locals := 0 } : Room) s m #[(.ref a1), (.ref a2)] below meth c s₁ [] 0 0 := Stand.of_body Bd
  have e0 : s₁.heap = h0 := by rw [← hh, Bd.state]; rfl
  have N0 := Fr.nil n0
  show OGo p e below (fun s₂ o => ∃ v L, o = .returned v ∧ Qeq11 Z a1 a2 ka kb x0 y0 h0 n0 v s₂.heap L ∧ FrameEnd s o s₂ L ({ frames := 0, cells := 0, slots := 0, locals := 0 } : Room).cells ({ frames := 0, cells := 0, slots := 0, locals := 0 } : Room).slots) _
  refine OGo.to (fun _ k => castTop (ef_eq11 m a1 a2) k) ?_
  refine OGo.to (fun _ k => XS.aloadN X0.here hx rfl (hb hby d15_0) rfl rfl k) ?_
  have Vq_1 := VX
  obtain ⟨cl_1, Ar_1, q_1, S_1, M_1, Hs_1, G_1⟩ := Vq_1
  refine OGo.to (fun _ k => X0.arraylength hx (by rw [e0]; exact Ar_1.1) (State.isArrayOf_alike hZ.alike Ar_1.2.1) (g := (mkF m 1 #[.val (.ref a1), .val (.ref a2), .unset] [(.ref a1)])) rfl rfl (hb hby d15_1) _ k) ?_
  rw [len_of S_1 M_1]
  show OGo p e below _ (s₁.setTop (mkF m 2 #[.val (.ref a1), .val (.ref a2), .unset] [(.int (1 : Int32))]))
  refine OGo.to (fun _ k => XS.aloadN X0.here hx rfl (hb hby d15_2) rfl rfl k) ?_
  have Vq_2 := VY
  obtain ⟨cl_2, Ar_2, q_2, S_2, M_2, Hs_2, G_2⟩ := Vq_2
  refine OGo.to (fun _ k => X0.arraylength hx (by rw [e0]; exact Ar_2.1) (State.isArrayOf_alike hZ.alike Ar_2.2.1) (g := (mkF m 3 #[.val (.ref a1), .val (.ref a2), .unset] [(.ref a2), (.int (1 : Int32))])) rfl rfl (hb hby d15_3) _ k) ?_
  rw [len_of S_2 M_2]
  show OGo p e below _ (s₁.setTop (mkF m 4 #[.val (.ref a1), .val (.ref a2), .unset] [(.int (1 : Int32)), (.int (1 : Int32))]))
  have hc4__3 : (1 : Int32) = (1 : Int32) := by decide
  refine OGo.to (fun _ k => XS.icmpNo X0.here hx rfl (hb hby d15_4) rfl (teq hc4__3).2 k) ?_
  show OGo p e below _ (s₁.setTop (mkF m 7 #[.val (.ref a1), .val (.ref a2), .unset] []))
  refine OGo.to (fun _ k => XS.iconst X0.here hx rfl (hb hby d15_7) k) ?_
  refine OGo.to (fun _ k => XS.istoreN X0.here hx rfl (hb hby d15_8) rfl (l' := #[.val (.ref a1), .val (.ref a2), .val (.int (0 : Int32))]) rfl k) ?_
  refine OGo.to (fun _ k => XS.iloadN X0.here hx rfl (hb hby d15_9) rfl k) ?_
  refine OGo.to (fun _ k => XS.aloadN X0.here hx rfl (hb hby d15_10) rfl rfl k) ?_
  have Vq_4 := VX
  obtain ⟨cl_4, Ar_4, q_4, S_4, M_4, Hs_4, G_4⟩ := Vq_4
  refine OGo.to (fun _ k => X0.arraylength hx (by rw [e0]; exact Ar_4.1) (State.isArrayOf_alike hZ.alike Ar_4.2.1) (g := (mkF m 11 #[.val (.ref a1), .val (.ref a2), .val (.int (0 : Int32))] [(.ref a1), (.int (0 : Int32))])) rfl rfl (hb hby d15_11) _ k) ?_
  rw [len_of S_4 M_4]
  show OGo p e below _ (s₁.setTop (mkF m 12 #[.val (.ref a1), .val (.ref a2), .val (.int (0 : Int32))] [(.int (1 : Int32)), (.int (0 : Int32))]))
  have hc12__5 : (0 : Int32) < (1 : Int32) := by decide
  refine OGo.to (fun _ k => XS.icmpNo X0.here hx rfl (hb hby d15_12) rfl (tlt hc12__5).2.1 k) ?_
  show OGo p e below _ (s₁.setTop (mkF m 15 #[.val (.ref a1), .val (.ref a2), .val (.int (0 : Int32))] []))
  refine OGo.to (fun _ k => XS.aloadN X0.here hx rfl (hb hby d15_15) rfl rfl k) ?_
  refine OGo.to (fun _ k => XS.iloadN X0.here hx rfl (hb hby d15_16) rfl k) ?_
  have Vq_6 := VX
  obtain ⟨cl_6, Ar_6, q_6, S_6, M_6, Hs_6, G_6⟩ := Vq_6
  have hin_7 : ¬ ((0 : Int32) < 0 ∨ cl_6.slots.size ≤ ((0 : Int32)).toNatClampNeg) := inb_of S_6 ⟨by decide, by decide⟩
  have hat_7 : cl_6.slots[((0 : Int32)).toNatClampNeg]? = some (.int x0) := Hs_6.at hin_7 (rfl)
  refine OGo.to (fun _ k => X0.baloadBytes hx (j := (0 : Int32)) (v := (.int x0)) (by rw [e0]; exact Ar_6.1) (State.isArrayOf_alike hZ.alike Ar_6.2.1) Ar_6.2.2 hin_7 hat_7 (g := (mkF m 17 #[.val (.ref a1), .val (.ref a2), .val (.int (0 : Int32))] [(.int (0 : Int32)), (.ref a1)])) rfl rfl (hb hby d15_17) _ k) ?_
  show OGo p e below _ (s₁.setTop (mkF m 18 #[.val (.ref a1), .val (.ref a2), .val (.int (0 : Int32))] [(.int x0)]))
  refine OGo.to (fun _ k => XS.aloadN X0.here hx rfl (hb hby d15_18) rfl rfl k) ?_
  refine OGo.to (fun _ k => XS.iloadN X0.here hx rfl (hb hby d15_19) rfl k) ?_
  have Vq_8 := VY
  obtain ⟨cl_8, Ar_8, q_8, S_8, M_8, Hs_8, G_8⟩ := Vq_8
  have hin_9 : ¬ ((0 : Int32) < 0 ∨ cl_8.slots.size ≤ ((0 : Int32)).toNatClampNeg) := inb_of S_8 ⟨by decide, by decide⟩
  have hat_9 : cl_8.slots[((0 : Int32)).toNatClampNeg]? = some (.int y0) := Hs_8.at hin_9 (rfl)
  refine OGo.to (fun _ k => X0.baloadBytes hx (j := (0 : Int32)) (v := (.int y0)) (by rw [e0]; exact Ar_8.1) (State.isArrayOf_alike hZ.alike Ar_8.2.1) Ar_8.2.2 hin_9 hat_9 (g := (mkF m 20 #[.val (.ref a1), .val (.ref a2), .val (.int (0 : Int32))] [(.int (0 : Int32)), (.ref a2), (.int x0)])) rfl rfl (hb hby d15_20) _ k) ?_
  show OGo p e below _ (s₁.setTop (mkF m 21 #[.val (.ref a1), .val (.ref a2), .val (.int (0 : Int32))] [(.int y0), (.int x0)]))
  by_cases hc21__10 : x0 = y0
  ·  -- pc 21: yes
    refine OGo.to (fun _ k => XS.icmpYes X0.here hx rfl (pc0 := 21) (pc' := 26) rfl (hb hby d15_21) rfl (teq hc21__10).1 (by decide) (by decide) k) ?_
    show OGo p e below _ (s₁.setTop (mkF m 26 #[.val (.ref a1), .val (.ref a2), .val (.int (0 : Int32))] []))
    refine OGo.to (fun _ k => XS.iinc X0.here hx rfl (hb hby d15_26) rfl (l' := #[.val (.ref a1), .val (.ref a2), .val (.int (1 : Int32))]) rfl k) ?_
    refine OGo.to (fun _ k => XS.goto X0.here hx rfl (pc0 := 29) (pc' := 9) rfl (hb hby d15_29) (by decide) (by decide) k) ?_
    refine OGo.to (fun _ k => XS.iloadN X0.here hx rfl (hb hby d15_9) rfl k) ?_
    refine OGo.to (fun _ k => XS.aloadN X0.here hx rfl (hb hby d15_10) rfl rfl k) ?_
    have Vq_11 := VX
    obtain ⟨cl_11, Ar_11, q_11, S_11, M_11, Hs_11, G_11⟩ := Vq_11
    refine OGo.to (fun _ k => X0.arraylength hx (by rw [e0]; exact Ar_11.1) (State.isArrayOf_alike hZ.alike Ar_11.2.1) (g := (mkF m 11 #[.val (.ref a1), .val (.ref a2), .val (.int (1 : Int32))] [(.ref a1), (.int (1 : Int32))])) rfl rfl (hb hby d15_11) _ k) ?_
    rw [len_of S_11 M_11]
    show OGo p e below _ (s₁.setTop (mkF m 12 #[.val (.ref a1), .val (.ref a2), .val (.int (1 : Int32))] [(.int (1 : Int32)), (.int (1 : Int32))]))
    have hc12__12 : ¬ ((1 : Int32) < (1 : Int32)) := by decide
    refine OGo.to (fun _ k => XS.icmpYes X0.here hx rfl (pc0 := 12) (pc' := 32) rfl (hb hby d15_12) rfl (flt hc12__12).2.1 (by decide) (by decide) k) ?_
    show OGo p e below _ (s₁.setTop (mkF m 32 #[.val (.ref a1), .val (.ref a2), .val (.int (1 : Int32))] []))
    refine OGo.to (fun _ k => XS.iconst X0.here hx rfl (hb hby d15_32) k) ?_
    show OGo p e below _ (s₁.setTop (mkF m 33 #[.val (.ref a1), .val (.ref a2), .val (.int (1 : Int32))] [(.int (1 : Int32))]))
    refine OGo.ret (Q := Qeq11 Z a1 a2 ka kb x0 y0 h0 n0) X0 (some (.int (1 : Int32))) (fun h => by rw [Bd.returns] at h; cases h) Bd.notSynchronized (fun fs hr => retN X0 hx (t := .boolean) (z := (1 : Int32)) Bd.returns (by simp) (hb hby d15_33) hr) ?_ (by decide) (by decide)
    show Qeq11 Z a1 a2 ka kb x0 y0 h0 n0 _ s₁.heap _
    rw [e0]
    exact ⟨congrArg (fun z => some (Value.int z)) (show (1 : Int32) = (own_seq [x0] [y0]) from own_seq_yes (by simp [hc21__10])), N0, rfl⟩
  ·  -- pc 21: no
    refine OGo.to (fun _ k => XS.icmpNo X0.here hx rfl (hb hby d15_21) rfl (feq hc21__10).1 k) ?_
    show OGo p e below _ (s₁.setTop (mkF m 24 #[.val (.ref a1), .val (.ref a2), .val (.int (0 : Int32))] []))
    refine OGo.to (fun _ k => XS.iconst X0.here hx rfl (hb hby d15_24) k) ?_
    refine OGo.ret (Q := Qeq11 Z a1 a2 ka kb x0 y0 h0 n0) X0 (some (.int (0 : Int32))) (fun h => by rw [Bd.returns] at h; cases h) Bd.notSynchronized (fun fs hr => retN X0 hx (t := .boolean) (z := (0 : Int32)) Bd.returns (by simp) (hb hby d15_25) hr) ?_ (by decide) (by decide)
    show Qeq11 Z a1 a2 ka kb x0 y0 h0 n0 _ s₁.heap _
    rw [e0]
    exact ⟨congrArg (fun z => some (Value.int z)) (show (0 : Int32) = (own_seq [x0] [y0]) from own_seq_no (by simp [hc21__10])), N0, rfl⟩
theorem ef_mn12 (m : MethodId) (x0 : Int32) (x1 : Int32) : entryFrame m #[(.int x0), (.int x1)] 2 = mkF m 0 #[.val (.int x0), .val (.int x1)] [] := by first | (simp [entryFrame, mkF, argsToLocals, Value.category]; done) | rfl
def Qmn12 (Z : State)  (h0 : Heap) (n0 : Nat) (v : Option Value) (h : Heap) (L : List Loc) : Prop := v = some (.int (1 : Int32)) ∧ Fr n0 L ∧ h = h0
set_option maxRecDepth 65536 in
set_option maxHeartbeats 40000000 in
theorem rmmn12 (l : Launch) (Z : State) (a0 : Array Value) (hw : ∀ d ∈ tables_1, d.before a0 Z = true) (ws : List Jvm.Cond)  (h0 : Heap) (n0 : Nat) (Z0 : n0 ≤ h0.size) :
    MetFree l (⟨"java/lang/Math", "min", "(II)I"⟩ : MethodName) (head1 (Jvm.Cond.code (⟨"java/lang/Math", "min", "(II)I"⟩ : MethodName) jdk_29_method_69_code 2 (some .int) :: ws) ({ frames := 0, cells := 0, slots := 0, locals := 0 } : Room)) (fun a U => a = #[(.int (1 : Int32)), (.int (2 : Int32))] ∧ Z.Warmed39 U.vm ∧ U.heap = h0) (fun _ _ _ _ _ => True) (fun _ U o U' => ∃ v L, o = .returned v ∧ Qmn12 Z  h0 n0 v U'.heap L ∧ FrameEnd U o U' L ({ frames := 0, cells := 0, slots := 0, locals := 0 } : Room).cells ({ frames := 0, cells := 0, slots := 0, locals := 0 } : Room).slots) := by
  refine MetFree.of_bodySF (Jvm.Free.JP.mathPlain rfl (by decide +kernel)) hisR ?_
  intro p e s m args below meth c s₁ Bd hml0 hP hK
  obtain ⟨rfl, hZ, hh⟩ := hP
  have hx := Bd.exec
  have hby := Bd.bytes
  have hml : c.maxLocals = 2 := hml0
  have hown : s.vm.findClass "java/lang/Math" = some m.cls := findClass_of_methodNamed Bd.named
  have hnm := (name_of_methodNamed Bd.named Bd.method).1
  have X0 : Stand p l e ({ frames := 0, cells := 0, slots := 0, locals := 0 } : Room) s m #[(.int (1 : Int32)), (.int (2 : Int32))] below meth c s₁ [] 0 0 := Stand.of_body Bd
  have e0 : s₁.heap = h0 := by rw [← hh, Bd.state]; rfl
  have N0 := Fr.nil n0
  show OGo p e below (fun s₂ o => ∃ v L, o = .returned v ∧ Qmn12 Z  h0 n0 v s₂.heap L ∧ FrameEnd s o s₂ L ({ frames := 0, cells := 0, slots := 0, locals := 0 } : Room).cells ({ frames := 0, cells := 0, slots := 0, locals := 0 } : Room).slots) _
  refine OGo.to (fun _ k => castTop (ef_mn12 m (1 : Int32) (2 : Int32)) k) ?_
  refine OGo.to (fun _ k => XS.iloadN X0.here hx rfl (hb hby d11_0) rfl k) ?_
  refine OGo.to (fun _ k => XS.iloadN X0.here hx rfl (hb hby d11_1) rfl k) ?_
  have hc2__1 : ¬ ((2 : Int32) < (1 : Int32)) := by decide
  refine OGo.to (fun _ k => XS.icmpNo X0.here hx rfl (hb hby d11_2) rfl (flt hc2__1).2.2.1 k) ?_
  show OGo p e below _ (s₁.setTop (mkF m 5 #[.val (.int (1 : Int32)), .val (.int (2 : Int32))] []))
  refine OGo.to (fun _ k => XS.iloadN X0.here hx rfl (hb hby d11_5) rfl k) ?_
  refine OGo.to (fun _ k => XS.goto X0.here hx rfl (pc0 := 6) (pc' := 10) rfl (hb hby d11_6) (by decide) (by decide) k) ?_
  refine OGo.ret (Q := Qmn12 Z  h0 n0) X0 (some (.int (1 : Int32))) (fun h => by rw [Bd.returns] at h; cases h) Bd.notSynchronized (fun fs hr => retI X0 hx Bd.returns (hb hby d11_10) hr) ?_ (by decide) (by decide)
  show Qmn12 Z  h0 n0 _ s₁.heap _
  rw [e0]
  exact ⟨rfl, N0, rfl⟩
theorem ef_mm12 (m : MethodId) (x0 : Addr) (x1 : Addr) (x2 : Int32) : entryFrame m #[(.ref x0), (.ref x1), (.int x2)] 4 = mkF m 0 #[.val (.ref x0), .val (.ref x1), .val (.int x2), .unset] [] := by first | (simp [entryFrame, mkF, argsToLocals, Value.category]; done) | rfl
def Qmm12 (Z : State) (a1 : Addr) (a2 : Addr) (ka : ClassId) (kb : ClassId) (x0 : Int32) (y0 : Int32) (y1 : Int32) (h0 : Heap) (n0 : Nat) (v : Option Value) (h : Heap) (L : List Loc) : Prop := ∃ (r : Int32), v = some (.int r) ∧ Fr n0 L ∧ h = h0 ∧ ((x0 = y0 ∧ r = (-1 : Int32)) ∨ (¬ x0 = y0 ∧ r = (0 : Int32)))
set_option maxRecDepth 65536 in
set_option maxHeartbeats 40000000 in
theorem rmmm12 (l : Launch) (Z : State) (a0 : Array Value) (hw : ∀ d ∈ tables_1, d.before a0 Z = true) (ws : List Jvm.Cond) (a1 : Addr) (a2 : Addr) (ka : ClassId) (kb : ClassId) (x0 : Int32) (y0 : Int32) (y1 : Int32) (h0 : Heap) (n0 : Nat) (Z0 : n0 ≤ h0.size) (VX : Arv Z h0 a1 ka .byte (1 : Int32) [(.int x0)] (.int (0 : Int32))) (VY : Arv Z h0 a2 kb .byte (2 : Int32) [(.int y0), (.int y1)] (.int (0 : Int32))) :
    MetFree l (⟨"jdk/internal/util/ArraysSupport", "mismatch", "([B[BI)I"⟩ : MethodName) (head1 (Jvm.Cond.code (⟨"jdk/internal/util/ArraysSupport", "mismatch", "([B[BI)I"⟩ : MethodName) jdk_48_method_13_code 4 (some .int) :: ws) ({ frames := 0, cells := 0, slots := 0, locals := 0 } : Room)) (fun a U => a = #[(.ref a1), (.ref a2), (.int (1 : Int32))] ∧ Z.Warmed39 U.vm ∧ U.heap = h0) (fun _ _ _ _ _ => True) (fun _ U o U' => ∃ v L, o = .returned v ∧ Qmm12 Z a1 a2 ka kb x0 y0 y1 h0 n0 v U'.heap L ∧ FrameEnd U o U' L ({ frames := 0, cells := 0, slots := 0, locals := 0 } : Room).cells ({ frames := 0, cells := 0, slots := 0, locals := 0 } : Room).slots) := by
  refine MetFree.of_bodySF (plainFor_of_name pn_4) hisR ?_
  intro p e s m args below meth c s₁ Bd hml0 hP hK
  obtain ⟨rfl, hZ, hh⟩ := hP
  have hx := Bd.exec
  have hby := Bd.bytes
  have hml : c.maxLocals = 4 := hml0
  have hown : s.vm.findClass "jdk/internal/util/ArraysSupport" = some m.cls := findClass_of_methodNamed Bd.named
  have hnm := (name_of_methodNamed Bd.named Bd.method).1
  have X0 : Stand p l e ({ frames := 0, cells := 0, slots := 0, locals := 0 } : Room) s m #[(.ref a1), (.ref a2), (.int (1 : Int32))] below meth c s₁ [] 0 0 := Stand.of_body Bd
  have e0 : s₁.heap = h0 := by rw [← hh, Bd.state]; rfl
  have N0 := Fr.nil n0
  show OGo p e below (fun s₂ o => ∃ v L, o = .returned v ∧ Qmm12 Z a1 a2 ka kb x0 y0 y1 h0 n0 v s₂.heap L ∧ FrameEnd s o s₂ L ({ frames := 0, cells := 0, slots := 0, locals := 0 } : Room).cells ({ frames := 0, cells := 0, slots := 0, locals := 0 } : Room).slots) _
  refine OGo.to (fun _ k => castTop (ef_mm12 m a1 a2 (1 : Int32)) k) ?_
  refine OGo.to (fun _ k => XS.iconst X0.here hx rfl (hb hby d12_0) k) ?_
  refine OGo.to (fun _ k => XS.istoreN X0.here hx rfl (hb hby d12_1) rfl (l' := #[.val (.ref a1), .val (.ref a2), .val (.int (1 : Int32)), .val (.int (0 : Int32))]) rfl k) ?_
  refine OGo.to (fun _ k => XS.iloadN X0.here hx rfl (hb hby d12_2) rfl k) ?_
  refine OGo.to (fun _ k => XS.bipush X0.here hx rfl (hb hby d12_3) k) ?_
  have hc5__1 : ¬ ((7 : Int32) < (1 : Int32)) := by decide
  refine OGo.to (fun _ k => XS.icmpYes X0.here hx rfl (pc0 := 5) (pc' := 49) rfl (hb hby d12_5) rfl (flt hc5__1).2.2.2 (by decide) (by decide) k) ?_
  show OGo p e below _ (s₁.setTop (mkF m 49 #[.val (.ref a1), .val (.ref a2), .val (.int (1 : Int32)), .val (.int (0 : Int32))] []))
  refine OGo.to (fun _ k => XS.iloadN X0.here hx rfl (hb hby d12_49) rfl k) ?_
  refine OGo.to (fun _ k => XS.iloadN X0.here hx rfl (hb hby d12_50) rfl k) ?_
  have hc51__2 : (0 : Int32) < (1 : Int32) := by decide
  refine OGo.to (fun _ k => XS.icmpNo X0.here hx rfl (hb hby d12_51) rfl (tlt hc51__2).2.1 k) ?_
  show OGo p e below _ (s₁.setTop (mkF m 54 #[.val (.ref a1), .val (.ref a2), .val (.int (1 : Int32)), .val (.int (0 : Int32))] []))
  refine OGo.to (fun _ k => XS.aloadN X0.here hx rfl (hb hby d12_54) rfl rfl k) ?_
  refine OGo.to (fun _ k => XS.iloadN X0.here hx rfl (hb hby d12_55) rfl k) ?_
  have Vq_3 := VX
  obtain ⟨cl_3, Ar_3, q_3, S_3, M_3, Hs_3, G_3⟩ := Vq_3
  have hin_4 : ¬ ((0 : Int32) < 0 ∨ cl_3.slots.size ≤ ((0 : Int32)).toNatClampNeg) := inb_of S_3 ⟨by decide, by decide⟩
  have hat_4 : cl_3.slots[((0 : Int32)).toNatClampNeg]? = some (.int x0) := Hs_3.at hin_4 (rfl)
  refine OGo.to (fun _ k => X0.baloadBytes hx (j := (0 : Int32)) (v := (.int x0)) (by rw [e0]; exact Ar_3.1) (State.isArrayOf_alike hZ.alike Ar_3.2.1) Ar_3.2.2 hin_4 hat_4 (g := (mkF m 56 #[.val (.ref a1), .val (.ref a2), .val (.int (1 : Int32)), .val (.int (0 : Int32))] [(.int (0 : Int32)), (.ref a1)])) rfl rfl (hb hby d12_56) _ k) ?_
  show OGo p e below _ (s₁.setTop (mkF m 57 #[.val (.ref a1), .val (.ref a2), .val (.int (1 : Int32)), .val (.int (0 : Int32))] [(.int x0)]))
  refine OGo.to (fun _ k => XS.aloadN X0.here hx rfl (hb hby d12_57) rfl rfl k) ?_
  refine OGo.to (fun _ k => XS.iloadN X0.here hx rfl (hb hby d12_58) rfl k) ?_
  have Vq_5 := VY
  obtain ⟨cl_5, Ar_5, q_5, S_5, M_5, Hs_5, G_5⟩ := Vq_5
  have hin_6 : ¬ ((0 : Int32) < 0 ∨ cl_5.slots.size ≤ ((0 : Int32)).toNatClampNeg) := inb_of S_5 ⟨by decide, by decide⟩
  have hat_6 : cl_5.slots[((0 : Int32)).toNatClampNeg]? = some (.int y0) := Hs_5.at hin_6 (rfl)
  refine OGo.to (fun _ k => X0.baloadBytes hx (j := (0 : Int32)) (v := (.int y0)) (by rw [e0]; exact Ar_5.1) (State.isArrayOf_alike hZ.alike Ar_5.2.1) Ar_5.2.2 hin_6 hat_6 (g := (mkF m 59 #[.val (.ref a1), .val (.ref a2), .val (.int (1 : Int32)), .val (.int (0 : Int32))] [(.int (0 : Int32)), (.ref a2), (.int x0)])) rfl rfl (hb hby d12_59) _ k) ?_
  show OGo p e below _ (s₁.setTop (mkF m 60 #[.val (.ref a1), .val (.ref a2), .val (.int (1 : Int32)), .val (.int (0 : Int32))] [(.int y0), (.int x0)]))
  by_cases hc60__7 : x0 = y0
  ·  -- pc 60: yes
    refine OGo.to (fun _ k => XS.icmpYes X0.here hx rfl (pc0 := 60) (pc' := 65) rfl (hb hby d12_60) rfl (teq hc60__7).1 (by decide) (by decide) k) ?_
    show OGo p e below _ (s₁.setTop (mkF m 65 #[.val (.ref a1), .val (.ref a2), .val (.int (1 : Int32)), .val (.int (0 : Int32))] []))
    refine OGo.to (fun _ k => XS.iinc X0.here hx rfl (hb hby d12_65) rfl (l' := #[.val (.ref a1), .val (.ref a2), .val (.int (1 : Int32)), .val (.int (1 : Int32))]) rfl k) ?_
    refine OGo.to (fun _ k => XS.goto X0.here hx rfl (pc0 := 68) (pc' := 49) rfl (hb hby d12_68) (by decide) (by decide) k) ?_
    refine OGo.to (fun _ k => XS.iloadN X0.here hx rfl (hb hby d12_49) rfl k) ?_
    refine OGo.to (fun _ k => XS.iloadN X0.here hx rfl (hb hby d12_50) rfl k) ?_
    have hc51__8 : ¬ ((1 : Int32) < (1 : Int32)) := by decide
    refine OGo.to (fun _ k => XS.icmpYes X0.here hx rfl (pc0 := 51) (pc' := 71) rfl (hb hby d12_51) rfl (flt hc51__8).2.1 (by decide) (by decide) k) ?_
    show OGo p e below _ (s₁.setTop (mkF m 71 #[.val (.ref a1), .val (.ref a2), .val (.int (1 : Int32)), .val (.int (1 : Int32))] []))
    refine OGo.to (fun _ k => XS.iconst X0.here hx rfl (hb hby d12_71) k) ?_
    show OGo p e below _ (s₁.setTop (mkF m 72 #[.val (.ref a1), .val (.ref a2), .val (.int (1 : Int32)), .val (.int (1 : Int32))] [(.int (-1 : Int32))]))
    refine OGo.ret (Q := Qmm12 Z a1 a2 ka kb x0 y0 y1 h0 n0) X0 (some (.int (-1 : Int32))) (fun h => by rw [Bd.returns] at h; cases h) Bd.notSynchronized (fun fs hr => retI X0 hx Bd.returns (hb hby d12_72) hr) ?_ (by decide) (by decide)
    show Qmm12 Z a1 a2 ka kb x0 y0 y1 h0 n0 _ s₁.heap _
    rw [e0]
    exact ⟨(-1 : Int32), rfl, N0, rfl, (Or.inl ⟨hc60__7, rfl⟩)⟩
  ·  -- pc 60: no
    refine OGo.to (fun _ k => XS.icmpNo X0.here hx rfl (hb hby d12_60) rfl (feq hc60__7).1 k) ?_
    show OGo p e below _ (s₁.setTop (mkF m 63 #[.val (.ref a1), .val (.ref a2), .val (.int (1 : Int32)), .val (.int (0 : Int32))] []))
    refine OGo.to (fun _ k => XS.iloadN X0.here hx rfl (hb hby d12_63) rfl k) ?_
    refine OGo.ret (Q := Qmm12 Z a1 a2 ka kb x0 y0 y1 h0 n0) X0 (some (.int (0 : Int32))) (fun h => by rw [Bd.returns] at h; cases h) Bd.notSynchronized (fun fs hr => retI X0 hx Bd.returns (hb hby d12_64) hr) ?_ (by decide) (by decide)
    show Qmm12 Z a1 a2 ka kb x0 y0 y1 h0 n0 _ s₁.heap _
    rw [e0]
    exact ⟨(0 : Int32), rfl, N0, rfl, (Or.inr ⟨hc60__7, rfl⟩)⟩
theorem ef_c412 (m : MethodId) (x0 : Addr) (x1 : Addr) (x2 : Int32) (x3 : Int32) : entryFrame m #[(.ref x0), (.ref x1), (.int x2), (.int x3)] 6 = mkF m 0 #[.val (.ref x0), .val (.ref x1), .val (.int x2), .val (.int x3), .unset, .unset] [] := by first | (simp [entryFrame, mkF, argsToLocals, Value.category]; done) | rfl
def Qc412 (Z : State) (a1 : Addr) (a2 : Addr) (ka : ClassId) (kb : ClassId) (x0 : Int32) (y0 : Int32) (y1 : Int32) (h0 : Heap) (n0 : Nat) (v : Option Value) (h : Heap) (L : List Loc) : Prop := v = some (.int (own_scmp [x0] [y0, y1])) ∧ Fr n0 L ∧ h = h0
set_option maxRecDepth 65536 in
set_option maxHeartbeats 40000000 in
theorem rmc412 (l : Launch) (Z : State) (a0 : Array Value) (hw : ∀ d ∈ tables_1, d.before a0 Z = true) (ws : List Jvm.Cond) (a1 : Addr) (a2 : Addr) (ka : ClassId) (kb : ClassId) (x0 : Int32) (y0 : Int32) (y1 : Int32) (h0 : Heap) (n0 : Nat) (Z0 : n0 ≤ h0.size) (VX : Arv Z h0 a1 ka .byte (1 : Int32) [(.int x0)] (.int (0 : Int32))) (VY : Arv Z h0 a2 kb .byte (2 : Int32) [(.int y0), (.int y1)] (.int (0 : Int32))) :
    MetFree l (⟨"java/lang/StringLatin1", "compareTo", "([B[BII)I"⟩ : MethodName) (head1 (Jvm.Cond.code (⟨"java/lang/StringLatin1", "compareTo", "([B[BII)I"⟩ : MethodName) jdk_43_method_15_code 6 (some .int) :: ws) ({ frames := 1, cells := 0, slots := 0, locals := 15 } : Room)) (fun a U => a = #[(.ref a1), (.ref a2), (.int (1 : Int32)), (.int (2 : Int32))] ∧ Z.Warmed39 U.vm ∧ U.heap = h0) (fun _ _ _ _ _ => True) (fun _ U o U' => ∃ v L, o = .returned v ∧ Qc412 Z a1 a2 ka kb x0 y0 y1 h0 n0 v U'.heap L ∧ FrameEnd U o U' L ({ frames := 1, cells := 0, slots := 0, locals := 15 } : Room).cells ({ frames := 1, cells := 0, slots := 0, locals := 15 } : Room).slots) := by
  refine MetFree.of_bodySF (plainFor_of_name pn_0) hisR ?_
  intro p e s m args below meth c s₁ Bd hml0 hP hK
  obtain ⟨rfl, hZ, hh⟩ := hP
  have hx := Bd.exec
  have hby := Bd.bytes
  have hml : c.maxLocals = 6 := hml0
  have hown : s.vm.findClass "java/lang/StringLatin1" = some m.cls := findClass_of_methodNamed Bd.named
  have hnm := (name_of_methodNamed Bd.named Bd.method).1
  have X0 : Stand p l e ({ frames := 1, cells := 0, slots := 0, locals := 15 } : Room) s m #[(.ref a1), (.ref a2), (.int (1 : Int32)), (.int (2 : Int32))] below meth c s₁ [] 0 0 := Stand.of_body Bd
  have e0 : s₁.heap = h0 := by rw [← hh, Bd.state]; rfl
  have N0 := Fr.nil n0
  show OGo p e below (fun s₂ o => ∃ v L, o = .returned v ∧ Qc412 Z a1 a2 ka kb x0 y0 y1 h0 n0 v s₂.heap L ∧ FrameEnd s o s₂ L ({ frames := 1, cells := 0, slots := 0, locals := 15 } : Room).cells ({ frames := 1, cells := 0, slots := 0, locals := 15 } : Room).slots) _
  refine OGo.to (fun _ k => castTop (ef_c412 m a1 a2 (1 : Int32) (2 : Int32)) k) ?_
  refine OGo.to (fun _ k => XS.iloadN X0.here hx rfl (hb hby d10_0) rfl k) ?_
  refine OGo.to (fun _ k => XS.iloadN X0.here hx rfl (hb hby d10_1) rfl k) ?_
  obtain ⟨_, T_1, Lc_1, X_1, hQ_1, st_1⟩ := own_un X0 (Q := Qmn12 Z  h0 n0) (rc := 0) (rs := 0) (W := fun v B => ∀ target, Steps p.tables e below (B.setTop { (mkF m 2 #[.val (.ref a1), .val (.ref a2), .val (.int (1 : Int32)), .val (.int (2 : Int32)), .unset, .unset] [(.int (2 : Int32)), (.int (1 : Int32))]) with pc := 5, stack := v.toList ++ [] }) target → Steps p.tables e below (s₁.setTop (mkF m 2 #[.val (.ref a1), .val (.ref a2), .val (.int (1 : Int32)), .val (.int (2 : Int32)), .unset, .unset] [(.int (2 : Int32)), (.int (1 : Int32))])) target) <| Jvm.LawKit.callS X0 hx (y := (⟨"java/lang/Math", "min", "(II)I"⟩ : MethodName)) hown (mvT hZ (hw _ (List.mem_of_getElem? (i := 54) rfl))) (mvT hZ (hw _ (List.mem_of_getElem? (i := 55) rfl))) (mvT hZ (hw _ (List.mem_of_getElem? (i := 56) rfl))) (mvT hZ (hw _ (List.mem_of_getElem? (i := 57) rfl))) (by decide) (backOf (W := 0) (rmmn12 l Z a0 hw []  h0 n0 Z0 ) hZ (hw _ (List.mem_of_getElem? (i := 57) rfl)) (hw _ (List.mem_of_getElem? (i := 56) rfl)) (by decide) (by decide)) (g := (mkF m 2 #[.val (.ref a1), .val (.ref a2), .val (.int (1 : Int32)), .val (.int (2 : Int32)), .unset, .unset] [(.int (2 : Int32)), (.int (1 : Int32))])) rfl (by rw [hml]; rfl) (argsL := [(.int (1 : Int32)), (.int (2 : Int32))]) (rest := []) (lenOf pd_9 rfl) rfl (by show 2 * 0 + _ ≤ _; exact Nat.le_of_eq rfl) (hb hby d10_2) (fun _ _ => ⟨rfl, e0, (by decide : 0 + 0 ≤ _), (by decide : 0 + 0 ≤ _)⟩)
  obtain ⟨rfl, N_1q, e_1⟩ := hQ_1
  have N_1 := Fr.app N0 N_1q
  refine OGo.to st_1 ?_
  show OGo p e below _ (T_1.setTop (mkF m 5 #[.val (.ref a1), .val (.ref a2), .val (.int (1 : Int32)), .val (.int (2 : Int32)), .unset, .unset] [(.int (1 : Int32))]))
  refine OGo.to (fun _ k => XS.istore X_1.here hx rfl (hb hby d10_5) rfl (l' := #[.val (.ref a1), .val (.ref a2), .val (.int (1 : Int32)), .val (.int (2 : Int32)), .val (.int (1 : Int32)), .unset]) rfl k) ?_
  refine OGo.to (fun _ k => XS.aloadN X_1.here hx rfl (hb hby d10_7) rfl rfl k) ?_
  refine OGo.to (fun _ k => XS.aloadN X_1.here hx rfl (hb hby d10_8) rfl rfl k) ?_
  refine OGo.to (fun _ k => XS.iload X_1.here hx rfl (hb hby d10_9) rfl k) ?_
  obtain ⟨_, T_2, Lc_2, X_2, hQ_2, st_2⟩ := own_un X_1 (Q := Qmm12 Z a1 a2 ka kb x0 y0 y1 h0 n0) (rc := 0) (rs := 0) (W := fun v B => ∀ target, Steps p.tables e below (B.setTop { (mkF m 11 #[.val (.ref a1), .val (.ref a2), .val (.int (1 : Int32)), .val (.int (2 : Int32)), .val (.int (1 : Int32)), .unset] [(.int (1 : Int32)), (.ref a2), (.ref a1)]) with pc := 14, stack := v.toList ++ [] }) target → Steps p.tables e below (T_1.setTop (mkF m 11 #[.val (.ref a1), .val (.ref a2), .val (.int (1 : Int32)), .val (.int (2 : Int32)), .val (.int (1 : Int32)), .unset] [(.int (1 : Int32)), (.ref a2), (.ref a1)])) target) <| Jvm.LawKit.callS X_1 hx (y := (⟨"jdk/internal/util/ArraysSupport", "mismatch", "([B[BI)I"⟩ : MethodName)) hown (mvT hZ (hw _ (List.mem_of_getElem? (i := 58) rfl))) (mvT hZ (hw _ (List.mem_of_getElem? (i := 59) rfl))) (mvT hZ (hw _ (List.mem_of_getElem? (i := 60) rfl))) (mvT hZ (hw _ (List.mem_of_getElem? (i := 61) rfl))) (by decide) (backOf (W := 0) (rmmm12 l Z a0 hw [] a1 a2 ka kb x0 y0 y1 h0 n0 Z0 VX VY) hZ (hw _ (List.mem_of_getElem? (i := 61) rfl)) (hw _ (List.mem_of_getElem? (i := 60) rfl)) (by decide) (by decide)) (g := (mkF m 11 #[.val (.ref a1), .val (.ref a2), .val (.int (1 : Int32)), .val (.int (2 : Int32)), .val (.int (1 : Int32)), .unset] [(.int (1 : Int32)), (.ref a2), (.ref a1)])) rfl (by rw [hml]; rfl) (argsL := [(.ref a1), (.ref a2), (.int (1 : Int32))]) (rest := []) (lenOf pd_10 rfl) rfl (by show 2 * 0 + _ ≤ _; exact Nat.le_of_eq rfl) (hb hby d10_11) (fun _ _ => ⟨rfl, e_1, (by decide : 0 + 0 ≤ _), (by decide : 0 + 0 ≤ _)⟩)
  obtain ⟨r__2, rfl, N_2q, e_2, p_2_0⟩ := hQ_2
  have N_2 := Fr.app N_1 N_2q
  refine OGo.to st_2 ?_
  show OGo p e below _ (T_2.setTop (mkF m 14 #[.val (.ref a1), .val (.ref a2), .val (.int (1 : Int32)), .val (.int (2 : Int32)), .val (.int (1 : Int32)), .unset] [(.int r__2)]))
  rcases p_2_0 with ⟨q0, rfl⟩ | ⟨q0, rfl⟩
  ·
    show OGo p e below _ (T_2.setTop (mkF m 14 #[.val (.ref a1), .val (.ref a2), .val (.int (1 : Int32)), .val (.int (2 : Int32)), .val (.int (1 : Int32)), .unset] [(.int (-1 : Int32))]))
    refine OGo.to (fun _ k => XS.istore X_2.here hx rfl (hb hby d10_14) rfl (l' := #[.val (.ref a1), .val (.ref a2), .val (.int (1 : Int32)), .val (.int (2 : Int32)), .val (.int (1 : Int32)), .val (.int (-1 : Int32))]) rfl k) ?_
    refine OGo.to (fun _ k => XS.iload X_2.here hx rfl (hb hby d10_16) rfl k) ?_
    have hc18__3 : (-1 : Int32) < (0 : Int32) := by decide
    refine OGo.to (fun _ k => XS.ifNo X_2.here hx rfl (hb hby d10_18) rfl ((if0 _ _).trans (tlt hc18__3).2.1) k) ?_
    show OGo p e below _ (T_2.setTop (mkF m 21 #[.val (.ref a1), .val (.ref a2), .val (.int (1 : Int32)), .val (.int (2 : Int32)), .val (.int (1 : Int32)), .val (.int (-1 : Int32))] []))
    refine OGo.to (fun _ k => XS.iloadN X_2.here hx rfl (hb hby d10_21) rfl k) ?_
    refine OGo.to (fun _ k => XS.iloadN X_2.here hx rfl (hb hby d10_22) rfl k) ?_
    refine OGo.to (fun _ k => XS.isub X_2.here hx rfl (hb hby d10_23) rfl k) ?_
    refine OGo.to (fun _ k => XS.goto X_2.here hx rfl (pc0 := 24) (pc' := 40) rfl (hb hby d10_24) (by decide) (by decide) k) ?_
    refine OGo.ret (Q := Qc412 Z a1 a2 ka kb x0 y0 y1 h0 n0) X_2 (some (.int (-1 : Int32))) (fun h => by rw [Bd.returns] at h; cases h) Bd.notSynchronized (fun fs hr => retI X_2 hx Bd.returns (hb hby d10_40) hr) ?_ (by decide) (by decide)
    show Qc412 Z a1 a2 ka kb x0 y0 y1 h0 n0 _ T_2.heap _
    rw [e_2]
    exact ⟨congrArg (fun z => some (Value.int z)) (show (-1 : Int32) = (own_scmp [x0] [y0, y1]) from by rw [own_scmp_cc, if_pos q0]; show _ = own_i 0 - own_i 1; decide), N_2, rfl⟩
  ·
    show OGo p e below _ (T_2.setTop (mkF m 14 #[.val (.ref a1), .val (.ref a2), .val (.int (1 : Int32)), .val (.int (2 : Int32)), .val (.int (1 : Int32)), .unset] [(.int (0 : Int32))]))
    refine OGo.to (fun _ k => XS.istore X_2.here hx rfl (hb hby d10_14) rfl (l' := #[.val (.ref a1), .val (.ref a2), .val (.int (1 : Int32)), .val (.int (2 : Int32)), .val (.int (1 : Int32)), .val (.int (0 : Int32))]) rfl k) ?_
    refine OGo.to (fun _ k => XS.iload X_2.here hx rfl (hb hby d10_16) rfl k) ?_
    have hc18__4 : ¬ ((0 : Int32) < (0 : Int32)) := by decide
    refine OGo.to (fun _ k => XS.ifYes X_2.here hx rfl (pc0 := 18) (pc' := 27) rfl (hb hby d10_18) rfl ((if0 _ _).trans (flt hc18__4).2.1) (by decide) (by decide) k) ?_
    show OGo p e below _ (T_2.setTop (mkF m 27 #[.val (.ref a1), .val (.ref a2), .val (.int (1 : Int32)), .val (.int (2 : Int32)), .val (.int (1 : Int32)), .val (.int (0 : Int32))] []))
    refine OGo.to (fun _ k => XS.aloadN X_2.here hx rfl (hb hby d10_27) rfl rfl k) ?_
    show OGo p e below _ (T_2.setTop (mkF m 28 #[.val (.ref a1), .val (.ref a2), .val (.int (1 : Int32)), .val (.int (2 : Int32)), .val (.int (1 : Int32)), .val (.int (0 : Int32))] [(.ref a1)]))
    refine OGo.to (fun _ k => XS.iload X_2.here hx rfl (hb hby d10_28) rfl k) ?_
    obtain ⟨_, T_5, Lc_5, X_5, hQ_5, st_5⟩ := own_un X_2 (Q := Qgc1_0 Z a1 ka x0 h0 n0) (rc := 0) (rs := 0) (W := fun v B => ∀ target, Steps p.tables e below (B.setTop { (mkF m 30 #[.val (.ref a1), .val (.ref a2), .val (.int (1 : Int32)), .val (.int (2 : Int32)), .val (.int (1 : Int32)), .val (.int (0 : Int32))] [(.int (0 : Int32)), (.ref a1)]) with pc := 33, stack := v.toList ++ [] }) target → Steps p.tables e below (T_2.setTop (mkF m 30 #[.val (.ref a1), .val (.ref a2), .val (.int (1 : Int32)), .val (.int (2 : Int32)), .val (.int (1 : Int32)), .val (.int (0 : Int32))] [(.int (0 : Int32)), (.ref a1)])) target) <| Jvm.LawKit.callS X_2 hx (y := (⟨"java/lang/StringLatin1", "getChar", "([BI)C"⟩ : MethodName)) hown (mvT hZ (hw _ (List.mem_of_getElem? (i := 105) rfl))) (mvT hZ (hw _ (List.mem_of_getElem? (i := 106) rfl))) (mvT hZ (hw _ (List.mem_of_getElem? (i := 49) rfl))) (mvT hZ (hw _ (List.mem_of_getElem? (i := 107) rfl))) (by decide) (backOf (W := 0) (rmgc1_0 l Z a0 hw [] a1 ka x0 h0 n0 Z0 VX) hZ (hw _ (List.mem_of_getElem? (i := 107) rfl)) (hw _ (List.mem_of_getElem? (i := 49) rfl)) (by decide) (by decide)) (g := (mkF m 30 #[.val (.ref a1), .val (.ref a2), .val (.int (1 : Int32)), .val (.int (2 : Int32)), .val (.int (1 : Int32)), .val (.int (0 : Int32))] [(.int (0 : Int32)), (.ref a1)])) rfl (by rw [hml]; rfl) (argsL := [(.ref a1), (.int (0 : Int32))]) (rest := []) (lenOf pd_12 rfl) rfl (by show 2 * 0 + _ ≤ _; exact Nat.le_of_eq rfl) (hb hby d10_30) (fun _ _ => ⟨rfl, e_2, (by decide : 0 + 0 ≤ _), (by decide : 0 + 0 ≤ _)⟩)
    obtain ⟨rfl, N_5q, e_5⟩ := hQ_5
    have N_5 := Fr.app N_2 N_5q
    refine OGo.to st_5 ?_
    show OGo p e below _ (T_5.setTop (mkF m 33 #[.val (.ref a1), .val (.ref a2), .val (.int (1 : Int32)), .val (.int (2 : Int32)), .val (.int (1 : Int32)), .val (.int (0 : Int32))] [(.int (own_gc x0))]))
    refine OGo.to (fun _ k => XS.aloadN X_5.here hx rfl (hb hby d10_33) rfl rfl k) ?_
    refine OGo.to (fun _ k => XS.iload X_5.here hx rfl (hb hby d10_34) rfl k) ?_
    obtain ⟨_, T_6, Lc_6, X_6, hQ_6, st_6⟩ := own_un X_5 (Q := Qgc2_0 Z a2 kb y0 y1 h0 n0) (rc := 0) (rs := 0) (W := fun v B => ∀ target, Steps p.tables e below (B.setTop { (mkF m 36 #[.val (.ref a1), .val (.ref a2), .val (.int (1 : Int32)), .val (.int (2 : Int32)), .val (.int (1 : Int32)), .val (.int (0 : Int32))] [(.int (0 : Int32)), (.ref a2), (.int (own_gc x0))]) with pc := 39, stack := v.toList ++ [(.int (own_gc x0))] }) target → Steps p.tables e below (T_5.setTop (mkF m 36 #[.val (.ref a1), .val (.ref a2), .val (.int (1 : Int32)), .val (.int (2 : Int32)), .val (.int (1 : Int32)), .val (.int (0 : Int32))] [(.int (0 : Int32)), (.ref a2), (.int (own_gc x0))])) target) <| Jvm.LawKit.callS X_5 hx (y := (⟨"java/lang/StringLatin1", "getChar", "([BI)C"⟩ : MethodName)) hown (mvT hZ (hw _ (List.mem_of_getElem? (i := 105) rfl))) (mvT hZ (hw _ (List.mem_of_getElem? (i := 106) rfl))) (mvT hZ (hw _ (List.mem_of_getElem? (i := 49) rfl))) (mvT hZ (hw _ (List.mem_of_getElem? (i := 107) rfl))) (by decide) (backOf (W := 1) (rmgc2_0 l Z a0 hw [] a2 kb y0 y1 h0 n0 Z0 VY) hZ (hw _ (List.mem_of_getElem? (i := 107) rfl)) (hw _ (List.mem_of_getElem? (i := 49) rfl)) (by decide) (by decide)) (g := (mkF m 36 #[.val (.ref a1), .val (.ref a2), .val (.int (1 : Int32)), .val (.int (2 : Int32)), .val (.int (1 : Int32)), .val (.int (0 : Int32))] [(.int (0 : Int32)), (.ref a2), (.int (own_gc x0))])) rfl (by rw [hml]; rfl) (argsL := [(.ref a2), (.int (0 : Int32))]) (rest := [(.int (own_gc x0))]) (lenOf pd_12 rfl) rfl (by show 2 * 0 + _ ≤ _; exact Nat.le_of_eq rfl) (hb hby d10_36) (fun _ _ => ⟨rfl, e_5, (by decide : 0 + 0 ≤ _), (by decide : 0 + 0 ≤ _)⟩)
    obtain ⟨rfl, N_6q, e_6⟩ := hQ_6
    have N_6 := Fr.app N_5 N_6q
    refine OGo.to st_6 ?_
    show OGo p e below _ (T_6.setTop (mkF m 39 #[.val (.ref a1), .val (.ref a2), .val (.int (1 : Int32)), .val (.int (2 : Int32)), .val (.int (1 : Int32)), .val (.int (0 : Int32))] [(.int (own_gc y0)), (.int (own_gc x0))]))
    refine OGo.to (fun _ k => XS.isub X_6.here hx rfl (hb hby d10_39) rfl k) ?_
    refine OGo.ret (Q := Qc412 Z a1 a2 ka kb x0 y0 y1 h0 n0) X_6 (some (.int ((own_gc x0) - (own_gc y0)))) (fun h => by rw [Bd.returns] at h; cases h) Bd.notSynchronized (fun fs hr => retI X_6 hx Bd.returns (hb hby d10_40) hr) ?_ (by decide) (by decide)
    show Qc412 Z a1 a2 ka kb x0 y0 y1 h0 n0 _ T_6.heap _
    rw [e_6]
    exact ⟨congrArg (fun z => some (Value.int z)) (show ((own_gc x0) - (own_gc y0)) = (own_scmp [x0] [y0, y1]) from by rw [own_scmp_cc, if_neg q0]), N_6, rfl⟩
theorem ef_c212 (m : MethodId) (x0 : Addr) (x1 : Addr) : entryFrame m #[(.ref x0), (.ref x1)] 4 = mkF m 0 #[.val (.ref x0), .val (.ref x1), .unset, .unset] [] := by first | (simp [entryFrame, mkF, argsToLocals, Value.category]; done) | rfl
def Qc212 (Z : State) (a1 : Addr) (a2 : Addr) (ka : ClassId) (kb : ClassId) (x0 : Int32) (y0 : Int32) (y1 : Int32) (h0 : Heap) (n0 : Nat) (v : Option Value) (h : Heap) (L : List Loc) : Prop := v = some (.int (own_scmp [x0] [y0, y1])) ∧ Fr n0 L ∧ h = h0
set_option maxRecDepth 65536 in
set_option maxHeartbeats 40000000 in
theorem rmc212 (l : Launch) (Z : State) (a0 : Array Value) (hw : ∀ d ∈ tables_1, d.before a0 Z = true) (ws : List Jvm.Cond) (a1 : Addr) (a2 : Addr) (ka : ClassId) (kb : ClassId) (x0 : Int32) (y0 : Int32) (y1 : Int32) (h0 : Heap) (n0 : Nat) (Z0 : n0 ≤ h0.size) (VX : Arv Z h0 a1 ka .byte (1 : Int32) [(.int x0)] (.int (0 : Int32))) (VY : Arv Z h0 a2 kb .byte (2 : Int32) [(.int y0), (.int y1)] (.int (0 : Int32))) :
    MetFree l (⟨"java/lang/StringLatin1", "compareTo", "([B[B)I"⟩ : MethodName) (head1 (Jvm.Cond.code (⟨"java/lang/StringLatin1", "compareTo", "([B[B)I"⟩ : MethodName) jdk_43_method_14_code 4 (some .int) :: ws) ({ frames := 2, cells := 0, slots := 0, locals := 32 } : Room)) (fun a U => a = #[(.ref a1), (.ref a2)] ∧ Z.Warmed39 U.vm ∧ U.heap = h0) (fun _ _ _ _ _ => True) (fun _ U o U' => ∃ v L, o = .returned v ∧ Qc212 Z a1 a2 ka kb x0 y0 y1 h0 n0 v U'.heap L ∧ FrameEnd U o U' L ({ frames := 2, cells := 0, slots := 0, locals := 32 } : Room).cells ({ frames := 2, cells := 0, slots := 0, locals := 32 } : Room).slots) := by
  refine MetFree.of_bodySF (plainFor_of_name pn_0) hisR ?_
  intro p e s m args below meth c s₁ Bd hml0 hP hK
  obtain ⟨rfl, hZ, hh⟩ := hP
  have hx := Bd.exec
  have hby := Bd.bytes
  have hml : c.maxLocals = 4 := hml0
  have hown : s.vm.findClass "java/lang/StringLatin1" = some m.cls := findClass_of_methodNamed Bd.named
  have hnm := (name_of_methodNamed Bd.named Bd.method).1
  have X0 : Stand p l e ({ frames := 2, cells := 0, slots := 0, locals := 32 } : Room) s m #[(.ref a1), (.ref a2)] below meth c s₁ [] 0 0 := Stand.of_body Bd
  have e0 : s₁.heap = h0 := by rw [← hh, Bd.state]; rfl
  have N0 := Fr.nil n0
  show OGo p e below (fun s₂ o => ∃ v L, o = .returned v ∧ Qc212 Z a1 a2 ka kb x0 y0 y1 h0 n0 v s₂.heap L ∧ FrameEnd s o s₂ L ({ frames := 2, cells := 0, slots := 0, locals := 32 } : Room).cells ({ frames := 2, cells := 0, slots := 0, locals := 32 } : Room).slots) _
  refine OGo.to (fun _ k => castTop (ef_c212 m a1 a2) k) ?_
  refine OGo.to (fun _ k => XS.aloadN X0.here hx rfl (hb hby d9_0) rfl rfl k) ?_
  have Vq_1 := VX
  obtain ⟨cl_1, Ar_1, q_1, S_1, M_1, Hs_1, G_1⟩ := Vq_1
  refine OGo.to (fun _ k => X0.arraylength hx (by rw [e0]; exact Ar_1.1) (State.isArrayOf_alike hZ.alike Ar_1.2.1) (g := (mkF m 1 #[.val (.ref a1), .val (.ref a2), .unset, .unset] [(.ref a1)])) rfl rfl (hb hby d9_1) _ k) ?_
  rw [len_of S_1 M_1]
  show OGo p e below _ (s₁.setTop (mkF m 2 #[.val (.ref a1), .val (.ref a2), .unset, .unset] [(.int (1 : Int32))]))
  refine OGo.to (fun _ k => XS.istoreN X0.here hx rfl (hb hby d9_2) rfl (l' := #[.val (.ref a1), .val (.ref a2), .val (.int (1 : Int32)), .unset]) rfl k) ?_
  refine OGo.to (fun _ k => XS.aloadN X0.here hx rfl (hb hby d9_3) rfl rfl k) ?_
  have Vq_2 := VY
  obtain ⟨cl_2, Ar_2, q_2, S_2, M_2, Hs_2, G_2⟩ := Vq_2
  refine OGo.to (fun _ k => X0.arraylength hx (by rw [e0]; exact Ar_2.1) (State.isArrayOf_alike hZ.alike Ar_2.2.1) (g := (mkF m 4 #[.val (.ref a1), .val (.ref a2), .val (.int (1 : Int32)), .unset] [(.ref a2)])) rfl rfl (hb hby d9_4) _ k) ?_
  rw [len_of S_2 M_2]
  show OGo p e below _ (s₁.setTop (mkF m 5 #[.val (.ref a1), .val (.ref a2), .val (.int (1 : Int32)), .unset] [(.int (2 : Int32))]))
  refine OGo.to (fun _ k => XS.istoreN X0.here hx rfl (hb hby d9_5) rfl (l' := #[.val (.ref a1), .val (.ref a2), .val (.int (1 : Int32)), .val (.int (2 : Int32))]) rfl k) ?_
  refine OGo.to (fun _ k => XS.aloadN X0.here hx rfl (hb hby d9_6) rfl rfl k) ?_
  refine OGo.to (fun _ k => XS.aloadN X0.here hx rfl (hb hby d9_7) rfl rfl k) ?_
  refine OGo.to (fun _ k => XS.iloadN X0.here hx rfl (hb hby d9_8) rfl k) ?_
  refine OGo.to (fun _ k => XS.iloadN X0.here hx rfl (hb hby d9_9) rfl k) ?_
  obtain ⟨_, T_3, Lc_3, X_3, hQ_3, st_3⟩ := own_un X0 (Q := Qc412 Z a1 a2 ka kb x0 y0 y1 h0 n0) (rc := 0) (rs := 0) (W := fun v B => ∀ target, Steps p.tables e below (B.setTop { (mkF m 10 #[.val (.ref a1), .val (.ref a2), .val (.int (1 : Int32)), .val (.int (2 : Int32))] [(.int (2 : Int32)), (.int (1 : Int32)), (.ref a2), (.ref a1)]) with pc := 13, stack := v.toList ++ [] }) target → Steps p.tables e below (s₁.setTop (mkF m 10 #[.val (.ref a1), .val (.ref a2), .val (.int (1 : Int32)), .val (.int (2 : Int32))] [(.int (2 : Int32)), (.int (1 : Int32)), (.ref a2), (.ref a1)])) target) <| Jvm.LawKit.callS X0 hx (y := (⟨"java/lang/StringLatin1", "compareTo", "([B[BII)I"⟩ : MethodName)) hown (mvT hZ (hw _ (List.mem_of_getElem? (i := 51) rfl))) (mvT hZ (hw _ (List.mem_of_getElem? (i := 52) rfl))) (mvT hZ (hw _ (List.mem_of_getElem? (i := 49) rfl))) (mvT hZ (hw _ (List.mem_of_getElem? (i := 53) rfl))) (by decide) (backOf (W := 0) (rmc412 l Z a0 hw [] a1 a2 ka kb x0 y0 y1 h0 n0 Z0 VX VY) hZ (hw _ (List.mem_of_getElem? (i := 53) rfl)) (hw _ (List.mem_of_getElem? (i := 49) rfl)) (by decide) (by decide)) (g := (mkF m 10 #[.val (.ref a1), .val (.ref a2), .val (.int (1 : Int32)), .val (.int (2 : Int32))] [(.int (2 : Int32)), (.int (1 : Int32)), (.ref a2), (.ref a1)])) rfl (by rw [hml]; rfl) (argsL := [(.ref a1), (.ref a2), (.int (1 : Int32)), (.int (2 : Int32))]) (rest := []) (lenOf pd_11 rfl) rfl (by show 2 * 0 + _ ≤ _; exact Nat.le_of_eq rfl) (hb hby d9_10) (fun _ _ => ⟨rfl, e0, (by decide : 0 + 0 ≤ _), (by decide : 0 + 0 ≤ _)⟩)
  obtain ⟨rfl, N_3q, e_3⟩ := hQ_3
  have N_3 := Fr.app N0 N_3q
  refine OGo.to st_3 ?_
  show OGo p e below _ (T_3.setTop (mkF m 13 #[.val (.ref a1), .val (.ref a2), .val (.int (1 : Int32)), .val (.int (2 : Int32))] [(.int (own_scmp [x0] [y0, y1]))]))
  refine OGo.ret (Q := Qc212 Z a1 a2 ka kb x0 y0 y1 h0 n0) X_3 (some (.int (own_scmp [x0] [y0, y1]))) (fun h => by rw [Bd.returns] at h; cases h) Bd.notSynchronized (fun fs hr => retI X_3 hx Bd.returns (hb hby d9_13) hr) ?_ (by decide) (by decide)
  show Qc212 Z a1 a2 ka kb x0 y0 y1 h0 n0 _ T_3.heap _
  rw [e_3]
  exact ⟨rfl, N_3, rfl⟩
theorem ef_eq12 (m : MethodId) (x0 : Addr) (x1 : Addr) : entryFrame m #[(.ref x0), (.ref x1)] 3 = mkF m 0 #[.val (.ref x0), .val (.ref x1), .unset] [] := by first | (simp [entryFrame, mkF, argsToLocals, Value.category]; done) | rfl
def Qeq12 (Z : State) (a1 : Addr) (a2 : Addr) (ka : ClassId) (kb : ClassId) (x0 : Int32) (y0 : Int32) (y1 : Int32) (h0 : Heap) (n0 : Nat) (v : Option Value) (h : Heap) (L : List Loc) : Prop := v = some (.int (own_seq [x0] [y0, y1])) ∧ Fr n0 L ∧ h = h0
set_option maxRecDepth 65536 in
set_option maxHeartbeats 40000000 in
theorem rmeq12 (l : Launch) (Z : State) (a0 : Array Value) (hw : ∀ d ∈ tables_1, d.before a0 Z = true) (ws : List Jvm.Cond) (a1 : Addr) (a2 : Addr) (ka : ClassId) (kb : ClassId) (x0 : Int32) (y0 : Int32) (y1 : Int32) (h0 : Heap) (n0 : Nat) (Z0 : n0 ≤ h0.size) (VX : Arv Z h0 a1 ka .byte (1 : Int32) [(.int x0)] (.int (0 : Int32))) (VY : Arv Z h0 a2 kb .byte (2 : Int32) [(.int y0), (.int y1)] (.int (0 : Int32))) :
    MetFree l (⟨"java/lang/StringLatin1", "equals", "([B[B)Z"⟩ : MethodName) (head1 (Jvm.Cond.code (⟨"java/lang/StringLatin1", "equals", "([B[B)Z"⟩ : MethodName) jdk_43_method_13_code 3 (some .boolean) :: ws) ({ frames := 0, cells := 0, slots := 0, locals := 0 } : Room)) (fun a U => a = #[(.ref a1), (.ref a2)] ∧ Z.Warmed39 U.vm ∧ U.heap = h0) (fun _ _ _ _ _ => True) (fun _ U o U' => ∃ v L, o = .returned v ∧ Qeq12 Z a1 a2 ka kb x0 y0 y1 h0 n0 v U'.heap L ∧ FrameEnd U o U' L ({ frames := 0, cells := 0, slots := 0, locals := 0 } : Room).cells ({ frames := 0, cells := 0, slots := 0, locals := 0 } : Room).slots) := by
  refine MetFree.of_bodySF (plainFor_of_name pn_0) hisR ?_
  intro p e s m args below meth c s₁ Bd hml0 hP hK
  obtain ⟨rfl, hZ, hh⟩ := hP
  have hx := Bd.exec
  have hby := Bd.bytes
  have hml : c.maxLocals = 3 := hml0
  have hown : s.vm.findClass "java/lang/StringLatin1" = some m.cls := findClass_of_methodNamed Bd.named
  have hnm := (name_of_methodNamed Bd.named Bd.method).1
  have X0 : Stand p l e ({ frames := 0, cells := 0, slots := 0, locals := 0 } : Room) s m #[(.ref a1), (.ref a2)] below meth c s₁ [] 0 0 := Stand.of_body Bd
  have e0 : s₁.heap = h0 := by rw [← hh, Bd.state]; rfl
  have N0 := Fr.nil n0
  show OGo p e below (fun s₂ o => ∃ v L, o = .returned v ∧ Qeq12 Z a1 a2 ka kb x0 y0 y1 h0 n0 v s₂.heap L ∧ FrameEnd s o s₂ L ({ frames := 0, cells := 0, slots := 0, locals := 0 } : Room).cells ({ frames := 0, cells := 0, slots := 0, locals := 0 } : Room).slots) _
  refine OGo.to (fun _ k => castTop (ef_eq12 m a1 a2) k) ?_
  refine OGo.to (fun _ k => XS.aloadN X0.here hx rfl (hb hby d15_0) rfl rfl k) ?_
  have Vq_1 := VX
  obtain ⟨cl_1, Ar_1, q_1, S_1, M_1, Hs_1, G_1⟩ := Vq_1
  refine OGo.to (fun _ k => X0.arraylength hx (by rw [e0]; exact Ar_1.1) (State.isArrayOf_alike hZ.alike Ar_1.2.1) (g := (mkF m 1 #[.val (.ref a1), .val (.ref a2), .unset] [(.ref a1)])) rfl rfl (hb hby d15_1) _ k) ?_
  rw [len_of S_1 M_1]
  show OGo p e below _ (s₁.setTop (mkF m 2 #[.val (.ref a1), .val (.ref a2), .unset] [(.int (1 : Int32))]))
  refine OGo.to (fun _ k => XS.aloadN X0.here hx rfl (hb hby d15_2) rfl rfl k) ?_
  have Vq_2 := VY
  obtain ⟨cl_2, Ar_2, q_2, S_2, M_2, Hs_2, G_2⟩ := Vq_2
  refine OGo.to (fun _ k => X0.arraylength hx (by rw [e0]; exact Ar_2.1) (State.isArrayOf_alike hZ.alike Ar_2.2.1) (g := (mkF m 3 #[.val (.ref a1), .val (.ref a2), .unset] [(.ref a2), (.int (1 : Int32))])) rfl rfl (hb hby d15_3) _ k) ?_
  rw [len_of S_2 M_2]
  show OGo p e below _ (s₁.setTop (mkF m 4 #[.val (.ref a1), .val (.ref a2), .unset] [(.int (2 : Int32)), (.int (1 : Int32))]))
  have hc4__3 : ¬ ((1 : Int32) = (2 : Int32)) := by decide
  refine OGo.to (fun _ k => XS.icmpYes X0.here hx rfl (pc0 := 4) (pc' := 34) rfl (hb hby d15_4) rfl (feq hc4__3).2 (by decide) (by decide) k) ?_
  show OGo p e below _ (s₁.setTop (mkF m 34 #[.val (.ref a1), .val (.ref a2), .unset] []))
  refine OGo.to (fun _ k => XS.iconst X0.here hx rfl (hb hby d15_34) k) ?_
  refine OGo.ret (Q := Qeq12 Z a1 a2 ka kb x0 y0 y1 h0 n0) X0 (some (.int (0 : Int32))) (fun h => by rw [Bd.returns] at h; cases h) Bd.notSynchronized (fun fs hr => retN X0 hx (t := .boolean) (z := (0 : Int32)) Bd.returns (by simp) (hb hby d15_35) hr) ?_ (by decide) (by decide)
  show Qeq12 Z a1 a2 ka kb x0 y0 y1 h0 n0 _ s₁.heap _
  rw [e0]
  exact ⟨congrArg (fun z => some (Value.int z)) (show (0 : Int32) = (own_seq [x0] [y0, y1]) from own_seq_no (by simp [])), N0, rfl⟩
theorem ef_mn20 (m : MethodId) (x0 : Int32) (x1 : Int32) : entryFrame m #[(.int x0), (.int x1)] 2 = mkF m 0 #[.val (.int x0), .val (.int x1)] [] := by first | (simp [entryFrame, mkF, argsToLocals, Value.category]; done) | rfl
def Qmn20 (Z : State)  (h0 : Heap) (n0 : Nat) (v : Option Value) (h : Heap) (L : List Loc) : Prop := v = some (.int (0 : Int32)) ∧ Fr n0 L ∧ h = h0
set_option maxRecDepth 65536 in
set_option maxHeartbeats 40000000 in
theorem rmmn20 (l : Launch) (Z : State) (a0 : Array Value) (hw : ∀ d ∈ tables_1, d.before a0 Z = true) (ws : List Jvm.Cond)  (h0 : Heap) (n0 : Nat) (Z0 : n0 ≤ h0.size) :
    MetFree l (⟨"java/lang/Math", "min", "(II)I"⟩ : MethodName) (head1 (Jvm.Cond.code (⟨"java/lang/Math", "min", "(II)I"⟩ : MethodName) jdk_29_method_69_code 2 (some .int) :: ws) ({ frames := 0, cells := 0, slots := 0, locals := 0 } : Room)) (fun a U => a = #[(.int (2 : Int32)), (.int (0 : Int32))] ∧ Z.Warmed39 U.vm ∧ U.heap = h0) (fun _ _ _ _ _ => True) (fun _ U o U' => ∃ v L, o = .returned v ∧ Qmn20 Z  h0 n0 v U'.heap L ∧ FrameEnd U o U' L ({ frames := 0, cells := 0, slots := 0, locals := 0 } : Room).cells ({ frames := 0, cells := 0, slots := 0, locals := 0 } : Room).slots) := by
  refine MetFree.of_bodySF (Jvm.Free.JP.mathPlain rfl (by decide +kernel)) hisR ?_
  intro p e s m args below meth c s₁ Bd hml0 hP hK
  obtain ⟨rfl, hZ, hh⟩ := hP
  have hx := Bd.exec
  have hby := Bd.bytes
  have hml : c.maxLocals = 2 := hml0
  have hown : s.vm.findClass "java/lang/Math" = some m.cls := findClass_of_methodNamed Bd.named
  have hnm := (name_of_methodNamed Bd.named Bd.method).1
  have X0 : Stand p l e ({ frames := 0, cells := 0, slots := 0, locals := 0 } : Room) s m #[(.int (2 : Int32)), (.int (0 : Int32))] below meth c s₁ [] 0 0 := Stand.of_body Bd
  have e0 : s₁.heap = h0 := by rw [← hh, Bd.state]; rfl
  have N0 := Fr.nil n0
  show OGo p e below (fun s₂ o => ∃ v L, o = .returned v ∧ Qmn20 Z  h0 n0 v s₂.heap L ∧ FrameEnd s o s₂ L ({ frames := 0, cells := 0, slots := 0, locals := 0 } : Room).cells ({ frames := 0, cells := 0, slots := 0, locals := 0 } : Room).slots) _
  refine OGo.to (fun _ k => castTop (ef_mn20 m (2 : Int32) (0 : Int32)) k) ?_
  refine OGo.to (fun _ k => XS.iloadN X0.here hx rfl (hb hby d11_0) rfl k) ?_
  refine OGo.to (fun _ k => XS.iloadN X0.here hx rfl (hb hby d11_1) rfl k) ?_
  have hc2__1 : (0 : Int32) < (2 : Int32) := by decide
  refine OGo.to (fun _ k => XS.icmpYes X0.here hx rfl (pc0 := 2) (pc' := 9) rfl (hb hby d11_2) rfl (tlt hc2__1).2.2.1 (by decide) (by decide) k) ?_
  show OGo p e below _ (s₁.setTop (mkF m 9 #[.val (.int (2 : Int32)), .val (.int (0 : Int32))] []))
  refine OGo.to (fun _ k => XS.iloadN X0.here hx rfl (hb hby d11_9) rfl k) ?_
  refine OGo.ret (Q := Qmn20 Z  h0 n0) X0 (some (.int (0 : Int32))) (fun h => by rw [Bd.returns] at h; cases h) Bd.notSynchronized (fun fs hr => retI X0 hx Bd.returns (hb hby d11_10) hr) ?_ (by decide) (by decide)
  show Qmn20 Z  h0 n0 _ s₁.heap _
  rw [e0]
  exact ⟨rfl, N0, rfl⟩
theorem ef_mm20 (m : MethodId) (x0 : Addr) (x1 : Addr) (x2 : Int32) : entryFrame m #[(.ref x0), (.ref x1), (.int x2)] 4 = mkF m 0 #[.val (.ref x0), .val (.ref x1), .val (.int x2), .unset] [] := by first | (simp [entryFrame, mkF, argsToLocals, Value.category]; done) | rfl
def Qmm20 (Z : State) (a1 : Addr) (a2 : Addr) (ka : ClassId) (kb : ClassId) (x0 : Int32) (x1 : Int32) (h0 : Heap) (n0 : Nat) (v : Option Value) (h : Heap) (L : List Loc) : Prop := v = some (.int (-1 : Int32)) ∧ Fr n0 L ∧ h = h0
set_option maxRecDepth 65536 in
set_option maxHeartbeats 40000000 in
theorem rmmm20 (l : Launch) (Z : State) (a0 : Array Value) (hw : ∀ d ∈ tables_1, d.before a0 Z = true) (ws : List Jvm.Cond) (a1 : Addr) (a2 : Addr) (ka : ClassId) (kb : ClassId) (x0 : Int32) (x1 : Int32) (h0 : Heap) (n0 : Nat) (Z0 : n0 ≤ h0.size) (VX : Arv Z h0 a1 ka .byte (2 : Int32) [(.int x0), (.int x1)] (.int (0 : Int32))) (VY : Arv Z h0 a2 kb .byte (0 : Int32) [] (.int (0 : Int32))) :
    MetFree l (⟨"jdk/internal/util/ArraysSupport", "mismatch", "([B[BI)I"⟩ : MethodName) (head1 (Jvm.Cond.code (⟨"jdk/internal/util/ArraysSupport", "mismatch", "([B[BI)I"⟩ : MethodName) jdk_48_method_13_code 4 (some .int) :: ws) ({ frames := 0, cells := 0, slots := 0, locals := 0 } : Room)) (fun a U => a = #[(.ref a1), (.ref a2), (.int (0 : Int32))] ∧ Z.Warmed39 U.vm ∧ U.heap = h0) (fun _ _ _ _ _ => True) (fun _ U o U' => ∃ v L, o = .returned v ∧ Qmm20 Z a1 a2 ka kb x0 x1 h0 n0 v U'.heap L ∧ FrameEnd U o U' L ({ frames := 0, cells := 0, slots := 0, locals := 0 } : Room).cells ({ frames := 0, cells := 0, slots := 0, locals := 0 } : Room).slots) := by
  refine MetFree.of_bodySF (plainFor_of_name pn_4) hisR ?_
  intro p e s m args below meth c s₁ Bd hml0 hP hK
  obtain ⟨rfl, hZ, hh⟩ := hP
  have hx := Bd.exec
  have hby := Bd.bytes
  have hml : c.maxLocals = 4 := hml0
  have hown : s.vm.findClass "jdk/internal/util/ArraysSupport" = some m.cls := findClass_of_methodNamed Bd.named
  have hnm := (name_of_methodNamed Bd.named Bd.method).1
  have X0 : Stand p l e ({ frames := 0, cells := 0, slots := 0, locals := 0 } : Room) s m #[(.ref a1), (.ref a2), (.int (0 : Int32))] below meth c s₁ [] 0 0 := Stand.of_body Bd
  have e0 : s₁.heap = h0 := by rw [← hh, Bd.state]; rfl
  have N0 := Fr.nil n0
  show OGo p e below (fun s₂ o => ∃ v L, o = .returned v ∧ Qmm20 Z a1 a2 ka kb x0 x1 h0 n0 v s₂.heap L ∧ FrameEnd s o s₂ L ({ frames := 0, cells := 0, slots := 0, locals := 0 } : Room).cells ({ frames := 0, cells := 0, slots := 0, locals := 0 } : Room).slots) _
  refine OGo.to (fun _ k => castTop (ef_mm20 m a1 a2 (0 : Int32)) k) ?_
  refine OGo.to (fun _ k => XS.iconst X0.here hx rfl (hb hby d12_0) k) ?_
  refine OGo.to (fun _ k => XS.istoreN X0.here hx rfl (hb hby d12_1) rfl (l' := #[.val (.ref a1), .val (.ref a2), .val (.int (0 : Int32)), .val (.int (0 : Int32))]) rfl k) ?_
  refine OGo.to (fun _ k => XS.iloadN X0.here hx rfl (hb hby d12_2) rfl k) ?_
  refine OGo.to (fun _ k => XS.bipush X0.here hx rfl (hb hby d12_3) k) ?_
  have hc5__1 : ¬ ((7 : Int32) < (0 : Int32)) := by decide
  refine OGo.to (fun _ k => XS.icmpYes X0.here hx rfl (pc0 := 5) (pc' := 49) rfl (hb hby d12_5) rfl (flt hc5__1).2.2.2 (by decide) (by decide) k) ?_
  show OGo p e below _ (s₁.setTop (mkF m 49 #[.val (.ref a1), .val (.ref a2), .val (.int (0 : Int32)), .val (.int (0 : Int32))] []))
  refine OGo.to (fun _ k => XS.iloadN X0.here hx rfl (hb hby d12_49) rfl k) ?_
  refine OGo.to (fun _ k => XS.iloadN X0.here hx rfl (hb hby d12_50) rfl k) ?_
  have hc51__2 : ¬ ((0 : Int32) < (0 : Int32)) := by decide
  refine OGo.to (fun _ k => XS.icmpYes X0.here hx rfl (pc0 := 51) (pc' := 71) rfl (hb hby d12_51) rfl (flt hc51__2).2.1 (by decide) (by decide) k) ?_
  show OGo p e below _ (s₁.setTop (mkF m 71 #[.val (.ref a1), .val (.ref a2), .val (.int (0 : Int32)), .val (.int (0 : Int32))] []))
  refine OGo.to (fun _ k => XS.iconst X0.here hx rfl (hb hby d12_71) k) ?_
  refine OGo.ret (Q := Qmm20 Z a1 a2 ka kb x0 x1 h0 n0) X0 (some (.int (-1 : Int32))) (fun h => by rw [Bd.returns] at h; cases h) Bd.notSynchronized (fun fs hr => retI X0 hx Bd.returns (hb hby d12_72) hr) ?_ (by decide) (by decide)
  show Qmm20 Z a1 a2 ka kb x0 x1 h0 n0 _ s₁.heap _
  rw [e0]
  exact ⟨rfl, N0, rfl⟩
theorem ef_c420 (m : MethodId) (x0 : Addr) (x1 : Addr) (x2 : Int32) (x3 : Int32) : entryFrame m #[(.ref x0), (.ref x1), (.int x2), (.int x3)] 6 = mkF m 0 #[.val (.ref x0), .val (.ref x1), .val (.int x2), .val (.int x3), .unset, .unset] [] := by first | (simp [entryFrame, mkF, argsToLocals, Value.category]; done) | rfl
def Qc420 (Z : State) (a1 : Addr) (a2 : Addr) (ka : ClassId) (kb : ClassId) (x0 : Int32) (x1 : Int32) (h0 : Heap) (n0 : Nat) (v : Option Value) (h : Heap) (L : List Loc) : Prop := v = some (.int (own_scmp [x0, x1] [])) ∧ Fr n0 L ∧ h = h0
set_option maxRecDepth 65536 in
set_option maxHeartbeats 40000000 in
theorem rmc420 (l : Launch) (Z : State) (a0 : Array Value) (hw : ∀ d ∈ tables_1, d.before a0 Z = true) (ws : List Jvm.Cond) (a1 : Addr) (a2 : Addr) (ka : ClassId) (kb : ClassId) (x0 : Int32) (x1 : Int32) (h0 : Heap) (n0 : Nat) (Z0 : n0 ≤ h0.size) (VX : Arv Z h0 a1 ka .byte (2 : Int32) [(.int x0), (.int x1)] (.int (0 : Int32))) (VY : Arv Z h0 a2 kb .byte (0 : Int32) [] (.int (0 : Int32))) :
    MetFree l (⟨"java/lang/StringLatin1", "compareTo", "([B[BII)I"⟩ : MethodName) (head1 (Jvm.Cond.code (⟨"java/lang/StringLatin1", "compareTo", "([B[BII)I"⟩ : MethodName) jdk_43_method_15_code 6 (some .int) :: ws) ({ frames := 1, cells := 0, slots := 0, locals := 15 } : Room)) (fun a U => a = #[(.ref a1), (.ref a2), (.int (2 : Int32)), (.int (0 : Int32))] ∧ Z.Warmed39 U.vm ∧ U.heap = h0) (fun _ _ _ _ _ => True) (fun _ U o U' => ∃ v L, o = .returned v ∧ Qc420 Z a1 a2 ka kb x0 x1 h0 n0 v U'.heap L ∧ FrameEnd U o U' L ({ frames := 1, cells := 0, slots := 0, locals := 15 } : Room).cells ({ frames := 1, cells := 0, slots := 0, locals := 15 } : Room).slots) := by
  refine MetFree.of_bodySF (plainFor_of_name pn_0) hisR ?_
  intro p e s m args below meth c s₁ Bd hml0 hP hK
  obtain ⟨rfl, hZ, hh⟩ := hP
  have hx := Bd.exec
  have hby := Bd.bytes
  have hml : c.maxLocals = 6 := hml0
  have hown : s.vm.findClass "java/lang/StringLatin1" = some m.cls := findClass_of_methodNamed Bd.named
  have hnm := (name_of_methodNamed Bd.named Bd.method).1
  have X0 : Stand p l e ({ frames := 1, cells := 0, slots := 0, locals := 15 } : Room) s m #[(.ref a1), (.ref a2), (.int (2 : Int32)), (.int (0 : Int32))] below meth c s₁ [] 0 0 := Stand.of_body Bd
  have e0 : s₁.heap = h0 := by rw [← hh, Bd.state]; rfl
  have N0 := Fr.nil n0
  show OGo p e below (fun s₂ o => ∃ v L, o = .returned v ∧ Qc420 Z a1 a2 ka kb x0 x1 h0 n0 v s₂.heap L ∧ FrameEnd s o s₂ L ({ frames := 1, cells := 0, slots := 0, locals := 15 } : Room).cells ({ frames := 1, cells := 0, slots := 0, locals := 15 } : Room).slots) _
  refine OGo.to (fun _ k => castTop (ef_c420 m a1 a2 (2 : Int32) (0 : Int32)) k) ?_
  refine OGo.to (fun _ k => XS.iloadN X0.here hx rfl (hb hby d10_0) rfl k) ?_
  refine OGo.to (fun _ k => XS.iloadN X0.here hx rfl (hb hby d10_1) rfl k) ?_
  obtain ⟨_, T_1, Lc_1, X_1, hQ_1, st_1⟩ := own_un X0 (Q := Qmn20 Z  h0 n0) (rc := 0) (rs := 0) (W := fun v B => ∀ target, Steps p.tables e below (B.setTop { (mkF m 2 #[.val (.ref a1), .val (.ref a2), .val (.int (2 : Int32)), .val (.int (0 : Int32)), .unset, .unset] [(.int (0 : Int32)), (.int (2 : Int32))]) with pc := 5, stack := v.toList ++ [] }) target → Steps p.tables e below (s₁.setTop (mkF m 2 #[.val (.ref a1), .val (.ref a2), .val (.int (2 : Int32)), .val (.int (0 : Int32)), .unset, .unset] [(.int (0 : Int32)), (.int (2 : Int32))])) target) <| Jvm.LawKit.callS X0 hx (y := (⟨"java/lang/Math", "min", "(II)I"⟩ : MethodName)) hown (mvT hZ (hw _ (List.mem_of_getElem? (i := 54) rfl))) (mvT hZ (hw _ (List.mem_of_getElem? (i := 55) rfl))) (mvT hZ (hw _ (List.mem_of_getElem? (i := 56) rfl))) (mvT hZ (hw _ (List.mem_of_getElem? (i := 57) rfl))) (by decide) (backOf (W := 0) (rmmn20 l Z a0 hw []  h0 n0 Z0 ) hZ (hw _ (List.mem_of_getElem? (i := 57) rfl)) (hw _ (List.mem_of_getElem? (i := 56) rfl)) (by decide) (by decide)) (g := (mkF m 2 #[.val (.ref a1), .val (.ref a2), .val (.int (2 : Int32)), .val (.int (0 : Int32)), .unset, .unset] [(.int (0 : Int32)), (.int (2 : Int32))])) rfl (by rw [hml]; rfl) (argsL := [(.int (2 : Int32)), (.int (0 : Int32))]) (rest := []) (lenOf pd_9 rfl) rfl (by show 2 * 0 + _ ≤ _; exact Nat.le_of_eq rfl) (hb hby d10_2) (fun _ _ => ⟨rfl, e0, (by decide : 0 + 0 ≤ _), (by decide : 0 + 0 ≤ _)⟩)
  obtain ⟨rfl, N_1q, e_1⟩ := hQ_1
  have N_1 := Fr.app N0 N_1q
  refine OGo.to st_1 ?_
  show OGo p e below _ (T_1.setTop (mkF m 5 #[.val (.ref a1), .val (.ref a2), .val (.int (2 : Int32)), .val (.int (0 : Int32)), .unset, .unset] [(.int (0 : Int32))]))
  refine OGo.to (fun _ k => XS.istore X_1.here hx rfl (hb hby d10_5) rfl (l' := #[.val (.ref a1), .val (.ref a2), .val (.int (2 : Int32)), .val (.int (0 : Int32)), .val (.int (0 : Int32)), .unset]) rfl k) ?_
  refine OGo.to (fun _ k => XS.aloadN X_1.here hx rfl (hb hby d10_7) rfl rfl k) ?_
  refine OGo.to (fun _ k => XS.aloadN X_1.here hx rfl (hb hby d10_8) rfl rfl k) ?_
  refine OGo.to (fun _ k => XS.iload X_1.here hx rfl (hb hby d10_9) rfl k) ?_
  obtain ⟨_, T_2, Lc_2, X_2, hQ_2, st_2⟩ := own_un X_1 (Q := Qmm20 Z a1 a2 ka kb x0 x1 h0 n0) (rc := 0) (rs := 0) (W := fun v B => ∀ target, Steps p.tables e below (B.setTop { (mkF m 11 #[.val (.ref a1), .val (.ref a2), .val (.int (2 : Int32)), .val (.int (0 : Int32)), .val (.int (0 : Int32)), .unset] [(.int (0 : Int32)), (.ref a2), (.ref a1)]) with pc := 14, stack := v.toList ++ [] }) target → Steps p.tables e below (T_1.setTop (mkF m 11 #[.val (.ref a1), .val (.ref a2), .val (.int (2 : Int32)), .val (.int (0 : Int32)), .val (.int (0 : Int32)), .unset] [(.int (0 : Int32)), (.ref a2), (.ref a1)])) target) <| Jvm.LawKit.callS X_1 hx (y := (⟨"jdk/internal/util/ArraysSupport", "mismatch", "([B[BI)I"⟩ : MethodName)) hown (mvT hZ (hw _ (List.mem_of_getElem? (i := 58) rfl))) (mvT hZ (hw _ (List.mem_of_getElem? (i := 59) rfl))) (mvT hZ (hw _ (List.mem_of_getElem? (i := 60) rfl))) (mvT hZ (hw _ (List.mem_of_getElem? (i := 61) rfl))) (by decide) (backOf (W := 0) (rmmm20 l Z a0 hw [] a1 a2 ka kb x0 x1 h0 n0 Z0 VX VY) hZ (hw _ (List.mem_of_getElem? (i := 61) rfl)) (hw _ (List.mem_of_getElem? (i := 60) rfl)) (by decide) (by decide)) (g := (mkF m 11 #[.val (.ref a1), .val (.ref a2), .val (.int (2 : Int32)), .val (.int (0 : Int32)), .val (.int (0 : Int32)), .unset] [(.int (0 : Int32)), (.ref a2), (.ref a1)])) rfl (by rw [hml]; rfl) (argsL := [(.ref a1), (.ref a2), (.int (0 : Int32))]) (rest := []) (lenOf pd_10 rfl) rfl (by show 2 * 0 + _ ≤ _; exact Nat.le_of_eq rfl) (hb hby d10_11) (fun _ _ => ⟨rfl, e_1, (by decide : 0 + 0 ≤ _), (by decide : 0 + 0 ≤ _)⟩)
  obtain ⟨rfl, N_2q, e_2⟩ := hQ_2
  have N_2 := Fr.app N_1 N_2q
  refine OGo.to st_2 ?_
  show OGo p e below _ (T_2.setTop (mkF m 14 #[.val (.ref a1), .val (.ref a2), .val (.int (2 : Int32)), .val (.int (0 : Int32)), .val (.int (0 : Int32)), .unset] [(.int (-1 : Int32))]))
  refine OGo.to (fun _ k => XS.istore X_2.here hx rfl (hb hby d10_14) rfl (l' := #[.val (.ref a1), .val (.ref a2), .val (.int (2 : Int32)), .val (.int (0 : Int32)), .val (.int (0 : Int32)), .val (.int (-1 : Int32))]) rfl k) ?_
  refine OGo.to (fun _ k => XS.iload X_2.here hx rfl (hb hby d10_16) rfl k) ?_
  have hc18__3 : (-1 : Int32) < (0 : Int32) := by decide
  refine OGo.to (fun _ k => XS.ifNo X_2.here hx rfl (hb hby d10_18) rfl ((if0 _ _).trans (tlt hc18__3).2.1) k) ?_
  show OGo p e below _ (T_2.setTop (mkF m 21 #[.val (.ref a1), .val (.ref a2), .val (.int (2 : Int32)), .val (.int (0 : Int32)), .val (.int (0 : Int32)), .val (.int (-1 : Int32))] []))
  refine OGo.to (fun _ k => XS.iloadN X_2.here hx rfl (hb hby d10_21) rfl k) ?_
  refine OGo.to (fun _ k => XS.iloadN X_2.here hx rfl (hb hby d10_22) rfl k) ?_
  refine OGo.to (fun _ k => XS.isub X_2.here hx rfl (hb hby d10_23) rfl k) ?_
  refine OGo.to (fun _ k => XS.goto X_2.here hx rfl (pc0 := 24) (pc' := 40) rfl (hb hby d10_24) (by decide) (by decide) k) ?_
  refine OGo.ret (Q := Qc420 Z a1 a2 ka kb x0 x1 h0 n0) X_2 (some (.int (2 : Int32))) (fun h => by rw [Bd.returns] at h; cases h) Bd.notSynchronized (fun fs hr => retI X_2 hx Bd.returns (hb hby d10_40) hr) ?_ (by decide) (by decide)
  show Qc420 Z a1 a2 ka kb x0 x1 h0 n0 _ T_2.heap _
  rw [e_2]
  exact ⟨congrArg (fun z => some (Value.int z)) (show (2 : Int32) = (own_scmp [x0, x1] []) from by show _ = own_i 2 - own_i 0; decide), N_2, rfl⟩
theorem ef_c220 (m : MethodId) (x0 : Addr) (x1 : Addr) : entryFrame m #[(.ref x0), (.ref x1)] 4 = mkF m 0 #[.val (.ref x0), .val (.ref x1), .unset, .unset] [] := by first | (simp [entryFrame, mkF, argsToLocals, Value.category]; done) | rfl
def Qc220 (Z : State) (a1 : Addr) (a2 : Addr) (ka : ClassId) (kb : ClassId) (x0 : Int32) (x1 : Int32) (h0 : Heap) (n0 : Nat) (v : Option Value) (h : Heap) (L : List Loc) : Prop := v = some (.int (own_scmp [x0, x1] [])) ∧ Fr n0 L ∧ h = h0
set_option maxRecDepth 65536 in
set_option maxHeartbeats 40000000 in
theorem rmc220 (l : Launch) (Z : State) (a0 : Array Value) (hw : ∀ d ∈ tables_1, d.before a0 Z = true) (ws : List Jvm.Cond) (a1 : Addr) (a2 : Addr) (ka : ClassId) (kb : ClassId) (x0 : Int32) (x1 : Int32) (h0 : Heap) (n0 : Nat) (Z0 : n0 ≤ h0.size) (VX : Arv Z h0 a1 ka .byte (2 : Int32) [(.int x0), (.int x1)] (.int (0 : Int32))) (VY : Arv Z h0 a2 kb .byte (0 : Int32) [] (.int (0 : Int32))) :
    MetFree l (⟨"java/lang/StringLatin1", "compareTo", "([B[B)I"⟩ : MethodName) (head1 (Jvm.Cond.code (⟨"java/lang/StringLatin1", "compareTo", "([B[B)I"⟩ : MethodName) jdk_43_method_14_code 4 (some .int) :: ws) ({ frames := 2, cells := 0, slots := 0, locals := 32 } : Room)) (fun a U => a = #[(.ref a1), (.ref a2)] ∧ Z.Warmed39 U.vm ∧ U.heap = h0) (fun _ _ _ _ _ => True) (fun _ U o U' => ∃ v L, o = .returned v ∧ Qc220 Z a1 a2 ka kb x0 x1 h0 n0 v U'.heap L ∧ FrameEnd U o U' L ({ frames := 2, cells := 0, slots := 0, locals := 32 } : Room).cells ({ frames := 2, cells := 0, slots := 0, locals := 32 } : Room).slots) := by
  refine MetFree.of_bodySF (plainFor_of_name pn_0) hisR ?_
  intro p e s m args below meth c s₁ Bd hml0 hP hK
  obtain ⟨rfl, hZ, hh⟩ := hP
  have hx := Bd.exec
  have hby := Bd.bytes
  have hml : c.maxLocals = 4 := hml0
  have hown : s.vm.findClass "java/lang/StringLatin1" = some m.cls := findClass_of_methodNamed Bd.named
  have hnm := (name_of_methodNamed Bd.named Bd.method).1
  have X0 : Stand p l e ({ frames := 2, cells := 0, slots := 0, locals := 32 } : Room) s m #[(.ref a1), (.ref a2)] below meth c s₁ [] 0 0 := Stand.of_body Bd
  have e0 : s₁.heap = h0 := by rw [← hh, Bd.state]; rfl
  have N0 := Fr.nil n0
  show OGo p e below (fun s₂ o => ∃ v L, o = .returned v ∧ Qc220 Z a1 a2 ka kb x0 x1 h0 n0 v s₂.heap L ∧ FrameEnd s o s₂ L ({ frames := 2, cells := 0, slots := 0, locals := 32 } : Room).cells ({ frames := 2, cells := 0, slots := 0, locals := 32 } : Room).slots) _
  refine OGo.to (fun _ k => castTop (ef_c220 m a1 a2) k) ?_
  refine OGo.to (fun _ k => XS.aloadN X0.here hx rfl (hb hby d9_0) rfl rfl k) ?_
  have Vq_1 := VX
  obtain ⟨cl_1, Ar_1, q_1, S_1, M_1, Hs_1, G_1⟩ := Vq_1
  refine OGo.to (fun _ k => X0.arraylength hx (by rw [e0]; exact Ar_1.1) (State.isArrayOf_alike hZ.alike Ar_1.2.1) (g := (mkF m 1 #[.val (.ref a1), .val (.ref a2), .unset, .unset] [(.ref a1)])) rfl rfl (hb hby d9_1) _ k) ?_
  rw [len_of S_1 M_1]
  show OGo p e below _ (s₁.setTop (mkF m 2 #[.val (.ref a1), .val (.ref a2), .unset, .unset] [(.int (2 : Int32))]))
  refine OGo.to (fun _ k => XS.istoreN X0.here hx rfl (hb hby d9_2) rfl (l' := #[.val (.ref a1), .val (.ref a2), .val (.int (2 : Int32)), .unset]) rfl k) ?_
  refine OGo.to (fun _ k => XS.aloadN X0.here hx rfl (hb hby d9_3) rfl rfl k) ?_
  have Vq_2 := VY
  obtain ⟨cl_2, Ar_2, q_2, S_2, M_2, Hs_2, G_2⟩ := Vq_2
  refine OGo.to (fun _ k => X0.arraylength hx (by rw [e0]; exact Ar_2.1) (State.isArrayOf_alike hZ.alike Ar_2.2.1) (g := (mkF m 4 #[.val (.ref a1), .val (.ref a2), .val (.int (2 : Int32)), .unset] [(.ref a2)])) rfl rfl (hb hby d9_4) _ k) ?_
  rw [len_of S_2 M_2]
  show OGo p e below _ (s₁.setTop (mkF m 5 #[.val (.ref a1), .val (.ref a2), .val (.int (2 : Int32)), .unset] [(.int (0 : Int32))]))
  refine OGo.to (fun _ k => XS.istoreN X0.here hx rfl (hb hby d9_5) rfl (l' := #[.val (.ref a1), .val (.ref a2), .val (.int (2 : Int32)), .val (.int (0 : Int32))]) rfl k) ?_
  refine OGo.to (fun _ k => XS.aloadN X0.here hx rfl (hb hby d9_6) rfl rfl k) ?_
  refine OGo.to (fun _ k => XS.aloadN X0.here hx rfl (hb hby d9_7) rfl rfl k) ?_
  refine OGo.to (fun _ k => XS.iloadN X0.here hx rfl (hb hby d9_8) rfl k) ?_
  refine OGo.to (fun _ k => XS.iloadN X0.here hx rfl (hb hby d9_9) rfl k) ?_
  obtain ⟨_, T_3, Lc_3, X_3, hQ_3, st_3⟩ := own_un X0 (Q := Qc420 Z a1 a2 ka kb x0 x1 h0 n0) (rc := 0) (rs := 0) (W := fun v B => ∀ target, Steps p.tables e below (B.setTop { (mkF m 10 #[.val (.ref a1), .val (.ref a2), .val (.int (2 : Int32)), .val (.int (0 : Int32))] [(.int (0 : Int32)), (.int (2 : Int32)), (.ref a2), (.ref a1)]) with pc := 13, stack := v.toList ++ [] }) target → Steps p.tables e below (s₁.setTop (mkF m 10 #[.val (.ref a1), .val (.ref a2), .val (.int (2 : Int32)), .val (.int (0 : Int32))] [(.int (0 : Int32)), (.int (2 : Int32)), (.ref a2), (.ref a1)])) target) <| Jvm.LawKit.callS X0 hx (y := (⟨"java/lang/StringLatin1", "compareTo", "([B[BII)I"⟩ : MethodName)) hown (mvT hZ (hw _ (List.mem_of_getElem? (i := 51) rfl))) (mvT hZ (hw _ (List.mem_of_getElem? (i := 52) rfl))) (mvT hZ (hw _ (List.mem_of_getElem? (i := 49) rfl))) (mvT hZ (hw _ (List.mem_of_getElem? (i := 53) rfl))) (by decide) (backOf (W := 0) (rmc420 l Z a0 hw [] a1 a2 ka kb x0 x1 h0 n0 Z0 VX VY) hZ (hw _ (List.mem_of_getElem? (i := 53) rfl)) (hw _ (List.mem_of_getElem? (i := 49) rfl)) (by decide) (by decide)) (g := (mkF m 10 #[.val (.ref a1), .val (.ref a2), .val (.int (2 : Int32)), .val (.int (0 : Int32))] [(.int (0 : Int32)), (.int (2 : Int32)), (.ref a2), (.ref a1)])) rfl (by rw [hml]; rfl) (argsL := [(.ref a1), (.ref a2), (.int (2 : Int32)), (.int (0 : Int32))]) (rest := []) (lenOf pd_11 rfl) rfl (by show 2 * 0 + _ ≤ _; exact Nat.le_of_eq rfl) (hb hby d9_10) (fun _ _ => ⟨rfl, e0, (by decide : 0 + 0 ≤ _), (by decide : 0 + 0 ≤ _)⟩)
  obtain ⟨rfl, N_3q, e_3⟩ := hQ_3
  have N_3 := Fr.app N0 N_3q
  refine OGo.to st_3 ?_
  show OGo p e below _ (T_3.setTop (mkF m 13 #[.val (.ref a1), .val (.ref a2), .val (.int (2 : Int32)), .val (.int (0 : Int32))] [(.int (own_scmp [x0, x1] []))]))
  refine OGo.ret (Q := Qc220 Z a1 a2 ka kb x0 x1 h0 n0) X_3 (some (.int (own_scmp [x0, x1] []))) (fun h => by rw [Bd.returns] at h; cases h) Bd.notSynchronized (fun fs hr => retI X_3 hx Bd.returns (hb hby d9_13) hr) ?_ (by decide) (by decide)
  show Qc220 Z a1 a2 ka kb x0 x1 h0 n0 _ T_3.heap _
  rw [e_3]
  exact ⟨rfl, N_3, rfl⟩
theorem ef_eq20 (m : MethodId) (x0 : Addr) (x1 : Addr) : entryFrame m #[(.ref x0), (.ref x1)] 3 = mkF m 0 #[.val (.ref x0), .val (.ref x1), .unset] [] := by first | (simp [entryFrame, mkF, argsToLocals, Value.category]; done) | rfl
def Qeq20 (Z : State) (a1 : Addr) (a2 : Addr) (ka : ClassId) (kb : ClassId) (x0 : Int32) (x1 : Int32) (h0 : Heap) (n0 : Nat) (v : Option Value) (h : Heap) (L : List Loc) : Prop := v = some (.int (own_seq [x0, x1] [])) ∧ Fr n0 L ∧ h = h0
set_option maxRecDepth 65536 in
set_option maxHeartbeats 40000000 in
theorem rmeq20 (l : Launch) (Z : State) (a0 : Array Value) (hw : ∀ d ∈ tables_1, d.before a0 Z = true) (ws : List Jvm.Cond) (a1 : Addr) (a2 : Addr) (ka : ClassId) (kb : ClassId) (x0 : Int32) (x1 : Int32) (h0 : Heap) (n0 : Nat) (Z0 : n0 ≤ h0.size) (VX : Arv Z h0 a1 ka .byte (2 : Int32) [(.int x0), (.int x1)] (.int (0 : Int32))) (VY : Arv Z h0 a2 kb .byte (0 : Int32) [] (.int (0 : Int32))) :
    MetFree l (⟨"java/lang/StringLatin1", "equals", "([B[B)Z"⟩ : MethodName) (head1 (Jvm.Cond.code (⟨"java/lang/StringLatin1", "equals", "([B[B)Z"⟩ : MethodName) jdk_43_method_13_code 3 (some .boolean) :: ws) ({ frames := 0, cells := 0, slots := 0, locals := 0 } : Room)) (fun a U => a = #[(.ref a1), (.ref a2)] ∧ Z.Warmed39 U.vm ∧ U.heap = h0) (fun _ _ _ _ _ => True) (fun _ U o U' => ∃ v L, o = .returned v ∧ Qeq20 Z a1 a2 ka kb x0 x1 h0 n0 v U'.heap L ∧ FrameEnd U o U' L ({ frames := 0, cells := 0, slots := 0, locals := 0 } : Room).cells ({ frames := 0, cells := 0, slots := 0, locals := 0 } : Room).slots) := by
  refine MetFree.of_bodySF (plainFor_of_name pn_0) hisR ?_
  intro p e s m args below meth c s₁ Bd hml0 hP hK
  obtain ⟨rfl, hZ, hh⟩ := hP
  have hx := Bd.exec
  have hby := Bd.bytes
  have hml : c.maxLocals = 3 := hml0
  have hown : s.vm.findClass "java/lang/StringLatin1" = some m.cls := findClass_of_methodNamed Bd.named
  have hnm := (name_of_methodNamed Bd.named Bd.method).1
  have X0 : Stand p l e ({ frames := 0, cells := 0, slots := 0, locals := 0 } : Room) s m #[(.ref a1), (.ref a2)] below meth c s₁ [] 0 0 := Stand.of_body Bd
  have e0 : s₁.heap = h0 := by rw [← hh, Bd.state]; rfl
  have N0 := Fr.nil n0
  show OGo p e below (fun s₂ o => ∃ v L, o = .returned v ∧ Qeq20 Z a1 a2 ka kb x0 x1 h0 n0 v s₂.heap L ∧ FrameEnd s o s₂ L ({ frames := 0, cells := 0, slots := 0, locals := 0 } : Room).cells ({ frames := 0, cells := 0, slots := 0, locals := 0 } : Room).slots) _
  refine OGo.to (fun _ k => castTop (ef_eq20 m a1 a2) k) ?_
  refine OGo.to (fun _ k => XS.aloadN X0.here hx rfl (hb hby d15_0) rfl rfl k) ?_
  have Vq_1 := VX
  obtain ⟨cl_1, Ar_1, q_1, S_1, M_1, Hs_1, G_1⟩ := Vq_1
  refine OGo.to (fun _ k => X0.arraylength hx (by rw [e0]; exact Ar_1.1) (State.isArrayOf_alike hZ.alike Ar_1.2.1) (g := (mkF m 1 #[.val (.ref a1), .val (.ref a2), .unset] [(.ref a1)])) rfl rfl (hb hby d15_1) _ k) ?_
  rw [len_of S_1 M_1]
  show OGo p e below _ (s₁.setTop (mkF m 2 #[.val (.ref a1), .val (.ref a2), .unset] [(.int (2 : Int32))]))
  refine OGo.to (fun _ k => XS.aloadN X0.here hx rfl (hb hby d15_2) rfl rfl k) ?_
  have Vq_2 := VY
  obtain ⟨cl_2, Ar_2, q_2, S_2, M_2, Hs_2, G_2⟩ := Vq_2
  refine OGo.to (fun _ k => X0.arraylength hx (by rw [e0]; exact Ar_2.1) (State.isArrayOf_alike hZ.alike Ar_2.2.1) (g := (mkF m 3 #[.val (.ref a1), .val (.ref a2), .unset] [(.ref a2), (.int (2 : Int32))])) rfl rfl (hb hby d15_3) _ k) ?_
  rw [len_of S_2 M_2]
  show OGo p e below _ (s₁.setTop (mkF m 4 #[.val (.ref a1), .val (.ref a2), .unset] [(.int (0 : Int32)), (.int (2 : Int32))]))
  have hc4__3 : ¬ ((2 : Int32) = (0 : Int32)) := by decide
  refine OGo.to (fun _ k => XS.icmpYes X0.here hx rfl (pc0 := 4) (pc' := 34) rfl (hb hby d15_4) rfl (feq hc4__3).2 (by decide) (by decide) k) ?_
  show OGo p e below _ (s₁.setTop (mkF m 34 #[.val (.ref a1), .val (.ref a2), .unset] []))
  refine OGo.to (fun _ k => XS.iconst X0.here hx rfl (hb hby d15_34) k) ?_
  refine OGo.ret (Q := Qeq20 Z a1 a2 ka kb x0 x1 h0 n0) X0 (some (.int (0 : Int32))) (fun h => by rw [Bd.returns] at h; cases h) Bd.notSynchronized (fun fs hr => retN X0 hx (t := .boolean) (z := (0 : Int32)) Bd.returns (by simp) (hb hby d15_35) hr) ?_ (by decide) (by decide)
  show Qeq20 Z a1 a2 ka kb x0 x1 h0 n0 _ s₁.heap _
  rw [e0]
  exact ⟨congrArg (fun z => some (Value.int z)) (show (0 : Int32) = (own_seq [x0, x1] []) from own_seq_no (by simp [])), N0, rfl⟩
theorem ef_mn21 (m : MethodId) (x0 : Int32) (x1 : Int32) : entryFrame m #[(.int x0), (.int x1)] 2 = mkF m 0 #[.val (.int x0), .val (.int x1)] [] := by first | (simp [entryFrame, mkF, argsToLocals, Value.category]; done) | rfl
def Qmn21 (Z : State)  (h0 : Heap) (n0 : Nat) (v : Option Value) (h : Heap) (L : List Loc) : Prop := v = some (.int (1 : Int32)) ∧ Fr n0 L ∧ h = h0
set_option maxRecDepth 65536 in
set_option maxHeartbeats 40000000 in
theorem rmmn21 (l : Launch) (Z : State) (a0 : Array Value) (hw : ∀ d ∈ tables_1, d.before a0 Z = true) (ws : List Jvm.Cond)  (h0 : Heap) (n0 : Nat) (Z0 : n0 ≤ h0.size) :
    MetFree l (⟨"java/lang/Math", "min", "(II)I"⟩ : MethodName) (head1 (Jvm.Cond.code (⟨"java/lang/Math", "min", "(II)I"⟩ : MethodName) jdk_29_method_69_code 2 (some .int) :: ws) ({ frames := 0, cells := 0, slots := 0, locals := 0 } : Room)) (fun a U => a = #[(.int (2 : Int32)), (.int (1 : Int32))] ∧ Z.Warmed39 U.vm ∧ U.heap = h0) (fun _ _ _ _ _ => True) (fun _ U o U' => ∃ v L, o = .returned v ∧ Qmn21 Z  h0 n0 v U'.heap L ∧ FrameEnd U o U' L ({ frames := 0, cells := 0, slots := 0, locals := 0 } : Room).cells ({ frames := 0, cells := 0, slots := 0, locals := 0 } : Room).slots) := by
  refine MetFree.of_bodySF (Jvm.Free.JP.mathPlain rfl (by decide +kernel)) hisR ?_
  intro p e s m args below meth c s₁ Bd hml0 hP hK
  obtain ⟨rfl, hZ, hh⟩ := hP
  have hx := Bd.exec
  have hby := Bd.bytes
  have hml : c.maxLocals = 2 := hml0
  have hown : s.vm.findClass "java/lang/Math" = some m.cls := findClass_of_methodNamed Bd.named
  have hnm := (name_of_methodNamed Bd.named Bd.method).1
  have X0 : Stand p l e ({ frames := 0, cells := 0, slots := 0, locals := 0 } : Room) s m #[(.int (2 : Int32)), (.int (1 : Int32))] below meth c s₁ [] 0 0 := Stand.of_body Bd
  have e0 : s₁.heap = h0 := by rw [← hh, Bd.state]; rfl
  have N0 := Fr.nil n0
  show OGo p e below (fun s₂ o => ∃ v L, o = .returned v ∧ Qmn21 Z  h0 n0 v s₂.heap L ∧ FrameEnd s o s₂ L ({ frames := 0, cells := 0, slots := 0, locals := 0 } : Room).cells ({ frames := 0, cells := 0, slots := 0, locals := 0 } : Room).slots) _
  refine OGo.to (fun _ k => castTop (ef_mn21 m (2 : Int32) (1 : Int32)) k) ?_
  refine OGo.to (fun _ k => XS.iloadN X0.here hx rfl (hb hby d11_0) rfl k) ?_
  refine OGo.to (fun _ k => XS.iloadN X0.here hx rfl (hb hby d11_1) rfl k) ?_
  have hc2__1 : (1 : Int32) < (2 : Int32) := by decide
  refine OGo.to (fun _ k => XS.icmpYes X0.here hx rfl (pc0 := 2) (pc' := 9) rfl (hb hby d11_2) rfl (tlt hc2__1).2.2.1 (by decide) (by decide) k) ?_
  show OGo p e below _ (s₁.setTop (mkF m 9 #[.val (.int (2 : Int32)), .val (.int (1 : Int32))] []))
  refine OGo.to (fun _ k => XS.iloadN X0.here hx rfl (hb hby d11_9) rfl k) ?_
  refine OGo.ret (Q := Qmn21 Z  h0 n0) X0 (some (.int (1 : Int32))) (fun h => by rw [Bd.returns] at h; cases h) Bd.notSynchronized (fun fs hr => retI X0 hx Bd.returns (hb hby d11_10) hr) ?_ (by decide) (by decide)
  show Qmn21 Z  h0 n0 _ s₁.heap _
  rw [e0]
  exact ⟨rfl, N0, rfl⟩
theorem ef_mm21 (m : MethodId) (x0 : Addr) (x1 : Addr) (x2 : Int32) : entryFrame m #[(.ref x0), (.ref x1), (.int x2)] 4 = mkF m 0 #[.val (.ref x0), .val (.ref x1), .val (.int x2), .unset] [] := by first | (simp [entryFrame, mkF, argsToLocals, Value.category]; done) | rfl
def Qmm21 (Z : State) (a1 : Addr) (a2 : Addr) (ka : ClassId) (kb : ClassId) (x0 : Int32) (x1 : Int32) (y0 : Int32) (h0 : Heap) (n0 : Nat) (v : Option Value) (h : Heap) (L : List Loc) : Prop := ∃ (r : Int32), v = some (.int r) ∧ Fr n0 L ∧ h = h0 ∧ ((x0 = y0 ∧ r = (-1 : Int32)) ∨ (¬ x0 = y0 ∧ r = (0 : Int32)))
set_option maxRecDepth 65536 in
set_option maxHeartbeats 40000000 in
theorem rmmm21 (l : Launch) (Z : State) (a0 : Array Value) (hw : ∀ d ∈ tables_1, d.before a0 Z = true) (ws : List Jvm.Cond) (a1 : Addr) (a2 : Addr) (ka : ClassId) (kb : ClassId) (x0 : Int32) (x1 : Int32) (y0 : Int32) (h0 : Heap) (n0 : Nat) (Z0 : n0 ≤ h0.size) (VX : Arv Z h0 a1 ka .byte (2 : Int32) [(.int x0), (.int x1)] (.int (0 : Int32))) (VY : Arv Z h0 a2 kb .byte (1 : Int32) [(.int y0)] (.int (0 : Int32))) :
    MetFree l (⟨"jdk/internal/util/ArraysSupport", "mismatch", "([B[BI)I"⟩ : MethodName) (head1 (Jvm.Cond.code (⟨"jdk/internal/util/ArraysSupport", "mismatch", "([B[BI)I"⟩ : MethodName) jdk_48_method_13_code 4 (some .int) :: ws) ({ frames := 0, cells := 0, slots := 0, locals := 0 } : Room)) (fun a U => a = #[(.ref a1), (.ref a2), (.int (1 : Int32))] ∧ Z.Warmed39 U.vm ∧ U.heap = h0) (fun _ _ _ _ _ => True) (fun _ U o U' => ∃ v L, o = .returned v ∧ Qmm21 Z a1 a2 ka kb x0 x1 y0 h0 n0 v U'.heap L ∧ FrameEnd U o U' L ({ frames := 0, cells := 0, slots := 0, locals := 0 } : Room).cells ({ frames := 0, cells := 0, slots := 0, locals := 0 } : Room).slots) := by
  refine MetFree.of_bodySF (plainFor_of_name pn_4) hisR ?_
  intro p e s m args below meth c s₁ Bd hml0 hP hK
  obtain ⟨rfl, hZ, hh⟩ := hP
  have hx := Bd.exec
  have hby := Bd.bytes
  have hml : c.maxLocals = 4 := hml0
  have hown : s.vm.findClass "jdk/internal/util/ArraysSupport" = some m.cls := findClass_of_methodNamed Bd.named
  have hnm := (name_of_methodNamed Bd.named Bd.method).1
  have X0 : Stand p l e ({ frames := 0, cells := 0, slots := 0, locals := 0 } : Room) s m #[(.ref a1), (.ref a2), (.int (1 : Int32))] below meth c s₁ [] 0 0 := Stand.of_body Bd
  have e0 : s₁.heap = h0 := by rw [← hh, Bd.state]; rfl
  have N0 := Fr.nil n0
  show OGo p e below (fun s₂ o => ∃ v L, o = .returned v ∧ Qmm21 Z a1 a2 ka kb x0 x1 y0 h0 n0 v s₂.heap L ∧ FrameEnd s o s₂ L ({ frames := 0, cells := 0, slots := 0, locals := 0 } : Room).cells ({ frames := 0, cells := 0, slots := 0, locals := 0 } : Room).slots) _
  refine OGo.to (fun _ k => castTop (ef_mm21 m a1 a2 (1 : Int32)) k) ?_
  refine OGo.to (fun _ k => XS.iconst X0.here hx rfl (hb hby d12_0) k) ?_
  refine OGo.to (fun _ k => XS.istoreN X0.here hx rfl (hb hby d12_1) rfl (l' := #[.val (.ref a1), .val (.ref a2), .val (.int (1 : Int32)), .val (.int (0 : Int32))]) rfl k) ?_
  refine OGo.to (fun _ k => XS.iloadN X0.here hx rfl (hb hby d12_2) rfl k) ?_
  refine OGo.to (fun _ k => XS.bipush X0.here hx rfl (hb hby d12_3) k) ?_
  have hc5__1 : ¬ ((7 : Int32) < (1 : Int32)) := by decide
  refine OGo.to (fun _ k => XS.icmpYes X0.here hx rfl (pc0 := 5) (pc' := 49) rfl (hb hby d12_5) rfl (flt hc5__1).2.2.2 (by decide) (by decide) k) ?_
  show OGo p e below _ (s₁.setTop (mkF m 49 #[.val (.ref a1), .val (.ref a2), .val (.int (1 : Int32)), .val (.int (0 : Int32))] []))
  refine OGo.to (fun _ k => XS.iloadN X0.here hx rfl (hb hby d12_49) rfl k) ?_
  refine OGo.to (fun _ k => XS.iloadN X0.here hx rfl (hb hby d12_50) rfl k) ?_
  have hc51__2 : (0 : Int32) < (1 : Int32) := by decide
  refine OGo.to (fun _ k => XS.icmpNo X0.here hx rfl (hb hby d12_51) rfl (tlt hc51__2).2.1 k) ?_
  show OGo p e below _ (s₁.setTop (mkF m 54 #[.val (.ref a1), .val (.ref a2), .val (.int (1 : Int32)), .val (.int (0 : Int32))] []))
  refine OGo.to (fun _ k => XS.aloadN X0.here hx rfl (hb hby d12_54) rfl rfl k) ?_
  refine OGo.to (fun _ k => XS.iloadN X0.here hx rfl (hb hby d12_55) rfl k) ?_
  have Vq_3 := VX
  obtain ⟨cl_3, Ar_3, q_3, S_3, M_3, Hs_3, G_3⟩ := Vq_3
  have hin_4 : ¬ ((0 : Int32) < 0 ∨ cl_3.slots.size ≤ ((0 : Int32)).toNatClampNeg) := inb_of S_3 ⟨by decide, by decide⟩
  have hat_4 : cl_3.slots[((0 : Int32)).toNatClampNeg]? = some (.int x0) := Hs_3.at hin_4 (rfl)
  refine OGo.to (fun _ k => X0.baloadBytes hx (j := (0 : Int32)) (v := (.int x0)) (by rw [e0]; exact Ar_3.1) (State.isArrayOf_alike hZ.alike Ar_3.2.1) Ar_3.2.2 hin_4 hat_4 (g := (mkF m 56 #[.val (.ref a1), .val (.ref a2), .val (.int (1 : Int32)), .val (.int (0 : Int32))] [(.int (0 : Int32)), (.ref a1)])) rfl rfl (hb hby d12_56) _ k) ?_
  show OGo p e below _ (s₁.setTop (mkF m 57 #[.val (.ref a1), .val (.ref a2), .val (.int (1 : Int32)), .val (.int (0 : Int32))] [(.int x0)]))
  refine OGo.to (fun _ k => XS.aloadN X0.here hx rfl (hb hby d12_57) rfl rfl k) ?_
  refine OGo.to (fun _ k => XS.iloadN X0.here hx rfl (hb hby d12_58) rfl k) ?_
  have Vq_5 := VY
  obtain ⟨cl_5, Ar_5, q_5, S_5, M_5, Hs_5, G_5⟩ := Vq_5
  have hin_6 : ¬ ((0 : Int32) < 0 ∨ cl_5.slots.size ≤ ((0 : Int32)).toNatClampNeg) := inb_of S_5 ⟨by decide, by decide⟩
  have hat_6 : cl_5.slots[((0 : Int32)).toNatClampNeg]? = some (.int y0) := Hs_5.at hin_6 (rfl)
  refine OGo.to (fun _ k => X0.baloadBytes hx (j := (0 : Int32)) (v := (.int y0)) (by rw [e0]; exact Ar_5.1) (State.isArrayOf_alike hZ.alike Ar_5.2.1) Ar_5.2.2 hin_6 hat_6 (g := (mkF m 59 #[.val (.ref a1), .val (.ref a2), .val (.int (1 : Int32)), .val (.int (0 : Int32))] [(.int (0 : Int32)), (.ref a2), (.int x0)])) rfl rfl (hb hby d12_59) _ k) ?_
  show OGo p e below _ (s₁.setTop (mkF m 60 #[.val (.ref a1), .val (.ref a2), .val (.int (1 : Int32)), .val (.int (0 : Int32))] [(.int y0), (.int x0)]))
  by_cases hc60__7 : x0 = y0
  ·  -- pc 60: yes
    refine OGo.to (fun _ k => XS.icmpYes X0.here hx rfl (pc0 := 60) (pc' := 65) rfl (hb hby d12_60) rfl (teq hc60__7).1 (by decide) (by decide) k) ?_
    show OGo p e below _ (s₁.setTop (mkF m 65 #[.val (.ref a1), .val (.ref a2), .val (.int (1 : Int32)), .val (.int (0 : Int32))] []))
    refine OGo.to (fun _ k => XS.iinc X0.here hx rfl (hb hby d12_65) rfl (l' := #[.val (.ref a1), .val (.ref a2), .val (.int (1 : Int32)), .val (.int (1 : Int32))]) rfl k) ?_
    refine OGo.to (fun _ k => XS.goto X0.here hx rfl (pc0 := 68) (pc' := 49) rfl (hb hby d12_68) (by decide) (by decide) k) ?_
    refine OGo.to (fun _ k => XS.iloadN X0.here hx rfl (hb hby d12_49) rfl k) ?_
    refine OGo.to (fun _ k => XS.iloadN X0.here hx rfl (hb hby d12_50) rfl k) ?_
    have hc51__8 : ¬ ((1 : Int32) < (1 : Int32)) := by decide
    refine OGo.to (fun _ k => XS.icmpYes X0.here hx rfl (pc0 := 51) (pc' := 71) rfl (hb hby d12_51) rfl (flt hc51__8).2.1 (by decide) (by decide) k) ?_
    show OGo p e below _ (s₁.setTop (mkF m 71 #[.val (.ref a1), .val (.ref a2), .val (.int (1 : Int32)), .val (.int (1 : Int32))] []))
    refine OGo.to (fun _ k => XS.iconst X0.here hx rfl (hb hby d12_71) k) ?_
    show OGo p e below _ (s₁.setTop (mkF m 72 #[.val (.ref a1), .val (.ref a2), .val (.int (1 : Int32)), .val (.int (1 : Int32))] [(.int (-1 : Int32))]))
    refine OGo.ret (Q := Qmm21 Z a1 a2 ka kb x0 x1 y0 h0 n0) X0 (some (.int (-1 : Int32))) (fun h => by rw [Bd.returns] at h; cases h) Bd.notSynchronized (fun fs hr => retI X0 hx Bd.returns (hb hby d12_72) hr) ?_ (by decide) (by decide)
    show Qmm21 Z a1 a2 ka kb x0 x1 y0 h0 n0 _ s₁.heap _
    rw [e0]
    exact ⟨(-1 : Int32), rfl, N0, rfl, (Or.inl ⟨hc60__7, rfl⟩)⟩
  ·  -- pc 60: no
    refine OGo.to (fun _ k => XS.icmpNo X0.here hx rfl (hb hby d12_60) rfl (feq hc60__7).1 k) ?_
    show OGo p e below _ (s₁.setTop (mkF m 63 #[.val (.ref a1), .val (.ref a2), .val (.int (1 : Int32)), .val (.int (0 : Int32))] []))
    refine OGo.to (fun _ k => XS.iloadN X0.here hx rfl (hb hby d12_63) rfl k) ?_
    refine OGo.ret (Q := Qmm21 Z a1 a2 ka kb x0 x1 y0 h0 n0) X0 (some (.int (0 : Int32))) (fun h => by rw [Bd.returns] at h; cases h) Bd.notSynchronized (fun fs hr => retI X0 hx Bd.returns (hb hby d12_64) hr) ?_ (by decide) (by decide)
    show Qmm21 Z a1 a2 ka kb x0 x1 y0 h0 n0 _ s₁.heap _
    rw [e0]
    exact ⟨(0 : Int32), rfl, N0, rfl, (Or.inr ⟨hc60__7, rfl⟩)⟩
theorem ef_c421 (m : MethodId) (x0 : Addr) (x1 : Addr) (x2 : Int32) (x3 : Int32) : entryFrame m #[(.ref x0), (.ref x1), (.int x2), (.int x3)] 6 = mkF m 0 #[.val (.ref x0), .val (.ref x1), .val (.int x2), .val (.int x3), .unset, .unset] [] := by first | (simp [entryFrame, mkF, argsToLocals, Value.category]; done) | rfl
def Qc421 (Z : State) (a1 : Addr) (a2 : Addr) (ka : ClassId) (kb : ClassId) (x0 : Int32) (x1 : Int32) (y0 : Int32) (h0 : Heap) (n0 : Nat) (v : Option Value) (h : Heap) (L : List Loc) : Prop := v = some (.int (own_scmp [x0, x1] [y0])) ∧ Fr n0 L ∧ h = h0
set_option maxRecDepth 65536 in
set_option maxHeartbeats 40000000 in
theorem rmc421 (l : Launch) (Z : State) (a0 : Array Value) (hw : ∀ d ∈ tables_1, d.before a0 Z = true) (ws : List Jvm.Cond) (a1 : Addr) (a2 : Addr) (ka : ClassId) (kb : ClassId) (x0 : Int32) (x1 : Int32) (y0 : Int32) (h0 : Heap) (n0 : Nat) (Z0 : n0 ≤ h0.size) (VX : Arv Z h0 a1 ka .byte (2 : Int32) [(.int x0), (.int x1)] (.int (0 : Int32))) (VY : Arv Z h0 a2 kb .byte (1 : Int32) [(.int y0)] (.int (0 : Int32))) :
    MetFree l (⟨"java/lang/StringLatin1", "compareTo", "([B[BII)I"⟩ : MethodName) (head1 (Jvm.Cond.code (⟨"java/lang/StringLatin1", "compareTo", "([B[BII)I"⟩ : MethodName) jdk_43_method_15_code 6 (some .int) :: ws) ({ frames := 1, cells := 0, slots := 0, locals := 15 } : Room)) (fun a U => a = #[(.ref a1), (.ref a2), (.int (2 : Int32)), (.int (1 : Int32))] ∧ Z.Warmed39 U.vm ∧ U.heap = h0) (fun _ _ _ _ _ => True) (fun _ U o U' => ∃ v L, o = .returned v ∧ Qc421 Z a1 a2 ka kb x0 x1 y0 h0 n0 v U'.heap L ∧ FrameEnd U o U' L ({ frames := 1, cells := 0, slots := 0, locals := 15 } : Room).cells ({ frames := 1, cells := 0, slots := 0, locals := 15 } : Room).slots) := by
  refine MetFree.of_bodySF (plainFor_of_name pn_0) hisR ?_
  intro p e s m args below meth c s₁ Bd hml0 hP hK
  obtain ⟨rfl, hZ, hh⟩ := hP
  have hx := Bd.exec
  have hby := Bd.bytes
  have hml : c.maxLocals = 6 := hml0
  have hown : s.vm.findClass "java/lang/StringLatin1" = some m.cls := findClass_of_methodNamed Bd.named
  have hnm := (name_of_methodNamed Bd.named Bd.method).1
  have X0 : Stand p l e ({ frames := 1, cells := 0, slots := 0, locals := 15 } : Room) s m #[(.ref a1), (.ref a2), (.int (2 : Int32)), (.int (1 : Int32))] below meth c s₁ [] 0 0 := Stand.of_body Bd
  have e0 : s₁.heap = h0 := by rw [← hh, Bd.state]; rfl
  have N0 := Fr.nil n0
  show OGo p e below (fun s₂ o => ∃ v L, o = .returned v ∧ Qc421 Z a1 a2 ka kb x0 x1 y0 h0 n0 v s₂.heap L ∧ FrameEnd s o s₂ L ({ frames := 1, cells := 0, slots := 0, locals := 15 } : Room).cells ({ frames := 1, cells := 0, slots := 0, locals := 15 } : Room).slots) _
  refine OGo.to (fun _ k => castTop (ef_c421 m a1 a2 (2 : Int32) (1 : Int32)) k) ?_
  refine OGo.to (fun _ k => XS.iloadN X0.here hx rfl (hb hby d10_0) rfl k) ?_
  refine OGo.to (fun _ k => XS.iloadN X0.here hx rfl (hb hby d10_1) rfl k) ?_
  obtain ⟨_, T_1, Lc_1, X_1, hQ_1, st_1⟩ := own_un X0 (Q := Qmn21 Z  h0 n0) (rc := 0) (rs := 0) (W := fun v B => ∀ target, Steps p.tables e below (B.setTop { (mkF m 2 #[.val (.ref a1), .val (.ref a2), .val (.int (2 : Int32)), .val (.int (1 : Int32)), .unset, .unset] [(.int (1 : Int32)), (.int (2 : Int32))]) with pc := 5, stack := v.toList ++ [] }) target → Steps p.tables e below (s₁.setTop (mkF m 2 #[.val (.ref a1), .val (.ref a2), .val (.int (2 : Int32)), .val (.int (1 : Int32)), .unset, .unset] [(.int (1 : Int32)), (.int (2 : Int32))])) target) <| Jvm.LawKit.callS X0 hx (y := (⟨"java/lang/Math", "min", "(II)I"⟩ : MethodName)) hown (mvT hZ (hw _ (List.mem_of_getElem? (i := 54) rfl))) (mvT hZ (hw _ (List.mem_of_getElem? (i := 55) rfl))) (mvT hZ (hw _ (List.mem_of_getElem? (i := 56) rfl))) (mvT hZ (hw _ (List.mem_of_getElem? (i := 57) rfl))) (by decide) (backOf (W := 0) (rmmn21 l Z a0 hw []  h0 n0 Z0 ) hZ (hw _ (List.mem_of_getElem? (i := 57) rfl)) (hw _ (List.mem_of_getElem? (i := 56) rfl)) (by decide) (by decide)) (g := (mkF m 2 #[.val (.ref a1), .val (.ref a2), .val (.int (2 : Int32)), .val (.int (1 : Int32)), .unset, .unset] [(.int (1 : Int32)), (.int (2 : Int32))])) rfl (by rw [hml]; rfl) (argsL := [(.int (2 : Int32)), (.int (1 : Int32))]) (rest := []) (lenOf pd_9 rfl) rfl (by show 2 * 0 + _ ≤ _; exact Nat.le_of_eq rfl) (hb hby d10_2) (fun _ _ => ⟨rfl, e0, (by decide : 0 + 0 ≤ _), (by decide : 0 + 0 ≤ _)⟩)
  obtain ⟨rfl, N_1q, e_1⟩ := hQ_1
  have N_1 := Fr.app N0 N_1q
  refine OGo.to st_1 ?_
  show OGo p e below _ (T_1.setTop (mkF m 5 #[.val (.ref a1), .val (.ref a2), .val (.int (2 : Int32)), .val (.int (1 : Int32)), .unset, .unset] [(.int (1 : Int32))]))
  refine OGo.to (fun _ k => XS.istore X_1.here hx rfl (hb hby d10_5) rfl (l' := #[.val (.ref a1), .val (.ref a2), .val (.int (2 : Int32)), .val (.int (1 : Int32)), .val (.int (1 : Int32)), .unset]) rfl k) ?_
  refine OGo.to (fun _ k => XS.aloadN X_1.here hx rfl (hb hby d10_7) rfl rfl k) ?_
  refine OGo.to (fun _ k => XS.aloadN X_1.here hx rfl (hb hby d10_8) rfl rfl k) ?_
  refine OGo.to (fun _ k => XS.iload X_1.here hx rfl (hb hby d10_9) rfl k) ?_
  obtain ⟨_, T_2, Lc_2, X_2, hQ_2, st_2⟩ := own_un X_1 (Q := Qmm21 Z a1 a2 ka kb x0 x1 y0 h0 n0) (rc := 0) (rs := 0) (W := fun v B => ∀ target, Steps p.tables e below (B.setTop { (mkF m 11 #[.val (.ref a1), .val (.ref a2), .val (.int (2 : Int32)), .val (.int (1 : Int32)), .val (.int (1 : Int32)), .unset] [(.int (1 : Int32)), (.ref a2), (.ref a1)]) with pc := 14, stack := v.toList ++ [] }) target → Steps p.tables e below (T_1.setTop (mkF m 11 #[.val (.ref a1), .val (.ref a2), .val (.int (2 : Int32)), .val (.int (1 : Int32)), .val (.int (1 : Int32)), .unset] [(.int (1 : Int32)), (.ref a2), (.ref a1)])) target) <| Jvm.LawKit.callS X_1 hx (y := (⟨"jdk/internal/util/ArraysSupport", "mismatch", "([B[BI)I"⟩ : MethodName)) hown (mvT hZ (hw _ (List.mem_of_getElem? (i := 58) rfl))) (mvT hZ (hw _ (List.mem_of_getElem? (i := 59) rfl))) (mvT hZ (hw _ (List.mem_of_getElem? (i := 60) rfl))) (mvT hZ (hw _ (List.mem_of_getElem? (i := 61) rfl))) (by decide) (backOf (W := 0) (rmmm21 l Z a0 hw [] a1 a2 ka kb x0 x1 y0 h0 n0 Z0 VX VY) hZ (hw _ (List.mem_of_getElem? (i := 61) rfl)) (hw _ (List.mem_of_getElem? (i := 60) rfl)) (by decide) (by decide)) (g := (mkF m 11 #[.val (.ref a1), .val (.ref a2), .val (.int (2 : Int32)), .val (.int (1 : Int32)), .val (.int (1 : Int32)), .unset] [(.int (1 : Int32)), (.ref a2), (.ref a1)])) rfl (by rw [hml]; rfl) (argsL := [(.ref a1), (.ref a2), (.int (1 : Int32))]) (rest := []) (lenOf pd_10 rfl) rfl (by show 2 * 0 + _ ≤ _; exact Nat.le_of_eq rfl) (hb hby d10_11) (fun _ _ => ⟨rfl, e_1, (by decide : 0 + 0 ≤ _), (by decide : 0 + 0 ≤ _)⟩)
  obtain ⟨r__2, rfl, N_2q, e_2, p_2_0⟩ := hQ_2
  have N_2 := Fr.app N_1 N_2q
  refine OGo.to st_2 ?_
  show OGo p e below _ (T_2.setTop (mkF m 14 #[.val (.ref a1), .val (.ref a2), .val (.int (2 : Int32)), .val (.int (1 : Int32)), .val (.int (1 : Int32)), .unset] [(.int r__2)]))
  rcases p_2_0 with ⟨q0, rfl⟩ | ⟨q0, rfl⟩
  ·
    show OGo p e below _ (T_2.setTop (mkF m 14 #[.val (.ref a1), .val (.ref a2), .val (.int (2 : Int32)), .val (.int (1 : Int32)), .val (.int (1 : Int32)), .unset] [(.int (-1 : Int32))]))
    refine OGo.to (fun _ k => XS.istore X_2.here hx rfl (hb hby d10_14) rfl (l' := #[.val (.ref a1), .val (.ref a2), .val (.int (2 : Int32)), .val (.int (1 : Int32)), .val (.int (1 : Int32)), .val (.int (-1 : Int32))]) rfl k) ?_
    refine OGo.to (fun _ k => XS.iload X_2.here hx rfl (hb hby d10_16) rfl k) ?_
    have hc18__3 : (-1 : Int32) < (0 : Int32) := by decide
    refine OGo.to (fun _ k => XS.ifNo X_2.here hx rfl (hb hby d10_18) rfl ((if0 _ _).trans (tlt hc18__3).2.1) k) ?_
    show OGo p e below _ (T_2.setTop (mkF m 21 #[.val (.ref a1), .val (.ref a2), .val (.int (2 : Int32)), .val (.int (1 : Int32)), .val (.int (1 : Int32)), .val (.int (-1 : Int32))] []))
    refine OGo.to (fun _ k => XS.iloadN X_2.here hx rfl (hb hby d10_21) rfl k) ?_
    refine OGo.to (fun _ k => XS.iloadN X_2.here hx rfl (hb hby d10_22) rfl k) ?_
    refine OGo.to (fun _ k => XS.isub X_2.here hx rfl (hb hby d10_23) rfl k) ?_
    refine OGo.to (fun _ k => XS.goto X_2.here hx rfl (pc0 := 24) (pc' := 40) rfl (hb hby d10_24) (by decide) (by decide) k) ?_
    refine OGo.ret (Q := Qc421 Z a1 a2 ka kb x0 x1 y0 h0 n0) X_2 (some (.int (1 : Int32))) (fun h => by rw [Bd.returns] at h; cases h) Bd.notSynchronized (fun fs hr => retI X_2 hx Bd.returns (hb hby d10_40) hr) ?_ (by decide) (by decide)
    show Qc421 Z a1 a2 ka kb x0 x1 y0 h0 n0 _ T_2.heap _
    rw [e_2]
    exact ⟨congrArg (fun z => some (Value.int z)) (show (1 : Int32) = (own_scmp [x0, x1] [y0]) from by rw [own_scmp_cc, if_pos q0]; show _ = own_i 1 - own_i 0; decide), N_2, rfl⟩
  ·
    show OGo p e below _ (T_2.setTop (mkF m 14 #[.val (.ref a1), .val (.ref a2), .val (.int (2 : Int32)), .val (.int (1 : Int32)), .val (.int (1 : Int32)), .unset] [(.int (0 : Int32))]))
    refine OGo.to (fun _ k => XS.istore X_2.here hx rfl (hb hby d10_14) rfl (l' := #[.val (.ref a1), .val (.ref a2), .val (.int (2 : Int32)), .val (.int (1 : Int32)), .val (.int (1 : Int32)), .val (.int (0 : Int32))]) rfl k) ?_
    refine OGo.to (fun _ k => XS.iload X_2.here hx rfl (hb hby d10_16) rfl k) ?_
    have hc18__4 : ¬ ((0 : Int32) < (0 : Int32)) := by decide
    refine OGo.to (fun _ k => XS.ifYes X_2.here hx rfl (pc0 := 18) (pc' := 27) rfl (hb hby d10_18) rfl ((if0 _ _).trans (flt hc18__4).2.1) (by decide) (by decide) k) ?_
    show OGo p e below _ (T_2.setTop (mkF m 27 #[.val (.ref a1), .val (.ref a2), .val (.int (2 : Int32)), .val (.int (1 : Int32)), .val (.int (1 : Int32)), .val (.int (0 : Int32))] []))
    refine OGo.to (fun _ k => XS.aloadN X_2.here hx rfl (hb hby d10_27) rfl rfl k) ?_
    show OGo p e below _ (T_2.setTop (mkF m 28 #[.val (.ref a1), .val (.ref a2), .val (.int (2 : Int32)), .val (.int (1 : Int32)), .val (.int (1 : Int32)), .val (.int (0 : Int32))] [(.ref a1)]))
    refine OGo.to (fun _ k => XS.iload X_2.here hx rfl (hb hby d10_28) rfl k) ?_
    obtain ⟨_, T_5, Lc_5, X_5, hQ_5, st_5⟩ := own_un X_2 (Q := Qgc2_0 Z a1 ka x0 x1 h0 n0) (rc := 0) (rs := 0) (W := fun v B => ∀ target, Steps p.tables e below (B.setTop { (mkF m 30 #[.val (.ref a1), .val (.ref a2), .val (.int (2 : Int32)), .val (.int (1 : Int32)), .val (.int (1 : Int32)), .val (.int (0 : Int32))] [(.int (0 : Int32)), (.ref a1)]) with pc := 33, stack := v.toList ++ [] }) target → Steps p.tables e below (T_2.setTop (mkF m 30 #[.val (.ref a1), .val (.ref a2), .val (.int (2 : Int32)), .val (.int (1 : Int32)), .val (.int (1 : Int32)), .val (.int (0 : Int32))] [(.int (0 : Int32)), (.ref a1)])) target) <| Jvm.LawKit.callS X_2 hx (y := (⟨"java/lang/StringLatin1", "getChar", "([BI)C"⟩ : MethodName)) hown (mvT hZ (hw _ (List.mem_of_getElem? (i := 105) rfl))) (mvT hZ (hw _ (List.mem_of_getElem? (i := 106) rfl))) (mvT hZ (hw _ (List.mem_of_getElem? (i := 49) rfl))) (mvT hZ (hw _ (List.mem_of_getElem? (i := 107) rfl))) (by decide) (backOf (W := 0) (rmgc2_0 l Z a0 hw [] a1 ka x0 x1 h0 n0 Z0 VX) hZ (hw _ (List.mem_of_getElem? (i := 107) rfl)) (hw _ (List.mem_of_getElem? (i := 49) rfl)) (by decide) (by decide)) (g := (mkF m 30 #[.val (.ref a1), .val (.ref a2), .val (.int (2 : Int32)), .val (.int (1 : Int32)), .val (.int (1 : Int32)), .val (.int (0 : Int32))] [(.int (0 : Int32)), (.ref a1)])) rfl (by rw [hml]; rfl) (argsL := [(.ref a1), (.int (0 : Int32))]) (rest := []) (lenOf pd_12 rfl) rfl (by show 2 * 0 + _ ≤ _; exact Nat.le_of_eq rfl) (hb hby d10_30) (fun _ _ => ⟨rfl, e_2, (by decide : 0 + 0 ≤ _), (by decide : 0 + 0 ≤ _)⟩)
    obtain ⟨rfl, N_5q, e_5⟩ := hQ_5
    have N_5 := Fr.app N_2 N_5q
    refine OGo.to st_5 ?_
    show OGo p e below _ (T_5.setTop (mkF m 33 #[.val (.ref a1), .val (.ref a2), .val (.int (2 : Int32)), .val (.int (1 : Int32)), .val (.int (1 : Int32)), .val (.int (0 : Int32))] [(.int (own_gc x0))]))
    refine OGo.to (fun _ k => XS.aloadN X_5.here hx rfl (hb hby d10_33) rfl rfl k) ?_
    refine OGo.to (fun _ k => XS.iload X_5.here hx rfl (hb hby d10_34) rfl k) ?_
    obtain ⟨_, T_6, Lc_6, X_6, hQ_6, st_6⟩ := own_un X_5 (Q := Qgc1_0 Z a2 kb y0 h0 n0) (rc := 0) (rs := 0) (W := fun v B => ∀ target, Steps p.tables e below (B.setTop { (mkF m 36 #[.val (.ref a1), .val (.ref a2), .val (.int (2 : Int32)), .val (.int (1 : Int32)), .val (.int (1 : Int32)), .val (.int (0 : Int32))] [(.int (0 : Int32)), (.ref a2), (.int (own_gc x0))]) with pc := 39, stack := v.toList ++ [(.int (own_gc x0))] }) target → Steps p.tables e below (T_5.setTop (mkF m 36 #[.val (.ref a1), .val (.ref a2), .val (.int (2 : Int32)), .val (.int (1 : Int32)), .val (.int (1 : Int32)), .val (.int (0 : Int32))] [(.int (0 : Int32)), (.ref a2), (.int (own_gc x0))])) target) <| Jvm.LawKit.callS X_5 hx (y := (⟨"java/lang/StringLatin1", "getChar", "([BI)C"⟩ : MethodName)) hown (mvT hZ (hw _ (List.mem_of_getElem? (i := 105) rfl))) (mvT hZ (hw _ (List.mem_of_getElem? (i := 106) rfl))) (mvT hZ (hw _ (List.mem_of_getElem? (i := 49) rfl))) (mvT hZ (hw _ (List.mem_of_getElem? (i := 107) rfl))) (by decide) (backOf (W := 1) (rmgc1_0 l Z a0 hw [] a2 kb y0 h0 n0 Z0 VY) hZ (hw _ (List.mem_of_getElem? (i := 107) rfl)) (hw _ (List.mem_of_getElem? (i := 49) rfl)) (by decide) (by decide)) (g := (mkF m 36 #[.val (.ref a1), .val (.ref a2), .val (.int (2 : Int32)), .val (.int (1 : Int32)), .val (.int (1 : Int32)), .val (.int (0 : Int32))] [(.int (0 : Int32)), (.ref a2), (.int (own_gc x0))])) rfl (by rw [hml]; rfl) (argsL := [(.ref a2), (.int (0 : Int32))]) (rest := [(.int (own_gc x0))]) (lenOf pd_12 rfl) rfl (by show 2 * 0 + _ ≤ _; exact Nat.le_of_eq rfl) (hb hby d10_36) (fun _ _ => ⟨rfl, e_5, (by decide : 0 + 0 ≤ _), (by decide : 0 + 0 ≤ _)⟩)
    obtain ⟨rfl, N_6q, e_6⟩ := hQ_6
    have N_6 := Fr.app N_5 N_6q
    refine OGo.to st_6 ?_
    show OGo p e below _ (T_6.setTop (mkF m 39 #[.val (.ref a1), .val (.ref a2), .val (.int (2 : Int32)), .val (.int (1 : Int32)), .val (.int (1 : Int32)), .val (.int (0 : Int32))] [(.int (own_gc y0)), (.int (own_gc x0))]))
    refine OGo.to (fun _ k => XS.isub X_6.here hx rfl (hb hby d10_39) rfl k) ?_
    refine OGo.ret (Q := Qc421 Z a1 a2 ka kb x0 x1 y0 h0 n0) X_6 (some (.int ((own_gc x0) - (own_gc y0)))) (fun h => by rw [Bd.returns] at h; cases h) Bd.notSynchronized (fun fs hr => retI X_6 hx Bd.returns (hb hby d10_40) hr) ?_ (by decide) (by decide)
    show Qc421 Z a1 a2 ka kb x0 x1 y0 h0 n0 _ T_6.heap _
    rw [e_6]
    exact ⟨congrArg (fun z => some (Value.int z)) (show ((own_gc x0) - (own_gc y0)) = (own_scmp [x0, x1] [y0]) from by rw [own_scmp_cc, if_neg q0]), N_6, rfl⟩
theorem ef_c221 (m : MethodId) (x0 : Addr) (x1 : Addr) : entryFrame m #[(.ref x0), (.ref x1)] 4 = mkF m 0 #[.val (.ref x0), .val (.ref x1), .unset, .unset] [] := by first | (simp [entryFrame, mkF, argsToLocals, Value.category]; done) | rfl
def Qc221 (Z : State) (a1 : Addr) (a2 : Addr) (ka : ClassId) (kb : ClassId) (x0 : Int32) (x1 : Int32) (y0 : Int32) (h0 : Heap) (n0 : Nat) (v : Option Value) (h : Heap) (L : List Loc) : Prop := v = some (.int (own_scmp [x0, x1] [y0])) ∧ Fr n0 L ∧ h = h0
set_option maxRecDepth 65536 in
set_option maxHeartbeats 40000000 in
theorem rmc221 (l : Launch) (Z : State) (a0 : Array Value) (hw : ∀ d ∈ tables_1, d.before a0 Z = true) (ws : List Jvm.Cond) (a1 : Addr) (a2 : Addr) (ka : ClassId) (kb : ClassId) (x0 : Int32) (x1 : Int32) (y0 : Int32) (h0 : Heap) (n0 : Nat) (Z0 : n0 ≤ h0.size) (VX : Arv Z h0 a1 ka .byte (2 : Int32) [(.int x0), (.int x1)] (.int (0 : Int32))) (VY : Arv Z h0 a2 kb .byte (1 : Int32) [(.int y0)] (.int (0 : Int32))) :
    MetFree l (⟨"java/lang/StringLatin1", "compareTo", "([B[B)I"⟩ : MethodName) (head1 (Jvm.Cond.code (⟨"java/lang/StringLatin1", "compareTo", "([B[B)I"⟩ : MethodName) jdk_43_method_14_code 4 (some .int) :: ws) ({ frames := 2, cells := 0, slots := 0, locals := 32 } : Room)) (fun a U => a = #[(.ref a1), (.ref a2)] ∧ Z.Warmed39 U.vm ∧ U.heap = h0) (fun _ _ _ _ _ => True) (fun _ U o U' => ∃ v L, o = .returned v ∧ Qc221 Z a1 a2 ka kb x0 x1 y0 h0 n0 v U'.heap L ∧ FrameEnd U o U' L ({ frames := 2, cells := 0, slots := 0, locals := 32 } : Room).cells ({ frames := 2, cells := 0, slots := 0, locals := 32 } : Room).slots) := by
  refine MetFree.of_bodySF (plainFor_of_name pn_0) hisR ?_
  intro p e s m args below meth c s₁ Bd hml0 hP hK
  obtain ⟨rfl, hZ, hh⟩ := hP
  have hx := Bd.exec
  have hby := Bd.bytes
  have hml : c.maxLocals = 4 := hml0
  have hown : s.vm.findClass "java/lang/StringLatin1" = some m.cls := findClass_of_methodNamed Bd.named
  have hnm := (name_of_methodNamed Bd.named Bd.method).1
  have X0 : Stand p l e ({ frames := 2, cells := 0, slots := 0, locals := 32 } : Room) s m #[(.ref a1), (.ref a2)] below meth c s₁ [] 0 0 := Stand.of_body Bd
  have e0 : s₁.heap = h0 := by rw [← hh, Bd.state]; rfl
  have N0 := Fr.nil n0
  show OGo p e below (fun s₂ o => ∃ v L, o = .returned v ∧ Qc221 Z a1 a2 ka kb x0 x1 y0 h0 n0 v s₂.heap L ∧ FrameEnd s o s₂ L ({ frames := 2, cells := 0, slots := 0, locals := 32 } : Room).cells ({ frames := 2, cells := 0, slots := 0, locals := 32 } : Room).slots) _
  refine OGo.to (fun _ k => castTop (ef_c221 m a1 a2) k) ?_
  refine OGo.to (fun _ k => XS.aloadN X0.here hx rfl (hb hby d9_0) rfl rfl k) ?_
  have Vq_1 := VX
  obtain ⟨cl_1, Ar_1, q_1, S_1, M_1, Hs_1, G_1⟩ := Vq_1
  refine OGo.to (fun _ k => X0.arraylength hx (by rw [e0]; exact Ar_1.1) (State.isArrayOf_alike hZ.alike Ar_1.2.1) (g := (mkF m 1 #[.val (.ref a1), .val (.ref a2), .unset, .unset] [(.ref a1)])) rfl rfl (hb hby d9_1) _ k) ?_
  rw [len_of S_1 M_1]
  show OGo p e below _ (s₁.setTop (mkF m 2 #[.val (.ref a1), .val (.ref a2), .unset, .unset] [(.int (2 : Int32))]))
  refine OGo.to (fun _ k => XS.istoreN X0.here hx rfl (hb hby d9_2) rfl (l' := #[.val (.ref a1), .val (.ref a2), .val (.int (2 : Int32)), .unset]) rfl k) ?_
  refine OGo.to (fun _ k => XS.aloadN X0.here hx rfl (hb hby d9_3) rfl rfl k) ?_
  have Vq_2 := VY
  obtain ⟨cl_2, Ar_2, q_2, S_2, M_2, Hs_2, G_2⟩ := Vq_2
  refine OGo.to (fun _ k => X0.arraylength hx (by rw [e0]; exact Ar_2.1) (State.isArrayOf_alike hZ.alike Ar_2.2.1) (g := (mkF m 4 #[.val (.ref a1), .val (.ref a2), .val (.int (2 : Int32)), .unset] [(.ref a2)])) rfl rfl (hb hby d9_4) _ k) ?_
  rw [len_of S_2 M_2]
  show OGo p e below _ (s₁.setTop (mkF m 5 #[.val (.ref a1), .val (.ref a2), .val (.int (2 : Int32)), .unset] [(.int (1 : Int32))]))
  refine OGo.to (fun _ k => XS.istoreN X0.here hx rfl (hb hby d9_5) rfl (l' := #[.val (.ref a1), .val (.ref a2), .val (.int (2 : Int32)), .val (.int (1 : Int32))]) rfl k) ?_
  refine OGo.to (fun _ k => XS.aloadN X0.here hx rfl (hb hby d9_6) rfl rfl k) ?_
  refine OGo.to (fun _ k => XS.aloadN X0.here hx rfl (hb hby d9_7) rfl rfl k) ?_
  refine OGo.to (fun _ k => XS.iloadN X0.here hx rfl (hb hby d9_8) rfl k) ?_
  refine OGo.to (fun _ k => XS.iloadN X0.here hx rfl (hb hby d9_9) rfl k) ?_
  obtain ⟨_, T_3, Lc_3, X_3, hQ_3, st_3⟩ := own_un X0 (Q := Qc421 Z a1 a2 ka kb x0 x1 y0 h0 n0) (rc := 0) (rs := 0) (W := fun v B => ∀ target, Steps p.tables e below (B.setTop { (mkF m 10 #[.val (.ref a1), .val (.ref a2), .val (.int (2 : Int32)), .val (.int (1 : Int32))] [(.int (1 : Int32)), (.int (2 : Int32)), (.ref a2), (.ref a1)]) with pc := 13, stack := v.toList ++ [] }) target → Steps p.tables e below (s₁.setTop (mkF m 10 #[.val (.ref a1), .val (.ref a2), .val (.int (2 : Int32)), .val (.int (1 : Int32))] [(.int (1 : Int32)), (.int (2 : Int32)), (.ref a2), (.ref a1)])) target) <| Jvm.LawKit.callS X0 hx (y := (⟨"java/lang/StringLatin1", "compareTo", "([B[BII)I"⟩ : MethodName)) hown (mvT hZ (hw _ (List.mem_of_getElem? (i := 51) rfl))) (mvT hZ (hw _ (List.mem_of_getElem? (i := 52) rfl))) (mvT hZ (hw _ (List.mem_of_getElem? (i := 49) rfl))) (mvT hZ (hw _ (List.mem_of_getElem? (i := 53) rfl))) (by decide) (backOf (W := 0) (rmc421 l Z a0 hw [] a1 a2 ka kb x0 x1 y0 h0 n0 Z0 VX VY) hZ (hw _ (List.mem_of_getElem? (i := 53) rfl)) (hw _ (List.mem_of_getElem? (i := 49) rfl)) (by decide) (by decide)) (g := (mkF m 10 #[.val (.ref a1), .val (.ref a2), .val (.int (2 : Int32)), .val (.int (1 : Int32))] [(.int (1 : Int32)), (.int (2 : Int32)), (.ref a2), (.ref a1)])) rfl (by rw [hml]; rfl) (argsL := [(.ref a1), (.ref a2), (.int (2 : Int32)), (.int (1 : Int32))]) (rest := []) (lenOf pd_11 rfl) rfl (by show 2 * 0 + _ ≤ _; exact Nat.le_of_eq rfl) (hb hby d9_10) (fun _ _ => ⟨rfl, e0, (by decide : 0 + 0 ≤ _), (by decide : 0 + 0 ≤ _)⟩)
  obtain ⟨rfl, N_3q, e_3⟩ := hQ_3
  have N_3 := Fr.app N0 N_3q
  refine OGo.to st_3 ?_
  show OGo p e below _ (T_3.setTop (mkF m 13 #[.val (.ref a1), .val (.ref a2), .val (.int (2 : Int32)), .val (.int (1 : Int32))] [(.int (own_scmp [x0, x1] [y0]))]))
  refine OGo.ret (Q := Qc221 Z a1 a2 ka kb x0 x1 y0 h0 n0) X_3 (some (.int (own_scmp [x0, x1] [y0]))) (fun h => by rw [Bd.returns] at h; cases h) Bd.notSynchronized (fun fs hr => retI X_3 hx Bd.returns (hb hby d9_13) hr) ?_ (by decide) (by decide)
  show Qc221 Z a1 a2 ka kb x0 x1 y0 h0 n0 _ T_3.heap _
  rw [e_3]
  exact ⟨rfl, N_3, rfl⟩
theorem ef_eq21 (m : MethodId) (x0 : Addr) (x1 : Addr) : entryFrame m #[(.ref x0), (.ref x1)] 3 = mkF m 0 #[.val (.ref x0), .val (.ref x1), .unset] [] := by first | (simp [entryFrame, mkF, argsToLocals, Value.category]; done) | rfl
def Qeq21 (Z : State) (a1 : Addr) (a2 : Addr) (ka : ClassId) (kb : ClassId) (x0 : Int32) (x1 : Int32) (y0 : Int32) (h0 : Heap) (n0 : Nat) (v : Option Value) (h : Heap) (L : List Loc) : Prop := v = some (.int (own_seq [x0, x1] [y0])) ∧ Fr n0 L ∧ h = h0
set_option maxRecDepth 65536 in
set_option maxHeartbeats 40000000 in
theorem rmeq21 (l : Launch) (Z : State) (a0 : Array Value) (hw : ∀ d ∈ tables_1, d.before a0 Z = true) (ws : List Jvm.Cond) (a1 : Addr) (a2 : Addr) (ka : ClassId) (kb : ClassId) (x0 : Int32) (x1 : Int32) (y0 : Int32) (h0 : Heap) (n0 : Nat) (Z0 : n0 ≤ h0.size) (VX : Arv Z h0 a1 ka .byte (2 : Int32) [(.int x0), (.int x1)] (.int (0 : Int32))) (VY : Arv Z h0 a2 kb .byte (1 : Int32) [(.int y0)] (.int (0 : Int32))) :
    MetFree l (⟨"java/lang/StringLatin1", "equals", "([B[B)Z"⟩ : MethodName) (head1 (Jvm.Cond.code (⟨"java/lang/StringLatin1", "equals", "([B[B)Z"⟩ : MethodName) jdk_43_method_13_code 3 (some .boolean) :: ws) ({ frames := 0, cells := 0, slots := 0, locals := 0 } : Room)) (fun a U => a = #[(.ref a1), (.ref a2)] ∧ Z.Warmed39 U.vm ∧ U.heap = h0) (fun _ _ _ _ _ => True) (fun _ U o U' => ∃ v L, o = .returned v ∧ Qeq21 Z a1 a2 ka kb x0 x1 y0 h0 n0 v U'.heap L ∧ FrameEnd U o U' L ({ frames := 0, cells := 0, slots := 0, locals := 0 } : Room).cells ({ frames := 0, cells := 0, slots := 0, locals := 0 } : Room).slots) := by
  refine MetFree.of_bodySF (plainFor_of_name pn_0) hisR ?_
  intro p e s m args below meth c s₁ Bd hml0 hP hK
  obtain ⟨rfl, hZ, hh⟩ := hP
  have hx := Bd.exec
  have hby := Bd.bytes
  have hml : c.maxLocals = 3 := hml0
  have hown : s.vm.findClass "java/lang/StringLatin1" = some m.cls := findClass_of_methodNamed Bd.named
  have hnm := (name_of_methodNamed Bd.named Bd.method).1
  have X0 : Stand p l e ({ frames := 0, cells := 0, slots := 0, locals := 0 } : Room) s m #[(.ref a1), (.ref a2)] below meth c s₁ [] 0 0 := Stand.of_body Bd
  have e0 : s₁.heap = h0 := by rw [← hh, Bd.state]; rfl
  have N0 := Fr.nil n0
  show OGo p e below (fun s₂ o => ∃ v L, o = .returned v ∧ Qeq21 Z a1 a2 ka kb x0 x1 y0 h0 n0 v s₂.heap L ∧ FrameEnd s o s₂ L ({ frames := 0, cells := 0, slots := 0, locals := 0 } : Room).cells ({ frames := 0, cells := 0, slots := 0, locals := 0 } : Room).slots) _
  refine OGo.to (fun _ k => castTop (ef_eq21 m a1 a2) k) ?_
  refine OGo.to (fun _ k => XS.aloadN X0.here hx rfl (hb hby d15_0) rfl rfl k) ?_
  have Vq_1 := VX
  obtain ⟨cl_1, Ar_1, q_1, S_1, M_1, Hs_1, G_1⟩ := Vq_1
  refine OGo.to (fun _ k => X0.arraylength hx (by rw [e0]; exact Ar_1.1) (State.isArrayOf_alike hZ.alike Ar_1.2.1) (g := (mkF m 1 #[.val (.ref a1), .val (.ref a2), .unset] [(.ref a1)])) rfl rfl (hb hby d15_1) _ k) ?_
  rw [len_of S_1 M_1]
  show OGo p e below _ (s₁.setTop (mkF m 2 #[.val (.ref a1), .val (.ref a2), .unset] [(.int (2 : Int32))]))
  refine OGo.to (fun _ k => XS.aloadN X0.here hx rfl (hb hby d15_2) rfl rfl k) ?_
  have Vq_2 := VY
  obtain ⟨cl_2, Ar_2, q_2, S_2, M_2, Hs_2, G_2⟩ := Vq_2
  refine OGo.to (fun _ k => X0.arraylength hx (by rw [e0]; exact Ar_2.1) (State.isArrayOf_alike hZ.alike Ar_2.2.1) (g := (mkF m 3 #[.val (.ref a1), .val (.ref a2), .unset] [(.ref a2), (.int (2 : Int32))])) rfl rfl (hb hby d15_3) _ k) ?_
  rw [len_of S_2 M_2]
  show OGo p e below _ (s₁.setTop (mkF m 4 #[.val (.ref a1), .val (.ref a2), .unset] [(.int (1 : Int32)), (.int (2 : Int32))]))
  have hc4__3 : ¬ ((2 : Int32) = (1 : Int32)) := by decide
  refine OGo.to (fun _ k => XS.icmpYes X0.here hx rfl (pc0 := 4) (pc' := 34) rfl (hb hby d15_4) rfl (feq hc4__3).2 (by decide) (by decide) k) ?_
  show OGo p e below _ (s₁.setTop (mkF m 34 #[.val (.ref a1), .val (.ref a2), .unset] []))
  refine OGo.to (fun _ k => XS.iconst X0.here hx rfl (hb hby d15_34) k) ?_
  refine OGo.ret (Q := Qeq21 Z a1 a2 ka kb x0 x1 y0 h0 n0) X0 (some (.int (0 : Int32))) (fun h => by rw [Bd.returns] at h; cases h) Bd.notSynchronized (fun fs hr => retN X0 hx (t := .boolean) (z := (0 : Int32)) Bd.returns (by simp) (hb hby d15_35) hr) ?_ (by decide) (by decide)
  show Qeq21 Z a1 a2 ka kb x0 x1 y0 h0 n0 _ s₁.heap _
  rw [e0]
  exact ⟨congrArg (fun z => some (Value.int z)) (show (0 : Int32) = (own_seq [x0, x1] [y0]) from own_seq_no (by simp [])), N0, rfl⟩
theorem ef_mn22 (m : MethodId) (x0 : Int32) (x1 : Int32) : entryFrame m #[(.int x0), (.int x1)] 2 = mkF m 0 #[.val (.int x0), .val (.int x1)] [] := by first | (simp [entryFrame, mkF, argsToLocals, Value.category]; done) | rfl
def Qmn22 (Z : State)  (h0 : Heap) (n0 : Nat) (v : Option Value) (h : Heap) (L : List Loc) : Prop := v = some (.int (2 : Int32)) ∧ Fr n0 L ∧ h = h0
set_option maxRecDepth 65536 in
set_option maxHeartbeats 40000000 in
theorem rmmn22 (l : Launch) (Z : State) (a0 : Array Value) (hw : ∀ d ∈ tables_1, d.before a0 Z = true) (ws : List Jvm.Cond)  (h0 : Heap) (n0 : Nat) (Z0 : n0 ≤ h0.size) :
    MetFree l (⟨"java/lang/Math", "min", "(II)I"⟩ : MethodName) (head1 (Jvm.Cond.code (⟨"java/lang/Math", "min", "(II)I"⟩ : MethodName) jdk_29_method_69_code 2 (some .int) :: ws) ({ frames := 0, cells := 0, slots := 0, locals := 0 } : Room)) (fun a U => a = #[(.int (2 : Int32)), (.int (2 : Int32))] ∧ Z.Warmed39 U.vm ∧ U.heap = h0) (fun _ _ _ _ _ => True) (fun _ U o U' => ∃ v L, o = .returned v ∧ Qmn22 Z  h0 n0 v U'.heap L ∧ FrameEnd U o U' L ({ frames := 0, cells := 0, slots := 0, locals := 0 } : Room).cells ({ frames := 0, cells := 0, slots := 0, locals := 0 } : Room).slots) := by
  refine MetFree.of_bodySF (Jvm.Free.JP.mathPlain rfl (by decide +kernel)) hisR ?_
  intro p e s m args below meth c s₁ Bd hml0 hP hK
  obtain ⟨rfl, hZ, hh⟩ := hP
  have hx := Bd.exec
  have hby := Bd.bytes
  have hml : c.maxLocals = 2 := hml0
  have hown : s.vm.findClass "java/lang/Math" = some m.cls := findClass_of_methodNamed Bd.named
  have hnm := (name_of_methodNamed Bd.named Bd.method).1
  have X0 : Stand p l e ({ frames := 0, cells := 0, slots := 0, locals := 0 } : Room) s m #[(.int (2 : Int32)), (.int (2 : Int32))] below meth c s₁ [] 0 0 := Stand.of_body Bd
  have e0 : s₁.heap = h0 := by rw [← hh, Bd.state]; rfl
  have N0 := Fr.nil n0
  show OGo p e below (fun s₂ o => ∃ v L, o = .returned v ∧ Qmn22 Z  h0 n0 v s₂.heap L ∧ FrameEnd s o s₂ L ({ frames := 0, cells := 0, slots := 0, locals := 0 } : Room).cells ({ frames := 0, cells := 0, slots := 0, locals := 0 } : Room).slots) _
  refine OGo.to (fun _ k => castTop (ef_mn22 m (2 : Int32) (2 : Int32)) k) ?_
  refine OGo.to (fun _ k => XS.iloadN X0.here hx rfl (hb hby d11_0) rfl k) ?_
  refine OGo.to (fun _ k => XS.iloadN X0.here hx rfl (hb hby d11_1) rfl k) ?_
  have hc2__1 : ¬ ((2 : Int32) < (2 : Int32)) := by decide
  refine OGo.to (fun _ k => XS.icmpNo X0.here hx rfl (hb hby d11_2) rfl (flt hc2__1).2.2.1 k) ?_
  show OGo p e below _ (s₁.setTop (mkF m 5 #[.val (.int (2 : Int32)), .val (.int (2 : Int32))] []))
  refine OGo.to (fun _ k => XS.iloadN X0.here hx rfl (hb hby d11_5) rfl k) ?_
  refine OGo.to (fun _ k => XS.goto X0.here hx rfl (pc0 := 6) (pc' := 10) rfl (hb hby d11_6) (by decide) (by decide) k) ?_
  refine OGo.ret (Q := Qmn22 Z  h0 n0) X0 (some (.int (2 : Int32))) (fun h => by rw [Bd.returns] at h; cases h) Bd.notSynchronized (fun fs hr => retI X0 hx Bd.returns (hb hby d11_10) hr) ?_ (by decide) (by decide)
  show Qmn22 Z  h0 n0 _ s₁.heap _
  rw [e0]
  exact ⟨rfl, N0, rfl⟩
theorem ef_mm22 (m : MethodId) (x0 : Addr) (x1 : Addr) (x2 : Int32) : entryFrame m #[(.ref x0), (.ref x1), (.int x2)] 4 = mkF m 0 #[.val (.ref x0), .val (.ref x1), .val (.int x2), .unset] [] := by first | (simp [entryFrame, mkF, argsToLocals, Value.category]; done) | rfl
def Qmm22 (Z : State) (a1 : Addr) (a2 : Addr) (ka : ClassId) (kb : ClassId) (x0 : Int32) (x1 : Int32) (y0 : Int32) (y1 : Int32) (h0 : Heap) (n0 : Nat) (v : Option Value) (h : Heap) (L : List Loc) : Prop := ∃ (r : Int32), v = some (.int r) ∧ Fr n0 L ∧ h = h0 ∧ ((x0 = y0 ∧ x1 = y1 ∧ r = (-1 : Int32)) ∨ (x0 = y0 ∧ ¬ x1 = y1 ∧ r = (1 : Int32)) ∨ (¬ x0 = y0 ∧ r = (0 : Int32)))
set_option maxRecDepth 65536 in
set_option maxHeartbeats 40000000 in
theorem rmmm22 (l : Launch) (Z : State) (a0 : Array Value) (hw : ∀ d ∈ tables_1, d.before a0 Z = true) (ws : List Jvm.Cond) (a1 : Addr) (a2 : Addr) (ka : ClassId) (kb : ClassId) (x0 : Int32) (x1 : Int32) (y0 : Int32) (y1 : Int32) (h0 : Heap) (n0 : Nat) (Z0 : n0 ≤ h0.size) (VX : Arv Z h0 a1 ka .byte (2 : Int32) [(.int x0), (.int x1)] (.int (0 : Int32))) (VY : Arv Z h0 a2 kb .byte (2 : Int32) [(.int y0), (.int y1)] (.int (0 : Int32))) :
    MetFree l (⟨"jdk/internal/util/ArraysSupport", "mismatch", "([B[BI)I"⟩ : MethodName) (head1 (Jvm.Cond.code (⟨"jdk/internal/util/ArraysSupport", "mismatch", "([B[BI)I"⟩ : MethodName) jdk_48_method_13_code 4 (some .int) :: ws) ({ frames := 0, cells := 0, slots := 0, locals := 0 } : Room)) (fun a U => a = #[(.ref a1), (.ref a2), (.int (2 : Int32))] ∧ Z.Warmed39 U.vm ∧ U.heap = h0) (fun _ _ _ _ _ => True) (fun _ U o U' => ∃ v L, o = .returned v ∧ Qmm22 Z a1 a2 ka kb x0 x1 y0 y1 h0 n0 v U'.heap L ∧ FrameEnd U o U' L ({ frames := 0, cells := 0, slots := 0, locals := 0 } : Room).cells ({ frames := 0, cells := 0, slots := 0, locals := 0 } : Room).slots) := by
  refine MetFree.of_bodySF (plainFor_of_name pn_4) hisR ?_
  intro p e s m args below meth c s₁ Bd hml0 hP hK
  obtain ⟨rfl, hZ, hh⟩ := hP
  have hx := Bd.exec
  have hby := Bd.bytes
  have hml : c.maxLocals = 4 := hml0
  have hown : s.vm.findClass "jdk/internal/util/ArraysSupport" = some m.cls := findClass_of_methodNamed Bd.named
  have hnm := (name_of_methodNamed Bd.named Bd.method).1
  have X0 : Stand p l e ({ frames := 0, cells := 0, slots := 0, locals := 0 } : Room) s m #[(.ref a1), (.ref a2), (.int (2 : Int32))] below meth c s₁ [] 0 0 := Stand.of_body Bd
  have e0 : s₁.heap = h0 := by rw [← hh, Bd.state]; rfl
  have N0 := Fr.nil n0
  show OGo p e below (fun s₂ o => ∃ v L, o = .returned v ∧ Qmm22 Z a1 a2 ka kb x0 x1 y0 y1 h0 n0 v s₂.heap L ∧ FrameEnd s o s₂ L ({ frames := 0, cells := 0, slots := 0, locals := 0 } : Room).cells ({ frames := 0, cells := 0, slots := 0, locals := 0 } : Room).slots) _
  refine OGo.to (fun _ k => castTop (ef_mm22 m a1 a2 (2 : Int32)) k) ?_
  refine OGo.to (fun _ k => XS.iconst X0.here hx rfl (hb hby d12_0) k) ?_
  refine OGo.to (fun _ k => XS.istoreN X0.here hx rfl (hb hby d12_1) rfl (l' := #[.val (.ref a1), .val (.ref a2), .val (.int (2 : Int32)), .val (.int (0 : Int32))]) rfl k) ?_
  refine OGo.to (fun _ k => XS.iloadN X0.here hx rfl (hb hby d12_2) rfl k) ?_
  refine OGo.to (fun _ k => XS.bipush X0.here hx rfl (hb hby d12_3) k) ?_
  have hc5__1 : ¬ ((7 : Int32) < (2 : Int32)) := by decide
  refine OGo.to (fun _ k => XS.icmpYes X0.here hx rfl (pc0 := 5) (pc' := 49) rfl (hb hby d12_5) rfl (flt hc5__1).2.2.2 (by decide) (by decide) k) ?_
  show OGo p e below _ (s₁.setTop (mkF m 49 #[.val (.ref a1), .val (.ref a2), .val (.int (2 : Int32)), .val (.int (0 : Int32))] []))
  refine OGo.to (fun _ k => XS.iloadN X0.here hx rfl (hb hby d12_49) rfl k) ?_
  refine OGo.to (fun _ k => XS.iloadN X0.here hx rfl (hb hby d12_50) rfl k) ?_
  have hc51__2 : (0 : Int32) < (2 : Int32) := by decide
  refine OGo.to (fun _ k => XS.icmpNo X0.here hx rfl (hb hby d12_51) rfl (tlt hc51__2).2.1 k) ?_
  show OGo p e below _ (s₁.setTop (mkF m 54 #[.val (.ref a1), .val (.ref a2), .val (.int (2 : Int32)), .val (.int (0 : Int32))] []))
  refine OGo.to (fun _ k => XS.aloadN X0.here hx rfl (hb hby d12_54) rfl rfl k) ?_
  refine OGo.to (fun _ k => XS.iloadN X0.here hx rfl (hb hby d12_55) rfl k) ?_
  have Vq_3 := VX
  obtain ⟨cl_3, Ar_3, q_3, S_3, M_3, Hs_3, G_3⟩ := Vq_3
  have hin_4 : ¬ ((0 : Int32) < 0 ∨ cl_3.slots.size ≤ ((0 : Int32)).toNatClampNeg) := inb_of S_3 ⟨by decide, by decide⟩
  have hat_4 : cl_3.slots[((0 : Int32)).toNatClampNeg]? = some (.int x0) := Hs_3.at hin_4 (rfl)
  refine OGo.to (fun _ k => X0.baloadBytes hx (j := (0 : Int32)) (v := (.int x0)) (by rw [e0]; exact Ar_3.1) (State.isArrayOf_alike hZ.alike Ar_3.2.1) Ar_3.2.2 hin_4 hat_4 (g := (mkF m 56 #[.val (.ref a1), .val (.ref a2), .val (.int (2 : Int32)), .val (.int (0 : Int32))] [(.int (0 : Int32)), (.ref a1)])) rfl rfl (hb hby d12_56) _ k) ?_
  show OGo p e below _ (s₁.setTop (mkF m 57 #[.val (.ref a1), .val (.ref a2), .val (.int (2 : Int32)), .val (.int (0 : Int32))] [(.int x0)]))
  refine OGo.to (fun _ k => XS.aloadN X0.here hx rfl (hb hby d12_57) rfl rfl k) ?_
  refine OGo.to (fun _ k => XS.iloadN X0.here hx rfl (hb hby d12_58) rfl k) ?_
  have Vq_5 := VY
  obtain ⟨cl_5, Ar_5, q_5, S_5, M_5, Hs_5, G_5⟩ := Vq_5
  have hin_6 : ¬ ((0 : Int32) < 0 ∨ cl_5.slots.size ≤ ((0 : Int32)).toNatClampNeg) := inb_of S_5 ⟨by decide, by decide⟩
  have hat_6 : cl_5.slots[((0 : Int32)).toNatClampNeg]? = some (.int y0) := Hs_5.at hin_6 (rfl)
  refine OGo.to (fun _ k => X0.baloadBytes hx (j := (0 : Int32)) (v := (.int y0)) (by rw [e0]; exact Ar_5.1) (State.isArrayOf_alike hZ.alike Ar_5.2.1) Ar_5.2.2 hin_6 hat_6 (g := (mkF m 59 #[.val (.ref a1), .val (.ref a2), .val (.int (2 : Int32)), .val (.int (0 : Int32))] [(.int (0 : Int32)), (.ref a2), (.int x0)])) rfl rfl (hb hby d12_59) _ k) ?_
  show OGo p e below _ (s₁.setTop (mkF m 60 #[.val (.ref a1), .val (.ref a2), .val (.int (2 : Int32)), .val (.int (0 : Int32))] [(.int y0), (.int x0)]))
  by_cases hc60__7 : x0 = y0
  ·  -- pc 60: yes
    refine OGo.to (fun _ k => XS.icmpYes X0.here hx rfl (pc0 := 60) (pc' := 65) rfl (hb hby d12_60) rfl (teq hc60__7).1 (by decide) (by decide) k) ?_
    show OGo p e below _ (s₁.setTop (mkF m 65 #[.val (.ref a1), .val (.ref a2), .val (.int (2 : Int32)), .val (.int (0 : Int32))] []))
    refine OGo.to (fun _ k => XS.iinc X0.here hx rfl (hb hby d12_65) rfl (l' := #[.val (.ref a1), .val (.ref a2), .val (.int (2 : Int32)), .val (.int (1 : Int32))]) rfl k) ?_
    refine OGo.to (fun _ k => XS.goto X0.here hx rfl (pc0 := 68) (pc' := 49) rfl (hb hby d12_68) (by decide) (by decide) k) ?_
    refine OGo.to (fun _ k => XS.iloadN X0.here hx rfl (hb hby d12_49) rfl k) ?_
    refine OGo.to (fun _ k => XS.iloadN X0.here hx rfl (hb hby d12_50) rfl k) ?_
    have hc51__8 : (1 : Int32) < (2 : Int32) := by decide
    refine OGo.to (fun _ k => XS.icmpNo X0.here hx rfl (hb hby d12_51) rfl (tlt hc51__8).2.1 k) ?_
    show OGo p e below _ (s₁.setTop (mkF m 54 #[.val (.ref a1), .val (.ref a2), .val (.int (2 : Int32)), .val (.int (1 : Int32))] []))
    refine OGo.to (fun _ k => XS.aloadN X0.here hx rfl (hb hby d12_54) rfl rfl k) ?_
    show OGo p e below _ (s₁.setTop (mkF m 55 #[.val (.ref a1), .val (.ref a2), .val (.int (2 : Int32)), .val (.int (1 : Int32))] [(.ref a1)]))
    refine OGo.to (fun _ k => XS.iloadN X0.here hx rfl (hb hby d12_55) rfl k) ?_
    have Vq_9 := VX
    obtain ⟨cl_9, Ar_9, q_9, S_9, M_9, Hs_9, G_9⟩ := Vq_9
    have hin_10 : ¬ ((1 : Int32) < 0 ∨ cl_9.slots.size ≤ ((1 : Int32)).toNatClampNeg) := inb_of S_9 ⟨by decide, by decide⟩
    have hat_10 : cl_9.slots[((1 : Int32)).toNatClampNeg]? = some (.int x1) := Hs_9.at hin_10 (rfl)
    refine OGo.to (fun _ k => X0.baloadBytes hx (j := (1 : Int32)) (v := (.int x1)) (by rw [e0]; exact Ar_9.1) (State.isArrayOf_alike hZ.alike Ar_9.2.1) Ar_9.2.2 hin_10 hat_10 (g := (mkF m 56 #[.val (.ref a1), .val (.ref a2), .val (.int (2 : Int32)), .val (.int (1 : Int32))] [(.int (1 : Int32)), (.ref a1)])) rfl rfl (hb hby d12_56) _ k) ?_
    show OGo p e below _ (s₁.setTop (mkF m 57 #[.val (.ref a1), .val (.ref a2), .val (.int (2 : Int32)), .val (.int (1 : Int32))] [(.int x1)]))
    refine OGo.to (fun _ k => XS.aloadN X0.here hx rfl (hb hby d12_57) rfl rfl k) ?_
    refine OGo.to (fun _ k => XS.iloadN X0.here hx rfl (hb hby d12_58) rfl k) ?_
    have Vq_11 := VY
    obtain ⟨cl_11, Ar_11, q_11, S_11, M_11, Hs_11, G_11⟩ := Vq_11
    have hin_12 : ¬ ((1 : Int32) < 0 ∨ cl_11.slots.size ≤ ((1 : Int32)).toNatClampNeg) := inb_of S_11 ⟨by decide, by decide⟩
    have hat_12 : cl_11.slots[((1 : Int32)).toNatClampNeg]? = some (.int y1) := Hs_11.at hin_12 (rfl)
    refine OGo.to (fun _ k => X0.baloadBytes hx (j := (1 : Int32)) (v := (.int y1)) (by rw [e0]; exact Ar_11.1) (State.isArrayOf_alike hZ.alike Ar_11.2.1) Ar_11.2.2 hin_12 hat_12 (g := (mkF m 59 #[.val (.ref a1), .val (.ref a2), .val (.int (2 : Int32)), .val (.int (1 : Int32))] [(.int (1 : Int32)), (.ref a2), (.int x1)])) rfl rfl (hb hby d12_59) _ k) ?_
    show OGo p e below _ (s₁.setTop (mkF m 60 #[.val (.ref a1), .val (.ref a2), .val (.int (2 : Int32)), .val (.int (1 : Int32))] [(.int y1), (.int x1)]))
    by_cases hc60__13 : x1 = y1
    ·  -- pc 60: yes
      refine OGo.to (fun _ k => XS.icmpYes X0.here hx rfl (pc0 := 60) (pc' := 65) rfl (hb hby d12_60) rfl (teq hc60__13).1 (by decide) (by decide) k) ?_
      show OGo p e below _ (s₁.setTop (mkF m 65 #[.val (.ref a1), .val (.ref a2), .val (.int (2 : Int32)), .val (.int (1 : Int32))] []))
      refine OGo.to (fun _ k => XS.iinc X0.here hx rfl (hb hby d12_65) rfl (l' := #[.val (.ref a1), .val (.ref a2), .val (.int (2 : Int32)), .val (.int (2 : Int32))]) rfl k) ?_
      refine OGo.to (fun _ k => XS.goto X0.here hx rfl (pc0 := 68) (pc' := 49) rfl (hb hby d12_68) (by decide) (by decide) k) ?_
      refine OGo.to (fun _ k => XS.iloadN X0.here hx rfl (hb hby d12_49) rfl k) ?_
      refine OGo.to (fun _ k => XS.iloadN X0.here hx rfl (hb hby d12_50) rfl k) ?_
      have hc51__14 : ¬ ((2 : Int32) < (2 : Int32)) := by decide
      refine OGo.to (fun _ k => XS.icmpYes X0.here hx rfl (pc0 := 51) (pc' := 71) rfl (hb hby d12_51) rfl (flt hc51__14).2.1 (by decide) (by decide) k) ?_
      show OGo p e below _ (s₁.setTop (mkF m 71 #[.val (.ref a1), .val (.ref a2), .val (.int (2 : Int32)), .val (.int (2 : Int32))] []))
      refine OGo.to (fun _ k => XS.iconst X0.here hx rfl (hb hby d12_71) k) ?_
      refine OGo.ret (Q := Qmm22 Z a1 a2 ka kb x0 x1 y0 y1 h0 n0) X0 (some (.int (-1 : Int32))) (fun h => by rw [Bd.returns] at h; cases h) Bd.notSynchronized (fun fs hr => retI X0 hx Bd.returns (hb hby d12_72) hr) ?_ (by decide) (by decide)
      show Qmm22 Z a1 a2 ka kb x0 x1 y0 y1 h0 n0 _ s₁.heap _
      rw [e0]
      exact ⟨(-1 : Int32), rfl, N0, rfl, (Or.inl ⟨hc60__7, hc60__13, rfl⟩)⟩
    ·  -- pc 60: no
      refine OGo.to (fun _ k => XS.icmpNo X0.here hx rfl (hb hby d12_60) rfl (feq hc60__13).1 k) ?_
      show OGo p e below _ (s₁.setTop (mkF m 63 #[.val (.ref a1), .val (.ref a2), .val (.int (2 : Int32)), .val (.int (1 : Int32))] []))
      refine OGo.to (fun _ k => XS.iloadN X0.here hx rfl (hb hby d12_63) rfl k) ?_
      refine OGo.ret (Q := Qmm22 Z a1 a2 ka kb x0 x1 y0 y1 h0 n0) X0 (some (.int (1 : Int32))) (fun h => by rw [Bd.returns] at h; cases h) Bd.notSynchronized (fun fs hr => retI X0 hx Bd.returns (hb hby d12_64) hr) ?_ (by decide) (by decide)
      show Qmm22 Z a1 a2 ka kb x0 x1 y0 y1 h0 n0 _ s₁.heap _
      rw [e0]
      exact ⟨(1 : Int32), rfl, N0, rfl, (Or.inr (Or.inl ⟨hc60__7, hc60__13, rfl⟩))⟩
  ·  -- pc 60: no
    refine OGo.to (fun _ k => XS.icmpNo X0.here hx rfl (hb hby d12_60) rfl (feq hc60__7).1 k) ?_
    show OGo p e below _ (s₁.setTop (mkF m 63 #[.val (.ref a1), .val (.ref a2), .val (.int (2 : Int32)), .val (.int (0 : Int32))] []))
    refine OGo.to (fun _ k => XS.iloadN X0.here hx rfl (hb hby d12_63) rfl k) ?_
    refine OGo.ret (Q := Qmm22 Z a1 a2 ka kb x0 x1 y0 y1 h0 n0) X0 (some (.int (0 : Int32))) (fun h => by rw [Bd.returns] at h; cases h) Bd.notSynchronized (fun fs hr => retI X0 hx Bd.returns (hb hby d12_64) hr) ?_ (by decide) (by decide)
    show Qmm22 Z a1 a2 ka kb x0 x1 y0 y1 h0 n0 _ s₁.heap _
    rw [e0]
    exact ⟨(0 : Int32), rfl, N0, rfl, (Or.inr (Or.inr ⟨hc60__7, rfl⟩))⟩
theorem ef_c422 (m : MethodId) (x0 : Addr) (x1 : Addr) (x2 : Int32) (x3 : Int32) : entryFrame m #[(.ref x0), (.ref x1), (.int x2), (.int x3)] 6 = mkF m 0 #[.val (.ref x0), .val (.ref x1), .val (.int x2), .val (.int x3), .unset, .unset] [] := by first | (simp [entryFrame, mkF, argsToLocals, Value.category]; done) | rfl
def Qc422 (Z : State) (a1 : Addr) (a2 : Addr) (ka : ClassId) (kb : ClassId) (x0 : Int32) (x1 : Int32) (y0 : Int32) (y1 : Int32) (h0 : Heap) (n0 : Nat) (v : Option Value) (h : Heap) (L : List Loc) : Prop := v = some (.int (own_scmp [x0, x1] [y0, y1])) ∧ Fr n0 L ∧ h = h0
set_option maxRecDepth 65536 in
set_option maxHeartbeats 40000000 in
theorem rmc422 (l : Launch) (Z : State) (a0 : Array Value) (hw : ∀ d ∈ tables_1, d.before a0 Z = true) (ws : List Jvm.Cond) (a1 : Addr) (a2 : Addr) (ka : ClassId) (kb : ClassId) (x0 : Int32) (x1 : Int32) (y0 : Int32) (y1 : Int32) (h0 : Heap) (n0 : Nat) (Z0 : n0 ≤ h0.size) (VX : Arv Z h0 a1 ka .byte (2 : Int32) [(.int x0), (.int x1)] (.int (0 : Int32))) (VY : Arv Z h0 a2 kb .byte (2 : Int32) [(.int y0), (.int y1)] (.int (0 : Int32))) :
    MetFree l (⟨"java/lang/StringLatin1", "compareTo", "([B[BII)I"⟩ : MethodName) (head1 (Jvm.Cond.code (⟨"java/lang/StringLatin1", "compareTo", "([B[BII)I"⟩ : MethodName) jdk_43_method_15_code 6 (some .int) :: ws) ({ frames := 1, cells := 0, slots := 0, locals := 15 } : Room)) (fun a U => a = #[(.ref a1), (.ref a2), (.int (2 : Int32)), (.int (2 : Int32))] ∧ Z.Warmed39 U.vm ∧ U.heap = h0) (fun _ _ _ _ _ => True) (fun _ U o U' => ∃ v L, o = .returned v ∧ Qc422 Z a1 a2 ka kb x0 x1 y0 y1 h0 n0 v U'.heap L ∧ FrameEnd U o U' L ({ frames := 1, cells := 0, slots := 0, locals := 15 } : Room).cells ({ frames := 1, cells := 0, slots := 0, locals := 15 } : Room).slots) := by
  refine MetFree.of_bodySF (plainFor_of_name pn_0) hisR ?_
  intro p e s m args below meth c s₁ Bd hml0 hP hK
  obtain ⟨rfl, hZ, hh⟩ := hP
  have hx := Bd.exec
  have hby := Bd.bytes
  have hml : c.maxLocals = 6 := hml0
  have hown : s.vm.findClass "java/lang/StringLatin1" = some m.cls := findClass_of_methodNamed Bd.named
  have hnm := (name_of_methodNamed Bd.named Bd.method).1
  have X0 : Stand p l e ({ frames := 1, cells := 0, slots := 0, locals := 15 } : Room) s m #[(.ref a1), (.ref a2), (.int (2 : Int32)), (.int (2 : Int32))] below meth c s₁ [] 0 0 := Stand.of_body Bd
  have e0 : s₁.heap = h0 := by rw [← hh, Bd.state]; rfl
  have N0 := Fr.nil n0
  show OGo p e below (fun s₂ o => ∃ v L, o = .returned v ∧ Qc422 Z a1 a2 ka kb x0 x1 y0 y1 h0 n0 v s₂.heap L ∧ FrameEnd s o s₂ L ({ frames := 1, cells := 0, slots := 0, locals := 15 } : Room).cells ({ frames := 1, cells := 0, slots := 0, locals := 15 } : Room).slots) _
  refine OGo.to (fun _ k => castTop (ef_c422 m a1 a2 (2 : Int32) (2 : Int32)) k) ?_
  refine OGo.to (fun _ k => XS.iloadN X0.here hx rfl (hb hby d10_0) rfl k) ?_
  refine OGo.to (fun _ k => XS.iloadN X0.here hx rfl (hb hby d10_1) rfl k) ?_
  obtain ⟨_, T_1, Lc_1, X_1, hQ_1, st_1⟩ := own_un X0 (Q := Qmn22 Z  h0 n0) (rc := 0) (rs := 0) (W := fun v B => ∀ target, Steps p.tables e below (B.setTop { (mkF m 2 #[.val (.ref a1), .val (.ref a2), .val (.int (2 : Int32)), .val (.int (2 : Int32)), .unset, .unset] [(.int (2 : Int32)), (.int (2 : Int32))]) with pc := 5, stack := v.toList ++ [] }) target → Steps p.tables e below (s₁.setTop (mkF m 2 #[.val (.ref a1), .val (.ref a2), .val (.int (2 : Int32)), .val (.int (2 : Int32)), .unset, .unset] [(.int (2 : Int32)), (.int (2 : Int32))])) target) <| Jvm.LawKit.callS X0 hx (y := (⟨"java/lang/Math", "min", "(II)I"⟩ : MethodName)) hown (mvT hZ (hw _ (List.mem_of_getElem? (i := 54) rfl))) (mvT hZ (hw _ (List.mem_of_getElem? (i := 55) rfl))) (mvT hZ (hw _ (List.mem_of_getElem? (i := 56) rfl))) (mvT hZ (hw _ (List.mem_of_getElem? (i := 57) rfl))) (by decide) (backOf (W := 0) (rmmn22 l Z a0 hw []  h0 n0 Z0 ) hZ (hw _ (List.mem_of_getElem? (i := 57) rfl)) (hw _ (List.mem_of_getElem? (i := 56) rfl)) (by decide) (by decide)) (g := (mkF m 2 #[.val (.ref a1), .val (.ref a2), .val (.int (2 : Int32)), .val (.int (2 : Int32)), .unset, .unset] [(.int (2 : Int32)), (.int (2 : Int32))])) rfl (by rw [hml]; rfl) (argsL := [(.int (2 : Int32)), (.int (2 : Int32))]) (rest := []) (lenOf pd_9 rfl) rfl (by show 2 * 0 + _ ≤ _; exact Nat.le_of_eq rfl) (hb hby d10_2) (fun _ _ => ⟨rfl, e0, (by decide : 0 + 0 ≤ _), (by decide : 0 + 0 ≤ _)⟩)
  obtain ⟨rfl, N_1q, e_1⟩ := hQ_1
  have N_1 := Fr.app N0 N_1q
  refine OGo.to st_1 ?_
  show OGo p e below _ (T_1.setTop (mkF m 5 #[.val (.ref a1), .val (.ref a2), .val (.int (2 : Int32)), .val (.int (2 : Int32)), .unset, .unset] [(.int (2 : Int32))]))
  refine OGo.to (fun _ k => XS.istore X_1.here hx rfl (hb hby d10_5) rfl (l' := #[.val (.ref a1), .val (.ref a2), .val (.int (2 : Int32)), .val (.int (2 : Int32)), .val (.int (2 : Int32)), .unset]) rfl k) ?_
  refine OGo.to (fun _ k => XS.aloadN X_1.here hx rfl (hb hby d10_7) rfl rfl k) ?_
  refine OGo.to (fun _ k => XS.aloadN X_1.here hx rfl (hb hby d10_8) rfl rfl k) ?_
  refine OGo.to (fun _ k => XS.iload X_1.here hx rfl (hb hby d10_9) rfl k) ?_
  obtain ⟨_, T_2, Lc_2, X_2, hQ_2, st_2⟩ := own_un X_1 (Q := Qmm22 Z a1 a2 ka kb x0 x1 y0 y1 h0 n0) (rc := 0) (rs := 0) (W := fun v B => ∀ target, Steps p.tables e below (B.setTop { (mkF m 11 #[.val (.ref a1), .val (.ref a2), .val (.int (2 : Int32)), .val (.int (2 : Int32)), .val (.int (2 : Int32)), .unset] [(.int (2 : Int32)), (.ref a2), (.ref a1)]) with pc := 14, stack := v.toList ++ [] }) target → Steps p.tables e below (T_1.setTop (mkF m 11 #[.val (.ref a1), .val (.ref a2), .val (.int (2 : Int32)), .val (.int (2 : Int32)), .val (.int (2 : Int32)), .unset] [(.int (2 : Int32)), (.ref a2), (.ref a1)])) target) <| Jvm.LawKit.callS X_1 hx (y := (⟨"jdk/internal/util/ArraysSupport", "mismatch", "([B[BI)I"⟩ : MethodName)) hown (mvT hZ (hw _ (List.mem_of_getElem? (i := 58) rfl))) (mvT hZ (hw _ (List.mem_of_getElem? (i := 59) rfl))) (mvT hZ (hw _ (List.mem_of_getElem? (i := 60) rfl))) (mvT hZ (hw _ (List.mem_of_getElem? (i := 61) rfl))) (by decide) (backOf (W := 0) (rmmm22 l Z a0 hw [] a1 a2 ka kb x0 x1 y0 y1 h0 n0 Z0 VX VY) hZ (hw _ (List.mem_of_getElem? (i := 61) rfl)) (hw _ (List.mem_of_getElem? (i := 60) rfl)) (by decide) (by decide)) (g := (mkF m 11 #[.val (.ref a1), .val (.ref a2), .val (.int (2 : Int32)), .val (.int (2 : Int32)), .val (.int (2 : Int32)), .unset] [(.int (2 : Int32)), (.ref a2), (.ref a1)])) rfl (by rw [hml]; rfl) (argsL := [(.ref a1), (.ref a2), (.int (2 : Int32))]) (rest := []) (lenOf pd_10 rfl) rfl (by show 2 * 0 + _ ≤ _; exact Nat.le_of_eq rfl) (hb hby d10_11) (fun _ _ => ⟨rfl, e_1, (by decide : 0 + 0 ≤ _), (by decide : 0 + 0 ≤ _)⟩)
  obtain ⟨r__2, rfl, N_2q, e_2, p_2_0⟩ := hQ_2
  have N_2 := Fr.app N_1 N_2q
  refine OGo.to st_2 ?_
  show OGo p e below _ (T_2.setTop (mkF m 14 #[.val (.ref a1), .val (.ref a2), .val (.int (2 : Int32)), .val (.int (2 : Int32)), .val (.int (2 : Int32)), .unset] [(.int r__2)]))
  rcases p_2_0 with ⟨q0, q1, rfl⟩ | ⟨q0, q1, rfl⟩ | ⟨q0, rfl⟩
  ·
    show OGo p e below _ (T_2.setTop (mkF m 14 #[.val (.ref a1), .val (.ref a2), .val (.int (2 : Int32)), .val (.int (2 : Int32)), .val (.int (2 : Int32)), .unset] [(.int (-1 : Int32))]))
    refine OGo.to (fun _ k => XS.istore X_2.here hx rfl (hb hby d10_14) rfl (l' := #[.val (.ref a1), .val (.ref a2), .val (.int (2 : Int32)), .val (.int (2 : Int32)), .val (.int (2 : Int32)), .val (.int (-1 : Int32))]) rfl k) ?_
    refine OGo.to (fun _ k => XS.iload X_2.here hx rfl (hb hby d10_16) rfl k) ?_
    have hc18__3 : (-1 : Int32) < (0 : Int32) := by decide
    refine OGo.to (fun _ k => XS.ifNo X_2.here hx rfl (hb hby d10_18) rfl ((if0 _ _).trans (tlt hc18__3).2.1) k) ?_
    show OGo p e below _ (T_2.setTop (mkF m 21 #[.val (.ref a1), .val (.ref a2), .val (.int (2 : Int32)), .val (.int (2 : Int32)), .val (.int (2 : Int32)), .val (.int (-1 : Int32))] []))
    refine OGo.to (fun _ k => XS.iloadN X_2.here hx rfl (hb hby d10_21) rfl k) ?_
    refine OGo.to (fun _ k => XS.iloadN X_2.here hx rfl (hb hby d10_22) rfl k) ?_
    refine OGo.to (fun _ k => XS.isub X_2.here hx rfl (hb hby d10_23) rfl k) ?_
    refine OGo.to (fun _ k => XS.goto X_2.here hx rfl (pc0 := 24) (pc' := 40) rfl (hb hby d10_24) (by decide) (by decide) k) ?_
    refine OGo.ret (Q := Qc422 Z a1 a2 ka kb x0 x1 y0 y1 h0 n0) X_2 (some (.int (0 : Int32))) (fun h => by rw [Bd.returns] at h; cases h) Bd.notSynchronized (fun fs hr => retI X_2 hx Bd.returns (hb hby d10_40) hr) ?_ (by decide) (by decide)
    show Qc422 Z a1 a2 ka kb x0 x1 y0 y1 h0 n0 _ T_2.heap _
    rw [e_2]
    exact ⟨congrArg (fun z => some (Value.int z)) (show (0 : Int32) = (own_scmp [x0, x1] [y0, y1]) from by rw [own_scmp_cc, if_pos q0, own_scmp_cc, if_pos q1]; show _ = own_i 0 - own_i 0; decide), N_2, rfl⟩
  ·
    show OGo p e below _ (T_2.setTop (mkF m 14 #[.val (.ref a1), .val (.ref a2), .val (.int (2 : Int32)), .val (.int (2 : Int32)), .val (.int (2 : Int32)), .unset] [(.int (1 : Int32))]))
    refine OGo.to (fun _ k => XS.istore X_2.here hx rfl (hb hby d10_14) rfl (l' := #[.val (.ref a1), .val (.ref a2), .val (.int (2 : Int32)), .val (.int (2 : Int32)), .val (.int (2 : Int32)), .val (.int (1 : Int32))]) rfl k) ?_
    refine OGo.to (fun _ k => XS.iload X_2.here hx rfl (hb hby d10_16) rfl k) ?_
    have hc18__4 : ¬ ((1 : Int32) < (0 : Int32)) := by decide
    refine OGo.to (fun _ k => XS.ifYes X_2.here hx rfl (pc0 := 18) (pc' := 27) rfl (hb hby d10_18) rfl ((if0 _ _).trans (flt hc18__4).2.1) (by decide) (by decide) k) ?_
    show OGo p e below _ (T_2.setTop (mkF m 27 #[.val (.ref a1), .val (.ref a2), .val (.int (2 : Int32)), .val (.int (2 : Int32)), .val (.int (2 : Int32)), .val (.int (1 : Int32))] []))
    refine OGo.to (fun _ k => XS.aloadN X_2.here hx rfl (hb hby d10_27) rfl rfl k) ?_
    show OGo p e below _ (T_2.setTop (mkF m 28 #[.val (.ref a1), .val (.ref a2), .val (.int (2 : Int32)), .val (.int (2 : Int32)), .val (.int (2 : Int32)), .val (.int (1 : Int32))] [(.ref a1)]))
    refine OGo.to (fun _ k => XS.iload X_2.here hx rfl (hb hby d10_28) rfl k) ?_
    obtain ⟨_, T_5, Lc_5, X_5, hQ_5, st_5⟩ := own_un X_2 (Q := Qgc2_1 Z a1 ka x0 x1 h0 n0) (rc := 0) (rs := 0) (W := fun v B => ∀ target, Steps p.tables e below (B.setTop { (mkF m 30 #[.val (.ref a1), .val (.ref a2), .val (.int (2 : Int32)), .val (.int (2 : Int32)), .val (.int (2 : Int32)), .val (.int (1 : Int32))] [(.int (1 : Int32)), (.ref a1)]) with pc := 33, stack := v.toList ++ [] }) target → Steps p.tables e below (T_2.setTop (mkF m 30 #[.val (.ref a1), .val (.ref a2), .val (.int (2 : Int32)), .val (.int (2 : Int32)), .val (.int (2 : Int32)), .val (.int (1 : Int32))] [(.int (1 : Int32)), (.ref a1)])) target) <| Jvm.LawKit.callS X_2 hx (y := (⟨"java/lang/StringLatin1", "getChar", "([BI)C"⟩ : MethodName)) hown (mvT hZ (hw _ (List.mem_of_getElem? (i := 105) rfl))) (mvT hZ (hw _ (List.mem_of_getElem? (i := 106) rfl))) (mvT hZ (hw _ (List.mem_of_getElem? (i := 49) rfl))) (mvT hZ (hw _ (List.mem_of_getElem? (i := 107) rfl))) (by decide) (backOf (W := 0) (rmgc2_1 l Z a0 hw [] a1 ka x0 x1 h0 n0 Z0 VX) hZ (hw _ (List.mem_of_getElem? (i := 107) rfl)) (hw _ (List.mem_of_getElem? (i := 49) rfl)) (by decide) (by decide)) (g := (mkF m 30 #[.val (.ref a1), .val (.ref a2), .val (.int (2 : Int32)), .val (.int (2 : Int32)), .val (.int (2 : Int32)), .val (.int (1 : Int32))] [(.int (1 : Int32)), (.ref a1)])) rfl (by rw [hml]; rfl) (argsL := [(.ref a1), (.int (1 : Int32))]) (rest := []) (lenOf pd_12 rfl) rfl (by show 2 * 0 + _ ≤ _; exact Nat.le_of_eq rfl) (hb hby d10_30) (fun _ _ => ⟨rfl, e_2, (by decide : 0 + 0 ≤ _), (by decide : 0 + 0 ≤ _)⟩)
    obtain ⟨rfl, N_5q, e_5⟩ := hQ_5
    have N_5 := Fr.app N_2 N_5q
    refine OGo.to st_5 ?_
    show OGo p e below _ (T_5.setTop (mkF m 33 #[.val (.ref a1), .val (.ref a2), .val (.int (2 : Int32)), .val (.int (2 : Int32)), .val (.int (2 : Int32)), .val (.int (1 : Int32))] [(.int (own_gc x1))]))
    refine OGo.to (fun _ k => XS.aloadN X_5.here hx rfl (hb hby d10_33) rfl rfl k) ?_
    refine OGo.to (fun _ k => XS.iload X_5.here hx rfl (hb hby d10_34) rfl k) ?_
    obtain ⟨_, T_6, Lc_6, X_6, hQ_6, st_6⟩ := own_un X_5 (Q := Qgc2_1 Z a2 kb y0 y1 h0 n0) (rc := 0) (rs := 0) (W := fun v B => ∀ target, Steps p.tables e below (B.setTop { (mkF m 36 #[.val (.ref a1), .val (.ref a2), .val (.int (2 : Int32)), .val (.int (2 : Int32)), .val (.int (2 : Int32)), .val (.int (1 : Int32))] [(.int (1 : Int32)), (.ref a2), (.int (own_gc x1))]) with pc := 39, stack := v.toList ++ [(.int (own_gc x1))] }) target → Steps p.tables e below (T_5.setTop (mkF m 36 #[.val (.ref a1), .val (.ref a2), .val (.int (2 : Int32)), .val (.int (2 : Int32)), .val (.int (2 : Int32)), .val (.int (1 : Int32))] [(.int (1 : Int32)), (.ref a2), (.int (own_gc x1))])) target) <| Jvm.LawKit.callS X_5 hx (y := (⟨"java/lang/StringLatin1", "getChar", "([BI)C"⟩ : MethodName)) hown (mvT hZ (hw _ (List.mem_of_getElem? (i := 105) rfl))) (mvT hZ (hw _ (List.mem_of_getElem? (i := 106) rfl))) (mvT hZ (hw _ (List.mem_of_getElem? (i := 49) rfl))) (mvT hZ (hw _ (List.mem_of_getElem? (i := 107) rfl))) (by decide) (backOf (W := 1) (rmgc2_1 l Z a0 hw [] a2 kb y0 y1 h0 n0 Z0 VY) hZ (hw _ (List.mem_of_getElem? (i := 107) rfl)) (hw _ (List.mem_of_getElem? (i := 49) rfl)) (by decide) (by decide)) (g := (mkF m 36 #[.val (.ref a1), .val (.ref a2), .val (.int (2 : Int32)), .val (.int (2 : Int32)), .val (.int (2 : Int32)), .val (.int (1 : Int32))] [(.int (1 : Int32)), (.ref a2), (.int (own_gc x1))])) rfl (by rw [hml]; rfl) (argsL := [(.ref a2), (.int (1 : Int32))]) (rest := [(.int (own_gc x1))]) (lenOf pd_12 rfl) rfl (by show 2 * 0 + _ ≤ _; exact Nat.le_of_eq rfl) (hb hby d10_36) (fun _ _ => ⟨rfl, e_5, (by decide : 0 + 0 ≤ _), (by decide : 0 + 0 ≤ _)⟩)
    obtain ⟨rfl, N_6q, e_6⟩ := hQ_6
    have N_6 := Fr.app N_5 N_6q
    refine OGo.to st_6 ?_
    show OGo p e below _ (T_6.setTop (mkF m 39 #[.val (.ref a1), .val (.ref a2), .val (.int (2 : Int32)), .val (.int (2 : Int32)), .val (.int (2 : Int32)), .val (.int (1 : Int32))] [(.int (own_gc y1)), (.int (own_gc x1))]))
    refine OGo.to (fun _ k => XS.isub X_6.here hx rfl (hb hby d10_39) rfl k) ?_
    refine OGo.ret (Q := Qc422 Z a1 a2 ka kb x0 x1 y0 y1 h0 n0) X_6 (some (.int ((own_gc x1) - (own_gc y1)))) (fun h => by rw [Bd.returns] at h; cases h) Bd.notSynchronized (fun fs hr => retI X_6 hx Bd.returns (hb hby d10_40) hr) ?_ (by decide) (by decide)
    show Qc422 Z a1 a2 ka kb x0 x1 y0 y1 h0 n0 _ T_6.heap _
    rw [e_6]
    exact ⟨congrArg (fun z => some (Value.int z)) (show ((own_gc x1) - (own_gc y1)) = (own_scmp [x0, x1] [y0, y1]) from by rw [own_scmp_cc, if_pos q0, own_scmp_cc, if_neg q1]), N_6, rfl⟩
  ·
    show OGo p e below _ (T_2.setTop (mkF m 14 #[.val (.ref a1), .val (.ref a2), .val (.int (2 : Int32)), .val (.int (2 : Int32)), .val (.int (2 : Int32)), .unset] [(.int (0 : Int32))]))
    refine OGo.to (fun _ k => XS.istore X_2.here hx rfl (hb hby d10_14) rfl (l' := #[.val (.ref a1), .val (.ref a2), .val (.int (2 : Int32)), .val (.int (2 : Int32)), .val (.int (2 : Int32)), .val (.int (0 : Int32))]) rfl k) ?_
    refine OGo.to (fun _ k => XS.iload X_2.here hx rfl (hb hby d10_16) rfl k) ?_
    have hc18__7 : ¬ ((0 : Int32) < (0 : Int32)) := by decide
    refine OGo.to (fun _ k => XS.ifYes X_2.here hx rfl (pc0 := 18) (pc' := 27) rfl (hb hby d10_18) rfl ((if0 _ _).trans (flt hc18__7).2.1) (by decide) (by decide) k) ?_
    show OGo p e below _ (T_2.setTop (mkF m 27 #[.val (.ref a1), .val (.ref a2), .val (.int (2 : Int32)), .val (.int (2 : Int32)), .val (.int (2 : Int32)), .val (.int (0 : Int32))] []))
    refine OGo.to (fun _ k => XS.aloadN X_2.here hx rfl (hb hby d10_27) rfl rfl k) ?_
    refine OGo.to (fun _ k => XS.iload X_2.here hx rfl (hb hby d10_28) rfl k) ?_
    obtain ⟨_, T_8, Lc_8, X_8, hQ_8, st_8⟩ := own_un X_2 (Q := Qgc2_0 Z a1 ka x0 x1 h0 n0) (rc := 0) (rs := 0) (W := fun v B => ∀ target, Steps p.tables e below (B.setTop { (mkF m 30 #[.val (.ref a1), .val (.ref a2), .val (.int (2 : Int32)), .val (.int (2 : Int32)), .val (.int (2 : Int32)), .val (.int (0 : Int32))] [(.int (0 : Int32)), (.ref a1)]) with pc := 33, stack := v.toList ++ [] }) target → Steps p.tables e below (T_2.setTop (mkF m 30 #[.val (.ref a1), .val (.ref a2), .val (.int (2 : Int32)), .val (.int (2 : Int32)), .val (.int (2 : Int32)), .val (.int (0 : Int32))] [(.int (0 : Int32)), (.ref a1)])) target) <| Jvm.LawKit.callS X_2 hx (y := (⟨"java/lang/StringLatin1", "getChar", "([BI)C"⟩ : MethodName)) hown (mvT hZ (hw _ (List.mem_of_getElem? (i := 105) rfl))) (mvT hZ (hw _ (List.mem_of_getElem? (i := 106) rfl))) (mvT hZ (hw _ (List.mem_of_getElem? (i := 49) rfl))) (mvT hZ (hw _ (List.mem_of_getElem? (i := 107) rfl))) (by decide) (backOf (W := 0) (rmgc2_0 l Z a0 hw [] a1 ka x0 x1 h0 n0 Z0 VX) hZ (hw _ (List.mem_of_getElem? (i := 107) rfl)) (hw _ (List.mem_of_getElem? (i := 49) rfl)) (by decide) (by decide)) (g := (mkF m 30 #[.val (.ref a1), .val (.ref a2), .val (.int (2 : Int32)), .val (.int (2 : Int32)), .val (.int (2 : Int32)), .val (.int (0 : Int32))] [(.int (0 : Int32)), (.ref a1)])) rfl (by rw [hml]; rfl) (argsL := [(.ref a1), (.int (0 : Int32))]) (rest := []) (lenOf pd_12 rfl) rfl (by show 2 * 0 + _ ≤ _; exact Nat.le_of_eq rfl) (hb hby d10_30) (fun _ _ => ⟨rfl, e_2, (by decide : 0 + 0 ≤ _), (by decide : 0 + 0 ≤ _)⟩)
    obtain ⟨rfl, N_8q, e_8⟩ := hQ_8
    have N_8 := Fr.app N_2 N_8q
    refine OGo.to st_8 ?_
    show OGo p e below _ (T_8.setTop (mkF m 33 #[.val (.ref a1), .val (.ref a2), .val (.int (2 : Int32)), .val (.int (2 : Int32)), .val (.int (2 : Int32)), .val (.int (0 : Int32))] [(.int (own_gc x0))]))
    refine OGo.to (fun _ k => XS.aloadN X_8.here hx rfl (hb hby d10_33) rfl rfl k) ?_
    refine OGo.to (fun _ k => XS.iload X_8.here hx rfl (hb hby d10_34) rfl k) ?_
    obtain ⟨_, T_9, Lc_9, X_9, hQ_9, st_9⟩ := own_un X_8 (Q := Qgc2_0 Z a2 kb y0 y1 h0 n0) (rc := 0) (rs := 0) (W := fun v B => ∀ target, Steps p.tables e below (B.setTop { (mkF m 36 #[.val (.ref a1), .val (.ref a2), .val (.int (2 : Int32)), .val (.int (2 : Int32)), .val (.int (2 : Int32)), .val (.int (0 : Int32))] [(.int (0 : Int32)), (.ref a2), (.int (own_gc x0))]) with pc := 39, stack := v.toList ++ [(.int (own_gc x0))] }) target → Steps p.tables e below (T_8.setTop (mkF m 36 #[.val (.ref a1), .val (.ref a2), .val (.int (2 : Int32)), .val (.int (2 : Int32)), .val (.int (2 : Int32)), .val (.int (0 : Int32))] [(.int (0 : Int32)), (.ref a2), (.int (own_gc x0))])) target) <| Jvm.LawKit.callS X_8 hx (y := (⟨"java/lang/StringLatin1", "getChar", "([BI)C"⟩ : MethodName)) hown (mvT hZ (hw _ (List.mem_of_getElem? (i := 105) rfl))) (mvT hZ (hw _ (List.mem_of_getElem? (i := 106) rfl))) (mvT hZ (hw _ (List.mem_of_getElem? (i := 49) rfl))) (mvT hZ (hw _ (List.mem_of_getElem? (i := 107) rfl))) (by decide) (backOf (W := 1) (rmgc2_0 l Z a0 hw [] a2 kb y0 y1 h0 n0 Z0 VY) hZ (hw _ (List.mem_of_getElem? (i := 107) rfl)) (hw _ (List.mem_of_getElem? (i := 49) rfl)) (by decide) (by decide)) (g := (mkF m 36 #[.val (.ref a1), .val (.ref a2), .val (.int (2 : Int32)), .val (.int (2 : Int32)), .val (.int (2 : Int32)), .val (.int (0 : Int32))] [(.int (0 : Int32)), (.ref a2), (.int (own_gc x0))])) rfl (by rw [hml]; rfl) (argsL := [(.ref a2), (.int (0 : Int32))]) (rest := [(.int (own_gc x0))]) (lenOf pd_12 rfl) rfl (by show 2 * 0 + _ ≤ _; exact Nat.le_of_eq rfl) (hb hby d10_36) (fun _ _ => ⟨rfl, e_8, (by decide : 0 + 0 ≤ _), (by decide : 0 + 0 ≤ _)⟩)
    obtain ⟨rfl, N_9q, e_9⟩ := hQ_9
    have N_9 := Fr.app N_8 N_9q
    refine OGo.to st_9 ?_
    show OGo p e below _ (T_9.setTop (mkF m 39 #[.val (.ref a1), .val (.ref a2), .val (.int (2 : Int32)), .val (.int (2 : Int32)), .val (.int (2 : Int32)), .val (.int (0 : Int32))] [(.int (own_gc y0)), (.int (own_gc x0))]))
    refine OGo.to (fun _ k => XS.isub X_9.here hx rfl (hb hby d10_39) rfl k) ?_
    refine OGo.ret (Q := Qc422 Z a1 a2 ka kb x0 x1 y0 y1 h0 n0) X_9 (some (.int ((own_gc x0) - (own_gc y0)))) (fun h => by rw [Bd.returns] at h; cases h) Bd.notSynchronized (fun fs hr => retI X_9 hx Bd.returns (hb hby d10_40) hr) ?_ (by decide) (by decide)
    show Qc422 Z a1 a2 ka kb x0 x1 y0 y1 h0 n0 _ T_9.heap _
    rw [e_9]
    exact ⟨congrArg (fun z => some (Value.int z)) (show ((own_gc x0) - (own_gc y0)) = (own_scmp [x0, x1] [y0, y1]) from by rw [own_scmp_cc, if_neg q0]), N_9, rfl⟩
theorem ef_c222 (m : MethodId) (x0 : Addr) (x1 : Addr) : entryFrame m #[(.ref x0), (.ref x1)] 4 = mkF m 0 #[.val (.ref x0), .val (.ref x1), .unset, .unset] [] := by first | (simp [entryFrame, mkF, argsToLocals, Value.category]; done) | rfl
def Qc222 (Z : State) (a1 : Addr) (a2 : Addr) (ka : ClassId) (kb : ClassId) (x0 : Int32) (x1 : Int32) (y0 : Int32) (y1 : Int32) (h0 : Heap) (n0 : Nat) (v : Option Value) (h : Heap) (L : List Loc) : Prop := v = some (.int (own_scmp [x0, x1] [y0, y1])) ∧ Fr n0 L ∧ h = h0
set_option maxRecDepth 65536 in
set_option maxHeartbeats 40000000 in
theorem rmc222 (l : Launch) (Z : State) (a0 : Array Value) (hw : ∀ d ∈ tables_1, d.before a0 Z = true) (ws : List Jvm.Cond) (a1 : Addr) (a2 : Addr) (ka : ClassId) (kb : ClassId) (x0 : Int32) (x1 : Int32) (y0 : Int32) (y1 : Int32) (h0 : Heap) (n0 : Nat) (Z0 : n0 ≤ h0.size) (VX : Arv Z h0 a1 ka .byte (2 : Int32) [(.int x0), (.int x1)] (.int (0 : Int32))) (VY : Arv Z h0 a2 kb .byte (2 : Int32) [(.int y0), (.int y1)] (.int (0 : Int32))) :
    MetFree l (⟨"java/lang/StringLatin1", "compareTo", "([B[B)I"⟩ : MethodName) (head1 (Jvm.Cond.code (⟨"java/lang/StringLatin1", "compareTo", "([B[B)I"⟩ : MethodName) jdk_43_method_14_code 4 (some .int) :: ws) ({ frames := 2, cells := 0, slots := 0, locals := 32 } : Room)) (fun a U => a = #[(.ref a1), (.ref a2)] ∧ Z.Warmed39 U.vm ∧ U.heap = h0) (fun _ _ _ _ _ => True) (fun _ U o U' => ∃ v L, o = .returned v ∧ Qc222 Z a1 a2 ka kb x0 x1 y0 y1 h0 n0 v U'.heap L ∧ FrameEnd U o U' L ({ frames := 2, cells := 0, slots := 0, locals := 32 } : Room).cells ({ frames := 2, cells := 0, slots := 0, locals := 32 } : Room).slots) := by
  refine MetFree.of_bodySF (plainFor_of_name pn_0) hisR ?_
  intro p e s m args below meth c s₁ Bd hml0 hP hK
  obtain ⟨rfl, hZ, hh⟩ := hP
  have hx := Bd.exec
  have hby := Bd.bytes
  have hml : c.maxLocals = 4 := hml0
  have hown : s.vm.findClass "java/lang/StringLatin1" = some m.cls := findClass_of_methodNamed Bd.named
  have hnm := (name_of_methodNamed Bd.named Bd.method).1
  have X0 : Stand p l e ({ frames := 2, cells := 0, slots := 0, locals := 32 } : Room) s m #[(.ref a1), (.ref a2)] below meth c s₁ [] 0 0 := Stand.of_body Bd
  have e0 : s₁.heap = h0 := by rw [← hh, Bd.state]; rfl
  have N0 := Fr.nil n0
  show OGo p e below (fun s₂ o => ∃ v L, o = .returned v ∧ Qc222 Z a1 a2 ka kb x0 x1 y0 y1 h0 n0 v s₂.heap L ∧ FrameEnd s o s₂ L ({ frames := 2, cells := 0, slots := 0, locals := 32 } : Room).cells ({ frames := 2, cells := 0, slots := 0, locals := 32 } : Room).slots) _
  refine OGo.to (fun _ k => castTop (ef_c222 m a1 a2) k) ?_
  refine OGo.to (fun _ k => XS.aloadN X0.here hx rfl (hb hby d9_0) rfl rfl k) ?_
  have Vq_1 := VX
  obtain ⟨cl_1, Ar_1, q_1, S_1, M_1, Hs_1, G_1⟩ := Vq_1
  refine OGo.to (fun _ k => X0.arraylength hx (by rw [e0]; exact Ar_1.1) (State.isArrayOf_alike hZ.alike Ar_1.2.1) (g := (mkF m 1 #[.val (.ref a1), .val (.ref a2), .unset, .unset] [(.ref a1)])) rfl rfl (hb hby d9_1) _ k) ?_
  rw [len_of S_1 M_1]
  show OGo p e below _ (s₁.setTop (mkF m 2 #[.val (.ref a1), .val (.ref a2), .unset, .unset] [(.int (2 : Int32))]))
  refine OGo.to (fun _ k => XS.istoreN X0.here hx rfl (hb hby d9_2) rfl (l' := #[.val (.ref a1), .val (.ref a2), .val (.int (2 : Int32)), .unset]) rfl k) ?_
  refine OGo.to (fun _ k => XS.aloadN X0.here hx rfl (hb hby d9_3) rfl rfl k) ?_
  have Vq_2 := VY
  obtain ⟨cl_2, Ar_2, q_2, S_2, M_2, Hs_2, G_2⟩ := Vq_2
  refine OGo.to (fun _ k => X0.arraylength hx (by rw [e0]; exact Ar_2.1) (State.isArrayOf_alike hZ.alike Ar_2.2.1) (g := (mkF m 4 #[.val (.ref a1), .val (.ref a2), .val (.int (2 : Int32)), .unset] [(.ref a2)])) rfl rfl (hb hby d9_4) _ k) ?_
  rw [len_of S_2 M_2]
  show OGo p e below _ (s₁.setTop (mkF m 5 #[.val (.ref a1), .val (.ref a2), .val (.int (2 : Int32)), .unset] [(.int (2 : Int32))]))
  refine OGo.to (fun _ k => XS.istoreN X0.here hx rfl (hb hby d9_5) rfl (l' := #[.val (.ref a1), .val (.ref a2), .val (.int (2 : Int32)), .val (.int (2 : Int32))]) rfl k) ?_
  refine OGo.to (fun _ k => XS.aloadN X0.here hx rfl (hb hby d9_6) rfl rfl k) ?_
  refine OGo.to (fun _ k => XS.aloadN X0.here hx rfl (hb hby d9_7) rfl rfl k) ?_
  refine OGo.to (fun _ k => XS.iloadN X0.here hx rfl (hb hby d9_8) rfl k) ?_
  refine OGo.to (fun _ k => XS.iloadN X0.here hx rfl (hb hby d9_9) rfl k) ?_
  obtain ⟨_, T_3, Lc_3, X_3, hQ_3, st_3⟩ := own_un X0 (Q := Qc422 Z a1 a2 ka kb x0 x1 y0 y1 h0 n0) (rc := 0) (rs := 0) (W := fun v B => ∀ target, Steps p.tables e below (B.setTop { (mkF m 10 #[.val (.ref a1), .val (.ref a2), .val (.int (2 : Int32)), .val (.int (2 : Int32))] [(.int (2 : Int32)), (.int (2 : Int32)), (.ref a2), (.ref a1)]) with pc := 13, stack := v.toList ++ [] }) target → Steps p.tables e below (s₁.setTop (mkF m 10 #[.val (.ref a1), .val (.ref a2), .val (.int (2 : Int32)), .val (.int (2 : Int32))] [(.int (2 : Int32)), (.int (2 : Int32)), (.ref a2), (.ref a1)])) target) <| Jvm.LawKit.callS X0 hx (y := (⟨"java/lang/StringLatin1", "compareTo", "([B[BII)I"⟩ : MethodName)) hown (mvT hZ (hw _ (List.mem_of_getElem? (i := 51) rfl))) (mvT hZ (hw _ (List.mem_of_getElem? (i := 52) rfl))) (mvT hZ (hw _ (List.mem_of_getElem? (i := 49) rfl))) (mvT hZ (hw _ (List.mem_of_getElem? (i := 53) rfl))) (by decide) (backOf (W := 0) (rmc422 l Z a0 hw [] a1 a2 ka kb x0 x1 y0 y1 h0 n0 Z0 VX VY) hZ (hw _ (List.mem_of_getElem? (i := 53) rfl)) (hw _ (List.mem_of_getElem? (i := 49) rfl)) (by decide) (by decide)) (g := (mkF m 10 #[.val (.ref a1), .val (.ref a2), .val (.int (2 : Int32)), .val (.int (2 : Int32))] [(.int (2 : Int32)), (.int (2 : Int32)), (.ref a2), (.ref a1)])) rfl (by rw [hml]; rfl) (argsL := [(.ref a1), (.ref a2), (.int (2 : Int32)), (.int (2 : Int32))]) (rest := []) (lenOf pd_11 rfl) rfl (by show 2 * 0 + _ ≤ _; exact Nat.le_of_eq rfl) (hb hby d9_10) (fun _ _ => ⟨rfl, e0, (by decide : 0 + 0 ≤ _), (by decide : 0 + 0 ≤ _)⟩)
  obtain ⟨rfl, N_3q, e_3⟩ := hQ_3
  have N_3 := Fr.app N0 N_3q
  refine OGo.to st_3 ?_
  show OGo p e below _ (T_3.setTop (mkF m 13 #[.val (.ref a1), .val (.ref a2), .val (.int (2 : Int32)), .val (.int (2 : Int32))] [(.int (own_scmp [x0, x1] [y0, y1]))]))
  refine OGo.ret (Q := Qc222 Z a1 a2 ka kb x0 x1 y0 y1 h0 n0) X_3 (some (.int (own_scmp [x0, x1] [y0, y1]))) (fun h => by rw [Bd.returns] at h; cases h) Bd.notSynchronized (fun fs hr => retI X_3 hx Bd.returns (hb hby d9_13) hr) ?_ (by decide) (by decide)
  show Qc222 Z a1 a2 ka kb x0 x1 y0 y1 h0 n0 _ T_3.heap _
  rw [e_3]
  exact ⟨rfl, N_3, rfl⟩
theorem ef_eq22 (m : MethodId) (x0 : Addr) (x1 : Addr) : entryFrame m #[(.ref x0), (.ref x1)] 3 = mkF m 0 #[.val (.ref x0), .val (.ref x1), .unset] [] := by first | (simp [entryFrame, mkF, argsToLocals, Value.category]; done) | rfl
def Qeq22 (Z : State) (a1 : Addr) (a2 : Addr) (ka : ClassId) (kb : ClassId) (x0 : Int32) (x1 : Int32) (y0 : Int32) (y1 : Int32) (h0 : Heap) (n0 : Nat) (v : Option Value) (h : Heap) (L : List Loc) : Prop := v = some (.int (own_seq [x0, x1] [y0, y1])) ∧ Fr n0 L ∧ h = h0
set_option maxRecDepth 65536 in
set_option maxHeartbeats 40000000 in
theorem rmeq22 (l : Launch) (Z : State) (a0 : Array Value) (hw : ∀ d ∈ tables_1, d.before a0 Z = true) (ws : List Jvm.Cond) (a1 : Addr) (a2 : Addr) (ka : ClassId) (kb : ClassId) (x0 : Int32) (x1 : Int32) (y0 : Int32) (y1 : Int32) (h0 : Heap) (n0 : Nat) (Z0 : n0 ≤ h0.size) (VX : Arv Z h0 a1 ka .byte (2 : Int32) [(.int x0), (.int x1)] (.int (0 : Int32))) (VY : Arv Z h0 a2 kb .byte (2 : Int32) [(.int y0), (.int y1)] (.int (0 : Int32))) :
    MetFree l (⟨"java/lang/StringLatin1", "equals", "([B[B)Z"⟩ : MethodName) (head1 (Jvm.Cond.code (⟨"java/lang/StringLatin1", "equals", "([B[B)Z"⟩ : MethodName) jdk_43_method_13_code 3 (some .boolean) :: ws) ({ frames := 0, cells := 0, slots := 0, locals := 0 } : Room)) (fun a U => a = #[(.ref a1), (.ref a2)] ∧ Z.Warmed39 U.vm ∧ U.heap = h0) (fun _ _ _ _ _ => True) (fun _ U o U' => ∃ v L, o = .returned v ∧ Qeq22 Z a1 a2 ka kb x0 x1 y0 y1 h0 n0 v U'.heap L ∧ FrameEnd U o U' L ({ frames := 0, cells := 0, slots := 0, locals := 0 } : Room).cells ({ frames := 0, cells := 0, slots := 0, locals := 0 } : Room).slots) := by
  refine MetFree.of_bodySF (plainFor_of_name pn_0) hisR ?_
  intro p e s m args below meth c s₁ Bd hml0 hP hK
  obtain ⟨rfl, hZ, hh⟩ := hP
  have hx := Bd.exec
  have hby := Bd.bytes
  have hml : c.maxLocals = 3 := hml0
  have hown : s.vm.findClass "java/lang/StringLatin1" = some m.cls := findClass_of_methodNamed Bd.named
  have hnm := (name_of_methodNamed Bd.named Bd.method).1
  have X0 : Stand p l e ({ frames := 0, cells := 0, slots := 0, locals := 0 } : Room) s m #[(.ref a1), (.ref a2)] below meth c s₁ [] 0 0 := Stand.of_body Bd
  have e0 : s₁.heap = h0 := by rw [← hh, Bd.state]; rfl
  have N0 := Fr.nil n0
  show OGo p e below (fun s₂ o => ∃ v L, o = .returned v ∧ Qeq22 Z a1 a2 ka kb x0 x1 y0 y1 h0 n0 v s₂.heap L ∧ FrameEnd s o s₂ L ({ frames := 0, cells := 0, slots := 0, locals := 0 } : Room).cells ({ frames := 0, cells := 0, slots := 0, locals := 0 } : Room).slots) _
  refine OGo.to (fun _ k => castTop (ef_eq22 m a1 a2) k) ?_
  refine OGo.to (fun _ k => XS.aloadN X0.here hx rfl (hb hby d15_0) rfl rfl k) ?_
  have Vq_1 := VX
  obtain ⟨cl_1, Ar_1, q_1, S_1, M_1, Hs_1, G_1⟩ := Vq_1
  refine OGo.to (fun _ k => X0.arraylength hx (by rw [e0]; exact Ar_1.1) (State.isArrayOf_alike hZ.alike Ar_1.2.1) (g := (mkF m 1 #[.val (.ref a1), .val (.ref a2), .unset] [(.ref a1)])) rfl rfl (hb hby d15_1) _ k) ?_
  rw [len_of S_1 M_1]
  show OGo p e below _ (s₁.setTop (mkF m 2 #[.val (.ref a1), .val (.ref a2), .unset] [(.int (2 : Int32))]))
  refine OGo.to (fun _ k => XS.aloadN X0.here hx rfl (hb hby d15_2) rfl rfl k) ?_
  have Vq_2 := VY
  obtain ⟨cl_2, Ar_2, q_2, S_2, M_2, Hs_2, G_2⟩ := Vq_2
  refine OGo.to (fun _ k => X0.arraylength hx (by rw [e0]; exact Ar_2.1) (State.isArrayOf_alike hZ.alike Ar_2.2.1) (g := (mkF m 3 #[.val (.ref a1), .val (.ref a2), .unset] [(.ref a2), (.int (2 : Int32))])) rfl rfl (hb hby d15_3) _ k) ?_
  rw [len_of S_2 M_2]
  show OGo p e below _ (s₁.setTop (mkF m 4 #[.val (.ref a1), .val (.ref a2), .unset] [(.int (2 : Int32)), (.int (2 : Int32))]))
  have hc4__3 : (2 : Int32) = (2 : Int32) := by decide
  refine OGo.to (fun _ k => XS.icmpNo X0.here hx rfl (hb hby d15_4) rfl (teq hc4__3).2 k) ?_
  show OGo p e below _ (s₁.setTop (mkF m 7 #[.val (.ref a1), .val (.ref a2), .unset] []))
  refine OGo.to (fun _ k => XS.iconst X0.here hx rfl (hb hby d15_7) k) ?_
  refine OGo.to (fun _ k => XS.istoreN X0.here hx rfl (hb hby d15_8) rfl (l' := #[.val (.ref a1), .val (.ref a2), .val (.int (0 : Int32))]) rfl k) ?_
  refine OGo.to (fun _ k => XS.iloadN X0.here hx rfl (hb hby d15_9) rfl k) ?_
  refine OGo.to (fun _ k => XS.aloadN X0.here hx rfl (hb hby d15_10) rfl rfl k) ?_
  have Vq_4 := VX
  obtain ⟨cl_4, Ar_4, q_4, S_4, M_4, Hs_4, G_4⟩ := Vq_4
  refine OGo.to (fun _ k => X0.arraylength hx (by rw [e0]; exact Ar_4.1) (State.isArrayOf_alike hZ.alike Ar_4.2.1) (g := (mkF m 11 #[.val (.ref a1), .val (.ref a2), .val (.int (0 : Int32))] [(.ref a1), (.int (0 : Int32))])) rfl rfl (hb hby d15_11) _ k) ?_
  rw [len_of S_4 M_4]
  show OGo p e below _ (s₁.setTop (mkF m 12 #[.val (.ref a1), .val (.ref a2), .val (.int (0 : Int32))] [(.int (2 : Int32)), (.int (0 : Int32))]))
  have hc12__5 : (0 : Int32) < (2 : Int32) := by decide
  refine OGo.to (fun _ k => XS.icmpNo X0.here hx rfl (hb hby d15_12) rfl (tlt hc12__5).2.1 k) ?_
  show OGo p e below _ (s₁.setTop (mkF m 15 #[.val (.ref a1), .val (.ref a2), .val (.int (0 : Int32))] []))
  refine OGo.to (fun _ k => XS.aloadN X0.here hx rfl (hb hby d15_15) rfl rfl k) ?_
  refine OGo.to (fun _ k => XS.iloadN X0.here hx rfl (hb hby d15_16) rfl k) ?_
  have Vq_6 := VX
  obtain ⟨cl_6, Ar_6, q_6, S_6, M_6, Hs_6, G_6⟩ := Vq_6
  have hin_7 : ¬ ((0 : Int32) < 0 ∨ cl_6.slots.size ≤ ((0 : Int32)).toNatClampNeg) := inb_of S_6 ⟨by decide, by decide⟩
  have hat_7 : cl_6.slots[((0 : Int32)).toNatClampNeg]? = some (.int x0) := Hs_6.at hin_7 (rfl)
  refine OGo.to (fun _ k => X0.baloadBytes hx (j := (0 : Int32)) (v := (.int x0)) (by rw [e0]; exact Ar_6.1) (State.isArrayOf_alike hZ.alike Ar_6.2.1) Ar_6.2.2 hin_7 hat_7 (g := (mkF m 17 #[.val (.ref a1), .val (.ref a2), .val (.int (0 : Int32))] [(.int (0 : Int32)), (.ref a1)])) rfl rfl (hb hby d15_17) _ k) ?_
  show OGo p e below _ (s₁.setTop (mkF m 18 #[.val (.ref a1), .val (.ref a2), .val (.int (0 : Int32))] [(.int x0)]))
  refine OGo.to (fun _ k => XS.aloadN X0.here hx rfl (hb hby d15_18) rfl rfl k) ?_
  refine OGo.to (fun _ k => XS.iloadN X0.here hx rfl (hb hby d15_19) rfl k) ?_
  have Vq_8 := VY
  obtain ⟨cl_8, Ar_8, q_8, S_8, M_8, Hs_8, G_8⟩ := Vq_8
  have hin_9 : ¬ ((0 : Int32) < 0 ∨ cl_8.slots.size ≤ ((0 : Int32)).toNatClampNeg) := inb_of S_8 ⟨by decide, by decide⟩
  have hat_9 : cl_8.slots[((0 : Int32)).toNatClampNeg]? = some (.int y0) := Hs_8.at hin_9 (rfl)
  refine OGo.to (fun _ k => X0.baloadBytes hx (j := (0 : Int32)) (v := (.int y0)) (by rw [e0]; exact Ar_8.1) (State.isArrayOf_alike hZ.alike Ar_8.2.1) Ar_8.2.2 hin_9 hat_9 (g := (mkF m 20 #[.val (.ref a1), .val (.ref a2), .val (.int (0 : Int32))] [(.int (0 : Int32)), (.ref a2), (.int x0)])) rfl rfl (hb hby d15_20) _ k) ?_
  show OGo p e below _ (s₁.setTop (mkF m 21 #[.val (.ref a1), .val (.ref a2), .val (.int (0 : Int32))] [(.int y0), (.int x0)]))
  by_cases hc21__10 : x0 = y0
  ·  -- pc 21: yes
    refine OGo.to (fun _ k => XS.icmpYes X0.here hx rfl (pc0 := 21) (pc' := 26) rfl (hb hby d15_21) rfl (teq hc21__10).1 (by decide) (by decide) k) ?_
    show OGo p e below _ (s₁.setTop (mkF m 26 #[.val (.ref a1), .val (.ref a2), .val (.int (0 : Int32))] []))
    refine OGo.to (fun _ k => XS.iinc X0.here hx rfl (hb hby d15_26) rfl (l' := #[.val (.ref a1), .val (.ref a2), .val (.int (1 : Int32))]) rfl k) ?_
    refine OGo.to (fun _ k => XS.goto X0.here hx rfl (pc0 := 29) (pc' := 9) rfl (hb hby d15_29) (by decide) (by decide) k) ?_
    refine OGo.to (fun _ k => XS.iloadN X0.here hx rfl (hb hby d15_9) rfl k) ?_
    refine OGo.to (fun _ k => XS.aloadN X0.here hx rfl (hb hby d15_10) rfl rfl k) ?_
    have Vq_11 := VX
    obtain ⟨cl_11, Ar_11, q_11, S_11, M_11, Hs_11, G_11⟩ := Vq_11
    refine OGo.to (fun _ k => X0.arraylength hx (by rw [e0]; exact Ar_11.1) (State.isArrayOf_alike hZ.alike Ar_11.2.1) (g := (mkF m 11 #[.val (.ref a1), .val (.ref a2), .val (.int (1 : Int32))] [(.ref a1), (.int (1 : Int32))])) rfl rfl (hb hby d15_11) _ k) ?_
    rw [len_of S_11 M_11]
    show OGo p e below _ (s₁.setTop (mkF m 12 #[.val (.ref a1), .val (.ref a2), .val (.int (1 : Int32))] [(.int (2 : Int32)), (.int (1 : Int32))]))
    have hc12__12 : (1 : Int32) < (2 : Int32) := by decide
    refine OGo.to (fun _ k => XS.icmpNo X0.here hx rfl (hb hby d15_12) rfl (tlt hc12__12).2.1 k) ?_
    show OGo p e below _ (s₁.setTop (mkF m 15 #[.val (.ref a1), .val (.ref a2), .val (.int (1 : Int32))] []))
    refine OGo.to (fun _ k => XS.aloadN X0.here hx rfl (hb hby d15_15) rfl rfl k) ?_
    show OGo p e below _ (s₁.setTop (mkF m 16 #[.val (.ref a1), .val (.ref a2), .val (.int (1 : Int32))] [(.ref a1)]))
    refine OGo.to (fun _ k => XS.iloadN X0.here hx rfl (hb hby d15_16) rfl k) ?_
    have Vq_13 := VX
    obtain ⟨cl_13, Ar_13, q_13, S_13, M_13, Hs_13, G_13⟩ := Vq_13
    have hin_14 : ¬ ((1 : Int32) < 0 ∨ cl_13.slots.size ≤ ((1 : Int32)).toNatClampNeg) := inb_of S_13 ⟨by decide, by decide⟩
    have hat_14 : cl_13.slots[((1 : Int32)).toNatClampNeg]? = some (.int x1) := Hs_13.at hin_14 (rfl)
    refine OGo.to (fun _ k => X0.baloadBytes hx (j := (1 : Int32)) (v := (.int x1)) (by rw [e0]; exact Ar_13.1) (State.isArrayOf_alike hZ.alike Ar_13.2.1) Ar_13.2.2 hin_14 hat_14 (g := (mkF m 17 #[.val (.ref a1), .val (.ref a2), .val (.int (1 : Int32))] [(.int (1 : Int32)), (.ref a1)])) rfl rfl (hb hby d15_17) _ k) ?_
    show OGo p e below _ (s₁.setTop (mkF m 18 #[.val (.ref a1), .val (.ref a2), .val (.int (1 : Int32))] [(.int x1)]))
    refine OGo.to (fun _ k => XS.aloadN X0.here hx rfl (hb hby d15_18) rfl rfl k) ?_
    refine OGo.to (fun _ k => XS.iloadN X0.here hx rfl (hb hby d15_19) rfl k) ?_
    have Vq_15 := VY
    obtain ⟨cl_15, Ar_15, q_15, S_15, M_15, Hs_15, G_15⟩ := Vq_15
    have hin_16 : ¬ ((1 : Int32) < 0 ∨ cl_15.slots.size ≤ ((1 : Int32)).toNatClampNeg) := inb_of S_15 ⟨by decide, by decide⟩
    have hat_16 : cl_15.slots[((1 : Int32)).toNatClampNeg]? = some (.int y1) := Hs_15.at hin_16 (rfl)
    refine OGo.to (fun _ k => X0.baloadBytes hx (j := (1 : Int32)) (v := (.int y1)) (by rw [e0]; exact Ar_15.1) (State.isArrayOf_alike hZ.alike Ar_15.2.1) Ar_15.2.2 hin_16 hat_16 (g := (mkF m 20 #[.val (.ref a1), .val (.ref a2), .val (.int (1 : Int32))] [(.int (1 : Int32)), (.ref a2), (.int x1)])) rfl rfl (hb hby d15_20) _ k) ?_
    show OGo p e below _ (s₁.setTop (mkF m 21 #[.val (.ref a1), .val (.ref a2), .val (.int (1 : Int32))] [(.int y1), (.int x1)]))
    by_cases hc21__17 : x1 = y1
    ·  -- pc 21: yes
      refine OGo.to (fun _ k => XS.icmpYes X0.here hx rfl (pc0 := 21) (pc' := 26) rfl (hb hby d15_21) rfl (teq hc21__17).1 (by decide) (by decide) k) ?_
      show OGo p e below _ (s₁.setTop (mkF m 26 #[.val (.ref a1), .val (.ref a2), .val (.int (1 : Int32))] []))
      refine OGo.to (fun _ k => XS.iinc X0.here hx rfl (hb hby d15_26) rfl (l' := #[.val (.ref a1), .val (.ref a2), .val (.int (2 : Int32))]) rfl k) ?_
      refine OGo.to (fun _ k => XS.goto X0.here hx rfl (pc0 := 29) (pc' := 9) rfl (hb hby d15_29) (by decide) (by decide) k) ?_
      refine OGo.to (fun _ k => XS.iloadN X0.here hx rfl (hb hby d15_9) rfl k) ?_
      refine OGo.to (fun _ k => XS.aloadN X0.here hx rfl (hb hby d15_10) rfl rfl k) ?_
      have Vq_18 := VX
      obtain ⟨cl_18, Ar_18, q_18, S_18, M_18, Hs_18, G_18⟩ := Vq_18
      refine OGo.to (fun _ k => X0.arraylength hx (by rw [e0]; exact Ar_18.1) (State.isArrayOf_alike hZ.alike Ar_18.2.1) (g := (mkF m 11 #[.val (.ref a1), .val (.ref a2), .val (.int (2 : Int32))] [(.ref a1), (.int (2 : Int32))])) rfl rfl (hb hby d15_11) _ k) ?_
      rw [len_of S_18 M_18]
      show OGo p e below _ (s₁.setTop (mkF m 12 #[.val (.ref a1), .val (.ref a2), .val (.int (2 : Int32))] [(.int (2 : Int32)), (.int (2 : Int32))]))
      have hc12__19 : ¬ ((2 : Int32) < (2 : Int32)) := by decide
      refine OGo.to (fun _ k => XS.icmpYes X0.here hx rfl (pc0 := 12) (pc' := 32) rfl (hb hby d15_12) rfl (flt hc12__19).2.1 (by decide) (by decide) k) ?_
      show OGo p e below _ (s₁.setTop (mkF m 32 #[.val (.ref a1), .val (.ref a2), .val (.int (2 : Int32))] []))
      refine OGo.to (fun _ k => XS.iconst X0.here hx rfl (hb hby d15_32) k) ?_
      refine OGo.ret (Q := Qeq22 Z a1 a2 ka kb x0 x1 y0 y1 h0 n0) X0 (some (.int (1 : Int32))) (fun h => by rw [Bd.returns] at h; cases h) Bd.notSynchronized (fun fs hr => retN X0 hx (t := .boolean) (z := (1 : Int32)) Bd.returns (by simp) (hb hby d15_33) hr) ?_ (by decide) (by decide)
      show Qeq22 Z a1 a2 ka kb x0 x1 y0 y1 h0 n0 _ s₁.heap _
      rw [e0]
      exact ⟨congrArg (fun z => some (Value.int z)) (show (1 : Int32) = (own_seq [x0, x1] [y0, y1]) from own_seq_yes (by simp [hc21__10, hc21__17])), N0, rfl⟩
    ·  -- pc 21: no
      refine OGo.to (fun _ k => XS.icmpNo X0.here hx rfl (hb hby d15_21) rfl (feq hc21__17).1 k) ?_
      show OGo p e below _ (s₁.setTop (mkF m 24 #[.val (.ref a1), .val (.ref a2), .val (.int (1 : Int32))] []))
      refine OGo.to (fun _ k => XS.iconst X0.here hx rfl (hb hby d15_24) k) ?_
      refine OGo.ret (Q := Qeq22 Z a1 a2 ka kb x0 x1 y0 y1 h0 n0) X0 (some (.int (0 : Int32))) (fun h => by rw [Bd.returns] at h; cases h) Bd.notSynchronized (fun fs hr => retN X0 hx (t := .boolean) (z := (0 : Int32)) Bd.returns (by simp) (hb hby d15_25) hr) ?_ (by decide) (by decide)
      show Qeq22 Z a1 a2 ka kb x0 x1 y0 y1 h0 n0 _ s₁.heap _
      rw [e0]
      exact ⟨congrArg (fun z => some (Value.int z)) (show (0 : Int32) = (own_seq [x0, x1] [y0, y1]) from own_seq_no (by simp [hc21__10, hc21__17])), N0, rfl⟩
  ·  -- pc 21: no
    refine OGo.to (fun _ k => XS.icmpNo X0.here hx rfl (hb hby d15_21) rfl (feq hc21__10).1 k) ?_
    show OGo p e below _ (s₁.setTop (mkF m 24 #[.val (.ref a1), .val (.ref a2), .val (.int (0 : Int32))] []))
    refine OGo.to (fun _ k => XS.iconst X0.here hx rfl (hb hby d15_24) k) ?_
    refine OGo.ret (Q := Qeq22 Z a1 a2 ka kb x0 x1 y0 y1 h0 n0) X0 (some (.int (0 : Int32))) (fun h => by rw [Bd.returns] at h; cases h) Bd.notSynchronized (fun fs hr => retN X0 hx (t := .boolean) (z := (0 : Int32)) Bd.returns (by simp) (hb hby d15_25) hr) ?_ (by decide) (by decide)
    show Qeq22 Z a1 a2 ka kb x0 x1 y0 y1 h0 n0 _ s₁.heap _
    rw [e0]
    exact ⟨congrArg (fun z => some (Value.int z)) (show (0 : Int32) = (own_seq [x0, x1] [y0, y1]) from own_seq_no (by simp [hc21__10])), N0, rfl⟩
theorem d8_0 : decode jdk_42_method_152_code 0 = .ok (.getstatic 38, 3) := by decide +kernel
theorem d8_3 : decode jdk_42_method_152_code 3 = .ok (.ifCond .eq 10, 3) := by decide +kernel
theorem d8_6 : decode jdk_42_method_152_code 6 = .ok (.aload_n 0, 1) := by decide +kernel
theorem d8_7 : decode jdk_42_method_152_code 7 = .ok (.getfield 15, 3) := by decide +kernel
theorem d8_10 : decode jdk_42_method_152_code 10 = .ok (.goto 4, 3) := by decide +kernel
theorem d8_14 : decode jdk_42_method_152_code 14 = .ok (.ireturn, 1) := by decide +kernel
theorem ef_cod (m : MethodId) (x0 : Addr) : entryFrame m #[(.ref x0)] 1 = mkF m 0 #[.val (.ref x0)] [] := by first | (simp [entryFrame, mkF, argsToLocals, Value.category]; done) | rfl
def Qcod (Z : State) (a1 : Addr) (cs : Int32) (h0 : Heap) (n0 : Nat) (v : Option Value) (h : Heap) (L : List Loc) : Prop := v = some (.int (0 : Int32)) ∧ Fr n0 L ∧ h = h0
set_option maxRecDepth 65536 in
set_option maxHeartbeats 40000000 in
theorem rmcod (l : Launch) (Z : State) (a0 : Array Value) (hw : ∀ d ∈ tables_1, d.before a0 Z = true) (ws : List Jvm.Cond) (a1 : Addr) (cs : Int32) (h0 : Heap) (n0 : Nat) (Z0 : n0 ≤ h0.size) (SC : Sta Z Z.heap "java/lang/String" "COMPACT_STRINGS" "Z" (.int cs)) (O0 : Old Z n0 h0) (hcs : ¬ (cs = (0 : Int32))) (Fc : Fld Z h0 a1 "java/lang/String" "coder" "B" (.int (0 : Int32))) :
    MetFree l (⟨"java/lang/String", "coder", "()B"⟩ : MethodName) (head1 (Jvm.Cond.code (⟨"java/lang/String", "coder", "()B"⟩ : MethodName) jdk_42_method_152_code 1 (some .byte) :: ws) ({ frames := 0, cells := 0, slots := 0, locals := 0 } : Room)) (fun a U => a = #[(.ref a1)] ∧ Z.Warmed39 U.vm ∧ U.heap = h0) (fun _ _ _ _ _ => True) (fun _ U o U' => ∃ v L, o = .returned v ∧ Qcod Z a1 cs h0 n0 v U'.heap L ∧ FrameEnd U o U' L ({ frames := 0, cells := 0, slots := 0, locals := 0 } : Room).cells ({ frames := 0, cells := 0, slots := 0, locals := 0 } : Room).slots) := by
  refine MetFree.of_bodySF (plainFor_of_name pn_1) hisR ?_
  intro p e s m args below meth c s₁ Bd hml0 hP hK
  obtain ⟨rfl, hZ, hh⟩ := hP
  have hx := Bd.exec
  have hby := Bd.bytes
  have hml : c.maxLocals = 1 := hml0
  have hown : s.vm.findClass "java/lang/String" = some m.cls := findClass_of_methodNamed Bd.named
  have hnm := (name_of_methodNamed Bd.named Bd.method).1
  have X0 : Stand p l e ({ frames := 0, cells := 0, slots := 0, locals := 0 } : Room) s m #[(.ref a1)] below meth c s₁ [] 0 0 := Stand.of_body Bd
  have e0 : s₁.heap = h0 := by rw [← hh, Bd.state]; rfl
  have N0 := Fr.nil n0
  show OGo p e below (fun s₂ o => ∃ v L, o = .returned v ∧ Qcod Z a1 cs h0 n0 v s₂.heap L ∧ FrameEnd s o s₂ L ({ frames := 0, cells := 0, slots := 0, locals := 0 } : Room).cells ({ frames := 0, cells := 0, slots := 0, locals := 0 } : Room).slots) _
  refine OGo.to (fun _ k => castTop (ef_cod m a1) k) ?_
  have f_1 : Sta Z h0 "java/lang/String" "COMPACT_STRINGS" "Z" (.int cs) := Sta.ext O0.2 SC
  obtain ⟨T_2, X_2, e_2, st_2⟩ := getS2 X0 hx hZ hown (host := "") (Or.inl (hw _ (List.mem_of_getElem? (i := 46) rfl))) Via.refl e0 f_1 (g := (mkF m 0 #[.val (.ref a1)] [])) rfl (hb hby d8_0)
  refine OGo.to st_2 ?_
  show OGo p e below _ (T_2.setTop (mkF m 3 #[.val (.ref a1)] [(.int cs)]))
  refine OGo.to (fun _ k => XS.ifNo X_2.here hx rfl (hb hby d8_3) rfl ((if0 _ _).trans (feq hcs).1) k) ?_
  show OGo p e below _ (T_2.setTop (mkF m 6 #[.val (.ref a1)] []))
  refine OGo.to (fun _ k => XS.aloadN X_2.here hx rfl (hb hby d8_6) rfl rfl k) ?_
  obtain ⟨T_4, X_4, e_4, st_4⟩ := getF X_2 hx hZ hown (host := "") (Or.inl (hw _ (List.mem_of_getElem? (i := 25) rfl))) Via.refl e_2 Fc (g := (mkF m 7 #[.val (.ref a1)] [(.ref a1)])) rfl rfl (hb hby d8_7)
  refine OGo.to st_4 ?_
  show OGo p e below _ (T_4.setTop (mkF m 10 #[.val (.ref a1)] [(.int (0 : Int32))]))
  refine OGo.to (fun _ k => XS.goto X_4.here hx rfl (pc0 := 10) (pc' := 14) rfl (hb hby d8_10) (by decide) (by decide) k) ?_
  refine OGo.ret (Q := Qcod Z a1 cs h0 n0) X_4 (some (.int (0 : Int32))) (fun h => by rw [Bd.returns] at h; cases h) Bd.notSynchronized (fun fs hr => retN X_4 hx (t := .byte) (z := (0 : Int32)) Bd.returns (by simp) (hb hby d8_14) hr) ?_ (by decide) (by decide)
  show Qcod Z a1 cs h0 n0 _ T_4.heap _
  rw [e_4]
  exact ⟨rfl, N0, rfl⟩
theorem d7_0 : decode jdk_42_method_71_code 0 = .ok (.aload_n 0, 1) := by decide +kernel
theorem d7_1 : decode jdk_42_method_71_code 1 = .ok (.getfield 9, 3) := by decide +kernel
theorem d7_4 : decode jdk_42_method_71_code 4 = .ok (.astore_n 2, 1) := by decide +kernel
theorem d7_5 : decode jdk_42_method_71_code 5 = .ok (.aload_n 1, 1) := by decide +kernel
theorem d7_6 : decode jdk_42_method_71_code 6 = .ok (.getfield 9, 3) := by decide +kernel
theorem d7_9 : decode jdk_42_method_71_code 9 = .ok (.astore_n 3, 1) := by decide +kernel
theorem d7_10 : decode jdk_42_method_71_code 10 = .ok (.aload_n 0, 1) := by decide +kernel
theorem d7_11 : decode jdk_42_method_71_code 11 = .ok (.invokevirtual 335, 3) := by decide +kernel
theorem d7_14 : decode jdk_42_method_71_code 14 = .ok (.istore 4, 2) := by decide +kernel
theorem d7_16 : decode jdk_42_method_71_code 16 = .ok (.iload 4, 2) := by decide +kernel
theorem d7_18 : decode jdk_42_method_71_code 18 = .ok (.aload_n 1, 1) := by decide +kernel
theorem d7_19 : decode jdk_42_method_71_code 19 = .ok (.invokevirtual 335, 3) := by decide +kernel
theorem d7_22 : decode jdk_42_method_71_code 22 = .ok (.if_icmp .ne 22, 3) := by decide +kernel
theorem d7_25 : decode jdk_42_method_71_code 25 = .ok (.iload 4, 2) := by decide +kernel
theorem d7_27 : decode jdk_42_method_71_code 27 = .ok (.ifCond .ne 11, 3) := by decide +kernel
theorem d7_30 : decode jdk_42_method_71_code 30 = .ok (.aload_n 2, 1) := by decide +kernel
theorem d7_31 : decode jdk_42_method_71_code 31 = .ok (.aload_n 3, 1) := by decide +kernel
theorem d7_32 : decode jdk_42_method_71_code 32 = .ok (.invokestatic 586, 3) := by decide +kernel
theorem d7_35 : decode jdk_42_method_71_code 35 = .ok (.goto 8, 3) := by decide +kernel
theorem d7_43 : decode jdk_42_method_71_code 43 = .ok (.ireturn, 1) := by decide +kernel
theorem ef_scmp (m : MethodId) (x0 : Addr) (x1 : Addr) : entryFrame m #[(.ref x0), (.ref x1)] 5 = mkF m 0 #[.val (.ref x0), .val (.ref x1), .unset, .unset, .unset] [] := by first | (simp [entryFrame, mkF, argsToLocals, Value.category]; done) | rfl
def Qscmp (Z : State) (a1 : Addr) (a2 : Addr) (t1 : Addr) (k1 : ClassId) (l1 : List Int32) (t2 : Addr) (k2 : ClassId) (l2 : List Int32) (cs : Int32) (h0 : Heap) (n0 : Nat) (v : Option Value) (h : Heap) (L : List Loc) : Prop := v = some (.int (own_scmp l1 l2)) ∧ Fr n0 L ∧ h = h0
set_option maxRecDepth 65536 in
set_option maxHeartbeats 40000000 in
theorem rmscmp (l : Launch) (Z : State) (a0 : Array Value) (hw : ∀ d ∈ tables_1, d.before a0 Z = true) (ws : List Jvm.Cond) (a1 : Addr) (a2 : Addr) (t1 : Addr) (k1 : ClassId) (l1 : List Int32) (t2 : Addr) (k2 : ClassId) (l2 : List Int32) (cs : Int32) (h0 : Heap) (n0 : Nat) (Z0 : n0 ≤ h0.size) (E1_ : Exa Z h0 a1 "java/lang/String") (Fc1_ : Fld Z h0 a1 "java/lang/String" "coder" "B" (.int (0 : Int32))) (Fv1_ : Fld Z h0 a1 "java/lang/String" "value" "[B" (.ref t1)) (V1_ : Arv Z h0 t1 k1 .byte (own_i l1.length) (l1.map Value.int) (.int (0 : Int32))) (E2_ : Exa Z h0 a2 "java/lang/String") (Fc2_ : Fld Z h0 a2 "java/lang/String" "coder" "B" (.int (0 : Int32))) (Fv2_ : Fld Z h0 a2 "java/lang/String" "value" "[B" (.ref t2)) (V2_ : Arv Z h0 t2 k2 .byte (own_i l2.length) (l2.map Value.int) (.int (0 : Int32))) (ok1 : own_ok l1) (ok2 : own_ok l2) (SC : Sta Z Z.heap "java/lang/String" "COMPACT_STRINGS" "Z" (.int cs)) (O0 : Old Z n0 h0) (hcs : ¬ (cs = (0 : Int32))) :
    MetFree l (⟨"java/lang/String", "compareTo", "(Ljava/lang/String;)I"⟩ : MethodName) (head1 (Jvm.Cond.code (⟨"java/lang/String", "compareTo", "(Ljava/lang/String;)I"⟩ : MethodName) jdk_42_method_71_code 5 (some .int) :: ws) ({ frames := 3, cells := 0, slots := 0, locals := 47 } : Room)) (fun a U => a = #[(.ref a1), (.ref a2)] ∧ Z.Warmed39 U.vm ∧ U.heap = h0) (fun _ _ _ _ _ => True) (fun _ U o U' => ∃ v L, o = .returned v ∧ Qscmp Z a1 a2 t1 k1 l1 t2 k2 l2 cs h0 n0 v U'.heap L ∧ FrameEnd U o U' L ({ frames := 3, cells := 0, slots := 0, locals := 47 } : Room).cells ({ frames := 3, cells := 0, slots := 0, locals := 47 } : Room).slots) := by
  refine MetFree.of_bodySF (plainFor_of_name pn_1) hisR ?_
  intro p e s m args below meth c s₁ Bd hml0 hP hK
  obtain ⟨rfl, hZ, hh⟩ := hP
  have hx := Bd.exec
  have hby := Bd.bytes
  have hml : c.maxLocals = 5 := hml0
  have hown : s.vm.findClass "java/lang/String" = some m.cls := findClass_of_methodNamed Bd.named
  have hnm := (name_of_methodNamed Bd.named Bd.method).1
  have X0 : Stand p l e ({ frames := 3, cells := 0, slots := 0, locals := 47 } : Room) s m #[(.ref a1), (.ref a2)] below meth c s₁ [] 0 0 := Stand.of_body Bd
  have e0 : s₁.heap = h0 := by rw [← hh, Bd.state]; rfl
  have N0 := Fr.nil n0
  show OGo p e below (fun s₂ o => ∃ v L, o = .returned v ∧ Qscmp Z a1 a2 t1 k1 l1 t2 k2 l2 cs h0 n0 v s₂.heap L ∧ FrameEnd s o s₂ L ({ frames := 3, cells := 0, slots := 0, locals := 47 } : Room).cells ({ frames := 3, cells := 0, slots := 0, locals := 47 } : Room).slots) _
  refine OGo.to (fun _ k => castTop (ef_scmp m a1 a2) k) ?_
  rcases own_len2 ok1 with rfl | ⟨x0, rfl⟩ | ⟨x0, x1, rfl⟩ <;> rcases own_len2 ok2 with rfl | ⟨y0, rfl⟩ | ⟨y0, y1, rfl⟩
  ·  -- 0 0
    have V1_c : Arv Z h0 t1 k1 .byte (0 : Int32) [] (.int (0 : Int32)) := V1_
    have V2_c : Arv Z h0 t2 k2 .byte (0 : Int32) [] (.int (0 : Int32)) := V2_
    show OGo p e below _ (s₁.setTop (mkF m 0 #[.val (.ref a1), .val (.ref a2), .unset, .unset, .unset] []))
    refine OGo.to (fun _ k => XS.aloadN X0.here hx rfl (hb hby d7_0) rfl rfl k) ?_
    obtain ⟨T_1, X_1, e_1, st_1⟩ := getF X0 hx hZ hown (host := "") (Or.inl (hw _ (List.mem_of_getElem? (i := 24) rfl))) Via.refl e0 Fv1_ (g := (mkF m 1 #[.val (.ref a1), .val (.ref a2), .unset, .unset, .unset] [(.ref a1)])) rfl rfl (hb hby d7_1)
    refine OGo.to st_1 ?_
    show OGo p e below _ (T_1.setTop (mkF m 4 #[.val (.ref a1), .val (.ref a2), .unset, .unset, .unset] [(.ref t1)]))
    refine OGo.to (fun _ k => XS.astoreN X_1.here hx rfl (hb hby d7_4) rfl rfl (l' := #[.val (.ref a1), .val (.ref a2), .val (.ref t1), .unset, .unset]) rfl k) ?_
    refine OGo.to (fun _ k => XS.aloadN X_1.here hx rfl (hb hby d7_5) rfl rfl k) ?_
    obtain ⟨T_2, X_2, e_2, st_2⟩ := getF X_1 hx hZ hown (host := "") (Or.inl (hw _ (List.mem_of_getElem? (i := 24) rfl))) Via.refl e_1 Fv2_ (g := (mkF m 6 #[.val (.ref a1), .val (.ref a2), .val (.ref t1), .unset, .unset] [(.ref a2)])) rfl rfl (hb hby d7_6)
    refine OGo.to st_2 ?_
    show OGo p e below _ (T_2.setTop (mkF m 9 #[.val (.ref a1), .val (.ref a2), .val (.ref t1), .unset, .unset] [(.ref t2)]))
    refine OGo.to (fun _ k => XS.astoreN X_2.here hx rfl (hb hby d7_9) rfl rfl (l' := #[.val (.ref a1), .val (.ref a2), .val (.ref t1), .val (.ref t2), .unset]) rfl k) ?_
    refine OGo.to (fun _ k => XS.aloadN X_2.here hx rfl (hb hby d7_10) rfl rfl k) ?_
    obtain ⟨cq_3, kq_3, q_3a, q_3b, q_3c⟩ := isOf hZ e_2 E1_
    obtain ⟨_, T_3, Lc_3, X_3, hQ_3, st_3⟩ := own_un X_2 (Q := Qcod Z a1 cs h0 n0) (rc := 0) (rs := 0) (W := fun v B => Steps p.tables e below (T_2.setTop (mkF m 11 #[.val (.ref a1), .val (.ref a2), .val (.ref t1), .val (.ref t2), .unset] [(.ref a1)])) (B.setTop { (mkF m 11 #[.val (.ref a1), .val (.ref a2), .val (.ref t1), .val (.ref t2), .unset] [(.ref a1)]) with pc := 14, stack := v.toList ++ [] })) <| X_2.virtualBack hx (y := (⟨"java/lang/String", "coder", "()B"⟩ : MethodName)) (z := (⟨"java/lang/String", "coder", "()B"⟩ : MethodName)) hown (mvT hZ (hw _ (List.mem_of_getElem? (i := 41) rfl))) (mvT hZ (hw _ (List.mem_of_getElem? (i := 42) rfl))) (notFace_of_selects (args := #[]) (mvT hZ (hw _ (List.mem_of_getElem? (i := 44) rfl)))) (mvT hZ (hw _ (List.mem_of_getElem? (i := 44) rfl))) (mvT hZ (hw _ (List.mem_of_getElem? (i := 43) rfl))) (by decide) (backOf (W := 0) (rmcod l Z a0 hw [] a1 cs h0 n0 Z0 SC O0 (hcs) Fc1_) hZ (hw _ (List.mem_of_getElem? (i := 45) rfl)) (hw _ (List.mem_of_getElem? (i := 6) rfl)) (by decide) (by decide)) q_3a q_3c (g := (mkF m 11 #[.val (.ref a1), .val (.ref a2), .val (.ref t1), .val (.ref t2), .unset] [(.ref a1)])) rfl (by rw [hml]; rfl) (Steps.refl _) (argsL := []) (rest := []) (lenOf pd_13 rfl) rfl (by show 2 * 0 + _ ≤ _; exact Nat.le_of_eq rfl) (hb hby d7_11) (fun _ _ => ⟨rfl, e_2, (by decide : 0 + 0 ≤ _), (by decide : 0 + 0 ≤ _)⟩)
    obtain ⟨rfl, N_3q, e_3⟩ := hQ_3
    have N_3 := Fr.app N0 N_3q
    refine OGo.to (fun _ k => st_3.trans k) ?_
    show OGo p e below _ (T_3.setTop (mkF m 14 #[.val (.ref a1), .val (.ref a2), .val (.ref t1), .val (.ref t2), .unset] [(.int (0 : Int32))]))
    refine OGo.to (fun _ k => XS.istore X_3.here hx rfl (hb hby d7_14) rfl (l' := #[.val (.ref a1), .val (.ref a2), .val (.ref t1), .val (.ref t2), .val (.int (0 : Int32))]) rfl k) ?_
    refine OGo.to (fun _ k => XS.iload X_3.here hx rfl (hb hby d7_16) rfl k) ?_
    refine OGo.to (fun _ k => XS.aloadN X_3.here hx rfl (hb hby d7_18) rfl rfl k) ?_
    obtain ⟨cq_4, kq_4, q_4a, q_4b, q_4c⟩ := isOf hZ e_3 E2_
    obtain ⟨_, T_4, Lc_4, X_4, hQ_4, st_4⟩ := own_un X_3 (Q := Qcod Z a2 cs h0 n0) (rc := 0) (rs := 0) (W := fun v B => Steps p.tables e below (T_3.setTop (mkF m 19 #[.val (.ref a1), .val (.ref a2), .val (.ref t1), .val (.ref t2), .val (.int (0 : Int32))] [(.ref a2), (.int (0 : Int32))])) (B.setTop { (mkF m 19 #[.val (.ref a1), .val (.ref a2), .val (.ref t1), .val (.ref t2), .val (.int (0 : Int32))] [(.ref a2), (.int (0 : Int32))]) with pc := 22, stack := v.toList ++ [(.int (0 : Int32))] })) <| X_3.virtualBack hx (y := (⟨"java/lang/String", "coder", "()B"⟩ : MethodName)) (z := (⟨"java/lang/String", "coder", "()B"⟩ : MethodName)) hown (mvT hZ (hw _ (List.mem_of_getElem? (i := 41) rfl))) (mvT hZ (hw _ (List.mem_of_getElem? (i := 42) rfl))) (notFace_of_selects (args := #[]) (mvT hZ (hw _ (List.mem_of_getElem? (i := 44) rfl)))) (mvT hZ (hw _ (List.mem_of_getElem? (i := 44) rfl))) (mvT hZ (hw _ (List.mem_of_getElem? (i := 43) rfl))) (by decide) (backOf (W := 1) (rmcod l Z a0 hw [] a2 cs h0 n0 Z0 SC O0 (hcs) Fc2_) hZ (hw _ (List.mem_of_getElem? (i := 45) rfl)) (hw _ (List.mem_of_getElem? (i := 6) rfl)) (by decide) (by decide)) q_4a q_4c (g := (mkF m 19 #[.val (.ref a1), .val (.ref a2), .val (.ref t1), .val (.ref t2), .val (.int (0 : Int32))] [(.ref a2), (.int (0 : Int32))])) rfl (by rw [hml]; rfl) (Steps.refl _) (argsL := []) (rest := [(.int (0 : Int32))]) (lenOf pd_13 rfl) rfl (by show 2 * 0 + _ ≤ _; exact Nat.le_of_eq rfl) (hb hby d7_19) (fun _ _ => ⟨rfl, e_3, (by decide : 0 + 0 ≤ _), (by decide : 0 + 0 ≤ _)⟩)
    obtain ⟨rfl, N_4q, e_4⟩ := hQ_4
    have N_4 := Fr.app N_3 N_4q
    refine OGo.to (fun _ k => st_4.trans k) ?_
    show OGo p e below _ (T_4.setTop (mkF m 22 #[.val (.ref a1), .val (.ref a2), .val (.ref t1), .val (.ref t2), .val (.int (0 : Int32))] [(.int (0 : Int32)), (.int (0 : Int32))]))
    have hc22__5 : (0 : Int32) = (0 : Int32) := by decide
    refine OGo.to (fun _ k => XS.icmpNo X_4.here hx rfl (hb hby d7_22) rfl (teq hc22__5).2 k) ?_
    show OGo p e below _ (T_4.setTop (mkF m 25 #[.val (.ref a1), .val (.ref a2), .val (.ref t1), .val (.ref t2), .val (.int (0 : Int32))] []))
    refine OGo.to (fun _ k => XS.iload X_4.here hx rfl (hb hby d7_25) rfl k) ?_
    have hc27__6 : (0 : Int32) = (0 : Int32) := by decide
    refine OGo.to (fun _ k => XS.ifNo X_4.here hx rfl (hb hby d7_27) rfl ((if0 _ _).trans (teq hc27__6).2) k) ?_
    show OGo p e below _ (T_4.setTop (mkF m 30 #[.val (.ref a1), .val (.ref a2), .val (.ref t1), .val (.ref t2), .val (.int (0 : Int32))] []))
    refine OGo.to (fun _ k => XS.aloadN X_4.here hx rfl (hb hby d7_30) rfl rfl k) ?_
    refine OGo.to (fun _ k => XS.aloadN X_4.here hx rfl (hb hby d7_31) rfl rfl k) ?_
    obtain ⟨_, T_7, Lc_7, X_7, hQ_7, st_7⟩ := own_un X_4 (Q := Qc200 Z t1 t2 k1 k2 h0 n0) (rc := 0) (rs := 0) (W := fun v B => ∀ target, Steps p.tables e below (B.setTop { (mkF m 32 #[.val (.ref a1), .val (.ref a2), .val (.ref t1), .val (.ref t2), .val (.int (0 : Int32))] [(.ref t2), (.ref t1)]) with pc := 35, stack := v.toList ++ [] }) target → Steps p.tables e below (T_4.setTop (mkF m 32 #[.val (.ref a1), .val (.ref a2), .val (.ref t1), .val (.ref t2), .val (.int (0 : Int32))] [(.ref t2), (.ref t1)])) target) <| Jvm.LawKit.callS X_4 hx (y := (⟨"java/lang/StringLatin1", "compareTo", "([B[B)I"⟩ : MethodName)) hown (mvT hZ (hw _ (List.mem_of_getElem? (i := 47) rfl))) (mvT hZ (hw _ (List.mem_of_getElem? (i := 48) rfl))) (mvT hZ (hw _ (List.mem_of_getElem? (i := 49) rfl))) (mvT hZ (hw _ (List.mem_of_getElem? (i := 50) rfl))) (by decide) (backOf (W := 0) (rmc200 l Z a0 hw [] t1 t2 k1 k2 h0 n0 Z0 V1_c V2_c) hZ (hw _ (List.mem_of_getElem? (i := 50) rfl)) (hw _ (List.mem_of_getElem? (i := 49) rfl)) (by decide) (by decide)) (g := (mkF m 32 #[.val (.ref a1), .val (.ref a2), .val (.ref t1), .val (.ref t2), .val (.int (0 : Int32))] [(.ref t2), (.ref t1)])) rfl (by rw [hml]; rfl) (argsL := [(.ref t1), (.ref t2)]) (rest := []) (lenOf pd_14 rfl) rfl (by show 2 * 0 + _ ≤ _; exact Nat.le_of_eq rfl) (hb hby d7_32) (fun _ _ => ⟨rfl, e_4, (by decide : 0 + 0 ≤ _), (by decide : 0 + 0 ≤ _)⟩)
    obtain ⟨rfl, N_7q, e_7⟩ := hQ_7
    have N_7 := Fr.app N_4 N_7q
    refine OGo.to st_7 ?_
    show OGo p e below _ (T_7.setTop (mkF m 35 #[.val (.ref a1), .val (.ref a2), .val (.ref t1), .val (.ref t2), .val (.int (0 : Int32))] [(.int (own_scmp [] []))]))
    refine OGo.to (fun _ k => XS.goto X_7.here hx rfl (pc0 := 35) (pc' := 43) rfl (hb hby d7_35) (by decide) (by decide) k) ?_
    refine OGo.ret (Q := Qscmp Z a1 a2 t1 k1 ([] : List Int32) t2 k2 ([] : List Int32) cs h0 n0) X_7 (some (.int (own_scmp [] []))) (fun h => by rw [Bd.returns] at h; cases h) Bd.notSynchronized (fun fs hr => retI X_7 hx Bd.returns (hb hby d7_43) hr) ?_ (by decide) (by decide)
    show Qscmp Z a1 a2 t1 k1 ([] : List Int32) t2 k2 ([] : List Int32) cs h0 n0 _ T_7.heap _
    rw [e_7]
    exact ⟨rfl, N_7, rfl⟩
  ·  -- 0 1
    have V1_c : Arv Z h0 t1 k1 .byte (0 : Int32) [] (.int (0 : Int32)) := V1_
    have V2_c : Arv Z h0 t2 k2 .byte (1 : Int32) [(.int y0)] (.int (0 : Int32)) := V2_
    show OGo p e below _ (s₁.setTop (mkF m 0 #[.val (.ref a1), .val (.ref a2), .unset, .unset, .unset] []))
    refine OGo.to (fun _ k => XS.aloadN X0.here hx rfl (hb hby d7_0) rfl rfl k) ?_
    obtain ⟨T_8, X_8, e_8, st_8⟩ := getF X0 hx hZ hown (host := "") (Or.inl (hw _ (List.mem_of_getElem? (i := 24) rfl))) Via.refl e0 Fv1_ (g := (mkF m 1 #[.val (.ref a1), .val (.ref a2), .unset, .unset, .unset] [(.ref a1)])) rfl rfl (hb hby d7_1)
    refine OGo.to st_8 ?_
    show OGo p e below _ (T_8.setTop (mkF m 4 #[.val (.ref a1), .val (.ref a2), .unset, .unset, .unset] [(.ref t1)]))
    refine OGo.to (fun _ k => XS.astoreN X_8.here hx rfl (hb hby d7_4) rfl rfl (l' := #[.val (.ref a1), .val (.ref a2), .val (.ref t1), .unset, .unset]) rfl k) ?_
    refine OGo.to (fun _ k => XS.aloadN X_8.here hx rfl (hb hby d7_5) rfl rfl k) ?_
    show OGo p e below _ (T_8.setTop (mkF m 6 #[.val (.ref a1), .val (.ref a2), .val (.ref t1), .unset, .unset] [(.ref a2)]))
    obtain ⟨T_9, X_9, e_9, st_9⟩ := getF X_8 hx hZ hown (host := "") (Or.inl (hw _ (List.mem_of_getElem? (i := 24) rfl))) Via.refl e_8 Fv2_ (g := (mkF m 6 #[.val (.ref a1), .val (.ref a2), .val (.ref t1), .unset, .unset] [(.ref a2)])) rfl rfl (hb hby d7_6)
    refine OGo.to st_9 ?_
    show OGo p e below _ (T_9.setTop (mkF m 9 #[.val (.ref a1), .val (.ref a2), .val (.ref t1), .unset, .unset] [(.ref t2)]))
    refine OGo.to (fun _ k => XS.astoreN X_9.here hx rfl (hb hby d7_9) rfl rfl (l' := #[.val (.ref a1), .val (.ref a2), .val (.ref t1), .val (.ref t2), .unset]) rfl k) ?_
    refine OGo.to (fun _ k => XS.aloadN X_9.here hx rfl (hb hby d7_10) rfl rfl k) ?_
    obtain ⟨cq_10, kq_10, q_10a, q_10b, q_10c⟩ := isOf hZ e_9 E1_
    obtain ⟨_, T_10, Lc_10, X_10, hQ_10, st_10⟩ := own_un X_9 (Q := Qcod Z a1 cs h0 n0) (rc := 0) (rs := 0) (W := fun v B => Steps p.tables e below (T_9.setTop (mkF m 11 #[.val (.ref a1), .val (.ref a2), .val (.ref t1), .val (.ref t2), .unset] [(.ref a1)])) (B.setTop { (mkF m 11 #[.val (.ref a1), .val (.ref a2), .val (.ref t1), .val (.ref t2), .unset] [(.ref a1)]) with pc := 14, stack := v.toList ++ [] })) <| X_9.virtualBack hx (y := (⟨"java/lang/String", "coder", "()B"⟩ : MethodName)) (z := (⟨"java/lang/String", "coder", "()B"⟩ : MethodName)) hown (mvT hZ (hw _ (List.mem_of_getElem? (i := 41) rfl))) (mvT hZ (hw _ (List.mem_of_getElem? (i := 42) rfl))) (notFace_of_selects (args := #[]) (mvT hZ (hw _ (List.mem_of_getElem? (i := 44) rfl)))) (mvT hZ (hw _ (List.mem_of_getElem? (i := 44) rfl))) (mvT hZ (hw _ (List.mem_of_getElem? (i := 43) rfl))) (by decide) (backOf (W := 0) (rmcod l Z a0 hw [] a1 cs h0 n0 Z0 SC O0 (hcs) Fc1_) hZ (hw _ (List.mem_of_getElem? (i := 45) rfl)) (hw _ (List.mem_of_getElem? (i := 6) rfl)) (by decide) (by decide)) q_10a q_10c (g := (mkF m 11 #[.val (.ref a1), .val (.ref a2), .val (.ref t1), .val (.ref t2), .unset] [(.ref a1)])) rfl (by rw [hml]; rfl) (Steps.refl _) (argsL := []) (rest := []) (lenOf pd_13 rfl) rfl (by show 2 * 0 + _ ≤ _; exact Nat.le_of_eq rfl) (hb hby d7_11) (fun _ _ => ⟨rfl, e_9, (by decide : 0 + 0 ≤ _), (by decide : 0 + 0 ≤ _)⟩)
    obtain ⟨rfl, N_10q, e_10⟩ := hQ_10
    have N_10 := Fr.app N0 N_10q
    refine OGo.to (fun _ k => st_10.trans k) ?_
    show OGo p e below _ (T_10.setTop (mkF m 14 #[.val (.ref a1), .val (.ref a2), .val (.ref t1), .val (.ref t2), .unset] [(.int (0 : Int32))]))
    refine OGo.to (fun _ k => XS.istore X_10.here hx rfl (hb hby d7_14) rfl (l' := #[.val (.ref a1), .val (.ref a2), .val (.ref t1), .val (.ref t2), .val (.int (0 : Int32))]) rfl k) ?_
    refine OGo.to (fun _ k => XS.iload X_10.here hx rfl (hb hby d7_16) rfl k) ?_
    refine OGo.to (fun _ k => XS.aloadN X_10.here hx rfl (hb hby d7_18) rfl rfl k) ?_
    obtain ⟨cq_11, kq_11, q_11a, q_11b, q_11c⟩ := isOf hZ e_10 E2_
    obtain ⟨_, T_11, Lc_11, X_11, hQ_11, st_11⟩ := own_un X_10 (Q := Qcod Z a2 cs h0 n0) (rc := 0) (rs := 0) (W := fun v B => Steps p.tables e below (T_10.setTop (mkF m 19 #[.val (.ref a1), .val (.ref a2), .val (.ref t1), .val (.ref t2), .val (.int (0 : Int32))] [(.ref a2), (.int (0 : Int32))])) (B.setTop { (mkF m 19 #[.val (.ref a1), .val (.ref a2), .val (.ref t1), .val (.ref t2), .val (.int (0 : Int32))] [(.ref a2), (.int (0 : Int32))]) with pc := 22, stack := v.toList ++ [(.int (0 : Int32))] })) <| X_10.virtualBack hx (y := (⟨"java/lang/String", "coder", "()B"⟩ : MethodName)) (z := (⟨"java/lang/String", "coder", "()B"⟩ : MethodName)) hown (mvT hZ (hw _ (List.mem_of_getElem? (i := 41) rfl))) (mvT hZ (hw _ (List.mem_of_getElem? (i := 42) rfl))) (notFace_of_selects (args := #[]) (mvT hZ (hw _ (List.mem_of_getElem? (i := 44) rfl)))) (mvT hZ (hw _ (List.mem_of_getElem? (i := 44) rfl))) (mvT hZ (hw _ (List.mem_of_getElem? (i := 43) rfl))) (by decide) (backOf (W := 1) (rmcod l Z a0 hw [] a2 cs h0 n0 Z0 SC O0 (hcs) Fc2_) hZ (hw _ (List.mem_of_getElem? (i := 45) rfl)) (hw _ (List.mem_of_getElem? (i := 6) rfl)) (by decide) (by decide)) q_11a q_11c (g := (mkF m 19 #[.val (.ref a1), .val (.ref a2), .val (.ref t1), .val (.ref t2), .val (.int (0 : Int32))] [(.ref a2), (.int (0 : Int32))])) rfl (by rw [hml]; rfl) (Steps.refl _) (argsL := []) (rest := [(.int (0 : Int32))]) (lenOf pd_13 rfl) rfl (by show 2 * 0 + _ ≤ _; exact Nat.le_of_eq rfl) (hb hby d7_19) (fun _ _ => ⟨rfl, e_10, (by decide : 0 + 0 ≤ _), (by decide : 0 + 0 ≤ _)⟩)
    obtain ⟨rfl, N_11q, e_11⟩ := hQ_11
    have N_11 := Fr.app N_10 N_11q
    refine OGo.to (fun _ k => st_11.trans k) ?_
    show OGo p e below _ (T_11.setTop (mkF m 22 #[.val (.ref a1), .val (.ref a2), .val (.ref t1), .val (.ref t2), .val (.int (0 : Int32))] [(.int (0 : Int32)), (.int (0 : Int32))]))
    have hc22__12 : (0 : Int32) = (0 : Int32) := by decide
    refine OGo.to (fun _ k => XS.icmpNo X_11.here hx rfl (hb hby d7_22) rfl (teq hc22__12).2 k) ?_
    show OGo p e below _ (T_11.setTop (mkF m 25 #[.val (.ref a1), .val (.ref a2), .val (.ref t1), .val (.ref t2), .val (.int (0 : Int32))] []))
    refine OGo.to (fun _ k => XS.iload X_11.here hx rfl (hb hby d7_25) rfl k) ?_
    have hc27__13 : (0 : Int32) = (0 : Int32) := by decide
    refine OGo.to (fun _ k => XS.ifNo X_11.here hx rfl (hb hby d7_27) rfl ((if0 _ _).trans (teq hc27__13).2) k) ?_
    show OGo p e below _ (T_11.setTop (mkF m 30 #[.val (.ref a1), .val (.ref a2), .val (.ref t1), .val (.ref t2), .val (.int (0 : Int32))] []))
    refine OGo.to (fun _ k => XS.aloadN X_11.here hx rfl (hb hby d7_30) rfl rfl k) ?_
    refine OGo.to (fun _ k => XS.aloadN X_11.here hx rfl (hb hby d7_31) rfl rfl k) ?_
    obtain ⟨_, T_14, Lc_14, X_14, hQ_14, st_14⟩ := own_un X_11 (Q := Qc201 Z t1 t2 k1 k2 y0 h0 n0) (rc := 0) (rs := 0) (W := fun v B => ∀ target, Steps p.tables e below (B.setTop { (mkF m 32 #[.val (.ref a1), .val (.ref a2), .val (.ref t1), .val (.ref t2), .val (.int (0 : Int32))] [(.ref t2), (.ref t1)]) with pc := 35, stack := v.toList ++ [] }) target → Steps p.tables e below (T_11.setTop (mkF m 32 #[.val (.ref a1), .val (.ref a2), .val (.ref t1), .val (.ref t2), .val (.int (0 : Int32))] [(.ref t2), (.ref t1)])) target) <| Jvm.LawKit.callS X_11 hx (y := (⟨"java/lang/StringLatin1", "compareTo", "([B[B)I"⟩ : MethodName)) hown (mvT hZ (hw _ (List.mem_of_getElem? (i := 47) rfl))) (mvT hZ (hw _ (List.mem_of_getElem? (i := 48) rfl))) (mvT hZ (hw _ (List.mem_of_getElem? (i := 49) rfl))) (mvT hZ (hw _ (List.mem_of_getElem? (i := 50) rfl))) (by decide) (backOf (W := 0) (rmc201 l Z a0 hw [] t1 t2 k1 k2 y0 h0 n0 Z0 V1_c V2_c) hZ (hw _ (List.mem_of_getElem? (i := 50) rfl)) (hw _ (List.mem_of_getElem? (i := 49) rfl)) (by decide) (by decide)) (g := (mkF m 32 #[.val (.ref a1), .val (.ref a2), .val (.ref t1), .val (.ref t2), .val (.int (0 : Int32))] [(.ref t2), (.ref t1)])) rfl (by rw [hml]; rfl) (argsL := [(.ref t1), (.ref t2)]) (rest := []) (lenOf pd_14 rfl) rfl (by show 2 * 0 + _ ≤ _; exact Nat.le_of_eq rfl) (hb hby d7_32) (fun _ _ => ⟨rfl, e_11, (by decide : 0 + 0 ≤ _), (by decide : 0 + 0 ≤ _)⟩)
    obtain ⟨rfl, N_14q, e_14⟩ := hQ_14
    have N_14 := Fr.app N_11 N_14q
    refine OGo.to st_14 ?_
    show OGo p e below _ (T_14.setTop (mkF m 35 #[.val (.ref a1), .val (.ref a2), .val (.ref t1), .val (.ref t2), .val (.int (0 : Int32))] [(.int (own_scmp [] [y0]))]))
    refine OGo.to (fun _ k => XS.goto X_14.here hx rfl (pc0 := 35) (pc' := 43) rfl (hb hby d7_35) (by decide) (by decide) k) ?_
    refine OGo.ret (Q := Qscmp Z a1 a2 t1 k1 ([] : List Int32) t2 k2 [y0] cs h0 n0) X_14 (some (.int (own_scmp [] [y0]))) (fun h => by rw [Bd.returns] at h; cases h) Bd.notSynchronized (fun fs hr => retI X_14 hx Bd.returns (hb hby d7_43) hr) ?_ (by decide) (by decide)
    show Qscmp Z a1 a2 t1 k1 ([] : List Int32) t2 k2 [y0] cs h0 n0 _ T_14.heap _
    rw [e_14]
    exact ⟨rfl, N_14, rfl⟩
  ·  -- 0 2
    have V1_c : Arv Z h0 t1 k1 .byte (0 : Int32) [] (.int (0 : Int32)) := V1_
    have V2_c : Arv Z h0 t2 k2 .byte (2 : Int32) [(.int y0), (.int y1)] (.int (0 : Int32)) := V2_
    show OGo p e below _ (s₁.setTop (mkF m 0 #[.val (.ref a1), .val (.ref a2), .unset, .unset, .unset] []))
    refine OGo.to (fun _ k => XS.aloadN X0.here hx rfl (hb hby d7_0) rfl rfl k) ?_
    obtain ⟨T_15, X_15, e_15, st_15⟩ := getF X0 hx hZ hown (host := "") (Or.inl (hw _ (List.mem_of_getElem? (i := 24) rfl))) Via.refl e0 Fv1_ (g := (mkF m 1 #[.val (.ref a1), .val (.ref a2), .unset, .unset, .unset] [(.ref a1)])) rfl rfl (hb hby d7_1)
    refine OGo.to st_15 ?_
    show OGo p e below _ (T_15.setTop (mkF m 4 #[.val (.ref a1), .val (.ref a2), .unset, .unset, .unset] [(.ref t1)]))
    refine OGo.to (fun _ k => XS.astoreN X_15.here hx rfl (hb hby d7_4) rfl rfl (l' := #[.val (.ref a1), .val (.ref a2), .val (.ref t1), .unset, .unset]) rfl k) ?_
    refine OGo.to (fun _ k => XS.aloadN X_15.here hx rfl (hb hby d7_5) rfl rfl k) ?_
    obtain ⟨T_16, X_16, e_16, st_16⟩ := getF X_15 hx hZ hown (host := "") (Or.inl (hw _ (List.mem_of_getElem? (i := 24) rfl))) Via.refl e_15 Fv2_ (g := (mkF m 6 #[.val (.ref a1), .val (.ref a2), .val (.ref t1), .unset, .unset] [(.ref a2)])) rfl rfl (hb hby d7_6)
    refine OGo.to st_16 ?_
    show OGo p e below _ (T_16.setTop (mkF m 9 #[.val (.ref a1), .val (.ref a2), .val (.ref t1), .unset, .unset] [(.ref t2)]))
    refine OGo.to (fun _ k => XS.astoreN X_16.here hx rfl (hb hby d7_9) rfl rfl (l' := #[.val (.ref a1), .val (.ref a2), .val (.ref t1), .val (.ref t2), .unset]) rfl k) ?_
    refine OGo.to (fun _ k => XS.aloadN X_16.here hx rfl (hb hby d7_10) rfl rfl k) ?_
    obtain ⟨cq_17, kq_17, q_17a, q_17b, q_17c⟩ := isOf hZ e_16 E1_
    obtain ⟨_, T_17, Lc_17, X_17, hQ_17, st_17⟩ := own_un X_16 (Q := Qcod Z a1 cs h0 n0) (rc := 0) (rs := 0) (W := fun v B => Steps p.tables e below (T_16.setTop (mkF m 11 #[.val (.ref a1), .val (.ref a2), .val (.ref t1), .val (.ref t2), .unset] [(.ref a1)])) (B.setTop { (mkF m 11 #[.val (.ref a1), .val (.ref a2), .val (.ref t1), .val (.ref t2), .unset] [(.ref a1)]) with pc := 14, stack := v.toList ++ [] })) <| X_16.virtualBack hx (y := (⟨"java/lang/String", "coder", "()B"⟩ : MethodName)) (z := (⟨"java/lang/String", "coder", "()B"⟩ : MethodName)) hown (mvT hZ (hw _ (List.mem_of_getElem? (i := 41) rfl))) (mvT hZ (hw _ (List.mem_of_getElem? (i := 42) rfl))) (notFace_of_selects (args := #[]) (mvT hZ (hw _ (List.mem_of_getElem? (i := 44) rfl)))) (mvT hZ (hw _ (List.mem_of_getElem? (i := 44) rfl))) (mvT hZ (hw _ (List.mem_of_getElem? (i := 43) rfl))) (by decide) (backOf (W := 0) (rmcod l Z a0 hw [] a1 cs h0 n0 Z0 SC O0 (hcs) Fc1_) hZ (hw _ (List.mem_of_getElem? (i := 45) rfl)) (hw _ (List.mem_of_getElem? (i := 6) rfl)) (by decide) (by decide)) q_17a q_17c (g := (mkF m 11 #[.val (.ref a1), .val (.ref a2), .val (.ref t1), .val (.ref t2), .unset] [(.ref a1)])) rfl (by rw [hml]; rfl) (Steps.refl _) (argsL := []) (rest := []) (lenOf pd_13 rfl) rfl (by show 2 * 0 + _ ≤ _; exact Nat.le_of_eq rfl) (hb hby d7_11) (fun _ _ => ⟨rfl, e_16, (by decide : 0 + 0 ≤ _), (by decide : 0 + 0 ≤ _)⟩)
    obtain ⟨rfl, N_17q, e_17⟩ := hQ_17
    have N_17 := Fr.app N0 N_17q
    refine OGo.to (fun _ k => st_17.trans k) ?_
    show OGo p e below _ (T_17.setTop (mkF m 14 #[.val (.ref a1), .val (.ref a2), .val (.ref t1), .val (.ref t2), .unset] [(.int (0 : Int32))]))
    refine OGo.to (fun _ k => XS.istore X_17.here hx rfl (hb hby d7_14) rfl (l' := #[.val (.ref a1), .val (.ref a2), .val (.ref t1), .val (.ref t2), .val (.int (0 : Int32))]) rfl k) ?_
    show OGo p e below _ (T_17.setTop (mkF m 16 #[.val (.ref a1), .val (.ref a2), .val (.ref t1), .val (.ref t2), .val (.int (0 : Int32))] []))
    refine OGo.to (fun _ k => XS.iload X_17.here hx rfl (hb hby d7_16) rfl k) ?_
    refine OGo.to (fun _ k => XS.aloadN X_17.here hx rfl (hb hby d7_18) rfl rfl k) ?_
    obtain ⟨cq_18, kq_18, q_18a, q_18b, q_18c⟩ := isOf hZ e_17 E2_
    obtain ⟨_, T_18, Lc_18, X_18, hQ_18, st_18⟩ := own_un X_17 (Q := Qcod Z a2 cs h0 n0) (rc := 0) (rs := 0) (W := fun v B => Steps p.tables e below (T_17.setTop (mkF m 19 #[.val (.ref a1), .val (.ref a2), .val (.ref t1), .val (.ref t2), .val (.int (0 : Int32))] [(.ref a2), (.int (0 : Int32))])) (B.setTop { (mkF m 19 #[.val (.ref a1), .val (.ref a2), .val (.ref t1), .val (.ref t2), .val (.int (0 : Int32))] [(.ref a2), (.int (0 : Int32))]) with pc := 22, stack := v.toList ++ [(.int (0 : Int32))] })) <| X_17.virtualBack hx (y := (⟨"java/lang/String", "coder", "()B"⟩ : MethodName)) (z := (⟨"java/lang/String", "coder", "()B"⟩ : MethodName)) hown (mvT hZ (hw _ (List.mem_of_getElem? (i := 41) rfl))) (mvT hZ (hw _ (List.mem_of_getElem? (i := 42) rfl))) (notFace_of_selects (args := #[]) (mvT hZ (hw _ (List.mem_of_getElem? (i := 44) rfl)))) (mvT hZ (hw _ (List.mem_of_getElem? (i := 44) rfl))) (mvT hZ (hw _ (List.mem_of_getElem? (i := 43) rfl))) (by decide) (backOf (W := 1) (rmcod l Z a0 hw [] a2 cs h0 n0 Z0 SC O0 (hcs) Fc2_) hZ (hw _ (List.mem_of_getElem? (i := 45) rfl)) (hw _ (List.mem_of_getElem? (i := 6) rfl)) (by decide) (by decide)) q_18a q_18c (g := (mkF m 19 #[.val (.ref a1), .val (.ref a2), .val (.ref t1), .val (.ref t2), .val (.int (0 : Int32))] [(.ref a2), (.int (0 : Int32))])) rfl (by rw [hml]; rfl) (Steps.refl _) (argsL := []) (rest := [(.int (0 : Int32))]) (lenOf pd_13 rfl) rfl (by show 2 * 0 + _ ≤ _; exact Nat.le_of_eq rfl) (hb hby d7_19) (fun _ _ => ⟨rfl, e_17, (by decide : 0 + 0 ≤ _), (by decide : 0 + 0 ≤ _)⟩)
    obtain ⟨rfl, N_18q, e_18⟩ := hQ_18
    have N_18 := Fr.app N_17 N_18q
    refine OGo.to (fun _ k => st_18.trans k) ?_
    show OGo p e below _ (T_18.setTop (mkF m 22 #[.val (.ref a1), .val (.ref a2), .val (.ref t1), .val (.ref t2), .val (.int (0 : Int32))] [(.int (0 : Int32)), (.int (0 : Int32))]))
    have hc22__19 : (0 : Int32) = (0 : Int32) := by decide
    refine OGo.to (fun _ k => XS.icmpNo X_18.here hx rfl (hb hby d7_22) rfl (teq hc22__19).2 k) ?_
    show OGo p e below _ (T_18.setTop (mkF m 25 #[.val (.ref a1), .val (.ref a2), .val (.ref t1), .val (.ref t2), .val (.int (0 : Int32))] []))
    refine OGo.to (fun _ k => XS.iload X_18.here hx rfl (hb hby d7_25) rfl k) ?_
    have hc27__20 : (0 : Int32) = (0 : Int32) := by decide
    refine OGo.to (fun _ k => XS.ifNo X_18.here hx rfl (hb hby d7_27) rfl ((if0 _ _).trans (teq hc27__20).2) k) ?_
    show OGo p e below _ (T_18.setTop (mkF m 30 #[.val (.ref a1), .val (.ref a2), .val (.ref t1), .val (.ref t2), .val (.int (0 : Int32))] []))
    refine OGo.to (fun _ k => XS.aloadN X_18.here hx rfl (hb hby d7_30) rfl rfl k) ?_
    refine OGo.to (fun _ k => XS.aloadN X_18.here hx rfl (hb hby d7_31) rfl rfl k) ?_
    obtain ⟨_, T_21, Lc_21, X_21, hQ_21, st_21⟩ := own_un X_18 (Q := Qc202 Z t1 t2 k1 k2 y0 y1 h0 n0) (rc := 0) (rs := 0) (W := fun v B => ∀ target, Steps p.tables e below (B.setTop { (mkF m 32 #[.val (.ref a1), .val (.ref a2), .val (.ref t1), .val (.ref t2), .val (.int (0 : Int32))] [(.ref t2), (.ref t1)]) with pc := 35, stack := v.toList ++ [] }) target → Steps p.tables e below (T_18.setTop (mkF m 32 #[.val (.ref a1), .val (.ref a2), .val (.ref t1), .val (.ref t2), .val (.int (0 : Int32))] [(.ref t2), (.ref t1)])) target) <| Jvm.LawKit.callS X_18 hx (y := (⟨"java/lang/StringLatin1", "compareTo", "([B[B)I"⟩ : MethodName)) hown (mvT hZ (hw _ (List.mem_of_getElem? (i := 47) rfl))) (mvT hZ (hw _ (List.mem_of_getElem? (i := 48) rfl))) (mvT hZ (hw _ (List.mem_of_getElem? (i := 49) rfl))) (mvT hZ (hw _ (List.mem_of_getElem? (i := 50) rfl))) (by decide) (backOf (W := 0) (rmc202 l Z a0 hw [] t1 t2 k1 k2 y0 y1 h0 n0 Z0 V1_c V2_c) hZ (hw _ (List.mem_of_getElem? (i := 50) rfl)) (hw _ (List.mem_of_getElem? (i := 49) rfl)) (by decide) (by decide)) (g := (mkF m 32 #[.val (.ref a1), .val (.ref a2), .val (.ref t1), .val (.ref t2), .val (.int (0 : Int32))] [(.ref t2), (.ref t1)])) rfl (by rw [hml]; rfl) (argsL := [(.ref t1), (.ref t2)]) (rest := []) (lenOf pd_14 rfl) rfl (by show 2 * 0 + _ ≤ _; exact Nat.le_of_eq rfl) (hb hby d7_32) (fun _ _ => ⟨rfl, e_18, (by decide : 0 + 0 ≤ _), (by decide : 0 + 0 ≤ _)⟩)
    obtain ⟨rfl, N_21q, e_21⟩ := hQ_21
    have N_21 := Fr.app N_18 N_21q
    refine OGo.to st_21 ?_
    show OGo p e below _ (T_21.setTop (mkF m 35 #[.val (.ref a1), .val (.ref a2), .val (.ref t1), .val (.ref t2), .val (.int (0 : Int32))] [(.int (own_scmp [] [y0, y1]))]))
    refine OGo.to (fun _ k => XS.goto X_21.here hx rfl (pc0 := 35) (pc' := 43) rfl (hb hby d7_35) (by decide) (by decide) k) ?_
    refine OGo.ret (Q := Qscmp Z a1 a2 t1 k1 ([] : List Int32) t2 k2 [y0, y1] cs h0 n0) X_21 (some (.int (own_scmp [] [y0, y1]))) (fun h => by rw [Bd.returns] at h; cases h) Bd.notSynchronized (fun fs hr => retI X_21 hx Bd.returns (hb hby d7_43) hr) ?_ (by decide) (by decide)
    show Qscmp Z a1 a2 t1 k1 ([] : List Int32) t2 k2 [y0, y1] cs h0 n0 _ T_21.heap _
    rw [e_21]
    exact ⟨rfl, N_21, rfl⟩
  ·  -- 1 0
    have V1_c : Arv Z h0 t1 k1 .byte (1 : Int32) [(.int x0)] (.int (0 : Int32)) := V1_
    have V2_c : Arv Z h0 t2 k2 .byte (0 : Int32) [] (.int (0 : Int32)) := V2_
    show OGo p e below _ (s₁.setTop (mkF m 0 #[.val (.ref a1), .val (.ref a2), .unset, .unset, .unset] []))
    refine OGo.to (fun _ k => XS.aloadN X0.here hx rfl (hb hby d7_0) rfl rfl k) ?_
    obtain ⟨T_22, X_22, e_22, st_22⟩ := getF X0 hx hZ hown (host := "") (Or.inl (hw _ (List.mem_of_getElem? (i := 24) rfl))) Via.refl e0 Fv1_ (g := (mkF m 1 #[.val (.ref a1), .val (.ref a2), .unset, .unset, .unset] [(.ref a1)])) rfl rfl (hb hby d7_1)
    refine OGo.to st_22 ?_
    show OGo p e below _ (T_22.setTop (mkF m 4 #[.val (.ref a1), .val (.ref a2), .unset, .unset, .unset] [(.ref t1)]))
    refine OGo.to (fun _ k => XS.astoreN X_22.here hx rfl (hb hby d7_4) rfl rfl (l' := #[.val (.ref a1), .val (.ref a2), .val (.ref t1), .unset, .unset]) rfl k) ?_
    refine OGo.to (fun _ k => XS.aloadN X_22.here hx rfl (hb hby d7_5) rfl rfl k) ?_
    obtain ⟨T_23, X_23, e_23, st_23⟩ := getF X_22 hx hZ hown (host := "") (Or.inl (hw _ (List.mem_of_getElem? (i := 24) rfl))) Via.refl e_22 Fv2_ (g := (mkF m 6 #[.val (.ref a1), .val (.ref a2), .val (.ref t1), .unset, .unset] [(.ref a2)])) rfl rfl (hb hby d7_6)
    refine OGo.to st_23 ?_
    show OGo p e below _ (T_23.setTop (mkF m 9 #[.val (.ref a1), .val (.ref a2), .val (.ref t1), .unset, .unset] [(.ref t2)]))
    refine OGo.to (fun _ k => XS.astoreN X_23.here hx rfl (hb hby d7_9) rfl rfl (l' := #[.val (.ref a1), .val (.ref a2), .val (.ref t1), .val (.ref t2), .unset]) rfl k) ?_
    refine OGo.to (fun _ k => XS.aloadN X_23.here hx rfl (hb hby d7_10) rfl rfl k) ?_
    obtain ⟨cq_24, kq_24, q_24a, q_24b, q_24c⟩ := isOf hZ e_23 E1_
    obtain ⟨_, T_24, Lc_24, X_24, hQ_24, st_24⟩ := own_un X_23 (Q := Qcod Z a1 cs h0 n0) (rc := 0) (rs := 0) (W := fun v B => Steps p.tables e below (T_23.setTop (mkF m 11 #[.val (.ref a1), .val (.ref a2), .val (.ref t1), .val (.ref t2), .unset] [(.ref a1)])) (B.setTop { (mkF m 11 #[.val (.ref a1), .val (.ref a2), .val (.ref t1), .val (.ref t2), .unset] [(.ref a1)]) with pc := 14, stack := v.toList ++ [] })) <| X_23.virtualBack hx (y := (⟨"java/lang/String", "coder", "()B"⟩ : MethodName)) (z := (⟨"java/lang/String", "coder", "()B"⟩ : MethodName)) hown (mvT hZ (hw _ (List.mem_of_getElem? (i := 41) rfl))) (mvT hZ (hw _ (List.mem_of_getElem? (i := 42) rfl))) (notFace_of_selects (args := #[]) (mvT hZ (hw _ (List.mem_of_getElem? (i := 44) rfl)))) (mvT hZ (hw _ (List.mem_of_getElem? (i := 44) rfl))) (mvT hZ (hw _ (List.mem_of_getElem? (i := 43) rfl))) (by decide) (backOf (W := 0) (rmcod l Z a0 hw [] a1 cs h0 n0 Z0 SC O0 (hcs) Fc1_) hZ (hw _ (List.mem_of_getElem? (i := 45) rfl)) (hw _ (List.mem_of_getElem? (i := 6) rfl)) (by decide) (by decide)) q_24a q_24c (g := (mkF m 11 #[.val (.ref a1), .val (.ref a2), .val (.ref t1), .val (.ref t2), .unset] [(.ref a1)])) rfl (by rw [hml]; rfl) (Steps.refl _) (argsL := []) (rest := []) (lenOf pd_13 rfl) rfl (by show 2 * 0 + _ ≤ _; exact Nat.le_of_eq rfl) (hb hby d7_11) (fun _ _ => ⟨rfl, e_23, (by decide : 0 + 0 ≤ _), (by decide : 0 + 0 ≤ _)⟩)
    obtain ⟨rfl, N_24q, e_24⟩ := hQ_24
    have N_24 := Fr.app N0 N_24q
    refine OGo.to (fun _ k => st_24.trans k) ?_
    show OGo p e below _ (T_24.setTop (mkF m 14 #[.val (.ref a1), .val (.ref a2), .val (.ref t1), .val (.ref t2), .unset] [(.int (0 : Int32))]))
    refine OGo.to (fun _ k => XS.istore X_24.here hx rfl (hb hby d7_14) rfl (l' := #[.val (.ref a1), .val (.ref a2), .val (.ref t1), .val (.ref t2), .val (.int (0 : Int32))]) rfl k) ?_
    refine OGo.to (fun _ k => XS.iload X_24.here hx rfl (hb hby d7_16) rfl k) ?_
    refine OGo.to (fun _ k => XS.aloadN X_24.here hx rfl (hb hby d7_18) rfl rfl k) ?_
    obtain ⟨cq_25, kq_25, q_25a, q_25b, q_25c⟩ := isOf hZ e_24 E2_
    obtain ⟨_, T_25, Lc_25, X_25, hQ_25, st_25⟩ := own_un X_24 (Q := Qcod Z a2 cs h0 n0) (rc := 0) (rs := 0) (W := fun v B => Steps p.tables e below (T_24.setTop (mkF m 19 #[.val (.ref a1), .val (.ref a2), .val (.ref t1), .val (.ref t2), .val (.int (0 : Int32))] [(.ref a2), (.int (0 : Int32))])) (B.setTop { (mkF m 19 #[.val (.ref a1), .val (.ref a2), .val (.ref t1), .val (.ref t2), .val (.int (0 : Int32))] [(.ref a2), (.int (0 : Int32))]) with pc := 22, stack := v.toList ++ [(.int (0 : Int32))] })) <| X_24.virtualBack hx (y := (⟨"java/lang/String", "coder", "()B"⟩ : MethodName)) (z := (⟨"java/lang/String", "coder", "()B"⟩ : MethodName)) hown (mvT hZ (hw _ (List.mem_of_getElem? (i := 41) rfl))) (mvT hZ (hw _ (List.mem_of_getElem? (i := 42) rfl))) (notFace_of_selects (args := #[]) (mvT hZ (hw _ (List.mem_of_getElem? (i := 44) rfl)))) (mvT hZ (hw _ (List.mem_of_getElem? (i := 44) rfl))) (mvT hZ (hw _ (List.mem_of_getElem? (i := 43) rfl))) (by decide) (backOf (W := 1) (rmcod l Z a0 hw [] a2 cs h0 n0 Z0 SC O0 (hcs) Fc2_) hZ (hw _ (List.mem_of_getElem? (i := 45) rfl)) (hw _ (List.mem_of_getElem? (i := 6) rfl)) (by decide) (by decide)) q_25a q_25c (g := (mkF m 19 #[.val (.ref a1), .val (.ref a2), .val (.ref t1), .val (.ref t2), .val (.int (0 : Int32))] [(.ref a2), (.int (0 : Int32))])) rfl (by rw [hml]; rfl) (Steps.refl _) (argsL := []) (rest := [(.int (0 : Int32))]) (lenOf pd_13 rfl) rfl (by show 2 * 0 + _ ≤ _; exact Nat.le_of_eq rfl) (hb hby d7_19) (fun _ _ => ⟨rfl, e_24, (by decide : 0 + 0 ≤ _), (by decide : 0 + 0 ≤ _)⟩)
    obtain ⟨rfl, N_25q, e_25⟩ := hQ_25
    have N_25 := Fr.app N_24 N_25q
    refine OGo.to (fun _ k => st_25.trans k) ?_
    show OGo p e below _ (T_25.setTop (mkF m 22 #[.val (.ref a1), .val (.ref a2), .val (.ref t1), .val (.ref t2), .val (.int (0 : Int32))] [(.int (0 : Int32)), (.int (0 : Int32))]))
    have hc22__26 : (0 : Int32) = (0 : Int32) := by decide
    refine OGo.to (fun _ k => XS.icmpNo X_25.here hx rfl (hb hby d7_22) rfl (teq hc22__26).2 k) ?_
    show OGo p e below _ (T_25.setTop (mkF m 25 #[.val (.ref a1), .val (.ref a2), .val (.ref t1), .val (.ref t2), .val (.int (0 : Int32))] []))
    refine OGo.to (fun _ k => XS.iload X_25.here hx rfl (hb hby d7_25) rfl k) ?_
    show OGo p e below _ (T_25.setTop (mkF m 27 #[.val (.ref a1), .val (.ref a2), .val (.ref t1), .val (.ref t2), .val (.int (0 : Int32))] [(.int (0 : Int32))]))
    have hc27__27 : (0 : Int32) = (0 : Int32) := by decide
    refine OGo.to (fun _ k => XS.ifNo X_25.here hx rfl (hb hby d7_27) rfl ((if0 _ _).trans (teq hc27__27).2) k) ?_
    show OGo p e below _ (T_25.setTop (mkF m 30 #[.val (.ref a1), .val (.ref a2), .val (.ref t1), .val (.ref t2), .val (.int (0 : Int32))] []))
    refine OGo.to (fun _ k => XS.aloadN X_25.here hx rfl (hb hby d7_30) rfl rfl k) ?_
    refine OGo.to (fun _ k => XS.aloadN X_25.here hx rfl (hb hby d7_31) rfl rfl k) ?_
    obtain ⟨_, T_28, Lc_28, X_28, hQ_28, st_28⟩ := own_un X_25 (Q := Qc210 Z t1 t2 k1 k2 x0 h0 n0) (rc := 0) (rs := 0) (W := fun v B => ∀ target, Steps p.tables e below (B.setTop { (mkF m 32 #[.val (.ref a1), .val (.ref a2), .val (.ref t1), .val (.ref t2), .val (.int (0 : Int32))] [(.ref t2), (.ref t1)]) with pc := 35, stack := v.toList ++ [] }) target → Steps p.tables e below (T_25.setTop (mkF m 32 #[.val (.ref a1), .val (.ref a2), .val (.ref t1), .val (.ref t2), .val (.int (0 : Int32))] [(.ref t2), (.ref t1)])) target) <| Jvm.LawKit.callS X_25 hx (y := (⟨"java/lang/StringLatin1", "compareTo", "([B[B)I"⟩ : MethodName)) hown (mvT hZ (hw _ (List.mem_of_getElem? (i := 47) rfl))) (mvT hZ (hw _ (List.mem_of_getElem? (i := 48) rfl))) (mvT hZ (hw _ (List.mem_of_getElem? (i := 49) rfl))) (mvT hZ (hw _ (List.mem_of_getElem? (i := 50) rfl))) (by decide) (backOf (W := 0) (rmc210 l Z a0 hw [] t1 t2 k1 k2 x0 h0 n0 Z0 V1_c V2_c) hZ (hw _ (List.mem_of_getElem? (i := 50) rfl)) (hw _ (List.mem_of_getElem? (i := 49) rfl)) (by decide) (by decide)) (g := (mkF m 32 #[.val (.ref a1), .val (.ref a2), .val (.ref t1), .val (.ref t2), .val (.int (0 : Int32))] [(.ref t2), (.ref t1)])) rfl (by rw [hml]; rfl) (argsL := [(.ref t1), (.ref t2)]) (rest := []) (lenOf pd_14 rfl) rfl (by show 2 * 0 + _ ≤ _; exact Nat.le_of_eq rfl) (hb hby d7_32) (fun _ _ => ⟨rfl, e_25, (by decide : 0 + 0 ≤ _), (by decide : 0 + 0 ≤ _)⟩)
    obtain ⟨rfl, N_28q, e_28⟩ := hQ_28
    have N_28 := Fr.app N_25 N_28q
    refine OGo.to st_28 ?_
    show OGo p e below _ (T_28.setTop (mkF m 35 #[.val (.ref a1), .val (.ref a2), .val (.ref t1), .val (.ref t2), .val (.int (0 : Int32))] [(.int (own_scmp [x0] []))]))
    refine OGo.to (fun _ k => XS.goto X_28.here hx rfl (pc0 := 35) (pc' := 43) rfl (hb hby d7_35) (by decide) (by decide) k) ?_
    refine OGo.ret (Q := Qscmp Z a1 a2 t1 k1 [x0] t2 k2 ([] : List Int32) cs h0 n0) X_28 (some (.int (own_scmp [x0] []))) (fun h => by rw [Bd.returns] at h; cases h) Bd.notSynchronized (fun fs hr => retI X_28 hx Bd.returns (hb hby d7_43) hr) ?_ (by decide) (by decide)
    show Qscmp Z a1 a2 t1 k1 [x0] t2 k2 ([] : List Int32) cs h0 n0 _ T_28.heap _
    rw [e_28]
    exact ⟨rfl, N_28, rfl⟩
  ·  -- 1 1
    have V1_c : Arv Z h0 t1 k1 .byte (1 : Int32) [(.int x0)] (.int (0 : Int32)) := V1_
    have V2_c : Arv Z h0 t2 k2 .byte (1 : Int32) [(.int y0)] (.int (0 : Int32)) := V2_
    show OGo p e below _ (s₁.setTop (mkF m 0 #[.val (.ref a1), .val (.ref a2), .unset, .unset, .unset] []))
    refine OGo.to (fun _ k => XS.aloadN X0.here hx rfl (hb hby d7_0) rfl rfl k) ?_
    obtain ⟨T_29, X_29, e_29, st_29⟩ := getF X0 hx hZ hown (host := "") (Or.inl (hw _ (List.mem_of_getElem? (i := 24) rfl))) Via.refl e0 Fv1_ (g := (mkF m 1 #[.val (.ref a1), .val (.ref a2), .unset, .unset, .unset] [(.ref a1)])) rfl rfl (hb hby d7_1)
    refine OGo.to st_29 ?_
    show OGo p e below _ (T_29.setTop (mkF m 4 #[.val (.ref a1), .val (.ref a2), .unset, .unset, .unset] [(.ref t1)]))
    refine OGo.to (fun _ k => XS.astoreN X_29.here hx rfl (hb hby d7_4) rfl rfl (l' := #[.val (.ref a1), .val (.ref a2), .val (.ref t1), .unset, .unset]) rfl k) ?_
    refine OGo.to (fun _ k => XS.aloadN X_29.here hx rfl (hb hby d7_5) rfl rfl k) ?_
    obtain ⟨T_30, X_30, e_30, st_30⟩ := getF X_29 hx hZ hown (host := "") (Or.inl (hw _ (List.mem_of_getElem? (i := 24) rfl))) Via.refl e_29 Fv2_ (g := (mkF m 6 #[.val (.ref a1), .val (.ref a2), .val (.ref t1), .unset, .unset] [(.ref a2)])) rfl rfl (hb hby d7_6)
    refine OGo.to st_30 ?_
    show OGo p e below _ (T_30.setTop (mkF m 9 #[.val (.ref a1), .val (.ref a2), .val (.ref t1), .unset, .unset] [(.ref t2)]))
    refine OGo.to (fun _ k => XS.astoreN X_30.here hx rfl (hb hby d7_9) rfl rfl (l' := #[.val (.ref a1), .val (.ref a2), .val (.ref t1), .val (.ref t2), .unset]) rfl k) ?_
    refine OGo.to (fun _ k => XS.aloadN X_30.here hx rfl (hb hby d7_10) rfl rfl k) ?_
    obtain ⟨cq_31, kq_31, q_31a, q_31b, q_31c⟩ := isOf hZ e_30 E1_
    obtain ⟨_, T_31, Lc_31, X_31, hQ_31, st_31⟩ := own_un X_30 (Q := Qcod Z a1 cs h0 n0) (rc := 0) (rs := 0) (W := fun v B => Steps p.tables e below (T_30.setTop (mkF m 11 #[.val (.ref a1), .val (.ref a2), .val (.ref t1), .val (.ref t2), .unset] [(.ref a1)])) (B.setTop { (mkF m 11 #[.val (.ref a1), .val (.ref a2), .val (.ref t1), .val (.ref t2), .unset] [(.ref a1)]) with pc := 14, stack := v.toList ++ [] })) <| X_30.virtualBack hx (y := (⟨"java/lang/String", "coder", "()B"⟩ : MethodName)) (z := (⟨"java/lang/String", "coder", "()B"⟩ : MethodName)) hown (mvT hZ (hw _ (List.mem_of_getElem? (i := 41) rfl))) (mvT hZ (hw _ (List.mem_of_getElem? (i := 42) rfl))) (notFace_of_selects (args := #[]) (mvT hZ (hw _ (List.mem_of_getElem? (i := 44) rfl)))) (mvT hZ (hw _ (List.mem_of_getElem? (i := 44) rfl))) (mvT hZ (hw _ (List.mem_of_getElem? (i := 43) rfl))) (by decide) (backOf (W := 0) (rmcod l Z a0 hw [] a1 cs h0 n0 Z0 SC O0 (hcs) Fc1_) hZ (hw _ (List.mem_of_getElem? (i := 45) rfl)) (hw _ (List.mem_of_getElem? (i := 6) rfl)) (by decide) (by decide)) q_31a q_31c (g := (mkF m 11 #[.val (.ref a1), .val (.ref a2), .val (.ref t1), .val (.ref t2), .unset] [(.ref a1)])) rfl (by rw [hml]; rfl) (Steps.refl _) (argsL := []) (rest := []) (lenOf pd_13 rfl) rfl (by show 2 * 0 + _ ≤ _; exact Nat.le_of_eq rfl) (hb hby d7_11) (fun _ _ => ⟨rfl, e_30, (by decide : 0 + 0 ≤ _), (by decide : 0 + 0 ≤ _)⟩)
    obtain ⟨rfl, N_31q, e_31⟩ := hQ_31
    have N_31 := Fr.app N0 N_31q
    refine OGo.to (fun _ k => st_31.trans k) ?_
    show OGo p e below _ (T_31.setTop (mkF m 14 #[.val (.ref a1), .val (.ref a2), .val (.ref t1), .val (.ref t2), .unset] [(.int (0 : Int32))]))
    refine OGo.to (fun _ k => XS.istore X_31.here hx rfl (hb hby d7_14) rfl (l' := #[.val (.ref a1), .val (.ref a2), .val (.ref t1), .val (.ref t2), .val (.int (0 : Int32))]) rfl k) ?_
    refine OGo.to (fun _ k => XS.iload X_31.here hx rfl (hb hby d7_16) rfl k) ?_
    refine OGo.to (fun _ k => XS.aloadN X_31.here hx rfl (hb hby d7_18) rfl rfl k) ?_
    obtain ⟨cq_32, kq_32, q_32a, q_32b, q_32c⟩ := isOf hZ e_31 E2_
    obtain ⟨_, T_32, Lc_32, X_32, hQ_32, st_32⟩ := own_un X_31 (Q := Qcod Z a2 cs h0 n0) (rc := 0) (rs := 0) (W := fun v B => Steps p.tables e below (T_31.setTop (mkF m 19 #[.val (.ref a1), .val (.ref a2), .val (.ref t1), .val (.ref t2), .val (.int (0 : Int32))] [(.ref a2), (.int (0 : Int32))])) (B.setTop { (mkF m 19 #[.val (.ref a1), .val (.ref a2), .val (.ref t1), .val (.ref t2), .val (.int (0 : Int32))] [(.ref a2), (.int (0 : Int32))]) with pc := 22, stack := v.toList ++ [(.int (0 : Int32))] })) <| X_31.virtualBack hx (y := (⟨"java/lang/String", "coder", "()B"⟩ : MethodName)) (z := (⟨"java/lang/String", "coder", "()B"⟩ : MethodName)) hown (mvT hZ (hw _ (List.mem_of_getElem? (i := 41) rfl))) (mvT hZ (hw _ (List.mem_of_getElem? (i := 42) rfl))) (notFace_of_selects (args := #[]) (mvT hZ (hw _ (List.mem_of_getElem? (i := 44) rfl)))) (mvT hZ (hw _ (List.mem_of_getElem? (i := 44) rfl))) (mvT hZ (hw _ (List.mem_of_getElem? (i := 43) rfl))) (by decide) (backOf (W := 1) (rmcod l Z a0 hw [] a2 cs h0 n0 Z0 SC O0 (hcs) Fc2_) hZ (hw _ (List.mem_of_getElem? (i := 45) rfl)) (hw _ (List.mem_of_getElem? (i := 6) rfl)) (by decide) (by decide)) q_32a q_32c (g := (mkF m 19 #[.val (.ref a1), .val (.ref a2), .val (.ref t1), .val (.ref t2), .val (.int (0 : Int32))] [(.ref a2), (.int (0 : Int32))])) rfl (by rw [hml]; rfl) (Steps.refl _) (argsL := []) (rest := [(.int (0 : Int32))]) (lenOf pd_13 rfl) rfl (by show 2 * 0 + _ ≤ _; exact Nat.le_of_eq rfl) (hb hby d7_19) (fun _ _ => ⟨rfl, e_31, (by decide : 0 + 0 ≤ _), (by decide : 0 + 0 ≤ _)⟩)
    obtain ⟨rfl, N_32q, e_32⟩ := hQ_32
    have N_32 := Fr.app N_31 N_32q
    refine OGo.to (fun _ k => st_32.trans k) ?_
    show OGo p e below _ (T_32.setTop (mkF m 22 #[.val (.ref a1), .val (.ref a2), .val (.ref t1), .val (.ref t2), .val (.int (0 : Int32))] [(.int (0 : Int32)), (.int (0 : Int32))]))
    have hc22__33 : (0 : Int32) = (0 : Int32) := by decide
    refine OGo.to (fun _ k => XS.icmpNo X_32.here hx rfl (hb hby d7_22) rfl (teq hc22__33).2 k) ?_
    show OGo p e below _ (T_32.setTop (mkF m 25 #[.val (.ref a1), .val (.ref a2), .val (.ref t1), .val (.ref t2), .val (.int (0 : Int32))] []))
    refine OGo.to (fun _ k => XS.iload X_32.here hx rfl (hb hby d7_25) rfl k) ?_
    have hc27__34 : (0 : Int32) = (0 : Int32) := by decide
    refine OGo.to (fun _ k => XS.ifNo X_32.here hx rfl (hb hby d7_27) rfl ((if0 _ _).trans (teq hc27__34).2) k) ?_
    show OGo p e below _ (T_32.setTop (mkF m 30 #[.val (.ref a1), .val (.ref a2), .val (.ref t1), .val (.ref t2), .val (.int (0 : Int32))] []))
    refine OGo.to (fun _ k => XS.aloadN X_32.here hx rfl (hb hby d7_30) rfl rfl k) ?_
    refine OGo.to (fun _ k => XS.aloadN X_32.here hx rfl (hb hby d7_31) rfl rfl k) ?_
    obtain ⟨_, T_35, Lc_35, X_35, hQ_35, st_35⟩ := own_un X_32 (Q := Qc211 Z t1 t2 k1 k2 x0 y0 h0 n0) (rc := 0) (rs := 0) (W := fun v B => ∀ target, Steps p.tables e below (B.setTop { (mkF m 32 #[.val (.ref a1), .val (.ref a2), .val (.ref t1), .val (.ref t2), .val (.int (0 : Int32))] [(.ref t2), (.ref t1)]) with pc := 35, stack := v.toList ++ [] }) target → Steps p.tables e below (T_32.setTop (mkF m 32 #[.val (.ref a1), .val (.ref a2), .val (.ref t1), .val (.ref t2), .val (.int (0 : Int32))] [(.ref t2), (.ref t1)])) target) <| Jvm.LawKit.callS X_32 hx (y := (⟨"java/lang/StringLatin1", "compareTo", "([B[B)I"⟩ : MethodName)) hown (mvT hZ (hw _ (List.mem_of_getElem? (i := 47) rfl))) (mvT hZ (hw _ (List.mem_of_getElem? (i := 48) rfl))) (mvT hZ (hw _ (List.mem_of_getElem? (i := 49) rfl))) (mvT hZ (hw _ (List.mem_of_getElem? (i := 50) rfl))) (by decide) (backOf (W := 0) (rmc211 l Z a0 hw [] t1 t2 k1 k2 x0 y0 h0 n0 Z0 V1_c V2_c) hZ (hw _ (List.mem_of_getElem? (i := 50) rfl)) (hw _ (List.mem_of_getElem? (i := 49) rfl)) (by decide) (by decide)) (g := (mkF m 32 #[.val (.ref a1), .val (.ref a2), .val (.ref t1), .val (.ref t2), .val (.int (0 : Int32))] [(.ref t2), (.ref t1)])) rfl (by rw [hml]; rfl) (argsL := [(.ref t1), (.ref t2)]) (rest := []) (lenOf pd_14 rfl) rfl (by show 2 * 0 + _ ≤ _; exact Nat.le_of_eq rfl) (hb hby d7_32) (fun _ _ => ⟨rfl, e_32, (by decide : 0 + 0 ≤ _), (by decide : 0 + 0 ≤ _)⟩)
    obtain ⟨rfl, N_35q, e_35⟩ := hQ_35
    have N_35 := Fr.app N_32 N_35q
    refine OGo.to st_35 ?_
    show OGo p e below _ (T_35.setTop (mkF m 35 #[.val (.ref a1), .val (.ref a2), .val (.ref t1), .val (.ref t2), .val (.int (0 : Int32))] [(.int (own_scmp [x0] [y0]))]))
    refine OGo.to (fun _ k => XS.goto X_35.here hx rfl (pc0 := 35) (pc' := 43) rfl (hb hby d7_35) (by decide) (by decide) k) ?_
    show OGo p e below _ (T_35.setTop (mkF m 43 #[.val (.ref a1), .val (.ref a2), .val (.ref t1), .val (.ref t2), .val (.int (0 : Int32))] [(.int (own_scmp [x0] [y0]))]))
    refine OGo.ret (Q := Qscmp Z a1 a2 t1 k1 [x0] t2 k2 [y0] cs h0 n0) X_35 (some (.int (own_scmp [x0] [y0]))) (fun h => by rw [Bd.returns] at h; cases h) Bd.notSynchronized (fun fs hr => retI X_35 hx Bd.returns (hb hby d7_43) hr) ?_ (by decide) (by decide)
    show Qscmp Z a1 a2 t1 k1 [x0] t2 k2 [y0] cs h0 n0 _ T_35.heap _
    rw [e_35]
    exact ⟨rfl, N_35, rfl⟩
  ·  -- 1 2
    have V1_c : Arv Z h0 t1 k1 .byte (1 : Int32) [(.int x0)] (.int (0 : Int32)) := V1_
    have V2_c : Arv Z h0 t2 k2 .byte (2 : Int32) [(.int y0), (.int y1)] (.int (0 : Int32)) := V2_
    show OGo p e below _ (s₁.setTop (mkF m 0 #[.val (.ref a1), .val (.ref a2), .unset, .unset, .unset] []))
    refine OGo.to (fun _ k => XS.aloadN X0.here hx rfl (hb hby d7_0) rfl rfl k) ?_
    obtain ⟨T_36, X_36, e_36, st_36⟩ := getF X0 hx hZ hown (host := "") (Or.inl (hw _ (List.mem_of_getElem? (i := 24) rfl))) Via.refl e0 Fv1_ (g := (mkF m 1 #[.val (.ref a1), .val (.ref a2), .unset, .unset, .unset] [(.ref a1)])) rfl rfl (hb hby d7_1)
    refine OGo.to st_36 ?_
    show OGo p e below _ (T_36.setTop (mkF m 4 #[.val (.ref a1), .val (.ref a2), .unset, .unset, .unset] [(.ref t1)]))
    refine OGo.to (fun _ k => XS.astoreN X_36.here hx rfl (hb hby d7_4) rfl rfl (l' := #[.val (.ref a1), .val (.ref a2), .val (.ref t1), .unset, .unset]) rfl k) ?_
    refine OGo.to (fun _ k => XS.aloadN X_36.here hx rfl (hb hby d7_5) rfl rfl k) ?_
    obtain ⟨T_37, X_37, e_37, st_37⟩ := getF X_36 hx hZ hown (host := "") (Or.inl (hw _ (List.mem_of_getElem? (i := 24) rfl))) Via.refl e_36 Fv2_ (g := (mkF m 6 #[.val (.ref a1), .val (.ref a2), .val (.ref t1), .unset, .unset] [(.ref a2)])) rfl rfl (hb hby d7_6)
    refine OGo.to st_37 ?_
    show OGo p e below _ (T_37.setTop (mkF m 9 #[.val (.ref a1), .val (.ref a2), .val (.ref t1), .unset, .unset] [(.ref t2)]))
    refine OGo.to (fun _ k => XS.astoreN X_37.here hx rfl (hb hby d7_9) rfl rfl (l' := #[.val (.ref a1), .val (.ref a2), .val (.ref t1), .val (.ref t2), .unset]) rfl k) ?_
    refine OGo.to (fun _ k => XS.aloadN X_37.here hx rfl (hb hby d7_10) rfl rfl k) ?_
    obtain ⟨cq_38, kq_38, q_38a, q_38b, q_38c⟩ := isOf hZ e_37 E1_
    obtain ⟨_, T_38, Lc_38, X_38, hQ_38, st_38⟩ := own_un X_37 (Q := Qcod Z a1 cs h0 n0) (rc := 0) (rs := 0) (W := fun v B => Steps p.tables e below (T_37.setTop (mkF m 11 #[.val (.ref a1), .val (.ref a2), .val (.ref t1), .val (.ref t2), .unset] [(.ref a1)])) (B.setTop { (mkF m 11 #[.val (.ref a1), .val (.ref a2), .val (.ref t1), .val (.ref t2), .unset] [(.ref a1)]) with pc := 14, stack := v.toList ++ [] })) <| X_37.virtualBack hx (y := (⟨"java/lang/String", "coder", "()B"⟩ : MethodName)) (z := (⟨"java/lang/String", "coder", "()B"⟩ : MethodName)) hown (mvT hZ (hw _ (List.mem_of_getElem? (i := 41) rfl))) (mvT hZ (hw _ (List.mem_of_getElem? (i := 42) rfl))) (notFace_of_selects (args := #[]) (mvT hZ (hw _ (List.mem_of_getElem? (i := 44) rfl)))) (mvT hZ (hw _ (List.mem_of_getElem? (i := 44) rfl))) (mvT hZ (hw _ (List.mem_of_getElem? (i := 43) rfl))) (by decide) (backOf (W := 0) (rmcod l Z a0 hw [] a1 cs h0 n0 Z0 SC O0 (hcs) Fc1_) hZ (hw _ (List.mem_of_getElem? (i := 45) rfl)) (hw _ (List.mem_of_getElem? (i := 6) rfl)) (by decide) (by decide)) q_38a q_38c (g := (mkF m 11 #[.val (.ref a1), .val (.ref a2), .val (.ref t1), .val (.ref t2), .unset] [(.ref a1)])) rfl (by rw [hml]; rfl) (Steps.refl _) (argsL := []) (rest := []) (lenOf pd_13 rfl) rfl (by show 2 * 0 + _ ≤ _; exact Nat.le_of_eq rfl) (hb hby d7_11) (fun _ _ => ⟨rfl, e_37, (by decide : 0 + 0 ≤ _), (by decide : 0 + 0 ≤ _)⟩)
    obtain ⟨rfl, N_38q, e_38⟩ := hQ_38
    have N_38 := Fr.app N0 N_38q
    refine OGo.to (fun _ k => st_38.trans k) ?_
    show OGo p e below _ (T_38.setTop (mkF m 14 #[.val (.ref a1), .val (.ref a2), .val (.ref t1), .val (.ref t2), .unset] [(.int (0 : Int32))]))
    refine OGo.to (fun _ k => XS.istore X_38.here hx rfl (hb hby d7_14) rfl (l' := #[.val (.ref a1), .val (.ref a2), .val (.ref t1), .val (.ref t2), .val (.int (0 : Int32))]) rfl k) ?_
    refine OGo.to (fun _ k => XS.iload X_38.here hx rfl (hb hby d7_16) rfl k) ?_
    refine OGo.to (fun _ k => XS.aloadN X_38.here hx rfl (hb hby d7_18) rfl rfl k) ?_
    obtain ⟨cq_39, kq_39, q_39a, q_39b, q_39c⟩ := isOf hZ e_38 E2_
    obtain ⟨_, T_39, Lc_39, X_39, hQ_39, st_39⟩ := own_un X_38 (Q := Qcod Z a2 cs h0 n0) (rc := 0) (rs := 0) (W := fun v B => Steps p.tables e below (T_38.setTop (mkF m 19 #[.val (.ref a1), .val (.ref a2), .val (.ref t1), .val (.ref t2), .val (.int (0 : Int32))] [(.ref a2), (.int (0 : Int32))])) (B.setTop { (mkF m 19 #[.val (.ref a1), .val (.ref a2), .val (.ref t1), .val (.ref t2), .val (.int (0 : Int32))] [(.ref a2), (.int (0 : Int32))]) with pc := 22, stack := v.toList ++ [(.int (0 : Int32))] })) <| X_38.virtualBack hx (y := (⟨"java/lang/String", "coder", "()B"⟩ : MethodName)) (z := (⟨"java/lang/String", "coder", "()B"⟩ : MethodName)) hown (mvT hZ (hw _ (List.mem_of_getElem? (i := 41) rfl))) (mvT hZ (hw _ (List.mem_of_getElem? (i := 42) rfl))) (notFace_of_selects (args := #[]) (mvT hZ (hw _ (List.mem_of_getElem? (i := 44) rfl)))) (mvT hZ (hw _ (List.mem_of_getElem? (i := 44) rfl))) (mvT hZ (hw _ (List.mem_of_getElem? (i := 43) rfl))) (by decide) (backOf (W := 1) (rmcod l Z a0 hw [] a2 cs h0 n0 Z0 SC O0 (hcs) Fc2_) hZ (hw _ (List.mem_of_getElem? (i := 45) rfl)) (hw _ (List.mem_of_getElem? (i := 6) rfl)) (by decide) (by decide)) q_39a q_39c (g := (mkF m 19 #[.val (.ref a1), .val (.ref a2), .val (.ref t1), .val (.ref t2), .val (.int (0 : Int32))] [(.ref a2), (.int (0 : Int32))])) rfl (by rw [hml]; rfl) (Steps.refl _) (argsL := []) (rest := [(.int (0 : Int32))]) (lenOf pd_13 rfl) rfl (by show 2 * 0 + _ ≤ _; exact Nat.le_of_eq rfl) (hb hby d7_19) (fun _ _ => ⟨rfl, e_38, (by decide : 0 + 0 ≤ _), (by decide : 0 + 0 ≤ _)⟩)
    obtain ⟨rfl, N_39q, e_39⟩ := hQ_39
    have N_39 := Fr.app N_38 N_39q
    refine OGo.to (fun _ k => st_39.trans k) ?_
    show OGo p e below _ (T_39.setTop (mkF m 22 #[.val (.ref a1), .val (.ref a2), .val (.ref t1), .val (.ref t2), .val (.int (0 : Int32))] [(.int (0 : Int32)), (.int (0 : Int32))]))
    have hc22__40 : (0 : Int32) = (0 : Int32) := by decide
    refine OGo.to (fun _ k => XS.icmpNo X_39.here hx rfl (hb hby d7_22) rfl (teq hc22__40).2 k) ?_
    show OGo p e below _ (T_39.setTop (mkF m 25 #[.val (.ref a1), .val (.ref a2), .val (.ref t1), .val (.ref t2), .val (.int (0 : Int32))] []))
    refine OGo.to (fun _ k => XS.iload X_39.here hx rfl (hb hby d7_25) rfl k) ?_
    have hc27__41 : (0 : Int32) = (0 : Int32) := by decide
    refine OGo.to (fun _ k => XS.ifNo X_39.here hx rfl (hb hby d7_27) rfl ((if0 _ _).trans (teq hc27__41).2) k) ?_
    show OGo p e below _ (T_39.setTop (mkF m 30 #[.val (.ref a1), .val (.ref a2), .val (.ref t1), .val (.ref t2), .val (.int (0 : Int32))] []))
    refine OGo.to (fun _ k => XS.aloadN X_39.here hx rfl (hb hby d7_30) rfl rfl k) ?_
    refine OGo.to (fun _ k => XS.aloadN X_39.here hx rfl (hb hby d7_31) rfl rfl k) ?_
    obtain ⟨_, T_42, Lc_42, X_42, hQ_42, st_42⟩ := own_un X_39 (Q := Qc212 Z t1 t2 k1 k2 x0 y0 y1 h0 n0) (rc := 0) (rs := 0) (W := fun v B => ∀ target, Steps p.tables e below (B.setTop { (mkF m 32 #[.val (.ref a1), .val (.ref a2), .val (.ref t1), .val (.ref t2), .val (.int (0 : Int32))] [(.ref t2), (.ref t1)]) with pc := 35, stack := v.toList ++ [] }) target → Steps p.tables e below (T_39.setTop (mkF m 32 #[.val (.ref a1), .val (.ref a2), .val (.ref t1), .val (.ref t2), .val (.int (0 : Int32))] [(.ref t2), (.ref t1)])) target) <| Jvm.LawKit.callS X_39 hx (y := (⟨"java/lang/StringLatin1", "compareTo", "([B[B)I"⟩ : MethodName)) hown (mvT hZ (hw _ (List.mem_of_getElem? (i := 47) rfl))) (mvT hZ (hw _ (List.mem_of_getElem? (i := 48) rfl))) (mvT hZ (hw _ (List.mem_of_getElem? (i := 49) rfl))) (mvT hZ (hw _ (List.mem_of_getElem? (i := 50) rfl))) (by decide) (backOf (W := 0) (rmc212 l Z a0 hw [] t1 t2 k1 k2 x0 y0 y1 h0 n0 Z0 V1_c V2_c) hZ (hw _ (List.mem_of_getElem? (i := 50) rfl)) (hw _ (List.mem_of_getElem? (i := 49) rfl)) (by decide) (by decide)) (g := (mkF m 32 #[.val (.ref a1), .val (.ref a2), .val (.ref t1), .val (.ref t2), .val (.int (0 : Int32))] [(.ref t2), (.ref t1)])) rfl (by rw [hml]; rfl) (argsL := [(.ref t1), (.ref t2)]) (rest := []) (lenOf pd_14 rfl) rfl (by show 2 * 0 + _ ≤ _; exact Nat.le_of_eq rfl) (hb hby d7_32) (fun _ _ => ⟨rfl, e_39, (by decide : 0 + 0 ≤ _), (by decide : 0 + 0 ≤ _)⟩)
    obtain ⟨rfl, N_42q, e_42⟩ := hQ_42
    have N_42 := Fr.app N_39 N_42q
    refine OGo.to st_42 ?_
    show OGo p e below _ (T_42.setTop (mkF m 35 #[.val (.ref a1), .val (.ref a2), .val (.ref t1), .val (.ref t2), .val (.int (0 : Int32))] [(.int (own_scmp [x0] [y0, y1]))]))
    refine OGo.to (fun _ k => XS.goto X_42.here hx rfl (pc0 := 35) (pc' := 43) rfl (hb hby d7_35) (by decide) (by decide) k) ?_
    refine OGo.ret (Q := Qscmp Z a1 a2 t1 k1 [x0] t2 k2 [y0, y1] cs h0 n0) X_42 (some (.int (own_scmp [x0] [y0, y1]))) (fun h => by rw [Bd.returns] at h; cases h) Bd.notSynchronized (fun fs hr => retI X_42 hx Bd.returns (hb hby d7_43) hr) ?_ (by decide) (by decide)
    show Qscmp Z a1 a2 t1 k1 [x0] t2 k2 [y0, y1] cs h0 n0 _ T_42.heap _
    rw [e_42]
    exact ⟨rfl, N_42, rfl⟩
  ·  -- 2 0
    have V1_c : Arv Z h0 t1 k1 .byte (2 : Int32) [(.int x0), (.int x1)] (.int (0 : Int32)) := V1_
    have V2_c : Arv Z h0 t2 k2 .byte (0 : Int32) [] (.int (0 : Int32)) := V2_
    show OGo p e below _ (s₁.setTop (mkF m 0 #[.val (.ref a1), .val (.ref a2), .unset, .unset, .unset] []))
    refine OGo.to (fun _ k => XS.aloadN X0.here hx rfl (hb hby d7_0) rfl rfl k) ?_
    obtain ⟨T_43, X_43, e_43, st_43⟩ := getF X0 hx hZ hown (host := "") (Or.inl (hw _ (List.mem_of_getElem? (i := 24) rfl))) Via.refl e0 Fv1_ (g := (mkF m 1 #[.val (.ref a1), .val (.ref a2), .unset, .unset, .unset] [(.ref a1)])) rfl rfl (hb hby d7_1)
    refine OGo.to st_43 ?_
    show OGo p e below _ (T_43.setTop (mkF m 4 #[.val (.ref a1), .val (.ref a2), .unset, .unset, .unset] [(.ref t1)]))
    refine OGo.to (fun _ k => XS.astoreN X_43.here hx rfl (hb hby d7_4) rfl rfl (l' := #[.val (.ref a1), .val (.ref a2), .val (.ref t1), .unset, .unset]) rfl k) ?_
    refine OGo.to (fun _ k => XS.aloadN X_43.here hx rfl (hb hby d7_5) rfl rfl k) ?_
    show OGo p e below _ (T_43.setTop (mkF m 6 #[.val (.ref a1), .val (.ref a2), .val (.ref t1), .unset, .unset] [(.ref a2)]))
    obtain ⟨T_44, X_44, e_44, st_44⟩ := getF X_43 hx hZ hown (host := "") (Or.inl (hw _ (List.mem_of_getElem? (i := 24) rfl))) Via.refl e_43 Fv2_ (g := (mkF m 6 #[.val (.ref a1), .val (.ref a2), .val (.ref t1), .unset, .unset] [(.ref a2)])) rfl rfl (hb hby d7_6)
    refine OGo.to st_44 ?_
    show OGo p e below _ (T_44.setTop (mkF m 9 #[.val (.ref a1), .val (.ref a2), .val (.ref t1), .unset, .unset] [(.ref t2)]))
    refine OGo.to (fun _ k => XS.astoreN X_44.here hx rfl (hb hby d7_9) rfl rfl (l' := #[.val (.ref a1), .val (.ref a2), .val (.ref t1), .val (.ref t2), .unset]) rfl k) ?_
    refine OGo.to (fun _ k => XS.aloadN X_44.here hx rfl (hb hby d7_10) rfl rfl k) ?_
    obtain ⟨cq_45, kq_45, q_45a, q_45b, q_45c⟩ := isOf hZ e_44 E1_
    obtain ⟨_, T_45, Lc_45, X_45, hQ_45, st_45⟩ := own_un X_44 (Q := Qcod Z a1 cs h0 n0) (rc := 0) (rs := 0) (W := fun v B => Steps p.tables e below (T_44.setTop (mkF m 11 #[.val (.ref a1), .val (.ref a2), .val (.ref t1), .val (.ref t2), .unset] [(.ref a1)])) (B.setTop { (mkF m 11 #[.val (.ref a1), .val (.ref a2), .val (.ref t1), .val (.ref t2), .unset] [(.ref a1)]) with pc := 14, stack := v.toList ++ [] })) <| X_44.virtualBack hx (y := (⟨"java/lang/String", "coder", "()B"⟩ : MethodName)) (z := (⟨"java/lang/String", "coder", "()B"⟩ : MethodName)) hown (mvT hZ (hw _ (List.mem_of_getElem? (i := 41) rfl))) (mvT hZ (hw _ (List.mem_of_getElem? (i := 42) rfl))) (notFace_of_selects (args := #[]) (mvT hZ (hw _ (List.mem_of_getElem? (i := 44) rfl)))) (mvT hZ (hw _ (List.mem_of_getElem? (i := 44) rfl))) (mvT hZ (hw _ (List.mem_of_getElem? (i := 43) rfl))) (by decide) (backOf (W := 0) (rmcod l Z a0 hw [] a1 cs h0 n0 Z0 SC O0 (hcs) Fc1_) hZ (hw _ (List.mem_of_getElem? (i := 45) rfl)) (hw _ (List.mem_of_getElem? (i := 6) rfl)) (by decide) (by decide)) q_45a q_45c (g := (mkF m 11 #[.val (.ref a1), .val (.ref a2), .val (.ref t1), .val (.ref t2), .unset] [(.ref a1)])) rfl (by rw [hml]; rfl) (Steps.refl _) (argsL := []) (rest := []) (lenOf pd_13 rfl) rfl (by show 2 * 0 + _ ≤ _; exact Nat.le_of_eq rfl) (hb hby d7_11) (fun _ _ => ⟨rfl, e_44, (by decide : 0 + 0 ≤ _), (by decide : 0 + 0 ≤ _)⟩)
    obtain ⟨rfl, N_45q, e_45⟩ := hQ_45
    have N_45 := Fr.app N0 N_45q
    refine OGo.to (fun _ k => st_45.trans k) ?_
    show OGo p e below _ (T_45.setTop (mkF m 14 #[.val (.ref a1), .val (.ref a2), .val (.ref t1), .val (.ref t2), .unset] [(.int (0 : Int32))]))
    refine OGo.to (fun _ k => XS.istore X_45.here hx rfl (hb hby d7_14) rfl (l' := #[.val (.ref a1), .val (.ref a2), .val (.ref t1), .val (.ref t2), .val (.int (0 : Int32))]) rfl k) ?_
    refine OGo.to (fun _ k => XS.iload X_45.here hx rfl (hb hby d7_16) rfl k) ?_
    refine OGo.to (fun _ k => XS.aloadN X_45.here hx rfl (hb hby d7_18) rfl rfl k) ?_
    obtain ⟨cq_46, kq_46, q_46a, q_46b, q_46c⟩ := isOf hZ e_45 E2_
    obtain ⟨_, T_46, Lc_46, X_46, hQ_46, st_46⟩ := own_un X_45 (Q := Qcod Z a2 cs h0 n0) (rc := 0) (rs := 0) (W := fun v B => Steps p.tables e below (T_45.setTop (mkF m 19 #[.val (.ref a1), .val (.ref a2), .val (.ref t1), .val (.ref t2), .val (.int (0 : Int32))] [(.ref a2), (.int (0 : Int32))])) (B.setTop { (mkF m 19 #[.val (.ref a1), .val (.ref a2), .val (.ref t1), .val (.ref t2), .val (.int (0 : Int32))] [(.ref a2), (.int (0 : Int32))]) with pc := 22, stack := v.toList ++ [(.int (0 : Int32))] })) <| X_45.virtualBack hx (y := (⟨"java/lang/String", "coder", "()B"⟩ : MethodName)) (z := (⟨"java/lang/String", "coder", "()B"⟩ : MethodName)) hown (mvT hZ (hw _ (List.mem_of_getElem? (i := 41) rfl))) (mvT hZ (hw _ (List.mem_of_getElem? (i := 42) rfl))) (notFace_of_selects (args := #[]) (mvT hZ (hw _ (List.mem_of_getElem? (i := 44) rfl)))) (mvT hZ (hw _ (List.mem_of_getElem? (i := 44) rfl))) (mvT hZ (hw _ (List.mem_of_getElem? (i := 43) rfl))) (by decide) (backOf (W := 1) (rmcod l Z a0 hw [] a2 cs h0 n0 Z0 SC O0 (hcs) Fc2_) hZ (hw _ (List.mem_of_getElem? (i := 45) rfl)) (hw _ (List.mem_of_getElem? (i := 6) rfl)) (by decide) (by decide)) q_46a q_46c (g := (mkF m 19 #[.val (.ref a1), .val (.ref a2), .val (.ref t1), .val (.ref t2), .val (.int (0 : Int32))] [(.ref a2), (.int (0 : Int32))])) rfl (by rw [hml]; rfl) (Steps.refl _) (argsL := []) (rest := [(.int (0 : Int32))]) (lenOf pd_13 rfl) rfl (by show 2 * 0 + _ ≤ _; exact Nat.le_of_eq rfl) (hb hby d7_19) (fun _ _ => ⟨rfl, e_45, (by decide : 0 + 0 ≤ _), (by decide : 0 + 0 ≤ _)⟩)
    obtain ⟨rfl, N_46q, e_46⟩ := hQ_46
    have N_46 := Fr.app N_45 N_46q
    refine OGo.to (fun _ k => st_46.trans k) ?_
    show OGo p e below _ (T_46.setTop (mkF m 22 #[.val (.ref a1), .val (.ref a2), .val (.ref t1), .val (.ref t2), .val (.int (0 : Int32))] [(.int (0 : Int32)), (.int (0 : Int32))]))
    have hc22__47 : (0 : Int32) = (0 : Int32) := by decide
    refine OGo.to (fun _ k => XS.icmpNo X_46.here hx rfl (hb hby d7_22) rfl (teq hc22__47).2 k) ?_
    show OGo p e below _ (T_46.setTop (mkF m 25 #[.val (.ref a1), .val (.ref a2), .val (.ref t1), .val (.ref t2), .val (.int (0 : Int32))] []))
    refine OGo.to (fun _ k => XS.iload X_46.here hx rfl (hb hby d7_25) rfl k) ?_
    have hc27__48 : (0 : Int32) = (0 : Int32) := by decide
    refine OGo.to (fun _ k => XS.ifNo X_46.here hx rfl (hb hby d7_27) rfl ((if0 _ _).trans (teq hc27__48).2) k) ?_
    show OGo p e below _ (T_46.setTop (mkF m 30 #[.val (.ref a1), .val (.ref a2), .val (.ref t1), .val (.ref t2), .val (.int (0 : Int32))] []))
    refine OGo.to (fun _ k => XS.aloadN X_46.here hx rfl (hb hby d7_30) rfl rfl k) ?_
    refine OGo.to (fun _ k => XS.aloadN X_46.here hx rfl (hb hby d7_31) rfl rfl k) ?_
    obtain ⟨_, T_49, Lc_49, X_49, hQ_49, st_49⟩ := own_un X_46 (Q := Qc220 Z t1 t2 k1 k2 x0 x1 h0 n0) (rc := 0) (rs := 0) (W := fun v B => ∀ target, Steps p.tables e below (B.setTop { (mkF m 32 #[.val (.ref a1), .val (.ref a2), .val (.ref t1), .val (.ref t2), .val (.int (0 : Int32))] [(.ref t2), (.ref t1)]) with pc := 35, stack := v.toList ++ [] }) target → Steps p.tables e below (T_46.setTop (mkF m 32 #[.val (.ref a1), .val (.ref a2), .val (.ref t1), .val (.ref t2), .val (.int (0 : Int32))] [(.ref t2), (.ref t1)])) target) <| Jvm.LawKit.callS X_46 hx (y := (⟨"java/lang/StringLatin1", "compareTo", "([B[B)I"⟩ : MethodName)) hown (mvT hZ (hw _ (List.mem_of_getElem? (i := 47) rfl))) (mvT hZ (hw _ (List.mem_of_getElem? (i := 48) rfl))) (mvT hZ (hw _ (List.mem_of_getElem? (i := 49) rfl))) (mvT hZ (hw _ (List.mem_of_getElem? (i := 50) rfl))) (by decide) (backOf (W := 0) (rmc220 l Z a0 hw [] t1 t2 k1 k2 x0 x1 h0 n0 Z0 V1_c V2_c) hZ (hw _ (List.mem_of_getElem? (i := 50) rfl)) (hw _ (List.mem_of_getElem? (i := 49) rfl)) (by decide) (by decide)) (g := (mkF m 32 #[.val (.ref a1), .val (.ref a2), .val (.ref t1), .val (.ref t2), .val (.int (0 : Int32))] [(.ref t2), (.ref t1)])) rfl (by rw [hml]; rfl) (argsL := [(.ref t1), (.ref t2)]) (rest := []) (lenOf pd_14 rfl) rfl (by show 2 * 0 + _ ≤ _; exact Nat.le_of_eq rfl) (hb hby d7_32) (fun _ _ => ⟨rfl, e_46, (by decide : 0 + 0 ≤ _), (by decide : 0 + 0 ≤ _)⟩)
    obtain ⟨rfl, N_49q, e_49⟩ := hQ_49
    have N_49 := Fr.app N_46 N_49q
    refine OGo.to st_49 ?_
    show OGo p e below _ (T_49.setTop (mkF m 35 #[.val (.ref a1), .val (.ref a2), .val (.ref t1), .val (.ref t2), .val (.int (0 : Int32))] [(.int (own_scmp [x0, x1] []))]))
    refine OGo.to (fun _ k => XS.goto X_49.here hx rfl (pc0 := 35) (pc' := 43) rfl (hb hby d7_35) (by decide) (by decide) k) ?_
    refine OGo.ret (Q := Qscmp Z a1 a2 t1 k1 [x0, x1] t2 k2 ([] : List Int32) cs h0 n0) X_49 (some (.int (own_scmp [x0, x1] []))) (fun h => by rw [Bd.returns] at h; cases h) Bd.notSynchronized (fun fs hr => retI X_49 hx Bd.returns (hb hby d7_43) hr) ?_ (by decide) (by decide)
    show Qscmp Z a1 a2 t1 k1 [x0, x1] t2 k2 ([] : List Int32) cs h0 n0 _ T_49.heap _
    rw [e_49]
    exact ⟨rfl, N_49, rfl⟩
  ·  -- 2 1
    have V1_c : Arv Z h0 t1 k1 .byte (2 : Int32) [(.int x0), (.int x1)] (.int (0 : Int32)) := V1_
    have V2_c : Arv Z h0 t2 k2 .byte (1 : Int32) [(.int y0)] (.int (0 : Int32)) := V2_
    show OGo p e below _ (s₁.setTop (mkF m 0 #[.val (.ref a1), .val (.ref a2), .unset, .unset, .unset] []))
    refine OGo.to (fun _ k => XS.aloadN X0.here hx rfl (hb hby d7_0) rfl rfl k) ?_
    obtain ⟨T_50, X_50, e_50, st_50⟩ := getF X0 hx hZ hown (host := "") (Or.inl (hw _ (List.mem_of_getElem? (i := 24) rfl))) Via.refl e0 Fv1_ (g := (mkF m 1 #[.val (.ref a1), .val (.ref a2), .unset, .unset, .unset] [(.ref a1)])) rfl rfl (hb hby d7_1)
    refine OGo.to st_50 ?_
    show OGo p e below _ (T_50.setTop (mkF m 4 #[.val (.ref a1), .val (.ref a2), .unset, .unset, .unset] [(.ref t1)]))
    refine OGo.to (fun _ k => XS.astoreN X_50.here hx rfl (hb hby d7_4) rfl rfl (l' := #[.val (.ref a1), .val (.ref a2), .val (.ref t1), .unset, .unset]) rfl k) ?_
    refine OGo.to (fun _ k => XS.aloadN X_50.here hx rfl (hb hby d7_5) rfl rfl k) ?_
    obtain ⟨T_51, X_51, e_51, st_51⟩ := getF X_50 hx hZ hown (host := "") (Or.inl (hw _ (List.mem_of_getElem? (i := 24) rfl))) Via.refl e_50 Fv2_ (g := (mkF m 6 #[.val (.ref a1), .val (.ref a2), .val (.ref t1), .unset, .unset] [(.ref a2)])) rfl rfl (hb hby d7_6)
    refine OGo.to st_51 ?_
    show OGo p e below _ (T_51.setTop (mkF m 9 #[.val (.ref a1), .val (.ref a2), .val (.ref t1), .unset, .unset] [(.ref t2)]))
    refine OGo.to (fun _ k => XS.astoreN X_51.here hx rfl (hb hby d7_9) rfl rfl (l' := #[.val (.ref a1), .val (.ref a2), .val (.ref t1), .val (.ref t2), .unset]) rfl k) ?_
    refine OGo.to (fun _ k => XS.aloadN X_51.here hx rfl (hb hby d7_10) rfl rfl k) ?_
    obtain ⟨cq_52, kq_52, q_52a, q_52b, q_52c⟩ := isOf hZ e_51 E1_
    obtain ⟨_, T_52, Lc_52, X_52, hQ_52, st_52⟩ := own_un X_51 (Q := Qcod Z a1 cs h0 n0) (rc := 0) (rs := 0) (W := fun v B => Steps p.tables e below (T_51.setTop (mkF m 11 #[.val (.ref a1), .val (.ref a2), .val (.ref t1), .val (.ref t2), .unset] [(.ref a1)])) (B.setTop { (mkF m 11 #[.val (.ref a1), .val (.ref a2), .val (.ref t1), .val (.ref t2), .unset] [(.ref a1)]) with pc := 14, stack := v.toList ++ [] })) <| X_51.virtualBack hx (y := (⟨"java/lang/String", "coder", "()B"⟩ : MethodName)) (z := (⟨"java/lang/String", "coder", "()B"⟩ : MethodName)) hown (mvT hZ (hw _ (List.mem_of_getElem? (i := 41) rfl))) (mvT hZ (hw _ (List.mem_of_getElem? (i := 42) rfl))) (notFace_of_selects (args := #[]) (mvT hZ (hw _ (List.mem_of_getElem? (i := 44) rfl)))) (mvT hZ (hw _ (List.mem_of_getElem? (i := 44) rfl))) (mvT hZ (hw _ (List.mem_of_getElem? (i := 43) rfl))) (by decide) (backOf (W := 0) (rmcod l Z a0 hw [] a1 cs h0 n0 Z0 SC O0 (hcs) Fc1_) hZ (hw _ (List.mem_of_getElem? (i := 45) rfl)) (hw _ (List.mem_of_getElem? (i := 6) rfl)) (by decide) (by decide)) q_52a q_52c (g := (mkF m 11 #[.val (.ref a1), .val (.ref a2), .val (.ref t1), .val (.ref t2), .unset] [(.ref a1)])) rfl (by rw [hml]; rfl) (Steps.refl _) (argsL := []) (rest := []) (lenOf pd_13 rfl) rfl (by show 2 * 0 + _ ≤ _; exact Nat.le_of_eq rfl) (hb hby d7_11) (fun _ _ => ⟨rfl, e_51, (by decide : 0 + 0 ≤ _), (by decide : 0 + 0 ≤ _)⟩)
    obtain ⟨rfl, N_52q, e_52⟩ := hQ_52
    have N_52 := Fr.app N0 N_52q
    refine OGo.to (fun _ k => st_52.trans k) ?_
    show OGo p e below _ (T_52.setTop (mkF m 14 #[.val (.ref a1), .val (.ref a2), .val (.ref t1), .val (.ref t2), .unset] [(.int (0 : Int32))]))
    refine OGo.to (fun _ k => XS.istore X_52.here hx rfl (hb hby d7_14) rfl (l' := #[.val (.ref a1), .val (.ref a2), .val (.ref t1), .val (.ref t2), .val (.int (0 : Int32))]) rfl k) ?_
    show OGo p e below _ (T_52.setTop (mkF m 16 #[.val (.ref a1), .val (.ref a2), .val (.ref t1), .val (.ref t2), .val (.int (0 : Int32))] []))
    refine OGo.to (fun _ k => XS.iload X_52.here hx rfl (hb hby d7_16) rfl k) ?_
    refine OGo.to (fun _ k => XS.aloadN X_52.here hx rfl (hb hby d7_18) rfl rfl k) ?_
    obtain ⟨cq_53, kq_53, q_53a, q_53b, q_53c⟩ := isOf hZ e_52 E2_
    obtain ⟨_, T_53, Lc_53, X_53, hQ_53, st_53⟩ := own_un X_52 (Q := Qcod Z a2 cs h0 n0) (rc := 0) (rs := 0) (W := fun v B => Steps p.tables e below (T_52.setTop (mkF m 19 #[.val (.ref a1), .val (.ref a2), .val (.ref t1), .val (.ref t2), .val (.int (0 : Int32))] [(.ref a2), (.int (0 : Int32))])) (B.setTop { (mkF m 19 #[.val (.ref a1), .val (.ref a2), .val (.ref t1), .val (.ref t2), .val (.int (0 : Int32))] [(.ref a2), (.int (0 : Int32))]) with pc := 22, stack := v.toList ++ [(.int (0 : Int32))] })) <| X_52.virtualBack hx (y := (⟨"java/lang/String", "coder", "()B"⟩ : MethodName)) (z := (⟨"java/lang/String", "coder", "()B"⟩ : MethodName)) hown (mvT hZ (hw _ (List.mem_of_getElem? (i := 41) rfl))) (mvT hZ (hw _ (List.mem_of_getElem? (i := 42) rfl))) (notFace_of_selects (args := #[]) (mvT hZ (hw _ (List.mem_of_getElem? (i := 44) rfl)))) (mvT hZ (hw _ (List.mem_of_getElem? (i := 44) rfl))) (mvT hZ (hw _ (List.mem_of_getElem? (i := 43) rfl))) (by decide) (backOf (W := 1) (rmcod l Z a0 hw [] a2 cs h0 n0 Z0 SC O0 (hcs) Fc2_) hZ (hw _ (List.mem_of_getElem? (i := 45) rfl)) (hw _ (List.mem_of_getElem? (i := 6) rfl)) (by decide) (by decide)) q_53a q_53c (g := (mkF m 19 #[.val (.ref a1), .val (.ref a2), .val (.ref t1), .val (.ref t2), .val (.int (0 : Int32))] [(.ref a2), (.int (0 : Int32))])) rfl (by rw [hml]; rfl) (Steps.refl _) (argsL := []) (rest := [(.int (0 : Int32))]) (lenOf pd_13 rfl) rfl (by show 2 * 0 + _ ≤ _; exact Nat.le_of_eq rfl) (hb hby d7_19) (fun _ _ => ⟨rfl, e_52, (by decide : 0 + 0 ≤ _), (by decide : 0 + 0 ≤ _)⟩)
    obtain ⟨rfl, N_53q, e_53⟩ := hQ_53
    have N_53 := Fr.app N_52 N_53q
    refine OGo.to (fun _ k => st_53.trans k) ?_
    show OGo p e below _ (T_53.setTop (mkF m 22 #[.val (.ref a1), .val (.ref a2), .val (.ref t1), .val (.ref t2), .val (.int (0 : Int32))] [(.int (0 : Int32)), (.int (0 : Int32))]))
    have hc22__54 : (0 : Int32) = (0 : Int32) := by decide
    refine OGo.to (fun _ k => XS.icmpNo X_53.here hx rfl (hb hby d7_22) rfl (teq hc22__54).2 k) ?_
    show OGo p e below _ (T_53.setTop (mkF m 25 #[.val (.ref a1), .val (.ref a2), .val (.ref t1), .val (.ref t2), .val (.int (0 : Int32))] []))
    refine OGo.to (fun _ k => XS.iload X_53.here hx rfl (hb hby d7_25) rfl k) ?_
    have hc27__55 : (0 : Int32) = (0 : Int32) := by decide
    refine OGo.to (fun _ k => XS.ifNo X_53.here hx rfl (hb hby d7_27) rfl ((if0 _ _).trans (teq hc27__55).2) k) ?_
    show OGo p e below _ (T_53.setTop (mkF m 30 #[.val (.ref a1), .val (.ref a2), .val (.ref t1), .val (.ref t2), .val (.int (0 : Int32))] []))
    refine OGo.to (fun _ k => XS.aloadN X_53.here hx rfl (hb hby d7_30) rfl rfl k) ?_
    refine OGo.to (fun _ k => XS.aloadN X_53.here hx rfl (hb hby d7_31) rfl rfl k) ?_
    obtain ⟨_, T_56, Lc_56, X_56, hQ_56, st_56⟩ := own_un X_53 (Q := Qc221 Z t1 t2 k1 k2 x0 x1 y0 h0 n0) (rc := 0) (rs := 0) (W := fun v B => ∀ target, Steps p.tables e below (B.setTop { (mkF m 32 #[.val (.ref a1), .val (.ref a2), .val (.ref t1), .val (.ref t2), .val (.int (0 : Int32))] [(.ref t2), (.ref t1)]) with pc := 35, stack := v.toList ++ [] }) target → Steps p.tables e below (T_53.setTop (mkF m 32 #[.val (.ref a1), .val (.ref a2), .val (.ref t1), .val (.ref t2), .val (.int (0 : Int32))] [(.ref t2), (.ref t1)])) target) <| Jvm.LawKit.callS X_53 hx (y := (⟨"java/lang/StringLatin1", "compareTo", "([B[B)I"⟩ : MethodName)) hown (mvT hZ (hw _ (List.mem_of_getElem? (i := 47) rfl))) (mvT hZ (hw _ (List.mem_of_getElem? (i := 48) rfl))) (mvT hZ (hw _ (List.mem_of_getElem? (i := 49) rfl))) (mvT hZ (hw _ (List.mem_of_getElem? (i := 50) rfl))) (by decide) (backOf (W := 0) (rmc221 l Z a0 hw [] t1 t2 k1 k2 x0 x1 y0 h0 n0 Z0 V1_c V2_c) hZ (hw _ (List.mem_of_getElem? (i := 50) rfl)) (hw _ (List.mem_of_getElem? (i := 49) rfl)) (by decide) (by decide)) (g := (mkF m 32 #[.val (.ref a1), .val (.ref a2), .val (.ref t1), .val (.ref t2), .val (.int (0 : Int32))] [(.ref t2), (.ref t1)])) rfl (by rw [hml]; rfl) (argsL := [(.ref t1), (.ref t2)]) (rest := []) (lenOf pd_14 rfl) rfl (by show 2 * 0 + _ ≤ _; exact Nat.le_of_eq rfl) (hb hby d7_32) (fun _ _ => ⟨rfl, e_53, (by decide : 0 + 0 ≤ _), (by decide : 0 + 0 ≤ _)⟩)
    obtain ⟨rfl, N_56q, e_56⟩ := hQ_56
    have N_56 := Fr.app N_53 N_56q
    refine OGo.to st_56 ?_
    show OGo p e below _ (T_56.setTop (mkF m 35 #[.val (.ref a1), .val (.ref a2), .val (.ref t1), .val (.ref t2), .val (.int (0 : Int32))] [(.int (own_scmp [x0, x1] [y0]))]))
    refine OGo.to (fun _ k => XS.goto X_56.here hx rfl (pc0 := 35) (pc' := 43) rfl (hb hby d7_35) (by decide) (by decide) k) ?_
    refine OGo.ret (Q := Qscmp Z a1 a2 t1 k1 [x0, x1] t2 k2 [y0] cs h0 n0) X_56 (some (.int (own_scmp [x0, x1] [y0]))) (fun h => by rw [Bd.returns] at h; cases h) Bd.notSynchronized (fun fs hr => retI X_56 hx Bd.returns (hb hby d7_43) hr) ?_ (by decide) (by decide)
    show Qscmp Z a1 a2 t1 k1 [x0, x1] t2 k2 [y0] cs h0 n0 _ T_56.heap _
    rw [e_56]
    exact ⟨rfl, N_56, rfl⟩
  ·  -- 2 2
    have V1_c : Arv Z h0 t1 k1 .byte (2 : Int32) [(.int x0), (.int x1)] (.int (0 : Int32)) := V1_
    have V2_c : Arv Z h0 t2 k2 .byte (2 : Int32) [(.int y0), (.int y1)] (.int (0 : Int32)) := V2_
    show OGo p e below _ (s₁.setTop (mkF m 0 #[.val (.ref a1), .val (.ref a2), .unset, .unset, .unset] []))
    refine OGo.to (fun _ k => XS.aloadN X0.here hx rfl (hb hby d7_0) rfl rfl k) ?_
    obtain ⟨T_57, X_57, e_57, st_57⟩ := getF X0 hx hZ hown (host := "") (Or.inl (hw _ (List.mem_of_getElem? (i := 24) rfl))) Via.refl e0 Fv1_ (g := (mkF m 1 #[.val (.ref a1), .val (.ref a2), .unset, .unset, .unset] [(.ref a1)])) rfl rfl (hb hby d7_1)
    refine OGo.to st_57 ?_
    show OGo p e below _ (T_57.setTop (mkF m 4 #[.val (.ref a1), .val (.ref a2), .unset, .unset, .unset] [(.ref t1)]))
    refine OGo.to (fun _ k => XS.astoreN X_57.here hx rfl (hb hby d7_4) rfl rfl (l' := #[.val (.ref a1), .val (.ref a2), .val (.ref t1), .unset, .unset]) rfl k) ?_
    refine OGo.to (fun _ k => XS.aloadN X_57.here hx rfl (hb hby d7_5) rfl rfl k) ?_
    obtain ⟨T_58, X_58, e_58, st_58⟩ := getF X_57 hx hZ hown (host := "") (Or.inl (hw _ (List.mem_of_getElem? (i := 24) rfl))) Via.refl e_57 Fv2_ (g := (mkF m 6 #[.val (.ref a1), .val (.ref a2), .val (.ref t1), .unset, .unset] [(.ref a2)])) rfl rfl (hb hby d7_6)
    refine OGo.to st_58 ?_
    show OGo p e below _ (T_58.setTop (mkF m 9 #[.val (.ref a1), .val (.ref a2), .val (.ref t1), .unset, .unset] [(.ref t2)]))
    refine OGo.to (fun _ k => XS.astoreN X_58.here hx rfl (hb hby d7_9) rfl rfl (l' := #[.val (.ref a1), .val (.ref a2), .val (.ref t1), .val (.ref t2), .unset]) rfl k) ?_
    refine OGo.to (fun _ k => XS.aloadN X_58.here hx rfl (hb hby d7_10) rfl rfl k) ?_
    obtain ⟨cq_59, kq_59, q_59a, q_59b, q_59c⟩ := isOf hZ e_58 E1_
    obtain ⟨_, T_59, Lc_59, X_59, hQ_59, st_59⟩ := own_un X_58 (Q := Qcod Z a1 cs h0 n0) (rc := 0) (rs := 0) (W := fun v B => Steps p.tables e below (T_58.setTop (mkF m 11 #[.val (.ref a1), .val (.ref a2), .val (.ref t1), .val (.ref t2), .unset] [(.ref a1)])) (B.setTop { (mkF m 11 #[.val (.ref a1), .val (.ref a2), .val (.ref t1), .val (.ref t2), .unset] [(.ref a1)]) with pc := 14, stack := v.toList ++ [] })) <| X_58.virtualBack hx (y := (⟨"java/lang/String", "coder", "()B"⟩ : MethodName)) (z := (⟨"java/lang/String", "coder", "()B"⟩ : MethodName)) hown (mvT hZ (hw _ (List.mem_of_getElem? (i := 41) rfl))) (mvT hZ (hw _ (List.mem_of_getElem? (i := 42) rfl))) (notFace_of_selects (args := #[]) (mvT hZ (hw _ (List.mem_of_getElem? (i := 44) rfl)))) (mvT hZ (hw _ (List.mem_of_getElem? (i := 44) rfl))) (mvT hZ (hw _ (List.mem_of_getElem? (i := 43) rfl))) (by decide) (backOf (W := 0) (rmcod l Z a0 hw [] a1 cs h0 n0 Z0 SC O0 (hcs) Fc1_) hZ (hw _ (List.mem_of_getElem? (i := 45) rfl)) (hw _ (List.mem_of_getElem? (i := 6) rfl)) (by decide) (by decide)) q_59a q_59c (g := (mkF m 11 #[.val (.ref a1), .val (.ref a2), .val (.ref t1), .val (.ref t2), .unset] [(.ref a1)])) rfl (by rw [hml]; rfl) (Steps.refl _) (argsL := []) (rest := []) (lenOf pd_13 rfl) rfl (by show 2 * 0 + _ ≤ _; exact Nat.le_of_eq rfl) (hb hby d7_11) (fun _ _ => ⟨rfl, e_58, (by decide : 0 + 0 ≤ _), (by decide : 0 + 0 ≤ _)⟩)
    obtain ⟨rfl, N_59q, e_59⟩ := hQ_59
    have N_59 := Fr.app N0 N_59q
    refine OGo.to (fun _ k => st_59.trans k) ?_
    show OGo p e below _ (T_59.setTop (mkF m 14 #[.val (.ref a1), .val (.ref a2), .val (.ref t1), .val (.ref t2), .unset] [(.int (0 : Int32))]))
    refine OGo.to (fun _ k => XS.istore X_59.here hx rfl (hb hby d7_14) rfl (l' := #[.val (.ref a1), .val (.ref a2), .val (.ref t1), .val (.ref t2), .val (.int (0 : Int32))]) rfl k) ?_
    refine OGo.to (fun _ k => XS.iload X_59.here hx rfl (hb hby d7_16) rfl k) ?_
    refine OGo.to (fun _ k => XS.aloadN X_59.here hx rfl (hb hby d7_18) rfl rfl k) ?_
    obtain ⟨cq_60, kq_60, q_60a, q_60b, q_60c⟩ := isOf hZ e_59 E2_
    obtain ⟨_, T_60, Lc_60, X_60, hQ_60, st_60⟩ := own_un X_59 (Q := Qcod Z a2 cs h0 n0) (rc := 0) (rs := 0) (W := fun v B => Steps p.tables e below (T_59.setTop (mkF m 19 #[.val (.ref a1), .val (.ref a2), .val (.ref t1), .val (.ref t2), .val (.int (0 : Int32))] [(.ref a2), (.int (0 : Int32))])) (B.setTop { (mkF m 19 #[.val (.ref a1), .val (.ref a2), .val (.ref t1), .val (.ref t2), .val (.int (0 : Int32))] [(.ref a2), (.int (0 : Int32))]) with pc := 22, stack := v.toList ++ [(.int (0 : Int32))] })) <| X_59.virtualBack hx (y := (⟨"java/lang/String", "coder", "()B"⟩ : MethodName)) (z := (⟨"java/lang/String", "coder", "()B"⟩ : MethodName)) hown (mvT hZ (hw _ (List.mem_of_getElem? (i := 41) rfl))) (mvT hZ (hw _ (List.mem_of_getElem? (i := 42) rfl))) (notFace_of_selects (args := #[]) (mvT hZ (hw _ (List.mem_of_getElem? (i := 44) rfl)))) (mvT hZ (hw _ (List.mem_of_getElem? (i := 44) rfl))) (mvT hZ (hw _ (List.mem_of_getElem? (i := 43) rfl))) (by decide) (backOf (W := 1) (rmcod l Z a0 hw [] a2 cs h0 n0 Z0 SC O0 (hcs) Fc2_) hZ (hw _ (List.mem_of_getElem? (i := 45) rfl)) (hw _ (List.mem_of_getElem? (i := 6) rfl)) (by decide) (by decide)) q_60a q_60c (g := (mkF m 19 #[.val (.ref a1), .val (.ref a2), .val (.ref t1), .val (.ref t2), .val (.int (0 : Int32))] [(.ref a2), (.int (0 : Int32))])) rfl (by rw [hml]; rfl) (Steps.refl _) (argsL := []) (rest := [(.int (0 : Int32))]) (lenOf pd_13 rfl) rfl (by show 2 * 0 + _ ≤ _; exact Nat.le_of_eq rfl) (hb hby d7_19) (fun _ _ => ⟨rfl, e_59, (by decide : 0 + 0 ≤ _), (by decide : 0 + 0 ≤ _)⟩)
    obtain ⟨rfl, N_60q, e_60⟩ := hQ_60
    have N_60 := Fr.app N_59 N_60q
    refine OGo.to (fun _ k => st_60.trans k) ?_
    show OGo p e below _ (T_60.setTop (mkF m 22 #[.val (.ref a1), .val (.ref a2), .val (.ref t1), .val (.ref t2), .val (.int (0 : Int32))] [(.int (0 : Int32)), (.int (0 : Int32))]))
    have hc22__61 : (0 : Int32) = (0 : Int32) := by decide
    refine OGo.to (fun _ k => XS.icmpNo X_60.here hx rfl (hb hby d7_22) rfl (teq hc22__61).2 k) ?_
    show OGo p e below _ (T_60.setTop (mkF m 25 #[.val (.ref a1), .val (.ref a2), .val (.ref t1), .val (.ref t2), .val (.int (0 : Int32))] []))
    refine OGo.to (fun _ k => XS.iload X_60.here hx rfl (hb hby d7_25) rfl k) ?_
    show OGo p e below _ (T_60.setTop (mkF m 27 #[.val (.ref a1), .val (.ref a2), .val (.ref t1), .val (.ref t2), .val (.int (0 : Int32))] [(.int (0 : Int32))]))
    have hc27__62 : (0 : Int32) = (0 : Int32) := by decide
    refine OGo.to (fun _ k => XS.ifNo X_60.here hx rfl (hb hby d7_27) rfl ((if0 _ _).trans (teq hc27__62).2) k) ?_
    show OGo p e below _ (T_60.setTop (mkF m 30 #[.val (.ref a1), .val (.ref a2), .val (.ref t1), .val (.ref t2), .val (.int (0 : Int32))] []))
    refine OGo.to (fun _ k => XS.aloadN X_60.here hx rfl (hb hby d7_30) rfl rfl k) ?_
    refine OGo.to (fun _ k => XS.aloadN X_60.here hx rfl (hb hby d7_31) rfl rfl k) ?_
    obtain ⟨_, T_63, Lc_63, X_63, hQ_63, st_63⟩ := own_un X_60 (Q := Qc222 Z t1 t2 k1 k2 x0 x1 y0 y1 h0 n0) (rc := 0) (rs := 0) (W := fun v B => ∀ target, Steps p.tables e below (B.setTop { (mkF m 32 #[.val (.ref a1), .val (.ref a2), .val (.ref t1), .val (.ref t2), .val (.int (0 : Int32))] [(.ref t2), (.ref t1)]) with pc := 35, stack := v.toList ++ [] }) target → Steps p.tables e below (T_60.setTop (mkF m 32 #[.val (.ref a1), .val (.ref a2), .val (.ref t1), .val (.ref t2), .val (.int (0 : Int32))] [(.ref t2), (.ref t1)])) target) <| Jvm.LawKit.callS X_60 hx (y := (⟨"java/lang/StringLatin1", "compareTo", "([B[B)I"⟩ : MethodName)) hown (mvT hZ (hw _ (List.mem_of_getElem? (i := 47) rfl))) (mvT hZ (hw _ (List.mem_of_getElem? (i := 48) rfl))) (mvT hZ (hw _ (List.mem_of_getElem? (i := 49) rfl))) (mvT hZ (hw _ (List.mem_of_getElem? (i := 50) rfl))) (by decide) (backOf (W := 0) (rmc222 l Z a0 hw [] t1 t2 k1 k2 x0 x1 y0 y1 h0 n0 Z0 V1_c V2_c) hZ (hw _ (List.mem_of_getElem? (i := 50) rfl)) (hw _ (List.mem_of_getElem? (i := 49) rfl)) (by decide) (by decide)) (g := (mkF m 32 #[.val (.ref a1), .val (.ref a2), .val (.ref t1), .val (.ref t2), .val (.int (0 : Int32))] [(.ref t2), (.ref t1)])) rfl (by rw [hml]; rfl) (argsL := [(.ref t1), (.ref t2)]) (rest := []) (lenOf pd_14 rfl) rfl (by show 2 * 0 + _ ≤ _; exact Nat.le_of_eq rfl) (hb hby d7_32) (fun _ _ => ⟨rfl, e_60, (by decide : 0 + 0 ≤ _), (by decide : 0 + 0 ≤ _)⟩)
    obtain ⟨rfl, N_63q, e_63⟩ := hQ_63
    have N_63 := Fr.app N_60 N_63q
    refine OGo.to st_63 ?_
    show OGo p e below _ (T_63.setTop (mkF m 35 #[.val (.ref a1), .val (.ref a2), .val (.ref t1), .val (.ref t2), .val (.int (0 : Int32))] [(.int (own_scmp [x0, x1] [y0, y1]))]))
    refine OGo.to (fun _ k => XS.goto X_63.here hx rfl (pc0 := 35) (pc' := 43) rfl (hb hby d7_35) (by decide) (by decide) k) ?_
    refine OGo.ret (Q := Qscmp Z a1 a2 t1 k1 [x0, x1] t2 k2 [y0, y1] cs h0 n0) X_63 (some (.int (own_scmp [x0, x1] [y0, y1]))) (fun h => by rw [Bd.returns] at h; cases h) Bd.notSynchronized (fun fs hr => retI X_63 hx Bd.returns (hb hby d7_43) hr) ?_ (by decide) (by decide)
    show Qscmp Z a1 a2 t1 k1 [x0, x1] t2 k2 [y0, y1] cs h0 n0 _ T_63.heap _
    rw [e_63]
    exact ⟨rfl, N_63, rfl⟩
theorem d14_0 : decode jdk_42_method_66_code 0 = .ok (.aload_n 0, 1) := by decide +kernel
theorem d14_1 : decode jdk_42_method_66_code 1 = .ok (.aload_n 1, 1) := by decide +kernel
theorem d14_2 : decode jdk_42_method_66_code 2 = .ok (.if_acmp .ne 5, 3) := by decide +kernel
theorem d14_5 : decode jdk_42_method_66_code 5 = .ok (.iconst 1, 1) := by decide +kernel
theorem d14_6 : decode jdk_42_method_66_code 6 = .ok (.ireturn, 1) := by decide +kernel
theorem d14_7 : decode jdk_42_method_66_code 7 = .ok (.aload_n 1, 1) := by decide +kernel
theorem d14_8 : decode jdk_42_method_66_code 8 = .ok (.instanceof 10, 3) := by decide +kernel
theorem d14_11 : decode jdk_42_method_66_code 11 = .ok (.ifCond .eq 43, 3) := by decide +kernel
theorem d14_14 : decode jdk_42_method_66_code 14 = .ok (.aload_n 1, 1) := by decide +kernel
theorem d14_15 : decode jdk_42_method_66_code 15 = .ok (.checkcast 10, 3) := by decide +kernel
theorem d14_18 : decode jdk_42_method_66_code 18 = .ok (.astore_n 2, 1) := by decide +kernel
theorem d14_19 : decode jdk_42_method_66_code 19 = .ok (.getstatic 38, 3) := by decide +kernel
theorem d14_22 : decode jdk_42_method_66_code 22 = .ok (.ifCond .eq 14, 3) := by decide +kernel
theorem d14_25 : decode jdk_42_method_66_code 25 = .ok (.aload_n 0, 1) := by decide +kernel
theorem d14_26 : decode jdk_42_method_66_code 26 = .ok (.getfield 15, 3) := by decide +kernel
theorem d14_29 : decode jdk_42_method_66_code 29 = .ok (.aload_n 2, 1) := by decide +kernel
theorem d14_30 : decode jdk_42_method_66_code 30 = .ok (.getfield 15, 3) := by decide +kernel
theorem d14_33 : decode jdk_42_method_66_code 33 = .ok (.if_icmp .ne 21, 3) := by decide +kernel
theorem d14_36 : decode jdk_42_method_66_code 36 = .ok (.aload_n 0, 1) := by decide +kernel
theorem d14_37 : decode jdk_42_method_66_code 37 = .ok (.getfield 9, 3) := by decide +kernel
theorem d14_40 : decode jdk_42_method_66_code 40 = .ok (.aload_n 2, 1) := by decide +kernel
theorem d14_41 : decode jdk_42_method_66_code 41 = .ok (.getfield 9, 3) := by decide +kernel
theorem d14_44 : decode jdk_42_method_66_code 44 = .ok (.invokestatic 541, 3) := by decide +kernel
theorem d14_47 : decode jdk_42_method_66_code 47 = .ok (.ifCond .eq 7, 3) := by decide +kernel
theorem d14_50 : decode jdk_42_method_66_code 50 = .ok (.iconst 1, 1) := by decide +kernel
theorem d14_51 : decode jdk_42_method_66_code 51 = .ok (.goto 4, 3) := by decide +kernel
theorem d14_54 : decode jdk_42_method_66_code 54 = .ok (.iconst 0, 1) := by decide +kernel
theorem d14_55 : decode jdk_42_method_66_code 55 = .ok (.ireturn, 1) := by decide +kernel
theorem ef_seq (m : MethodId) (x0 : Addr) (x1 : Addr) : entryFrame m #[(.ref x0), (.ref x1)] 3 = mkF m 0 #[.val (.ref x0), .val (.ref x1), .unset] [] := by first | (simp [entryFrame, mkF, argsToLocals, Value.category]; done) | rfl
def Qseq (Z : State) (a1 : Addr) (a2 : Addr) (t1 : Addr) (k1 : ClassId) (l1 : List Int32) (t2 : Addr) (k2 : ClassId) (l2 : List Int32) (cs : Int32) (h0 : Heap) (n0 : Nat) (v : Option Value) (h : Heap) (L : List Loc) : Prop := v = some (.int (own_seq l1 l2)) ∧ Fr n0 L ∧ h = h0
set_option maxRecDepth 65536 in
set_option maxHeartbeats 40000000 in
theorem rmseq (l : Launch) (Z : State) (a0 : Array Value) (hw : ∀ d ∈ tables_1, d.before a0 Z = true) (ws : List Jvm.Cond) (a1 : Addr) (a2 : Addr) (t1 : Addr) (k1 : ClassId) (l1 : List Int32) (t2 : Addr) (k2 : ClassId) (l2 : List Int32) (cs : Int32) (h0 : Heap) (n0 : Nat) (Z0 : n0 ≤ h0.size) (E1_ : Exa Z h0 a1 "java/lang/String") (Fc1_ : Fld Z h0 a1 "java/lang/String" "coder" "B" (.int (0 : Int32))) (Fv1_ : Fld Z h0 a1 "java/lang/String" "value" "[B" (.ref t1)) (V1_ : Arv Z h0 t1 k1 .byte (own_i l1.length) (l1.map Value.int) (.int (0 : Int32))) (E2_ : Exa Z h0 a2 "java/lang/String") (Fc2_ : Fld Z h0 a2 "java/lang/String" "coder" "B" (.int (0 : Int32))) (Fv2_ : Fld Z h0 a2 "java/lang/String" "value" "[B" (.ref t2)) (V2_ : Arv Z h0 t2 k2 .byte (own_i l2.length) (l2.map Value.int) (.int (0 : Int32))) (ok1 : own_ok l1) (ok2 : own_ok l2) (SC : Sta Z Z.heap "java/lang/String" "COMPACT_STRINGS" "Z" (.int cs)) (O0 : Old Z n0 h0) (hcs : ¬ (cs = (0 : Int32))) :
    MetFree l (⟨"java/lang/String", "equals", "(Ljava/lang/Object;)Z"⟩ : MethodName) (head1 (Jvm.Cond.code (⟨"java/lang/String", "equals", "(Ljava/lang/Object;)Z"⟩ : MethodName) jdk_42_method_66_code 3 (some .boolean) :: ws) ({ frames := 1, cells := 0, slots := 0, locals := 14 } : Room)) (fun a U => a = #[(.ref a1), (.ref a2)] ∧ Z.Warmed39 U.vm ∧ U.heap = h0) (fun _ _ _ _ _ => True) (fun _ U o U' => ∃ v L, o = .returned v ∧ Qseq Z a1 a2 t1 k1 l1 t2 k2 l2 cs h0 n0 v U'.heap L ∧ FrameEnd U o U' L ({ frames := 1, cells := 0, slots := 0, locals := 14 } : Room).cells ({ frames := 1, cells := 0, slots := 0, locals := 14 } : Room).slots) := by
  refine MetFree.of_bodySF (plainFor_of_name pn_1) hisR ?_
  intro p e s m args below meth c s₁ Bd hml0 hP hK
  obtain ⟨rfl, hZ, hh⟩ := hP
  have hx := Bd.exec
  have hby := Bd.bytes
  have hml : c.maxLocals = 3 := hml0
  have hown : s.vm.findClass "java/lang/String" = some m.cls := findClass_of_methodNamed Bd.named
  have hnm := (name_of_methodNamed Bd.named Bd.method).1
  have X0 : Stand p l e ({ frames := 1, cells := 0, slots := 0, locals := 14 } : Room) s m #[(.ref a1), (.ref a2)] below meth c s₁ [] 0 0 := Stand.of_body Bd
  have e0 : s₁.heap = h0 := by rw [← hh, Bd.state]; rfl
  have N0 := Fr.nil n0
  show OGo p e below (fun s₂ o => ∃ v L, o = .returned v ∧ Qseq Z a1 a2 t1 k1 l1 t2 k2 l2 cs h0 n0 v s₂.heap L ∧ FrameEnd s o s₂ L ({ frames := 1, cells := 0, slots := 0, locals := 14 } : Room).cells ({ frames := 1, cells := 0, slots := 0, locals := 14 } : Room).slots) _
  refine OGo.to (fun _ k => castTop (ef_seq m a1 a2) k) ?_
  refine OGo.to (fun _ k => XS.aloadN X0.here hx rfl (hb hby d14_0) rfl rfl k) ?_
  refine OGo.to (fun _ k => XS.aloadN X0.here hx rfl (hb hby d14_1) rfl rfl k) ?_
  by_cases hsm : a1 = a2
  ·
    refine OGo.to (fun _ k => Jvm.RoadKit.acmp (g := (mkF m 2 #[.val (.ref a1), .val (.ref a2), .unset] [(.ref a2), (.ref a1)])) X0 hx rfl rfl rfl (pc0 := 2) (pc' := 5) (same := true) rfl (hb hby d14_2) rfl (decide_eq_true (congrArg Value.ref hsm)) (by decide) (by decide) k) ?_
    show OGo p e below _ (s₁.setTop (mkF m 5 #[.val (.ref a1), .val (.ref a2), .unset] []))
    refine OGo.to (fun _ k => XS.iconst X0.here hx rfl (hb hby d14_5) k) ?_
    refine OGo.ret (Q := Qseq Z a1 a2 t1 k1 l1 t2 k2 l2 cs h0 n0) X0 (some (.int (1 : Int32))) (fun h => by rw [Bd.returns] at h; cases h) Bd.notSynchronized (fun fs hr => retN X0 hx (t := .boolean) (z := (1 : Int32)) Bd.returns (by simp) (hb hby d14_6) hr) ?_ (by decide) (by decide)
    show Qseq Z a1 a2 t1 k1 l1 t2 k2 l2 cs h0 n0 _ s₁.heap _
    rw [e0]
    exact ⟨congrArg (fun z => some (Value.int z)) (show (1 : Int32) = (own_seq l1 l2) from own_seq_yes (own_same hsm Fv1_ Fv2_ V1_ V2_ ok1 ok2)), N0, rfl⟩
  ·
    rcases own_len2 ok1 with rfl | ⟨x0, rfl⟩ | ⟨x0, x1, rfl⟩ <;> rcases own_len2 ok2 with rfl | ⟨y0, rfl⟩ | ⟨y0, y1, rfl⟩
    ·  -- 0 0
      have V1_c : Arv Z h0 t1 k1 .byte (0 : Int32) [] (.int (0 : Int32)) := V1_
      have V2_c : Arv Z h0 t2 k2 .byte (0 : Int32) [] (.int (0 : Int32)) := V2_
      show OGo p e below _ (s₁.setTop (mkF m 2 #[.val (.ref a1), .val (.ref a2), .unset] [(.ref a2), (.ref a1)]))
      refine OGo.to (fun _ k => Jvm.RoadKit.acmp (g := (mkF m 2 #[.val (.ref a1), .val (.ref a2), .unset] [(.ref a2), (.ref a1)])) X0 hx rfl rfl rfl (pc0 := 2) (pc' := 7) (same := false) rfl (hb hby d14_2) rfl (decide_eq_false fun q => hsm (Value.ref.inj q)) (by decide) (by decide) k) ?_
      show OGo p e below _ (s₁.setTop (mkF m 7 #[.val (.ref a1), .val (.ref a2), .unset] []))
      refine OGo.to (fun _ k => XS.aloadN X0.here hx rfl (hb hby d14_7) rfl rfl k) ?_
      obtain ⟨T_1, X_1, e_1, st_1⟩ := instY X0 hx hZ hown (hw _ (List.mem_of_getElem? (i := 76) rfl)) e0 (Ins.self E2_) (g := (mkF m 8 #[.val (.ref a1), .val (.ref a2), .unset] [(.ref a2)])) rfl rfl (hb hby d14_8)
      refine OGo.to st_1 ?_
      show OGo p e below _ (T_1.setTop (mkF m 11 #[.val (.ref a1), .val (.ref a2), .unset] [(.int (1 : Int32))]))
      have hc11__2 : ¬ ((1 : Int32) = (0 : Int32)) := by decide
      refine OGo.to (fun _ k => XS.ifNo X_1.here hx rfl (hb hby d14_11) rfl ((if0 _ _).trans (feq hc11__2).1) k) ?_
      show OGo p e below _ (T_1.setTop (mkF m 14 #[.val (.ref a1), .val (.ref a2), .unset] []))
      refine OGo.to (fun _ k => XS.aloadN X_1.here hx rfl (hb hby d14_14) rfl rfl k) ?_
      obtain ⟨T_3, X_3, e_3, st_3⟩ := castY X_1 hx hZ hown (hw _ (List.mem_of_getElem? (i := 76) rfl)) e_1 (Ins.self E2_) (g := (mkF m 15 #[.val (.ref a1), .val (.ref a2), .unset] [(.ref a2)])) rfl rfl (hb hby d14_15)
      refine OGo.to st_3 ?_
      show OGo p e below _ (T_3.setTop (mkF m 18 #[.val (.ref a1), .val (.ref a2), .unset] [(.ref a2)]))
      refine OGo.to (fun _ k => XS.astoreN X_3.here hx rfl (hb hby d14_18) rfl rfl (l' := #[.val (.ref a1), .val (.ref a2), .val (.ref a2)]) rfl k) ?_
      have f_4 : Sta Z h0 "java/lang/String" "COMPACT_STRINGS" "Z" (.int cs) := Sta.ext O0.2 SC
      obtain ⟨T_5, X_5, e_5, st_5⟩ := getS2 X_3 hx hZ hown (host := "") (Or.inl (hw _ (List.mem_of_getElem? (i := 46) rfl))) Via.refl e_3 f_4 (g := (mkF m 19 #[.val (.ref a1), .val (.ref a2), .val (.ref a2)] [])) rfl (hb hby d14_19)
      refine OGo.to st_5 ?_
      show OGo p e below _ (T_5.setTop (mkF m 22 #[.val (.ref a1), .val (.ref a2), .val (.ref a2)] [(.int cs)]))
      refine OGo.to (fun _ k => XS.ifNo X_5.here hx rfl (hb hby d14_22) rfl ((if0 _ _).trans (feq hcs).1) k) ?_
      show OGo p e below _ (T_5.setTop (mkF m 25 #[.val (.ref a1), .val (.ref a2), .val (.ref a2)] []))
      refine OGo.to (fun _ k => XS.aloadN X_5.here hx rfl (hb hby d14_25) rfl rfl k) ?_
      obtain ⟨T_7, X_7, e_7, st_7⟩ := getF X_5 hx hZ hown (host := "") (Or.inl (hw _ (List.mem_of_getElem? (i := 25) rfl))) Via.refl e_5 Fc1_ (g := (mkF m 26 #[.val (.ref a1), .val (.ref a2), .val (.ref a2)] [(.ref a1)])) rfl rfl (hb hby d14_26)
      refine OGo.to st_7 ?_
      show OGo p e below _ (T_7.setTop (mkF m 29 #[.val (.ref a1), .val (.ref a2), .val (.ref a2)] [(.int (0 : Int32))]))
      refine OGo.to (fun _ k => XS.aloadN X_7.here hx rfl (hb hby d14_29) rfl rfl k) ?_
      obtain ⟨T_8, X_8, e_8, st_8⟩ := getF X_7 hx hZ hown (host := "") (Or.inl (hw _ (List.mem_of_getElem? (i := 25) rfl))) Via.refl e_7 Fc2_ (g := (mkF m 30 #[.val (.ref a1), .val (.ref a2), .val (.ref a2)] [(.ref a2), (.int (0 : Int32))])) rfl rfl (hb hby d14_30)
      refine OGo.to st_8 ?_
      show OGo p e below _ (T_8.setTop (mkF m 33 #[.val (.ref a1), .val (.ref a2), .val (.ref a2)] [(.int (0 : Int32)), (.int (0 : Int32))]))
      have hc33__9 : (0 : Int32) = (0 : Int32) := by decide
      refine OGo.to (fun _ k => XS.icmpNo X_8.here hx rfl (hb hby d14_33) rfl (teq hc33__9).2 k) ?_
      show OGo p e below _ (T_8.setTop (mkF m 36 #[.val (.ref a1), .val (.ref a2), .val (.ref a2)] []))
      refine OGo.to (fun _ k => XS.aloadN X_8.here hx rfl (hb hby d14_36) rfl rfl k) ?_
      obtain ⟨T_10, X_10, e_10, st_10⟩ := getF X_8 hx hZ hown (host := "") (Or.inl (hw _ (List.mem_of_getElem? (i := 24) rfl))) Via.refl e_8 Fv1_ (g := (mkF m 37 #[.val (.ref a1), .val (.ref a2), .val (.ref a2)] [(.ref a1)])) rfl rfl (hb hby d14_37)
      refine OGo.to st_10 ?_
      show OGo p e below _ (T_10.setTop (mkF m 40 #[.val (.ref a1), .val (.ref a2), .val (.ref a2)] [(.ref t1)]))
      refine OGo.to (fun _ k => XS.aloadN X_10.here hx rfl (hb hby d14_40) rfl rfl k) ?_
      obtain ⟨T_11, X_11, e_11, st_11⟩ := getF X_10 hx hZ hown (host := "") (Or.inl (hw _ (List.mem_of_getElem? (i := 24) rfl))) Via.refl e_10 Fv2_ (g := (mkF m 41 #[.val (.ref a1), .val (.ref a2), .val (.ref a2)] [(.ref a2), (.ref t1)])) rfl rfl (hb hby d14_41)
      refine OGo.to st_11 ?_
      show OGo p e below _ (T_11.setTop (mkF m 44 #[.val (.ref a1), .val (.ref a2), .val (.ref a2)] [(.ref t2), (.ref t1)]))
      obtain ⟨_, T_12, Lc_12, X_12, hQ_12, st_12⟩ := own_un X_11 (Q := Qeq00 Z t1 t2 k1 k2 h0 n0) (rc := 0) (rs := 0) (W := fun v B => ∀ target, Steps p.tables e below (B.setTop { (mkF m 44 #[.val (.ref a1), .val (.ref a2), .val (.ref a2)] [(.ref t2), (.ref t1)]) with pc := 47, stack := v.toList ++ [] }) target → Steps p.tables e below (T_11.setTop (mkF m 44 #[.val (.ref a1), .val (.ref a2), .val (.ref a2)] [(.ref t2), (.ref t1)])) target) <| Jvm.LawKit.callS X_11 hx (y := (⟨"java/lang/StringLatin1", "equals", "([B[B)Z"⟩ : MethodName)) hown (mvT hZ (hw _ (List.mem_of_getElem? (i := 77) rfl))) (mvT hZ (hw _ (List.mem_of_getElem? (i := 78) rfl))) (mvT hZ (hw _ (List.mem_of_getElem? (i := 49) rfl))) (mvT hZ (hw _ (List.mem_of_getElem? (i := 79) rfl))) (by decide) (backOf (W := 0) (rmeq00 l Z a0 hw [] t1 t2 k1 k2 h0 n0 Z0 V1_c V2_c) hZ (hw _ (List.mem_of_getElem? (i := 79) rfl)) (hw _ (List.mem_of_getElem? (i := 49) rfl)) (by decide) (by decide)) (g := (mkF m 44 #[.val (.ref a1), .val (.ref a2), .val (.ref a2)] [(.ref t2), (.ref t1)])) rfl (by rw [hml]; rfl) (argsL := [(.ref t1), (.ref t2)]) (rest := []) (lenOf pd_15 rfl) rfl (by show 2 * 0 + _ ≤ _; exact Nat.le_of_eq rfl) (hb hby d14_44) (fun _ _ => ⟨rfl, e_11, (by decide : 0 + 0 ≤ _), (by decide : 0 + 0 ≤ _)⟩)
      obtain ⟨rfl, N_12q, e_12⟩ := hQ_12
      have N_12 := Fr.app N0 N_12q
      refine OGo.to st_12 ?_
      show OGo p e below _ (T_12.setTop (mkF m 47 #[.val (.ref a1), .val (.ref a2), .val (.ref a2)] [(.int (own_seq [] []))]))
      by_cases hc47__13 : (own_seq [] []) = (0 : Int32)
      ·  -- pc 47: yes
        refine OGo.to (fun _ k => XS.ifYes X_12.here hx rfl (pc0 := 47) (pc' := 54) rfl (hb hby d14_47) rfl ((if0 _ _).trans (teq hc47__13).1) (by decide) (by decide) k) ?_
        show OGo p e below _ (T_12.setTop (mkF m 54 #[.val (.ref a1), .val (.ref a2), .val (.ref a2)] []))
        refine OGo.to (fun _ k => XS.iconst X_12.here hx rfl (hb hby d14_54) k) ?_
        refine OGo.ret (Q := Qseq Z a1 a2 t1 k1 ([] : List Int32) t2 k2 ([] : List Int32) cs h0 n0) X_12 (some (.int (0 : Int32))) (fun h => by rw [Bd.returns] at h; cases h) Bd.notSynchronized (fun fs hr => retN X_12 hx (t := .boolean) (z := (0 : Int32)) Bd.returns (by simp) (hb hby d14_55) hr) ?_ (by decide) (by decide)
        show Qseq Z a1 a2 t1 k1 ([] : List Int32) t2 k2 ([] : List Int32) cs h0 n0 _ T_12.heap _
        rw [e_12]
        exact ⟨congrArg (fun z => some (Value.int z)) (show (0 : Int32) = (own_seq ([] : List Int32) ([] : List Int32)) from hc47__13.symm), N_12, rfl⟩
      ·  -- pc 47: no
        refine OGo.to (fun _ k => XS.ifNo X_12.here hx rfl (hb hby d14_47) rfl ((if0 _ _).trans (feq hc47__13).1) k) ?_
        show OGo p e below _ (T_12.setTop (mkF m 50 #[.val (.ref a1), .val (.ref a2), .val (.ref a2)] []))
        refine OGo.to (fun _ k => XS.iconst X_12.here hx rfl (hb hby d14_50) k) ?_
        refine OGo.to (fun _ k => XS.goto X_12.here hx rfl (pc0 := 51) (pc' := 55) rfl (hb hby d14_51) (by decide) (by decide) k) ?_
        refine OGo.ret (Q := Qseq Z a1 a2 t1 k1 ([] : List Int32) t2 k2 ([] : List Int32) cs h0 n0) X_12 (some (.int (1 : Int32))) (fun h => by rw [Bd.returns] at h; cases h) Bd.notSynchronized (fun fs hr => retN X_12 hx (t := .boolean) (z := (1 : Int32)) Bd.returns (by simp) (hb hby d14_55) hr) ?_ (by decide) (by decide)
        show Qseq Z a1 a2 t1 k1 ([] : List Int32) t2 k2 ([] : List Int32) cs h0 n0 _ T_12.heap _
        rw [e_12]
        exact ⟨congrArg (fun z => some (Value.int z)) (show (1 : Int32) = (own_seq ([] : List Int32) ([] : List Int32)) from own_seq_1 hc47__13), N_12, rfl⟩
    ·  -- 0 1
      have V1_c : Arv Z h0 t1 k1 .byte (0 : Int32) [] (.int (0 : Int32)) := V1_
      have V2_c : Arv Z h0 t2 k2 .byte (1 : Int32) [(.int y0)] (.int (0 : Int32)) := V2_
      show OGo p e below _ (s₁.setTop (mkF m 2 #[.val (.ref a1), .val (.ref a2), .unset] [(.ref a2), (.ref a1)]))
      refine OGo.to (fun _ k => Jvm.RoadKit.acmp (g := (mkF m 2 #[.val (.ref a1), .val (.ref a2), .unset] [(.ref a2), (.ref a1)])) X0 hx rfl rfl rfl (pc0 := 2) (pc' := 7) (same := false) rfl (hb hby d14_2) rfl (decide_eq_false fun q => hsm (Value.ref.inj q)) (by decide) (by decide) k) ?_
      show OGo p e below _ (s₁.setTop (mkF m 7 #[.val (.ref a1), .val (.ref a2), .unset] []))
      refine OGo.to (fun _ k => XS.aloadN X0.here hx rfl (hb hby d14_7) rfl rfl k) ?_
      obtain ⟨T_14, X_14, e_14, st_14⟩ := instY X0 hx hZ hown (hw _ (List.mem_of_getElem? (i := 76) rfl)) e0 (Ins.self E2_) (g := (mkF m 8 #[.val (.ref a1), .val (.ref a2), .unset] [(.ref a2)])) rfl rfl (hb hby d14_8)
      refine OGo.to st_14 ?_
      show OGo p e below _ (T_14.setTop (mkF m 11 #[.val (.ref a1), .val (.ref a2), .unset] [(.int (1 : Int32))]))
      have hc11__15 : ¬ ((1 : Int32) = (0 : Int32)) := by decide
      refine OGo.to (fun _ k => XS.ifNo X_14.here hx rfl (hb hby d14_11) rfl ((if0 _ _).trans (feq hc11__15).1) k) ?_
      show OGo p e below _ (T_14.setTop (mkF m 14 #[.val (.ref a1), .val (.ref a2), .unset] []))
      refine OGo.to (fun _ k => XS.aloadN X_14.here hx rfl (hb hby d14_14) rfl rfl k) ?_
      show OGo p e below _ (T_14.setTop (mkF m 15 #[.val (.ref a1), .val (.ref a2), .unset] [(.ref a2)]))
      obtain ⟨T_16, X_16, e_16, st_16⟩ := castY X_14 hx hZ hown (hw _ (List.mem_of_getElem? (i := 76) rfl)) e_14 (Ins.self E2_) (g := (mkF m 15 #[.val (.ref a1), .val (.ref a2), .unset] [(.ref a2)])) rfl rfl (hb hby d14_15)
      refine OGo.to st_16 ?_
      show OGo p e below _ (T_16.setTop (mkF m 18 #[.val (.ref a1), .val (.ref a2), .unset] [(.ref a2)]))
      refine OGo.to (fun _ k => XS.astoreN X_16.here hx rfl (hb hby d14_18) rfl rfl (l' := #[.val (.ref a1), .val (.ref a2), .val (.ref a2)]) rfl k) ?_
      have f_17 : Sta Z h0 "java/lang/String" "COMPACT_STRINGS" "Z" (.int cs) := Sta.ext O0.2 SC
      obtain ⟨T_18, X_18, e_18, st_18⟩ := getS2 X_16 hx hZ hown (host := "") (Or.inl (hw _ (List.mem_of_getElem? (i := 46) rfl))) Via.refl e_16 f_17 (g := (mkF m 19 #[.val (.ref a1), .val (.ref a2), .val (.ref a2)] [])) rfl (hb hby d14_19)
      refine OGo.to st_18 ?_
      show OGo p e below _ (T_18.setTop (mkF m 22 #[.val (.ref a1), .val (.ref a2), .val (.ref a2)] [(.int cs)]))
      refine OGo.to (fun _ k => XS.ifNo X_18.here hx rfl (hb hby d14_22) rfl ((if0 _ _).trans (feq hcs).1) k) ?_
      show OGo p e below _ (T_18.setTop (mkF m 25 #[.val (.ref a1), .val (.ref a2), .val (.ref a2)] []))
      refine OGo.to (fun _ k => XS.aloadN X_18.here hx rfl (hb hby d14_25) rfl rfl k) ?_
      obtain ⟨T_20, X_20, e_20, st_20⟩ := getF X_18 hx hZ hown (host := "") (Or.inl (hw _ (List.mem_of_getElem? (i := 25) rfl))) Via.refl e_18 Fc1_ (g := (mkF m 26 #[.val (.ref a1), .val (.ref a2), .val (.ref a2)] [(.ref a1)])) rfl rfl (hb hby d14_26)
      refine OGo.to st_20 ?_
      show OGo p e below _ (T_20.setTop (mkF m 29 #[.val (.ref a1), .val (.ref a2), .val (.ref a2)] [(.int (0 : Int32))]))
      refine OGo.to (fun _ k => XS.aloadN X_20.here hx rfl (hb hby d14_29) rfl rfl k) ?_
      obtain ⟨T_21, X_21, e_21, st_21⟩ := getF X_20 hx hZ hown (host := "") (Or.inl (hw _ (List.mem_of_getElem? (i := 25) rfl))) Via.refl e_20 Fc2_ (g := (mkF m 30 #[.val (.ref a1), .val (.ref a2), .val (.ref a2)] [(.ref a2), (.int (0 : Int32))])) rfl rfl (hb hby d14_30)
      refine OGo.to st_21 ?_
      show OGo p e below _ (T_21.setTop (mkF m 33 #[.val (.ref a1), .val (.ref a2), .val (.ref a2)] [(.int (0 : Int32)), (.int (0 : Int32))]))
      have hc33__22 : (0 : Int32) = (0 : Int32) := by decide
      refine OGo.to (fun _ k => XS.icmpNo X_21.here hx rfl (hb hby d14_33) rfl (teq hc33__22).2 k) ?_
      show OGo p e below _ (T_21.setTop (mkF m 36 #[.val (.ref a1), .val (.ref a2), .val (.ref a2)] []))
      refine OGo.to (fun _ k => XS.aloadN X_21.here hx rfl (hb hby d14_36) rfl rfl k) ?_
      obtain ⟨T_23, X_23, e_23, st_23⟩ := getF X_21 hx hZ hown (host := "") (Or.inl (hw _ (List.mem_of_getElem? (i := 24) rfl))) Via.refl e_21 Fv1_ (g := (mkF m 37 #[.val (.ref a1), .val (.ref a2), .val (.ref a2)] [(.ref a1)])) rfl rfl (hb hby d14_37)
      refine OGo.to st_23 ?_
      show OGo p e below _ (T_23.setTop (mkF m 40 #[.val (.ref a1), .val (.ref a2), .val (.ref a2)] [(.ref t1)]))
      refine OGo.to (fun _ k => XS.aloadN X_23.here hx rfl (hb hby d14_40) rfl rfl k) ?_
      obtain ⟨T_24, X_24, e_24, st_24⟩ := getF X_23 hx hZ hown (host := "") (Or.inl (hw _ (List.mem_of_getElem? (i := 24) rfl))) Via.refl e_23 Fv2_ (g := (mkF m 41 #[.val (.ref a1), .val (.ref a2), .val (.ref a2)] [(.ref a2), (.ref t1)])) rfl rfl (hb hby d14_41)
      refine OGo.to st_24 ?_
      show OGo p e below _ (T_24.setTop (mkF m 44 #[.val (.ref a1), .val (.ref a2), .val (.ref a2)] [(.ref t2), (.ref t1)]))
      obtain ⟨_, T_25, Lc_25, X_25, hQ_25, st_25⟩ := own_un X_24 (Q := Qeq01 Z t1 t2 k1 k2 y0 h0 n0) (rc := 0) (rs := 0) (W := fun v B => ∀ target, Steps p.tables e below (B.setTop { (mkF m 44 #[.val (.ref a1), .val (.ref a2), .val (.ref a2)] [(.ref t2), (.ref t1)]) with pc := 47, stack := v.toList ++ [] }) target → Steps p.tables e below (T_24.setTop (mkF m 44 #[.val (.ref a1), .val (.ref a2), .val (.ref a2)] [(.ref t2), (.ref t1)])) target) <| Jvm.LawKit.callS X_24 hx (y := (⟨"java/lang/StringLatin1", "equals", "([B[B)Z"⟩ : MethodName)) hown (mvT hZ (hw _ (List.mem_of_getElem? (i := 77) rfl))) (mvT hZ (hw _ (List.mem_of_getElem? (i := 78) rfl))) (mvT hZ (hw _ (List.mem_of_getElem? (i := 49) rfl))) (mvT hZ (hw _ (List.mem_of_getElem? (i := 79) rfl))) (by decide) (backOf (W := 0) (rmeq01 l Z a0 hw [] t1 t2 k1 k2 y0 h0 n0 Z0 V1_c V2_c) hZ (hw _ (List.mem_of_getElem? (i := 79) rfl)) (hw _ (List.mem_of_getElem? (i := 49) rfl)) (by decide) (by decide)) (g := (mkF m 44 #[.val (.ref a1), .val (.ref a2), .val (.ref a2)] [(.ref t2), (.ref t1)])) rfl (by rw [hml]; rfl) (argsL := [(.ref t1), (.ref t2)]) (rest := []) (lenOf pd_15 rfl) rfl (by show 2 * 0 + _ ≤ _; exact Nat.le_of_eq rfl) (hb hby d14_44) (fun _ _ => ⟨rfl, e_24, (by decide : 0 + 0 ≤ _), (by decide : 0 + 0 ≤ _)⟩)
      obtain ⟨rfl, N_25q, e_25⟩ := hQ_25
      have N_25 := Fr.app N0 N_25q
      refine OGo.to st_25 ?_
      show OGo p e below _ (T_25.setTop (mkF m 47 #[.val (.ref a1), .val (.ref a2), .val (.ref a2)] [(.int (own_seq [] [y0]))]))
      by_cases hc47__26 : (own_seq [] [y0]) = (0 : Int32)
      ·  -- pc 47: yes
        refine OGo.to (fun _ k => XS.ifYes X_25.here hx rfl (pc0 := 47) (pc' := 54) rfl (hb hby d14_47) rfl ((if0 _ _).trans (teq hc47__26).1) (by decide) (by decide) k) ?_
        show OGo p e below _ (T_25.setTop (mkF m 54 #[.val (.ref a1), .val (.ref a2), .val (.ref a2)] []))
        refine OGo.to (fun _ k => XS.iconst X_25.here hx rfl (hb hby d14_54) k) ?_
        refine OGo.ret (Q := Qseq Z a1 a2 t1 k1 ([] : List Int32) t2 k2 [y0] cs h0 n0) X_25 (some (.int (0 : Int32))) (fun h => by rw [Bd.returns] at h; cases h) Bd.notSynchronized (fun fs hr => retN X_25 hx (t := .boolean) (z := (0 : Int32)) Bd.returns (by simp) (hb hby d14_55) hr) ?_ (by decide) (by decide)
        show Qseq Z a1 a2 t1 k1 ([] : List Int32) t2 k2 [y0] cs h0 n0 _ T_25.heap _
        rw [e_25]
        exact ⟨congrArg (fun z => some (Value.int z)) (show (0 : Int32) = (own_seq ([] : List Int32) [y0]) from hc47__26.symm), N_25, rfl⟩
      ·  -- pc 47: no
        refine OGo.to (fun _ k => XS.ifNo X_25.here hx rfl (hb hby d14_47) rfl ((if0 _ _).trans (feq hc47__26).1) k) ?_
        show OGo p e below _ (T_25.setTop (mkF m 50 #[.val (.ref a1), .val (.ref a2), .val (.ref a2)] []))
        refine OGo.to (fun _ k => XS.iconst X_25.here hx rfl (hb hby d14_50) k) ?_
        refine OGo.to (fun _ k => XS.goto X_25.here hx rfl (pc0 := 51) (pc' := 55) rfl (hb hby d14_51) (by decide) (by decide) k) ?_
        refine OGo.ret (Q := Qseq Z a1 a2 t1 k1 ([] : List Int32) t2 k2 [y0] cs h0 n0) X_25 (some (.int (1 : Int32))) (fun h => by rw [Bd.returns] at h; cases h) Bd.notSynchronized (fun fs hr => retN X_25 hx (t := .boolean) (z := (1 : Int32)) Bd.returns (by simp) (hb hby d14_55) hr) ?_ (by decide) (by decide)
        show Qseq Z a1 a2 t1 k1 ([] : List Int32) t2 k2 [y0] cs h0 n0 _ T_25.heap _
        rw [e_25]
        exact ⟨congrArg (fun z => some (Value.int z)) (show (1 : Int32) = (own_seq ([] : List Int32) [y0]) from own_seq_1 hc47__26), N_25, rfl⟩
    ·  -- 0 2
      have V1_c : Arv Z h0 t1 k1 .byte (0 : Int32) [] (.int (0 : Int32)) := V1_
      have V2_c : Arv Z h0 t2 k2 .byte (2 : Int32) [(.int y0), (.int y1)] (.int (0 : Int32)) := V2_
      show OGo p e below _ (s₁.setTop (mkF m 2 #[.val (.ref a1), .val (.ref a2), .unset] [(.ref a2), (.ref a1)]))
      refine OGo.to (fun _ k => Jvm.RoadKit.acmp (g := (mkF m 2 #[.val (.ref a1), .val (.ref a2), .unset] [(.ref a2), (.ref a1)])) X0 hx rfl rfl rfl (pc0 := 2) (pc' := 7) (same := false) rfl (hb hby d14_2) rfl (decide_eq_false fun q => hsm (Value.ref.inj q)) (by decide) (by decide) k) ?_
      show OGo p e below _ (s₁.setTop (mkF m 7 #[.val (.ref a1), .val (.ref a2), .unset] []))
      refine OGo.to (fun _ k => XS.aloadN X0.here hx rfl (hb hby d14_7) rfl rfl k) ?_
      obtain ⟨T_27, X_27, e_27, st_27⟩ := instY X0 hx hZ hown (hw _ (List.mem_of_getElem? (i := 76) rfl)) e0 (Ins.self E2_) (g := (mkF m 8 #[.val (.ref a1), .val (.ref a2), .unset] [(.ref a2)])) rfl rfl (hb hby d14_8)
      refine OGo.to st_27 ?_
      show OGo p e below _ (T_27.setTop (mkF m 11 #[.val (.ref a1), .val (.ref a2), .unset] [(.int (1 : Int32))]))
      have hc11__28 : ¬ ((1 : Int32) = (0 : Int32)) := by decide
      refine OGo.to (fun _ k => XS.ifNo X_27.here hx rfl (hb hby d14_11) rfl ((if0 _ _).trans (feq hc11__28).1) k) ?_
      show OGo p e below _ (T_27.setTop (mkF m 14 #[.val (.ref a1), .val (.ref a2), .unset] []))
      refine OGo.to (fun _ k => XS.aloadN X_27.here hx rfl (hb hby d14_14) rfl rfl k) ?_
      obtain ⟨T_29, X_29, e_29, st_29⟩ := castY X_27 hx hZ hown (hw _ (List.mem_of_getElem? (i := 76) rfl)) e_27 (Ins.self E2_) (g := (mkF m 15 #[.val (.ref a1), .val (.ref a2), .unset] [(.ref a2)])) rfl rfl (hb hby d14_15)
      refine OGo.to st_29 ?_
      show OGo p e below _ (T_29.setTop (mkF m 18 #[.val (.ref a1), .val (.ref a2), .unset] [(.ref a2)]))
      refine OGo.to (fun _ k => XS.astoreN X_29.here hx rfl (hb hby d14_18) rfl rfl (l' := #[.val (.ref a1), .val (.ref a2), .val (.ref a2)]) rfl k) ?_
      have f_30 : Sta Z h0 "java/lang/String" "COMPACT_STRINGS" "Z" (.int cs) := Sta.ext O0.2 SC
      obtain ⟨T_31, X_31, e_31, st_31⟩ := getS2 X_29 hx hZ hown (host := "") (Or.inl (hw _ (List.mem_of_getElem? (i := 46) rfl))) Via.refl e_29 f_30 (g := (mkF m 19 #[.val (.ref a1), .val (.ref a2), .val (.ref a2)] [])) rfl (hb hby d14_19)
      refine OGo.to st_31 ?_
      show OGo p e below _ (T_31.setTop (mkF m 22 #[.val (.ref a1), .val (.ref a2), .val (.ref a2)] [(.int cs)]))
      refine OGo.to (fun _ k => XS.ifNo X_31.here hx rfl (hb hby d14_22) rfl ((if0 _ _).trans (feq hcs).1) k) ?_
      show OGo p e below _ (T_31.setTop (mkF m 25 #[.val (.ref a1), .val (.ref a2), .val (.ref a2)] []))
      refine OGo.to (fun _ k => XS.aloadN X_31.here hx rfl (hb hby d14_25) rfl rfl k) ?_
      obtain ⟨T_33, X_33, e_33, st_33⟩ := getF X_31 hx hZ hown (host := "") (Or.inl (hw _ (List.mem_of_getElem? (i := 25) rfl))) Via.refl e_31 Fc1_ (g := (mkF m 26 #[.val (.ref a1), .val (.ref a2), .val (.ref a2)] [(.ref a1)])) rfl rfl (hb hby d14_26)
      refine OGo.to st_33 ?_
      show OGo p e below _ (T_33.setTop (mkF m 29 #[.val (.ref a1), .val (.ref a2), .val (.ref a2)] [(.int (0 : Int32))]))
      refine OGo.to (fun _ k => XS.aloadN X_33.here hx rfl (hb hby d14_29) rfl rfl k) ?_
      obtain ⟨T_34, X_34, e_34, st_34⟩ := getF X_33 hx hZ hown (host := "") (Or.inl (hw _ (List.mem_of_getElem? (i := 25) rfl))) Via.refl e_33 Fc2_ (g := (mkF m 30 #[.val (.ref a1), .val (.ref a2), .val (.ref a2)] [(.ref a2), (.int (0 : Int32))])) rfl rfl (hb hby d14_30)
      refine OGo.to st_34 ?_
      show OGo p e below _ (T_34.setTop (mkF m 33 #[.val (.ref a1), .val (.ref a2), .val (.ref a2)] [(.int (0 : Int32)), (.int (0 : Int32))]))
      have hc33__35 : (0 : Int32) = (0 : Int32) := by decide
      refine OGo.to (fun _ k => XS.icmpNo X_34.here hx rfl (hb hby d14_33) rfl (teq hc33__35).2 k) ?_
      show OGo p e below _ (T_34.setTop (mkF m 36 #[.val (.ref a1), .val (.ref a2), .val (.ref a2)] []))
      refine OGo.to (fun _ k => XS.aloadN X_34.here hx rfl (hb hby d14_36) rfl rfl k) ?_
      obtain ⟨T_36, X_36, e_36, st_36⟩ := getF X_34 hx hZ hown (host := "") (Or.inl (hw _ (List.mem_of_getElem? (i := 24) rfl))) Via.refl e_34 Fv1_ (g := (mkF m 37 #[.val (.ref a1), .val (.ref a2), .val (.ref a2)] [(.ref a1)])) rfl rfl (hb hby d14_37)
      refine OGo.to st_36 ?_
      show OGo p e below _ (T_36.setTop (mkF m 40 #[.val (.ref a1), .val (.ref a2), .val (.ref a2)] [(.ref t1)]))
      refine OGo.to (fun _ k => XS.aloadN X_36.here hx rfl (hb hby d14_40) rfl rfl k) ?_
      show OGo p e below _ (T_36.setTop (mkF m 41 #[.val (.ref a1), .val (.ref a2), .val (.ref a2)] [(.ref a2), (.ref t1)]))
      obtain ⟨T_37, X_37, e_37, st_37⟩ := getF X_36 hx hZ hown (host := "") (Or.inl (hw _ (List.mem_of_getElem? (i := 24) rfl))) Via.refl e_36 Fv2_ (g := (mkF m 41 #[.val (.ref a1), .val (.ref a2), .val (.ref a2)] [(.ref a2), (.ref t1)])) rfl rfl (hb hby d14_41)
      refine OGo.to st_37 ?_
      show OGo p e below _ (T_37.setTop (mkF m 44 #[.val (.ref a1), .val (.ref a2), .val (.ref a2)] [(.ref t2), (.ref t1)]))
      obtain ⟨_, T_38, Lc_38, X_38, hQ_38, st_38⟩ := own_un X_37 (Q := Qeq02 Z t1 t2 k1 k2 y0 y1 h0 n0) (rc := 0) (rs := 0) (W := fun v B => ∀ target, Steps p.tables e below (B.setTop { (mkF m 44 #[.val (.ref a1), .val (.ref a2), .val (.ref a2)] [(.ref t2), (.ref t1)]) with pc := 47, stack := v.toList ++ [] }) target → Steps p.tables e below (T_37.setTop (mkF m 44 #[.val (.ref a1), .val (.ref a2), .val (.ref a2)] [(.ref t2), (.ref t1)])) target) <| Jvm.LawKit.callS X_37 hx (y := (⟨"java/lang/StringLatin1", "equals", "([B[B)Z"⟩ : MethodName)) hown (mvT hZ (hw _ (List.mem_of_getElem? (i := 77) rfl))) (mvT hZ (hw _ (List.mem_of_getElem? (i := 78) rfl))) (mvT hZ (hw _ (List.mem_of_getElem? (i := 49) rfl))) (mvT hZ (hw _ (List.mem_of_getElem? (i := 79) rfl))) (by decide) (backOf (W := 0) (rmeq02 l Z a0 hw [] t1 t2 k1 k2 y0 y1 h0 n0 Z0 V1_c V2_c) hZ (hw _ (List.mem_of_getElem? (i := 79) rfl)) (hw _ (List.mem_of_getElem? (i := 49) rfl)) (by decide) (by decide)) (g := (mkF m 44 #[.val (.ref a1), .val (.ref a2), .val (.ref a2)] [(.ref t2), (.ref t1)])) rfl (by rw [hml]; rfl) (argsL := [(.ref t1), (.ref t2)]) (rest := []) (lenOf pd_15 rfl) rfl (by show 2 * 0 + _ ≤ _; exact Nat.le_of_eq rfl) (hb hby d14_44) (fun _ _ => ⟨rfl, e_37, (by decide : 0 + 0 ≤ _), (by decide : 0 + 0 ≤ _)⟩)
      obtain ⟨rfl, N_38q, e_38⟩ := hQ_38
      have N_38 := Fr.app N0 N_38q
      refine OGo.to st_38 ?_
      show OGo p e below _ (T_38.setTop (mkF m 47 #[.val (.ref a1), .val (.ref a2), .val (.ref a2)] [(.int (own_seq [] [y0, y1]))]))
      by_cases hc47__39 : (own_seq [] [y0, y1]) = (0 : Int32)
      ·  -- pc 47: yes
        refine OGo.to (fun _ k => XS.ifYes X_38.here hx rfl (pc0 := 47) (pc' := 54) rfl (hb hby d14_47) rfl ((if0 _ _).trans (teq hc47__39).1) (by decide) (by decide) k) ?_
        show OGo p e below _ (T_38.setTop (mkF m 54 #[.val (.ref a1), .val (.ref a2), .val (.ref a2)] []))
        refine OGo.to (fun _ k => XS.iconst X_38.here hx rfl (hb hby d14_54) k) ?_
        refine OGo.ret (Q := Qseq Z a1 a2 t1 k1 ([] : List Int32) t2 k2 [y0, y1] cs h0 n0) X_38 (some (.int (0 : Int32))) (fun h => by rw [Bd.returns] at h; cases h) Bd.notSynchronized (fun fs hr => retN X_38 hx (t := .boolean) (z := (0 : Int32)) Bd.returns (by simp) (hb hby d14_55) hr) ?_ (by decide) (by decide)
        show Qseq Z a1 a2 t1 k1 ([] : List Int32) t2 k2 [y0, y1] cs h0 n0 _ T_38.heap _
        rw [e_38]
        exact ⟨congrArg (fun z => some (Value.int z)) (show (0 : Int32) = (own_seq ([] : List Int32) [y0, y1]) from hc47__39.symm), N_38, rfl⟩
      ·  -- pc 47: no
        refine OGo.to (fun _ k => XS.ifNo X_38.here hx rfl (hb hby d14_47) rfl ((if0 _ _).trans (feq hc47__39).1) k) ?_
        show OGo p e below _ (T_38.setTop (mkF m 50 #[.val (.ref a1), .val (.ref a2), .val (.ref a2)] []))
        refine OGo.to (fun _ k => XS.iconst X_38.here hx rfl (hb hby d14_50) k) ?_
        refine OGo.to (fun _ k => XS.goto X_38.here hx rfl (pc0 := 51) (pc' := 55) rfl (hb hby d14_51) (by decide) (by decide) k) ?_
        refine OGo.ret (Q := Qseq Z a1 a2 t1 k1 ([] : List Int32) t2 k2 [y0, y1] cs h0 n0) X_38 (some (.int (1 : Int32))) (fun h => by rw [Bd.returns] at h; cases h) Bd.notSynchronized (fun fs hr => retN X_38 hx (t := .boolean) (z := (1 : Int32)) Bd.returns (by simp) (hb hby d14_55) hr) ?_ (by decide) (by decide)
        show Qseq Z a1 a2 t1 k1 ([] : List Int32) t2 k2 [y0, y1] cs h0 n0 _ T_38.heap _
        rw [e_38]
        exact ⟨congrArg (fun z => some (Value.int z)) (show (1 : Int32) = (own_seq ([] : List Int32) [y0, y1]) from own_seq_1 hc47__39), N_38, rfl⟩
    ·  -- 1 0
      have V1_c : Arv Z h0 t1 k1 .byte (1 : Int32) [(.int x0)] (.int (0 : Int32)) := V1_
      have V2_c : Arv Z h0 t2 k2 .byte (0 : Int32) [] (.int (0 : Int32)) := V2_
      show OGo p e below _ (s₁.setTop (mkF m 2 #[.val (.ref a1), .val (.ref a2), .unset] [(.ref a2), (.ref a1)]))
      refine OGo.to (fun _ k => Jvm.RoadKit.acmp (g := (mkF m 2 #[.val (.ref a1), .val (.ref a2), .unset] [(.ref a2), (.ref a1)])) X0 hx rfl rfl rfl (pc0 := 2) (pc' := 7) (same := false) rfl (hb hby d14_2) rfl (decide_eq_false fun q => hsm (Value.ref.inj q)) (by decide) (by decide) k) ?_
      show OGo p e below _ (s₁.setTop (mkF m 7 #[.val (.ref a1), .val (.ref a2), .unset] []))
      refine OGo.to (fun _ k => XS.aloadN X0.here hx rfl (hb hby d14_7) rfl rfl k) ?_
      obtain ⟨T_40, X_40, e_40, st_40⟩ := instY X0 hx hZ hown (hw _ (List.mem_of_getElem? (i := 76) rfl)) e0 (Ins.self E2_) (g := (mkF m 8 #[.val (.ref a1), .val (.ref a2), .unset] [(.ref a2)])) rfl rfl (hb hby d14_8)
      refine OGo.to st_40 ?_
      show OGo p e below _ (T_40.setTop (mkF m 11 #[.val (.ref a1), .val (.ref a2), .unset] [(.int (1 : Int32))]))
      have hc11__41 : ¬ ((1 : Int32) = (0 : Int32)) := by decide
      refine OGo.to (fun _ k => XS.ifNo X_40.here hx rfl (hb hby d14_11) rfl ((if0 _ _).trans (feq hc11__41).1) k) ?_
      show OGo p e below _ (T_40.setTop (mkF m 14 #[.val (.ref a1), .val (.ref a2), .unset] []))
      refine OGo.to (fun _ k => XS.aloadN X_40.here hx rfl (hb hby d14_14) rfl rfl k) ?_
      obtain ⟨T_42, X_42, e_42, st_42⟩ := castY X_40 hx hZ hown (hw _ (List.mem_of_getElem? (i := 76) rfl)) e_40 (Ins.self E2_) (g := (mkF m 15 #[.val (.ref a1), .val (.ref a2), .unset] [(.ref a2)])) rfl rfl (hb hby d14_15)
      refine OGo.to st_42 ?_
      show OGo p e below _ (T_42.setTop (mkF m 18 #[.val (.ref a1), .val (.ref a2), .unset] [(.ref a2)]))
      refine OGo.to (fun _ k => XS.astoreN X_42.here hx rfl (hb hby d14_18) rfl rfl (l' := #[.val (.ref a1), .val (.ref a2), .val (.ref a2)]) rfl k) ?_
      have f_43 : Sta Z h0 "java/lang/String" "COMPACT_STRINGS" "Z" (.int cs) := Sta.ext O0.2 SC
      obtain ⟨T_44, X_44, e_44, st_44⟩ := getS2 X_42 hx hZ hown (host := "") (Or.inl (hw _ (List.mem_of_getElem? (i := 46) rfl))) Via.refl e_42 f_43 (g := (mkF m 19 #[.val (.ref a1), .val (.ref a2), .val (.ref a2)] [])) rfl (hb hby d14_19)
      refine OGo.to st_44 ?_
      show OGo p e below _ (T_44.setTop (mkF m 22 #[.val (.ref a1), .val (.ref a2), .val (.ref a2)] [(.int cs)]))
      refine OGo.to (fun _ k => XS.ifNo X_44.here hx rfl (hb hby d14_22) rfl ((if0 _ _).trans (feq hcs).1) k) ?_
      show OGo p e below _ (T_44.setTop (mkF m 25 #[.val (.ref a1), .val (.ref a2), .val (.ref a2)] []))
      refine OGo.to (fun _ k => XS.aloadN X_44.here hx rfl (hb hby d14_25) rfl rfl k) ?_
      obtain ⟨T_46, X_46, e_46, st_46⟩ := getF X_44 hx hZ hown (host := "") (Or.inl (hw _ (List.mem_of_getElem? (i := 25) rfl))) Via.refl e_44 Fc1_ (g := (mkF m 26 #[.val (.ref a1), .val (.ref a2), .val (.ref a2)] [(.ref a1)])) rfl rfl (hb hby d14_26)
      refine OGo.to st_46 ?_
      show OGo p e below _ (T_46.setTop (mkF m 29 #[.val (.ref a1), .val (.ref a2), .val (.ref a2)] [(.int (0 : Int32))]))
      refine OGo.to (fun _ k => XS.aloadN X_46.here hx rfl (hb hby d14_29) rfl rfl k) ?_
      obtain ⟨T_47, X_47, e_47, st_47⟩ := getF X_46 hx hZ hown (host := "") (Or.inl (hw _ (List.mem_of_getElem? (i := 25) rfl))) Via.refl e_46 Fc2_ (g := (mkF m 30 #[.val (.ref a1), .val (.ref a2), .val (.ref a2)] [(.ref a2), (.int (0 : Int32))])) rfl rfl (hb hby d14_30)
      refine OGo.to st_47 ?_
      show OGo p e below _ (T_47.setTop (mkF m 33 #[.val (.ref a1), .val (.ref a2), .val (.ref a2)] [(.int (0 : Int32)), (.int (0 : Int32))]))
      have hc33__48 : (0 : Int32) = (0 : Int32) := by decide
      refine OGo.to (fun _ k => XS.icmpNo X_47.here hx rfl (hb hby d14_33) rfl (teq hc33__48).2 k) ?_
      show OGo p e below _ (T_47.setTop (mkF m 36 #[.val (.ref a1), .val (.ref a2), .val (.ref a2)] []))
      refine OGo.to (fun _ k => XS.aloadN X_47.here hx rfl (hb hby d14_36) rfl rfl k) ?_
      obtain ⟨T_49, X_49, e_49, st_49⟩ := getF X_47 hx hZ hown (host := "") (Or.inl (hw _ (List.mem_of_getElem? (i := 24) rfl))) Via.refl e_47 Fv1_ (g := (mkF m 37 #[.val (.ref a1), .val (.ref a2), .val (.ref a2)] [(.ref a1)])) rfl rfl (hb hby d14_37)
      refine OGo.to st_49 ?_
      show OGo p e below _ (T_49.setTop (mkF m 40 #[.val (.ref a1), .val (.ref a2), .val (.ref a2)] [(.ref t1)]))
      refine OGo.to (fun _ k => XS.aloadN X_49.here hx rfl (hb hby d14_40) rfl rfl k) ?_
      obtain ⟨T_50, X_50, e_50, st_50⟩ := getF X_49 hx hZ hown (host := "") (Or.inl (hw _ (List.mem_of_getElem? (i := 24) rfl))) Via.refl e_49 Fv2_ (g := (mkF m 41 #[.val (.ref a1), .val (.ref a2), .val (.ref a2)] [(.ref a2), (.ref t1)])) rfl rfl (hb hby d14_41)
      refine OGo.to st_50 ?_
      show OGo p e below _ (T_50.setTop (mkF m 44 #[.val (.ref a1), .val (.ref a2), .val (.ref a2)] [(.ref t2), (.ref t1)]))
      obtain ⟨_, T_51, Lc_51, X_51, hQ_51, st_51⟩ := own_un X_50 (Q := Qeq10 Z t1 t2 k1 k2 x0 h0 n0) (rc := 0) (rs := 0) (W := fun v B => ∀ target, Steps p.tables e below (B.setTop { (mkF m 44 #[.val (.ref a1), .val (.ref a2), .val (.ref a2)] [(.ref t2), (.ref t1)]) with pc := 47, stack := v.toList ++ [] }) target → Steps p.tables e below (T_50.setTop (mkF m 44 #[.val (.ref a1), .val (.ref a2), .val (.ref a2)] [(.ref t2), (.ref t1)])) target) <| Jvm.LawKit.callS X_50 hx (y := (⟨"java/lang/StringLatin1", "equals", "([B[B)Z"⟩ : MethodName)) hown (mvT hZ (hw _ (List.mem_of_getElem? (i := 77) rfl))) (mvT hZ (hw _ (List.mem_of_getElem? (i := 78) rfl))) (mvT hZ (hw _ (List.mem_of_getElem? (i := 49) rfl))) (mvT hZ (hw _ (List.mem_of_getElem? (i := 79) rfl))) (by decide) (backOf (W := 0) (rmeq10 l Z a0 hw [] t1 t2 k1 k2 x0 h0 n0 Z0 V1_c V2_c) hZ (hw _ (List.mem_of_getElem? (i := 79) rfl)) (hw _ (List.mem_of_getElem? (i := 49) rfl)) (by decide) (by decide)) (g := (mkF m 44 #[.val (.ref a1), .val (.ref a2), .val (.ref a2)] [(.ref t2), (.ref t1)])) rfl (by rw [hml]; rfl) (argsL := [(.ref t1), (.ref t2)]) (rest := []) (lenOf pd_15 rfl) rfl (by show 2 * 0 + _ ≤ _; exact Nat.le_of_eq rfl) (hb hby d14_44) (fun _ _ => ⟨rfl, e_50, (by decide : 0 + 0 ≤ _), (by decide : 0 + 0 ≤ _)⟩)
      obtain ⟨rfl, N_51q, e_51⟩ := hQ_51
      have N_51 := Fr.app N0 N_51q
      refine OGo.to st_51 ?_
      show OGo p e below _ (T_51.setTop (mkF m 47 #[.val (.ref a1), .val (.ref a2), .val (.ref a2)] [(.int (own_seq [x0] []))]))
      by_cases hc47__52 : (own_seq [x0] []) = (0 : Int32)
      ·  -- pc 47: yes
        refine OGo.to (fun _ k => XS.ifYes X_51.here hx rfl (pc0 := 47) (pc' := 54) rfl (hb hby d14_47) rfl ((if0 _ _).trans (teq hc47__52).1) (by decide) (by decide) k) ?_
        show OGo p e below _ (T_51.setTop (mkF m 54 #[.val (.ref a1), .val (.ref a2), .val (.ref a2)] []))
        refine OGo.to (fun _ k => XS.iconst X_51.here hx rfl (hb hby d14_54) k) ?_
        refine OGo.ret (Q := Qseq Z a1 a2 t1 k1 [x0] t2 k2 ([] : List Int32) cs h0 n0) X_51 (some (.int (0 : Int32))) (fun h => by rw [Bd.returns] at h; cases h) Bd.notSynchronized (fun fs hr => retN X_51 hx (t := .boolean) (z := (0 : Int32)) Bd.returns (by simp) (hb hby d14_55) hr) ?_ (by decide) (by decide)
        show Qseq Z a1 a2 t1 k1 [x0] t2 k2 ([] : List Int32) cs h0 n0 _ T_51.heap _
        rw [e_51]
        exact ⟨congrArg (fun z => some (Value.int z)) (show (0 : Int32) = (own_seq [x0] ([] : List Int32)) from hc47__52.symm), N_51, rfl⟩
      ·  -- pc 47: no
        refine OGo.to (fun _ k => XS.ifNo X_51.here hx rfl (hb hby d14_47) rfl ((if0 _ _).trans (feq hc47__52).1) k) ?_
        show OGo p e below _ (T_51.setTop (mkF m 50 #[.val (.ref a1), .val (.ref a2), .val (.ref a2)] []))
        refine OGo.to (fun _ k => XS.iconst X_51.here hx rfl (hb hby d14_50) k) ?_
        refine OGo.to (fun _ k => XS.goto X_51.here hx rfl (pc0 := 51) (pc' := 55) rfl (hb hby d14_51) (by decide) (by decide) k) ?_
        refine OGo.ret (Q := Qseq Z a1 a2 t1 k1 [x0] t2 k2 ([] : List Int32) cs h0 n0) X_51 (some (.int (1 : Int32))) (fun h => by rw [Bd.returns] at h; cases h) Bd.notSynchronized (fun fs hr => retN X_51 hx (t := .boolean) (z := (1 : Int32)) Bd.returns (by simp) (hb hby d14_55) hr) ?_ (by decide) (by decide)
        show Qseq Z a1 a2 t1 k1 [x0] t2 k2 ([] : List Int32) cs h0 n0 _ T_51.heap _
        rw [e_51]
        exact ⟨congrArg (fun z => some (Value.int z)) (show (1 : Int32) = (own_seq [x0] ([] : List Int32)) from own_seq_1 hc47__52), N_51, rfl⟩
    ·  -- 1 1
      have V1_c : Arv Z h0 t1 k1 .byte (1 : Int32) [(.int x0)] (.int (0 : Int32)) := V1_
      have V2_c : Arv Z h0 t2 k2 .byte (1 : Int32) [(.int y0)] (.int (0 : Int32)) := V2_
      show OGo p e below _ (s₁.setTop (mkF m 2 #[.val (.ref a1), .val (.ref a2), .unset] [(.ref a2), (.ref a1)]))
      refine OGo.to (fun _ k => Jvm.RoadKit.acmp (g := (mkF m 2 #[.val (.ref a1), .val (.ref a2), .unset] [(.ref a2), (.ref a1)])) X0 hx rfl rfl rfl (pc0 := 2) (pc' := 7) (same := false) rfl (hb hby d14_2) rfl (decide_eq_false fun q => hsm (Value.ref.inj q)) (by decide) (by decide) k) ?_
      show OGo p e below _ (s₁.setTop (mkF m 7 #[.val (.ref a1), .val (.ref a2), .unset] []))
      refine OGo.to (fun _ k => XS.aloadN X0.here hx rfl (hb hby d14_7) rfl rfl k) ?_
      obtain ⟨T_53, X_53, e_53, st_53⟩ := instY X0 hx hZ hown (hw _ (List.mem_of_getElem? (i := 76) rfl)) e0 (Ins.self E2_) (g := (mkF m 8 #[.val (.ref a1), .val (.ref a2), .unset] [(.ref a2)])) rfl rfl (hb hby d14_8)
      refine OGo.to st_53 ?_
      show OGo p e below _ (T_53.setTop (mkF m 11 #[.val (.ref a1), .val (.ref a2), .unset] [(.int (1 : Int32))]))
      have hc11__54 : ¬ ((1 : Int32) = (0 : Int32)) := by decide
      refine OGo.to (fun _ k => XS.ifNo X_53.here hx rfl (hb hby d14_11) rfl ((if0 _ _).trans (feq hc11__54).1) k) ?_
      show OGo p e below _ (T_53.setTop (mkF m 14 #[.val (.ref a1), .val (.ref a2), .unset] []))
      refine OGo.to (fun _ k => XS.aloadN X_53.here hx rfl (hb hby d14_14) rfl rfl k) ?_
      show OGo p e below _ (T_53.setTop (mkF m 15 #[.val (.ref a1), .val (.ref a2), .unset] [(.ref a2)]))
      obtain ⟨T_55, X_55, e_55, st_55⟩ := castY X_53 hx hZ hown (hw _ (List.mem_of_getElem? (i := 76) rfl)) e_53 (Ins.self E2_) (g := (mkF m 15 #[.val (.ref a1), .val (.ref a2), .unset] [(.ref a2)])) rfl rfl (hb hby d14_15)
      refine OGo.to st_55 ?_
      show OGo p e below _ (T_55.setTop (mkF m 18 #[.val (.ref a1), .val (.ref a2), .unset] [(.ref a2)]))
      refine OGo.to (fun _ k => XS.astoreN X_55.here hx rfl (hb hby d14_18) rfl rfl (l' := #[.val (.ref a1), .val (.ref a2), .val (.ref a2)]) rfl k) ?_
      have f_56 : Sta Z h0 "java/lang/String" "COMPACT_STRINGS" "Z" (.int cs) := Sta.ext O0.2 SC
      obtain ⟨T_57, X_57, e_57, st_57⟩ := getS2 X_55 hx hZ hown (host := "") (Or.inl (hw _ (List.mem_of_getElem? (i := 46) rfl))) Via.refl e_55 f_56 (g := (mkF m 19 #[.val (.ref a1), .val (.ref a2), .val (.ref a2)] [])) rfl (hb hby d14_19)
      refine OGo.to st_57 ?_
      show OGo p e below _ (T_57.setTop (mkF m 22 #[.val (.ref a1), .val (.ref a2), .val (.ref a2)] [(.int cs)]))
      refine OGo.to (fun _ k => XS.ifNo X_57.here hx rfl (hb hby d14_22) rfl ((if0 _ _).trans (feq hcs).1) k) ?_
      show OGo p e below _ (T_57.setTop (mkF m 25 #[.val (.ref a1), .val (.ref a2), .val (.ref a2)] []))
      refine OGo.to (fun _ k => XS.aloadN X_57.here hx rfl (hb hby d14_25) rfl rfl k) ?_
      obtain ⟨T_59, X_59, e_59, st_59⟩ := getF X_57 hx hZ hown (host := "") (Or.inl (hw _ (List.mem_of_getElem? (i := 25) rfl))) Via.refl e_57 Fc1_ (g := (mkF m 26 #[.val (.ref a1), .val (.ref a2), .val (.ref a2)] [(.ref a1)])) rfl rfl (hb hby d14_26)
      refine OGo.to st_59 ?_
      show OGo p e below _ (T_59.setTop (mkF m 29 #[.val (.ref a1), .val (.ref a2), .val (.ref a2)] [(.int (0 : Int32))]))
      refine OGo.to (fun _ k => XS.aloadN X_59.here hx rfl (hb hby d14_29) rfl rfl k) ?_
      obtain ⟨T_60, X_60, e_60, st_60⟩ := getF X_59 hx hZ hown (host := "") (Or.inl (hw _ (List.mem_of_getElem? (i := 25) rfl))) Via.refl e_59 Fc2_ (g := (mkF m 30 #[.val (.ref a1), .val (.ref a2), .val (.ref a2)] [(.ref a2), (.int (0 : Int32))])) rfl rfl (hb hby d14_30)
      refine OGo.to st_60 ?_
      show OGo p e below _ (T_60.setTop (mkF m 33 #[.val (.ref a1), .val (.ref a2), .val (.ref a2)] [(.int (0 : Int32)), (.int (0 : Int32))]))
      have hc33__61 : (0 : Int32) = (0 : Int32) := by decide
      refine OGo.to (fun _ k => XS.icmpNo X_60.here hx rfl (hb hby d14_33) rfl (teq hc33__61).2 k) ?_
      show OGo p e below _ (T_60.setTop (mkF m 36 #[.val (.ref a1), .val (.ref a2), .val (.ref a2)] []))
      refine OGo.to (fun _ k => XS.aloadN X_60.here hx rfl (hb hby d14_36) rfl rfl k) ?_
      obtain ⟨T_62, X_62, e_62, st_62⟩ := getF X_60 hx hZ hown (host := "") (Or.inl (hw _ (List.mem_of_getElem? (i := 24) rfl))) Via.refl e_60 Fv1_ (g := (mkF m 37 #[.val (.ref a1), .val (.ref a2), .val (.ref a2)] [(.ref a1)])) rfl rfl (hb hby d14_37)
      refine OGo.to st_62 ?_
      show OGo p e below _ (T_62.setTop (mkF m 40 #[.val (.ref a1), .val (.ref a2), .val (.ref a2)] [(.ref t1)]))
      refine OGo.to (fun _ k => XS.aloadN X_62.here hx rfl (hb hby d14_40) rfl rfl k) ?_
      obtain ⟨T_63, X_63, e_63, st_63⟩ := getF X_62 hx hZ hown (host := "") (Or.inl (hw _ (List.mem_of_getElem? (i := 24) rfl))) Via.refl e_62 Fv2_ (g := (mkF m 41 #[.val (.ref a1), .val (.ref a2), .val (.ref a2)] [(.ref a2), (.ref t1)])) rfl rfl (hb hby d14_41)
      refine OGo.to st_63 ?_
      show OGo p e below _ (T_63.setTop (mkF m 44 #[.val (.ref a1), .val (.ref a2), .val (.ref a2)] [(.ref t2), (.ref t1)]))
      obtain ⟨_, T_64, Lc_64, X_64, hQ_64, st_64⟩ := own_un X_63 (Q := Qeq11 Z t1 t2 k1 k2 x0 y0 h0 n0) (rc := 0) (rs := 0) (W := fun v B => ∀ target, Steps p.tables e below (B.setTop { (mkF m 44 #[.val (.ref a1), .val (.ref a2), .val (.ref a2)] [(.ref t2), (.ref t1)]) with pc := 47, stack := v.toList ++ [] }) target → Steps p.tables e below (T_63.setTop (mkF m 44 #[.val (.ref a1), .val (.ref a2), .val (.ref a2)] [(.ref t2), (.ref t1)])) target) <| Jvm.LawKit.callS X_63 hx (y := (⟨"java/lang/StringLatin1", "equals", "([B[B)Z"⟩ : MethodName)) hown (mvT hZ (hw _ (List.mem_of_getElem? (i := 77) rfl))) (mvT hZ (hw _ (List.mem_of_getElem? (i := 78) rfl))) (mvT hZ (hw _ (List.mem_of_getElem? (i := 49) rfl))) (mvT hZ (hw _ (List.mem_of_getElem? (i := 79) rfl))) (by decide) (backOf (W := 0) (rmeq11 l Z a0 hw [] t1 t2 k1 k2 x0 y0 h0 n0 Z0 V1_c V2_c) hZ (hw _ (List.mem_of_getElem? (i := 79) rfl)) (hw _ (List.mem_of_getElem? (i := 49) rfl)) (by decide) (by decide)) (g := (mkF m 44 #[.val (.ref a1), .val (.ref a2), .val (.ref a2)] [(.ref t2), (.ref t1)])) rfl (by rw [hml]; rfl) (argsL := [(.ref t1), (.ref t2)]) (rest := []) (lenOf pd_15 rfl) rfl (by show 2 * 0 + _ ≤ _; exact Nat.le_of_eq rfl) (hb hby d14_44) (fun _ _ => ⟨rfl, e_63, (by decide : 0 + 0 ≤ _), (by decide : 0 + 0 ≤ _)⟩)
      obtain ⟨rfl, N_64q, e_64⟩ := hQ_64
      have N_64 := Fr.app N0 N_64q
      refine OGo.to st_64 ?_
      show OGo p e below _ (T_64.setTop (mkF m 47 #[.val (.ref a1), .val (.ref a2), .val (.ref a2)] [(.int (own_seq [x0] [y0]))]))
      by_cases hc47__65 : (own_seq [x0] [y0]) = (0 : Int32)
      ·  -- pc 47: yes
        refine OGo.to (fun _ k => XS.ifYes X_64.here hx rfl (pc0 := 47) (pc' := 54) rfl (hb hby d14_47) rfl ((if0 _ _).trans (teq hc47__65).1) (by decide) (by decide) k) ?_
        show OGo p e below _ (T_64.setTop (mkF m 54 #[.val (.ref a1), .val (.ref a2), .val (.ref a2)] []))
        refine OGo.to (fun _ k => XS.iconst X_64.here hx rfl (hb hby d14_54) k) ?_
        refine OGo.ret (Q := Qseq Z a1 a2 t1 k1 [x0] t2 k2 [y0] cs h0 n0) X_64 (some (.int (0 : Int32))) (fun h => by rw [Bd.returns] at h; cases h) Bd.notSynchronized (fun fs hr => retN X_64 hx (t := .boolean) (z := (0 : Int32)) Bd.returns (by simp) (hb hby d14_55) hr) ?_ (by decide) (by decide)
        show Qseq Z a1 a2 t1 k1 [x0] t2 k2 [y0] cs h0 n0 _ T_64.heap _
        rw [e_64]
        exact ⟨congrArg (fun z => some (Value.int z)) (show (0 : Int32) = (own_seq [x0] [y0]) from hc47__65.symm), N_64, rfl⟩
      ·  -- pc 47: no
        refine OGo.to (fun _ k => XS.ifNo X_64.here hx rfl (hb hby d14_47) rfl ((if0 _ _).trans (feq hc47__65).1) k) ?_
        show OGo p e below _ (T_64.setTop (mkF m 50 #[.val (.ref a1), .val (.ref a2), .val (.ref a2)] []))
        refine OGo.to (fun _ k => XS.iconst X_64.here hx rfl (hb hby d14_50) k) ?_
        refine OGo.to (fun _ k => XS.goto X_64.here hx rfl (pc0 := 51) (pc' := 55) rfl (hb hby d14_51) (by decide) (by decide) k) ?_
        refine OGo.ret (Q := Qseq Z a1 a2 t1 k1 [x0] t2 k2 [y0] cs h0 n0) X_64 (some (.int (1 : Int32))) (fun h => by rw [Bd.returns] at h; cases h) Bd.notSynchronized (fun fs hr => retN X_64 hx (t := .boolean) (z := (1 : Int32)) Bd.returns (by simp) (hb hby d14_55) hr) ?_ (by decide) (by decide)
        show Qseq Z a1 a2 t1 k1 [x0] t2 k2 [y0] cs h0 n0 _ T_64.heap _
        rw [e_64]
        exact ⟨congrArg (fun z => some (Value.int z)) (show (1 : Int32) = (own_seq [x0] [y0]) from own_seq_1 hc47__65), N_64, rfl⟩
    ·  -- 1 2
      have V1_c : Arv Z h0 t1 k1 .byte (1 : Int32) [(.int x0)] (.int (0 : Int32)) := V1_
      have V2_c : Arv Z h0 t2 k2 .byte (2 : Int32) [(.int y0), (.int y1)] (.int (0 : Int32)) := V2_
      show OGo p e below _ (s₁.setTop (mkF m 2 #[.val (.ref a1), .val (.ref a2), .unset] [(.ref a2), (.ref a1)]))
      refine OGo.to (fun _ k => Jvm.RoadKit.acmp (g := (mkF m 2 #[.val (.ref a1), .val (.ref a2), .unset] [(.ref a2), (.ref a1)])) X0 hx rfl rfl rfl (pc0 := 2) (pc' := 7) (same := false) rfl (hb hby d14_2) rfl (decide_eq_false fun q => hsm (Value.ref.inj q)) (by decide) (by decide) k) ?_
      show OGo p e below _ (s₁.setTop (mkF m 7 #[.val (.ref a1), .val (.ref a2), .unset] []))
      refine OGo.to (fun _ k => XS.aloadN X0.here hx rfl (hb hby d14_7) rfl rfl k) ?_
      obtain ⟨T_66, X_66, e_66, st_66⟩ := instY X0 hx hZ hown (hw _ (List.mem_of_getElem? (i := 76) rfl)) e0 (Ins.self E2_) (g := (mkF m 8 #[.val (.ref a1), .val (.ref a2), .unset] [(.ref a2)])) rfl rfl (hb hby d14_8)
      refine OGo.to st_66 ?_
      show OGo p e below _ (T_66.setTop (mkF m 11 #[.val (.ref a1), .val (.ref a2), .unset] [(.int (1 : Int32))]))
      have hc11__67 : ¬ ((1 : Int32) = (0 : Int32)) := by decide
      refine OGo.to (fun _ k => XS.ifNo X_66.here hx rfl (hb hby d14_11) rfl ((if0 _ _).trans (feq hc11__67).1) k) ?_
      show OGo p e below _ (T_66.setTop (mkF m 14 #[.val (.ref a1), .val (.ref a2), .unset] []))
      refine OGo.to (fun _ k => XS.aloadN X_66.here hx rfl (hb hby d14_14) rfl rfl k) ?_
      obtain ⟨T_68, X_68, e_68, st_68⟩ := castY X_66 hx hZ hown (hw _ (List.mem_of_getElem? (i := 76) rfl)) e_66 (Ins.self E2_) (g := (mkF m 15 #[.val (.ref a1), .val (.ref a2), .unset] [(.ref a2)])) rfl rfl (hb hby d14_15)
      refine OGo.to st_68 ?_
      show OGo p e below _ (T_68.setTop (mkF m 18 #[.val (.ref a1), .val (.ref a2), .unset] [(.ref a2)]))
      refine OGo.to (fun _ k => XS.astoreN X_68.here hx rfl (hb hby d14_18) rfl rfl (l' := #[.val (.ref a1), .val (.ref a2), .val (.ref a2)]) rfl k) ?_
      have f_69 : Sta Z h0 "java/lang/String" "COMPACT_STRINGS" "Z" (.int cs) := Sta.ext O0.2 SC
      obtain ⟨T_70, X_70, e_70, st_70⟩ := getS2 X_68 hx hZ hown (host := "") (Or.inl (hw _ (List.mem_of_getElem? (i := 46) rfl))) Via.refl e_68 f_69 (g := (mkF m 19 #[.val (.ref a1), .val (.ref a2), .val (.ref a2)] [])) rfl (hb hby d14_19)
      refine OGo.to st_70 ?_
      show OGo p e below _ (T_70.setTop (mkF m 22 #[.val (.ref a1), .val (.ref a2), .val (.ref a2)] [(.int cs)]))
      refine OGo.to (fun _ k => XS.ifNo X_70.here hx rfl (hb hby d14_22) rfl ((if0 _ _).trans (feq hcs).1) k) ?_
      show OGo p e below _ (T_70.setTop (mkF m 25 #[.val (.ref a1), .val (.ref a2), .val (.ref a2)] []))
      refine OGo.to (fun _ k => XS.aloadN X_70.here hx rfl (hb hby d14_25) rfl rfl k) ?_
      obtain ⟨T_72, X_72, e_72, st_72⟩ := getF X_70 hx hZ hown (host := "") (Or.inl (hw _ (List.mem_of_getElem? (i := 25) rfl))) Via.refl e_70 Fc1_ (g := (mkF m 26 #[.val (.ref a1), .val (.ref a2), .val (.ref a2)] [(.ref a1)])) rfl rfl (hb hby d14_26)
      refine OGo.to st_72 ?_
      show OGo p e below _ (T_72.setTop (mkF m 29 #[.val (.ref a1), .val (.ref a2), .val (.ref a2)] [(.int (0 : Int32))]))
      refine OGo.to (fun _ k => XS.aloadN X_72.here hx rfl (hb hby d14_29) rfl rfl k) ?_
      obtain ⟨T_73, X_73, e_73, st_73⟩ := getF X_72 hx hZ hown (host := "") (Or.inl (hw _ (List.mem_of_getElem? (i := 25) rfl))) Via.refl e_72 Fc2_ (g := (mkF m 30 #[.val (.ref a1), .val (.ref a2), .val (.ref a2)] [(.ref a2), (.int (0 : Int32))])) rfl rfl (hb hby d14_30)
      refine OGo.to st_73 ?_
      show OGo p e below _ (T_73.setTop (mkF m 33 #[.val (.ref a1), .val (.ref a2), .val (.ref a2)] [(.int (0 : Int32)), (.int (0 : Int32))]))
      have hc33__74 : (0 : Int32) = (0 : Int32) := by decide
      refine OGo.to (fun _ k => XS.icmpNo X_73.here hx rfl (hb hby d14_33) rfl (teq hc33__74).2 k) ?_
      show OGo p e below _ (T_73.setTop (mkF m 36 #[.val (.ref a1), .val (.ref a2), .val (.ref a2)] []))
      refine OGo.to (fun _ k => XS.aloadN X_73.here hx rfl (hb hby d14_36) rfl rfl k) ?_
      obtain ⟨T_75, X_75, e_75, st_75⟩ := getF X_73 hx hZ hown (host := "") (Or.inl (hw _ (List.mem_of_getElem? (i := 24) rfl))) Via.refl e_73 Fv1_ (g := (mkF m 37 #[.val (.ref a1), .val (.ref a2), .val (.ref a2)] [(.ref a1)])) rfl rfl (hb hby d14_37)
      refine OGo.to st_75 ?_
      show OGo p e below _ (T_75.setTop (mkF m 40 #[.val (.ref a1), .val (.ref a2), .val (.ref a2)] [(.ref t1)]))
      refine OGo.to (fun _ k => XS.aloadN X_75.here hx rfl (hb hby d14_40) rfl rfl k) ?_
      show OGo p e below _ (T_75.setTop (mkF m 41 #[.val (.ref a1), .val (.ref a2), .val (.ref a2)] [(.ref a2), (.ref t1)]))
      obtain ⟨T_76, X_76, e_76, st_76⟩ := getF X_75 hx hZ hown (host := "") (Or.inl (hw _ (List.mem_of_getElem? (i := 24) rfl))) Via.refl e_75 Fv2_ (g := (mkF m 41 #[.val (.ref a1), .val (.ref a2), .val (.ref a2)] [(.ref a2), (.ref t1)])) rfl rfl (hb hby d14_41)
      refine OGo.to st_76 ?_
      show OGo p e below _ (T_76.setTop (mkF m 44 #[.val (.ref a1), .val (.ref a2), .val (.ref a2)] [(.ref t2), (.ref t1)]))
      obtain ⟨_, T_77, Lc_77, X_77, hQ_77, st_77⟩ := own_un X_76 (Q := Qeq12 Z t1 t2 k1 k2 x0 y0 y1 h0 n0) (rc := 0) (rs := 0) (W := fun v B => ∀ target, Steps p.tables e below (B.setTop { (mkF m 44 #[.val (.ref a1), .val (.ref a2), .val (.ref a2)] [(.ref t2), (.ref t1)]) with pc := 47, stack := v.toList ++ [] }) target → Steps p.tables e below (T_76.setTop (mkF m 44 #[.val (.ref a1), .val (.ref a2), .val (.ref a2)] [(.ref t2), (.ref t1)])) target) <| Jvm.LawKit.callS X_76 hx (y := (⟨"java/lang/StringLatin1", "equals", "([B[B)Z"⟩ : MethodName)) hown (mvT hZ (hw _ (List.mem_of_getElem? (i := 77) rfl))) (mvT hZ (hw _ (List.mem_of_getElem? (i := 78) rfl))) (mvT hZ (hw _ (List.mem_of_getElem? (i := 49) rfl))) (mvT hZ (hw _ (List.mem_of_getElem? (i := 79) rfl))) (by decide) (backOf (W := 0) (rmeq12 l Z a0 hw [] t1 t2 k1 k2 x0 y0 y1 h0 n0 Z0 V1_c V2_c) hZ (hw _ (List.mem_of_getElem? (i := 79) rfl)) (hw _ (List.mem_of_getElem? (i := 49) rfl)) (by decide) (by decide)) (g := (mkF m 44 #[.val (.ref a1), .val (.ref a2), .val (.ref a2)] [(.ref t2), (.ref t1)])) rfl (by rw [hml]; rfl) (argsL := [(.ref t1), (.ref t2)]) (rest := []) (lenOf pd_15 rfl) rfl (by show 2 * 0 + _ ≤ _; exact Nat.le_of_eq rfl) (hb hby d14_44) (fun _ _ => ⟨rfl, e_76, (by decide : 0 + 0 ≤ _), (by decide : 0 + 0 ≤ _)⟩)
      obtain ⟨rfl, N_77q, e_77⟩ := hQ_77
      have N_77 := Fr.app N0 N_77q
      refine OGo.to st_77 ?_
      show OGo p e below _ (T_77.setTop (mkF m 47 #[.val (.ref a1), .val (.ref a2), .val (.ref a2)] [(.int (own_seq [x0] [y0, y1]))]))
      by_cases hc47__78 : (own_seq [x0] [y0, y1]) = (0 : Int32)
      ·  -- pc 47: yes
        refine OGo.to (fun _ k => XS.ifYes X_77.here hx rfl (pc0 := 47) (pc' := 54) rfl (hb hby d14_47) rfl ((if0 _ _).trans (teq hc47__78).1) (by decide) (by decide) k) ?_
        show OGo p e below _ (T_77.setTop (mkF m 54 #[.val (.ref a1), .val (.ref a2), .val (.ref a2)] []))
        refine OGo.to (fun _ k => XS.iconst X_77.here hx rfl (hb hby d14_54) k) ?_
        refine OGo.ret (Q := Qseq Z a1 a2 t1 k1 [x0] t2 k2 [y0, y1] cs h0 n0) X_77 (some (.int (0 : Int32))) (fun h => by rw [Bd.returns] at h; cases h) Bd.notSynchronized (fun fs hr => retN X_77 hx (t := .boolean) (z := (0 : Int32)) Bd.returns (by simp) (hb hby d14_55) hr) ?_ (by decide) (by decide)
        show Qseq Z a1 a2 t1 k1 [x0] t2 k2 [y0, y1] cs h0 n0 _ T_77.heap _
        rw [e_77]
        exact ⟨congrArg (fun z => some (Value.int z)) (show (0 : Int32) = (own_seq [x0] [y0, y1]) from hc47__78.symm), N_77, rfl⟩
      ·  -- pc 47: no
        refine OGo.to (fun _ k => XS.ifNo X_77.here hx rfl (hb hby d14_47) rfl ((if0 _ _).trans (feq hc47__78).1) k) ?_
        show OGo p e below _ (T_77.setTop (mkF m 50 #[.val (.ref a1), .val (.ref a2), .val (.ref a2)] []))
        refine OGo.to (fun _ k => XS.iconst X_77.here hx rfl (hb hby d14_50) k) ?_
        refine OGo.to (fun _ k => XS.goto X_77.here hx rfl (pc0 := 51) (pc' := 55) rfl (hb hby d14_51) (by decide) (by decide) k) ?_
        refine OGo.ret (Q := Qseq Z a1 a2 t1 k1 [x0] t2 k2 [y0, y1] cs h0 n0) X_77 (some (.int (1 : Int32))) (fun h => by rw [Bd.returns] at h; cases h) Bd.notSynchronized (fun fs hr => retN X_77 hx (t := .boolean) (z := (1 : Int32)) Bd.returns (by simp) (hb hby d14_55) hr) ?_ (by decide) (by decide)
        show Qseq Z a1 a2 t1 k1 [x0] t2 k2 [y0, y1] cs h0 n0 _ T_77.heap _
        rw [e_77]
        exact ⟨congrArg (fun z => some (Value.int z)) (show (1 : Int32) = (own_seq [x0] [y0, y1]) from own_seq_1 hc47__78), N_77, rfl⟩
    ·  -- 2 0
      have V1_c : Arv Z h0 t1 k1 .byte (2 : Int32) [(.int x0), (.int x1)] (.int (0 : Int32)) := V1_
      have V2_c : Arv Z h0 t2 k2 .byte (0 : Int32) [] (.int (0 : Int32)) := V2_
      show OGo p e below _ (s₁.setTop (mkF m 2 #[.val (.ref a1), .val (.ref a2), .unset] [(.ref a2), (.ref a1)]))
      refine OGo.to (fun _ k => Jvm.RoadKit.acmp (g := (mkF m 2 #[.val (.ref a1), .val (.ref a2), .unset] [(.ref a2), (.ref a1)])) X0 hx rfl rfl rfl (pc0 := 2) (pc' := 7) (same := false) rfl (hb hby d14_2) rfl (decide_eq_false fun q => hsm (Value.ref.inj q)) (by decide) (by decide) k) ?_
      show OGo p e below _ (s₁.setTop (mkF m 7 #[.val (.ref a1), .val (.ref a2), .unset] []))
      refine OGo.to (fun _ k => XS.aloadN X0.here hx rfl (hb hby d14_7) rfl rfl k) ?_
      obtain ⟨T_79, X_79, e_79, st_79⟩ := instY X0 hx hZ hown (hw _ (List.mem_of_getElem? (i := 76) rfl)) e0 (Ins.self E2_) (g := (mkF m 8 #[.val (.ref a1), .val (.ref a2), .unset] [(.ref a2)])) rfl rfl (hb hby d14_8)
      refine OGo.to st_79 ?_
      show OGo p e below _ (T_79.setTop (mkF m 11 #[.val (.ref a1), .val (.ref a2), .unset] [(.int (1 : Int32))]))
      have hc11__80 : ¬ ((1 : Int32) = (0 : Int32)) := by decide
      refine OGo.to (fun _ k => XS.ifNo X_79.here hx rfl (hb hby d14_11) rfl ((if0 _ _).trans (feq hc11__80).1) k) ?_
      show OGo p e below _ (T_79.setTop (mkF m 14 #[.val (.ref a1), .val (.ref a2), .unset] []))
      refine OGo.to (fun _ k => XS.aloadN X_79.here hx rfl (hb hby d14_14) rfl rfl k) ?_
      obtain ⟨T_81, X_81, e_81, st_81⟩ := castY X_79 hx hZ hown (hw _ (List.mem_of_getElem? (i := 76) rfl)) e_79 (Ins.self E2_) (g := (mkF m 15 #[.val (.ref a1), .val (.ref a2), .unset] [(.ref a2)])) rfl rfl (hb hby d14_15)
      refine OGo.to st_81 ?_
      show OGo p e below _ (T_81.setTop (mkF m 18 #[.val (.ref a1), .val (.ref a2), .unset] [(.ref a2)]))
      refine OGo.to (fun _ k => XS.astoreN X_81.here hx rfl (hb hby d14_18) rfl rfl (l' := #[.val (.ref a1), .val (.ref a2), .val (.ref a2)]) rfl k) ?_
      have f_82 : Sta Z h0 "java/lang/String" "COMPACT_STRINGS" "Z" (.int cs) := Sta.ext O0.2 SC
      obtain ⟨T_83, X_83, e_83, st_83⟩ := getS2 X_81 hx hZ hown (host := "") (Or.inl (hw _ (List.mem_of_getElem? (i := 46) rfl))) Via.refl e_81 f_82 (g := (mkF m 19 #[.val (.ref a1), .val (.ref a2), .val (.ref a2)] [])) rfl (hb hby d14_19)
      refine OGo.to st_83 ?_
      show OGo p e below _ (T_83.setTop (mkF m 22 #[.val (.ref a1), .val (.ref a2), .val (.ref a2)] [(.int cs)]))
      refine OGo.to (fun _ k => XS.ifNo X_83.here hx rfl (hb hby d14_22) rfl ((if0 _ _).trans (feq hcs).1) k) ?_
      show OGo p e below _ (T_83.setTop (mkF m 25 #[.val (.ref a1), .val (.ref a2), .val (.ref a2)] []))
      refine OGo.to (fun _ k => XS.aloadN X_83.here hx rfl (hb hby d14_25) rfl rfl k) ?_
      obtain ⟨T_85, X_85, e_85, st_85⟩ := getF X_83 hx hZ hown (host := "") (Or.inl (hw _ (List.mem_of_getElem? (i := 25) rfl))) Via.refl e_83 Fc1_ (g := (mkF m 26 #[.val (.ref a1), .val (.ref a2), .val (.ref a2)] [(.ref a1)])) rfl rfl (hb hby d14_26)
      refine OGo.to st_85 ?_
      show OGo p e below _ (T_85.setTop (mkF m 29 #[.val (.ref a1), .val (.ref a2), .val (.ref a2)] [(.int (0 : Int32))]))
      refine OGo.to (fun _ k => XS.aloadN X_85.here hx rfl (hb hby d14_29) rfl rfl k) ?_
      obtain ⟨T_86, X_86, e_86, st_86⟩ := getF X_85 hx hZ hown (host := "") (Or.inl (hw _ (List.mem_of_getElem? (i := 25) rfl))) Via.refl e_85 Fc2_ (g := (mkF m 30 #[.val (.ref a1), .val (.ref a2), .val (.ref a2)] [(.ref a2), (.int (0 : Int32))])) rfl rfl (hb hby d14_30)
      refine OGo.to st_86 ?_
      show OGo p e below _ (T_86.setTop (mkF m 33 #[.val (.ref a1), .val (.ref a2), .val (.ref a2)] [(.int (0 : Int32)), (.int (0 : Int32))]))
      have hc33__87 : (0 : Int32) = (0 : Int32) := by decide
      refine OGo.to (fun _ k => XS.icmpNo X_86.here hx rfl (hb hby d14_33) rfl (teq hc33__87).2 k) ?_
      show OGo p e below _ (T_86.setTop (mkF m 36 #[.val (.ref a1), .val (.ref a2), .val (.ref a2)] []))
      refine OGo.to (fun _ k => XS.aloadN X_86.here hx rfl (hb hby d14_36) rfl rfl k) ?_
      obtain ⟨T_88, X_88, e_88, st_88⟩ := getF X_86 hx hZ hown (host := "") (Or.inl (hw _ (List.mem_of_getElem? (i := 24) rfl))) Via.refl e_86 Fv1_ (g := (mkF m 37 #[.val (.ref a1), .val (.ref a2), .val (.ref a2)] [(.ref a1)])) rfl rfl (hb hby d14_37)
      refine OGo.to st_88 ?_
      show OGo p e below _ (T_88.setTop (mkF m 40 #[.val (.ref a1), .val (.ref a2), .val (.ref a2)] [(.ref t1)]))
      refine OGo.to (fun _ k => XS.aloadN X_88.here hx rfl (hb hby d14_40) rfl rfl k) ?_
      obtain ⟨T_89, X_89, e_89, st_89⟩ := getF X_88 hx hZ hown (host := "") (Or.inl (hw _ (List.mem_of_getElem? (i := 24) rfl))) Via.refl e_88 Fv2_ (g := (mkF m 41 #[.val (.ref a1), .val (.ref a2), .val (.ref a2)] [(.ref a2), (.ref t1)])) rfl rfl (hb hby d14_41)
      refine OGo.to st_89 ?_
      show OGo p e below _ (T_89.setTop (mkF m 44 #[.val (.ref a1), .val (.ref a2), .val (.ref a2)] [(.ref t2), (.ref t1)]))
      obtain ⟨_, T_90, Lc_90, X_90, hQ_90, st_90⟩ := own_un X_89 (Q := Qeq20 Z t1 t2 k1 k2 x0 x1 h0 n0) (rc := 0) (rs := 0) (W := fun v B => ∀ target, Steps p.tables e below (B.setTop { (mkF m 44 #[.val (.ref a1), .val (.ref a2), .val (.ref a2)] [(.ref t2), (.ref t1)]) with pc := 47, stack := v.toList ++ [] }) target → Steps p.tables e below (T_89.setTop (mkF m 44 #[.val (.ref a1), .val (.ref a2), .val (.ref a2)] [(.ref t2), (.ref t1)])) target) <| Jvm.LawKit.callS X_89 hx (y := (⟨"java/lang/StringLatin1", "equals", "([B[B)Z"⟩ : MethodName)) hown (mvT hZ (hw _ (List.mem_of_getElem? (i := 77) rfl))) (mvT hZ (hw _ (List.mem_of_getElem? (i := 78) rfl))) (mvT hZ (hw _ (List.mem_of_getElem? (i := 49) rfl))) (mvT hZ (hw _ (List.mem_of_getElem? (i := 79) rfl))) (by decide) (backOf (W := 0) (rmeq20 l Z a0 hw [] t1 t2 k1 k2 x0 x1 h0 n0 Z0 V1_c V2_c) hZ (hw _ (List.mem_of_getElem? (i := 79) rfl)) (hw _ (List.mem_of_getElem? (i := 49) rfl)) (by decide) (by decide)) (g := (mkF m 44 #[.val (.ref a1), .val (.ref a2), .val (.ref a2)] [(.ref t2), (.ref t1)])) rfl (by rw [hml]; rfl) (argsL := [(.ref t1), (.ref t2)]) (rest := []) (lenOf pd_15 rfl) rfl (by show 2 * 0 + _ ≤ _; exact Nat.le_of_eq rfl) (hb hby d14_44) (fun _ _ => ⟨rfl, e_89, (by decide : 0 + 0 ≤ _), (by decide : 0 + 0 ≤ _)⟩)
      obtain ⟨rfl, N_90q, e_90⟩ := hQ_90
      have N_90 := Fr.app N0 N_90q
      refine OGo.to st_90 ?_
      show OGo p e below _ (T_90.setTop (mkF m 47 #[.val (.ref a1), .val (.ref a2), .val (.ref a2)] [(.int (own_seq [x0, x1] []))]))
      by_cases hc47__91 : (own_seq [x0, x1] []) = (0 : Int32)
      ·  -- pc 47: yes
        refine OGo.to (fun _ k => XS.ifYes X_90.here hx rfl (pc0 := 47) (pc' := 54) rfl (hb hby d14_47) rfl ((if0 _ _).trans (teq hc47__91).1) (by decide) (by decide) k) ?_
        show OGo p e below _ (T_90.setTop (mkF m 54 #[.val (.ref a1), .val (.ref a2), .val (.ref a2)] []))
        refine OGo.to (fun _ k => XS.iconst X_90.here hx rfl (hb hby d14_54) k) ?_
        refine OGo.ret (Q := Qseq Z a1 a2 t1 k1 [x0, x1] t2 k2 ([] : List Int32) cs h0 n0) X_90 (some (.int (0 : Int32))) (fun h => by rw [Bd.returns] at h; cases h) Bd.notSynchronized (fun fs hr => retN X_90 hx (t := .boolean) (z := (0 : Int32)) Bd.returns (by simp) (hb hby d14_55) hr) ?_ (by decide) (by decide)
        show Qseq Z a1 a2 t1 k1 [x0, x1] t2 k2 ([] : List Int32) cs h0 n0 _ T_90.heap _
        rw [e_90]
        exact ⟨congrArg (fun z => some (Value.int z)) (show (0 : Int32) = (own_seq [x0, x1] ([] : List Int32)) from hc47__91.symm), N_90, rfl⟩
      ·  -- pc 47: no
        refine OGo.to (fun _ k => XS.ifNo X_90.here hx rfl (hb hby d14_47) rfl ((if0 _ _).trans (feq hc47__91).1) k) ?_
        show OGo p e below _ (T_90.setTop (mkF m 50 #[.val (.ref a1), .val (.ref a2), .val (.ref a2)] []))
        refine OGo.to (fun _ k => XS.iconst X_90.here hx rfl (hb hby d14_50) k) ?_
        refine OGo.to (fun _ k => XS.goto X_90.here hx rfl (pc0 := 51) (pc' := 55) rfl (hb hby d14_51) (by decide) (by decide) k) ?_
        refine OGo.ret (Q := Qseq Z a1 a2 t1 k1 [x0, x1] t2 k2 ([] : List Int32) cs h0 n0) X_90 (some (.int (1 : Int32))) (fun h => by rw [Bd.returns] at h; cases h) Bd.notSynchronized (fun fs hr => retN X_90 hx (t := .boolean) (z := (1 : Int32)) Bd.returns (by simp) (hb hby d14_55) hr) ?_ (by decide) (by decide)
        show Qseq Z a1 a2 t1 k1 [x0, x1] t2 k2 ([] : List Int32) cs h0 n0 _ T_90.heap _
        rw [e_90]
        exact ⟨congrArg (fun z => some (Value.int z)) (show (1 : Int32) = (own_seq [x0, x1] ([] : List Int32)) from own_seq_1 hc47__91), N_90, rfl⟩
    ·  -- 2 1
      have V1_c : Arv Z h0 t1 k1 .byte (2 : Int32) [(.int x0), (.int x1)] (.int (0 : Int32)) := V1_
      have V2_c : Arv Z h0 t2 k2 .byte (1 : Int32) [(.int y0)] (.int (0 : Int32)) := V2_
      show OGo p e below _ (s₁.setTop (mkF m 2 #[.val (.ref a1), .val (.ref a2), .unset] [(.ref a2), (.ref a1)]))
      refine OGo.to (fun _ k => Jvm.RoadKit.acmp (g := (mkF m 2 #[.val (.ref a1), .val (.ref a2), .unset] [(.ref a2), (.ref a1)])) X0 hx rfl rfl rfl (pc0 := 2) (pc' := 7) (same := false) rfl (hb hby d14_2) rfl (decide_eq_false fun q => hsm (Value.ref.inj q)) (by decide) (by decide) k) ?_
      show OGo p e below _ (s₁.setTop (mkF m 7 #[.val (.ref a1), .val (.ref a2), .unset] []))
      refine OGo.to (fun _ k => XS.aloadN X0.here hx rfl (hb hby d14_7) rfl rfl k) ?_
      obtain ⟨T_92, X_92, e_92, st_92⟩ := instY X0 hx hZ hown (hw _ (List.mem_of_getElem? (i := 76) rfl)) e0 (Ins.self E2_) (g := (mkF m 8 #[.val (.ref a1), .val (.ref a2), .unset] [(.ref a2)])) rfl rfl (hb hby d14_8)
      refine OGo.to st_92 ?_
      show OGo p e below _ (T_92.setTop (mkF m 11 #[.val (.ref a1), .val (.ref a2), .unset] [(.int (1 : Int32))]))
      have hc11__93 : ¬ ((1 : Int32) = (0 : Int32)) := by decide
      refine OGo.to (fun _ k => XS.ifNo X_92.here hx rfl (hb hby d14_11) rfl ((if0 _ _).trans (feq hc11__93).1) k) ?_
      show OGo p e below _ (T_92.setTop (mkF m 14 #[.val (.ref a1), .val (.ref a2), .unset] []))
      refine OGo.to (fun _ k => XS.aloadN X_92.here hx rfl (hb hby d14_14) rfl rfl k) ?_
      show OGo p e below _ (T_92.setTop (mkF m 15 #[.val (.ref a1), .val (.ref a2), .unset] [(.ref a2)]))
      obtain ⟨T_94, X_94, e_94, st_94⟩ := castY X_92 hx hZ hown (hw _ (List.mem_of_getElem? (i := 76) rfl)) e_92 (Ins.self E2_) (g := (mkF m 15 #[.val (.ref a1), .val (.ref a2), .unset] [(.ref a2)])) rfl rfl (hb hby d14_15)
      refine OGo.to st_94 ?_
      show OGo p e below _ (T_94.setTop (mkF m 18 #[.val (.ref a1), .val (.ref a2), .unset] [(.ref a2)]))
      refine OGo.to (fun _ k => XS.astoreN X_94.here hx rfl (hb hby d14_18) rfl rfl (l' := #[.val (.ref a1), .val (.ref a2), .val (.ref a2)]) rfl k) ?_
      have f_95 : Sta Z h0 "java/lang/String" "COMPACT_STRINGS" "Z" (.int cs) := Sta.ext O0.2 SC
      obtain ⟨T_96, X_96, e_96, st_96⟩ := getS2 X_94 hx hZ hown (host := "") (Or.inl (hw _ (List.mem_of_getElem? (i := 46) rfl))) Via.refl e_94 f_95 (g := (mkF m 19 #[.val (.ref a1), .val (.ref a2), .val (.ref a2)] [])) rfl (hb hby d14_19)
      refine OGo.to st_96 ?_
      show OGo p e below _ (T_96.setTop (mkF m 22 #[.val (.ref a1), .val (.ref a2), .val (.ref a2)] [(.int cs)]))
      refine OGo.to (fun _ k => XS.ifNo X_96.here hx rfl (hb hby d14_22) rfl ((if0 _ _).trans (feq hcs).1) k) ?_
      show OGo p e below _ (T_96.setTop (mkF m 25 #[.val (.ref a1), .val (.ref a2), .val (.ref a2)] []))
      refine OGo.to (fun _ k => XS.aloadN X_96.here hx rfl (hb hby d14_25) rfl rfl k) ?_
      obtain ⟨T_98, X_98, e_98, st_98⟩ := getF X_96 hx hZ hown (host := "") (Or.inl (hw _ (List.mem_of_getElem? (i := 25) rfl))) Via.refl e_96 Fc1_ (g := (mkF m 26 #[.val (.ref a1), .val (.ref a2), .val (.ref a2)] [(.ref a1)])) rfl rfl (hb hby d14_26)
      refine OGo.to st_98 ?_
      show OGo p e below _ (T_98.setTop (mkF m 29 #[.val (.ref a1), .val (.ref a2), .val (.ref a2)] [(.int (0 : Int32))]))
      refine OGo.to (fun _ k => XS.aloadN X_98.here hx rfl (hb hby d14_29) rfl rfl k) ?_
      obtain ⟨T_99, X_99, e_99, st_99⟩ := getF X_98 hx hZ hown (host := "") (Or.inl (hw _ (List.mem_of_getElem? (i := 25) rfl))) Via.refl e_98 Fc2_ (g := (mkF m 30 #[.val (.ref a1), .val (.ref a2), .val (.ref a2)] [(.ref a2), (.int (0 : Int32))])) rfl rfl (hb hby d14_30)
      refine OGo.to st_99 ?_
      show OGo p e below _ (T_99.setTop (mkF m 33 #[.val (.ref a1), .val (.ref a2), .val (.ref a2)] [(.int (0 : Int32)), (.int (0 : Int32))]))
      have hc33__100 : (0 : Int32) = (0 : Int32) := by decide
      refine OGo.to (fun _ k => XS.icmpNo X_99.here hx rfl (hb hby d14_33) rfl (teq hc33__100).2 k) ?_
      show OGo p e below _ (T_99.setTop (mkF m 36 #[.val (.ref a1), .val (.ref a2), .val (.ref a2)] []))
      refine OGo.to (fun _ k => XS.aloadN X_99.here hx rfl (hb hby d14_36) rfl rfl k) ?_
      obtain ⟨T_101, X_101, e_101, st_101⟩ := getF X_99 hx hZ hown (host := "") (Or.inl (hw _ (List.mem_of_getElem? (i := 24) rfl))) Via.refl e_99 Fv1_ (g := (mkF m 37 #[.val (.ref a1), .val (.ref a2), .val (.ref a2)] [(.ref a1)])) rfl rfl (hb hby d14_37)
      refine OGo.to st_101 ?_
      show OGo p e below _ (T_101.setTop (mkF m 40 #[.val (.ref a1), .val (.ref a2), .val (.ref a2)] [(.ref t1)]))
      refine OGo.to (fun _ k => XS.aloadN X_101.here hx rfl (hb hby d14_40) rfl rfl k) ?_
      obtain ⟨T_102, X_102, e_102, st_102⟩ := getF X_101 hx hZ hown (host := "") (Or.inl (hw _ (List.mem_of_getElem? (i := 24) rfl))) Via.refl e_101 Fv2_ (g := (mkF m 41 #[.val (.ref a1), .val (.ref a2), .val (.ref a2)] [(.ref a2), (.ref t1)])) rfl rfl (hb hby d14_41)
      refine OGo.to st_102 ?_
      show OGo p e below _ (T_102.setTop (mkF m 44 #[.val (.ref a1), .val (.ref a2), .val (.ref a2)] [(.ref t2), (.ref t1)]))
      obtain ⟨_, T_103, Lc_103, X_103, hQ_103, st_103⟩ := own_un X_102 (Q := Qeq21 Z t1 t2 k1 k2 x0 x1 y0 h0 n0) (rc := 0) (rs := 0) (W := fun v B => ∀ target, Steps p.tables e below (B.setTop { (mkF m 44 #[.val (.ref a1), .val (.ref a2), .val (.ref a2)] [(.ref t2), (.ref t1)]) with pc := 47, stack := v.toList ++ [] }) target → Steps p.tables e below (T_102.setTop (mkF m 44 #[.val (.ref a1), .val (.ref a2), .val (.ref a2)] [(.ref t2), (.ref t1)])) target) <| Jvm.LawKit.callS X_102 hx (y := (⟨"java/lang/StringLatin1", "equals", "([B[B)Z"⟩ : MethodName)) hown (mvT hZ (hw _ (List.mem_of_getElem? (i := 77) rfl))) (mvT hZ (hw _ (List.mem_of_getElem? (i := 78) rfl))) (mvT hZ (hw _ (List.mem_of_getElem? (i := 49) rfl))) (mvT hZ (hw _ (List.mem_of_getElem? (i := 79) rfl))) (by decide) (backOf (W := 0) (rmeq21 l Z a0 hw [] t1 t2 k1 k2 x0 x1 y0 h0 n0 Z0 V1_c V2_c) hZ (hw _ (List.mem_of_getElem? (i := 79) rfl)) (hw _ (List.mem_of_getElem? (i := 49) rfl)) (by decide) (by decide)) (g := (mkF m 44 #[.val (.ref a1), .val (.ref a2), .val (.ref a2)] [(.ref t2), (.ref t1)])) rfl (by rw [hml]; rfl) (argsL := [(.ref t1), (.ref t2)]) (rest := []) (lenOf pd_15 rfl) rfl (by show 2 * 0 + _ ≤ _; exact Nat.le_of_eq rfl) (hb hby d14_44) (fun _ _ => ⟨rfl, e_102, (by decide : 0 + 0 ≤ _), (by decide : 0 + 0 ≤ _)⟩)
      obtain ⟨rfl, N_103q, e_103⟩ := hQ_103
      have N_103 := Fr.app N0 N_103q
      refine OGo.to st_103 ?_
      show OGo p e below _ (T_103.setTop (mkF m 47 #[.val (.ref a1), .val (.ref a2), .val (.ref a2)] [(.int (own_seq [x0, x1] [y0]))]))
      by_cases hc47__104 : (own_seq [x0, x1] [y0]) = (0 : Int32)
      ·  -- pc 47: yes
        refine OGo.to (fun _ k => XS.ifYes X_103.here hx rfl (pc0 := 47) (pc' := 54) rfl (hb hby d14_47) rfl ((if0 _ _).trans (teq hc47__104).1) (by decide) (by decide) k) ?_
        show OGo p e below _ (T_103.setTop (mkF m 54 #[.val (.ref a1), .val (.ref a2), .val (.ref a2)] []))
        refine OGo.to (fun _ k => XS.iconst X_103.here hx rfl (hb hby d14_54) k) ?_
        refine OGo.ret (Q := Qseq Z a1 a2 t1 k1 [x0, x1] t2 k2 [y0] cs h0 n0) X_103 (some (.int (0 : Int32))) (fun h => by rw [Bd.returns] at h; cases h) Bd.notSynchronized (fun fs hr => retN X_103 hx (t := .boolean) (z := (0 : Int32)) Bd.returns (by simp) (hb hby d14_55) hr) ?_ (by decide) (by decide)
        show Qseq Z a1 a2 t1 k1 [x0, x1] t2 k2 [y0] cs h0 n0 _ T_103.heap _
        rw [e_103]
        exact ⟨congrArg (fun z => some (Value.int z)) (show (0 : Int32) = (own_seq [x0, x1] [y0]) from hc47__104.symm), N_103, rfl⟩
      ·  -- pc 47: no
        refine OGo.to (fun _ k => XS.ifNo X_103.here hx rfl (hb hby d14_47) rfl ((if0 _ _).trans (feq hc47__104).1) k) ?_
        show OGo p e below _ (T_103.setTop (mkF m 50 #[.val (.ref a1), .val (.ref a2), .val (.ref a2)] []))
        refine OGo.to (fun _ k => XS.iconst X_103.here hx rfl (hb hby d14_50) k) ?_
        refine OGo.to (fun _ k => XS.goto X_103.here hx rfl (pc0 := 51) (pc' := 55) rfl (hb hby d14_51) (by decide) (by decide) k) ?_
        refine OGo.ret (Q := Qseq Z a1 a2 t1 k1 [x0, x1] t2 k2 [y0] cs h0 n0) X_103 (some (.int (1 : Int32))) (fun h => by rw [Bd.returns] at h; cases h) Bd.notSynchronized (fun fs hr => retN X_103 hx (t := .boolean) (z := (1 : Int32)) Bd.returns (by simp) (hb hby d14_55) hr) ?_ (by decide) (by decide)
        show Qseq Z a1 a2 t1 k1 [x0, x1] t2 k2 [y0] cs h0 n0 _ T_103.heap _
        rw [e_103]
        exact ⟨congrArg (fun z => some (Value.int z)) (show (1 : Int32) = (own_seq [x0, x1] [y0]) from own_seq_1 hc47__104), N_103, rfl⟩
    ·  -- 2 2
      have V1_c : Arv Z h0 t1 k1 .byte (2 : Int32) [(.int x0), (.int x1)] (.int (0 : Int32)) := V1_
      have V2_c : Arv Z h0 t2 k2 .byte (2 : Int32) [(.int y0), (.int y1)] (.int (0 : Int32)) := V2_
      show OGo p e below _ (s₁.setTop (mkF m 2 #[.val (.ref a1), .val (.ref a2), .unset] [(.ref a2), (.ref a1)]))
      refine OGo.to (fun _ k => Jvm.RoadKit.acmp (g := (mkF m 2 #[.val (.ref a1), .val (.ref a2), .unset] [(.ref a2), (.ref a1)])) X0 hx rfl rfl rfl (pc0 := 2) (pc' := 7) (same := false) rfl (hb hby d14_2) rfl (decide_eq_false fun q => hsm (Value.ref.inj q)) (by decide) (by decide) k) ?_
      show OGo p e below _ (s₁.setTop (mkF m 7 #[.val (.ref a1), .val (.ref a2), .unset] []))
      refine OGo.to (fun _ k => XS.aloadN X0.here hx rfl (hb hby d14_7) rfl rfl k) ?_
      obtain ⟨T_105, X_105, e_105, st_105⟩ := instY X0 hx hZ hown (hw _ (List.mem_of_getElem? (i := 76) rfl)) e0 (Ins.self E2_) (g := (mkF m 8 #[.val (.ref a1), .val (.ref a2), .unset] [(.ref a2)])) rfl rfl (hb hby d14_8)
      refine OGo.to st_105 ?_
      show OGo p e below _ (T_105.setTop (mkF m 11 #[.val (.ref a1), .val (.ref a2), .unset] [(.int (1 : Int32))]))
      have hc11__106 : ¬ ((1 : Int32) = (0 : Int32)) := by decide
      refine OGo.to (fun _ k => XS.ifNo X_105.here hx rfl (hb hby d14_11) rfl ((if0 _ _).trans (feq hc11__106).1) k) ?_
      show OGo p e below _ (T_105.setTop (mkF m 14 #[.val (.ref a1), .val (.ref a2), .unset] []))
      refine OGo.to (fun _ k => XS.aloadN X_105.here hx rfl (hb hby d14_14) rfl rfl k) ?_
      obtain ⟨T_107, X_107, e_107, st_107⟩ := castY X_105 hx hZ hown (hw _ (List.mem_of_getElem? (i := 76) rfl)) e_105 (Ins.self E2_) (g := (mkF m 15 #[.val (.ref a1), .val (.ref a2), .unset] [(.ref a2)])) rfl rfl (hb hby d14_15)
      refine OGo.to st_107 ?_
      show OGo p e below _ (T_107.setTop (mkF m 18 #[.val (.ref a1), .val (.ref a2), .unset] [(.ref a2)]))
      refine OGo.to (fun _ k => XS.astoreN X_107.here hx rfl (hb hby d14_18) rfl rfl (l' := #[.val (.ref a1), .val (.ref a2), .val (.ref a2)]) rfl k) ?_
      have f_108 : Sta Z h0 "java/lang/String" "COMPACT_STRINGS" "Z" (.int cs) := Sta.ext O0.2 SC
      obtain ⟨T_109, X_109, e_109, st_109⟩ := getS2 X_107 hx hZ hown (host := "") (Or.inl (hw _ (List.mem_of_getElem? (i := 46) rfl))) Via.refl e_107 f_108 (g := (mkF m 19 #[.val (.ref a1), .val (.ref a2), .val (.ref a2)] [])) rfl (hb hby d14_19)
      refine OGo.to st_109 ?_
      show OGo p e below _ (T_109.setTop (mkF m 22 #[.val (.ref a1), .val (.ref a2), .val (.ref a2)] [(.int cs)]))
      refine OGo.to (fun _ k => XS.ifNo X_109.here hx rfl (hb hby d14_22) rfl ((if0 _ _).trans (feq hcs).1) k) ?_
      show OGo p e below _ (T_109.setTop (mkF m 25 #[.val (.ref a1), .val (.ref a2), .val (.ref a2)] []))
      refine OGo.to (fun _ k => XS.aloadN X_109.here hx rfl (hb hby d14_25) rfl rfl k) ?_
      obtain ⟨T_111, X_111, e_111, st_111⟩ := getF X_109 hx hZ hown (host := "") (Or.inl (hw _ (List.mem_of_getElem? (i := 25) rfl))) Via.refl e_109 Fc1_ (g := (mkF m 26 #[.val (.ref a1), .val (.ref a2), .val (.ref a2)] [(.ref a1)])) rfl rfl (hb hby d14_26)
      refine OGo.to st_111 ?_
      show OGo p e below _ (T_111.setTop (mkF m 29 #[.val (.ref a1), .val (.ref a2), .val (.ref a2)] [(.int (0 : Int32))]))
      refine OGo.to (fun _ k => XS.aloadN X_111.here hx rfl (hb hby d14_29) rfl rfl k) ?_
      obtain ⟨T_112, X_112, e_112, st_112⟩ := getF X_111 hx hZ hown (host := "") (Or.inl (hw _ (List.mem_of_getElem? (i := 25) rfl))) Via.refl e_111 Fc2_ (g := (mkF m 30 #[.val (.ref a1), .val (.ref a2), .val (.ref a2)] [(.ref a2), (.int (0 : Int32))])) rfl rfl (hb hby d14_30)
      refine OGo.to st_112 ?_
      show OGo p e below _ (T_112.setTop (mkF m 33 #[.val (.ref a1), .val (.ref a2), .val (.ref a2)] [(.int (0 : Int32)), (.int (0 : Int32))]))
      have hc33__113 : (0 : Int32) = (0 : Int32) := by decide
      refine OGo.to (fun _ k => XS.icmpNo X_112.here hx rfl (hb hby d14_33) rfl (teq hc33__113).2 k) ?_
      show OGo p e below _ (T_112.setTop (mkF m 36 #[.val (.ref a1), .val (.ref a2), .val (.ref a2)] []))
      refine OGo.to (fun _ k => XS.aloadN X_112.here hx rfl (hb hby d14_36) rfl rfl k) ?_
      obtain ⟨T_114, X_114, e_114, st_114⟩ := getF X_112 hx hZ hown (host := "") (Or.inl (hw _ (List.mem_of_getElem? (i := 24) rfl))) Via.refl e_112 Fv1_ (g := (mkF m 37 #[.val (.ref a1), .val (.ref a2), .val (.ref a2)] [(.ref a1)])) rfl rfl (hb hby d14_37)
      refine OGo.to st_114 ?_
      show OGo p e below _ (T_114.setTop (mkF m 40 #[.val (.ref a1), .val (.ref a2), .val (.ref a2)] [(.ref t1)]))
      refine OGo.to (fun _ k => XS.aloadN X_114.here hx rfl (hb hby d14_40) rfl rfl k) ?_
      show OGo p e below _ (T_114.setTop (mkF m 41 #[.val (.ref a1), .val (.ref a2), .val (.ref a2)] [(.ref a2), (.ref t1)]))
      obtain ⟨T_115, X_115, e_115, st_115⟩ := getF X_114 hx hZ hown (host := "") (Or.inl (hw _ (List.mem_of_getElem? (i := 24) rfl))) Via.refl e_114 Fv2_ (g := (mkF m 41 #[.val (.ref a1), .val (.ref a2), .val (.ref a2)] [(.ref a2), (.ref t1)])) rfl rfl (hb hby d14_41)
      refine OGo.to st_115 ?_
      show OGo p e below _ (T_115.setTop (mkF m 44 #[.val (.ref a1), .val (.ref a2), .val (.ref a2)] [(.ref t2), (.ref t1)]))
      obtain ⟨_, T_116, Lc_116, X_116, hQ_116, st_116⟩ := own_un X_115 (Q := Qeq22 Z t1 t2 k1 k2 x0 x1 y0 y1 h0 n0) (rc := 0) (rs := 0) (W := fun v B => ∀ target, Steps p.tables e below (B.setTop { (mkF m 44 #[.val (.ref a1), .val (.ref a2), .val (.ref a2)] [(.ref t2), (.ref t1)]) with pc := 47, stack := v.toList ++ [] }) target → Steps p.tables e below (T_115.setTop (mkF m 44 #[.val (.ref a1), .val (.ref a2), .val (.ref a2)] [(.ref t2), (.ref t1)])) target) <| Jvm.LawKit.callS X_115 hx (y := (⟨"java/lang/StringLatin1", "equals", "([B[B)Z"⟩ : MethodName)) hown (mvT hZ (hw _ (List.mem_of_getElem? (i := 77) rfl))) (mvT hZ (hw _ (List.mem_of_getElem? (i := 78) rfl))) (mvT hZ (hw _ (List.mem_of_getElem? (i := 49) rfl))) (mvT hZ (hw _ (List.mem_of_getElem? (i := 79) rfl))) (by decide) (backOf (W := 0) (rmeq22 l Z a0 hw [] t1 t2 k1 k2 x0 x1 y0 y1 h0 n0 Z0 V1_c V2_c) hZ (hw _ (List.mem_of_getElem? (i := 79) rfl)) (hw _ (List.mem_of_getElem? (i := 49) rfl)) (by decide) (by decide)) (g := (mkF m 44 #[.val (.ref a1), .val (.ref a2), .val (.ref a2)] [(.ref t2), (.ref t1)])) rfl (by rw [hml]; rfl) (argsL := [(.ref t1), (.ref t2)]) (rest := []) (lenOf pd_15 rfl) rfl (by show 2 * 0 + _ ≤ _; exact Nat.le_of_eq rfl) (hb hby d14_44) (fun _ _ => ⟨rfl, e_115, (by decide : 0 + 0 ≤ _), (by decide : 0 + 0 ≤ _)⟩)
      obtain ⟨rfl, N_116q, e_116⟩ := hQ_116
      have N_116 := Fr.app N0 N_116q
      refine OGo.to st_116 ?_
      show OGo p e below _ (T_116.setTop (mkF m 47 #[.val (.ref a1), .val (.ref a2), .val (.ref a2)] [(.int (own_seq [x0, x1] [y0, y1]))]))
      by_cases hc47__117 : (own_seq [x0, x1] [y0, y1]) = (0 : Int32)
      ·  -- pc 47: yes
        refine OGo.to (fun _ k => XS.ifYes X_116.here hx rfl (pc0 := 47) (pc' := 54) rfl (hb hby d14_47) rfl ((if0 _ _).trans (teq hc47__117).1) (by decide) (by decide) k) ?_
        show OGo p e below _ (T_116.setTop (mkF m 54 #[.val (.ref a1), .val (.ref a2), .val (.ref a2)] []))
        refine OGo.to (fun _ k => XS.iconst X_116.here hx rfl (hb hby d14_54) k) ?_
        refine OGo.ret (Q := Qseq Z a1 a2 t1 k1 [x0, x1] t2 k2 [y0, y1] cs h0 n0) X_116 (some (.int (0 : Int32))) (fun h => by rw [Bd.returns] at h; cases h) Bd.notSynchronized (fun fs hr => retN X_116 hx (t := .boolean) (z := (0 : Int32)) Bd.returns (by simp) (hb hby d14_55) hr) ?_ (by decide) (by decide)
        show Qseq Z a1 a2 t1 k1 [x0, x1] t2 k2 [y0, y1] cs h0 n0 _ T_116.heap _
        rw [e_116]
        exact ⟨congrArg (fun z => some (Value.int z)) (show (0 : Int32) = (own_seq [x0, x1] [y0, y1]) from hc47__117.symm), N_116, rfl⟩
      ·  -- pc 47: no
        refine OGo.to (fun _ k => XS.ifNo X_116.here hx rfl (hb hby d14_47) rfl ((if0 _ _).trans (feq hc47__117).1) k) ?_
        show OGo p e below _ (T_116.setTop (mkF m 50 #[.val (.ref a1), .val (.ref a2), .val (.ref a2)] []))
        refine OGo.to (fun _ k => XS.iconst X_116.here hx rfl (hb hby d14_50) k) ?_
        refine OGo.to (fun _ k => XS.goto X_116.here hx rfl (pc0 := 51) (pc' := 55) rfl (hb hby d14_51) (by decide) (by decide) k) ?_
        refine OGo.ret (Q := Qseq Z a1 a2 t1 k1 [x0, x1] t2 k2 [y0, y1] cs h0 n0) X_116 (some (.int (1 : Int32))) (fun h => by rw [Bd.returns] at h; cases h) Bd.notSynchronized (fun fs hr => retN X_116 hx (t := .boolean) (z := (1 : Int32)) Bd.returns (by simp) (hb hby d14_55) hr) ?_ (by decide) (by decide)
        show Qseq Z a1 a2 t1 k1 [x0, x1] t2 k2 [y0, y1] cs h0 n0 _ T_116.heap _
        rw [e_116]
        exact ⟨congrArg (fun z => some (Value.int z)) (show (1 : Int32) = (own_seq [x0, x1] [y0, y1]) from own_seq_1 hc47__117), N_116, rfl⟩
theorem d6_0 : decode prog_40_method_1_code 0 = .ok (.aload_n 0, 1) := by decide +kernel
theorem d6_1 : decode prog_40_method_1_code 1 = .ok (.invokespecial 1, 3) := by decide +kernel
theorem d6_4 : decode prog_40_method_1_code 4 = .ok (.aload_n 1, 1) := by decide +kernel
theorem d6_5 : decode prog_40_method_1_code 5 = .ok (.aload_n 2, 1) := by decide +kernel
theorem d6_6 : decode prog_40_method_1_code 6 = .ok (.invokevirtual 7, 3) := by decide +kernel
theorem d6_9 : decode prog_40_method_1_code 9 = .ok (.ifCond .ge 7, 3) := by decide +kernel
theorem d6_12 : decode prog_40_method_1_code 12 = .ok (.iconst 1, 1) := by decide +kernel
theorem d6_13 : decode prog_40_method_1_code 13 = .ok (.goto 4, 3) := by decide +kernel
theorem d6_16 : decode prog_40_method_1_code 16 = .ok (.iconst 0, 1) := by decide +kernel
theorem d6_17 : decode prog_40_method_1_code 17 = .ok (.istore_n 3, 1) := by decide +kernel
theorem d6_18 : decode prog_40_method_1_code 18 = .ok (.aload_n 0, 1) := by decide +kernel
theorem d6_19 : decode prog_40_method_1_code 19 = .ok (.iload_n 3, 1) := by decide +kernel
theorem d6_20 : decode prog_40_method_1_code 20 = .ok (.ifCond .eq 7, 3) := by decide +kernel
theorem d6_23 : decode prog_40_method_1_code 23 = .ok (.aload_n 1, 1) := by decide +kernel
theorem d6_24 : decode prog_40_method_1_code 24 = .ok (.goto 4, 3) := by decide +kernel
theorem d6_27 : decode prog_40_method_1_code 27 = .ok (.aload_n 2, 1) := by decide +kernel
theorem d6_28 : decode prog_40_method_1_code 28 = .ok (.putfield 13, 3) := by decide +kernel
theorem d6_31 : decode prog_40_method_1_code 31 = .ok (.aload_n 0, 1) := by decide +kernel
theorem d6_32 : decode prog_40_method_1_code 32 = .ok (.iload_n 3, 1) := by decide +kernel
theorem d6_33 : decode prog_40_method_1_code 33 = .ok (.ifCond .eq 7, 3) := by decide +kernel
theorem d6_36 : decode prog_40_method_1_code 36 = .ok (.aload_n 2, 1) := by decide +kernel
theorem d6_37 : decode prog_40_method_1_code 37 = .ok (.goto 4, 3) := by decide +kernel
theorem d6_40 : decode prog_40_method_1_code 40 = .ok (.aload_n 1, 1) := by decide +kernel
theorem d6_41 : decode prog_40_method_1_code 41 = .ok (.putfield 19, 3) := by decide +kernel
theorem d6_44 : decode prog_40_method_1_code 44 = .ok (.return_, 1) := by decide +kernel
theorem ef_tp (m : MethodId) (x0 : Addr) (x1 : Addr) (x2 : Addr) : entryFrame m #[(.ref x0), (.ref x1), (.ref x2)] 4 = mkF m 0 #[.val (.ref x0), .val (.ref x1), .val (.ref x2), .unset] [] := by first | (simp [entryFrame, mkF, argsToLocals, Value.category]; done) | rfl
def Qtp (Z : State) (a1 : Addr) (a2 : Addr) (a3 : Addr) (t1 : Addr) (k1 : ClassId) (l1 : List Int32) (t2 : Addr) (k2 : ClassId) (l2 : List Int32) (cs : Int32) (h0 : Heap) (n0 : Nat) (v : Option Value) (h : Heap) (L : List Loc) : Prop := ∃ (f : Addr), ∃ (bf : Addr), ∃ (kf : ClassId), ∃ (s2 : Addr), ∃ (bs : Addr), ∃ (ks : ClassId), v = none ∧ Fr n0 L ∧ Keep h0 h [a1] ∧ Fld Z h a1 "com/example/cogram/cogram/model/TermPair" "first" "Ljava/lang/String;" (.ref f) ∧ Fld Z h a1 "com/example/cogram/cogram/model/TermPair" "second" "Ljava/lang/String;" (.ref s2) ∧ Exa Z h f "java/lang/String" ∧ Fld Z h f "java/lang/String" "coder" "B" (.int (0 : Int32)) ∧ Fld Z h f "java/lang/String" "value" "[B" (.ref bf) ∧ Arv Z h bf kf .byte (own_i (own_fst l1 l2).length) ((own_fst l1 l2).map Value.int) (.int (0 : Int32)) ∧ Exa Z h s2 "java/lang/String" ∧ Fld Z h s2 "java/lang/String" "coder" "B" (.int (0 : Int32)) ∧ Fld Z h s2 "java/lang/String" "value" "[B" (.ref bs) ∧ Arv Z h bs ks .byte (own_i (own_snd l1 l2).length) ((own_snd l1 l2).map Value.int) (.int (0 : Int32))
set_option maxRecDepth 65536 in
set_option maxHeartbeats 40000000 in
theorem rmtp (l : Launch) (Z : State) (a0 : Array Value) (hw : ∀ d ∈ tables_1, d.before a0 Z = true) (ws : List Jvm.Cond) (a1 : Addr) (a2 : Addr) (a3 : Addr) (t1 : Addr) (k1 : ClassId) (l1 : List Int32) (t2 : Addr) (k2 : ClassId) (l2 : List Int32) (cs : Int32) (h0 : Heap) (n0 : Nat) (Z0 : n0 ≤ h0.size) (E1 : Exa Z h0 a1 "com/example/cogram/cogram/model/TermPair") (F1 : Fld Z h0 a1 "com/example/cogram/cogram/model/TermPair" "first" "Ljava/lang/String;" .null) (F2 : Fld Z h0 a1 "com/example/cogram/cogram/model/TermPair" "second" "Ljava/lang/String;" .null) (g1 : n0 ≤ a1) (S1e_ : Exa Z h0 a2 "java/lang/String") (S1c_ : Fld Z h0 a2 "java/lang/String" "coder" "B" (.int (0 : Int32))) (S1v_ : Fld Z h0 a2 "java/lang/String" "value" "[B" (.ref t1)) (S1a_ : Arv Z h0 t1 k1 .byte (own_i l1.length) (l1.map Value.int) (.int (0 : Int32))) (S2e_ : Exa Z h0 a3 "java/lang/String") (S2c_ : Fld Z h0 a3 "java/lang/String" "coder" "B" (.int (0 : Int32))) (S2v_ : Fld Z h0 a3 "java/lang/String" "value" "[B" (.ref t2)) (S2a_ : Arv Z h0 t2 k2 .byte (own_i l2.length) (l2.map Value.int) (.int (0 : Int32))) (ok1 : own_ok l1) (ok2 : own_ok l2) (SC : Sta Z Z.heap "java/lang/String" "COMPACT_STRINGS" "Z" (.int cs)) (O0 : Old Z n0 h0) (hcs : ¬ (cs = (0 : Int32))) (n12 : a1 ≠ a2) (n13 : a1 ≠ a3) (n1t : a1 ≠ t1) (n1u : a1 ≠ t2) :
    MetFree l (⟨"com/example/cogram/cogram/model/TermPair", "<init>", "(Ljava/lang/String;Ljava/lang/String;)V"⟩ : MethodName) (head1 (Jvm.Cond.code (⟨"com/example/cogram/cogram/model/TermPair", "<init>", "(Ljava/lang/String;Ljava/lang/String;)V"⟩ : MethodName) prog_40_method_1_code 4 none :: ws) ({ frames := 4, cells := 0, slots := 0, locals := 63 } : Room)) (fun a U => a = #[(.ref a1), (.ref a2), (.ref a3)] ∧ Z.Warmed39 U.vm ∧ U.heap = h0) (fun _ _ _ _ _ => True) (fun _ U o U' => ∃ v L, o = .returned v ∧ Qtp Z a1 a2 a3 t1 k1 l1 t2 k2 l2 cs h0 n0 v U'.heap L ∧ FrameEnd U o U' L ({ frames := 4, cells := 0, slots := 0, locals := 63 } : Room).cells ({ frames := 4, cells := 0, slots := 0, locals := 63 } : Room).slots) := by
  refine MetFree.of_bodySF (plainFor_of_name pn_5) hisR ?_
  intro p e s m args below meth c s₁ Bd hml0 hP hK
  obtain ⟨rfl, hZ, hh⟩ := hP
  have hx := Bd.exec
  have hby := Bd.bytes
  have hml : c.maxLocals = 4 := hml0
  have hown : s.vm.findClass "com/example/cogram/cogram/model/TermPair" = some m.cls := findClass_of_methodNamed Bd.named
  have hnm := (name_of_methodNamed Bd.named Bd.method).1
  have X0 : Stand p l e ({ frames := 4, cells := 0, slots := 0, locals := 63 } : Room) s m #[(.ref a1), (.ref a2), (.ref a3)] below meth c s₁ [] 0 0 := Stand.of_body Bd
  have e0 : s₁.heap = h0 := by rw [← hh, Bd.state]; rfl
  have N0 := Fr.nil n0
  show OGo p e below (fun s₂ o => ∃ v L, o = .returned v ∧ Qtp Z a1 a2 a3 t1 k1 l1 t2 k2 l2 cs h0 n0 v s₂.heap L ∧ FrameEnd s o s₂ L ({ frames := 4, cells := 0, slots := 0, locals := 63 } : Room).cells ({ frames := 4, cells := 0, slots := 0, locals := 63 } : Room).slots) _
  refine OGo.to (fun _ k => castTop (ef_tp m a1 a2 a3) k) ?_
  refine OGo.to (fun _ k => XS.aloadN X0.here hx rfl (hb hby d6_0) rfl rfl k) ?_
  obtain ⟨T_1, X_1, e_1, st_1⟩ := initO X0 hx hZ hown (hw _ (List.mem_of_getElem? (i := 35) rfl)) (hw _ (List.mem_of_getElem? (i := 16) rfl)) (hw _ (List.mem_of_getElem? (i := 17) rfl)) e0 (g := (mkF m 1 #[.val (.ref a1), .val (.ref a2), .val (.ref a3), .unset] [(.ref a1)])) rfl (by rw [hml]; rfl) rfl (hb hby d6_1) (by decide) (W := 0) (by show 2 * 0 + _ ≤ _; exact Nat.le_of_eq rfl) (by decide)
  refine OGo.to st_1 ?_
  show OGo p e below _ (T_1.setTop (mkF m 4 #[.val (.ref a1), .val (.ref a2), .val (.ref a3), .unset] []))
  refine OGo.to (fun _ k => XS.aloadN X_1.here hx rfl (hb hby d6_4) rfl rfl k) ?_
  refine OGo.to (fun _ k => XS.aloadN X_1.here hx rfl (hb hby d6_5) rfl rfl k) ?_
  obtain ⟨cq_2, kq_2, q_2a, q_2b, q_2c⟩ := isOf hZ e_1 S1e_
  obtain ⟨_, T_2, Lc_2, X_2, hQ_2, st_2⟩ := own_un X_1 (Q := Qscmp Z a2 a3 t1 k1 l1 t2 k2 l2 cs h0 n0) (rc := 0) (rs := 0) (W := fun v B => Steps p.tables e below (T_1.setTop (mkF m 6 #[.val (.ref a1), .val (.ref a2), .val (.ref a3), .unset] [(.ref a3), (.ref a2)])) (B.setTop { (mkF m 6 #[.val (.ref a1), .val (.ref a2), .val (.ref a3), .unset] [(.ref a3), (.ref a2)]) with pc := 9, stack := v.toList ++ [] })) <| X_1.virtualBack hx (y := (⟨"java/lang/String", "compareTo", "(Ljava/lang/String;)I"⟩ : MethodName)) (z := (⟨"java/lang/String", "compareTo", "(Ljava/lang/String;)I"⟩ : MethodName)) hown (mvT hZ (hw _ (List.mem_of_getElem? (i := 36) rfl))) (mvT hZ (hw _ (List.mem_of_getElem? (i := 37) rfl))) (notFace_of_selects (args := #[]) (mvT hZ (hw _ (List.mem_of_getElem? (i := 39) rfl)))) (mvT hZ (hw _ (List.mem_of_getElem? (i := 39) rfl))) (mvT hZ (hw _ (List.mem_of_getElem? (i := 38) rfl))) (by decide) (backOf (W := 0) (rmscmp l Z a0 hw [] a2 a3 t1 k1 l1 t2 k2 l2 cs h0 n0 Z0 S1e_ S1c_ S1v_ S1a_ S2e_ S2c_ S2v_ S2a_ (ok1) (ok2) SC O0 (hcs)) hZ (hw _ (List.mem_of_getElem? (i := 40) rfl)) (hw _ (List.mem_of_getElem? (i := 6) rfl)) (by decide) (by decide)) q_2a q_2c (g := (mkF m 6 #[.val (.ref a1), .val (.ref a2), .val (.ref a3), .unset] [(.ref a3), (.ref a2)])) rfl (by rw [hml]; rfl) (Steps.refl _) (argsL := [(.ref a3)]) (rest := []) (lenOf pd_16 rfl) rfl (by show 2 * 0 + _ ≤ _; exact Nat.le_of_eq rfl) (hb hby d6_6) (fun _ _ => ⟨rfl, e_1, (by decide : 0 + 0 ≤ _), (by decide : 0 + 0 ≤ _)⟩)
  obtain ⟨rfl, N_2q, e_2⟩ := hQ_2
  have N_2 := Fr.app N0 N_2q
  refine OGo.to (fun _ k => st_2.trans k) ?_
  show OGo p e below _ (T_2.setTop (mkF m 9 #[.val (.ref a1), .val (.ref a2), .val (.ref a3), .unset] [(.int (own_scmp l1 l2))]))
  by_cases hc9__3 : (own_scmp l1 l2) < (0 : Int32)
  ·  -- pc 9: yes
    refine OGo.to (fun _ k => XS.ifNo X_2.here hx rfl (hb hby d6_9) rfl ((if0 _ _).trans (tlt hc9__3).2.1) k) ?_
    show OGo p e below _ (T_2.setTop (mkF m 12 #[.val (.ref a1), .val (.ref a2), .val (.ref a3), .unset] []))
    refine OGo.to (fun _ k => XS.iconst X_2.here hx rfl (hb hby d6_12) k) ?_
    refine OGo.to (fun _ k => XS.goto X_2.here hx rfl (pc0 := 13) (pc' := 17) rfl (hb hby d6_13) (by decide) (by decide) k) ?_
    refine OGo.to (fun _ k => XS.istoreN X_2.here hx rfl (hb hby d6_17) rfl (l' := #[.val (.ref a1), .val (.ref a2), .val (.ref a3), .val (.int (1 : Int32))]) rfl k) ?_
    refine OGo.to (fun _ k => XS.aloadN X_2.here hx rfl (hb hby d6_18) rfl rfl k) ?_
    refine OGo.to (fun _ k => XS.iloadN X_2.here hx rfl (hb hby d6_19) rfl k) ?_
    have hc20__4 : ¬ ((1 : Int32) = (0 : Int32)) := by decide
    refine OGo.to (fun _ k => XS.ifNo X_2.here hx rfl (hb hby d6_20) rfl ((if0 _ _).trans (feq hc20__4).1) k) ?_
    show OGo p e below _ (T_2.setTop (mkF m 23 #[.val (.ref a1), .val (.ref a2), .val (.ref a3), .val (.int (1 : Int32))] [(.ref a1)]))
    refine OGo.to (fun _ k => XS.aloadN X_2.here hx rfl (hb hby d6_23) rfl rfl k) ?_
    refine OGo.to (fun _ k => XS.goto X_2.here hx rfl (pc0 := 24) (pc' := 28) rfl (hb hby d6_24) (by decide) (by decide) k) ?_
    obtain ⟨T_5, h_5, X_5, e_5, W_5, st_5⟩ := putF X_2 hx hZ hown (host := "") (Or.inl (hw _ (List.mem_of_getElem? (i := 62) rfl))) Via.refl e_2 F1 E1 (Or.inr ⟨(hw _ (List.mem_of_getElem? (i := 63) rfl)), rfl, hnm⟩) (hw _ (List.mem_of_getElem? (i := 30) rfl)) (ty := (.object "java/lang/String")) (by decide) rfl rfl (g := (mkF m 28 #[.val (.ref a1), .val (.ref a2), .val (.ref a3), .val (.int (1 : Int32))] [(.ref a2), (.ref a1)])) rfl rfl (hb hby d6_28)
    refine OGo.to st_5 ?_
    have Fw_5 : Fld Z h_5 a1 "com/example/cogram/cogram/model/TermPair" "first" "Ljava/lang/String;" (.ref a2) := F1.same W_5
    have N_5 := Fr.snoc X_5 N_2 g1
    have z_6 : n0 ≤ h_5.size := Nat.le_trans Z0 (Keep.of_wr W_5).1
    have O_7 : Old Z n0 h_5 := O0.wr W_5 g1
    have K_8 : Keep h0 h_5 [a1] := (Keep.refl h0 [a1]).wr W_5 (Or.inl (List.mem_of_getElem? (i := 0) rfl))
    show OGo p e below _ (T_5.setTop (mkF m 31 #[.val (.ref a1), .val (.ref a2), .val (.ref a3), .val (.int (1 : Int32))] []))
    refine OGo.to (fun _ k => XS.aloadN X_5.here hx rfl (hb hby d6_31) rfl rfl k) ?_
    refine OGo.to (fun _ k => XS.iloadN X_5.here hx rfl (hb hby d6_32) rfl k) ?_
    have hc33__9 : ¬ ((1 : Int32) = (0 : Int32)) := by decide
    refine OGo.to (fun _ k => XS.ifNo X_5.here hx rfl (hb hby d6_33) rfl ((if0 _ _).trans (feq hc33__9).1) k) ?_
    show OGo p e below _ (T_5.setTop (mkF m 36 #[.val (.ref a1), .val (.ref a2), .val (.ref a3), .val (.int (1 : Int32))] [(.ref a1)]))
    refine OGo.to (fun _ k => XS.aloadN X_5.here hx rfl (hb hby d6_36) rfl rfl k) ?_
    refine OGo.to (fun _ k => XS.goto X_5.here hx rfl (pc0 := 37) (pc' := 41) rfl (hb hby d6_37) (by decide) (by decide) k) ?_
    have f_10 : Exa Z h_5 a1 "com/example/cogram/cogram/model/TermPair" := (E1.wr W_5)
    have f_11 : Fld Z h_5 a1 "com/example/cogram/cogram/model/TermPair" "second" "Ljava/lang/String;" .null := (F2.other W_5 (Or.inr (slot_ne (Or.inr (hw _ (List.mem_of_getElem? (i := 65) rfl))) (Or.inr (hw _ (List.mem_of_getElem? (i := 63) rfl))) (by decide) (t := (.object "java/lang/String")) (t' := (.object "java/lang/String")) (by decide) (by decide))))
    obtain ⟨T_12, h_12, X_12, e_12, W_12, st_12⟩ := putF X_5 hx hZ hown (host := "") (Or.inl (hw _ (List.mem_of_getElem? (i := 64) rfl))) Via.refl e_5 f_11 f_10 (Or.inr ⟨(hw _ (List.mem_of_getElem? (i := 65) rfl)), rfl, hnm⟩) (hw _ (List.mem_of_getElem? (i := 30) rfl)) (ty := (.object "java/lang/String")) (by decide) rfl rfl (g := (mkF m 41 #[.val (.ref a1), .val (.ref a2), .val (.ref a3), .val (.int (1 : Int32))] [(.ref a3), (.ref a1)])) rfl rfl (hb hby d6_41)
    refine OGo.to st_12 ?_
    have Fw_12 : Fld Z h_12 a1 "com/example/cogram/cogram/model/TermPair" "second" "Ljava/lang/String;" (.ref a3) := f_11.same W_12
    have N_12 := Fr.snoc X_12 N_5 g1
    have z_13 : n0 ≤ h_12.size := Nat.le_trans z_6 (Keep.of_wr W_12).1
    have O_14 : Old Z n0 h_12 := O_7.wr W_12 g1
    have K_15 : Keep h0 h_12 [a1] := K_8.wr W_12 (Or.inl (List.mem_of_getElem? (i := 0) rfl))
    show OGo p e below _ (T_12.setTop (mkF m 44 #[.val (.ref a1), .val (.ref a2), .val (.ref a3), .val (.int (1 : Int32))] []))
    refine OGo.ret (Q := Qtp Z a1 a2 a3 t1 k1 l1 t2 k2 l2 cs h0 n0) X_12 none (fun _ => rfl) Bd.notSynchronized (fun fs hr => X_12.returnOut hx Bd.returns (hb hby d6_44) hr) ?_ (by decide) (by decide)
    have f_16 : Fld Z h_12 a1 "com/example/cogram/cogram/model/TermPair" "first" "Ljava/lang/String;" (.ref a2) := (Fw_5.other W_12 (Or.inr (slot_ne (Or.inr (hw _ (List.mem_of_getElem? (i := 63) rfl))) (Or.inr (hw _ (List.mem_of_getElem? (i := 65) rfl))) (by decide) (t := (.object "java/lang/String")) (t' := (.object "java/lang/String")) (by decide) (by decide))))
    have f_17 : Exa Z h_12 a2 "java/lang/String" := ((S1e_.wr W_5).wr W_12)
    have f_18 : Fld Z h_12 a2 "java/lang/String" "coder" "B" (.int (0 : Int32)) := ((S1c_.other W_5 (Or.inl (Ne.symm n12))).other W_12 (Or.inl (Ne.symm n12)))
    have f_19 : Fld Z h_12 a2 "java/lang/String" "value" "[B" (.ref t1) := ((S1v_.other W_5 (Or.inl (Ne.symm n12))).other W_12 (Or.inl (Ne.symm n12)))
    have f_20 : Arv Z h_12 t1 k1 .byte (own_i l1.length) (l1.map Value.int) (.int (0 : Int32)) := ((S1a_.other W_5 (Ne.symm n1t)).other W_12 (Ne.symm n1t))
    have f_21 : Exa Z h_12 a3 "java/lang/String" := ((S2e_.wr W_5).wr W_12)
    have f_22 : Fld Z h_12 a3 "java/lang/String" "coder" "B" (.int (0 : Int32)) := ((S2c_.other W_5 (Or.inl (Ne.symm n13))).other W_12 (Or.inl (Ne.symm n13)))
    have f_23 : Fld Z h_12 a3 "java/lang/String" "value" "[B" (.ref t2) := ((S2v_.other W_5 (Or.inl (Ne.symm n13))).other W_12 (Or.inl (Ne.symm n13)))
    have f_24 : Arv Z h_12 t2 k2 .byte (own_i l2.length) (l2.map Value.int) (.int (0 : Int32)) := ((S2a_.other W_5 (Ne.symm n1u)).other W_12 (Ne.symm n1u))
    show Qtp Z a1 a2 a3 t1 k1 l1 t2 k2 l2 cs h0 n0 _ T_12.heap _
    rw [e_12]
    exact ⟨a2, t1, k1, a3, t2, k2, rfl, N_12, K_15, f_16, Fw_12, f_17, f_18, f_19, (own_castL f_20 (by unfold own_fst; rw [if_pos hc9__3])), f_21, f_22, f_23, (own_castL f_24 (by unfold own_snd; rw [if_pos hc9__3]))⟩
  ·  -- pc 9: no
    refine OGo.to (fun _ k => XS.ifYes X_2.here hx rfl (pc0 := 9) (pc' := 16) rfl (hb hby d6_9) rfl ((if0 _ _).trans (flt hc9__3).2.1) (by decide) (by decide) k) ?_
    show OGo p e below _ (T_2.setTop (mkF m 16 #[.val (.ref a1), .val (.ref a2), .val (.ref a3), .unset] []))
    refine OGo.to (fun _ k => XS.iconst X_2.here hx rfl (hb hby d6_16) k) ?_
    show OGo p e below _ (T_2.setTop (mkF m 17 #[.val (.ref a1), .val (.ref a2), .val (.ref a3), .unset] [(.int (0 : Int32))]))
    refine OGo.to (fun _ k => XS.istoreN X_2.here hx rfl (hb hby d6_17) rfl (l' := #[.val (.ref a1), .val (.ref a2), .val (.ref a3), .val (.int (0 : Int32))]) rfl k) ?_
    refine OGo.to (fun _ k => XS.aloadN X_2.here hx rfl (hb hby d6_18) rfl rfl k) ?_
    refine OGo.to (fun _ k => XS.iloadN X_2.here hx rfl (hb hby d6_19) rfl k) ?_
    have hc20__25 : (0 : Int32) = (0 : Int32) := by decide
    refine OGo.to (fun _ k => XS.ifYes X_2.here hx rfl (pc0 := 20) (pc' := 27) rfl (hb hby d6_20) rfl ((if0 _ _).trans (teq hc20__25).1) (by decide) (by decide) k) ?_
    show OGo p e below _ (T_2.setTop (mkF m 27 #[.val (.ref a1), .val (.ref a2), .val (.ref a3), .val (.int (0 : Int32))] [(.ref a1)]))
    refine OGo.to (fun _ k => XS.aloadN X_2.here hx rfl (hb hby d6_27) rfl rfl k) ?_
    obtain ⟨T_26, h_26, X_26, e_26, W_26, st_26⟩ := putF X_2 hx hZ hown (host := "") (Or.inl (hw _ (List.mem_of_getElem? (i := 62) rfl))) Via.refl e_2 F1 E1 (Or.inr ⟨(hw _ (List.mem_of_getElem? (i := 63) rfl)), rfl, hnm⟩) (hw _ (List.mem_of_getElem? (i := 30) rfl)) (ty := (.object "java/lang/String")) (by decide) rfl rfl (g := (mkF m 28 #[.val (.ref a1), .val (.ref a2), .val (.ref a3), .val (.int (0 : Int32))] [(.ref a3), (.ref a1)])) rfl rfl (hb hby d6_28)
    refine OGo.to st_26 ?_
    have Fw_26 : Fld Z h_26 a1 "com/example/cogram/cogram/model/TermPair" "first" "Ljava/lang/String;" (.ref a3) := F1.same W_26
    have N_26 := Fr.snoc X_26 N_2 g1
    have z_27 : n0 ≤ h_26.size := Nat.le_trans Z0 (Keep.of_wr W_26).1
    have O_28 : Old Z n0 h_26 := O0.wr W_26 g1
    have K_29 : Keep h0 h_26 [a1] := (Keep.refl h0 [a1]).wr W_26 (Or.inl (List.mem_of_getElem? (i := 0) rfl))
    show OGo p e below _ (T_26.setTop (mkF m 31 #[.val (.ref a1), .val (.ref a2), .val (.ref a3), .val (.int (0 : Int32))] []))
    refine OGo.to (fun _ k => XS.aloadN X_26.here hx rfl (hb hby d6_31) rfl rfl k) ?_
    refine OGo.to (fun _ k => XS.iloadN X_26.here hx rfl (hb hby d6_32) rfl k) ?_
    have hc33__30 : (0 : Int32) = (0 : Int32) := by decide
    refine OGo.to (fun _ k => XS.ifYes X_26.here hx rfl (pc0 := 33) (pc' := 40) rfl (hb hby d6_33) rfl ((if0 _ _).trans (teq hc33__30).1) (by decide) (by decide) k) ?_
    show OGo p e below _ (T_26.setTop (mkF m 40 #[.val (.ref a1), .val (.ref a2), .val (.ref a3), .val (.int (0 : Int32))] [(.ref a1)]))
    refine OGo.to (fun _ k => XS.aloadN X_26.here hx rfl (hb hby d6_40) rfl rfl k) ?_
    have f_31 : Exa Z h_26 a1 "com/example/cogram/cogram/model/TermPair" := (E1.wr W_26)
    have f_32 : Fld Z h_26 a1 "com/example/cogram/cogram/model/TermPair" "second" "Ljava/lang/String;" .null := (F2.other W_26 (Or.inr (slot_ne (Or.inr (hw _ (List.mem_of_getElem? (i := 65) rfl))) (Or.inr (hw _ (List.mem_of_getElem? (i := 63) rfl))) (by decide) (t := (.object "java/lang/String")) (t' := (.object "java/lang/String")) (by decide) (by decide))))
    obtain ⟨T_33, h_33, X_33, e_33, W_33, st_33⟩ := putF X_26 hx hZ hown (host := "") (Or.inl (hw _ (List.mem_of_getElem? (i := 64) rfl))) Via.refl e_26 f_32 f_31 (Or.inr ⟨(hw _ (List.mem_of_getElem? (i := 65) rfl)), rfl, hnm⟩) (hw _ (List.mem_of_getElem? (i := 30) rfl)) (ty := (.object "java/lang/String")) (by decide) rfl rfl (g := (mkF m 41 #[.val (.ref a1), .val (.ref a2), .val (.ref a3), .val (.int (0 : Int32))] [(.ref a2), (.ref a1)])) rfl rfl (hb hby d6_41)
    refine OGo.to st_33 ?_
    have Fw_33 : Fld Z h_33 a1 "com/example/cogram/cogram/model/TermPair" "second" "Ljava/lang/String;" (.ref a2) := f_32.same W_33
    have N_33 := Fr.snoc X_33 N_26 g1
    have z_34 : n0 ≤ h_33.size := Nat.le_trans z_27 (Keep.of_wr W_33).1
    have O_35 : Old Z n0 h_33 := O_28.wr W_33 g1
    have K_36 : Keep h0 h_33 [a1] := K_29.wr W_33 (Or.inl (List.mem_of_getElem? (i := 0) rfl))
    show OGo p e below _ (T_33.setTop (mkF m 44 #[.val (.ref a1), .val (.ref a2), .val (.ref a3), .val (.int (0 : Int32))] []))
    refine OGo.ret (Q := Qtp Z a1 a2 a3 t1 k1 l1 t2 k2 l2 cs h0 n0) X_33 none (fun _ => rfl) Bd.notSynchronized (fun fs hr => X_33.returnOut hx Bd.returns (hb hby d6_44) hr) ?_ (by decide) (by decide)
    have f_37 : Fld Z h_33 a1 "com/example/cogram/cogram/model/TermPair" "first" "Ljava/lang/String;" (.ref a3) := (Fw_26.other W_33 (Or.inr (slot_ne (Or.inr (hw _ (List.mem_of_getElem? (i := 63) rfl))) (Or.inr (hw _ (List.mem_of_getElem? (i := 65) rfl))) (by decide) (t := (.object "java/lang/String")) (t' := (.object "java/lang/String")) (by decide) (by decide))))
    have f_38 : Exa Z h_33 a3 "java/lang/String" := ((S2e_.wr W_26).wr W_33)
    have f_39 : Fld Z h_33 a3 "java/lang/String" "coder" "B" (.int (0 : Int32)) := ((S2c_.other W_26 (Or.inl (Ne.symm n13))).other W_33 (Or.inl (Ne.symm n13)))
    have f_40 : Fld Z h_33 a3 "java/lang/String" "value" "[B" (.ref t2) := ((S2v_.other W_26 (Or.inl (Ne.symm n13))).other W_33 (Or.inl (Ne.symm n13)))
    have f_41 : Arv Z h_33 t2 k2 .byte (own_i l2.length) (l2.map Value.int) (.int (0 : Int32)) := ((S2a_.other W_26 (Ne.symm n1u)).other W_33 (Ne.symm n1u))
    have f_42 : Exa Z h_33 a2 "java/lang/String" := ((S1e_.wr W_26).wr W_33)
    have f_43 : Fld Z h_33 a2 "java/lang/String" "coder" "B" (.int (0 : Int32)) := ((S1c_.other W_26 (Or.inl (Ne.symm n12))).other W_33 (Or.inl (Ne.symm n12)))
    have f_44 : Fld Z h_33 a2 "java/lang/String" "value" "[B" (.ref t1) := ((S1v_.other W_26 (Or.inl (Ne.symm n12))).other W_33 (Or.inl (Ne.symm n12)))
    have f_45 : Arv Z h_33 t1 k1 .byte (own_i l1.length) (l1.map Value.int) (.int (0 : Int32)) := ((S1a_.other W_26 (Ne.symm n1t)).other W_33 (Ne.symm n1t))
    show Qtp Z a1 a2 a3 t1 k1 l1 t2 k2 l2 cs h0 n0 _ T_33.heap _
    rw [e_33]
    exact ⟨a3, t2, k2, a2, t1, k1, rfl, N_33, K_36, f_37, Fw_33, f_38, f_39, f_40, (own_castL f_41 (by unfold own_fst; rw [if_neg hc9__3])), f_42, f_43, f_44, (own_castL f_45 (by unfold own_snd; rw [if_neg hc9__3]))⟩
theorem d13_0 : decode prog_40_method_5_code 0 = .ok (.aload_n 1, 1) := by decide +kernel
theorem d13_1 : decode prog_40_method_5_code 1 = .ok (.instanceof 14, 3) := by decide +kernel
theorem d13_4 : decode prog_40_method_5_code 4 = .ok (.ifCond .eq 40, 3) := by decide +kernel
theorem d13_44 : decode prog_40_method_5_code 44 = .ok (.iconst 0, 1) := by decide +kernel
theorem d13_45 : decode prog_40_method_5_code 45 = .ok (.ireturn, 1) := by decide +kernel
theorem ef_teN (m : MethodId) (x0 : Addr) : entryFrame m #[(.ref x0), .null] 3 = mkF m 0 #[.val (.ref x0), .val .null, .unset] [] := by first | (simp [entryFrame, mkF, argsToLocals, Value.category]; done) | rfl
def QteN (Z : State) (a1 : Addr) (h0 : Heap) (n0 : Nat) (v : Option Value) (h : Heap) (L : List Loc) : Prop := v = some (.int (0 : Int32)) ∧ Fr n0 L ∧ h = h0
set_option maxRecDepth 65536 in
set_option maxHeartbeats 40000000 in
theorem rmteN (l : Launch) (Z : State) (a0 : Array Value) (hw : ∀ d ∈ tables_1, d.before a0 Z = true) (ws : List Jvm.Cond) (a1 : Addr) (h0 : Heap) (n0 : Nat) (Z0 : n0 ≤ h0.size) :
    MetFree l (⟨"com/example/cogram/cogram/model/TermPair", "equals", "(Ljava/lang/Object;)Z"⟩ : MethodName) (head1 (Jvm.Cond.code (⟨"com/example/cogram/cogram/model/TermPair", "equals", "(Ljava/lang/Object;)Z"⟩ : MethodName) prog_40_method_5_code 3 (some .boolean) :: ws) ({ frames := 0, cells := 0, slots := 0, locals := 0 } : Room)) (fun a U => a = #[(.ref a1), .null] ∧ Z.Warmed39 U.vm ∧ U.heap = h0) (fun _ _ _ _ _ => True) (fun _ U o U' => ∃ v L, o = .returned v ∧ QteN Z a1 h0 n0 v U'.heap L ∧ FrameEnd U o U' L ({ frames := 0, cells := 0, slots := 0, locals := 0 } : Room).cells ({ frames := 0, cells := 0, slots := 0, locals := 0 } : Room).slots) := by
  refine MetFree.of_bodySF (plainFor_of_name pn_5) hisR ?_
  intro p e s m args below meth c s₁ Bd hml0 hP hK
  obtain ⟨rfl, hZ, hh⟩ := hP
  have hx := Bd.exec
  have hby := Bd.bytes
  have hml : c.maxLocals = 3 := hml0
  have hown : s.vm.findClass "com/example/cogram/cogram/model/TermPair" = some m.cls := findClass_of_methodNamed Bd.named
  have hnm := (name_of_methodNamed Bd.named Bd.method).1
  have X0 : Stand p l e ({ frames := 0, cells := 0, slots := 0, locals := 0 } : Room) s m #[(.ref a1), .null] below meth c s₁ [] 0 0 := Stand.of_body Bd
  have e0 : s₁.heap = h0 := by rw [← hh, Bd.state]; rfl
  have N0 := Fr.nil n0
  show OGo p e below (fun s₂ o => ∃ v L, o = .returned v ∧ QteN Z a1 h0 n0 v s₂.heap L ∧ FrameEnd s o s₂ L ({ frames := 0, cells := 0, slots := 0, locals := 0 } : Room).cells ({ frames := 0, cells := 0, slots := 0, locals := 0 } : Room).slots) _
  refine OGo.to (fun _ k => castTop (ef_teN m a1) k) ?_
  refine OGo.to (fun _ k => XS.aloadN X0.here hx rfl (hb hby d13_0) rfl rfl k) ?_
  refine OGo.to (fun _ k => X0.instanceofNull hx (g := (mkF m 1 #[.val (.ref a1), .val .null, .unset] [.null])) rfl rfl (hb hby d13_1) _ k) ?_
  show OGo p e below _ (s₁.setTop (mkF m 4 #[.val (.ref a1), .val .null, .unset] [(.int (0 : Int32))]))
  have hc4__1 : (0 : Int32) = (0 : Int32) := by decide
  refine OGo.to (fun _ k => XS.ifYes X0.here hx rfl (pc0 := 4) (pc' := 44) rfl (hb hby d13_4) rfl ((if0 _ _).trans (teq hc4__1).1) (by decide) (by decide) k) ?_
  show OGo p e below _ (s₁.setTop (mkF m 44 #[.val (.ref a1), .val .null, .unset] []))
  refine OGo.to (fun _ k => XS.iconst X0.here hx rfl (hb hby d13_44) k) ?_
  refine OGo.ret (Q := QteN Z a1 h0 n0) X0 (some (.int (0 : Int32))) (fun h => by rw [Bd.returns] at h; cases h) Bd.notSynchronized (fun fs hr => retN X0 hx (t := .boolean) (z := (0 : Int32)) Bd.returns (by simp) (hb hby d13_45) hr) ?_ (by decide) (by decide)
  show QteN Z a1 h0 n0 _ s₁.heap _
  rw [e0]
  exact ⟨rfl, N0, rfl⟩
theorem ef_teS (m : MethodId) (x0 : Addr) (x1 : Addr) : entryFrame m #[(.ref x0), (.ref x1)] 3 = mkF m 0 #[.val (.ref x0), .val (.ref x1), .unset] [] := by first | (simp [entryFrame, mkF, argsToLocals, Value.category]; done) | rfl
def QteS (Z : State) (a1 : Addr) (a2 : Addr) (h0 : Heap) (n0 : Nat) (v : Option Value) (h : Heap) (L : List Loc) : Prop := v = some (.int (0 : Int32)) ∧ Fr n0 L ∧ h = h0
set_option maxRecDepth 65536 in
set_option maxHeartbeats 40000000 in
theorem rmteS (l : Launch) (Z : State) (a0 : Array Value) (hw : ∀ d ∈ tables_1, d.before a0 Z = true) (ws : List Jvm.Cond) (a1 : Addr) (a2 : Addr) (h0 : Heap) (n0 : Nat) (Z0 : n0 ≤ h0.size) (E2 : Exa Z h0 a2 "java/lang/String") :
    MetFree l (⟨"com/example/cogram/cogram/model/TermPair", "equals", "(Ljava/lang/Object;)Z"⟩ : MethodName) (head1 (Jvm.Cond.code (⟨"com/example/cogram/cogram/model/TermPair", "equals", "(Ljava/lang/Object;)Z"⟩ : MethodName) prog_40_method_5_code 3 (some .boolean) :: ws) ({ frames := 0, cells := 0, slots := 0, locals := 0 } : Room)) (fun a U => a = #[(.ref a1), (.ref a2)] ∧ Z.Warmed39 U.vm ∧ U.heap = h0) (fun _ _ _ _ _ => True) (fun _ U o U' => ∃ v L, o = .returned v ∧ QteS Z a1 a2 h0 n0 v U'.heap L ∧ FrameEnd U o U' L ({ frames := 0, cells := 0, slots := 0, locals := 0 } : Room).cells ({ frames := 0, cells := 0, slots := 0, locals := 0 } : Room).slots) := by
  refine MetFree.of_bodySF (plainFor_of_name pn_5) hisR ?_
  intro p e s m args below meth c s₁ Bd hml0 hP hK
  obtain ⟨rfl, hZ, hh⟩ := hP
  have hx := Bd.exec
  have hby := Bd.bytes
  have hml : c.maxLocals = 3 := hml0
  have hown : s.vm.findClass "com/example/cogram/cogram/model/TermPair" = some m.cls := findClass_of_methodNamed Bd.named
  have hnm := (name_of_methodNamed Bd.named Bd.method).1
  have X0 : Stand p l e ({ frames := 0, cells := 0, slots := 0, locals := 0 } : Room) s m #[(.ref a1), (.ref a2)] below meth c s₁ [] 0 0 := Stand.of_body Bd
  have e0 : s₁.heap = h0 := by rw [← hh, Bd.state]; rfl
  have N0 := Fr.nil n0
  show OGo p e below (fun s₂ o => ∃ v L, o = .returned v ∧ QteS Z a1 a2 h0 n0 v s₂.heap L ∧ FrameEnd s o s₂ L ({ frames := 0, cells := 0, slots := 0, locals := 0 } : Room).cells ({ frames := 0, cells := 0, slots := 0, locals := 0 } : Room).slots) _
  refine OGo.to (fun _ k => castTop (ef_teS m a1 a2) k) ?_
  refine OGo.to (fun _ k => XS.aloadN X0.here hx rfl (hb hby d13_0) rfl rfl k) ?_
  obtain ⟨T_1, X_1, e_1, st_1⟩ := instNo X0 hx hZ hown (hw _ (List.mem_of_getElem? (i := 80) rfl)) e0 E2 (own_notTP hw) (g := (mkF m 1 #[.val (.ref a1), .val (.ref a2), .unset] [(.ref a2)])) rfl rfl (hb hby d13_1)
  refine OGo.to st_1 ?_
  show OGo p e below _ (T_1.setTop (mkF m 4 #[.val (.ref a1), .val (.ref a2), .unset] [(.int (0 : Int32))]))
  have hc4__2 : (0 : Int32) = (0 : Int32) := by decide
  refine OGo.to (fun _ k => XS.ifYes X_1.here hx rfl (pc0 := 4) (pc' := 44) rfl (hb hby d13_4) rfl ((if0 _ _).trans (teq hc4__2).1) (by decide) (by decide) k) ?_
  show OGo p e below _ (T_1.setTop (mkF m 44 #[.val (.ref a1), .val (.ref a2), .unset] []))
  refine OGo.to (fun _ k => XS.iconst X_1.here hx rfl (hb hby d13_44) k) ?_
  refine OGo.ret (Q := QteS Z a1 a2 h0 n0) X_1 (some (.int (0 : Int32))) (fun h => by rw [Bd.returns] at h; cases h) Bd.notSynchronized (fun fs hr => retN X_1 hx (t := .boolean) (z := (0 : Int32)) Bd.returns (by simp) (hb hby d13_45) hr) ?_ (by decide) (by decide)
  show QteS Z a1 a2 h0 n0 _ T_1.heap _
  rw [e_1]
  exact ⟨rfl, N0, rfl⟩
theorem d13_7 : decode prog_40_method_5_code 7 = .ok (.aload_n 1, 1) := by decide +kernel
theorem d13_8 : decode prog_40_method_5_code 8 = .ok (.checkcast 14, 3) := by decide +kernel
theorem d13_11 : decode prog_40_method_5_code 11 = .ok (.astore_n 2, 1) := by decide +kernel
theorem d13_12 : decode prog_40_method_5_code 12 = .ok (.aload_n 0, 1) := by decide +kernel
theorem d13_13 : decode prog_40_method_5_code 13 = .ok (.getfield 13, 3) := by decide +kernel
theorem d13_16 : decode prog_40_method_5_code 16 = .ok (.aload_n 2, 1) := by decide +kernel
theorem d13_17 : decode prog_40_method_5_code 17 = .ok (.getfield 13, 3) := by decide +kernel
theorem d13_20 : decode prog_40_method_5_code 20 = .ok (.invokevirtual 35, 3) := by decide +kernel
theorem d13_23 : decode prog_40_method_5_code 23 = .ok (.ifCond .eq 21, 3) := by decide +kernel
theorem d13_26 : decode prog_40_method_5_code 26 = .ok (.aload_n 0, 1) := by decide +kernel
theorem d13_27 : decode prog_40_method_5_code 27 = .ok (.getfield 19, 3) := by decide +kernel
theorem d13_30 : decode prog_40_method_5_code 30 = .ok (.aload_n 2, 1) := by decide +kernel
theorem d13_31 : decode prog_40_method_5_code 31 = .ok (.getfield 19, 3) := by decide +kernel
theorem d13_34 : decode prog_40_method_5_code 34 = .ok (.invokevirtual 35, 3) := by decide +kernel
theorem d13_37 : decode prog_40_method_5_code 37 = .ok (.ifCond .eq 7, 3) := by decide +kernel
theorem d13_40 : decode prog_40_method_5_code 40 = .ok (.iconst 1, 1) := by decide +kernel
theorem d13_41 : decode prog_40_method_5_code 41 = .ok (.goto 4, 3) := by decide +kernel
theorem ef_teT (m : MethodId) (x0 : Addr) (x1 : Addr) : entryFrame m #[(.ref x0), (.ref x1)] 3 = mkF m 0 #[.val (.ref x0), .val (.ref x1), .unset] [] := by first | (simp [entryFrame, mkF, argsToLocals, Value.category]; done) | rfl
def QteT (Z : State) (a1 : Addr) (a2 : Addr) (f1 : Addr) (s1 : Addr) (f2 : Addr) (s2 : Addr) (t1 : Addr) (k1 : ClassId) (l1 : List Int32) (t2 : Addr) (k2 : ClassId) (l2 : List Int32) (t3 : Addr) (k3 : ClassId) (l3 : List Int32) (t4 : Addr) (k4 : ClassId) (l4 : List Int32) (cs : Int32) (h0 : Heap) (n0 : Nat) (v : Option Value) (h : Heap) (L : List Loc) : Prop := v = some (.int (own_teq l1 l2 l3 l4)) ∧ Fr n0 L ∧ h = h0
set_option maxRecDepth 65536 in
set_option maxHeartbeats 40000000 in
theorem rmteT (l : Launch) (Z : State) (a0 : Array Value) (hw : ∀ d ∈ tables_1, d.before a0 Z = true) (ws : List Jvm.Cond) (a1 : Addr) (a2 : Addr) (f1 : Addr) (s1 : Addr) (f2 : Addr) (s2 : Addr) (t1 : Addr) (k1 : ClassId) (l1 : List Int32) (t2 : Addr) (k2 : ClassId) (l2 : List Int32) (t3 : Addr) (k3 : ClassId) (l3 : List Int32) (t4 : Addr) (k4 : ClassId) (l4 : List Int32) (cs : Int32) (h0 : Heap) (n0 : Nat) (Z0 : n0 ≤ h0.size) (E2 : Exa Z h0 a2 "com/example/cogram/cogram/model/TermPair") (A1 : Fld Z h0 a1 "com/example/cogram/cogram/model/TermPair" "first" "Ljava/lang/String;" (.ref f1)) (A2 : Fld Z h0 a1 "com/example/cogram/cogram/model/TermPair" "second" "Ljava/lang/String;" (.ref s1)) (A3 : Fld Z h0 a2 "com/example/cogram/cogram/model/TermPair" "first" "Ljava/lang/String;" (.ref f2)) (A4 : Fld Z h0 a2 "com/example/cogram/cogram/model/TermPair" "second" "Ljava/lang/String;" (.ref s2)) (S1e_ : Exa Z h0 f1 "java/lang/String") (S1c_ : Fld Z h0 f1 "java/lang/String" "coder" "B" (.int (0 : Int32))) (S1v_ : Fld Z h0 f1 "java/lang/String" "value" "[B" (.ref t1)) (S1a_ : Arv Z h0 t1 k1 .byte (own_i l1.length) (l1.map Value.int) (.int (0 : Int32))) (S2e_ : Exa Z h0 s1 "java/lang/String") (S2c_ : Fld Z h0 s1 "java/lang/String" "coder" "B" (.int (0 : Int32))) (S2v_ : Fld Z h0 s1 "java/lang/String" "value" "[B" (.ref t2)) (S2a_ : Arv Z h0 t2 k2 .byte (own_i l2.length) (l2.map Value.int) (.int (0 : Int32))) (S3e_ : Exa Z h0 f2 "java/lang/String") (S3c_ : Fld Z h0 f2 "java/lang/String" "coder" "B" (.int (0 : Int32))) (S3v_ : Fld Z h0 f2 "java/lang/String" "value" "[B" (.ref t3)) (S3a_ : Arv Z h0 t3 k3 .byte (own_i l3.length) (l3.map Value.int) (.int (0 : Int32))) (S4e_ : Exa Z h0 s2 "java/lang/String") (S4c_ : Fld Z h0 s2 "java/lang/String" "coder" "B" (.int (0 : Int32))) (S4v_ : Fld Z h0 s2 "java/lang/String" "value" "[B" (.ref t4)) (S4a_ : Arv Z h0 t4 k4 .byte (own_i l4.length) (l4.map Value.int) (.int (0 : Int32))) (ok1 : own_ok l1) (ok2 : own_ok l2) (ok3 : own_ok l3) (ok4 : own_ok l4) (SC : Sta Z Z.heap "java/lang/String" "COMPACT_STRINGS" "Z" (.int cs)) (O0 : Old Z n0 h0) (hcs : ¬ (cs = (0 : Int32))) :
    MetFree l (⟨"com/example/cogram/cogram/model/TermPair", "equals", "(Ljava/lang/Object;)Z"⟩ : MethodName) (head1 (Jvm.Cond.code (⟨"com/example/cogram/cogram/model/TermPair", "equals", "(Ljava/lang/Object;)Z"⟩ : MethodName) prog_40_method_5_code 3 (some .boolean) :: ws) ({ frames := 2, cells := 0, slots := 0, locals := 28 } : Room)) (fun a U => a = #[(.ref a1), (.ref a2)] ∧ Z.Warmed39 U.vm ∧ U.heap = h0) (fun _ _ _ _ _ => True) (fun _ U o U' => ∃ v L, o = .returned v ∧ QteT Z a1 a2 f1 s1 f2 s2 t1 k1 l1 t2 k2 l2 t3 k3 l3 t4 k4 l4 cs h0 n0 v U'.heap L ∧ FrameEnd U o U' L ({ frames := 2, cells := 0, slots := 0, locals := 28 } : Room).cells ({ frames := 2, cells := 0, slots := 0, locals := 28 } : Room).slots) := by
  refine MetFree.of_bodySF (plainFor_of_name pn_5) hisR ?_
  intro p e s m args below meth c s₁ Bd hml0 hP hK
  obtain ⟨rfl, hZ, hh⟩ := hP
  have hx := Bd.exec
  have hby := Bd.bytes
  have hml : c.maxLocals = 3 := hml0
  have hown : s.vm.findClass "com/example/cogram/cogram/model/TermPair" = some m.cls := findClass_of_methodNamed Bd.named
  have hnm := (name_of_methodNamed Bd.named Bd.method).1
  have X0 : Stand p l e ({ frames := 2, cells := 0, slots := 0, locals := 28 } : Room) s m #[(.ref a1), (.ref a2)] below meth c s₁ [] 0 0 := Stand.of_body Bd
  have e0 : s₁.heap = h0 := by rw [← hh, Bd.state]; rfl
  have N0 := Fr.nil n0
  show OGo p e below (fun s₂ o => ∃ v L, o = .returned v ∧ QteT Z a1 a2 f1 s1 f2 s2 t1 k1 l1 t2 k2 l2 t3 k3 l3 t4 k4 l4 cs h0 n0 v s₂.heap L ∧ FrameEnd s o s₂ L ({ frames := 2, cells := 0, slots := 0, locals := 28 } : Room).cells ({ frames := 2, cells := 0, slots := 0, locals := 28 } : Room).slots) _
  refine OGo.to (fun _ k => castTop (ef_teT m a1 a2) k) ?_
  refine OGo.to (fun _ k => XS.aloadN X0.here hx rfl (hb hby d13_0) rfl rfl k) ?_
  obtain ⟨T_1, X_1, e_1, st_1⟩ := instY X0 hx hZ hown (hw _ (List.mem_of_getElem? (i := 80) rfl)) e0 (Ins.self E2) (g := (mkF m 1 #[.val (.ref a1), .val (.ref a2), .unset] [(.ref a2)])) rfl rfl (hb hby d13_1)
  refine OGo.to st_1 ?_
  show OGo p e below _ (T_1.setTop (mkF m 4 #[.val (.ref a1), .val (.ref a2), .unset] [(.int (1 : Int32))]))
  have hc4__2 : ¬ ((1 : Int32) = (0 : Int32)) := by decide
  refine OGo.to (fun _ k => XS.ifNo X_1.here hx rfl (hb hby d13_4) rfl ((if0 _ _).trans (feq hc4__2).1) k) ?_
  show OGo p e below _ (T_1.setTop (mkF m 7 #[.val (.ref a1), .val (.ref a2), .unset] []))
  refine OGo.to (fun _ k => XS.aloadN X_1.here hx rfl (hb hby d13_7) rfl rfl k) ?_
  obtain ⟨T_3, X_3, e_3, st_3⟩ := castY X_1 hx hZ hown (hw _ (List.mem_of_getElem? (i := 80) rfl)) e_1 (Ins.self E2) (g := (mkF m 8 #[.val (.ref a1), .val (.ref a2), .unset] [(.ref a2)])) rfl rfl (hb hby d13_8)
  refine OGo.to st_3 ?_
  show OGo p e below _ (T_3.setTop (mkF m 11 #[.val (.ref a1), .val (.ref a2), .unset] [(.ref a2)]))
  refine OGo.to (fun _ k => XS.astoreN X_3.here hx rfl (hb hby d13_11) rfl rfl (l' := #[.val (.ref a1), .val (.ref a2), .val (.ref a2)]) rfl k) ?_
  refine OGo.to (fun _ k => XS.aloadN X_3.here hx rfl (hb hby d13_12) rfl rfl k) ?_
  obtain ⟨T_4, X_4, e_4, st_4⟩ := getF X_3 hx hZ hown (host := "") (Or.inl (hw _ (List.mem_of_getElem? (i := 62) rfl))) Via.refl e_3 A1 (g := (mkF m 13 #[.val (.ref a1), .val (.ref a2), .val (.ref a2)] [(.ref a1)])) rfl rfl (hb hby d13_13)
  refine OGo.to st_4 ?_
  show OGo p e below _ (T_4.setTop (mkF m 16 #[.val (.ref a1), .val (.ref a2), .val (.ref a2)] [(.ref f1)]))
  refine OGo.to (fun _ k => XS.aloadN X_4.here hx rfl (hb hby d13_16) rfl rfl k) ?_
  obtain ⟨T_5, X_5, e_5, st_5⟩ := getF X_4 hx hZ hown (host := "") (Or.inl (hw _ (List.mem_of_getElem? (i := 62) rfl))) Via.refl e_4 A3 (g := (mkF m 17 #[.val (.ref a1), .val (.ref a2), .val (.ref a2)] [(.ref a2), (.ref f1)])) rfl rfl (hb hby d13_17)
  refine OGo.to st_5 ?_
  show OGo p e below _ (T_5.setTop (mkF m 20 #[.val (.ref a1), .val (.ref a2), .val (.ref a2)] [(.ref f2), (.ref f1)]))
  obtain ⟨cq_6, kq_6, q_6a, q_6b, q_6c⟩ := isOf hZ e_5 S1e_
  obtain ⟨_, T_6, Lc_6, X_6, hQ_6, st_6⟩ := own_un X_5 (Q := Qseq Z f1 f2 t1 k1 l1 t3 k3 l3 cs h0 n0) (rc := 0) (rs := 0) (W := fun v B => Steps p.tables e below (T_5.setTop (mkF m 20 #[.val (.ref a1), .val (.ref a2), .val (.ref a2)] [(.ref f2), (.ref f1)])) (B.setTop { (mkF m 20 #[.val (.ref a1), .val (.ref a2), .val (.ref a2)] [(.ref f2), (.ref f1)]) with pc := 23, stack := v.toList ++ [] })) <| X_5.virtualBack hx (y := (⟨"java/lang/String", "equals", "(Ljava/lang/Object;)Z"⟩ : MethodName)) (z := (⟨"java/lang/String", "equals", "(Ljava/lang/Object;)Z"⟩ : MethodName)) hown (mvT hZ (hw _ (List.mem_of_getElem? (i := 82) rfl))) (mvT hZ (hw _ (List.mem_of_getElem? (i := 72) rfl))) (notFace_of_selects (args := #[]) (mvT hZ (hw _ (List.mem_of_getElem? (i := 74) rfl)))) (mvT hZ (hw _ (List.mem_of_getElem? (i := 74) rfl))) (mvT hZ (hw _ (List.mem_of_getElem? (i := 73) rfl))) (by decide) (backOf (W := 0) (rmseq l Z a0 hw [] f1 f2 t1 k1 l1 t3 k3 l3 cs h0 n0 Z0 S1e_ S1c_ S1v_ S1a_ S3e_ S3c_ S3v_ S3a_ (ok1) (ok3) SC O0 (hcs)) hZ (hw _ (List.mem_of_getElem? (i := 75) rfl)) (hw _ (List.mem_of_getElem? (i := 6) rfl)) (by decide) (by decide)) q_6a q_6c (g := (mkF m 20 #[.val (.ref a1), .val (.ref a2), .val (.ref a2)] [(.ref f2), (.ref f1)])) rfl (by rw [hml]; rfl) (Steps.refl _) (argsL := [(.ref f2)]) (rest := []) (lenOf pd_17 rfl) rfl (by show 2 * 0 + _ ≤ _; exact Nat.le_of_eq rfl) (hb hby d13_20) (fun _ _ => ⟨rfl, e_5, (by decide : 0 + 0 ≤ _), (by decide : 0 + 0 ≤ _)⟩)
  obtain ⟨rfl, N_6q, e_6⟩ := hQ_6
  have N_6 := Fr.app N0 N_6q
  refine OGo.to (fun _ k => st_6.trans k) ?_
  show OGo p e below _ (T_6.setTop (mkF m 23 #[.val (.ref a1), .val (.ref a2), .val (.ref a2)] [(.int (own_seq l1 l3))]))
  by_cases hc23__7 : (own_seq l1 l3) = (0 : Int32)
  ·  -- pc 23: yes
    refine OGo.to (fun _ k => XS.ifYes X_6.here hx rfl (pc0 := 23) (pc' := 44) rfl (hb hby d13_23) rfl ((if0 _ _).trans (teq hc23__7).1) (by decide) (by decide) k) ?_
    show OGo p e below _ (T_6.setTop (mkF m 44 #[.val (.ref a1), .val (.ref a2), .val (.ref a2)] []))
    refine OGo.to (fun _ k => XS.iconst X_6.here hx rfl (hb hby d13_44) k) ?_
    refine OGo.ret (Q := QteT Z a1 a2 f1 s1 f2 s2 t1 k1 l1 t2 k2 l2 t3 k3 l3 t4 k4 l4 cs h0 n0) X_6 (some (.int (0 : Int32))) (fun h => by rw [Bd.returns] at h; cases h) Bd.notSynchronized (fun fs hr => retN X_6 hx (t := .boolean) (z := (0 : Int32)) Bd.returns (by simp) (hb hby d13_45) hr) ?_ (by decide) (by decide)
    show QteT Z a1 a2 f1 s1 f2 s2 t1 k1 l1 t2 k2 l2 t3 k3 l3 t4 k4 l4 cs h0 n0 _ T_6.heap _
    rw [e_6]
    exact ⟨congrArg (fun z => some (Value.int z)) (show (0 : Int32) = (own_teq l1 l2 l3 l4) from own_teq_a (own_seq_n hc23__7)), N_6, rfl⟩
  ·  -- pc 23: no
    refine OGo.to (fun _ k => XS.ifNo X_6.here hx rfl (hb hby d13_23) rfl ((if0 _ _).trans (feq hc23__7).1) k) ?_
    show OGo p e below _ (T_6.setTop (mkF m 26 #[.val (.ref a1), .val (.ref a2), .val (.ref a2)] []))
    refine OGo.to (fun _ k => XS.aloadN X_6.here hx rfl (hb hby d13_26) rfl rfl k) ?_
    obtain ⟨T_8, X_8, e_8, st_8⟩ := getF X_6 hx hZ hown (host := "") (Or.inl (hw _ (List.mem_of_getElem? (i := 64) rfl))) Via.refl e_6 A2 (g := (mkF m 27 #[.val (.ref a1), .val (.ref a2), .val (.ref a2)] [(.ref a1)])) rfl rfl (hb hby d13_27)
    refine OGo.to st_8 ?_
    show OGo p e below _ (T_8.setTop (mkF m 30 #[.val (.ref a1), .val (.ref a2), .val (.ref a2)] [(.ref s1)]))
    refine OGo.to (fun _ k => XS.aloadN X_8.here hx rfl (hb hby d13_30) rfl rfl k) ?_
    obtain ⟨T_9, X_9, e_9, st_9⟩ := getF X_8 hx hZ hown (host := "") (Or.inl (hw _ (List.mem_of_getElem? (i := 64) rfl))) Via.refl e_8 A4 (g := (mkF m 31 #[.val (.ref a1), .val (.ref a2), .val (.ref a2)] [(.ref a2), (.ref s1)])) rfl rfl (hb hby d13_31)
    refine OGo.to st_9 ?_
    show OGo p e below _ (T_9.setTop (mkF m 34 #[.val (.ref a1), .val (.ref a2), .val (.ref a2)] [(.ref s2), (.ref s1)]))
    obtain ⟨cq_10, kq_10, q_10a, q_10b, q_10c⟩ := isOf hZ e_9 S2e_
    obtain ⟨_, T_10, Lc_10, X_10, hQ_10, st_10⟩ := own_un X_9 (Q := Qseq Z s1 s2 t2 k2 l2 t4 k4 l4 cs h0 n0) (rc := 0) (rs := 0) (W := fun v B => Steps p.tables e below (T_9.setTop (mkF m 34 #[.val (.ref a1), .val (.ref a2), .val (.ref a2)] [(.ref s2), (.ref s1)])) (B.setTop { (mkF m 34 #[.val (.ref a1), .val (.ref a2), .val (.ref a2)] [(.ref s2), (.ref s1)]) with pc := 37, stack := v.toList ++ [] })) <| X_9.virtualBack hx (y := (⟨"java/lang/String", "equals", "(Ljava/lang/Object;)Z"⟩ : MethodName)) (z := (⟨"java/lang/String", "equals", "(Ljava/lang/Object;)Z"⟩ : MethodName)) hown (mvT hZ (hw _ (List.mem_of_getElem? (i := 82) rfl))) (mvT hZ (hw _ (List.mem_of_getElem? (i := 72) rfl))) (notFace_of_selects (args := #[]) (mvT hZ (hw _ (List.mem_of_getElem? (i := 74) rfl)))) (mvT hZ (hw _ (List.mem_of_getElem? (i := 74) rfl))) (mvT hZ (hw _ (List.mem_of_getElem? (i := 73) rfl))) (by decide) (backOf (W := 0) (rmseq l Z a0 hw [] s1 s2 t2 k2 l2 t4 k4 l4 cs h0 n0 Z0 S2e_ S2c_ S2v_ S2a_ S4e_ S4c_ S4v_ S4a_ (ok2) (ok4) SC O0 (hcs)) hZ (hw _ (List.mem_of_getElem? (i := 75) rfl)) (hw _ (List.mem_of_getElem? (i := 6) rfl)) (by decide) (by decide)) q_10a q_10c (g := (mkF m 34 #[.val (.ref a1), .val (.ref a2), .val (.ref a2)] [(.ref s2), (.ref s1)])) rfl (by rw [hml]; rfl) (Steps.refl _) (argsL := [(.ref s2)]) (rest := []) (lenOf pd_17 rfl) rfl (by show 2 * 0 + _ ≤ _; exact Nat.le_of_eq rfl) (hb hby d13_34) (fun _ _ => ⟨rfl, e_9, (by decide : 0 + 0 ≤ _), (by decide : 0 + 0 ≤ _)⟩)
    obtain ⟨rfl, N_10q, e_10⟩ := hQ_10
    have N_10 := Fr.app N_6 N_10q
    refine OGo.to (fun _ k => st_10.trans k) ?_
    show OGo p e below _ (T_10.setTop (mkF m 37 #[.val (.ref a1), .val (.ref a2), .val (.ref a2)] [(.int (own_seq l2 l4))]))
    by_cases hc37__11 : (own_seq l2 l4) = (0 : Int32)
    ·  -- pc 37: yes
      refine OGo.to (fun _ k => XS.ifYes X_10.here hx rfl (pc0 := 37) (pc' := 44) rfl (hb hby d13_37) rfl ((if0 _ _).trans (teq hc37__11).1) (by decide) (by decide) k) ?_
      show OGo p e below _ (T_10.setTop (mkF m 44 #[.val (.ref a1), .val (.ref a2), .val (.ref a2)] []))
      refine OGo.to (fun _ k => XS.iconst X_10.here hx rfl (hb hby d13_44) k) ?_
      refine OGo.ret (Q := QteT Z a1 a2 f1 s1 f2 s2 t1 k1 l1 t2 k2 l2 t3 k3 l3 t4 k4 l4 cs h0 n0) X_10 (some (.int (0 : Int32))) (fun h => by rw [Bd.returns] at h; cases h) Bd.notSynchronized (fun fs hr => retN X_10 hx (t := .boolean) (z := (0 : Int32)) Bd.returns (by simp) (hb hby d13_45) hr) ?_ (by decide) (by decide)
      show QteT Z a1 a2 f1 s1 f2 s2 t1 k1 l1 t2 k2 l2 t3 k3 l3 t4 k4 l4 cs h0 n0 _ T_10.heap _
      rw [e_10]
      exact ⟨congrArg (fun z => some (Value.int z)) (show (0 : Int32) = (own_teq l1 l2 l3 l4) from own_teq_b (own_seq_e hc23__7) (own_seq_n hc37__11)), N_10, rfl⟩
    ·  -- pc 37: no
      refine OGo.to (fun _ k => XS.ifNo X_10.here hx rfl (hb hby d13_37) rfl ((if0 _ _).trans (feq hc37__11).1) k) ?_
      show OGo p e below _ (T_10.setTop (mkF m 40 #[.val (.ref a1), .val (.ref a2), .val (.ref a2)] []))
      refine OGo.to (fun _ k => XS.iconst X_10.here hx rfl (hb hby d13_40) k) ?_
      refine OGo.to (fun _ k => XS.goto X_10.here hx rfl (pc0 := 41) (pc' := 45) rfl (hb hby d13_41) (by decide) (by decide) k) ?_
      refine OGo.ret (Q := QteT Z a1 a2 f1 s1 f2 s2 t1 k1 l1 t2 k2 l2 t3 k3 l3 t4 k4 l4 cs h0 n0) X_10 (some (.int (1 : Int32))) (fun h => by rw [Bd.returns] at h; cases h) Bd.notSynchronized (fun fs hr => retN X_10 hx (t := .boolean) (z := (1 : Int32)) Bd.returns (by simp) (hb hby d13_45) hr) ?_ (by decide) (by decide)
      show QteT Z a1 a2 f1 s1 f2 s2 t1 k1 l1 t2 k2 l2 t3 k3 l3 t4 k4 l4 cs h0 n0 _ T_10.heap _
      rw [e_10]
      exact ⟨congrArg (fun z => some (Value.int z)) (show (1 : Int32) = (own_teq l1 l2 l3 l4) from own_teq_c (own_seq_e hc23__7) (own_seq_e hc37__11)), N_10, rfl⟩
theorem ef_0 (m : MethodId) (x0 : Int32) (x1 : Int32) (x2 : Int32) (x3 : Int32) (x4 : Int32) : entryFrame m #[(.int x0), (.int x1), (.int x2), (.int x3), (.int x4)] maxLocals = mkF m 0 #[.val (.int x0), .val (.int x1), .val (.int x2), .val (.int x3), .val (.int x4), .unset, .unset, .unset, .unset, .unset, .unset, .unset, .unset] [] := by first | (simp [entryFrame, mkF, argsToLocals, Value.category, maxLocals]; done) | rfl
def Q0 (Z : State) (p1 : Int32) (p2 : Int32) (p3 : Int32) (p4 : Int32) (p5 : Int32) (cs : Int32) (h0 : Heap) (n0 : Nat) (v : Option Value) (h : Heap) (L : List Loc) : Prop := v = some (.int (1 : Int32)) ∧ Fr n0 L
set_option maxRecDepth 65536 in
set_option maxHeartbeats 40000000 in
theorem rm0 (l : Launch) (Z : State) (a0 : Array Value) (hw : ∀ d ∈ tables_1, d.before a0 Z = true) (ws : List Jvm.Cond) (p1 : Int32) (p2 : Int32) (p3 : Int32) (p4 : Int32) (p5 : Int32) (cs : Int32) (h0 : Heap) (n0 : Nat) (Z0 : n0 ≤ h0.size) (SC : Sta Z Z.heap "java/lang/String" "COMPACT_STRINGS" "Z" (.int cs)) (O0 : Old Z n0 h0) (hcs : ¬ (cs = (0 : Int32))) (HH : Jvm.Lit.constHeld Z "java/lang/String" 7) (HW : Jvm.Lit.compactW.before a0 Z = true) :
    MetFree l x (head1 (Jvm.Cond.code x code maxLocals ret :: ws) room_1) (fun a U => a = #[(.int p1), (.int p2), (.int p3), (.int p4), (.int p5)] ∧ Z.Warmed39 U.vm ∧ U.heap = h0 ∧ own_Inv Z U.vm h0) (fun _ _ _ _ _ => True) (fun _ U o U' => ∃ v L, o = .returned v ∧ Q0 Z p1 p2 p3 p4 p5 cs h0 n0 v U'.heap L ∧ ReturnedEndW U o U' L room_1.cells room_1.slots) := by
  refine MetFree.of_bodySF (plainFor_of_name pn_3) hisR ?_
  intro p e s m args below meth c s₁ Bd hml0 hP hK
  obtain ⟨rfl, hZ, hh, hI⟩ := hP
  have hx := Bd.exec
  have hby := Bd.bytes
  have hml : c.maxLocals = 13 := hml0
  have hown : s.vm.findClass "com/example/cogram/cogram/model/TermPairEqualsPinLaw" = some m.cls := findClass_of_methodNamed Bd.named
  have hnm := (name_of_methodNamed Bd.named Bd.method).1
  have X0 : Stand p l e room_1 (s.setVm s.vm) m #[(.int p1), (.int p2), (.int p3), (.int p4), (.int p5)] below meth c s₁ [] 0 0 := Stand.of_body Bd
  have hZ : Z.Warmed39 (s.setVm s.vm).vm := hZ
  have hown : (s.setVm s.vm).vm.findClass "com/example/cogram/cogram/model/TermPairEqualsPinLaw" = some m.cls := hown
  have hS0 : s.Since s.vm h0.size := (State.WarmedH.refl s).since _
  have e0 : s₁.heap = h0 := by rw [← hh, Bd.state]; rfl
  have N0 := Fr.nil n0
  show OGo p e below (fun s₂ o => ∃ v L, o = .returned v ∧ Q0 Z p1 p2 p3 p4 p5 cs h0 n0 v s₂.heap L ∧ ReturnedEndW s o s₂ L room_1.cells room_1.slots) _
  refine OGo.to (fun _ k => castTop (ef_0 m p1 p2 p3 p4 p5) k) ?_
  refine OGo.to (fun _ k => XS.iloadN X0.here hx rfl (hb hby at_0) rfl k) ?_
  obtain ⟨_, T_1, Lc_1, X_1, hS_1, hZ, hown, hQ_1, st_1⟩ := own_unS hS0 (by rw [e0]; exact (Nat.le_refl h0.size)) hZ hown X0 (Q := fun v U L => Qmk Z p1 cs h0 n0 v U.heap L ∧ own_Inv Z U.vm U.heap) (rc := 4) (rs := 8) (W := fun v B => Steps p.tables e below (s₁.setTop (mkF m 1 #[.val (.int p1), .val (.int p2), .val (.int p3), .val (.int p4), .val (.int p5), .unset, .unset, .unset, .unset, .unset, .unset, .unset, .unset] [(.int p1)])) (B.setTop { (mkF m 1 #[.val (.int p1), .val (.int p2), .val (.int p3), .val (.int p4), .val (.int p5), .unset, .unset, .unset, .unset, .unset, .unset, .unset, .unset] [(.int p1)]) with pc := 4, stack := v.toList ++ [] })) <| callSS X0 hx (y := (⟨"com/example/cogram/cogram/model/TermPairEqualsPinLaw", "mk", "(I)Ljava/lang/String;"⟩ : MethodName)) hown (mvT hZ (hw _ (List.mem_of_getElem? (i := 0) rfl))) (mvT hZ (hw _ (List.mem_of_getElem? (i := 1) rfl))) (mvT hZ (hw _ (List.mem_of_getElem? (i := 2) rfl))) (mvT hZ (hw _ (List.mem_of_getElem? (i := 3) rfl))) (by decide) (own_backOfI (I := own_Inv Z) (W := 0) (rmmk l Z a0 hw [] p1 cs h0 n0 Z0 SC O0 (hcs) (HH) (HW)) (fun _ W_ => own_Inv.warm hI W_) hZ (hw _ (List.mem_of_getElem? (i := 3) rfl)) (hw _ (List.mem_of_getElem? (i := 2) rfl)) (by decide) (by decide)) (g := (mkF m 1 #[.val (.int p1), .val (.int p2), .val (.int p3), .val (.int p4), .val (.int p5), .unset, .unset, .unset, .unset, .unset, .unset, .unset, .unset] [(.int p1)])) rfl (by rw [hml]; rfl) (argsL := [(.int p1)]) (rest := []) (lenOf pd_18 rfl) rfl (by show 2 * 0 + _ ≤ _; exact Nat.le_of_eq rfl) (hb hby at_1) (fun _ _ => ⟨rfl, e0, (by decide : 0 + 4 ≤ _), (by decide : 0 + 8 ≤ _)⟩)
  obtain ⟨hQ_1, hI_1⟩ := hQ_1
  obtain ⟨o__1, b__1, kb__1, rfl, N_1q, K_1, gq_o__1, sq_o__1, p_1_0, p_1_1, p_1_2, p_1_3⟩ := hQ_1
  have N_1 := Fr.app N0 N_1q
  refine OGo.to (fun _ k => st_1.trans k) ?_
  have z_2 : n0 ≤ T_1.heap.size := Nat.le_trans Z0 K_1.1
  have O_3 : Old Z n0 T_1.heap := O0.keep K_1 all0
  show OGo p e below _ (T_1.setTop (mkF m 4 #[.val (.int p1), .val (.int p2), .val (.int p3), .val (.int p4), .val (.int p5), .unset, .unset, .unset, .unset, .unset, .unset, .unset, .unset] [(.ref o__1)]))
  refine OGo.to (fun _ k => XS.astore X_1.here hx rfl (hb hby at_4) rfl rfl (l' := #[.val (.int p1), .val (.int p2), .val (.int p3), .val (.int p4), .val (.int p5), .val (.ref o__1), .unset, .unset, .unset, .unset, .unset, .unset, .unset]) rfl k) ?_
  refine OGo.to (fun _ k => XS.iloadN X_1.here hx rfl (hb hby at_6) rfl k) ?_
  obtain ⟨_, T_4, Lc_4, X_4, hS_4, hZ, hown, hQ_4, st_4⟩ := own_unS hS_1 (Nat.le_refl T_1.heap.size) hZ hown X_1 (Q := fun v U L => Qmk Z p2 cs T_1.heap n0 v U.heap L ∧ own_Inv Z U.vm U.heap) (rc := 4) (rs := 8) (W := fun v B => Steps p.tables e below (T_1.setTop (mkF m 7 #[.val (.int p1), .val (.int p2), .val (.int p3), .val (.int p4), .val (.int p5), .val (.ref o__1), .unset, .unset, .unset, .unset, .unset, .unset, .unset] [(.int p2)])) (B.setTop { (mkF m 7 #[.val (.int p1), .val (.int p2), .val (.int p3), .val (.int p4), .val (.int p5), .val (.ref o__1), .unset, .unset, .unset, .unset, .unset, .unset, .unset] [(.int p2)]) with pc := 10, stack := v.toList ++ [] })) <| callSS X_1 hx (y := (⟨"com/example/cogram/cogram/model/TermPairEqualsPinLaw", "mk", "(I)Ljava/lang/String;"⟩ : MethodName)) hown (mvT hZ (hw _ (List.mem_of_getElem? (i := 0) rfl))) (mvT hZ (hw _ (List.mem_of_getElem? (i := 1) rfl))) (mvT hZ (hw _ (List.mem_of_getElem? (i := 2) rfl))) (mvT hZ (hw _ (List.mem_of_getElem? (i := 3) rfl))) (by decide) (own_backOfI (I := own_Inv Z) (W := 0) (rmmk l Z a0 hw [] p2 cs T_1.heap n0 z_2 SC O_3 (hcs) (HH) (HW)) (fun _ W_ => own_Inv.warm hI_1 W_) hZ (hw _ (List.mem_of_getElem? (i := 3) rfl)) (hw _ (List.mem_of_getElem? (i := 2) rfl)) (by decide) (by decide)) (g := (mkF m 7 #[.val (.int p1), .val (.int p2), .val (.int p3), .val (.int p4), .val (.int p5), .val (.ref o__1), .unset, .unset, .unset, .unset, .unset, .unset, .unset] [(.int p2)])) rfl (by rw [hml]; rfl) (argsL := [(.int p2)]) (rest := []) (lenOf pd_18 rfl) rfl (by show 2 * 0 + _ ≤ _; exact Nat.le_of_eq rfl) (hb hby at_7) (fun _ _ => ⟨rfl, (rfl : T_1.heap = T_1.heap), (by decide : 4 + 4 ≤ _), (by decide : 8 + 8 ≤ _)⟩)
  obtain ⟨hQ_4, hI_4⟩ := hQ_4
  obtain ⟨o__4, b__4, kb__4, rfl, N_4q, K_4, gq_o__4, sq_o__4, p_4_0, p_4_1, p_4_2, p_4_3⟩ := hQ_4
  have N_4 := Fr.app N_1 N_4q
  refine OGo.to (fun _ k => st_4.trans k) ?_
  have ne_o__1_o__4 : o__1 ≠ o__4 := Nat.ne_of_lt (Nat.lt_of_lt_of_le p_1_0.lt sq_o__4)
  have ne_b__1_o__4 : b__1 ≠ o__4 := Nat.ne_of_lt (Nat.lt_of_lt_of_le p_1_3.lt sq_o__4)
  have z_5 : n0 ≤ T_4.heap.size := Nat.le_trans z_2 K_4.1
  have O_6 : Old Z n0 T_4.heap := O_3.keep K_4 all0
  show OGo p e below _ (T_4.setTop (mkF m 10 #[.val (.int p1), .val (.int p2), .val (.int p3), .val (.int p4), .val (.int p5), .val (.ref o__1), .unset, .unset, .unset, .unset, .unset, .unset, .unset] [(.ref o__4)]))
  refine OGo.to (fun _ k => XS.astore X_4.here hx rfl (hb hby at_10) rfl rfl (l' := #[.val (.int p1), .val (.int p2), .val (.int p3), .val (.int p4), .val (.int p5), .val (.ref o__1), .val (.ref o__4), .unset, .unset, .unset, .unset, .unset, .unset]) rfl k) ?_
  refine OGo.to (fun _ k => XS.iload X_4.here hx rfl (hb hby at_12) rfl k) ?_
  refine OGo.to (fun _ k => XS.iconst X_4.here hx rfl (hb hby at_14) k) ?_
  refine OGo.to (fun _ k => XS.iand X_4.here hx rfl (hb hby at_15) rfl k) ?_
  refine OGo.to (fun _ k => XS.aload X_4.here hx rfl (hb hby at_16) rfl rfl k) ?_
  refine OGo.to (fun _ k => XS.aload X_4.here hx rfl (hb hby at_18) rfl rfl k) ?_
  refine OGo.to (fun _ k => XS.iloadN X_4.here hx rfl (hb hby at_20) rfl k) ?_
  have f_8 : Exa Z T_4.heap o__1 "java/lang/String" := (p_1_0.keep K_4)
  have f_9 : Arv Z T_4.heap b__1 kb__1 .byte (own_i (own_mk p1).length) ((own_mk p1).map Value.int) (.int (0 : Int32)) := (p_1_3.keep K_4 (List.not_mem_nil))
  obtain ⟨_, T_7, Lc_7, X_7, hS_7, hZ, hown, hQ_7, st_7⟩ := own_unS hS_4 (Nat.le_refl T_4.heap.size) hZ hown X_4 (Q := fun v U L => Qmk Z p3 cs T_4.heap n0 v U.heap L ∧ own_Inv Z U.vm U.heap) (rc := 4) (rs := 8) (W := fun v B => Steps p.tables e below (T_4.setTop (mkF m 21 #[.val (.int p1), .val (.int p2), .val (.int p3), .val (.int p4), .val (.int p5), .val (.ref o__1), .val (.ref o__4), .unset, .unset, .unset, .unset, .unset, .unset] [(.int p3), (.ref o__4), (.ref o__1), (.int (p5 &&& (3 : Int32)))])) (B.setTop { (mkF m 21 #[.val (.int p1), .val (.int p2), .val (.int p3), .val (.int p4), .val (.int p5), .val (.ref o__1), .val (.ref o__4), .unset, .unset, .unset, .unset, .unset, .unset] [(.int p3), (.ref o__4), (.ref o__1), (.int (p5 &&& (3 : Int32)))]) with pc := 24, stack := v.toList ++ [(.ref o__4), (.ref o__1), (.int (p5 &&& (3 : Int32)))] })) <| callSS X_4 hx (y := (⟨"com/example/cogram/cogram/model/TermPairEqualsPinLaw", "mk", "(I)Ljava/lang/String;"⟩ : MethodName)) hown (mvT hZ (hw _ (List.mem_of_getElem? (i := 0) rfl))) (mvT hZ (hw _ (List.mem_of_getElem? (i := 1) rfl))) (mvT hZ (hw _ (List.mem_of_getElem? (i := 2) rfl))) (mvT hZ (hw _ (List.mem_of_getElem? (i := 3) rfl))) (by decide) (own_backOfI (I := own_Inv Z) (W := 3) (rmmk l Z a0 hw [] p3 cs T_4.heap n0 z_5 SC O_6 (hcs) (HH) (HW)) (fun _ W_ => own_Inv.warm hI_4 W_) hZ (hw _ (List.mem_of_getElem? (i := 3) rfl)) (hw _ (List.mem_of_getElem? (i := 2) rfl)) (by decide) (by decide)) (g := (mkF m 21 #[.val (.int p1), .val (.int p2), .val (.int p3), .val (.int p4), .val (.int p5), .val (.ref o__1), .val (.ref o__4), .unset, .unset, .unset, .unset, .unset, .unset] [(.int p3), (.ref o__4), (.ref o__1), (.int (p5 &&& (3 : Int32)))])) rfl (by rw [hml]; rfl) (argsL := [(.int p3)]) (rest := [(.ref o__4), (.ref o__1), (.int (p5 &&& (3 : Int32)))]) (lenOf pd_18 rfl) rfl (by show 2 * 0 + _ ≤ _; exact Nat.le_of_eq rfl) (hb hby at_21) (fun _ _ => ⟨rfl, (rfl : T_4.heap = T_4.heap), (by decide : 8 + 4 ≤ _), (by decide : 16 + 8 ≤ _)⟩)
  obtain ⟨hQ_7, hI_7⟩ := hQ_7
  obtain ⟨o__7, b__7, kb__7, rfl, N_7q, K_7, gq_o__7, sq_o__7, p_7_0, p_7_1, p_7_2, p_7_3⟩ := hQ_7
  have N_7 := Fr.app N_4 N_7q
  refine OGo.to (fun _ k => st_7.trans k) ?_
  have ne_o__1_o__7 : o__1 ≠ o__7 := Nat.ne_of_lt (Nat.lt_of_lt_of_le f_8.lt sq_o__7)
  have ne_b__1_o__7 : b__1 ≠ o__7 := Nat.ne_of_lt (Nat.lt_of_lt_of_le f_9.lt sq_o__7)
  have ne_o__4_o__7 : o__4 ≠ o__7 := Nat.ne_of_lt (Nat.lt_of_lt_of_le p_4_0.lt sq_o__7)
  have ne_b__4_o__7 : b__4 ≠ o__7 := Nat.ne_of_lt (Nat.lt_of_lt_of_le p_4_3.lt sq_o__7)
  have z_10 : n0 ≤ T_7.heap.size := Nat.le_trans z_5 K_7.1
  have O_11 : Old Z n0 T_7.heap := O_6.keep K_7 all0
  show OGo p e below _ (T_7.setTop (mkF m 24 #[.val (.int p1), .val (.int p2), .val (.int p3), .val (.int p4), .val (.int p5), .val (.ref o__1), .val (.ref o__4), .unset, .unset, .unset, .unset, .unset, .unset] [(.ref o__7), (.ref o__4), (.ref o__1), (.int (p5 &&& (3 : Int32)))]))
  have f_13 : Exa Z T_7.heap o__1 "java/lang/String" := (f_8.keep K_7)
  have f_14 : Fld Z T_7.heap o__1 "java/lang/String" "coder" "B" (.int (0 : Int32)) := ((p_1_1.keep K_4 (List.not_mem_nil)).keep K_7 (List.not_mem_nil))
  have f_15 : Fld Z T_7.heap o__1 "java/lang/String" "value" "[B" (.ref b__1) := ((p_1_2.keep K_4 (List.not_mem_nil)).keep K_7 (List.not_mem_nil))
  have f_16 : Arv Z T_7.heap b__1 kb__1 .byte (own_i (own_mk p1).length) ((own_mk p1).map Value.int) (.int (0 : Int32)) := (f_9.keep K_7 (List.not_mem_nil))
  have f_17 : Exa Z T_7.heap o__4 "java/lang/String" := (p_4_0.keep K_7)
  have f_18 : Fld Z T_7.heap o__4 "java/lang/String" "coder" "B" (.int (0 : Int32)) := (p_4_1.keep K_7 (List.not_mem_nil))
  have f_19 : Fld Z T_7.heap o__4 "java/lang/String" "value" "[B" (.ref b__4) := (p_4_2.keep K_7 (List.not_mem_nil))
  have f_20 : Arv Z T_7.heap b__4 kb__4 .byte (own_i (own_mk p2).length) ((own_mk p2).map Value.int) (.int (0 : Int32)) := (p_4_3.keep K_7 (List.not_mem_nil))
  obtain ⟨_, T_12, Lc_12, X_12, hQ_12, st_12⟩ := own_un X_7 (Q := Qpick Z (p5 &&& (3 : Int32)) o__1 o__4 o__7 b__1 kb__1 (own_mk p1) b__4 kb__4 (own_mk p2) b__7 kb__7 (own_mk p3) T_7.heap n0) (rc := 0) (rs := 0) (W := fun v B => ∀ target, Steps p.tables e below (B.setTop { (mkF m 24 #[.val (.int p1), .val (.int p2), .val (.int p3), .val (.int p4), .val (.int p5), .val (.ref o__1), .val (.ref o__4), .unset, .unset, .unset, .unset, .unset, .unset] [(.ref o__7), (.ref o__4), (.ref o__1), (.int (p5 &&& (3 : Int32)))]) with pc := 27, stack := v.toList ++ [] }) target → Steps p.tables e below (T_7.setTop (mkF m 24 #[.val (.int p1), .val (.int p2), .val (.int p3), .val (.int p4), .val (.int p5), .val (.ref o__1), .val (.ref o__4), .unset, .unset, .unset, .unset, .unset, .unset] [(.ref o__7), (.ref o__4), (.ref o__1), (.int (p5 &&& (3 : Int32)))])) target) <| Jvm.LawKit.callS X_7 hx (y := (⟨"com/example/cogram/cogram/model/TermPairEqualsPinLaw", "pick", "(ILjava/lang/String;Ljava/lang/String;Ljava/lang/String;)Ljava/lang/String;"⟩ : MethodName)) hown (mvT hZ (hw _ (List.mem_of_getElem? (i := 26) rfl))) (mvT hZ (hw _ (List.mem_of_getElem? (i := 27) rfl))) (mvT hZ (hw _ (List.mem_of_getElem? (i := 2) rfl))) (mvT hZ (hw _ (List.mem_of_getElem? (i := 28) rfl))) (by decide) (backOf (W := 0) (rmpick l Z a0 hw [] (p5 &&& (3 : Int32)) o__1 o__4 o__7 b__1 kb__1 (own_mk p1) b__4 kb__4 (own_mk p2) b__7 kb__7 (own_mk p3) T_7.heap n0 z_10 f_13 f_14 f_15 f_16 f_17 f_18 f_19 f_20 p_7_0 p_7_1 p_7_2 p_7_3) hZ (hw _ (List.mem_of_getElem? (i := 28) rfl)) (hw _ (List.mem_of_getElem? (i := 2) rfl)) (by decide) (by decide)) (g := (mkF m 24 #[.val (.int p1), .val (.int p2), .val (.int p3), .val (.int p4), .val (.int p5), .val (.ref o__1), .val (.ref o__4), .unset, .unset, .unset, .unset, .unset, .unset] [(.ref o__7), (.ref o__4), (.ref o__1), (.int (p5 &&& (3 : Int32)))])) rfl (by rw [hml]; rfl) (argsL := [(.int (p5 &&& (3 : Int32))), (.ref o__1), (.ref o__4), (.ref o__7)]) (rest := []) (lenOf pd_19 rfl) rfl (by show 2 * 0 + _ ≤ _; exact Nat.le_of_eq rfl) (hb hby at_24) (fun _ _ => ⟨rfl, (rfl : T_7.heap = T_7.heap), (by decide : 12 + 0 ≤ _), (by decide : 24 + 0 ≤ _)⟩)
  obtain ⟨o__12, b__12, kb__12, rfl, N_12q, e_12, p_12_0, p_12_1, p_12_2, p_12_3⟩ := hQ_12
  have N_12 := Fr.app N_7 N_12q
  refine OGo.to st_12 ?_
  rw [e_12] at p_12_0 p_12_1 p_12_2 p_12_3
  show OGo p e below _ (T_12.setTop (mkF m 27 #[.val (.int p1), .val (.int p2), .val (.int p3), .val (.int p4), .val (.int p5), .val (.ref o__1), .val (.ref o__4), .unset, .unset, .unset, .unset, .unset, .unset] [(.ref o__12)]))
  refine OGo.to (fun _ k => XS.astore X_12.here hx rfl (hb hby at_27) rfl rfl (l' := #[.val (.int p1), .val (.int p2), .val (.int p3), .val (.int p4), .val (.int p5), .val (.ref o__1), .val (.ref o__4), .val (.ref o__12), .unset, .unset, .unset, .unset, .unset]) rfl k) ?_
  refine OGo.to (fun _ k => XS.iload X_12.here hx rfl (hb hby at_29) rfl k) ?_
  refine OGo.to (fun _ k => XS.iconst X_12.here hx rfl (hb hby at_31) k) ?_
  refine OGo.to (fun _ k => XS.iushr X_12.here hx rfl (hb hby at_32) rfl k) ?_
  refine OGo.to (fun _ k => XS.iconst X_12.here hx rfl (hb hby at_33) k) ?_
  show OGo p e below _ (T_12.setTop (mkF m 34 #[.val (.int p1), .val (.int p2), .val (.int p3), .val (.int p4), .val (.int p5), .val (.ref o__1), .val (.ref o__4), .val (.ref o__12), .unset, .unset, .unset, .unset, .unset] [(.int (3 : Int32)), (.int ((p5.toUInt32 >>> ((2 : Int32) &&& 31).toUInt32).toInt32))]))
  refine OGo.to (fun _ k => XS.iand X_12.here hx rfl (hb hby at_34) rfl k) ?_
  refine OGo.to (fun _ k => XS.aload X_12.here hx rfl (hb hby at_35) rfl rfl k) ?_
  refine OGo.to (fun _ k => XS.aload X_12.here hx rfl (hb hby at_37) rfl rfl k) ?_
  refine OGo.to (fun _ k => XS.iloadN X_12.here hx rfl (hb hby at_39) rfl k) ?_
  obtain ⟨_, T_21, Lc_21, X_21, hS_21, hZ, hown, hQ_21, st_21⟩ := own_unS hS_7 (by rw [e_12]; exact (Nat.le_refl T_7.heap.size)) hZ hown X_12 (Q := fun v U L => Qmk Z p4 cs T_7.heap n0 v U.heap L ∧ own_Inv Z U.vm U.heap) (rc := 4) (rs := 8) (W := fun v B => Steps p.tables e below (T_12.setTop (mkF m 40 #[.val (.int p1), .val (.int p2), .val (.int p3), .val (.int p4), .val (.int p5), .val (.ref o__1), .val (.ref o__4), .val (.ref o__12), .unset, .unset, .unset, .unset, .unset] [(.int p4), (.ref o__4), (.ref o__1), (.int (((p5.toUInt32 >>> ((2 : Int32) &&& 31).toUInt32).toInt32) &&& (3 : Int32)))])) (B.setTop { (mkF m 40 #[.val (.int p1), .val (.int p2), .val (.int p3), .val (.int p4), .val (.int p5), .val (.ref o__1), .val (.ref o__4), .val (.ref o__12), .unset, .unset, .unset, .unset, .unset] [(.int p4), (.ref o__4), (.ref o__1), (.int (((p5.toUInt32 >>> ((2 : Int32) &&& 31).toUInt32).toInt32) &&& (3 : Int32)))]) with pc := 43, stack := v.toList ++ [(.ref o__4), (.ref o__1), (.int (((p5.toUInt32 >>> ((2 : Int32) &&& 31).toUInt32).toInt32) &&& (3 : Int32)))] })) <| callSS X_12 hx (y := (⟨"com/example/cogram/cogram/model/TermPairEqualsPinLaw", "mk", "(I)Ljava/lang/String;"⟩ : MethodName)) hown (mvT hZ (hw _ (List.mem_of_getElem? (i := 0) rfl))) (mvT hZ (hw _ (List.mem_of_getElem? (i := 1) rfl))) (mvT hZ (hw _ (List.mem_of_getElem? (i := 2) rfl))) (mvT hZ (hw _ (List.mem_of_getElem? (i := 3) rfl))) (by decide) (own_backOfI (I := own_Inv Z) (W := 3) (rmmk l Z a0 hw [] p4 cs T_7.heap n0 z_10 SC O_11 (hcs) (HH) (HW)) (fun _ W_ => own_Inv.warm hI_7 W_) hZ (hw _ (List.mem_of_getElem? (i := 3) rfl)) (hw _ (List.mem_of_getElem? (i := 2) rfl)) (by decide) (by decide)) (g := (mkF m 40 #[.val (.int p1), .val (.int p2), .val (.int p3), .val (.int p4), .val (.int p5), .val (.ref o__1), .val (.ref o__4), .val (.ref o__12), .unset, .unset, .unset, .unset, .unset] [(.int p4), (.ref o__4), (.ref o__1), (.int (((p5.toUInt32 >>> ((2 : Int32) &&& 31).toUInt32).toInt32) &&& (3 : Int32)))])) rfl (by rw [hml]; rfl) (argsL := [(.int p4)]) (rest := [(.ref o__4), (.ref o__1), (.int (((p5.toUInt32 >>> ((2 : Int32) &&& 31).toUInt32).toInt32) &&& (3 : Int32)))]) (lenOf pd_18 rfl) rfl (by show 2 * 0 + _ ≤ _; exact Nat.le_of_eq rfl) (hb hby at_40) (fun _ _ => ⟨rfl, e_12, (by decide : 12 + 4 ≤ _), (by decide : 24 + 8 ≤ _)⟩)
  obtain ⟨hQ_21, hI_21⟩ := hQ_21
  obtain ⟨o__21, b__21, kb__21, rfl, N_21q, K_21, gq_o__21, sq_o__21, p_21_0, p_21_1, p_21_2, p_21_3⟩ := hQ_21
  have N_21 := Fr.app N_12 N_21q
  refine OGo.to (fun _ k => st_21.trans k) ?_
  have ne_o__1_o__21 : o__1 ≠ o__21 := Nat.ne_of_lt (Nat.lt_of_lt_of_le f_13.lt sq_o__21)
  have ne_b__1_o__21 : b__1 ≠ o__21 := Nat.ne_of_lt (Nat.lt_of_lt_of_le f_16.lt sq_o__21)
  have ne_o__4_o__21 : o__4 ≠ o__21 := Nat.ne_of_lt (Nat.lt_of_lt_of_le f_17.lt sq_o__21)
  have ne_b__4_o__21 : b__4 ≠ o__21 := Nat.ne_of_lt (Nat.lt_of_lt_of_le f_20.lt sq_o__21)
  have ne_o__7_o__21 : o__7 ≠ o__21 := Nat.ne_of_lt (Nat.lt_of_lt_of_le p_7_0.lt sq_o__21)
  have ne_b__7_o__21 : b__7 ≠ o__21 := Nat.ne_of_lt (Nat.lt_of_lt_of_le p_7_3.lt sq_o__21)
  have ne_o__12_o__21 : o__12 ≠ o__21 := Nat.ne_of_lt (Nat.lt_of_lt_of_le p_12_0.lt sq_o__21)
  have ne_b__12_o__21 : b__12 ≠ o__21 := Nat.ne_of_lt (Nat.lt_of_lt_of_le p_12_3.lt sq_o__21)
  have z_22 : n0 ≤ T_21.heap.size := Nat.le_trans z_10 K_21.1
  have O_23 : Old Z n0 T_21.heap := O_11.keep K_21 all0
  show OGo p e below _ (T_21.setTop (mkF m 43 #[.val (.int p1), .val (.int p2), .val (.int p3), .val (.int p4), .val (.int p5), .val (.ref o__1), .val (.ref o__4), .val (.ref o__12), .unset, .unset, .unset, .unset, .unset] [(.ref o__21), (.ref o__4), (.ref o__1), (.int (((p5.toUInt32 >>> ((2 : Int32) &&& 31).toUInt32).toInt32) &&& (3 : Int32)))]))
  have f_25 : Exa Z T_21.heap o__1 "java/lang/String" := (f_13.keep K_21)
  have f_26 : Fld Z T_21.heap o__1 "java/lang/String" "coder" "B" (.int (0 : Int32)) := (f_14.keep K_21 (List.not_mem_nil))
  have f_27 : Fld Z T_21.heap o__1 "java/lang/String" "value" "[B" (.ref b__1) := (f_15.keep K_21 (List.not_mem_nil))
  have f_28 : Arv Z T_21.heap b__1 kb__1 .byte (own_i (own_mk p1).length) ((own_mk p1).map Value.int) (.int (0 : Int32)) := (f_16.keep K_21 (List.not_mem_nil))
  have f_29 : Exa Z T_21.heap o__4 "java/lang/String" := (f_17.keep K_21)
  have f_30 : Fld Z T_21.heap o__4 "java/lang/String" "coder" "B" (.int (0 : Int32)) := (f_18.keep K_21 (List.not_mem_nil))
  have f_31 : Fld Z T_21.heap o__4 "java/lang/String" "value" "[B" (.ref b__4) := (f_19.keep K_21 (List.not_mem_nil))
  have f_32 : Arv Z T_21.heap b__4 kb__4 .byte (own_i (own_mk p2).length) ((own_mk p2).map Value.int) (.int (0 : Int32)) := (f_20.keep K_21 (List.not_mem_nil))
  obtain ⟨_, T_24, Lc_24, X_24, hQ_24, st_24⟩ := own_un X_21 (Q := Qpick Z (((p5.toUInt32 >>> ((2 : Int32) &&& 31).toUInt32).toInt32) &&& (3 : Int32)) o__1 o__4 o__21 b__1 kb__1 (own_mk p1) b__4 kb__4 (own_mk p2) b__21 kb__21 (own_mk p4) T_21.heap n0) (rc := 0) (rs := 0) (W := fun v B => ∀ target, Steps p.tables e below (B.setTop { (mkF m 43 #[.val (.int p1), .val (.int p2), .val (.int p3), .val (.int p4), .val (.int p5), .val (.ref o__1), .val (.ref o__4), .val (.ref o__12), .unset, .unset, .unset, .unset, .unset] [(.ref o__21), (.ref o__4), (.ref o__1), (.int (((p5.toUInt32 >>> ((2 : Int32) &&& 31).toUInt32).toInt32) &&& (3 : Int32)))]) with pc := 46, stack := v.toList ++ [] }) target → Steps p.tables e below (T_21.setTop (mkF m 43 #[.val (.int p1), .val (.int p2), .val (.int p3), .val (.int p4), .val (.int p5), .val (.ref o__1), .val (.ref o__4), .val (.ref o__12), .unset, .unset, .unset, .unset, .unset] [(.ref o__21), (.ref o__4), (.ref o__1), (.int (((p5.toUInt32 >>> ((2 : Int32) &&& 31).toUInt32).toInt32) &&& (3 : Int32)))])) target) <| Jvm.LawKit.callS X_21 hx (y := (⟨"com/example/cogram/cogram/model/TermPairEqualsPinLaw", "pick", "(ILjava/lang/String;Ljava/lang/String;Ljava/lang/String;)Ljava/lang/String;"⟩ : MethodName)) hown (mvT hZ (hw _ (List.mem_of_getElem? (i := 26) rfl))) (mvT hZ (hw _ (List.mem_of_getElem? (i := 27) rfl))) (mvT hZ (hw _ (List.mem_of_getElem? (i := 2) rfl))) (mvT hZ (hw _ (List.mem_of_getElem? (i := 28) rfl))) (by decide) (backOf (W := 0) (rmpick l Z a0 hw [] (((p5.toUInt32 >>> ((2 : Int32) &&& 31).toUInt32).toInt32) &&& (3 : Int32)) o__1 o__4 o__21 b__1 kb__1 (own_mk p1) b__4 kb__4 (own_mk p2) b__21 kb__21 (own_mk p4) T_21.heap n0 z_22 f_25 f_26 f_27 f_28 f_29 f_30 f_31 f_32 p_21_0 p_21_1 p_21_2 p_21_3) hZ (hw _ (List.mem_of_getElem? (i := 28) rfl)) (hw _ (List.mem_of_getElem? (i := 2) rfl)) (by decide) (by decide)) (g := (mkF m 43 #[.val (.int p1), .val (.int p2), .val (.int p3), .val (.int p4), .val (.int p5), .val (.ref o__1), .val (.ref o__4), .val (.ref o__12), .unset, .unset, .unset, .unset, .unset] [(.ref o__21), (.ref o__4), (.ref o__1), (.int (((p5.toUInt32 >>> ((2 : Int32) &&& 31).toUInt32).toInt32) &&& (3 : Int32)))])) rfl (by rw [hml]; rfl) (argsL := [(.int (((p5.toUInt32 >>> ((2 : Int32) &&& 31).toUInt32).toInt32) &&& (3 : Int32))), (.ref o__1), (.ref o__4), (.ref o__21)]) (rest := []) (lenOf pd_19 rfl) rfl (by show 2 * 0 + _ ≤ _; exact Nat.le_of_eq rfl) (hb hby at_43) (fun _ _ => ⟨rfl, (rfl : T_21.heap = T_21.heap), (by decide : 16 + 0 ≤ _), (by decide : 32 + 0 ≤ _)⟩)
  obtain ⟨o__24, b__24, kb__24, rfl, N_24q, e_24, p_24_0, p_24_1, p_24_2, p_24_3⟩ := hQ_24
  have N_24 := Fr.app N_21 N_24q
  refine OGo.to st_24 ?_
  rw [e_24] at p_24_0 p_24_1 p_24_2 p_24_3
  show OGo p e below _ (T_24.setTop (mkF m 46 #[.val (.int p1), .val (.int p2), .val (.int p3), .val (.int p4), .val (.int p5), .val (.ref o__1), .val (.ref o__4), .val (.ref o__12), .unset, .unset, .unset, .unset, .unset] [(.ref o__24)]))
  refine OGo.to (fun _ k => XS.astore X_24.here hx rfl (hb hby at_46) rfl rfl (l' := #[.val (.int p1), .val (.int p2), .val (.int p3), .val (.int p4), .val (.int p5), .val (.ref o__1), .val (.ref o__4), .val (.ref o__12), .val (.ref o__24), .unset, .unset, .unset, .unset]) rfl k) ?_
  have f_34 : Exa Z T_21.heap o__7 "java/lang/String" := (p_7_0.keep K_21)
  have f_35 : Arv Z T_21.heap b__7 kb__7 .byte (own_i (own_mk p3).length) ((own_mk p3).map Value.int) (.int (0 : Int32)) := (p_7_3.keep K_21 (List.not_mem_nil))
  have f_36 : Exa Z T_21.heap o__12 "java/lang/String" := (p_12_0.keep K_21)
  have f_37 : Arv Z T_21.heap b__12 kb__12 .byte (own_i (own_pick (p5 &&& (3 : Int32)) (own_mk p1) (own_mk p2) (own_mk p3)).length) ((own_pick (p5 &&& (3 : Int32)) (own_mk p1) (own_mk p2) (own_mk p3)).map Value.int) (.int (0 : Int32)) := (p_12_3.keep K_21 (List.not_mem_nil))
  obtain ⟨T_33, h_33, X_33, e_33, E_33, A_33, D_33, -, st_33⟩ := newO X_24 hx hZ hown (hw _ (List.mem_of_getElem? (i := 29) rfl)) (hw _ (List.mem_of_getElem? (i := 30) rfl)) (hw _ (List.mem_of_getElem? (i := 31) rfl)) e_24 (g := (mkF m 48 #[.val (.int p1), .val (.int p2), .val (.int p3), .val (.int p4), .val (.int p5), .val (.ref o__1), .val (.ref o__4), .val (.ref o__12), .val (.ref o__24), .unset, .unset, .unset, .unset] [])) rfl (hb hby at_48) (by decide) (by decide)
  obtain ⟨b_33, g_33⟩ : ∃ z, z = T_21.heap.size := ⟨_, rfl⟩
  rw [← g_33] at A_33 D_33 st_33
  have g_b_33 : n0 ≤ b_33 := Nat.le_trans z_22 (Nat.le_of_eq g_33.symm)
  refine OGo.to st_33 ?_
  have ne_o__1_b_33 : o__1 ≠ b_33 := Nat.ne_of_lt (Nat.lt_of_lt_of_le f_25.lt (Nat.le_of_eq g_33.symm))
  have ne_b__1_b_33 : b__1 ≠ b_33 := Nat.ne_of_lt (Nat.lt_of_lt_of_le f_28.lt (Nat.le_of_eq g_33.symm))
  have ne_o__4_b_33 : o__4 ≠ b_33 := Nat.ne_of_lt (Nat.lt_of_lt_of_le f_29.lt (Nat.le_of_eq g_33.symm))
  have ne_b__4_b_33 : b__4 ≠ b_33 := Nat.ne_of_lt (Nat.lt_of_lt_of_le f_32.lt (Nat.le_of_eq g_33.symm))
  have ne_o__7_b_33 : o__7 ≠ b_33 := Nat.ne_of_lt (Nat.lt_of_lt_of_le f_34.lt (Nat.le_of_eq g_33.symm))
  have ne_b__7_b_33 : b__7 ≠ b_33 := Nat.ne_of_lt (Nat.lt_of_lt_of_le f_35.lt (Nat.le_of_eq g_33.symm))
  have ne_o__12_b_33 : o__12 ≠ b_33 := Nat.ne_of_lt (Nat.lt_of_lt_of_le f_36.lt (Nat.le_of_eq g_33.symm))
  have ne_b__12_b_33 : b__12 ≠ b_33 := Nat.ne_of_lt (Nat.lt_of_lt_of_le f_37.lt (Nat.le_of_eq g_33.symm))
  have ne_o__21_b_33 : o__21 ≠ b_33 := Nat.ne_of_lt (Nat.lt_of_lt_of_le p_21_0.lt (Nat.le_of_eq g_33.symm))
  have ne_b__21_b_33 : b__21 ≠ b_33 := Nat.ne_of_lt (Nat.lt_of_lt_of_le p_21_3.lt (Nat.le_of_eq g_33.symm))
  have ne_o__24_b_33 : o__24 ≠ b_33 := Nat.ne_of_lt (Nat.lt_of_lt_of_le p_24_0.lt (Nat.le_of_eq g_33.symm))
  have ne_b__24_b_33 : b__24 ≠ b_33 := Nat.ne_of_lt (Nat.lt_of_lt_of_le p_24_3.lt (Nat.le_of_eq g_33.symm))
  have z_38 : n0 ≤ h_33.size := Nat.le_trans z_22 E_33.1
  have O_39 : Old Z n0 h_33 := O_23.ext E_33
  have F_first_b_33 : Fld Z h_33 b_33 "com/example/cogram/cogram/model/TermPair" "first" "Ljava/lang/String;" .null := D_33 (Or.inr (hw _ (List.mem_of_getElem? (i := 63) rfl))) (ty := (.object "java/lang/String")) (by decide)
  have F_second_b_33 : Fld Z h_33 b_33 "com/example/cogram/cogram/model/TermPair" "second" "Ljava/lang/String;" .null := D_33 (Or.inr (hw _ (List.mem_of_getElem? (i := 65) rfl))) (ty := (.object "java/lang/String")) (by decide)
  show OGo p e below _ (T_33.setTop (mkF m 51 #[.val (.int p1), .val (.int p2), .val (.int p3), .val (.int p4), .val (.int p5), .val (.ref o__1), .val (.ref o__4), .val (.ref o__12), .val (.ref o__24), .unset, .unset, .unset, .unset] [(.ref b_33)]))
  refine OGo.to (fun _ k => XS.dup X_33.here hx rfl (hb hby at_51) rfl rfl k) ?_
  refine OGo.to (fun _ k => XS.aload X_33.here hx rfl (hb hby at_52) rfl rfl k) ?_
  refine OGo.to (fun _ k => XS.aload X_33.here hx rfl (hb hby at_54) rfl rfl k) ?_
  have f_41 : Exa Z h_33 o__1 "java/lang/String" := (f_25.ext E_33)
  have f_42 : Fld Z h_33 o__1 "java/lang/String" "coder" "B" (.int (0 : Int32)) := (f_26.ext E_33)
  have f_43 : Fld Z h_33 o__1 "java/lang/String" "value" "[B" (.ref b__1) := (f_27.ext E_33)
  have f_44 : Arv Z h_33 b__1 kb__1 .byte (own_i (own_mk p1).length) ((own_mk p1).map Value.int) (.int (0 : Int32)) := (f_28.ext E_33)
  have f_45 : Exa Z h_33 o__4 "java/lang/String" := (f_29.ext E_33)
  have f_46 : Fld Z h_33 o__4 "java/lang/String" "coder" "B" (.int (0 : Int32)) := (f_30.ext E_33)
  have f_47 : Fld Z h_33 o__4 "java/lang/String" "value" "[B" (.ref b__4) := (f_31.ext E_33)
  have f_48 : Arv Z h_33 b__4 kb__4 .byte (own_i (own_mk p2).length) ((own_mk p2).map Value.int) (.int (0 : Int32)) := (f_32.ext E_33)
  obtain ⟨_, T_40, Lc_40, X_40, hQ_40, st_40⟩ := own_un X_33 (Q := Qtp Z b_33 o__1 o__4 b__1 kb__1 (own_mk p1) b__4 kb__4 (own_mk p2) cs h_33 n0) (rc := 0) (rs := 0) (W := fun v B => Steps p.tables e below (T_33.setTop (mkF m 56 #[.val (.int p1), .val (.int p2), .val (.int p3), .val (.int p4), .val (.int p5), .val (.ref o__1), .val (.ref o__4), .val (.ref o__12), .val (.ref o__24), .unset, .unset, .unset, .unset] [(.ref o__4), (.ref o__1), (.ref b_33), (.ref b_33)])) (B.setTop { (mkF m 56 #[.val (.int p1), .val (.int p2), .val (.int p3), .val (.int p4), .val (.int p5), .val (.ref o__1), .val (.ref o__4), .val (.ref o__12), .val (.ref o__24), .unset, .unset, .unset, .unset] [(.ref o__4), (.ref o__1), (.ref b_33), (.ref b_33)]) with pc := 59, stack := v.toList ++ [(.ref b_33)] })) <| X_33.specialBack hx (y := (⟨"com/example/cogram/cogram/model/TermPair", "<init>", "(Ljava/lang/String;Ljava/lang/String;)V"⟩ : MethodName)) rfl hown (mvT hZ (hw _ (List.mem_of_getElem? (i := 32) rfl))) (mvT hZ (hw _ (List.mem_of_getElem? (i := 33) rfl))) (mvT hZ (hw _ (List.mem_of_getElem? (i := 34) rfl))) (by decide) (backOf (W := 1) (rmtp l Z a0 hw [] b_33 o__1 o__4 b__1 kb__1 (own_mk p1) b__4 kb__4 (own_mk p2) cs h_33 n0 z_38 A_33 F_first_b_33 F_second_b_33 g_b_33 f_41 f_42 f_43 f_44 f_45 f_46 f_47 f_48 ((own_ok_mk _)) ((own_ok_mk _)) SC O_39 (hcs) (Ne.symm ne_o__1_b_33) (Ne.symm ne_o__4_b_33) (Ne.symm ne_b__1_b_33) (Ne.symm ne_b__4_b_33)) hZ (hw _ (List.mem_of_getElem? (i := 34) rfl)) (hw _ (List.mem_of_getElem? (i := 31) rfl)) (by decide) (by decide)) (g := (mkF m 56 #[.val (.int p1), .val (.int p2), .val (.int p3), .val (.int p4), .val (.int p5), .val (.ref o__1), .val (.ref o__4), .val (.ref o__12), .val (.ref o__24), .unset, .unset, .unset, .unset] [(.ref o__4), (.ref o__1), (.ref b_33), (.ref b_33)])) rfl (by rw [hml]; rfl) (Steps.refl _) (a := b_33) (argsL := [(.ref o__1), (.ref o__4)]) (rest := [(.ref b_33)]) (lenOf pd_20 rfl) rfl (by show 2 * 0 + _ ≤ _; exact Nat.le_of_eq rfl) (hb hby at_56) (fun _ _ => ⟨rfl, e_33, (by decide : 17 + 0 ≤ _), (by decide : 34 + 0 ≤ _)⟩)
  obtain ⟨f__40, bf__40, kf__40, s2__40, bs__40, ks__40, rfl, N_40q, K_40, p_40_0, p_40_1, p_40_2, p_40_3, p_40_4, p_40_5, p_40_6, p_40_7, p_40_8, p_40_9⟩ := hQ_40
  have N_40 := Fr.app N_24 N_40q
  refine OGo.to (fun _ k => st_40.trans k) ?_
  have z_49 : n0 ≤ T_40.heap.size := Nat.le_trans z_38 K_40.1
  have O_50 : Old Z n0 T_40.heap := O_39.keep K_40 (allS g_b_33 all0)
  show OGo p e below _ (T_40.setTop (mkF m 59 #[.val (.int p1), .val (.int p2), .val (.int p3), .val (.int p4), .val (.int p5), .val (.ref o__1), .val (.ref o__4), .val (.ref o__12), .val (.ref o__24), .unset, .unset, .unset, .unset] [(.ref b_33)]))
  refine OGo.to (fun _ k => XS.astore X_40.here hx rfl (hb hby at_59) rfl rfl (l' := #[.val (.int p1), .val (.int p2), .val (.int p3), .val (.int p4), .val (.int p5), .val (.ref o__1), .val (.ref o__4), .val (.ref o__12), .val (.ref o__24), .val (.ref b_33), .unset, .unset, .unset]) rfl k) ?_
  refine OGo.to (fun _ k => XS.iload X_40.here hx rfl (hb hby at_61) rfl k) ?_
  refine OGo.to (fun _ k => XS.iconst X_40.here hx rfl (hb hby at_63) k) ?_
  refine OGo.to (fun _ k => XS.iushr X_40.here hx rfl (hb hby at_64) rfl k) ?_
  refine OGo.to (fun _ k => XS.iconst X_40.here hx rfl (hb hby at_65) k) ?_
  refine OGo.to (fun _ k => XS.iand X_40.here hx rfl (hb hby at_66) rfl k) ?_
  show OGo p e below _ (T_40.setTop (mkF m 67 #[.val (.int p1), .val (.int p2), .val (.int p3), .val (.int p4), .val (.int p5), .val (.ref o__1), .val (.ref o__4), .val (.ref o__12), .val (.ref o__24), .val (.ref b_33), .unset, .unset, .unset] [(.int (((p5.toUInt32 >>> ((4 : Int32) &&& 31).toUInt32).toInt32) &&& (3 : Int32)))]))
  obtain ⟨kd, hv_kd⟩ : ∃ z : Int32, z = (((p5.toUInt32 >>> ((4 : Int32) &&& 31).toUInt32).toInt32) &&& (3 : Int32)) := ⟨_, rfl⟩
  rw [← hv_kd]
  refine OGo.to (fun _ k => XS.istore X_40.here hx rfl (hb hby at_67) rfl (l' := #[.val (.int p1), .val (.int p2), .val (.int p3), .val (.int p4), .val (.int p5), .val (.ref o__1), .val (.ref o__4), .val (.ref o__12), .val (.ref o__24), .val (.ref b_33), .val (.int kd), .unset, .unset]) rfl k) ?_
  show OGo p e below _ (T_40.setTop (mkF m 69 #[.val (.int p1), .val (.int p2), .val (.int p3), .val (.int p4), .val (.int p5), .val (.ref o__1), .val (.ref o__4), .val (.ref o__12), .val (.ref o__24), .val (.ref b_33), .val (.int kd), .unset, .unset] []))
  refine OGo.to (fun _ k => XS.iload X_40.here hx rfl (hb hby at_69) rfl k) ?_
  by_cases hc71__51 : kd = (0 : Int32)
  ·  -- pc 71: yes
    refine OGo.to (fun _ k => XS.ifNo X_40.here hx rfl (hb hby at_71) rfl ((if0 _ _).trans (teq hc71__51).2) k) ?_
    show OGo p e below _ (T_40.setTop (mkF m 74 #[.val (.int p1), .val (.int p2), .val (.int p3), .val (.int p4), .val (.int p5), .val (.ref o__1), .val (.ref o__4), .val (.ref o__12), .val (.ref o__24), .val (.ref b_33), .val (.int kd), .unset, .unset] []))
    refine OGo.to (fun _ k => XS.aload X_40.here hx rfl (hb hby at_74) rfl rfl k) ?_
    refine OGo.to (fun _ k => XS.aconstNull X_40.here hx rfl (hb hby at_76) k) ?_
    have f_53 : Exa Z T_40.heap b_33 "com/example/cogram/cogram/model/TermPair" := (A_33.keep K_40)
    obtain ⟨cq_52, kq_52, q_52a, q_52b, q_52c⟩ := isOf hZ (rfl : T_40.heap = T_40.heap) f_53
    obtain ⟨_, T_52, Lc_52, X_52, hQ_52, st_52⟩ := own_un X_40 (Q := QteN Z b_33 T_40.heap n0) (rc := 0) (rs := 0) (W := fun v B => Steps p.tables e below (T_40.setTop (mkF m 77 #[.val (.int p1), .val (.int p2), .val (.int p3), .val (.int p4), .val (.int p5), .val (.ref o__1), .val (.ref o__4), .val (.ref o__12), .val (.ref o__24), .val (.ref b_33), .val (.int kd), .unset, .unset] [.null, (.ref b_33)])) (B.setTop { (mkF m 77 #[.val (.int p1), .val (.int p2), .val (.int p3), .val (.int p4), .val (.int p5), .val (.ref o__1), .val (.ref o__4), .val (.ref o__12), .val (.ref o__24), .val (.ref b_33), .val (.int kd), .unset, .unset] [.null, (.ref b_33)]) with pc := 80, stack := v.toList ++ [] })) <| X_40.virtualBack hx (y := (⟨"com/example/cogram/cogram/model/TermPair", "equals", "(Ljava/lang/Object;)Z"⟩ : MethodName)) (z := (⟨"com/example/cogram/cogram/model/TermPair", "equals", "(Ljava/lang/Object;)Z"⟩ : MethodName)) hown (mvT hZ (hw _ (List.mem_of_getElem? (i := 66) rfl))) (mvT hZ (hw _ (List.mem_of_getElem? (i := 67) rfl))) (notFace_of_selects (args := #[]) (mvT hZ (hw _ (List.mem_of_getElem? (i := 69) rfl)))) (mvT hZ (hw _ (List.mem_of_getElem? (i := 69) rfl))) (mvT hZ (hw _ (List.mem_of_getElem? (i := 68) rfl))) (by decide) (backOf (W := 0) (rmteN l Z a0 hw [] b_33 T_40.heap n0 z_49 ) hZ (hw _ (List.mem_of_getElem? (i := 70) rfl)) (hw _ (List.mem_of_getElem? (i := 31) rfl)) (by decide) (by decide)) q_52a q_52c (g := (mkF m 77 #[.val (.int p1), .val (.int p2), .val (.int p3), .val (.int p4), .val (.int p5), .val (.ref o__1), .val (.ref o__4), .val (.ref o__12), .val (.ref o__24), .val (.ref b_33), .val (.int kd), .unset, .unset] [.null, (.ref b_33)])) rfl (by rw [hml]; rfl) (Steps.refl _) (argsL := [.null]) (rest := []) (lenOf pd_17 rfl) rfl (by show 2 * 0 + _ ≤ _; exact Nat.le_of_eq rfl) (hb hby at_77) (fun _ _ => ⟨rfl, (rfl : T_40.heap = T_40.heap), (by decide : 17 + 0 ≤ _), (by decide : 34 + 0 ≤ _)⟩)
    obtain ⟨rfl, N_52q, e_52⟩ := hQ_52
    have N_52 := Fr.app N_40 N_52q
    refine OGo.to (fun _ k => st_52.trans k) ?_
    show OGo p e below _ (T_52.setTop (mkF m 80 #[.val (.int p1), .val (.int p2), .val (.int p3), .val (.int p4), .val (.int p5), .val (.ref o__1), .val (.ref o__4), .val (.ref o__12), .val (.ref o__24), .val (.ref b_33), .val (.int kd), .unset, .unset] [(.int (0 : Int32))]))
    have hc80__54 : (0 : Int32) = (0 : Int32) := by decide
    refine OGo.to (fun _ k => XS.ifNo X_52.here hx rfl (hb hby at_80) rfl ((if0 _ _).trans (teq hc80__54).2) k) ?_
    show OGo p e below _ (T_52.setTop (mkF m 83 #[.val (.int p1), .val (.int p2), .val (.int p3), .val (.int p4), .val (.int p5), .val (.ref o__1), .val (.ref o__4), .val (.ref o__12), .val (.ref o__24), .val (.ref b_33), .val (.int kd), .unset, .unset] []))
    refine OGo.to (fun _ k => XS.iconst X_52.here hx rfl (hb hby at_83) k) ?_
    refine OGo.to (fun _ k => XS.goto X_52.here hx rfl (pc0 := 84) (pc' := 88) rfl (hb hby at_84) (by decide) (by decide) k) ?_
    refine OGo.retW (Q := Q0 Z p1 p2 p3 p4 p5 cs h0 n0) X_52 hS_21 (by rw [e_52]; exact (Nat.le_trans (Nat.le_trans (Nat.le_refl T_21.heap.size) E_33.1) K_40.1)) (some (.int (1 : Int32))) (fun h => by rw [Bd.returns] at h; cases h) Bd.notSynchronized (fun fs hr => retN X_52 hx (t := .boolean) (z := (1 : Int32)) Bd.returns (by simp) (hb hby at_88) hr) ?_ (by decide) (by decide)
    show Q0 Z p1 p2 p3 p4 p5 cs h0 n0 _ T_52.heap _
    rw [e_52]
    exact ⟨rfl, N_52⟩
  ·  -- pc 71: no
    refine OGo.to (fun _ k => XS.ifYes X_40.here hx rfl (pc0 := 71) (pc' := 89) rfl (hb hby at_71) rfl ((if0 _ _).trans (feq hc71__51).2) (by decide) (by decide) k) ?_
    show OGo p e below _ (T_40.setTop (mkF m 89 #[.val (.int p1), .val (.int p2), .val (.int p3), .val (.int p4), .val (.int p5), .val (.ref o__1), .val (.ref o__4), .val (.ref o__12), .val (.ref o__24), .val (.ref b_33), .val (.int kd), .unset, .unset] []))
    refine OGo.to (fun _ k => XS.iload X_40.here hx rfl (hb hby at_89) rfl k) ?_
    refine OGo.to (fun _ k => XS.iconst X_40.here hx rfl (hb hby at_91) k) ?_
    by_cases hc92__55 : kd = (1 : Int32)
    ·  -- pc 92: yes
      refine OGo.to (fun _ k => XS.icmpNo X_40.here hx rfl (hb hby at_92) rfl (teq hc92__55).2 k) ?_
      show OGo p e below _ (T_40.setTop (mkF m 95 #[.val (.int p1), .val (.int p2), .val (.int p3), .val (.int p4), .val (.int p5), .val (.ref o__1), .val (.ref o__4), .val (.ref o__12), .val (.ref o__24), .val (.ref b_33), .val (.int kd), .unset, .unset] []))
      refine OGo.to (fun _ k => XS.aload X_40.here hx rfl (hb hby at_95) rfl rfl k) ?_
      refine OGo.to (fun _ k => XS.astore X_40.here hx rfl (hb hby at_97) rfl rfl (l' := #[.val (.int p1), .val (.int p2), .val (.int p3), .val (.int p4), .val (.int p5), .val (.ref o__1), .val (.ref o__4), .val (.ref o__12), .val (.ref o__24), .val (.ref b_33), .val (.int kd), .val (.ref o__12), .unset]) rfl k) ?_
      refine OGo.to (fun _ k => XS.aload X_40.here hx rfl (hb hby at_99) rfl rfl k) ?_
      refine OGo.to (fun _ k => XS.aload X_40.here hx rfl (hb hby at_101) rfl rfl k) ?_
      have f_57 : Exa Z T_40.heap o__12 "java/lang/String" := ((f_36.ext E_33).keep K_40)
      have f_58 : Exa Z T_40.heap b_33 "com/example/cogram/cogram/model/TermPair" := (A_33.keep K_40)
      obtain ⟨cq_56, kq_56, q_56a, q_56b, q_56c⟩ := isOf hZ (rfl : T_40.heap = T_40.heap) f_58
      obtain ⟨_, T_56, Lc_56, X_56, hQ_56, st_56⟩ := own_un X_40 (Q := QteS Z b_33 o__12 T_40.heap n0) (rc := 0) (rs := 0) (W := fun v B => Steps p.tables e below (T_40.setTop (mkF m 103 #[.val (.int p1), .val (.int p2), .val (.int p3), .val (.int p4), .val (.int p5), .val (.ref o__1), .val (.ref o__4), .val (.ref o__12), .val (.ref o__24), .val (.ref b_33), .val (.int kd), .val (.ref o__12), .unset] [(.ref o__12), (.ref b_33)])) (B.setTop { (mkF m 103 #[.val (.int p1), .val (.int p2), .val (.int p3), .val (.int p4), .val (.int p5), .val (.ref o__1), .val (.ref o__4), .val (.ref o__12), .val (.ref o__24), .val (.ref b_33), .val (.int kd), .val (.ref o__12), .unset] [(.ref o__12), (.ref b_33)]) with pc := 106, stack := v.toList ++ [] })) <| X_40.virtualBack hx (y := (⟨"com/example/cogram/cogram/model/TermPair", "equals", "(Ljava/lang/Object;)Z"⟩ : MethodName)) (z := (⟨"com/example/cogram/cogram/model/TermPair", "equals", "(Ljava/lang/Object;)Z"⟩ : MethodName)) hown (mvT hZ (hw _ (List.mem_of_getElem? (i := 66) rfl))) (mvT hZ (hw _ (List.mem_of_getElem? (i := 67) rfl))) (notFace_of_selects (args := #[]) (mvT hZ (hw _ (List.mem_of_getElem? (i := 69) rfl)))) (mvT hZ (hw _ (List.mem_of_getElem? (i := 69) rfl))) (mvT hZ (hw _ (List.mem_of_getElem? (i := 68) rfl))) (by decide) (backOf (W := 0) (rmteS l Z a0 hw [] b_33 o__12 T_40.heap n0 z_49 f_57) hZ (hw _ (List.mem_of_getElem? (i := 70) rfl)) (hw _ (List.mem_of_getElem? (i := 31) rfl)) (by decide) (by decide)) q_56a q_56c (g := (mkF m 103 #[.val (.int p1), .val (.int p2), .val (.int p3), .val (.int p4), .val (.int p5), .val (.ref o__1), .val (.ref o__4), .val (.ref o__12), .val (.ref o__24), .val (.ref b_33), .val (.int kd), .val (.ref o__12), .unset] [(.ref o__12), (.ref b_33)])) rfl (by rw [hml]; rfl) (Steps.refl _) (argsL := [(.ref o__12)]) (rest := []) (lenOf pd_17 rfl) rfl (by show 2 * 0 + _ ≤ _; exact Nat.le_of_eq rfl) (hb hby at_103) (fun _ _ => ⟨rfl, (rfl : T_40.heap = T_40.heap), (by decide : 17 + 0 ≤ _), (by decide : 34 + 0 ≤ _)⟩)
      obtain ⟨rfl, N_56q, e_56⟩ := hQ_56
      have N_56 := Fr.app N_40 N_56q
      refine OGo.to (fun _ k => st_56.trans k) ?_
      show OGo p e below _ (T_56.setTop (mkF m 106 #[.val (.int p1), .val (.int p2), .val (.int p3), .val (.int p4), .val (.int p5), .val (.ref o__1), .val (.ref o__4), .val (.ref o__12), .val (.ref o__24), .val (.ref b_33), .val (.int kd), .val (.ref o__12), .unset] [(.int (0 : Int32))]))
      have hc106__59 : (0 : Int32) = (0 : Int32) := by decide
      refine OGo.to (fun _ k => XS.ifNo X_56.here hx rfl (hb hby at_106) rfl ((if0 _ _).trans (teq hc106__59).2) k) ?_
      show OGo p e below _ (T_56.setTop (mkF m 109 #[.val (.int p1), .val (.int p2), .val (.int p3), .val (.int p4), .val (.int p5), .val (.ref o__1), .val (.ref o__4), .val (.ref o__12), .val (.ref o__24), .val (.ref b_33), .val (.int kd), .val (.ref o__12), .unset] []))
      refine OGo.to (fun _ k => XS.iconst X_56.here hx rfl (hb hby at_109) k) ?_
      refine OGo.to (fun _ k => XS.goto X_56.here hx rfl (pc0 := 110) (pc' := 114) rfl (hb hby at_110) (by decide) (by decide) k) ?_
      refine OGo.retW (Q := Q0 Z p1 p2 p3 p4 p5 cs h0 n0) X_56 hS_21 (by rw [e_56]; exact (Nat.le_trans (Nat.le_trans (Nat.le_refl T_21.heap.size) E_33.1) K_40.1)) (some (.int (1 : Int32))) (fun h => by rw [Bd.returns] at h; cases h) Bd.notSynchronized (fun fs hr => retN X_56 hx (t := .boolean) (z := (1 : Int32)) Bd.returns (by simp) (hb hby at_114) hr) ?_ (by decide) (by decide)
      show Q0 Z p1 p2 p3 p4 p5 cs h0 n0 _ T_56.heap _
      rw [e_56]
      exact ⟨rfl, N_56⟩
    ·  -- pc 92: no
      refine OGo.to (fun _ k => XS.icmpYes X_40.here hx rfl (pc0 := 92) (pc' := 115) rfl (hb hby at_92) rfl (feq hc92__55).2 (by decide) (by decide) k) ?_
      show OGo p e below _ (T_40.setTop (mkF m 115 #[.val (.int p1), .val (.int p2), .val (.int p3), .val (.int p4), .val (.int p5), .val (.ref o__1), .val (.ref o__4), .val (.ref o__12), .val (.ref o__24), .val (.ref b_33), .val (.int kd), .unset, .unset] []))
      have f_61 : Exa Z T_40.heap o__1 "java/lang/String" := (f_41.keep K_40)
      have f_62 : Arv Z T_40.heap b__1 kb__1 .byte (own_i (own_mk p1).length) ((own_mk p1).map Value.int) (.int (0 : Int32)) := (f_44.keep K_40 (fun q => ne_b__1_b_33 (List.mem_singleton.mp q)))
      have f_63 : Exa Z T_40.heap o__4 "java/lang/String" := (f_45.keep K_40)
      have f_64 : Arv Z T_40.heap b__4 kb__4 .byte (own_i (own_mk p2).length) ((own_mk p2).map Value.int) (.int (0 : Int32)) := (f_48.keep K_40 (fun q => ne_b__4_b_33 (List.mem_singleton.mp q)))
      have f_65 : Exa Z T_40.heap o__7 "java/lang/String" := ((f_34.ext E_33).keep K_40)
      have f_66 : Arv Z T_40.heap b__7 kb__7 .byte (own_i (own_mk p3).length) ((own_mk p3).map Value.int) (.int (0 : Int32)) := ((f_35.ext E_33).keep K_40 (fun q => ne_b__7_b_33 (List.mem_singleton.mp q)))
      have f_67 : Exa Z T_40.heap o__12 "java/lang/String" := ((f_36.ext E_33).keep K_40)
      have f_68 : Arv Z T_40.heap b__12 kb__12 .byte (own_i (own_pick (p5 &&& (3 : Int32)) (own_mk p1) (own_mk p2) (own_mk p3)).length) ((own_pick (p5 &&& (3 : Int32)) (own_mk p1) (own_mk p2) (own_mk p3)).map Value.int) (.int (0 : Int32)) := ((f_37.ext E_33).keep K_40 (fun q => ne_b__12_b_33 (List.mem_singleton.mp q)))
      have f_69 : Exa Z T_40.heap o__21 "java/lang/String" := ((p_21_0.ext E_33).keep K_40)
      have f_70 : Arv Z T_40.heap b__21 kb__21 .byte (own_i (own_mk p4).length) ((own_mk p4).map Value.int) (.int (0 : Int32)) := ((p_21_3.ext E_33).keep K_40 (fun q => ne_b__21_b_33 (List.mem_singleton.mp q)))
      have f_71 : Exa Z T_40.heap o__24 "java/lang/String" := ((p_24_0.ext E_33).keep K_40)
      have f_72 : Arv Z T_40.heap b__24 kb__24 .byte (own_i (own_pick (((p5.toUInt32 >>> ((2 : Int32) &&& 31).toUInt32).toInt32) &&& (3 : Int32)) (own_mk p1) (own_mk p2) (own_mk p4)).length) ((own_pick (((p5.toUInt32 >>> ((2 : Int32) &&& 31).toUInt32).toInt32) &&& (3 : Int32)) (own_mk p1) (own_mk p2) (own_mk p4)).map Value.int) (.int (0 : Int32)) := ((p_24_3.ext E_33).keep K_40 (fun q => ne_b__24_b_33 (List.mem_singleton.mp q)))
      have f_73 : Exa Z T_40.heap b_33 "com/example/cogram/cogram/model/TermPair" := (A_33.keep K_40)
      obtain ⟨T_60, h_60, X_60, e_60, E_60, A_60, D_60, -, st_60⟩ := newO X_40 hx hZ hown (hw _ (List.mem_of_getElem? (i := 29) rfl)) (hw _ (List.mem_of_getElem? (i := 30) rfl)) (hw _ (List.mem_of_getElem? (i := 31) rfl)) (rfl : T_40.heap = T_40.heap) (g := (mkF m 115 #[.val (.int p1), .val (.int p2), .val (.int p3), .val (.int p4), .val (.int p5), .val (.ref o__1), .val (.ref o__4), .val (.ref o__12), .val (.ref o__24), .val (.ref b_33), .val (.int kd), .unset, .unset] [])) rfl (hb hby at_115) (by decide) (by decide)
      obtain ⟨b_60, g_60⟩ : ∃ z, z = T_40.heap.size := ⟨_, rfl⟩
      rw [← g_60] at A_60 D_60 st_60
      have g_b_60 : n0 ≤ b_60 := Nat.le_trans z_49 (Nat.le_of_eq g_60.symm)
      refine OGo.to st_60 ?_
      have ne_o__1_b_60 : o__1 ≠ b_60 := Nat.ne_of_lt (Nat.lt_of_lt_of_le f_61.lt (Nat.le_of_eq g_60.symm))
      have ne_b__1_b_60 : b__1 ≠ b_60 := Nat.ne_of_lt (Nat.lt_of_lt_of_le f_62.lt (Nat.le_of_eq g_60.symm))
      have ne_o__4_b_60 : o__4 ≠ b_60 := Nat.ne_of_lt (Nat.lt_of_lt_of_le f_63.lt (Nat.le_of_eq g_60.symm))
      have ne_b__4_b_60 : b__4 ≠ b_60 := Nat.ne_of_lt (Nat.lt_of_lt_of_le f_64.lt (Nat.le_of_eq g_60.symm))
      have ne_o__7_b_60 : o__7 ≠ b_60 := Nat.ne_of_lt (Nat.lt_of_lt_of_le f_65.lt (Nat.le_of_eq g_60.symm))
      have ne_b__7_b_60 : b__7 ≠ b_60 := Nat.ne_of_lt (Nat.lt_of_lt_of_le f_66.lt (Nat.le_of_eq g_60.symm))
      have ne_o__12_b_60 : o__12 ≠ b_60 := Nat.ne_of_lt (Nat.lt_of_lt_of_le f_67.lt (Nat.le_of_eq g_60.symm))
      have ne_b__12_b_60 : b__12 ≠ b_60 := Nat.ne_of_lt (Nat.lt_of_lt_of_le f_68.lt (Nat.le_of_eq g_60.symm))
      have ne_o__21_b_60 : o__21 ≠ b_60 := Nat.ne_of_lt (Nat.lt_of_lt_of_le f_69.lt (Nat.le_of_eq g_60.symm))
      have ne_b__21_b_60 : b__21 ≠ b_60 := Nat.ne_of_lt (Nat.lt_of_lt_of_le f_70.lt (Nat.le_of_eq g_60.symm))
      have ne_o__24_b_60 : o__24 ≠ b_60 := Nat.ne_of_lt (Nat.lt_of_lt_of_le f_71.lt (Nat.le_of_eq g_60.symm))
      have ne_b__24_b_60 : b__24 ≠ b_60 := Nat.ne_of_lt (Nat.lt_of_lt_of_le f_72.lt (Nat.le_of_eq g_60.symm))
      have ne_b_33_b_60 : b_33 ≠ b_60 := Nat.ne_of_lt (Nat.lt_of_lt_of_le f_73.lt (Nat.le_of_eq g_60.symm))
      have ne_f__40_b_60 : f__40 ≠ b_60 := Nat.ne_of_lt (Nat.lt_of_lt_of_le p_40_2.lt (Nat.le_of_eq g_60.symm))
      have ne_bf__40_b_60 : bf__40 ≠ b_60 := Nat.ne_of_lt (Nat.lt_of_lt_of_le p_40_5.lt (Nat.le_of_eq g_60.symm))
      have ne_s2__40_b_60 : s2__40 ≠ b_60 := Nat.ne_of_lt (Nat.lt_of_lt_of_le p_40_6.lt (Nat.le_of_eq g_60.symm))
      have ne_bs__40_b_60 : bs__40 ≠ b_60 := Nat.ne_of_lt (Nat.lt_of_lt_of_le p_40_9.lt (Nat.le_of_eq g_60.symm))
      have z_74 : n0 ≤ h_60.size := Nat.le_trans z_49 E_60.1
      have O_75 : Old Z n0 h_60 := O_50.ext E_60
      have F_first_b_60 : Fld Z h_60 b_60 "com/example/cogram/cogram/model/TermPair" "first" "Ljava/lang/String;" .null := D_60 (Or.inr (hw _ (List.mem_of_getElem? (i := 63) rfl))) (ty := (.object "java/lang/String")) (by decide)
      have F_second_b_60 : Fld Z h_60 b_60 "com/example/cogram/cogram/model/TermPair" "second" "Ljava/lang/String;" .null := D_60 (Or.inr (hw _ (List.mem_of_getElem? (i := 65) rfl))) (ty := (.object "java/lang/String")) (by decide)
      show OGo p e below _ (T_60.setTop (mkF m 118 #[.val (.int p1), .val (.int p2), .val (.int p3), .val (.int p4), .val (.int p5), .val (.ref o__1), .val (.ref o__4), .val (.ref o__12), .val (.ref o__24), .val (.ref b_33), .val (.int kd), .unset, .unset] [(.ref b_60)]))
      refine OGo.to (fun _ k => XS.dup X_60.here hx rfl (hb hby at_118) rfl rfl k) ?_
      refine OGo.to (fun _ k => XS.aload X_60.here hx rfl (hb hby at_119) rfl rfl k) ?_
      show OGo p e below _ (T_60.setTop (mkF m 121 #[.val (.int p1), .val (.int p2), .val (.int p3), .val (.int p4), .val (.int p5), .val (.ref o__1), .val (.ref o__4), .val (.ref o__12), .val (.ref o__24), .val (.ref b_33), .val (.int kd), .unset, .unset] [(.ref o__12), (.ref b_60), (.ref b_60)]))
      refine OGo.to (fun _ k => XS.aload X_60.here hx rfl (hb hby at_121) rfl rfl k) ?_
      have f_77 : Exa Z h_60 o__12 "java/lang/String" := (f_67.ext E_60)
      have f_78 : Fld Z h_60 o__12 "java/lang/String" "coder" "B" (.int (0 : Int32)) := ((((p_12_1.keep K_21 (List.not_mem_nil)).ext E_33).keep K_40 (fun q => ne_o__12_b_33 (List.mem_singleton.mp q))).ext E_60)
      have f_79 : Fld Z h_60 o__12 "java/lang/String" "value" "[B" (.ref b__12) := ((((p_12_2.keep K_21 (List.not_mem_nil)).ext E_33).keep K_40 (fun q => ne_o__12_b_33 (List.mem_singleton.mp q))).ext E_60)
      have f_80 : Arv Z h_60 b__12 kb__12 .byte (own_i (own_pick (p5 &&& (3 : Int32)) (own_mk p1) (own_mk p2) (own_mk p3)).length) ((own_pick (p5 &&& (3 : Int32)) (own_mk p1) (own_mk p2) (own_mk p3)).map Value.int) (.int (0 : Int32)) := (f_68.ext E_60)
      have f_81 : Exa Z h_60 o__24 "java/lang/String" := (f_71.ext E_60)
      have f_82 : Fld Z h_60 o__24 "java/lang/String" "coder" "B" (.int (0 : Int32)) := (((p_24_1.ext E_33).keep K_40 (fun q => ne_o__24_b_33 (List.mem_singleton.mp q))).ext E_60)
      have f_83 : Fld Z h_60 o__24 "java/lang/String" "value" "[B" (.ref b__24) := (((p_24_2.ext E_33).keep K_40 (fun q => ne_o__24_b_33 (List.mem_singleton.mp q))).ext E_60)
      have f_84 : Arv Z h_60 b__24 kb__24 .byte (own_i (own_pick (((p5.toUInt32 >>> ((2 : Int32) &&& 31).toUInt32).toInt32) &&& (3 : Int32)) (own_mk p1) (own_mk p2) (own_mk p4)).length) ((own_pick (((p5.toUInt32 >>> ((2 : Int32) &&& 31).toUInt32).toInt32) &&& (3 : Int32)) (own_mk p1) (own_mk p2) (own_mk p4)).map Value.int) (.int (0 : Int32)) := (f_72.ext E_60)
      obtain ⟨_, T_76, Lc_76, X_76, hQ_76, st_76⟩ := own_un X_60 (Q := Qtp Z b_60 o__12 o__24 b__12 kb__12 (own_pick (p5 &&& (3 : Int32)) (own_mk p1) (own_mk p2) (own_mk p3)) b__24 kb__24 (own_pick (((p5.toUInt32 >>> ((2 : Int32) &&& 31).toUInt32).toInt32) &&& (3 : Int32)) (own_mk p1) (own_mk p2) (own_mk p4)) cs h_60 n0) (rc := 0) (rs := 0) (W := fun v B => Steps p.tables e below (T_60.setTop (mkF m 123 #[.val (.int p1), .val (.int p2), .val (.int p3), .val (.int p4), .val (.int p5), .val (.ref o__1), .val (.ref o__4), .val (.ref o__12), .val (.ref o__24), .val (.ref b_33), .val (.int kd), .unset, .unset] [(.ref o__24), (.ref o__12), (.ref b_60), (.ref b_60)])) (B.setTop { (mkF m 123 #[.val (.int p1), .val (.int p2), .val (.int p3), .val (.int p4), .val (.int p5), .val (.ref o__1), .val (.ref o__4), .val (.ref o__12), .val (.ref o__24), .val (.ref b_33), .val (.int kd), .unset, .unset] [(.ref o__24), (.ref o__12), (.ref b_60), (.ref b_60)]) with pc := 126, stack := v.toList ++ [(.ref b_60)] })) <| X_60.specialBack hx (y := (⟨"com/example/cogram/cogram/model/TermPair", "<init>", "(Ljava/lang/String;Ljava/lang/String;)V"⟩ : MethodName)) rfl hown (mvT hZ (hw _ (List.mem_of_getElem? (i := 32) rfl))) (mvT hZ (hw _ (List.mem_of_getElem? (i := 33) rfl))) (mvT hZ (hw _ (List.mem_of_getElem? (i := 34) rfl))) (by decide) (backOf (W := 1) (rmtp l Z a0 hw [] b_60 o__12 o__24 b__12 kb__12 (own_pick (p5 &&& (3 : Int32)) (own_mk p1) (own_mk p2) (own_mk p3)) b__24 kb__24 (own_pick (((p5.toUInt32 >>> ((2 : Int32) &&& 31).toUInt32).toInt32) &&& (3 : Int32)) (own_mk p1) (own_mk p2) (own_mk p4)) cs h_60 n0 z_74 A_60 F_first_b_60 F_second_b_60 g_b_60 f_77 f_78 f_79 f_80 f_81 f_82 f_83 f_84 ((own_ok_pick (own_ok_mk _) (own_ok_mk _) (own_ok_mk _))) ((own_ok_pick (own_ok_mk _) (own_ok_mk _) (own_ok_mk _))) SC O_75 (hcs) (Ne.symm ne_o__12_b_60) (Ne.symm ne_o__24_b_60) (Ne.symm ne_b__12_b_60) (Ne.symm ne_b__24_b_60)) hZ (hw _ (List.mem_of_getElem? (i := 34) rfl)) (hw _ (List.mem_of_getElem? (i := 31) rfl)) (by decide) (by decide)) (g := (mkF m 123 #[.val (.int p1), .val (.int p2), .val (.int p3), .val (.int p4), .val (.int p5), .val (.ref o__1), .val (.ref o__4), .val (.ref o__12), .val (.ref o__24), .val (.ref b_33), .val (.int kd), .unset, .unset] [(.ref o__24), (.ref o__12), (.ref b_60), (.ref b_60)])) rfl (by rw [hml]; rfl) (Steps.refl _) (a := b_60) (argsL := [(.ref o__12), (.ref o__24)]) (rest := [(.ref b_60)]) (lenOf pd_20 rfl) rfl (by show 2 * 0 + _ ≤ _; exact Nat.le_of_eq rfl) (hb hby at_123) (fun _ _ => ⟨rfl, e_60, (by decide : 18 + 0 ≤ _), (by decide : 36 + 0 ≤ _)⟩)
      obtain ⟨f__76, bf__76, kf__76, s2__76, bs__76, ks__76, rfl, N_76q, K_76, p_76_0, p_76_1, p_76_2, p_76_3, p_76_4, p_76_5, p_76_6, p_76_7, p_76_8, p_76_9⟩ := hQ_76
      have N_76 := Fr.app N_40 N_76q
      refine OGo.to (fun _ k => st_76.trans k) ?_
      have z_85 : n0 ≤ T_76.heap.size := Nat.le_trans z_74 K_76.1
      have O_86 : Old Z n0 T_76.heap := O_75.keep K_76 (allS g_b_60 all0)
      show OGo p e below _ (T_76.setTop (mkF m 126 #[.val (.int p1), .val (.int p2), .val (.int p3), .val (.int p4), .val (.int p5), .val (.ref o__1), .val (.ref o__4), .val (.ref o__12), .val (.ref o__24), .val (.ref b_33), .val (.int kd), .unset, .unset] [(.ref b_60)]))
      refine OGo.to (fun _ k => XS.astore X_76.here hx rfl (hb hby at_126) rfl rfl (l' := #[.val (.int p1), .val (.int p2), .val (.int p3), .val (.int p4), .val (.int p5), .val (.ref o__1), .val (.ref o__4), .val (.ref o__12), .val (.ref o__24), .val (.ref b_33), .val (.int kd), .val (.ref b_60), .unset]) rfl k) ?_
      refine OGo.to (fun _ k => XS.aload X_76.here hx rfl (hb hby at_128) rfl rfl k) ?_
      refine OGo.to (fun _ k => XS.aload X_76.here hx rfl (hb hby at_130) rfl rfl k) ?_
      have f_88 : Exa Z T_76.heap o__1 "java/lang/String" := ((f_61.ext E_60).keep K_76)
      have f_89 : Fld Z T_76.heap o__1 "java/lang/String" "coder" "B" (.int (0 : Int32)) := (((f_42.keep K_40 (fun q => ne_o__1_b_33 (List.mem_singleton.mp q))).ext E_60).keep K_76 (fun q => ne_o__1_b_60 (List.mem_singleton.mp q)))
      have f_90 : Fld Z T_76.heap o__1 "java/lang/String" "value" "[B" (.ref b__1) := (((f_43.keep K_40 (fun q => ne_o__1_b_33 (List.mem_singleton.mp q))).ext E_60).keep K_76 (fun q => ne_o__1_b_60 (List.mem_singleton.mp q)))
      have f_91 : Arv Z T_76.heap b__1 kb__1 .byte (own_i (own_mk p1).length) ((own_mk p1).map Value.int) (.int (0 : Int32)) := ((f_62.ext E_60).keep K_76 (fun q => ne_b__1_b_60 (List.mem_singleton.mp q)))
      have f_92 : Exa Z T_76.heap o__12 "java/lang/String" := (f_77.keep K_76)
      have f_93 : Fld Z T_76.heap o__12 "java/lang/String" "coder" "B" (.int (0 : Int32)) := (f_78.keep K_76 (fun q => ne_o__12_b_60 (List.mem_singleton.mp q)))
      have f_94 : Fld Z T_76.heap o__12 "java/lang/String" "value" "[B" (.ref b__12) := (f_79.keep K_76 (fun q => ne_o__12_b_60 (List.mem_singleton.mp q)))
      have f_95 : Arv Z T_76.heap b__12 kb__12 .byte (own_i (own_pick (p5 &&& (3 : Int32)) (own_mk p1) (own_mk p2) (own_mk p3)).length) ((own_pick (p5 &&& (3 : Int32)) (own_mk p1) (own_mk p2) (own_mk p3)).map Value.int) (.int (0 : Int32)) := (f_80.keep K_76 (fun q => ne_b__12_b_60 (List.mem_singleton.mp q)))
      obtain ⟨cq_87, kq_87, q_87a, q_87b, q_87c⟩ := isOf hZ (rfl : T_76.heap = T_76.heap) f_88
      obtain ⟨_, T_87, Lc_87, X_87, hQ_87, st_87⟩ := own_un X_76 (Q := Qseq Z o__1 o__12 b__1 kb__1 (own_mk p1) b__12 kb__12 (own_pick (p5 &&& (3 : Int32)) (own_mk p1) (own_mk p2) (own_mk p3)) cs T_76.heap n0) (rc := 0) (rs := 0) (W := fun v B => Steps p.tables e below (T_76.setTop (mkF m 132 #[.val (.int p1), .val (.int p2), .val (.int p3), .val (.int p4), .val (.int p5), .val (.ref o__1), .val (.ref o__4), .val (.ref o__12), .val (.ref o__24), .val (.ref b_33), .val (.int kd), .val (.ref b_60), .unset] [(.ref o__12), (.ref o__1)])) (B.setTop { (mkF m 132 #[.val (.int p1), .val (.int p2), .val (.int p3), .val (.int p4), .val (.int p5), .val (.ref o__1), .val (.ref o__4), .val (.ref o__12), .val (.ref o__24), .val (.ref b_33), .val (.int kd), .val (.ref b_60), .unset] [(.ref o__12), (.ref o__1)]) with pc := 135, stack := v.toList ++ [] })) <| X_76.virtualBack hx (y := (⟨"java/lang/String", "equals", "(Ljava/lang/Object;)Z"⟩ : MethodName)) (z := (⟨"java/lang/String", "equals", "(Ljava/lang/Object;)Z"⟩ : MethodName)) hown (mvT hZ (hw _ (List.mem_of_getElem? (i := 71) rfl))) (mvT hZ (hw _ (List.mem_of_getElem? (i := 72) rfl))) (notFace_of_selects (args := #[]) (mvT hZ (hw _ (List.mem_of_getElem? (i := 74) rfl)))) (mvT hZ (hw _ (List.mem_of_getElem? (i := 74) rfl))) (mvT hZ (hw _ (List.mem_of_getElem? (i := 73) rfl))) (by decide) (backOf (W := 0) (rmseq l Z a0 hw [] o__1 o__12 b__1 kb__1 (own_mk p1) b__12 kb__12 (own_pick (p5 &&& (3 : Int32)) (own_mk p1) (own_mk p2) (own_mk p3)) cs T_76.heap n0 z_85 f_88 f_89 f_90 f_91 f_92 f_93 f_94 f_95 ((own_ok_mk _)) ((own_ok_pick (own_ok_mk _) (own_ok_mk _) (own_ok_mk _))) SC O_86 (hcs)) hZ (hw _ (List.mem_of_getElem? (i := 75) rfl)) (hw _ (List.mem_of_getElem? (i := 6) rfl)) (by decide) (by decide)) q_87a q_87c (g := (mkF m 132 #[.val (.int p1), .val (.int p2), .val (.int p3), .val (.int p4), .val (.int p5), .val (.ref o__1), .val (.ref o__4), .val (.ref o__12), .val (.ref o__24), .val (.ref b_33), .val (.int kd), .val (.ref b_60), .unset] [(.ref o__12), (.ref o__1)])) rfl (by rw [hml]; rfl) (Steps.refl _) (argsL := [(.ref o__12)]) (rest := []) (lenOf pd_17 rfl) rfl (by show 2 * 0 + _ ≤ _; exact Nat.le_of_eq rfl) (hb hby at_132) (fun _ _ => ⟨rfl, (rfl : T_76.heap = T_76.heap), (by decide : 18 + 0 ≤ _), (by decide : 36 + 0 ≤ _)⟩)
      obtain ⟨rfl, N_87q, e_87⟩ := hQ_87
      have N_87 := Fr.app N_76 N_87q
      refine OGo.to (fun _ k => st_87.trans k) ?_
      show OGo p e below _ (T_87.setTop (mkF m 135 #[.val (.int p1), .val (.int p2), .val (.int p3), .val (.int p4), .val (.int p5), .val (.ref o__1), .val (.ref o__4), .val (.ref o__12), .val (.ref o__24), .val (.ref b_33), .val (.int kd), .val (.ref b_60), .unset] [(.int (own_seq (own_mk p1) (own_pick (p5 &&& (3 : Int32)) (own_mk p1) (own_mk p2) (own_mk p3))))]))
      by_cases hc135__96 : (own_seq (own_mk p1) (own_pick (p5 &&& (3 : Int32)) (own_mk p1) (own_mk p2) (own_mk p3))) = (0 : Int32)
      ·  -- pc 135: yes
        refine OGo.to (fun _ k => XS.ifYes X_87.here hx rfl (pc0 := 135) (pc' := 148) rfl (hb hby at_135) rfl ((if0 _ _).trans (teq hc135__96).1) (by decide) (by decide) k) ?_
        show OGo p e below _ (T_87.setTop (mkF m 148 #[.val (.int p1), .val (.int p2), .val (.int p3), .val (.int p4), .val (.int p5), .val (.ref o__1), .val (.ref o__4), .val (.ref o__12), .val (.ref o__24), .val (.ref b_33), .val (.int kd), .val (.ref b_60), .unset] []))
        refine OGo.to (fun _ k => XS.aload X_87.here hx rfl (hb hby at_148) rfl rfl k) ?_
        refine OGo.to (fun _ k => XS.aload X_87.here hx rfl (hb hby at_150) rfl rfl k) ?_
        have f_98 : Exa Z T_76.heap o__24 "java/lang/String" := (f_81.keep K_76)
        have f_99 : Fld Z T_76.heap o__24 "java/lang/String" "coder" "B" (.int (0 : Int32)) := (f_82.keep K_76 (fun q => ne_o__24_b_60 (List.mem_singleton.mp q)))
        have f_100 : Fld Z T_76.heap o__24 "java/lang/String" "value" "[B" (.ref b__24) := (f_83.keep K_76 (fun q => ne_o__24_b_60 (List.mem_singleton.mp q)))
        have f_101 : Arv Z T_76.heap b__24 kb__24 .byte (own_i (own_pick (((p5.toUInt32 >>> ((2 : Int32) &&& 31).toUInt32).toInt32) &&& (3 : Int32)) (own_mk p1) (own_mk p2) (own_mk p4)).length) ((own_pick (((p5.toUInt32 >>> ((2 : Int32) &&& 31).toUInt32).toInt32) &&& (3 : Int32)) (own_mk p1) (own_mk p2) (own_mk p4)).map Value.int) (.int (0 : Int32)) := (f_84.keep K_76 (fun q => ne_b__24_b_60 (List.mem_singleton.mp q)))
        obtain ⟨cq_97, kq_97, q_97a, q_97b, q_97c⟩ := isOf hZ e_87 f_88
        obtain ⟨_, T_97, Lc_97, X_97, hQ_97, st_97⟩ := own_un X_87 (Q := Qseq Z o__1 o__24 b__1 kb__1 (own_mk p1) b__24 kb__24 (own_pick (((p5.toUInt32 >>> ((2 : Int32) &&& 31).toUInt32).toInt32) &&& (3 : Int32)) (own_mk p1) (own_mk p2) (own_mk p4)) cs T_76.heap n0) (rc := 0) (rs := 0) (W := fun v B => Steps p.tables e below (T_87.setTop (mkF m 152 #[.val (.int p1), .val (.int p2), .val (.int p3), .val (.int p4), .val (.int p5), .val (.ref o__1), .val (.ref o__4), .val (.ref o__12), .val (.ref o__24), .val (.ref b_33), .val (.int kd), .val (.ref b_60), .unset] [(.ref o__24), (.ref o__1)])) (B.setTop { (mkF m 152 #[.val (.int p1), .val (.int p2), .val (.int p3), .val (.int p4), .val (.int p5), .val (.ref o__1), .val (.ref o__4), .val (.ref o__12), .val (.ref o__24), .val (.ref b_33), .val (.int kd), .val (.ref b_60), .unset] [(.ref o__24), (.ref o__1)]) with pc := 155, stack := v.toList ++ [] })) <| X_87.virtualBack hx (y := (⟨"java/lang/String", "equals", "(Ljava/lang/Object;)Z"⟩ : MethodName)) (z := (⟨"java/lang/String", "equals", "(Ljava/lang/Object;)Z"⟩ : MethodName)) hown (mvT hZ (hw _ (List.mem_of_getElem? (i := 71) rfl))) (mvT hZ (hw _ (List.mem_of_getElem? (i := 72) rfl))) (notFace_of_selects (args := #[]) (mvT hZ (hw _ (List.mem_of_getElem? (i := 74) rfl)))) (mvT hZ (hw _ (List.mem_of_getElem? (i := 74) rfl))) (mvT hZ (hw _ (List.mem_of_getElem? (i := 73) rfl))) (by decide) (backOf (W := 0) (rmseq l Z a0 hw [] o__1 o__24 b__1 kb__1 (own_mk p1) b__24 kb__24 (own_pick (((p5.toUInt32 >>> ((2 : Int32) &&& 31).toUInt32).toInt32) &&& (3 : Int32)) (own_mk p1) (own_mk p2) (own_mk p4)) cs T_76.heap n0 z_85 f_88 f_89 f_90 f_91 f_98 f_99 f_100 f_101 ((own_ok_mk _)) ((own_ok_pick (own_ok_mk _) (own_ok_mk _) (own_ok_mk _))) SC O_86 (hcs)) hZ (hw _ (List.mem_of_getElem? (i := 75) rfl)) (hw _ (List.mem_of_getElem? (i := 6) rfl)) (by decide) (by decide)) q_97a q_97c (g := (mkF m 152 #[.val (.int p1), .val (.int p2), .val (.int p3), .val (.int p4), .val (.int p5), .val (.ref o__1), .val (.ref o__4), .val (.ref o__12), .val (.ref o__24), .val (.ref b_33), .val (.int kd), .val (.ref b_60), .unset] [(.ref o__24), (.ref o__1)])) rfl (by rw [hml]; rfl) (Steps.refl _) (argsL := [(.ref o__24)]) (rest := []) (lenOf pd_17 rfl) rfl (by show 2 * 0 + _ ≤ _; exact Nat.le_of_eq rfl) (hb hby at_152) (fun _ _ => ⟨rfl, e_87, (by decide : 18 + 0 ≤ _), (by decide : 36 + 0 ≤ _)⟩)
        obtain ⟨rfl, N_97q, e_97⟩ := hQ_97
        have N_97 := Fr.app N_87 N_97q
        refine OGo.to (fun _ k => st_97.trans k) ?_
        show OGo p e below _ (T_97.setTop (mkF m 155 #[.val (.int p1), .val (.int p2), .val (.int p3), .val (.int p4), .val (.int p5), .val (.ref o__1), .val (.ref o__4), .val (.ref o__12), .val (.ref o__24), .val (.ref b_33), .val (.int kd), .val (.ref b_60), .unset] [(.int (own_seq (own_mk p1) (own_pick (((p5.toUInt32 >>> ((2 : Int32) &&& 31).toUInt32).toInt32) &&& (3 : Int32)) (own_mk p1) (own_mk p2) (own_mk p4))))]))
        by_cases hc155__102 : (own_seq (own_mk p1) (own_pick (((p5.toUInt32 >>> ((2 : Int32) &&& 31).toUInt32).toInt32) &&& (3 : Int32)) (own_mk p1) (own_mk p2) (own_mk p4))) = (0 : Int32)
        ·  -- pc 155: yes
          refine OGo.to (fun _ k => XS.ifYes X_97.here hx rfl (pc0 := 155) (pc' := 172) rfl (hb hby at_155) rfl ((if0 _ _).trans (teq hc155__102).1) (by decide) (by decide) k) ?_
          show OGo p e below _ (T_97.setTop (mkF m 172 #[.val (.int p1), .val (.int p2), .val (.int p3), .val (.int p4), .val (.int p5), .val (.ref o__1), .val (.ref o__4), .val (.ref o__12), .val (.ref o__24), .val (.ref b_33), .val (.int kd), .val (.ref b_60), .unset] []))
          refine OGo.to (fun _ k => XS.iconst X_97.here hx rfl (hb hby at_172) k) ?_
          refine OGo.to (fun _ k => XS.istore X_97.here hx rfl (hb hby at_173) rfl (l' := #[.val (.int p1), .val (.int p2), .val (.int p3), .val (.int p4), .val (.int p5), .val (.ref o__1), .val (.ref o__4), .val (.ref o__12), .val (.ref o__24), .val (.ref b_33), .val (.int kd), .val (.ref b_60), .val (.int (0 : Int32))]) rfl k) ?_
          refine OGo.to (fun _ k => XS.aload X_97.here hx rfl (hb hby at_175) rfl rfl k) ?_
          refine OGo.to (fun _ k => XS.aload X_97.here hx rfl (hb hby at_177) rfl rfl k) ?_
          have f_104 : Exa Z T_76.heap b_60 "com/example/cogram/cogram/model/TermPair" := (A_60.keep K_76)
          have f_105 : Fld Z T_76.heap b_33 "com/example/cogram/cogram/model/TermPair" "first" "Ljava/lang/String;" (.ref f__40) := ((p_40_0.ext E_60).keep K_76 (fun q => ne_b_33_b_60 (List.mem_singleton.mp q)))
          have f_106 : Fld Z T_76.heap b_33 "com/example/cogram/cogram/model/TermPair" "second" "Ljava/lang/String;" (.ref s2__40) := ((p_40_1.ext E_60).keep K_76 (fun q => ne_b_33_b_60 (List.mem_singleton.mp q)))
          have f_107 : Exa Z T_76.heap f__40 "java/lang/String" := ((p_40_2.ext E_60).keep K_76)
          have f_108 : Fld Z T_76.heap f__40 "java/lang/String" "coder" "B" (.int (0 : Int32)) := ((p_40_3.ext E_60).keep K_76 (fun q => ne_f__40_b_60 (List.mem_singleton.mp q)))
          have f_109 : Fld Z T_76.heap f__40 "java/lang/String" "value" "[B" (.ref bf__40) := ((p_40_4.ext E_60).keep K_76 (fun q => ne_f__40_b_60 (List.mem_singleton.mp q)))
          have f_110 : Arv Z T_76.heap bf__40 kf__40 .byte (own_i (own_fst (own_mk p1) (own_mk p2)).length) ((own_fst (own_mk p1) (own_mk p2)).map Value.int) (.int (0 : Int32)) := ((p_40_5.ext E_60).keep K_76 (fun q => ne_bf__40_b_60 (List.mem_singleton.mp q)))
          have f_111 : Exa Z T_76.heap s2__40 "java/lang/String" := ((p_40_6.ext E_60).keep K_76)
          have f_112 : Fld Z T_76.heap s2__40 "java/lang/String" "coder" "B" (.int (0 : Int32)) := ((p_40_7.ext E_60).keep K_76 (fun q => ne_s2__40_b_60 (List.mem_singleton.mp q)))
          have f_113 : Fld Z T_76.heap s2__40 "java/lang/String" "value" "[B" (.ref bs__40) := ((p_40_8.ext E_60).keep K_76 (fun q => ne_s2__40_b_60 (List.mem_singleton.mp q)))
          have f_114 : Arv Z T_76.heap bs__40 ks__40 .byte (own_i (own_snd (own_mk p1) (own_mk p2)).length) ((own_snd (own_mk p1) (own_mk p2)).map Value.int) (.int (0 : Int32)) := ((p_40_9.ext E_60).keep K_76 (fun q => ne_bs__40_b_60 (List.mem_singleton.mp q)))
          have f_115 : Exa Z T_76.heap b_33 "com/example/cogram/cogram/model/TermPair" := ((f_73.ext E_60).keep K_76)
          obtain ⟨cq_103, kq_103, q_103a, q_103b, q_103c⟩ := isOf hZ e_97 f_115
          obtain ⟨_, T_103, Lc_103, X_103, hQ_103, st_103⟩ := own_un X_97 (Q := QteT Z b_33 b_60 f__40 s2__40 f__76 s2__76 bf__40 kf__40 (own_fst (own_mk p1) (own_mk p2)) bs__40 ks__40 (own_snd (own_mk p1) (own_mk p2)) bf__76 kf__76 (own_fst (own_pick (p5 &&& (3 : Int32)) (own_mk p1) (own_mk p2) (own_mk p3)) (own_pick (((p5.toUInt32 >>> ((2 : Int32) &&& 31).toUInt32).toInt32) &&& (3 : Int32)) (own_mk p1) (own_mk p2) (own_mk p4))) bs__76 ks__76 (own_snd (own_pick (p5 &&& (3 : Int32)) (own_mk p1) (own_mk p2) (own_mk p3)) (own_pick (((p5.toUInt32 >>> ((2 : Int32) &&& 31).toUInt32).toInt32) &&& (3 : Int32)) (own_mk p1) (own_mk p2) (own_mk p4))) cs T_76.heap n0) (rc := 0) (rs := 0) (W := fun v B => Steps p.tables e below (T_97.setTop (mkF m 179 #[.val (.int p1), .val (.int p2), .val (.int p3), .val (.int p4), .val (.int p5), .val (.ref o__1), .val (.ref o__4), .val (.ref o__12), .val (.ref o__24), .val (.ref b_33), .val (.int kd), .val (.ref b_60), .val (.int (0 : Int32))] [(.ref b_60), (.ref b_33)])) (B.setTop { (mkF m 179 #[.val (.int p1), .val (.int p2), .val (.int p3), .val (.int p4), .val (.int p5), .val (.ref o__1), .val (.ref o__4), .val (.ref o__12), .val (.ref o__24), .val (.ref b_33), .val (.int kd), .val (.ref b_60), .val (.int (0 : Int32))] [(.ref b_60), (.ref b_33)]) with pc := 182, stack := v.toList ++ [] })) <| X_97.virtualBack hx (y := (⟨"com/example/cogram/cogram/model/TermPair", "equals", "(Ljava/lang/Object;)Z"⟩ : MethodName)) (z := (⟨"com/example/cogram/cogram/model/TermPair", "equals", "(Ljava/lang/Object;)Z"⟩ : MethodName)) hown (mvT hZ (hw _ (List.mem_of_getElem? (i := 66) rfl))) (mvT hZ (hw _ (List.mem_of_getElem? (i := 67) rfl))) (notFace_of_selects (args := #[]) (mvT hZ (hw _ (List.mem_of_getElem? (i := 69) rfl)))) (mvT hZ (hw _ (List.mem_of_getElem? (i := 69) rfl))) (mvT hZ (hw _ (List.mem_of_getElem? (i := 68) rfl))) (by decide) (backOf (W := 0) (rmteT l Z a0 hw [] b_33 b_60 f__40 s2__40 f__76 s2__76 bf__40 kf__40 (own_fst (own_mk p1) (own_mk p2)) bs__40 ks__40 (own_snd (own_mk p1) (own_mk p2)) bf__76 kf__76 (own_fst (own_pick (p5 &&& (3 : Int32)) (own_mk p1) (own_mk p2) (own_mk p3)) (own_pick (((p5.toUInt32 >>> ((2 : Int32) &&& 31).toUInt32).toInt32) &&& (3 : Int32)) (own_mk p1) (own_mk p2) (own_mk p4))) bs__76 ks__76 (own_snd (own_pick (p5 &&& (3 : Int32)) (own_mk p1) (own_mk p2) (own_mk p3)) (own_pick (((p5.toUInt32 >>> ((2 : Int32) &&& 31).toUInt32).toInt32) &&& (3 : Int32)) (own_mk p1) (own_mk p2) (own_mk p4))) cs T_76.heap n0 z_85 f_104 f_105 f_106 p_76_0 p_76_1 f_107 f_108 f_109 f_110 f_111 f_112 f_113 f_114 p_76_2 p_76_3 p_76_4 p_76_5 p_76_6 p_76_7 p_76_8 p_76_9 ((own_ok_fst (own_ok_mk _) (own_ok_mk _))) ((own_ok_snd (own_ok_mk _) (own_ok_mk _))) ((own_ok_fst (own_ok_pick (own_ok_mk _) (own_ok_mk _) (own_ok_mk _)) (own_ok_pick (own_ok_mk _) (own_ok_mk _) (own_ok_mk _)))) ((own_ok_snd (own_ok_pick (own_ok_mk _) (own_ok_mk _) (own_ok_mk _)) (own_ok_pick (own_ok_mk _) (own_ok_mk _) (own_ok_mk _)))) SC O_86 (hcs)) hZ (hw _ (List.mem_of_getElem? (i := 70) rfl)) (hw _ (List.mem_of_getElem? (i := 31) rfl)) (by decide) (by decide)) q_103a q_103c (g := (mkF m 179 #[.val (.int p1), .val (.int p2), .val (.int p3), .val (.int p4), .val (.int p5), .val (.ref o__1), .val (.ref o__4), .val (.ref o__12), .val (.ref o__24), .val (.ref b_33), .val (.int kd), .val (.ref b_60), .val (.int (0 : Int32))] [(.ref b_60), (.ref b_33)])) rfl (by rw [hml]; rfl) (Steps.refl _) (argsL := [(.ref b_60)]) (rest := []) (lenOf pd_17 rfl) rfl (by show 2 * 0 + _ ≤ _; exact Nat.le_of_eq rfl) (hb hby at_179) (fun _ _ => ⟨rfl, e_97, (by decide : 18 + 0 ≤ _), (by decide : 36 + 0 ≤ _)⟩)
          obtain ⟨rfl, N_103q, e_103⟩ := hQ_103
          have N_103 := Fr.app N_97 N_103q
          refine OGo.to (fun _ k => st_103.trans k) ?_
          show OGo p e below _ (T_103.setTop (mkF m 182 #[.val (.int p1), .val (.int p2), .val (.int p3), .val (.int p4), .val (.int p5), .val (.ref o__1), .val (.ref o__4), .val (.ref o__12), .val (.ref o__24), .val (.ref b_33), .val (.int kd), .val (.ref b_60), .val (.int (0 : Int32))] [(.int (own_teq (own_fst (own_mk p1) (own_mk p2)) (own_snd (own_mk p1) (own_mk p2)) (own_fst (own_pick (p5 &&& (3 : Int32)) (own_mk p1) (own_mk p2) (own_mk p3)) (own_pick (((p5.toUInt32 >>> ((2 : Int32) &&& 31).toUInt32).toInt32) &&& (3 : Int32)) (own_mk p1) (own_mk p2) (own_mk p4))) (own_snd (own_pick (p5 &&& (3 : Int32)) (own_mk p1) (own_mk p2) (own_mk p3)) (own_pick (((p5.toUInt32 >>> ((2 : Int32) &&& 31).toUInt32).toInt32) &&& (3 : Int32)) (own_mk p1) (own_mk p2) (own_mk p4)))))]))
          refine OGo.to (fun _ k => XS.iload X_103.here hx rfl (hb hby at_182) rfl k) ?_
          have hc184__116 : (own_teq (own_fst (own_mk p1) (own_mk p2)) (own_snd (own_mk p1) (own_mk p2)) (own_fst (own_pick (p5 &&& (3 : Int32)) (own_mk p1) (own_mk p2) (own_mk p3)) (own_pick (((p5.toUInt32 >>> ((2 : Int32) &&& 31).toUInt32).toInt32) &&& (3 : Int32)) (own_mk p1) (own_mk p2) (own_mk p4))) (own_snd (own_pick (p5 &&& (3 : Int32)) (own_mk p1) (own_mk p2) (own_mk p3)) (own_pick (((p5.toUInt32 >>> ((2 : Int32) &&& 31).toUInt32).toInt32) &&& (3 : Int32)) (own_mk p1) (own_mk p2) (own_mk p4)))) = (0 : Int32) := own_T0 (Or.inl (own_seq_n hc135__96)) (Or.inl (own_seq_n hc155__102))
          refine OGo.to (fun _ k => XS.icmpNo X_103.here hx rfl (hb hby at_184) rfl (teq hc184__116).2 k) ?_
          show OGo p e below _ (T_103.setTop (mkF m 187 #[.val (.int p1), .val (.int p2), .val (.int p3), .val (.int p4), .val (.int p5), .val (.ref o__1), .val (.ref o__4), .val (.ref o__12), .val (.ref o__24), .val (.ref b_33), .val (.int kd), .val (.ref b_60), .val (.int (0 : Int32))] []))
          refine OGo.to (fun _ k => XS.aload X_103.here hx rfl (hb hby at_187) rfl rfl k) ?_
          refine OGo.to (fun _ k => XS.aload X_103.here hx rfl (hb hby at_189) rfl rfl k) ?_
          obtain ⟨cq_117, kq_117, q_117a, q_117b, q_117c⟩ := isOf hZ e_103 f_104
          obtain ⟨_, T_117, Lc_117, X_117, hQ_117, st_117⟩ := own_un X_103 (Q := QteT Z b_60 b_33 f__76 s2__76 f__40 s2__40 bf__76 kf__76 (own_fst (own_pick (p5 &&& (3 : Int32)) (own_mk p1) (own_mk p2) (own_mk p3)) (own_pick (((p5.toUInt32 >>> ((2 : Int32) &&& 31).toUInt32).toInt32) &&& (3 : Int32)) (own_mk p1) (own_mk p2) (own_mk p4))) bs__76 ks__76 (own_snd (own_pick (p5 &&& (3 : Int32)) (own_mk p1) (own_mk p2) (own_mk p3)) (own_pick (((p5.toUInt32 >>> ((2 : Int32) &&& 31).toUInt32).toInt32) &&& (3 : Int32)) (own_mk p1) (own_mk p2) (own_mk p4))) bf__40 kf__40 (own_fst (own_mk p1) (own_mk p2)) bs__40 ks__40 (own_snd (own_mk p1) (own_mk p2)) cs T_76.heap n0) (rc := 0) (rs := 0) (W := fun v B => Steps p.tables e below (T_103.setTop (mkF m 191 #[.val (.int p1), .val (.int p2), .val (.int p3), .val (.int p4), .val (.int p5), .val (.ref o__1), .val (.ref o__4), .val (.ref o__12), .val (.ref o__24), .val (.ref b_33), .val (.int kd), .val (.ref b_60), .val (.int (0 : Int32))] [(.ref b_33), (.ref b_60)])) (B.setTop { (mkF m 191 #[.val (.int p1), .val (.int p2), .val (.int p3), .val (.int p4), .val (.int p5), .val (.ref o__1), .val (.ref o__4), .val (.ref o__12), .val (.ref o__24), .val (.ref b_33), .val (.int kd), .val (.ref b_60), .val (.int (0 : Int32))] [(.ref b_33), (.ref b_60)]) with pc := 194, stack := v.toList ++ [] })) <| X_103.virtualBack hx (y := (⟨"com/example/cogram/cogram/model/TermPair", "equals", "(Ljava/lang/Object;)Z"⟩ : MethodName)) (z := (⟨"com/example/cogram/cogram/model/TermPair", "equals", "(Ljava/lang/Object;)Z"⟩ : MethodName)) hown (mvT hZ (hw _ (List.mem_of_getElem? (i := 66) rfl))) (mvT hZ (hw _ (List.mem_of_getElem? (i := 67) rfl))) (notFace_of_selects (args := #[]) (mvT hZ (hw _ (List.mem_of_getElem? (i := 69) rfl)))) (mvT hZ (hw _ (List.mem_of_getElem? (i := 69) rfl))) (mvT hZ (hw _ (List.mem_of_getElem? (i := 68) rfl))) (by decide) (backOf (W := 0) (rmteT l Z a0 hw [] b_60 b_33 f__76 s2__76 f__40 s2__40 bf__76 kf__76 (own_fst (own_pick (p5 &&& (3 : Int32)) (own_mk p1) (own_mk p2) (own_mk p3)) (own_pick (((p5.toUInt32 >>> ((2 : Int32) &&& 31).toUInt32).toInt32) &&& (3 : Int32)) (own_mk p1) (own_mk p2) (own_mk p4))) bs__76 ks__76 (own_snd (own_pick (p5 &&& (3 : Int32)) (own_mk p1) (own_mk p2) (own_mk p3)) (own_pick (((p5.toUInt32 >>> ((2 : Int32) &&& 31).toUInt32).toInt32) &&& (3 : Int32)) (own_mk p1) (own_mk p2) (own_mk p4))) bf__40 kf__40 (own_fst (own_mk p1) (own_mk p2)) bs__40 ks__40 (own_snd (own_mk p1) (own_mk p2)) cs T_76.heap n0 z_85 f_115 p_76_0 p_76_1 f_105 f_106 p_76_2 p_76_3 p_76_4 p_76_5 p_76_6 p_76_7 p_76_8 p_76_9 f_107 f_108 f_109 f_110 f_111 f_112 f_113 f_114 ((own_ok_fst (own_ok_pick (own_ok_mk _) (own_ok_mk _) (own_ok_mk _)) (own_ok_pick (own_ok_mk _) (own_ok_mk _) (own_ok_mk _)))) ((own_ok_snd (own_ok_pick (own_ok_mk _) (own_ok_mk _) (own_ok_mk _)) (own_ok_pick (own_ok_mk _) (own_ok_mk _) (own_ok_mk _)))) ((own_ok_fst (own_ok_mk _) (own_ok_mk _))) ((own_ok_snd (own_ok_mk _) (own_ok_mk _))) SC O_86 (hcs)) hZ (hw _ (List.mem_of_getElem? (i := 70) rfl)) (hw _ (List.mem_of_getElem? (i := 31) rfl)) (by decide) (by decide)) q_117a q_117c (g := (mkF m 191 #[.val (.int p1), .val (.int p2), .val (.int p3), .val (.int p4), .val (.int p5), .val (.ref o__1), .val (.ref o__4), .val (.ref o__12), .val (.ref o__24), .val (.ref b_33), .val (.int kd), .val (.ref b_60), .val (.int (0 : Int32))] [(.ref b_33), (.ref b_60)])) rfl (by rw [hml]; rfl) (Steps.refl _) (argsL := [(.ref b_33)]) (rest := []) (lenOf pd_17 rfl) rfl (by show 2 * 0 + _ ≤ _; exact Nat.le_of_eq rfl) (hb hby at_191) (fun _ _ => ⟨rfl, e_103, (by decide : 18 + 0 ≤ _), (by decide : 36 + 0 ≤ _)⟩)
          obtain ⟨rfl, N_117q, e_117⟩ := hQ_117
          have N_117 := Fr.app N_103 N_117q
          refine OGo.to (fun _ k => st_117.trans k) ?_
          show OGo p e below _ (T_117.setTop (mkF m 194 #[.val (.int p1), .val (.int p2), .val (.int p3), .val (.int p4), .val (.int p5), .val (.ref o__1), .val (.ref o__4), .val (.ref o__12), .val (.ref o__24), .val (.ref b_33), .val (.int kd), .val (.ref b_60), .val (.int (0 : Int32))] [(.int (own_teq (own_fst (own_pick (p5 &&& (3 : Int32)) (own_mk p1) (own_mk p2) (own_mk p3)) (own_pick (((p5.toUInt32 >>> ((2 : Int32) &&& 31).toUInt32).toInt32) &&& (3 : Int32)) (own_mk p1) (own_mk p2) (own_mk p4))) (own_snd (own_pick (p5 &&& (3 : Int32)) (own_mk p1) (own_mk p2) (own_mk p3)) (own_pick (((p5.toUInt32 >>> ((2 : Int32) &&& 31).toUInt32).toInt32) &&& (3 : Int32)) (own_mk p1) (own_mk p2) (own_mk p4))) (own_fst (own_mk p1) (own_mk p2)) (own_snd (own_mk p1) (own_mk p2))))]))
          refine OGo.to (fun _ k => XS.iload X_117.here hx rfl (hb hby at_194) rfl k) ?_
          have hc196__118 : (own_teq (own_fst (own_pick (p5 &&& (3 : Int32)) (own_mk p1) (own_mk p2) (own_mk p3)) (own_pick (((p5.toUInt32 >>> ((2 : Int32) &&& 31).toUInt32).toInt32) &&& (3 : Int32)) (own_mk p1) (own_mk p2) (own_mk p4))) (own_snd (own_pick (p5 &&& (3 : Int32)) (own_mk p1) (own_mk p2) (own_mk p3)) (own_pick (((p5.toUInt32 >>> ((2 : Int32) &&& 31).toUInt32).toInt32) &&& (3 : Int32)) (own_mk p1) (own_mk p2) (own_mk p4))) (own_fst (own_mk p1) (own_mk p2)) (own_snd (own_mk p1) (own_mk p2))) = (0 : Int32) := own_T0s (Or.inl (own_seq_n hc135__96)) (Or.inl (own_seq_n hc155__102))
          refine OGo.to (fun _ k => XS.icmpNo X_117.here hx rfl (hb hby at_196) rfl (teq hc196__118).2 k) ?_
          show OGo p e below _ (T_117.setTop (mkF m 199 #[.val (.int p1), .val (.int p2), .val (.int p3), .val (.int p4), .val (.int p5), .val (.ref o__1), .val (.ref o__4), .val (.ref o__12), .val (.ref o__24), .val (.ref b_33), .val (.int kd), .val (.ref b_60), .val (.int (0 : Int32))] []))
          refine OGo.to (fun _ k => XS.iconst X_117.here hx rfl (hb hby at_199) k) ?_
          show OGo p e below _ (T_117.setTop (mkF m 200 #[.val (.int p1), .val (.int p2), .val (.int p3), .val (.int p4), .val (.int p5), .val (.ref o__1), .val (.ref o__4), .val (.ref o__12), .val (.ref o__24), .val (.ref b_33), .val (.int kd), .val (.ref b_60), .val (.int (0 : Int32))] [(.int (1 : Int32))]))
          refine OGo.to (fun _ k => XS.goto X_117.here hx rfl (pc0 := 200) (pc' := 204) rfl (hb hby at_200) (by decide) (by decide) k) ?_
          refine OGo.retW (Q := Q0 Z p1 p2 p3 p4 p5 cs h0 n0) X_117 hS_21 (by rw [e_117]; exact (Nat.le_trans (Nat.le_trans (Nat.le_trans (Nat.le_trans (Nat.le_refl T_21.heap.size) E_33.1) K_40.1) E_60.1) K_76.1)) (some (.int (1 : Int32))) (fun h => by rw [Bd.returns] at h; cases h) Bd.notSynchronized (fun fs hr => retN X_117 hx (t := .boolean) (z := (1 : Int32)) Bd.returns (by simp) (hb hby at_204) hr) ?_ (by decide) (by decide)
          show Q0 Z p1 p2 p3 p4 p5 cs h0 n0 _ T_117.heap _
          rw [e_117]
          exact ⟨rfl, N_117⟩
        ·  -- pc 155: no
          refine OGo.to (fun _ k => XS.ifNo X_97.here hx rfl (hb hby at_155) rfl ((if0 _ _).trans (feq hc155__102).1) k) ?_
          show OGo p e below _ (T_97.setTop (mkF m 158 #[.val (.int p1), .val (.int p2), .val (.int p3), .val (.int p4), .val (.int p5), .val (.ref o__1), .val (.ref o__4), .val (.ref o__12), .val (.ref o__24), .val (.ref b_33), .val (.int kd), .val (.ref b_60), .unset] []))
          refine OGo.to (fun _ k => XS.aload X_97.here hx rfl (hb hby at_158) rfl rfl k) ?_
          refine OGo.to (fun _ k => XS.aload X_97.here hx rfl (hb hby at_160) rfl rfl k) ?_
          have f_120 : Exa Z T_76.heap o__4 "java/lang/String" := ((f_63.ext E_60).keep K_76)
          have f_121 : Fld Z T_76.heap o__4 "java/lang/String" "coder" "B" (.int (0 : Int32)) := (((f_46.keep K_40 (fun q => ne_o__4_b_33 (List.mem_singleton.mp q))).ext E_60).keep K_76 (fun q => ne_o__4_b_60 (List.mem_singleton.mp q)))
          have f_122 : Fld Z T_76.heap o__4 "java/lang/String" "value" "[B" (.ref b__4) := (((f_47.keep K_40 (fun q => ne_o__4_b_33 (List.mem_singleton.mp q))).ext E_60).keep K_76 (fun q => ne_o__4_b_60 (List.mem_singleton.mp q)))
          have f_123 : Arv Z T_76.heap b__4 kb__4 .byte (own_i (own_mk p2).length) ((own_mk p2).map Value.int) (.int (0 : Int32)) := ((f_64.ext E_60).keep K_76 (fun q => ne_b__4_b_60 (List.mem_singleton.mp q)))
          obtain ⟨cq_119, kq_119, q_119a, q_119b, q_119c⟩ := isOf hZ e_97 f_120
          obtain ⟨_, T_119, Lc_119, X_119, hQ_119, st_119⟩ := own_un X_97 (Q := Qseq Z o__4 o__12 b__4 kb__4 (own_mk p2) b__12 kb__12 (own_pick (p5 &&& (3 : Int32)) (own_mk p1) (own_mk p2) (own_mk p3)) cs T_76.heap n0) (rc := 0) (rs := 0) (W := fun v B => Steps p.tables e below (T_97.setTop (mkF m 162 #[.val (.int p1), .val (.int p2), .val (.int p3), .val (.int p4), .val (.int p5), .val (.ref o__1), .val (.ref o__4), .val (.ref o__12), .val (.ref o__24), .val (.ref b_33), .val (.int kd), .val (.ref b_60), .unset] [(.ref o__12), (.ref o__4)])) (B.setTop { (mkF m 162 #[.val (.int p1), .val (.int p2), .val (.int p3), .val (.int p4), .val (.int p5), .val (.ref o__1), .val (.ref o__4), .val (.ref o__12), .val (.ref o__24), .val (.ref b_33), .val (.int kd), .val (.ref b_60), .unset] [(.ref o__12), (.ref o__4)]) with pc := 165, stack := v.toList ++ [] })) <| X_97.virtualBack hx (y := (⟨"java/lang/String", "equals", "(Ljava/lang/Object;)Z"⟩ : MethodName)) (z := (⟨"java/lang/String", "equals", "(Ljava/lang/Object;)Z"⟩ : MethodName)) hown (mvT hZ (hw _ (List.mem_of_getElem? (i := 71) rfl))) (mvT hZ (hw _ (List.mem_of_getElem? (i := 72) rfl))) (notFace_of_selects (args := #[]) (mvT hZ (hw _ (List.mem_of_getElem? (i := 74) rfl)))) (mvT hZ (hw _ (List.mem_of_getElem? (i := 74) rfl))) (mvT hZ (hw _ (List.mem_of_getElem? (i := 73) rfl))) (by decide) (backOf (W := 0) (rmseq l Z a0 hw [] o__4 o__12 b__4 kb__4 (own_mk p2) b__12 kb__12 (own_pick (p5 &&& (3 : Int32)) (own_mk p1) (own_mk p2) (own_mk p3)) cs T_76.heap n0 z_85 f_120 f_121 f_122 f_123 f_92 f_93 f_94 f_95 ((own_ok_mk _)) ((own_ok_pick (own_ok_mk _) (own_ok_mk _) (own_ok_mk _))) SC O_86 (hcs)) hZ (hw _ (List.mem_of_getElem? (i := 75) rfl)) (hw _ (List.mem_of_getElem? (i := 6) rfl)) (by decide) (by decide)) q_119a q_119c (g := (mkF m 162 #[.val (.int p1), .val (.int p2), .val (.int p3), .val (.int p4), .val (.int p5), .val (.ref o__1), .val (.ref o__4), .val (.ref o__12), .val (.ref o__24), .val (.ref b_33), .val (.int kd), .val (.ref b_60), .unset] [(.ref o__12), (.ref o__4)])) rfl (by rw [hml]; rfl) (Steps.refl _) (argsL := [(.ref o__12)]) (rest := []) (lenOf pd_17 rfl) rfl (by show 2 * 0 + _ ≤ _; exact Nat.le_of_eq rfl) (hb hby at_162) (fun _ _ => ⟨rfl, e_97, (by decide : 18 + 0 ≤ _), (by decide : 36 + 0 ≤ _)⟩)
          obtain ⟨rfl, N_119q, e_119⟩ := hQ_119
          have N_119 := Fr.app N_97 N_119q
          refine OGo.to (fun _ k => st_119.trans k) ?_
          show OGo p e below _ (T_119.setTop (mkF m 165 #[.val (.int p1), .val (.int p2), .val (.int p3), .val (.int p4), .val (.int p5), .val (.ref o__1), .val (.ref o__4), .val (.ref o__12), .val (.ref o__24), .val (.ref b_33), .val (.int kd), .val (.ref b_60), .unset] [(.int (own_seq (own_mk p2) (own_pick (p5 &&& (3 : Int32)) (own_mk p1) (own_mk p2) (own_mk p3))))]))
          by_cases hc165__124 : (own_seq (own_mk p2) (own_pick (p5 &&& (3 : Int32)) (own_mk p1) (own_mk p2) (own_mk p3))) = (0 : Int32)
          ·  -- pc 165: yes
            refine OGo.to (fun _ k => XS.ifYes X_119.here hx rfl (pc0 := 165) (pc' := 172) rfl (hb hby at_165) rfl ((if0 _ _).trans (teq hc165__124).1) (by decide) (by decide) k) ?_
            show OGo p e below _ (T_119.setTop (mkF m 172 #[.val (.int p1), .val (.int p2), .val (.int p3), .val (.int p4), .val (.int p5), .val (.ref o__1), .val (.ref o__4), .val (.ref o__12), .val (.ref o__24), .val (.ref b_33), .val (.int kd), .val (.ref b_60), .unset] []))
            refine OGo.to (fun _ k => XS.iconst X_119.here hx rfl (hb hby at_172) k) ?_
            refine OGo.to (fun _ k => XS.istore X_119.here hx rfl (hb hby at_173) rfl (l' := #[.val (.int p1), .val (.int p2), .val (.int p3), .val (.int p4), .val (.int p5), .val (.ref o__1), .val (.ref o__4), .val (.ref o__12), .val (.ref o__24), .val (.ref b_33), .val (.int kd), .val (.ref b_60), .val (.int (0 : Int32))]) rfl k) ?_
            refine OGo.to (fun _ k => XS.aload X_119.here hx rfl (hb hby at_175) rfl rfl k) ?_
            refine OGo.to (fun _ k => XS.aload X_119.here hx rfl (hb hby at_177) rfl rfl k) ?_
            have f_126 : Exa Z T_76.heap b_60 "com/example/cogram/cogram/model/TermPair" := (A_60.keep K_76)
            have f_127 : Fld Z T_76.heap b_33 "com/example/cogram/cogram/model/TermPair" "first" "Ljava/lang/String;" (.ref f__40) := ((p_40_0.ext E_60).keep K_76 (fun q => ne_b_33_b_60 (List.mem_singleton.mp q)))
            have f_128 : Fld Z T_76.heap b_33 "com/example/cogram/cogram/model/TermPair" "second" "Ljava/lang/String;" (.ref s2__40) := ((p_40_1.ext E_60).keep K_76 (fun q => ne_b_33_b_60 (List.mem_singleton.mp q)))
            have f_129 : Exa Z T_76.heap f__40 "java/lang/String" := ((p_40_2.ext E_60).keep K_76)
            have f_130 : Fld Z T_76.heap f__40 "java/lang/String" "coder" "B" (.int (0 : Int32)) := ((p_40_3.ext E_60).keep K_76 (fun q => ne_f__40_b_60 (List.mem_singleton.mp q)))
            have f_131 : Fld Z T_76.heap f__40 "java/lang/String" "value" "[B" (.ref bf__40) := ((p_40_4.ext E_60).keep K_76 (fun q => ne_f__40_b_60 (List.mem_singleton.mp q)))
            have f_132 : Arv Z T_76.heap bf__40 kf__40 .byte (own_i (own_fst (own_mk p1) (own_mk p2)).length) ((own_fst (own_mk p1) (own_mk p2)).map Value.int) (.int (0 : Int32)) := ((p_40_5.ext E_60).keep K_76 (fun q => ne_bf__40_b_60 (List.mem_singleton.mp q)))
            have f_133 : Exa Z T_76.heap s2__40 "java/lang/String" := ((p_40_6.ext E_60).keep K_76)
            have f_134 : Fld Z T_76.heap s2__40 "java/lang/String" "coder" "B" (.int (0 : Int32)) := ((p_40_7.ext E_60).keep K_76 (fun q => ne_s2__40_b_60 (List.mem_singleton.mp q)))
            have f_135 : Fld Z T_76.heap s2__40 "java/lang/String" "value" "[B" (.ref bs__40) := ((p_40_8.ext E_60).keep K_76 (fun q => ne_s2__40_b_60 (List.mem_singleton.mp q)))
            have f_136 : Arv Z T_76.heap bs__40 ks__40 .byte (own_i (own_snd (own_mk p1) (own_mk p2)).length) ((own_snd (own_mk p1) (own_mk p2)).map Value.int) (.int (0 : Int32)) := ((p_40_9.ext E_60).keep K_76 (fun q => ne_bs__40_b_60 (List.mem_singleton.mp q)))
            have f_137 : Exa Z T_76.heap b_33 "com/example/cogram/cogram/model/TermPair" := ((f_73.ext E_60).keep K_76)
            obtain ⟨cq_125, kq_125, q_125a, q_125b, q_125c⟩ := isOf hZ e_119 f_137
            obtain ⟨_, T_125, Lc_125, X_125, hQ_125, st_125⟩ := own_un X_119 (Q := QteT Z b_33 b_60 f__40 s2__40 f__76 s2__76 bf__40 kf__40 (own_fst (own_mk p1) (own_mk p2)) bs__40 ks__40 (own_snd (own_mk p1) (own_mk p2)) bf__76 kf__76 (own_fst (own_pick (p5 &&& (3 : Int32)) (own_mk p1) (own_mk p2) (own_mk p3)) (own_pick (((p5.toUInt32 >>> ((2 : Int32) &&& 31).toUInt32).toInt32) &&& (3 : Int32)) (own_mk p1) (own_mk p2) (own_mk p4))) bs__76 ks__76 (own_snd (own_pick (p5 &&& (3 : Int32)) (own_mk p1) (own_mk p2) (own_mk p3)) (own_pick (((p5.toUInt32 >>> ((2 : Int32) &&& 31).toUInt32).toInt32) &&& (3 : Int32)) (own_mk p1) (own_mk p2) (own_mk p4))) cs T_76.heap n0) (rc := 0) (rs := 0) (W := fun v B => Steps p.tables e below (T_119.setTop (mkF m 179 #[.val (.int p1), .val (.int p2), .val (.int p3), .val (.int p4), .val (.int p5), .val (.ref o__1), .val (.ref o__4), .val (.ref o__12), .val (.ref o__24), .val (.ref b_33), .val (.int kd), .val (.ref b_60), .val (.int (0 : Int32))] [(.ref b_60), (.ref b_33)])) (B.setTop { (mkF m 179 #[.val (.int p1), .val (.int p2), .val (.int p3), .val (.int p4), .val (.int p5), .val (.ref o__1), .val (.ref o__4), .val (.ref o__12), .val (.ref o__24), .val (.ref b_33), .val (.int kd), .val (.ref b_60), .val (.int (0 : Int32))] [(.ref b_60), (.ref b_33)]) with pc := 182, stack := v.toList ++ [] })) <| X_119.virtualBack hx (y := (⟨"com/example/cogram/cogram/model/TermPair", "equals", "(Ljava/lang/Object;)Z"⟩ : MethodName)) (z := (⟨"com/example/cogram/cogram/model/TermPair", "equals", "(Ljava/lang/Object;)Z"⟩ : MethodName)) hown (mvT hZ (hw _ (List.mem_of_getElem? (i := 66) rfl))) (mvT hZ (hw _ (List.mem_of_getElem? (i := 67) rfl))) (notFace_of_selects (args := #[]) (mvT hZ (hw _ (List.mem_of_getElem? (i := 69) rfl)))) (mvT hZ (hw _ (List.mem_of_getElem? (i := 69) rfl))) (mvT hZ (hw _ (List.mem_of_getElem? (i := 68) rfl))) (by decide) (backOf (W := 0) (rmteT l Z a0 hw [] b_33 b_60 f__40 s2__40 f__76 s2__76 bf__40 kf__40 (own_fst (own_mk p1) (own_mk p2)) bs__40 ks__40 (own_snd (own_mk p1) (own_mk p2)) bf__76 kf__76 (own_fst (own_pick (p5 &&& (3 : Int32)) (own_mk p1) (own_mk p2) (own_mk p3)) (own_pick (((p5.toUInt32 >>> ((2 : Int32) &&& 31).toUInt32).toInt32) &&& (3 : Int32)) (own_mk p1) (own_mk p2) (own_mk p4))) bs__76 ks__76 (own_snd (own_pick (p5 &&& (3 : Int32)) (own_mk p1) (own_mk p2) (own_mk p3)) (own_pick (((p5.toUInt32 >>> ((2 : Int32) &&& 31).toUInt32).toInt32) &&& (3 : Int32)) (own_mk p1) (own_mk p2) (own_mk p4))) cs T_76.heap n0 z_85 f_126 f_127 f_128 p_76_0 p_76_1 f_129 f_130 f_131 f_132 f_133 f_134 f_135 f_136 p_76_2 p_76_3 p_76_4 p_76_5 p_76_6 p_76_7 p_76_8 p_76_9 ((own_ok_fst (own_ok_mk _) (own_ok_mk _))) ((own_ok_snd (own_ok_mk _) (own_ok_mk _))) ((own_ok_fst (own_ok_pick (own_ok_mk _) (own_ok_mk _) (own_ok_mk _)) (own_ok_pick (own_ok_mk _) (own_ok_mk _) (own_ok_mk _)))) ((own_ok_snd (own_ok_pick (own_ok_mk _) (own_ok_mk _) (own_ok_mk _)) (own_ok_pick (own_ok_mk _) (own_ok_mk _) (own_ok_mk _)))) SC O_86 (hcs)) hZ (hw _ (List.mem_of_getElem? (i := 70) rfl)) (hw _ (List.mem_of_getElem? (i := 31) rfl)) (by decide) (by decide)) q_125a q_125c (g := (mkF m 179 #[.val (.int p1), .val (.int p2), .val (.int p3), .val (.int p4), .val (.int p5), .val (.ref o__1), .val (.ref o__4), .val (.ref o__12), .val (.ref o__24), .val (.ref b_33), .val (.int kd), .val (.ref b_60), .val (.int (0 : Int32))] [(.ref b_60), (.ref b_33)])) rfl (by rw [hml]; rfl) (Steps.refl _) (argsL := [(.ref b_60)]) (rest := []) (lenOf pd_17 rfl) rfl (by show 2 * 0 + _ ≤ _; exact Nat.le_of_eq rfl) (hb hby at_179) (fun _ _ => ⟨rfl, e_119, (by decide : 18 + 0 ≤ _), (by decide : 36 + 0 ≤ _)⟩)
            obtain ⟨rfl, N_125q, e_125⟩ := hQ_125
            have N_125 := Fr.app N_119 N_125q
            refine OGo.to (fun _ k => st_125.trans k) ?_
            show OGo p e below _ (T_125.setTop (mkF m 182 #[.val (.int p1), .val (.int p2), .val (.int p3), .val (.int p4), .val (.int p5), .val (.ref o__1), .val (.ref o__4), .val (.ref o__12), .val (.ref o__24), .val (.ref b_33), .val (.int kd), .val (.ref b_60), .val (.int (0 : Int32))] [(.int (own_teq (own_fst (own_mk p1) (own_mk p2)) (own_snd (own_mk p1) (own_mk p2)) (own_fst (own_pick (p5 &&& (3 : Int32)) (own_mk p1) (own_mk p2) (own_mk p3)) (own_pick (((p5.toUInt32 >>> ((2 : Int32) &&& 31).toUInt32).toInt32) &&& (3 : Int32)) (own_mk p1) (own_mk p2) (own_mk p4))) (own_snd (own_pick (p5 &&& (3 : Int32)) (own_mk p1) (own_mk p2) (own_mk p3)) (own_pick (((p5.toUInt32 >>> ((2 : Int32) &&& 31).toUInt32).toInt32) &&& (3 : Int32)) (own_mk p1) (own_mk p2) (own_mk p4)))))]))
            refine OGo.to (fun _ k => XS.iload X_125.here hx rfl (hb hby at_182) rfl k) ?_
            have hc184__138 : (own_teq (own_fst (own_mk p1) (own_mk p2)) (own_snd (own_mk p1) (own_mk p2)) (own_fst (own_pick (p5 &&& (3 : Int32)) (own_mk p1) (own_mk p2) (own_mk p3)) (own_pick (((p5.toUInt32 >>> ((2 : Int32) &&& 31).toUInt32).toInt32) &&& (3 : Int32)) (own_mk p1) (own_mk p2) (own_mk p4))) (own_snd (own_pick (p5 &&& (3 : Int32)) (own_mk p1) (own_mk p2) (own_mk p3)) (own_pick (((p5.toUInt32 >>> ((2 : Int32) &&& 31).toUInt32).toInt32) &&& (3 : Int32)) (own_mk p1) (own_mk p2) (own_mk p4)))) = (0 : Int32) := own_T0 (Or.inl (own_seq_n hc135__96)) (Or.inr (own_seq_n hc165__124))
            refine OGo.to (fun _ k => XS.icmpNo X_125.here hx rfl (hb hby at_184) rfl (teq hc184__138).2 k) ?_
            show OGo p e below _ (T_125.setTop (mkF m 187 #[.val (.int p1), .val (.int p2), .val (.int p3), .val (.int p4), .val (.int p5), .val (.ref o__1), .val (.ref o__4), .val (.ref o__12), .val (.ref o__24), .val (.ref b_33), .val (.int kd), .val (.ref b_60), .val (.int (0 : Int32))] []))
            refine OGo.to (fun _ k => XS.aload X_125.here hx rfl (hb hby at_187) rfl rfl k) ?_
            refine OGo.to (fun _ k => XS.aload X_125.here hx rfl (hb hby at_189) rfl rfl k) ?_
            obtain ⟨cq_139, kq_139, q_139a, q_139b, q_139c⟩ := isOf hZ e_125 f_126
            obtain ⟨_, T_139, Lc_139, X_139, hQ_139, st_139⟩ := own_un X_125 (Q := QteT Z b_60 b_33 f__76 s2__76 f__40 s2__40 bf__76 kf__76 (own_fst (own_pick (p5 &&& (3 : Int32)) (own_mk p1) (own_mk p2) (own_mk p3)) (own_pick (((p5.toUInt32 >>> ((2 : Int32) &&& 31).toUInt32).toInt32) &&& (3 : Int32)) (own_mk p1) (own_mk p2) (own_mk p4))) bs__76 ks__76 (own_snd (own_pick (p5 &&& (3 : Int32)) (own_mk p1) (own_mk p2) (own_mk p3)) (own_pick (((p5.toUInt32 >>> ((2 : Int32) &&& 31).toUInt32).toInt32) &&& (3 : Int32)) (own_mk p1) (own_mk p2) (own_mk p4))) bf__40 kf__40 (own_fst (own_mk p1) (own_mk p2)) bs__40 ks__40 (own_snd (own_mk p1) (own_mk p2)) cs T_76.heap n0) (rc := 0) (rs := 0) (W := fun v B => Steps p.tables e below (T_125.setTop (mkF m 191 #[.val (.int p1), .val (.int p2), .val (.int p3), .val (.int p4), .val (.int p5), .val (.ref o__1), .val (.ref o__4), .val (.ref o__12), .val (.ref o__24), .val (.ref b_33), .val (.int kd), .val (.ref b_60), .val (.int (0 : Int32))] [(.ref b_33), (.ref b_60)])) (B.setTop { (mkF m 191 #[.val (.int p1), .val (.int p2), .val (.int p3), .val (.int p4), .val (.int p5), .val (.ref o__1), .val (.ref o__4), .val (.ref o__12), .val (.ref o__24), .val (.ref b_33), .val (.int kd), .val (.ref b_60), .val (.int (0 : Int32))] [(.ref b_33), (.ref b_60)]) with pc := 194, stack := v.toList ++ [] })) <| X_125.virtualBack hx (y := (⟨"com/example/cogram/cogram/model/TermPair", "equals", "(Ljava/lang/Object;)Z"⟩ : MethodName)) (z := (⟨"com/example/cogram/cogram/model/TermPair", "equals", "(Ljava/lang/Object;)Z"⟩ : MethodName)) hown (mvT hZ (hw _ (List.mem_of_getElem? (i := 66) rfl))) (mvT hZ (hw _ (List.mem_of_getElem? (i := 67) rfl))) (notFace_of_selects (args := #[]) (mvT hZ (hw _ (List.mem_of_getElem? (i := 69) rfl)))) (mvT hZ (hw _ (List.mem_of_getElem? (i := 69) rfl))) (mvT hZ (hw _ (List.mem_of_getElem? (i := 68) rfl))) (by decide) (backOf (W := 0) (rmteT l Z a0 hw [] b_60 b_33 f__76 s2__76 f__40 s2__40 bf__76 kf__76 (own_fst (own_pick (p5 &&& (3 : Int32)) (own_mk p1) (own_mk p2) (own_mk p3)) (own_pick (((p5.toUInt32 >>> ((2 : Int32) &&& 31).toUInt32).toInt32) &&& (3 : Int32)) (own_mk p1) (own_mk p2) (own_mk p4))) bs__76 ks__76 (own_snd (own_pick (p5 &&& (3 : Int32)) (own_mk p1) (own_mk p2) (own_mk p3)) (own_pick (((p5.toUInt32 >>> ((2 : Int32) &&& 31).toUInt32).toInt32) &&& (3 : Int32)) (own_mk p1) (own_mk p2) (own_mk p4))) bf__40 kf__40 (own_fst (own_mk p1) (own_mk p2)) bs__40 ks__40 (own_snd (own_mk p1) (own_mk p2)) cs T_76.heap n0 z_85 f_137 p_76_0 p_76_1 f_127 f_128 p_76_2 p_76_3 p_76_4 p_76_5 p_76_6 p_76_7 p_76_8 p_76_9 f_129 f_130 f_131 f_132 f_133 f_134 f_135 f_136 ((own_ok_fst (own_ok_pick (own_ok_mk _) (own_ok_mk _) (own_ok_mk _)) (own_ok_pick (own_ok_mk _) (own_ok_mk _) (own_ok_mk _)))) ((own_ok_snd (own_ok_pick (own_ok_mk _) (own_ok_mk _) (own_ok_mk _)) (own_ok_pick (own_ok_mk _) (own_ok_mk _) (own_ok_mk _)))) ((own_ok_fst (own_ok_mk _) (own_ok_mk _))) ((own_ok_snd (own_ok_mk _) (own_ok_mk _))) SC O_86 (hcs)) hZ (hw _ (List.mem_of_getElem? (i := 70) rfl)) (hw _ (List.mem_of_getElem? (i := 31) rfl)) (by decide) (by decide)) q_139a q_139c (g := (mkF m 191 #[.val (.int p1), .val (.int p2), .val (.int p3), .val (.int p4), .val (.int p5), .val (.ref o__1), .val (.ref o__4), .val (.ref o__12), .val (.ref o__24), .val (.ref b_33), .val (.int kd), .val (.ref b_60), .val (.int (0 : Int32))] [(.ref b_33), (.ref b_60)])) rfl (by rw [hml]; rfl) (Steps.refl _) (argsL := [(.ref b_33)]) (rest := []) (lenOf pd_17 rfl) rfl (by show 2 * 0 + _ ≤ _; exact Nat.le_of_eq rfl) (hb hby at_191) (fun _ _ => ⟨rfl, e_125, (by decide : 18 + 0 ≤ _), (by decide : 36 + 0 ≤ _)⟩)
            obtain ⟨rfl, N_139q, e_139⟩ := hQ_139
            have N_139 := Fr.app N_125 N_139q
            refine OGo.to (fun _ k => st_139.trans k) ?_
            show OGo p e below _ (T_139.setTop (mkF m 194 #[.val (.int p1), .val (.int p2), .val (.int p3), .val (.int p4), .val (.int p5), .val (.ref o__1), .val (.ref o__4), .val (.ref o__12), .val (.ref o__24), .val (.ref b_33), .val (.int kd), .val (.ref b_60), .val (.int (0 : Int32))] [(.int (own_teq (own_fst (own_pick (p5 &&& (3 : Int32)) (own_mk p1) (own_mk p2) (own_mk p3)) (own_pick (((p5.toUInt32 >>> ((2 : Int32) &&& 31).toUInt32).toInt32) &&& (3 : Int32)) (own_mk p1) (own_mk p2) (own_mk p4))) (own_snd (own_pick (p5 &&& (3 : Int32)) (own_mk p1) (own_mk p2) (own_mk p3)) (own_pick (((p5.toUInt32 >>> ((2 : Int32) &&& 31).toUInt32).toInt32) &&& (3 : Int32)) (own_mk p1) (own_mk p2) (own_mk p4))) (own_fst (own_mk p1) (own_mk p2)) (own_snd (own_mk p1) (own_mk p2))))]))
            refine OGo.to (fun _ k => XS.iload X_139.here hx rfl (hb hby at_194) rfl k) ?_
            have hc196__140 : (own_teq (own_fst (own_pick (p5 &&& (3 : Int32)) (own_mk p1) (own_mk p2) (own_mk p3)) (own_pick (((p5.toUInt32 >>> ((2 : Int32) &&& 31).toUInt32).toInt32) &&& (3 : Int32)) (own_mk p1) (own_mk p2) (own_mk p4))) (own_snd (own_pick (p5 &&& (3 : Int32)) (own_mk p1) (own_mk p2) (own_mk p3)) (own_pick (((p5.toUInt32 >>> ((2 : Int32) &&& 31).toUInt32).toInt32) &&& (3 : Int32)) (own_mk p1) (own_mk p2) (own_mk p4))) (own_fst (own_mk p1) (own_mk p2)) (own_snd (own_mk p1) (own_mk p2))) = (0 : Int32) := own_T0s (Or.inl (own_seq_n hc135__96)) (Or.inr (own_seq_n hc165__124))
            refine OGo.to (fun _ k => XS.icmpNo X_139.here hx rfl (hb hby at_196) rfl (teq hc196__140).2 k) ?_
            show OGo p e below _ (T_139.setTop (mkF m 199 #[.val (.int p1), .val (.int p2), .val (.int p3), .val (.int p4), .val (.int p5), .val (.ref o__1), .val (.ref o__4), .val (.ref o__12), .val (.ref o__24), .val (.ref b_33), .val (.int kd), .val (.ref b_60), .val (.int (0 : Int32))] []))
            refine OGo.to (fun _ k => XS.iconst X_139.here hx rfl (hb hby at_199) k) ?_
            refine OGo.to (fun _ k => XS.goto X_139.here hx rfl (pc0 := 200) (pc' := 204) rfl (hb hby at_200) (by decide) (by decide) k) ?_
            refine OGo.retW (Q := Q0 Z p1 p2 p3 p4 p5 cs h0 n0) X_139 hS_21 (by rw [e_139]; exact (Nat.le_trans (Nat.le_trans (Nat.le_trans (Nat.le_trans (Nat.le_refl T_21.heap.size) E_33.1) K_40.1) E_60.1) K_76.1)) (some (.int (1 : Int32))) (fun h => by rw [Bd.returns] at h; cases h) Bd.notSynchronized (fun fs hr => retN X_139 hx (t := .boolean) (z := (1 : Int32)) Bd.returns (by simp) (hb hby at_204) hr) ?_ (by decide) (by decide)
            show Q0 Z p1 p2 p3 p4 p5 cs h0 n0 _ T_139.heap _
            rw [e_139]
            exact ⟨rfl, N_139⟩
          ·  -- pc 165: no
            refine OGo.to (fun _ k => XS.ifNo X_119.here hx rfl (hb hby at_165) rfl ((if0 _ _).trans (feq hc165__124).1) k) ?_
            show OGo p e below _ (T_119.setTop (mkF m 168 #[.val (.int p1), .val (.int p2), .val (.int p3), .val (.int p4), .val (.int p5), .val (.ref o__1), .val (.ref o__4), .val (.ref o__12), .val (.ref o__24), .val (.ref b_33), .val (.int kd), .val (.ref b_60), .unset] []))
            refine OGo.to (fun _ k => XS.iconst X_119.here hx rfl (hb hby at_168) k) ?_
            refine OGo.to (fun _ k => XS.goto X_119.here hx rfl (pc0 := 169) (pc' := 173) rfl (hb hby at_169) (by decide) (by decide) k) ?_
            show OGo p e below _ (T_119.setTop (mkF m 173 #[.val (.int p1), .val (.int p2), .val (.int p3), .val (.int p4), .val (.int p5), .val (.ref o__1), .val (.ref o__4), .val (.ref o__12), .val (.ref o__24), .val (.ref b_33), .val (.int kd), .val (.ref b_60), .unset] [(.int (1 : Int32))]))
            refine OGo.to (fun _ k => XS.istore X_119.here hx rfl (hb hby at_173) rfl (l' := #[.val (.int p1), .val (.int p2), .val (.int p3), .val (.int p4), .val (.int p5), .val (.ref o__1), .val (.ref o__4), .val (.ref o__12), .val (.ref o__24), .val (.ref b_33), .val (.int kd), .val (.ref b_60), .val (.int (1 : Int32))]) rfl k) ?_
            refine OGo.to (fun _ k => XS.aload X_119.here hx rfl (hb hby at_175) rfl rfl k) ?_
            refine OGo.to (fun _ k => XS.aload X_119.here hx rfl (hb hby at_177) rfl rfl k) ?_
            have f_142 : Exa Z T_76.heap b_60 "com/example/cogram/cogram/model/TermPair" := (A_60.keep K_76)
            have f_143 : Fld Z T_76.heap b_33 "com/example/cogram/cogram/model/TermPair" "first" "Ljava/lang/String;" (.ref f__40) := ((p_40_0.ext E_60).keep K_76 (fun q => ne_b_33_b_60 (List.mem_singleton.mp q)))
            have f_144 : Fld Z T_76.heap b_33 "com/example/cogram/cogram/model/TermPair" "second" "Ljava/lang/String;" (.ref s2__40) := ((p_40_1.ext E_60).keep K_76 (fun q => ne_b_33_b_60 (List.mem_singleton.mp q)))
            have f_145 : Exa Z T_76.heap f__40 "java/lang/String" := ((p_40_2.ext E_60).keep K_76)
            have f_146 : Fld Z T_76.heap f__40 "java/lang/String" "coder" "B" (.int (0 : Int32)) := ((p_40_3.ext E_60).keep K_76 (fun q => ne_f__40_b_60 (List.mem_singleton.mp q)))
            have f_147 : Fld Z T_76.heap f__40 "java/lang/String" "value" "[B" (.ref bf__40) := ((p_40_4.ext E_60).keep K_76 (fun q => ne_f__40_b_60 (List.mem_singleton.mp q)))
            have f_148 : Arv Z T_76.heap bf__40 kf__40 .byte (own_i (own_fst (own_mk p1) (own_mk p2)).length) ((own_fst (own_mk p1) (own_mk p2)).map Value.int) (.int (0 : Int32)) := ((p_40_5.ext E_60).keep K_76 (fun q => ne_bf__40_b_60 (List.mem_singleton.mp q)))
            have f_149 : Exa Z T_76.heap s2__40 "java/lang/String" := ((p_40_6.ext E_60).keep K_76)
            have f_150 : Fld Z T_76.heap s2__40 "java/lang/String" "coder" "B" (.int (0 : Int32)) := ((p_40_7.ext E_60).keep K_76 (fun q => ne_s2__40_b_60 (List.mem_singleton.mp q)))
            have f_151 : Fld Z T_76.heap s2__40 "java/lang/String" "value" "[B" (.ref bs__40) := ((p_40_8.ext E_60).keep K_76 (fun q => ne_s2__40_b_60 (List.mem_singleton.mp q)))
            have f_152 : Arv Z T_76.heap bs__40 ks__40 .byte (own_i (own_snd (own_mk p1) (own_mk p2)).length) ((own_snd (own_mk p1) (own_mk p2)).map Value.int) (.int (0 : Int32)) := ((p_40_9.ext E_60).keep K_76 (fun q => ne_bs__40_b_60 (List.mem_singleton.mp q)))
            have f_153 : Exa Z T_76.heap b_33 "com/example/cogram/cogram/model/TermPair" := ((f_73.ext E_60).keep K_76)
            obtain ⟨cq_141, kq_141, q_141a, q_141b, q_141c⟩ := isOf hZ e_119 f_153
            obtain ⟨_, T_141, Lc_141, X_141, hQ_141, st_141⟩ := own_un X_119 (Q := QteT Z b_33 b_60 f__40 s2__40 f__76 s2__76 bf__40 kf__40 (own_fst (own_mk p1) (own_mk p2)) bs__40 ks__40 (own_snd (own_mk p1) (own_mk p2)) bf__76 kf__76 (own_fst (own_pick (p5 &&& (3 : Int32)) (own_mk p1) (own_mk p2) (own_mk p3)) (own_pick (((p5.toUInt32 >>> ((2 : Int32) &&& 31).toUInt32).toInt32) &&& (3 : Int32)) (own_mk p1) (own_mk p2) (own_mk p4))) bs__76 ks__76 (own_snd (own_pick (p5 &&& (3 : Int32)) (own_mk p1) (own_mk p2) (own_mk p3)) (own_pick (((p5.toUInt32 >>> ((2 : Int32) &&& 31).toUInt32).toInt32) &&& (3 : Int32)) (own_mk p1) (own_mk p2) (own_mk p4))) cs T_76.heap n0) (rc := 0) (rs := 0) (W := fun v B => Steps p.tables e below (T_119.setTop (mkF m 179 #[.val (.int p1), .val (.int p2), .val (.int p3), .val (.int p4), .val (.int p5), .val (.ref o__1), .val (.ref o__4), .val (.ref o__12), .val (.ref o__24), .val (.ref b_33), .val (.int kd), .val (.ref b_60), .val (.int (1 : Int32))] [(.ref b_60), (.ref b_33)])) (B.setTop { (mkF m 179 #[.val (.int p1), .val (.int p2), .val (.int p3), .val (.int p4), .val (.int p5), .val (.ref o__1), .val (.ref o__4), .val (.ref o__12), .val (.ref o__24), .val (.ref b_33), .val (.int kd), .val (.ref b_60), .val (.int (1 : Int32))] [(.ref b_60), (.ref b_33)]) with pc := 182, stack := v.toList ++ [] })) <| X_119.virtualBack hx (y := (⟨"com/example/cogram/cogram/model/TermPair", "equals", "(Ljava/lang/Object;)Z"⟩ : MethodName)) (z := (⟨"com/example/cogram/cogram/model/TermPair", "equals", "(Ljava/lang/Object;)Z"⟩ : MethodName)) hown (mvT hZ (hw _ (List.mem_of_getElem? (i := 66) rfl))) (mvT hZ (hw _ (List.mem_of_getElem? (i := 67) rfl))) (notFace_of_selects (args := #[]) (mvT hZ (hw _ (List.mem_of_getElem? (i := 69) rfl)))) (mvT hZ (hw _ (List.mem_of_getElem? (i := 69) rfl))) (mvT hZ (hw _ (List.mem_of_getElem? (i := 68) rfl))) (by decide) (backOf (W := 0) (rmteT l Z a0 hw [] b_33 b_60 f__40 s2__40 f__76 s2__76 bf__40 kf__40 (own_fst (own_mk p1) (own_mk p2)) bs__40 ks__40 (own_snd (own_mk p1) (own_mk p2)) bf__76 kf__76 (own_fst (own_pick (p5 &&& (3 : Int32)) (own_mk p1) (own_mk p2) (own_mk p3)) (own_pick (((p5.toUInt32 >>> ((2 : Int32) &&& 31).toUInt32).toInt32) &&& (3 : Int32)) (own_mk p1) (own_mk p2) (own_mk p4))) bs__76 ks__76 (own_snd (own_pick (p5 &&& (3 : Int32)) (own_mk p1) (own_mk p2) (own_mk p3)) (own_pick (((p5.toUInt32 >>> ((2 : Int32) &&& 31).toUInt32).toInt32) &&& (3 : Int32)) (own_mk p1) (own_mk p2) (own_mk p4))) cs T_76.heap n0 z_85 f_142 f_143 f_144 p_76_0 p_76_1 f_145 f_146 f_147 f_148 f_149 f_150 f_151 f_152 p_76_2 p_76_3 p_76_4 p_76_5 p_76_6 p_76_7 p_76_8 p_76_9 ((own_ok_fst (own_ok_mk _) (own_ok_mk _))) ((own_ok_snd (own_ok_mk _) (own_ok_mk _))) ((own_ok_fst (own_ok_pick (own_ok_mk _) (own_ok_mk _) (own_ok_mk _)) (own_ok_pick (own_ok_mk _) (own_ok_mk _) (own_ok_mk _)))) ((own_ok_snd (own_ok_pick (own_ok_mk _) (own_ok_mk _) (own_ok_mk _)) (own_ok_pick (own_ok_mk _) (own_ok_mk _) (own_ok_mk _)))) SC O_86 (hcs)) hZ (hw _ (List.mem_of_getElem? (i := 70) rfl)) (hw _ (List.mem_of_getElem? (i := 31) rfl)) (by decide) (by decide)) q_141a q_141c (g := (mkF m 179 #[.val (.int p1), .val (.int p2), .val (.int p3), .val (.int p4), .val (.int p5), .val (.ref o__1), .val (.ref o__4), .val (.ref o__12), .val (.ref o__24), .val (.ref b_33), .val (.int kd), .val (.ref b_60), .val (.int (1 : Int32))] [(.ref b_60), (.ref b_33)])) rfl (by rw [hml]; rfl) (Steps.refl _) (argsL := [(.ref b_60)]) (rest := []) (lenOf pd_17 rfl) rfl (by show 2 * 0 + _ ≤ _; exact Nat.le_of_eq rfl) (hb hby at_179) (fun _ _ => ⟨rfl, e_119, (by decide : 18 + 0 ≤ _), (by decide : 36 + 0 ≤ _)⟩)
            obtain ⟨rfl, N_141q, e_141⟩ := hQ_141
            have N_141 := Fr.app N_119 N_141q
            refine OGo.to (fun _ k => st_141.trans k) ?_
            show OGo p e below _ (T_141.setTop (mkF m 182 #[.val (.int p1), .val (.int p2), .val (.int p3), .val (.int p4), .val (.int p5), .val (.ref o__1), .val (.ref o__4), .val (.ref o__12), .val (.ref o__24), .val (.ref b_33), .val (.int kd), .val (.ref b_60), .val (.int (1 : Int32))] [(.int (own_teq (own_fst (own_mk p1) (own_mk p2)) (own_snd (own_mk p1) (own_mk p2)) (own_fst (own_pick (p5 &&& (3 : Int32)) (own_mk p1) (own_mk p2) (own_mk p3)) (own_pick (((p5.toUInt32 >>> ((2 : Int32) &&& 31).toUInt32).toInt32) &&& (3 : Int32)) (own_mk p1) (own_mk p2) (own_mk p4))) (own_snd (own_pick (p5 &&& (3 : Int32)) (own_mk p1) (own_mk p2) (own_mk p3)) (own_pick (((p5.toUInt32 >>> ((2 : Int32) &&& 31).toUInt32).toInt32) &&& (3 : Int32)) (own_mk p1) (own_mk p2) (own_mk p4)))))]))
            refine OGo.to (fun _ k => XS.iload X_141.here hx rfl (hb hby at_182) rfl k) ?_
            have hc184__154 : (own_teq (own_fst (own_mk p1) (own_mk p2)) (own_snd (own_mk p1) (own_mk p2)) (own_fst (own_pick (p5 &&& (3 : Int32)) (own_mk p1) (own_mk p2) (own_mk p3)) (own_pick (((p5.toUInt32 >>> ((2 : Int32) &&& 31).toUInt32).toInt32) &&& (3 : Int32)) (own_mk p1) (own_mk p2) (own_mk p4))) (own_snd (own_pick (p5 &&& (3 : Int32)) (own_mk p1) (own_mk p2) (own_mk p3)) (own_pick (((p5.toUInt32 >>> ((2 : Int32) &&& 31).toUInt32).toInt32) &&& (3 : Int32)) (own_mk p1) (own_mk p2) (own_mk p4)))) = (1 : Int32) := own_T1 (own_ok_mk _) (own_ok_mk _) (own_ok_pick (own_ok_mk _) (own_ok_mk _) (own_ok_mk _)) (own_ok_pick (own_ok_mk _) (own_ok_mk _) (own_ok_mk _)) (Or.inr ⟨own_seq_e hc155__102, own_seq_e hc165__124⟩)
            refine OGo.to (fun _ k => XS.icmpNo X_141.here hx rfl (hb hby at_184) rfl (teq hc184__154).2 k) ?_
            show OGo p e below _ (T_141.setTop (mkF m 187 #[.val (.int p1), .val (.int p2), .val (.int p3), .val (.int p4), .val (.int p5), .val (.ref o__1), .val (.ref o__4), .val (.ref o__12), .val (.ref o__24), .val (.ref b_33), .val (.int kd), .val (.ref b_60), .val (.int (1 : Int32))] []))
            refine OGo.to (fun _ k => XS.aload X_141.here hx rfl (hb hby at_187) rfl rfl k) ?_
            refine OGo.to (fun _ k => XS.aload X_141.here hx rfl (hb hby at_189) rfl rfl k) ?_
            obtain ⟨cq_155, kq_155, q_155a, q_155b, q_155c⟩ := isOf hZ e_141 f_142
            obtain ⟨_, T_155, Lc_155, X_155, hQ_155, st_155⟩ := own_un X_141 (Q := QteT Z b_60 b_33 f__76 s2__76 f__40 s2__40 bf__76 kf__76 (own_fst (own_pick (p5 &&& (3 : Int32)) (own_mk p1) (own_mk p2) (own_mk p3)) (own_pick (((p5.toUInt32 >>> ((2 : Int32) &&& 31).toUInt32).toInt32) &&& (3 : Int32)) (own_mk p1) (own_mk p2) (own_mk p4))) bs__76 ks__76 (own_snd (own_pick (p5 &&& (3 : Int32)) (own_mk p1) (own_mk p2) (own_mk p3)) (own_pick (((p5.toUInt32 >>> ((2 : Int32) &&& 31).toUInt32).toInt32) &&& (3 : Int32)) (own_mk p1) (own_mk p2) (own_mk p4))) bf__40 kf__40 (own_fst (own_mk p1) (own_mk p2)) bs__40 ks__40 (own_snd (own_mk p1) (own_mk p2)) cs T_76.heap n0) (rc := 0) (rs := 0) (W := fun v B => Steps p.tables e below (T_141.setTop (mkF m 191 #[.val (.int p1), .val (.int p2), .val (.int p3), .val (.int p4), .val (.int p5), .val (.ref o__1), .val (.ref o__4), .val (.ref o__12), .val (.ref o__24), .val (.ref b_33), .val (.int kd), .val (.ref b_60), .val (.int (1 : Int32))] [(.ref b_33), (.ref b_60)])) (B.setTop { (mkF m 191 #[.val (.int p1), .val (.int p2), .val (.int p3), .val (.int p4), .val (.int p5), .val (.ref o__1), .val (.ref o__4), .val (.ref o__12), .val (.ref o__24), .val (.ref b_33), .val (.int kd), .val (.ref b_60), .val (.int (1 : Int32))] [(.ref b_33), (.ref b_60)]) with pc := 194, stack := v.toList ++ [] })) <| X_141.virtualBack hx (y := (⟨"com/example/cogram/cogram/model/TermPair", "equals", "(Ljava/lang/Object;)Z"⟩ : MethodName)) (z := (⟨"com/example/cogram/cogram/model/TermPair", "equals", "(Ljava/lang/Object;)Z"⟩ : MethodName)) hown (mvT hZ (hw _ (List.mem_of_getElem? (i := 66) rfl))) (mvT hZ (hw _ (List.mem_of_getElem? (i := 67) rfl))) (notFace_of_selects (args := #[]) (mvT hZ (hw _ (List.mem_of_getElem? (i := 69) rfl)))) (mvT hZ (hw _ (List.mem_of_getElem? (i := 69) rfl))) (mvT hZ (hw _ (List.mem_of_getElem? (i := 68) rfl))) (by decide) (backOf (W := 0) (rmteT l Z a0 hw [] b_60 b_33 f__76 s2__76 f__40 s2__40 bf__76 kf__76 (own_fst (own_pick (p5 &&& (3 : Int32)) (own_mk p1) (own_mk p2) (own_mk p3)) (own_pick (((p5.toUInt32 >>> ((2 : Int32) &&& 31).toUInt32).toInt32) &&& (3 : Int32)) (own_mk p1) (own_mk p2) (own_mk p4))) bs__76 ks__76 (own_snd (own_pick (p5 &&& (3 : Int32)) (own_mk p1) (own_mk p2) (own_mk p3)) (own_pick (((p5.toUInt32 >>> ((2 : Int32) &&& 31).toUInt32).toInt32) &&& (3 : Int32)) (own_mk p1) (own_mk p2) (own_mk p4))) bf__40 kf__40 (own_fst (own_mk p1) (own_mk p2)) bs__40 ks__40 (own_snd (own_mk p1) (own_mk p2)) cs T_76.heap n0 z_85 f_153 p_76_0 p_76_1 f_143 f_144 p_76_2 p_76_3 p_76_4 p_76_5 p_76_6 p_76_7 p_76_8 p_76_9 f_145 f_146 f_147 f_148 f_149 f_150 f_151 f_152 ((own_ok_fst (own_ok_pick (own_ok_mk _) (own_ok_mk _) (own_ok_mk _)) (own_ok_pick (own_ok_mk _) (own_ok_mk _) (own_ok_mk _)))) ((own_ok_snd (own_ok_pick (own_ok_mk _) (own_ok_mk _) (own_ok_mk _)) (own_ok_pick (own_ok_mk _) (own_ok_mk _) (own_ok_mk _)))) ((own_ok_fst (own_ok_mk _) (own_ok_mk _))) ((own_ok_snd (own_ok_mk _) (own_ok_mk _))) SC O_86 (hcs)) hZ (hw _ (List.mem_of_getElem? (i := 70) rfl)) (hw _ (List.mem_of_getElem? (i := 31) rfl)) (by decide) (by decide)) q_155a q_155c (g := (mkF m 191 #[.val (.int p1), .val (.int p2), .val (.int p3), .val (.int p4), .val (.int p5), .val (.ref o__1), .val (.ref o__4), .val (.ref o__12), .val (.ref o__24), .val (.ref b_33), .val (.int kd), .val (.ref b_60), .val (.int (1 : Int32))] [(.ref b_33), (.ref b_60)])) rfl (by rw [hml]; rfl) (Steps.refl _) (argsL := [(.ref b_33)]) (rest := []) (lenOf pd_17 rfl) rfl (by show 2 * 0 + _ ≤ _; exact Nat.le_of_eq rfl) (hb hby at_191) (fun _ _ => ⟨rfl, e_141, (by decide : 18 + 0 ≤ _), (by decide : 36 + 0 ≤ _)⟩)
            obtain ⟨rfl, N_155q, e_155⟩ := hQ_155
            have N_155 := Fr.app N_141 N_155q
            refine OGo.to (fun _ k => st_155.trans k) ?_
            show OGo p e below _ (T_155.setTop (mkF m 194 #[.val (.int p1), .val (.int p2), .val (.int p3), .val (.int p4), .val (.int p5), .val (.ref o__1), .val (.ref o__4), .val (.ref o__12), .val (.ref o__24), .val (.ref b_33), .val (.int kd), .val (.ref b_60), .val (.int (1 : Int32))] [(.int (own_teq (own_fst (own_pick (p5 &&& (3 : Int32)) (own_mk p1) (own_mk p2) (own_mk p3)) (own_pick (((p5.toUInt32 >>> ((2 : Int32) &&& 31).toUInt32).toInt32) &&& (3 : Int32)) (own_mk p1) (own_mk p2) (own_mk p4))) (own_snd (own_pick (p5 &&& (3 : Int32)) (own_mk p1) (own_mk p2) (own_mk p3)) (own_pick (((p5.toUInt32 >>> ((2 : Int32) &&& 31).toUInt32).toInt32) &&& (3 : Int32)) (own_mk p1) (own_mk p2) (own_mk p4))) (own_fst (own_mk p1) (own_mk p2)) (own_snd (own_mk p1) (own_mk p2))))]))
            refine OGo.to (fun _ k => XS.iload X_155.here hx rfl (hb hby at_194) rfl k) ?_
            have hc196__156 : (own_teq (own_fst (own_pick (p5 &&& (3 : Int32)) (own_mk p1) (own_mk p2) (own_mk p3)) (own_pick (((p5.toUInt32 >>> ((2 : Int32) &&& 31).toUInt32).toInt32) &&& (3 : Int32)) (own_mk p1) (own_mk p2) (own_mk p4))) (own_snd (own_pick (p5 &&& (3 : Int32)) (own_mk p1) (own_mk p2) (own_mk p3)) (own_pick (((p5.toUInt32 >>> ((2 : Int32) &&& 31).toUInt32).toInt32) &&& (3 : Int32)) (own_mk p1) (own_mk p2) (own_mk p4))) (own_fst (own_mk p1) (own_mk p2)) (own_snd (own_mk p1) (own_mk p2))) = (1 : Int32) := own_T1s (own_ok_mk _) (own_ok_mk _) (own_ok_pick (own_ok_mk _) (own_ok_mk _) (own_ok_mk _)) (own_ok_pick (own_ok_mk _) (own_ok_mk _) (own_ok_mk _)) (Or.inr ⟨own_seq_e hc155__102, own_seq_e hc165__124⟩)
            refine OGo.to (fun _ k => XS.icmpNo X_155.here hx rfl (hb hby at_196) rfl (teq hc196__156).2 k) ?_
            show OGo p e below _ (T_155.setTop (mkF m 199 #[.val (.int p1), .val (.int p2), .val (.int p3), .val (.int p4), .val (.int p5), .val (.ref o__1), .val (.ref o__4), .val (.ref o__12), .val (.ref o__24), .val (.ref b_33), .val (.int kd), .val (.ref b_60), .val (.int (1 : Int32))] []))
            refine OGo.to (fun _ k => XS.iconst X_155.here hx rfl (hb hby at_199) k) ?_
            refine OGo.to (fun _ k => XS.goto X_155.here hx rfl (pc0 := 200) (pc' := 204) rfl (hb hby at_200) (by decide) (by decide) k) ?_
            refine OGo.retW (Q := Q0 Z p1 p2 p3 p4 p5 cs h0 n0) X_155 hS_21 (by rw [e_155]; exact (Nat.le_trans (Nat.le_trans (Nat.le_trans (Nat.le_trans (Nat.le_refl T_21.heap.size) E_33.1) K_40.1) E_60.1) K_76.1)) (some (.int (1 : Int32))) (fun h => by rw [Bd.returns] at h; cases h) Bd.notSynchronized (fun fs hr => retN X_155 hx (t := .boolean) (z := (1 : Int32)) Bd.returns (by simp) (hb hby at_204) hr) ?_ (by decide) (by decide)
            show Q0 Z p1 p2 p3 p4 p5 cs h0 n0 _ T_155.heap _
            rw [e_155]
            exact ⟨rfl, N_155⟩
      ·  -- pc 135: no
        refine OGo.to (fun _ k => XS.ifNo X_87.here hx rfl (hb hby at_135) rfl ((if0 _ _).trans (feq hc135__96).1) k) ?_
        show OGo p e below _ (T_87.setTop (mkF m 138 #[.val (.int p1), .val (.int p2), .val (.int p3), .val (.int p4), .val (.int p5), .val (.ref o__1), .val (.ref o__4), .val (.ref o__12), .val (.ref o__24), .val (.ref b_33), .val (.int kd), .val (.ref b_60), .unset] []))
        refine OGo.to (fun _ k => XS.aload X_87.here hx rfl (hb hby at_138) rfl rfl k) ?_
        refine OGo.to (fun _ k => XS.aload X_87.here hx rfl (hb hby at_140) rfl rfl k) ?_
        have f_158 : Exa Z T_76.heap o__4 "java/lang/String" := ((f_63.ext E_60).keep K_76)
        have f_159 : Fld Z T_76.heap o__4 "java/lang/String" "coder" "B" (.int (0 : Int32)) := (((f_46.keep K_40 (fun q => ne_o__4_b_33 (List.mem_singleton.mp q))).ext E_60).keep K_76 (fun q => ne_o__4_b_60 (List.mem_singleton.mp q)))
        have f_160 : Fld Z T_76.heap o__4 "java/lang/String" "value" "[B" (.ref b__4) := (((f_47.keep K_40 (fun q => ne_o__4_b_33 (List.mem_singleton.mp q))).ext E_60).keep K_76 (fun q => ne_o__4_b_60 (List.mem_singleton.mp q)))
        have f_161 : Arv Z T_76.heap b__4 kb__4 .byte (own_i (own_mk p2).length) ((own_mk p2).map Value.int) (.int (0 : Int32)) := ((f_64.ext E_60).keep K_76 (fun q => ne_b__4_b_60 (List.mem_singleton.mp q)))
        have f_162 : Exa Z T_76.heap o__24 "java/lang/String" := (f_81.keep K_76)
        have f_163 : Fld Z T_76.heap o__24 "java/lang/String" "coder" "B" (.int (0 : Int32)) := (f_82.keep K_76 (fun q => ne_o__24_b_60 (List.mem_singleton.mp q)))
        have f_164 : Fld Z T_76.heap o__24 "java/lang/String" "value" "[B" (.ref b__24) := (f_83.keep K_76 (fun q => ne_o__24_b_60 (List.mem_singleton.mp q)))
        have f_165 : Arv Z T_76.heap b__24 kb__24 .byte (own_i (own_pick (((p5.toUInt32 >>> ((2 : Int32) &&& 31).toUInt32).toInt32) &&& (3 : Int32)) (own_mk p1) (own_mk p2) (own_mk p4)).length) ((own_pick (((p5.toUInt32 >>> ((2 : Int32) &&& 31).toUInt32).toInt32) &&& (3 : Int32)) (own_mk p1) (own_mk p2) (own_mk p4)).map Value.int) (.int (0 : Int32)) := (f_84.keep K_76 (fun q => ne_b__24_b_60 (List.mem_singleton.mp q)))
        obtain ⟨cq_157, kq_157, q_157a, q_157b, q_157c⟩ := isOf hZ e_87 f_158
        obtain ⟨_, T_157, Lc_157, X_157, hQ_157, st_157⟩ := own_un X_87 (Q := Qseq Z o__4 o__24 b__4 kb__4 (own_mk p2) b__24 kb__24 (own_pick (((p5.toUInt32 >>> ((2 : Int32) &&& 31).toUInt32).toInt32) &&& (3 : Int32)) (own_mk p1) (own_mk p2) (own_mk p4)) cs T_76.heap n0) (rc := 0) (rs := 0) (W := fun v B => Steps p.tables e below (T_87.setTop (mkF m 142 #[.val (.int p1), .val (.int p2), .val (.int p3), .val (.int p4), .val (.int p5), .val (.ref o__1), .val (.ref o__4), .val (.ref o__12), .val (.ref o__24), .val (.ref b_33), .val (.int kd), .val (.ref b_60), .unset] [(.ref o__24), (.ref o__4)])) (B.setTop { (mkF m 142 #[.val (.int p1), .val (.int p2), .val (.int p3), .val (.int p4), .val (.int p5), .val (.ref o__1), .val (.ref o__4), .val (.ref o__12), .val (.ref o__24), .val (.ref b_33), .val (.int kd), .val (.ref b_60), .unset] [(.ref o__24), (.ref o__4)]) with pc := 145, stack := v.toList ++ [] })) <| X_87.virtualBack hx (y := (⟨"java/lang/String", "equals", "(Ljava/lang/Object;)Z"⟩ : MethodName)) (z := (⟨"java/lang/String", "equals", "(Ljava/lang/Object;)Z"⟩ : MethodName)) hown (mvT hZ (hw _ (List.mem_of_getElem? (i := 71) rfl))) (mvT hZ (hw _ (List.mem_of_getElem? (i := 72) rfl))) (notFace_of_selects (args := #[]) (mvT hZ (hw _ (List.mem_of_getElem? (i := 74) rfl)))) (mvT hZ (hw _ (List.mem_of_getElem? (i := 74) rfl))) (mvT hZ (hw _ (List.mem_of_getElem? (i := 73) rfl))) (by decide) (backOf (W := 0) (rmseq l Z a0 hw [] o__4 o__24 b__4 kb__4 (own_mk p2) b__24 kb__24 (own_pick (((p5.toUInt32 >>> ((2 : Int32) &&& 31).toUInt32).toInt32) &&& (3 : Int32)) (own_mk p1) (own_mk p2) (own_mk p4)) cs T_76.heap n0 z_85 f_158 f_159 f_160 f_161 f_162 f_163 f_164 f_165 ((own_ok_mk _)) ((own_ok_pick (own_ok_mk _) (own_ok_mk _) (own_ok_mk _))) SC O_86 (hcs)) hZ (hw _ (List.mem_of_getElem? (i := 75) rfl)) (hw _ (List.mem_of_getElem? (i := 6) rfl)) (by decide) (by decide)) q_157a q_157c (g := (mkF m 142 #[.val (.int p1), .val (.int p2), .val (.int p3), .val (.int p4), .val (.int p5), .val (.ref o__1), .val (.ref o__4), .val (.ref o__12), .val (.ref o__24), .val (.ref b_33), .val (.int kd), .val (.ref b_60), .unset] [(.ref o__24), (.ref o__4)])) rfl (by rw [hml]; rfl) (Steps.refl _) (argsL := [(.ref o__24)]) (rest := []) (lenOf pd_17 rfl) rfl (by show 2 * 0 + _ ≤ _; exact Nat.le_of_eq rfl) (hb hby at_142) (fun _ _ => ⟨rfl, e_87, (by decide : 18 + 0 ≤ _), (by decide : 36 + 0 ≤ _)⟩)
        obtain ⟨rfl, N_157q, e_157⟩ := hQ_157
        have N_157 := Fr.app N_87 N_157q
        refine OGo.to (fun _ k => st_157.trans k) ?_
        show OGo p e below _ (T_157.setTop (mkF m 145 #[.val (.int p1), .val (.int p2), .val (.int p3), .val (.int p4), .val (.int p5), .val (.ref o__1), .val (.ref o__4), .val (.ref o__12), .val (.ref o__24), .val (.ref b_33), .val (.int kd), .val (.ref b_60), .unset] [(.int (own_seq (own_mk p2) (own_pick (((p5.toUInt32 >>> ((2 : Int32) &&& 31).toUInt32).toInt32) &&& (3 : Int32)) (own_mk p1) (own_mk p2) (own_mk p4))))]))
        by_cases hc145__166 : (own_seq (own_mk p2) (own_pick (((p5.toUInt32 >>> ((2 : Int32) &&& 31).toUInt32).toInt32) &&& (3 : Int32)) (own_mk p1) (own_mk p2) (own_mk p4))) = (0 : Int32)
        ·  -- pc 145: yes
          refine OGo.to (fun _ k => XS.ifNo X_157.here hx rfl (hb hby at_145) rfl ((if0 _ _).trans (teq hc145__166).2) k) ?_
          show OGo p e below _ (T_157.setTop (mkF m 148 #[.val (.int p1), .val (.int p2), .val (.int p3), .val (.int p4), .val (.int p5), .val (.ref o__1), .val (.ref o__4), .val (.ref o__12), .val (.ref o__24), .val (.ref b_33), .val (.int kd), .val (.ref b_60), .unset] []))
          refine OGo.to (fun _ k => XS.aload X_157.here hx rfl (hb hby at_148) rfl rfl k) ?_
          refine OGo.to (fun _ k => XS.aload X_157.here hx rfl (hb hby at_150) rfl rfl k) ?_
          obtain ⟨cq_167, kq_167, q_167a, q_167b, q_167c⟩ := isOf hZ e_157 f_88
          obtain ⟨_, T_167, Lc_167, X_167, hQ_167, st_167⟩ := own_un X_157 (Q := Qseq Z o__1 o__24 b__1 kb__1 (own_mk p1) b__24 kb__24 (own_pick (((p5.toUInt32 >>> ((2 : Int32) &&& 31).toUInt32).toInt32) &&& (3 : Int32)) (own_mk p1) (own_mk p2) (own_mk p4)) cs T_76.heap n0) (rc := 0) (rs := 0) (W := fun v B => Steps p.tables e below (T_157.setTop (mkF m 152 #[.val (.int p1), .val (.int p2), .val (.int p3), .val (.int p4), .val (.int p5), .val (.ref o__1), .val (.ref o__4), .val (.ref o__12), .val (.ref o__24), .val (.ref b_33), .val (.int kd), .val (.ref b_60), .unset] [(.ref o__24), (.ref o__1)])) (B.setTop { (mkF m 152 #[.val (.int p1), .val (.int p2), .val (.int p3), .val (.int p4), .val (.int p5), .val (.ref o__1), .val (.ref o__4), .val (.ref o__12), .val (.ref o__24), .val (.ref b_33), .val (.int kd), .val (.ref b_60), .unset] [(.ref o__24), (.ref o__1)]) with pc := 155, stack := v.toList ++ [] })) <| X_157.virtualBack hx (y := (⟨"java/lang/String", "equals", "(Ljava/lang/Object;)Z"⟩ : MethodName)) (z := (⟨"java/lang/String", "equals", "(Ljava/lang/Object;)Z"⟩ : MethodName)) hown (mvT hZ (hw _ (List.mem_of_getElem? (i := 71) rfl))) (mvT hZ (hw _ (List.mem_of_getElem? (i := 72) rfl))) (notFace_of_selects (args := #[]) (mvT hZ (hw _ (List.mem_of_getElem? (i := 74) rfl)))) (mvT hZ (hw _ (List.mem_of_getElem? (i := 74) rfl))) (mvT hZ (hw _ (List.mem_of_getElem? (i := 73) rfl))) (by decide) (backOf (W := 0) (rmseq l Z a0 hw [] o__1 o__24 b__1 kb__1 (own_mk p1) b__24 kb__24 (own_pick (((p5.toUInt32 >>> ((2 : Int32) &&& 31).toUInt32).toInt32) &&& (3 : Int32)) (own_mk p1) (own_mk p2) (own_mk p4)) cs T_76.heap n0 z_85 f_88 f_89 f_90 f_91 f_162 f_163 f_164 f_165 ((own_ok_mk _)) ((own_ok_pick (own_ok_mk _) (own_ok_mk _) (own_ok_mk _))) SC O_86 (hcs)) hZ (hw _ (List.mem_of_getElem? (i := 75) rfl)) (hw _ (List.mem_of_getElem? (i := 6) rfl)) (by decide) (by decide)) q_167a q_167c (g := (mkF m 152 #[.val (.int p1), .val (.int p2), .val (.int p3), .val (.int p4), .val (.int p5), .val (.ref o__1), .val (.ref o__4), .val (.ref o__12), .val (.ref o__24), .val (.ref b_33), .val (.int kd), .val (.ref b_60), .unset] [(.ref o__24), (.ref o__1)])) rfl (by rw [hml]; rfl) (Steps.refl _) (argsL := [(.ref o__24)]) (rest := []) (lenOf pd_17 rfl) rfl (by show 2 * 0 + _ ≤ _; exact Nat.le_of_eq rfl) (hb hby at_152) (fun _ _ => ⟨rfl, e_157, (by decide : 18 + 0 ≤ _), (by decide : 36 + 0 ≤ _)⟩)
          obtain ⟨rfl, N_167q, e_167⟩ := hQ_167
          have N_167 := Fr.app N_157 N_167q
          refine OGo.to (fun _ k => st_167.trans k) ?_
          show OGo p e below _ (T_167.setTop (mkF m 155 #[.val (.int p1), .val (.int p2), .val (.int p3), .val (.int p4), .val (.int p5), .val (.ref o__1), .val (.ref o__4), .val (.ref o__12), .val (.ref o__24), .val (.ref b_33), .val (.int kd), .val (.ref b_60), .unset] [(.int (own_seq (own_mk p1) (own_pick (((p5.toUInt32 >>> ((2 : Int32) &&& 31).toUInt32).toInt32) &&& (3 : Int32)) (own_mk p1) (own_mk p2) (own_mk p4))))]))
          by_cases hc155__168 : (own_seq (own_mk p1) (own_pick (((p5.toUInt32 >>> ((2 : Int32) &&& 31).toUInt32).toInt32) &&& (3 : Int32)) (own_mk p1) (own_mk p2) (own_mk p4))) = (0 : Int32)
          ·  -- pc 155: yes
            refine OGo.to (fun _ k => XS.ifYes X_167.here hx rfl (pc0 := 155) (pc' := 172) rfl (hb hby at_155) rfl ((if0 _ _).trans (teq hc155__168).1) (by decide) (by decide) k) ?_
            show OGo p e below _ (T_167.setTop (mkF m 172 #[.val (.int p1), .val (.int p2), .val (.int p3), .val (.int p4), .val (.int p5), .val (.ref o__1), .val (.ref o__4), .val (.ref o__12), .val (.ref o__24), .val (.ref b_33), .val (.int kd), .val (.ref b_60), .unset] []))
            refine OGo.to (fun _ k => XS.iconst X_167.here hx rfl (hb hby at_172) k) ?_
            refine OGo.to (fun _ k => XS.istore X_167.here hx rfl (hb hby at_173) rfl (l' := #[.val (.int p1), .val (.int p2), .val (.int p3), .val (.int p4), .val (.int p5), .val (.ref o__1), .val (.ref o__4), .val (.ref o__12), .val (.ref o__24), .val (.ref b_33), .val (.int kd), .val (.ref b_60), .val (.int (0 : Int32))]) rfl k) ?_
            show OGo p e below _ (T_167.setTop (mkF m 175 #[.val (.int p1), .val (.int p2), .val (.int p3), .val (.int p4), .val (.int p5), .val (.ref o__1), .val (.ref o__4), .val (.ref o__12), .val (.ref o__24), .val (.ref b_33), .val (.int kd), .val (.ref b_60), .val (.int (0 : Int32))] []))
            refine OGo.to (fun _ k => XS.aload X_167.here hx rfl (hb hby at_175) rfl rfl k) ?_
            refine OGo.to (fun _ k => XS.aload X_167.here hx rfl (hb hby at_177) rfl rfl k) ?_
            have f_170 : Exa Z T_76.heap b_60 "com/example/cogram/cogram/model/TermPair" := (A_60.keep K_76)
            have f_171 : Fld Z T_76.heap b_33 "com/example/cogram/cogram/model/TermPair" "first" "Ljava/lang/String;" (.ref f__40) := ((p_40_0.ext E_60).keep K_76 (fun q => ne_b_33_b_60 (List.mem_singleton.mp q)))
            have f_172 : Fld Z T_76.heap b_33 "com/example/cogram/cogram/model/TermPair" "second" "Ljava/lang/String;" (.ref s2__40) := ((p_40_1.ext E_60).keep K_76 (fun q => ne_b_33_b_60 (List.mem_singleton.mp q)))
            have f_173 : Exa Z T_76.heap f__40 "java/lang/String" := ((p_40_2.ext E_60).keep K_76)
            have f_174 : Fld Z T_76.heap f__40 "java/lang/String" "coder" "B" (.int (0 : Int32)) := ((p_40_3.ext E_60).keep K_76 (fun q => ne_f__40_b_60 (List.mem_singleton.mp q)))
            have f_175 : Fld Z T_76.heap f__40 "java/lang/String" "value" "[B" (.ref bf__40) := ((p_40_4.ext E_60).keep K_76 (fun q => ne_f__40_b_60 (List.mem_singleton.mp q)))
            have f_176 : Arv Z T_76.heap bf__40 kf__40 .byte (own_i (own_fst (own_mk p1) (own_mk p2)).length) ((own_fst (own_mk p1) (own_mk p2)).map Value.int) (.int (0 : Int32)) := ((p_40_5.ext E_60).keep K_76 (fun q => ne_bf__40_b_60 (List.mem_singleton.mp q)))
            have f_177 : Exa Z T_76.heap s2__40 "java/lang/String" := ((p_40_6.ext E_60).keep K_76)
            have f_178 : Fld Z T_76.heap s2__40 "java/lang/String" "coder" "B" (.int (0 : Int32)) := ((p_40_7.ext E_60).keep K_76 (fun q => ne_s2__40_b_60 (List.mem_singleton.mp q)))
            have f_179 : Fld Z T_76.heap s2__40 "java/lang/String" "value" "[B" (.ref bs__40) := ((p_40_8.ext E_60).keep K_76 (fun q => ne_s2__40_b_60 (List.mem_singleton.mp q)))
            have f_180 : Arv Z T_76.heap bs__40 ks__40 .byte (own_i (own_snd (own_mk p1) (own_mk p2)).length) ((own_snd (own_mk p1) (own_mk p2)).map Value.int) (.int (0 : Int32)) := ((p_40_9.ext E_60).keep K_76 (fun q => ne_bs__40_b_60 (List.mem_singleton.mp q)))
            have f_181 : Exa Z T_76.heap b_33 "com/example/cogram/cogram/model/TermPair" := ((f_73.ext E_60).keep K_76)
            obtain ⟨cq_169, kq_169, q_169a, q_169b, q_169c⟩ := isOf hZ e_167 f_181
            obtain ⟨_, T_169, Lc_169, X_169, hQ_169, st_169⟩ := own_un X_167 (Q := QteT Z b_33 b_60 f__40 s2__40 f__76 s2__76 bf__40 kf__40 (own_fst (own_mk p1) (own_mk p2)) bs__40 ks__40 (own_snd (own_mk p1) (own_mk p2)) bf__76 kf__76 (own_fst (own_pick (p5 &&& (3 : Int32)) (own_mk p1) (own_mk p2) (own_mk p3)) (own_pick (((p5.toUInt32 >>> ((2 : Int32) &&& 31).toUInt32).toInt32) &&& (3 : Int32)) (own_mk p1) (own_mk p2) (own_mk p4))) bs__76 ks__76 (own_snd (own_pick (p5 &&& (3 : Int32)) (own_mk p1) (own_mk p2) (own_mk p3)) (own_pick (((p5.toUInt32 >>> ((2 : Int32) &&& 31).toUInt32).toInt32) &&& (3 : Int32)) (own_mk p1) (own_mk p2) (own_mk p4))) cs T_76.heap n0) (rc := 0) (rs := 0) (W := fun v B => Steps p.tables e below (T_167.setTop (mkF m 179 #[.val (.int p1), .val (.int p2), .val (.int p3), .val (.int p4), .val (.int p5), .val (.ref o__1), .val (.ref o__4), .val (.ref o__12), .val (.ref o__24), .val (.ref b_33), .val (.int kd), .val (.ref b_60), .val (.int (0 : Int32))] [(.ref b_60), (.ref b_33)])) (B.setTop { (mkF m 179 #[.val (.int p1), .val (.int p2), .val (.int p3), .val (.int p4), .val (.int p5), .val (.ref o__1), .val (.ref o__4), .val (.ref o__12), .val (.ref o__24), .val (.ref b_33), .val (.int kd), .val (.ref b_60), .val (.int (0 : Int32))] [(.ref b_60), (.ref b_33)]) with pc := 182, stack := v.toList ++ [] })) <| X_167.virtualBack hx (y := (⟨"com/example/cogram/cogram/model/TermPair", "equals", "(Ljava/lang/Object;)Z"⟩ : MethodName)) (z := (⟨"com/example/cogram/cogram/model/TermPair", "equals", "(Ljava/lang/Object;)Z"⟩ : MethodName)) hown (mvT hZ (hw _ (List.mem_of_getElem? (i := 66) rfl))) (mvT hZ (hw _ (List.mem_of_getElem? (i := 67) rfl))) (notFace_of_selects (args := #[]) (mvT hZ (hw _ (List.mem_of_getElem? (i := 69) rfl)))) (mvT hZ (hw _ (List.mem_of_getElem? (i := 69) rfl))) (mvT hZ (hw _ (List.mem_of_getElem? (i := 68) rfl))) (by decide) (backOf (W := 0) (rmteT l Z a0 hw [] b_33 b_60 f__40 s2__40 f__76 s2__76 bf__40 kf__40 (own_fst (own_mk p1) (own_mk p2)) bs__40 ks__40 (own_snd (own_mk p1) (own_mk p2)) bf__76 kf__76 (own_fst (own_pick (p5 &&& (3 : Int32)) (own_mk p1) (own_mk p2) (own_mk p3)) (own_pick (((p5.toUInt32 >>> ((2 : Int32) &&& 31).toUInt32).toInt32) &&& (3 : Int32)) (own_mk p1) (own_mk p2) (own_mk p4))) bs__76 ks__76 (own_snd (own_pick (p5 &&& (3 : Int32)) (own_mk p1) (own_mk p2) (own_mk p3)) (own_pick (((p5.toUInt32 >>> ((2 : Int32) &&& 31).toUInt32).toInt32) &&& (3 : Int32)) (own_mk p1) (own_mk p2) (own_mk p4))) cs T_76.heap n0 z_85 f_170 f_171 f_172 p_76_0 p_76_1 f_173 f_174 f_175 f_176 f_177 f_178 f_179 f_180 p_76_2 p_76_3 p_76_4 p_76_5 p_76_6 p_76_7 p_76_8 p_76_9 ((own_ok_fst (own_ok_mk _) (own_ok_mk _))) ((own_ok_snd (own_ok_mk _) (own_ok_mk _))) ((own_ok_fst (own_ok_pick (own_ok_mk _) (own_ok_mk _) (own_ok_mk _)) (own_ok_pick (own_ok_mk _) (own_ok_mk _) (own_ok_mk _)))) ((own_ok_snd (own_ok_pick (own_ok_mk _) (own_ok_mk _) (own_ok_mk _)) (own_ok_pick (own_ok_mk _) (own_ok_mk _) (own_ok_mk _)))) SC O_86 (hcs)) hZ (hw _ (List.mem_of_getElem? (i := 70) rfl)) (hw _ (List.mem_of_getElem? (i := 31) rfl)) (by decide) (by decide)) q_169a q_169c (g := (mkF m 179 #[.val (.int p1), .val (.int p2), .val (.int p3), .val (.int p4), .val (.int p5), .val (.ref o__1), .val (.ref o__4), .val (.ref o__12), .val (.ref o__24), .val (.ref b_33), .val (.int kd), .val (.ref b_60), .val (.int (0 : Int32))] [(.ref b_60), (.ref b_33)])) rfl (by rw [hml]; rfl) (Steps.refl _) (argsL := [(.ref b_60)]) (rest := []) (lenOf pd_17 rfl) rfl (by show 2 * 0 + _ ≤ _; exact Nat.le_of_eq rfl) (hb hby at_179) (fun _ _ => ⟨rfl, e_167, (by decide : 18 + 0 ≤ _), (by decide : 36 + 0 ≤ _)⟩)
            obtain ⟨rfl, N_169q, e_169⟩ := hQ_169
            have N_169 := Fr.app N_167 N_169q
            refine OGo.to (fun _ k => st_169.trans k) ?_
            show OGo p e below _ (T_169.setTop (mkF m 182 #[.val (.int p1), .val (.int p2), .val (.int p3), .val (.int p4), .val (.int p5), .val (.ref o__1), .val (.ref o__4), .val (.ref o__12), .val (.ref o__24), .val (.ref b_33), .val (.int kd), .val (.ref b_60), .val (.int (0 : Int32))] [(.int (own_teq (own_fst (own_mk p1) (own_mk p2)) (own_snd (own_mk p1) (own_mk p2)) (own_fst (own_pick (p5 &&& (3 : Int32)) (own_mk p1) (own_mk p2) (own_mk p3)) (own_pick (((p5.toUInt32 >>> ((2 : Int32) &&& 31).toUInt32).toInt32) &&& (3 : Int32)) (own_mk p1) (own_mk p2) (own_mk p4))) (own_snd (own_pick (p5 &&& (3 : Int32)) (own_mk p1) (own_mk p2) (own_mk p3)) (own_pick (((p5.toUInt32 >>> ((2 : Int32) &&& 31).toUInt32).toInt32) &&& (3 : Int32)) (own_mk p1) (own_mk p2) (own_mk p4)))))]))
            refine OGo.to (fun _ k => XS.iload X_169.here hx rfl (hb hby at_182) rfl k) ?_
            have hc184__182 : (own_teq (own_fst (own_mk p1) (own_mk p2)) (own_snd (own_mk p1) (own_mk p2)) (own_fst (own_pick (p5 &&& (3 : Int32)) (own_mk p1) (own_mk p2) (own_mk p3)) (own_pick (((p5.toUInt32 >>> ((2 : Int32) &&& 31).toUInt32).toInt32) &&& (3 : Int32)) (own_mk p1) (own_mk p2) (own_mk p4))) (own_snd (own_pick (p5 &&& (3 : Int32)) (own_mk p1) (own_mk p2) (own_mk p3)) (own_pick (((p5.toUInt32 >>> ((2 : Int32) &&& 31).toUInt32).toInt32) &&& (3 : Int32)) (own_mk p1) (own_mk p2) (own_mk p4)))) = (0 : Int32) := own_T0 (Or.inr (own_seq_n hc145__166)) (Or.inl (own_seq_n hc155__168))
            refine OGo.to (fun _ k => XS.icmpNo X_169.here hx rfl (hb hby at_184) rfl (teq hc184__182).2 k) ?_
            show OGo p e below _ (T_169.setTop (mkF m 187 #[.val (.int p1), .val (.int p2), .val (.int p3), .val (.int p4), .val (.int p5), .val (.ref o__1), .val (.ref o__4), .val (.ref o__12), .val (.ref o__24), .val (.ref b_33), .val (.int kd), .val (.ref b_60), .val (.int (0 : Int32))] []))
            refine OGo.to (fun _ k => XS.aload X_169.here hx rfl (hb hby at_187) rfl rfl k) ?_
            refine OGo.to (fun _ k => XS.aload X_169.here hx rfl (hb hby at_189) rfl rfl k) ?_
            obtain ⟨cq_183, kq_183, q_183a, q_183b, q_183c⟩ := isOf hZ e_169 f_170
            obtain ⟨_, T_183, Lc_183, X_183, hQ_183, st_183⟩ := own_un X_169 (Q := QteT Z b_60 b_33 f__76 s2__76 f__40 s2__40 bf__76 kf__76 (own_fst (own_pick (p5 &&& (3 : Int32)) (own_mk p1) (own_mk p2) (own_mk p3)) (own_pick (((p5.toUInt32 >>> ((2 : Int32) &&& 31).toUInt32).toInt32) &&& (3 : Int32)) (own_mk p1) (own_mk p2) (own_mk p4))) bs__76 ks__76 (own_snd (own_pick (p5 &&& (3 : Int32)) (own_mk p1) (own_mk p2) (own_mk p3)) (own_pick (((p5.toUInt32 >>> ((2 : Int32) &&& 31).toUInt32).toInt32) &&& (3 : Int32)) (own_mk p1) (own_mk p2) (own_mk p4))) bf__40 kf__40 (own_fst (own_mk p1) (own_mk p2)) bs__40 ks__40 (own_snd (own_mk p1) (own_mk p2)) cs T_76.heap n0) (rc := 0) (rs := 0) (W := fun v B => Steps p.tables e below (T_169.setTop (mkF m 191 #[.val (.int p1), .val (.int p2), .val (.int p3), .val (.int p4), .val (.int p5), .val (.ref o__1), .val (.ref o__4), .val (.ref o__12), .val (.ref o__24), .val (.ref b_33), .val (.int kd), .val (.ref b_60), .val (.int (0 : Int32))] [(.ref b_33), (.ref b_60)])) (B.setTop { (mkF m 191 #[.val (.int p1), .val (.int p2), .val (.int p3), .val (.int p4), .val (.int p5), .val (.ref o__1), .val (.ref o__4), .val (.ref o__12), .val (.ref o__24), .val (.ref b_33), .val (.int kd), .val (.ref b_60), .val (.int (0 : Int32))] [(.ref b_33), (.ref b_60)]) with pc := 194, stack := v.toList ++ [] })) <| X_169.virtualBack hx (y := (⟨"com/example/cogram/cogram/model/TermPair", "equals", "(Ljava/lang/Object;)Z"⟩ : MethodName)) (z := (⟨"com/example/cogram/cogram/model/TermPair", "equals", "(Ljava/lang/Object;)Z"⟩ : MethodName)) hown (mvT hZ (hw _ (List.mem_of_getElem? (i := 66) rfl))) (mvT hZ (hw _ (List.mem_of_getElem? (i := 67) rfl))) (notFace_of_selects (args := #[]) (mvT hZ (hw _ (List.mem_of_getElem? (i := 69) rfl)))) (mvT hZ (hw _ (List.mem_of_getElem? (i := 69) rfl))) (mvT hZ (hw _ (List.mem_of_getElem? (i := 68) rfl))) (by decide) (backOf (W := 0) (rmteT l Z a0 hw [] b_60 b_33 f__76 s2__76 f__40 s2__40 bf__76 kf__76 (own_fst (own_pick (p5 &&& (3 : Int32)) (own_mk p1) (own_mk p2) (own_mk p3)) (own_pick (((p5.toUInt32 >>> ((2 : Int32) &&& 31).toUInt32).toInt32) &&& (3 : Int32)) (own_mk p1) (own_mk p2) (own_mk p4))) bs__76 ks__76 (own_snd (own_pick (p5 &&& (3 : Int32)) (own_mk p1) (own_mk p2) (own_mk p3)) (own_pick (((p5.toUInt32 >>> ((2 : Int32) &&& 31).toUInt32).toInt32) &&& (3 : Int32)) (own_mk p1) (own_mk p2) (own_mk p4))) bf__40 kf__40 (own_fst (own_mk p1) (own_mk p2)) bs__40 ks__40 (own_snd (own_mk p1) (own_mk p2)) cs T_76.heap n0 z_85 f_181 p_76_0 p_76_1 f_171 f_172 p_76_2 p_76_3 p_76_4 p_76_5 p_76_6 p_76_7 p_76_8 p_76_9 f_173 f_174 f_175 f_176 f_177 f_178 f_179 f_180 ((own_ok_fst (own_ok_pick (own_ok_mk _) (own_ok_mk _) (own_ok_mk _)) (own_ok_pick (own_ok_mk _) (own_ok_mk _) (own_ok_mk _)))) ((own_ok_snd (own_ok_pick (own_ok_mk _) (own_ok_mk _) (own_ok_mk _)) (own_ok_pick (own_ok_mk _) (own_ok_mk _) (own_ok_mk _)))) ((own_ok_fst (own_ok_mk _) (own_ok_mk _))) ((own_ok_snd (own_ok_mk _) (own_ok_mk _))) SC O_86 (hcs)) hZ (hw _ (List.mem_of_getElem? (i := 70) rfl)) (hw _ (List.mem_of_getElem? (i := 31) rfl)) (by decide) (by decide)) q_183a q_183c (g := (mkF m 191 #[.val (.int p1), .val (.int p2), .val (.int p3), .val (.int p4), .val (.int p5), .val (.ref o__1), .val (.ref o__4), .val (.ref o__12), .val (.ref o__24), .val (.ref b_33), .val (.int kd), .val (.ref b_60), .val (.int (0 : Int32))] [(.ref b_33), (.ref b_60)])) rfl (by rw [hml]; rfl) (Steps.refl _) (argsL := [(.ref b_33)]) (rest := []) (lenOf pd_17 rfl) rfl (by show 2 * 0 + _ ≤ _; exact Nat.le_of_eq rfl) (hb hby at_191) (fun _ _ => ⟨rfl, e_169, (by decide : 18 + 0 ≤ _), (by decide : 36 + 0 ≤ _)⟩)
            obtain ⟨rfl, N_183q, e_183⟩ := hQ_183
            have N_183 := Fr.app N_169 N_183q
            refine OGo.to (fun _ k => st_183.trans k) ?_
            show OGo p e below _ (T_183.setTop (mkF m 194 #[.val (.int p1), .val (.int p2), .val (.int p3), .val (.int p4), .val (.int p5), .val (.ref o__1), .val (.ref o__4), .val (.ref o__12), .val (.ref o__24), .val (.ref b_33), .val (.int kd), .val (.ref b_60), .val (.int (0 : Int32))] [(.int (own_teq (own_fst (own_pick (p5 &&& (3 : Int32)) (own_mk p1) (own_mk p2) (own_mk p3)) (own_pick (((p5.toUInt32 >>> ((2 : Int32) &&& 31).toUInt32).toInt32) &&& (3 : Int32)) (own_mk p1) (own_mk p2) (own_mk p4))) (own_snd (own_pick (p5 &&& (3 : Int32)) (own_mk p1) (own_mk p2) (own_mk p3)) (own_pick (((p5.toUInt32 >>> ((2 : Int32) &&& 31).toUInt32).toInt32) &&& (3 : Int32)) (own_mk p1) (own_mk p2) (own_mk p4))) (own_fst (own_mk p1) (own_mk p2)) (own_snd (own_mk p1) (own_mk p2))))]))
            refine OGo.to (fun _ k => XS.iload X_183.here hx rfl (hb hby at_194) rfl k) ?_
            have hc196__184 : (own_teq (own_fst (own_pick (p5 &&& (3 : Int32)) (own_mk p1) (own_mk p2) (own_mk p3)) (own_pick (((p5.toUInt32 >>> ((2 : Int32) &&& 31).toUInt32).toInt32) &&& (3 : Int32)) (own_mk p1) (own_mk p2) (own_mk p4))) (own_snd (own_pick (p5 &&& (3 : Int32)) (own_mk p1) (own_mk p2) (own_mk p3)) (own_pick (((p5.toUInt32 >>> ((2 : Int32) &&& 31).toUInt32).toInt32) &&& (3 : Int32)) (own_mk p1) (own_mk p2) (own_mk p4))) (own_fst (own_mk p1) (own_mk p2)) (own_snd (own_mk p1) (own_mk p2))) = (0 : Int32) := own_T0s (Or.inr (own_seq_n hc145__166)) (Or.inl (own_seq_n hc155__168))
            refine OGo.to (fun _ k => XS.icmpNo X_183.here hx rfl (hb hby at_196) rfl (teq hc196__184).2 k) ?_
            show OGo p e below _ (T_183.setTop (mkF m 199 #[.val (.int p1), .val (.int p2), .val (.int p3), .val (.int p4), .val (.int p5), .val (.ref o__1), .val (.ref o__4), .val (.ref o__12), .val (.ref o__24), .val (.ref b_33), .val (.int kd), .val (.ref b_60), .val (.int (0 : Int32))] []))
            refine OGo.to (fun _ k => XS.iconst X_183.here hx rfl (hb hby at_199) k) ?_
            refine OGo.to (fun _ k => XS.goto X_183.here hx rfl (pc0 := 200) (pc' := 204) rfl (hb hby at_200) (by decide) (by decide) k) ?_
            refine OGo.retW (Q := Q0 Z p1 p2 p3 p4 p5 cs h0 n0) X_183 hS_21 (by rw [e_183]; exact (Nat.le_trans (Nat.le_trans (Nat.le_trans (Nat.le_trans (Nat.le_refl T_21.heap.size) E_33.1) K_40.1) E_60.1) K_76.1)) (some (.int (1 : Int32))) (fun h => by rw [Bd.returns] at h; cases h) Bd.notSynchronized (fun fs hr => retN X_183 hx (t := .boolean) (z := (1 : Int32)) Bd.returns (by simp) (hb hby at_204) hr) ?_ (by decide) (by decide)
            show Q0 Z p1 p2 p3 p4 p5 cs h0 n0 _ T_183.heap _
            rw [e_183]
            exact ⟨rfl, N_183⟩
          ·  -- pc 155: no
            refine OGo.to (fun _ k => XS.ifNo X_167.here hx rfl (hb hby at_155) rfl ((if0 _ _).trans (feq hc155__168).1) k) ?_
            show OGo p e below _ (T_167.setTop (mkF m 158 #[.val (.int p1), .val (.int p2), .val (.int p3), .val (.int p4), .val (.int p5), .val (.ref o__1), .val (.ref o__4), .val (.ref o__12), .val (.ref o__24), .val (.ref b_33), .val (.int kd), .val (.ref b_60), .unset] []))
            refine OGo.to (fun _ k => XS.aload X_167.here hx rfl (hb hby at_158) rfl rfl k) ?_
            refine OGo.to (fun _ k => XS.aload X_167.here hx rfl (hb hby at_160) rfl rfl k) ?_
            obtain ⟨cq_185, kq_185, q_185a, q_185b, q_185c⟩ := isOf hZ e_167 f_158
            obtain ⟨_, T_185, Lc_185, X_185, hQ_185, st_185⟩ := own_un X_167 (Q := Qseq Z o__4 o__12 b__4 kb__4 (own_mk p2) b__12 kb__12 (own_pick (p5 &&& (3 : Int32)) (own_mk p1) (own_mk p2) (own_mk p3)) cs T_76.heap n0) (rc := 0) (rs := 0) (W := fun v B => Steps p.tables e below (T_167.setTop (mkF m 162 #[.val (.int p1), .val (.int p2), .val (.int p3), .val (.int p4), .val (.int p5), .val (.ref o__1), .val (.ref o__4), .val (.ref o__12), .val (.ref o__24), .val (.ref b_33), .val (.int kd), .val (.ref b_60), .unset] [(.ref o__12), (.ref o__4)])) (B.setTop { (mkF m 162 #[.val (.int p1), .val (.int p2), .val (.int p3), .val (.int p4), .val (.int p5), .val (.ref o__1), .val (.ref o__4), .val (.ref o__12), .val (.ref o__24), .val (.ref b_33), .val (.int kd), .val (.ref b_60), .unset] [(.ref o__12), (.ref o__4)]) with pc := 165, stack := v.toList ++ [] })) <| X_167.virtualBack hx (y := (⟨"java/lang/String", "equals", "(Ljava/lang/Object;)Z"⟩ : MethodName)) (z := (⟨"java/lang/String", "equals", "(Ljava/lang/Object;)Z"⟩ : MethodName)) hown (mvT hZ (hw _ (List.mem_of_getElem? (i := 71) rfl))) (mvT hZ (hw _ (List.mem_of_getElem? (i := 72) rfl))) (notFace_of_selects (args := #[]) (mvT hZ (hw _ (List.mem_of_getElem? (i := 74) rfl)))) (mvT hZ (hw _ (List.mem_of_getElem? (i := 74) rfl))) (mvT hZ (hw _ (List.mem_of_getElem? (i := 73) rfl))) (by decide) (backOf (W := 0) (rmseq l Z a0 hw [] o__4 o__12 b__4 kb__4 (own_mk p2) b__12 kb__12 (own_pick (p5 &&& (3 : Int32)) (own_mk p1) (own_mk p2) (own_mk p3)) cs T_76.heap n0 z_85 f_158 f_159 f_160 f_161 f_92 f_93 f_94 f_95 ((own_ok_mk _)) ((own_ok_pick (own_ok_mk _) (own_ok_mk _) (own_ok_mk _))) SC O_86 (hcs)) hZ (hw _ (List.mem_of_getElem? (i := 75) rfl)) (hw _ (List.mem_of_getElem? (i := 6) rfl)) (by decide) (by decide)) q_185a q_185c (g := (mkF m 162 #[.val (.int p1), .val (.int p2), .val (.int p3), .val (.int p4), .val (.int p5), .val (.ref o__1), .val (.ref o__4), .val (.ref o__12), .val (.ref o__24), .val (.ref b_33), .val (.int kd), .val (.ref b_60), .unset] [(.ref o__12), (.ref o__4)])) rfl (by rw [hml]; rfl) (Steps.refl _) (argsL := [(.ref o__12)]) (rest := []) (lenOf pd_17 rfl) rfl (by show 2 * 0 + _ ≤ _; exact Nat.le_of_eq rfl) (hb hby at_162) (fun _ _ => ⟨rfl, e_167, (by decide : 18 + 0 ≤ _), (by decide : 36 + 0 ≤ _)⟩)
            obtain ⟨rfl, N_185q, e_185⟩ := hQ_185
            have N_185 := Fr.app N_167 N_185q
            refine OGo.to (fun _ k => st_185.trans k) ?_
            show OGo p e below _ (T_185.setTop (mkF m 165 #[.val (.int p1), .val (.int p2), .val (.int p3), .val (.int p4), .val (.int p5), .val (.ref o__1), .val (.ref o__4), .val (.ref o__12), .val (.ref o__24), .val (.ref b_33), .val (.int kd), .val (.ref b_60), .unset] [(.int (own_seq (own_mk p2) (own_pick (p5 &&& (3 : Int32)) (own_mk p1) (own_mk p2) (own_mk p3))))]))
            by_cases hc165__186 : (own_seq (own_mk p2) (own_pick (p5 &&& (3 : Int32)) (own_mk p1) (own_mk p2) (own_mk p3))) = (0 : Int32)
            ·  -- pc 165: yes
              refine OGo.to (fun _ k => XS.ifYes X_185.here hx rfl (pc0 := 165) (pc' := 172) rfl (hb hby at_165) rfl ((if0 _ _).trans (teq hc165__186).1) (by decide) (by decide) k) ?_
              show OGo p e below _ (T_185.setTop (mkF m 172 #[.val (.int p1), .val (.int p2), .val (.int p3), .val (.int p4), .val (.int p5), .val (.ref o__1), .val (.ref o__4), .val (.ref o__12), .val (.ref o__24), .val (.ref b_33), .val (.int kd), .val (.ref b_60), .unset] []))
              refine OGo.to (fun _ k => XS.iconst X_185.here hx rfl (hb hby at_172) k) ?_
              refine OGo.to (fun _ k => XS.istore X_185.here hx rfl (hb hby at_173) rfl (l' := #[.val (.int p1), .val (.int p2), .val (.int p3), .val (.int p4), .val (.int p5), .val (.ref o__1), .val (.ref o__4), .val (.ref o__12), .val (.ref o__24), .val (.ref b_33), .val (.int kd), .val (.ref b_60), .val (.int (0 : Int32))]) rfl k) ?_
              refine OGo.to (fun _ k => XS.aload X_185.here hx rfl (hb hby at_175) rfl rfl k) ?_
              refine OGo.to (fun _ k => XS.aload X_185.here hx rfl (hb hby at_177) rfl rfl k) ?_
              have f_188 : Exa Z T_76.heap b_60 "com/example/cogram/cogram/model/TermPair" := (A_60.keep K_76)
              have f_189 : Fld Z T_76.heap b_33 "com/example/cogram/cogram/model/TermPair" "first" "Ljava/lang/String;" (.ref f__40) := ((p_40_0.ext E_60).keep K_76 (fun q => ne_b_33_b_60 (List.mem_singleton.mp q)))
              have f_190 : Fld Z T_76.heap b_33 "com/example/cogram/cogram/model/TermPair" "second" "Ljava/lang/String;" (.ref s2__40) := ((p_40_1.ext E_60).keep K_76 (fun q => ne_b_33_b_60 (List.mem_singleton.mp q)))
              have f_191 : Exa Z T_76.heap f__40 "java/lang/String" := ((p_40_2.ext E_60).keep K_76)
              have f_192 : Fld Z T_76.heap f__40 "java/lang/String" "coder" "B" (.int (0 : Int32)) := ((p_40_3.ext E_60).keep K_76 (fun q => ne_f__40_b_60 (List.mem_singleton.mp q)))
              have f_193 : Fld Z T_76.heap f__40 "java/lang/String" "value" "[B" (.ref bf__40) := ((p_40_4.ext E_60).keep K_76 (fun q => ne_f__40_b_60 (List.mem_singleton.mp q)))
              have f_194 : Arv Z T_76.heap bf__40 kf__40 .byte (own_i (own_fst (own_mk p1) (own_mk p2)).length) ((own_fst (own_mk p1) (own_mk p2)).map Value.int) (.int (0 : Int32)) := ((p_40_5.ext E_60).keep K_76 (fun q => ne_bf__40_b_60 (List.mem_singleton.mp q)))
              have f_195 : Exa Z T_76.heap s2__40 "java/lang/String" := ((p_40_6.ext E_60).keep K_76)
              have f_196 : Fld Z T_76.heap s2__40 "java/lang/String" "coder" "B" (.int (0 : Int32)) := ((p_40_7.ext E_60).keep K_76 (fun q => ne_s2__40_b_60 (List.mem_singleton.mp q)))
              have f_197 : Fld Z T_76.heap s2__40 "java/lang/String" "value" "[B" (.ref bs__40) := ((p_40_8.ext E_60).keep K_76 (fun q => ne_s2__40_b_60 (List.mem_singleton.mp q)))
              have f_198 : Arv Z T_76.heap bs__40 ks__40 .byte (own_i (own_snd (own_mk p1) (own_mk p2)).length) ((own_snd (own_mk p1) (own_mk p2)).map Value.int) (.int (0 : Int32)) := ((p_40_9.ext E_60).keep K_76 (fun q => ne_bs__40_b_60 (List.mem_singleton.mp q)))
              have f_199 : Exa Z T_76.heap b_33 "com/example/cogram/cogram/model/TermPair" := ((f_73.ext E_60).keep K_76)
              obtain ⟨cq_187, kq_187, q_187a, q_187b, q_187c⟩ := isOf hZ e_185 f_199
              obtain ⟨_, T_187, Lc_187, X_187, hQ_187, st_187⟩ := own_un X_185 (Q := QteT Z b_33 b_60 f__40 s2__40 f__76 s2__76 bf__40 kf__40 (own_fst (own_mk p1) (own_mk p2)) bs__40 ks__40 (own_snd (own_mk p1) (own_mk p2)) bf__76 kf__76 (own_fst (own_pick (p5 &&& (3 : Int32)) (own_mk p1) (own_mk p2) (own_mk p3)) (own_pick (((p5.toUInt32 >>> ((2 : Int32) &&& 31).toUInt32).toInt32) &&& (3 : Int32)) (own_mk p1) (own_mk p2) (own_mk p4))) bs__76 ks__76 (own_snd (own_pick (p5 &&& (3 : Int32)) (own_mk p1) (own_mk p2) (own_mk p3)) (own_pick (((p5.toUInt32 >>> ((2 : Int32) &&& 31).toUInt32).toInt32) &&& (3 : Int32)) (own_mk p1) (own_mk p2) (own_mk p4))) cs T_76.heap n0) (rc := 0) (rs := 0) (W := fun v B => Steps p.tables e below (T_185.setTop (mkF m 179 #[.val (.int p1), .val (.int p2), .val (.int p3), .val (.int p4), .val (.int p5), .val (.ref o__1), .val (.ref o__4), .val (.ref o__12), .val (.ref o__24), .val (.ref b_33), .val (.int kd), .val (.ref b_60), .val (.int (0 : Int32))] [(.ref b_60), (.ref b_33)])) (B.setTop { (mkF m 179 #[.val (.int p1), .val (.int p2), .val (.int p3), .val (.int p4), .val (.int p5), .val (.ref o__1), .val (.ref o__4), .val (.ref o__12), .val (.ref o__24), .val (.ref b_33), .val (.int kd), .val (.ref b_60), .val (.int (0 : Int32))] [(.ref b_60), (.ref b_33)]) with pc := 182, stack := v.toList ++ [] })) <| X_185.virtualBack hx (y := (⟨"com/example/cogram/cogram/model/TermPair", "equals", "(Ljava/lang/Object;)Z"⟩ : MethodName)) (z := (⟨"com/example/cogram/cogram/model/TermPair", "equals", "(Ljava/lang/Object;)Z"⟩ : MethodName)) hown (mvT hZ (hw _ (List.mem_of_getElem? (i := 66) rfl))) (mvT hZ (hw _ (List.mem_of_getElem? (i := 67) rfl))) (notFace_of_selects (args := #[]) (mvT hZ (hw _ (List.mem_of_getElem? (i := 69) rfl)))) (mvT hZ (hw _ (List.mem_of_getElem? (i := 69) rfl))) (mvT hZ (hw _ (List.mem_of_getElem? (i := 68) rfl))) (by decide) (backOf (W := 0) (rmteT l Z a0 hw [] b_33 b_60 f__40 s2__40 f__76 s2__76 bf__40 kf__40 (own_fst (own_mk p1) (own_mk p2)) bs__40 ks__40 (own_snd (own_mk p1) (own_mk p2)) bf__76 kf__76 (own_fst (own_pick (p5 &&& (3 : Int32)) (own_mk p1) (own_mk p2) (own_mk p3)) (own_pick (((p5.toUInt32 >>> ((2 : Int32) &&& 31).toUInt32).toInt32) &&& (3 : Int32)) (own_mk p1) (own_mk p2) (own_mk p4))) bs__76 ks__76 (own_snd (own_pick (p5 &&& (3 : Int32)) (own_mk p1) (own_mk p2) (own_mk p3)) (own_pick (((p5.toUInt32 >>> ((2 : Int32) &&& 31).toUInt32).toInt32) &&& (3 : Int32)) (own_mk p1) (own_mk p2) (own_mk p4))) cs T_76.heap n0 z_85 f_188 f_189 f_190 p_76_0 p_76_1 f_191 f_192 f_193 f_194 f_195 f_196 f_197 f_198 p_76_2 p_76_3 p_76_4 p_76_5 p_76_6 p_76_7 p_76_8 p_76_9 ((own_ok_fst (own_ok_mk _) (own_ok_mk _))) ((own_ok_snd (own_ok_mk _) (own_ok_mk _))) ((own_ok_fst (own_ok_pick (own_ok_mk _) (own_ok_mk _) (own_ok_mk _)) (own_ok_pick (own_ok_mk _) (own_ok_mk _) (own_ok_mk _)))) ((own_ok_snd (own_ok_pick (own_ok_mk _) (own_ok_mk _) (own_ok_mk _)) (own_ok_pick (own_ok_mk _) (own_ok_mk _) (own_ok_mk _)))) SC O_86 (hcs)) hZ (hw _ (List.mem_of_getElem? (i := 70) rfl)) (hw _ (List.mem_of_getElem? (i := 31) rfl)) (by decide) (by decide)) q_187a q_187c (g := (mkF m 179 #[.val (.int p1), .val (.int p2), .val (.int p3), .val (.int p4), .val (.int p5), .val (.ref o__1), .val (.ref o__4), .val (.ref o__12), .val (.ref o__24), .val (.ref b_33), .val (.int kd), .val (.ref b_60), .val (.int (0 : Int32))] [(.ref b_60), (.ref b_33)])) rfl (by rw [hml]; rfl) (Steps.refl _) (argsL := [(.ref b_60)]) (rest := []) (lenOf pd_17 rfl) rfl (by show 2 * 0 + _ ≤ _; exact Nat.le_of_eq rfl) (hb hby at_179) (fun _ _ => ⟨rfl, e_185, (by decide : 18 + 0 ≤ _), (by decide : 36 + 0 ≤ _)⟩)
              obtain ⟨rfl, N_187q, e_187⟩ := hQ_187
              have N_187 := Fr.app N_185 N_187q
              refine OGo.to (fun _ k => st_187.trans k) ?_
              show OGo p e below _ (T_187.setTop (mkF m 182 #[.val (.int p1), .val (.int p2), .val (.int p3), .val (.int p4), .val (.int p5), .val (.ref o__1), .val (.ref o__4), .val (.ref o__12), .val (.ref o__24), .val (.ref b_33), .val (.int kd), .val (.ref b_60), .val (.int (0 : Int32))] [(.int (own_teq (own_fst (own_mk p1) (own_mk p2)) (own_snd (own_mk p1) (own_mk p2)) (own_fst (own_pick (p5 &&& (3 : Int32)) (own_mk p1) (own_mk p2) (own_mk p3)) (own_pick (((p5.toUInt32 >>> ((2 : Int32) &&& 31).toUInt32).toInt32) &&& (3 : Int32)) (own_mk p1) (own_mk p2) (own_mk p4))) (own_snd (own_pick (p5 &&& (3 : Int32)) (own_mk p1) (own_mk p2) (own_mk p3)) (own_pick (((p5.toUInt32 >>> ((2 : Int32) &&& 31).toUInt32).toInt32) &&& (3 : Int32)) (own_mk p1) (own_mk p2) (own_mk p4)))))]))
              refine OGo.to (fun _ k => XS.iload X_187.here hx rfl (hb hby at_182) rfl k) ?_
              show OGo p e below _ (T_187.setTop (mkF m 184 #[.val (.int p1), .val (.int p2), .val (.int p3), .val (.int p4), .val (.int p5), .val (.ref o__1), .val (.ref o__4), .val (.ref o__12), .val (.ref o__24), .val (.ref b_33), .val (.int kd), .val (.ref b_60), .val (.int (0 : Int32))] [(.int (0 : Int32)), (.int (own_teq (own_fst (own_mk p1) (own_mk p2)) (own_snd (own_mk p1) (own_mk p2)) (own_fst (own_pick (p5 &&& (3 : Int32)) (own_mk p1) (own_mk p2) (own_mk p3)) (own_pick (((p5.toUInt32 >>> ((2 : Int32) &&& 31).toUInt32).toInt32) &&& (3 : Int32)) (own_mk p1) (own_mk p2) (own_mk p4))) (own_snd (own_pick (p5 &&& (3 : Int32)) (own_mk p1) (own_mk p2) (own_mk p3)) (own_pick (((p5.toUInt32 >>> ((2 : Int32) &&& 31).toUInt32).toInt32) &&& (3 : Int32)) (own_mk p1) (own_mk p2) (own_mk p4)))))]))
              have hc184__200 : (own_teq (own_fst (own_mk p1) (own_mk p2)) (own_snd (own_mk p1) (own_mk p2)) (own_fst (own_pick (p5 &&& (3 : Int32)) (own_mk p1) (own_mk p2) (own_mk p3)) (own_pick (((p5.toUInt32 >>> ((2 : Int32) &&& 31).toUInt32).toInt32) &&& (3 : Int32)) (own_mk p1) (own_mk p2) (own_mk p4))) (own_snd (own_pick (p5 &&& (3 : Int32)) (own_mk p1) (own_mk p2) (own_mk p3)) (own_pick (((p5.toUInt32 >>> ((2 : Int32) &&& 31).toUInt32).toInt32) &&& (3 : Int32)) (own_mk p1) (own_mk p2) (own_mk p4)))) = (0 : Int32) := own_T0 (Or.inr (own_seq_n hc145__166)) (Or.inr (own_seq_n hc165__186))
              refine OGo.to (fun _ k => XS.icmpNo X_187.here hx rfl (hb hby at_184) rfl (teq hc184__200).2 k) ?_
              show OGo p e below _ (T_187.setTop (mkF m 187 #[.val (.int p1), .val (.int p2), .val (.int p3), .val (.int p4), .val (.int p5), .val (.ref o__1), .val (.ref o__4), .val (.ref o__12), .val (.ref o__24), .val (.ref b_33), .val (.int kd), .val (.ref b_60), .val (.int (0 : Int32))] []))
              refine OGo.to (fun _ k => XS.aload X_187.here hx rfl (hb hby at_187) rfl rfl k) ?_
              refine OGo.to (fun _ k => XS.aload X_187.here hx rfl (hb hby at_189) rfl rfl k) ?_
              obtain ⟨cq_201, kq_201, q_201a, q_201b, q_201c⟩ := isOf hZ e_187 f_188
              obtain ⟨_, T_201, Lc_201, X_201, hQ_201, st_201⟩ := own_un X_187 (Q := QteT Z b_60 b_33 f__76 s2__76 f__40 s2__40 bf__76 kf__76 (own_fst (own_pick (p5 &&& (3 : Int32)) (own_mk p1) (own_mk p2) (own_mk p3)) (own_pick (((p5.toUInt32 >>> ((2 : Int32) &&& 31).toUInt32).toInt32) &&& (3 : Int32)) (own_mk p1) (own_mk p2) (own_mk p4))) bs__76 ks__76 (own_snd (own_pick (p5 &&& (3 : Int32)) (own_mk p1) (own_mk p2) (own_mk p3)) (own_pick (((p5.toUInt32 >>> ((2 : Int32) &&& 31).toUInt32).toInt32) &&& (3 : Int32)) (own_mk p1) (own_mk p2) (own_mk p4))) bf__40 kf__40 (own_fst (own_mk p1) (own_mk p2)) bs__40 ks__40 (own_snd (own_mk p1) (own_mk p2)) cs T_76.heap n0) (rc := 0) (rs := 0) (W := fun v B => Steps p.tables e below (T_187.setTop (mkF m 191 #[.val (.int p1), .val (.int p2), .val (.int p3), .val (.int p4), .val (.int p5), .val (.ref o__1), .val (.ref o__4), .val (.ref o__12), .val (.ref o__24), .val (.ref b_33), .val (.int kd), .val (.ref b_60), .val (.int (0 : Int32))] [(.ref b_33), (.ref b_60)])) (B.setTop { (mkF m 191 #[.val (.int p1), .val (.int p2), .val (.int p3), .val (.int p4), .val (.int p5), .val (.ref o__1), .val (.ref o__4), .val (.ref o__12), .val (.ref o__24), .val (.ref b_33), .val (.int kd), .val (.ref b_60), .val (.int (0 : Int32))] [(.ref b_33), (.ref b_60)]) with pc := 194, stack := v.toList ++ [] })) <| X_187.virtualBack hx (y := (⟨"com/example/cogram/cogram/model/TermPair", "equals", "(Ljava/lang/Object;)Z"⟩ : MethodName)) (z := (⟨"com/example/cogram/cogram/model/TermPair", "equals", "(Ljava/lang/Object;)Z"⟩ : MethodName)) hown (mvT hZ (hw _ (List.mem_of_getElem? (i := 66) rfl))) (mvT hZ (hw _ (List.mem_of_getElem? (i := 67) rfl))) (notFace_of_selects (args := #[]) (mvT hZ (hw _ (List.mem_of_getElem? (i := 69) rfl)))) (mvT hZ (hw _ (List.mem_of_getElem? (i := 69) rfl))) (mvT hZ (hw _ (List.mem_of_getElem? (i := 68) rfl))) (by decide) (backOf (W := 0) (rmteT l Z a0 hw [] b_60 b_33 f__76 s2__76 f__40 s2__40 bf__76 kf__76 (own_fst (own_pick (p5 &&& (3 : Int32)) (own_mk p1) (own_mk p2) (own_mk p3)) (own_pick (((p5.toUInt32 >>> ((2 : Int32) &&& 31).toUInt32).toInt32) &&& (3 : Int32)) (own_mk p1) (own_mk p2) (own_mk p4))) bs__76 ks__76 (own_snd (own_pick (p5 &&& (3 : Int32)) (own_mk p1) (own_mk p2) (own_mk p3)) (own_pick (((p5.toUInt32 >>> ((2 : Int32) &&& 31).toUInt32).toInt32) &&& (3 : Int32)) (own_mk p1) (own_mk p2) (own_mk p4))) bf__40 kf__40 (own_fst (own_mk p1) (own_mk p2)) bs__40 ks__40 (own_snd (own_mk p1) (own_mk p2)) cs T_76.heap n0 z_85 f_199 p_76_0 p_76_1 f_189 f_190 p_76_2 p_76_3 p_76_4 p_76_5 p_76_6 p_76_7 p_76_8 p_76_9 f_191 f_192 f_193 f_194 f_195 f_196 f_197 f_198 ((own_ok_fst (own_ok_pick (own_ok_mk _) (own_ok_mk _) (own_ok_mk _)) (own_ok_pick (own_ok_mk _) (own_ok_mk _) (own_ok_mk _)))) ((own_ok_snd (own_ok_pick (own_ok_mk _) (own_ok_mk _) (own_ok_mk _)) (own_ok_pick (own_ok_mk _) (own_ok_mk _) (own_ok_mk _)))) ((own_ok_fst (own_ok_mk _) (own_ok_mk _))) ((own_ok_snd (own_ok_mk _) (own_ok_mk _))) SC O_86 (hcs)) hZ (hw _ (List.mem_of_getElem? (i := 70) rfl)) (hw _ (List.mem_of_getElem? (i := 31) rfl)) (by decide) (by decide)) q_201a q_201c (g := (mkF m 191 #[.val (.int p1), .val (.int p2), .val (.int p3), .val (.int p4), .val (.int p5), .val (.ref o__1), .val (.ref o__4), .val (.ref o__12), .val (.ref o__24), .val (.ref b_33), .val (.int kd), .val (.ref b_60), .val (.int (0 : Int32))] [(.ref b_33), (.ref b_60)])) rfl (by rw [hml]; rfl) (Steps.refl _) (argsL := [(.ref b_33)]) (rest := []) (lenOf pd_17 rfl) rfl (by show 2 * 0 + _ ≤ _; exact Nat.le_of_eq rfl) (hb hby at_191) (fun _ _ => ⟨rfl, e_187, (by decide : 18 + 0 ≤ _), (by decide : 36 + 0 ≤ _)⟩)
              obtain ⟨rfl, N_201q, e_201⟩ := hQ_201
              have N_201 := Fr.app N_187 N_201q
              refine OGo.to (fun _ k => st_201.trans k) ?_
              show OGo p e below _ (T_201.setTop (mkF m 194 #[.val (.int p1), .val (.int p2), .val (.int p3), .val (.int p4), .val (.int p5), .val (.ref o__1), .val (.ref o__4), .val (.ref o__12), .val (.ref o__24), .val (.ref b_33), .val (.int kd), .val (.ref b_60), .val (.int (0 : Int32))] [(.int (own_teq (own_fst (own_pick (p5 &&& (3 : Int32)) (own_mk p1) (own_mk p2) (own_mk p3)) (own_pick (((p5.toUInt32 >>> ((2 : Int32) &&& 31).toUInt32).toInt32) &&& (3 : Int32)) (own_mk p1) (own_mk p2) (own_mk p4))) (own_snd (own_pick (p5 &&& (3 : Int32)) (own_mk p1) (own_mk p2) (own_mk p3)) (own_pick (((p5.toUInt32 >>> ((2 : Int32) &&& 31).toUInt32).toInt32) &&& (3 : Int32)) (own_mk p1) (own_mk p2) (own_mk p4))) (own_fst (own_mk p1) (own_mk p2)) (own_snd (own_mk p1) (own_mk p2))))]))
              refine OGo.to (fun _ k => XS.iload X_201.here hx rfl (hb hby at_194) rfl k) ?_
              have hc196__202 : (own_teq (own_fst (own_pick (p5 &&& (3 : Int32)) (own_mk p1) (own_mk p2) (own_mk p3)) (own_pick (((p5.toUInt32 >>> ((2 : Int32) &&& 31).toUInt32).toInt32) &&& (3 : Int32)) (own_mk p1) (own_mk p2) (own_mk p4))) (own_snd (own_pick (p5 &&& (3 : Int32)) (own_mk p1) (own_mk p2) (own_mk p3)) (own_pick (((p5.toUInt32 >>> ((2 : Int32) &&& 31).toUInt32).toInt32) &&& (3 : Int32)) (own_mk p1) (own_mk p2) (own_mk p4))) (own_fst (own_mk p1) (own_mk p2)) (own_snd (own_mk p1) (own_mk p2))) = (0 : Int32) := own_T0s (Or.inr (own_seq_n hc145__166)) (Or.inr (own_seq_n hc165__186))
              refine OGo.to (fun _ k => XS.icmpNo X_201.here hx rfl (hb hby at_196) rfl (teq hc196__202).2 k) ?_
              show OGo p e below _ (T_201.setTop (mkF m 199 #[.val (.int p1), .val (.int p2), .val (.int p3), .val (.int p4), .val (.int p5), .val (.ref o__1), .val (.ref o__4), .val (.ref o__12), .val (.ref o__24), .val (.ref b_33), .val (.int kd), .val (.ref b_60), .val (.int (0 : Int32))] []))
              refine OGo.to (fun _ k => XS.iconst X_201.here hx rfl (hb hby at_199) k) ?_
              refine OGo.to (fun _ k => XS.goto X_201.here hx rfl (pc0 := 200) (pc' := 204) rfl (hb hby at_200) (by decide) (by decide) k) ?_
              refine OGo.retW (Q := Q0 Z p1 p2 p3 p4 p5 cs h0 n0) X_201 hS_21 (by rw [e_201]; exact (Nat.le_trans (Nat.le_trans (Nat.le_trans (Nat.le_trans (Nat.le_refl T_21.heap.size) E_33.1) K_40.1) E_60.1) K_76.1)) (some (.int (1 : Int32))) (fun h => by rw [Bd.returns] at h; cases h) Bd.notSynchronized (fun fs hr => retN X_201 hx (t := .boolean) (z := (1 : Int32)) Bd.returns (by simp) (hb hby at_204) hr) ?_ (by decide) (by decide)
              show Q0 Z p1 p2 p3 p4 p5 cs h0 n0 _ T_201.heap _
              rw [e_201]
              exact ⟨rfl, N_201⟩
            ·  -- pc 165: no
              refine OGo.to (fun _ k => XS.ifNo X_185.here hx rfl (hb hby at_165) rfl ((if0 _ _).trans (feq hc165__186).1) k) ?_
              show OGo p e below _ (T_185.setTop (mkF m 168 #[.val (.int p1), .val (.int p2), .val (.int p3), .val (.int p4), .val (.int p5), .val (.ref o__1), .val (.ref o__4), .val (.ref o__12), .val (.ref o__24), .val (.ref b_33), .val (.int kd), .val (.ref b_60), .unset] []))
              refine OGo.to (fun _ k => XS.iconst X_185.here hx rfl (hb hby at_168) k) ?_
              refine OGo.to (fun _ k => XS.goto X_185.here hx rfl (pc0 := 169) (pc' := 173) rfl (hb hby at_169) (by decide) (by decide) k) ?_
              refine OGo.to (fun _ k => XS.istore X_185.here hx rfl (hb hby at_173) rfl (l' := #[.val (.int p1), .val (.int p2), .val (.int p3), .val (.int p4), .val (.int p5), .val (.ref o__1), .val (.ref o__4), .val (.ref o__12), .val (.ref o__24), .val (.ref b_33), .val (.int kd), .val (.ref b_60), .val (.int (1 : Int32))]) rfl k) ?_
              refine OGo.to (fun _ k => XS.aload X_185.here hx rfl (hb hby at_175) rfl rfl k) ?_
              refine OGo.to (fun _ k => XS.aload X_185.here hx rfl (hb hby at_177) rfl rfl k) ?_
              have f_204 : Exa Z T_76.heap b_60 "com/example/cogram/cogram/model/TermPair" := (A_60.keep K_76)
              have f_205 : Fld Z T_76.heap b_33 "com/example/cogram/cogram/model/TermPair" "first" "Ljava/lang/String;" (.ref f__40) := ((p_40_0.ext E_60).keep K_76 (fun q => ne_b_33_b_60 (List.mem_singleton.mp q)))
              have f_206 : Fld Z T_76.heap b_33 "com/example/cogram/cogram/model/TermPair" "second" "Ljava/lang/String;" (.ref s2__40) := ((p_40_1.ext E_60).keep K_76 (fun q => ne_b_33_b_60 (List.mem_singleton.mp q)))
              have f_207 : Exa Z T_76.heap f__40 "java/lang/String" := ((p_40_2.ext E_60).keep K_76)
              have f_208 : Fld Z T_76.heap f__40 "java/lang/String" "coder" "B" (.int (0 : Int32)) := ((p_40_3.ext E_60).keep K_76 (fun q => ne_f__40_b_60 (List.mem_singleton.mp q)))
              have f_209 : Fld Z T_76.heap f__40 "java/lang/String" "value" "[B" (.ref bf__40) := ((p_40_4.ext E_60).keep K_76 (fun q => ne_f__40_b_60 (List.mem_singleton.mp q)))
              have f_210 : Arv Z T_76.heap bf__40 kf__40 .byte (own_i (own_fst (own_mk p1) (own_mk p2)).length) ((own_fst (own_mk p1) (own_mk p2)).map Value.int) (.int (0 : Int32)) := ((p_40_5.ext E_60).keep K_76 (fun q => ne_bf__40_b_60 (List.mem_singleton.mp q)))
              have f_211 : Exa Z T_76.heap s2__40 "java/lang/String" := ((p_40_6.ext E_60).keep K_76)
              have f_212 : Fld Z T_76.heap s2__40 "java/lang/String" "coder" "B" (.int (0 : Int32)) := ((p_40_7.ext E_60).keep K_76 (fun q => ne_s2__40_b_60 (List.mem_singleton.mp q)))
              have f_213 : Fld Z T_76.heap s2__40 "java/lang/String" "value" "[B" (.ref bs__40) := ((p_40_8.ext E_60).keep K_76 (fun q => ne_s2__40_b_60 (List.mem_singleton.mp q)))
              have f_214 : Arv Z T_76.heap bs__40 ks__40 .byte (own_i (own_snd (own_mk p1) (own_mk p2)).length) ((own_snd (own_mk p1) (own_mk p2)).map Value.int) (.int (0 : Int32)) := ((p_40_9.ext E_60).keep K_76 (fun q => ne_bs__40_b_60 (List.mem_singleton.mp q)))
              have f_215 : Exa Z T_76.heap b_33 "com/example/cogram/cogram/model/TermPair" := ((f_73.ext E_60).keep K_76)
              obtain ⟨cq_203, kq_203, q_203a, q_203b, q_203c⟩ := isOf hZ e_185 f_215
              obtain ⟨_, T_203, Lc_203, X_203, hQ_203, st_203⟩ := own_un X_185 (Q := QteT Z b_33 b_60 f__40 s2__40 f__76 s2__76 bf__40 kf__40 (own_fst (own_mk p1) (own_mk p2)) bs__40 ks__40 (own_snd (own_mk p1) (own_mk p2)) bf__76 kf__76 (own_fst (own_pick (p5 &&& (3 : Int32)) (own_mk p1) (own_mk p2) (own_mk p3)) (own_pick (((p5.toUInt32 >>> ((2 : Int32) &&& 31).toUInt32).toInt32) &&& (3 : Int32)) (own_mk p1) (own_mk p2) (own_mk p4))) bs__76 ks__76 (own_snd (own_pick (p5 &&& (3 : Int32)) (own_mk p1) (own_mk p2) (own_mk p3)) (own_pick (((p5.toUInt32 >>> ((2 : Int32) &&& 31).toUInt32).toInt32) &&& (3 : Int32)) (own_mk p1) (own_mk p2) (own_mk p4))) cs T_76.heap n0) (rc := 0) (rs := 0) (W := fun v B => Steps p.tables e below (T_185.setTop (mkF m 179 #[.val (.int p1), .val (.int p2), .val (.int p3), .val (.int p4), .val (.int p5), .val (.ref o__1), .val (.ref o__4), .val (.ref o__12), .val (.ref o__24), .val (.ref b_33), .val (.int kd), .val (.ref b_60), .val (.int (1 : Int32))] [(.ref b_60), (.ref b_33)])) (B.setTop { (mkF m 179 #[.val (.int p1), .val (.int p2), .val (.int p3), .val (.int p4), .val (.int p5), .val (.ref o__1), .val (.ref o__4), .val (.ref o__12), .val (.ref o__24), .val (.ref b_33), .val (.int kd), .val (.ref b_60), .val (.int (1 : Int32))] [(.ref b_60), (.ref b_33)]) with pc := 182, stack := v.toList ++ [] })) <| X_185.virtualBack hx (y := (⟨"com/example/cogram/cogram/model/TermPair", "equals", "(Ljava/lang/Object;)Z"⟩ : MethodName)) (z := (⟨"com/example/cogram/cogram/model/TermPair", "equals", "(Ljava/lang/Object;)Z"⟩ : MethodName)) hown (mvT hZ (hw _ (List.mem_of_getElem? (i := 66) rfl))) (mvT hZ (hw _ (List.mem_of_getElem? (i := 67) rfl))) (notFace_of_selects (args := #[]) (mvT hZ (hw _ (List.mem_of_getElem? (i := 69) rfl)))) (mvT hZ (hw _ (List.mem_of_getElem? (i := 69) rfl))) (mvT hZ (hw _ (List.mem_of_getElem? (i := 68) rfl))) (by decide) (backOf (W := 0) (rmteT l Z a0 hw [] b_33 b_60 f__40 s2__40 f__76 s2__76 bf__40 kf__40 (own_fst (own_mk p1) (own_mk p2)) bs__40 ks__40 (own_snd (own_mk p1) (own_mk p2)) bf__76 kf__76 (own_fst (own_pick (p5 &&& (3 : Int32)) (own_mk p1) (own_mk p2) (own_mk p3)) (own_pick (((p5.toUInt32 >>> ((2 : Int32) &&& 31).toUInt32).toInt32) &&& (3 : Int32)) (own_mk p1) (own_mk p2) (own_mk p4))) bs__76 ks__76 (own_snd (own_pick (p5 &&& (3 : Int32)) (own_mk p1) (own_mk p2) (own_mk p3)) (own_pick (((p5.toUInt32 >>> ((2 : Int32) &&& 31).toUInt32).toInt32) &&& (3 : Int32)) (own_mk p1) (own_mk p2) (own_mk p4))) cs T_76.heap n0 z_85 f_204 f_205 f_206 p_76_0 p_76_1 f_207 f_208 f_209 f_210 f_211 f_212 f_213 f_214 p_76_2 p_76_3 p_76_4 p_76_5 p_76_6 p_76_7 p_76_8 p_76_9 ((own_ok_fst (own_ok_mk _) (own_ok_mk _))) ((own_ok_snd (own_ok_mk _) (own_ok_mk _))) ((own_ok_fst (own_ok_pick (own_ok_mk _) (own_ok_mk _) (own_ok_mk _)) (own_ok_pick (own_ok_mk _) (own_ok_mk _) (own_ok_mk _)))) ((own_ok_snd (own_ok_pick (own_ok_mk _) (own_ok_mk _) (own_ok_mk _)) (own_ok_pick (own_ok_mk _) (own_ok_mk _) (own_ok_mk _)))) SC O_86 (hcs)) hZ (hw _ (List.mem_of_getElem? (i := 70) rfl)) (hw _ (List.mem_of_getElem? (i := 31) rfl)) (by decide) (by decide)) q_203a q_203c (g := (mkF m 179 #[.val (.int p1), .val (.int p2), .val (.int p3), .val (.int p4), .val (.int p5), .val (.ref o__1), .val (.ref o__4), .val (.ref o__12), .val (.ref o__24), .val (.ref b_33), .val (.int kd), .val (.ref b_60), .val (.int (1 : Int32))] [(.ref b_60), (.ref b_33)])) rfl (by rw [hml]; rfl) (Steps.refl _) (argsL := [(.ref b_60)]) (rest := []) (lenOf pd_17 rfl) rfl (by show 2 * 0 + _ ≤ _; exact Nat.le_of_eq rfl) (hb hby at_179) (fun _ _ => ⟨rfl, e_185, (by decide : 18 + 0 ≤ _), (by decide : 36 + 0 ≤ _)⟩)
              obtain ⟨rfl, N_203q, e_203⟩ := hQ_203
              have N_203 := Fr.app N_185 N_203q
              refine OGo.to (fun _ k => st_203.trans k) ?_
              show OGo p e below _ (T_203.setTop (mkF m 182 #[.val (.int p1), .val (.int p2), .val (.int p3), .val (.int p4), .val (.int p5), .val (.ref o__1), .val (.ref o__4), .val (.ref o__12), .val (.ref o__24), .val (.ref b_33), .val (.int kd), .val (.ref b_60), .val (.int (1 : Int32))] [(.int (own_teq (own_fst (own_mk p1) (own_mk p2)) (own_snd (own_mk p1) (own_mk p2)) (own_fst (own_pick (p5 &&& (3 : Int32)) (own_mk p1) (own_mk p2) (own_mk p3)) (own_pick (((p5.toUInt32 >>> ((2 : Int32) &&& 31).toUInt32).toInt32) &&& (3 : Int32)) (own_mk p1) (own_mk p2) (own_mk p4))) (own_snd (own_pick (p5 &&& (3 : Int32)) (own_mk p1) (own_mk p2) (own_mk p3)) (own_pick (((p5.toUInt32 >>> ((2 : Int32) &&& 31).toUInt32).toInt32) &&& (3 : Int32)) (own_mk p1) (own_mk p2) (own_mk p4)))))]))
              refine OGo.to (fun _ k => XS.iload X_203.here hx rfl (hb hby at_182) rfl k) ?_
              have hc184__216 : (own_teq (own_fst (own_mk p1) (own_mk p2)) (own_snd (own_mk p1) (own_mk p2)) (own_fst (own_pick (p5 &&& (3 : Int32)) (own_mk p1) (own_mk p2) (own_mk p3)) (own_pick (((p5.toUInt32 >>> ((2 : Int32) &&& 31).toUInt32).toInt32) &&& (3 : Int32)) (own_mk p1) (own_mk p2) (own_mk p4))) (own_snd (own_pick (p5 &&& (3 : Int32)) (own_mk p1) (own_mk p2) (own_mk p3)) (own_pick (((p5.toUInt32 >>> ((2 : Int32) &&& 31).toUInt32).toInt32) &&& (3 : Int32)) (own_mk p1) (own_mk p2) (own_mk p4)))) = (1 : Int32) := own_T1 (own_ok_mk _) (own_ok_mk _) (own_ok_pick (own_ok_mk _) (own_ok_mk _) (own_ok_mk _)) (own_ok_pick (own_ok_mk _) (own_ok_mk _) (own_ok_mk _)) (Or.inr ⟨own_seq_e hc155__168, own_seq_e hc165__186⟩)
              refine OGo.to (fun _ k => XS.icmpNo X_203.here hx rfl (hb hby at_184) rfl (teq hc184__216).2 k) ?_
              show OGo p e below _ (T_203.setTop (mkF m 187 #[.val (.int p1), .val (.int p2), .val (.int p3), .val (.int p4), .val (.int p5), .val (.ref o__1), .val (.ref o__4), .val (.ref o__12), .val (.ref o__24), .val (.ref b_33), .val (.int kd), .val (.ref b_60), .val (.int (1 : Int32))] []))
              refine OGo.to (fun _ k => XS.aload X_203.here hx rfl (hb hby at_187) rfl rfl k) ?_
              refine OGo.to (fun _ k => XS.aload X_203.here hx rfl (hb hby at_189) rfl rfl k) ?_
              obtain ⟨cq_217, kq_217, q_217a, q_217b, q_217c⟩ := isOf hZ e_203 f_204
              obtain ⟨_, T_217, Lc_217, X_217, hQ_217, st_217⟩ := own_un X_203 (Q := QteT Z b_60 b_33 f__76 s2__76 f__40 s2__40 bf__76 kf__76 (own_fst (own_pick (p5 &&& (3 : Int32)) (own_mk p1) (own_mk p2) (own_mk p3)) (own_pick (((p5.toUInt32 >>> ((2 : Int32) &&& 31).toUInt32).toInt32) &&& (3 : Int32)) (own_mk p1) (own_mk p2) (own_mk p4))) bs__76 ks__76 (own_snd (own_pick (p5 &&& (3 : Int32)) (own_mk p1) (own_mk p2) (own_mk p3)) (own_pick (((p5.toUInt32 >>> ((2 : Int32) &&& 31).toUInt32).toInt32) &&& (3 : Int32)) (own_mk p1) (own_mk p2) (own_mk p4))) bf__40 kf__40 (own_fst (own_mk p1) (own_mk p2)) bs__40 ks__40 (own_snd (own_mk p1) (own_mk p2)) cs T_76.heap n0) (rc := 0) (rs := 0) (W := fun v B => Steps p.tables e below (T_203.setTop (mkF m 191 #[.val (.int p1), .val (.int p2), .val (.int p3), .val (.int p4), .val (.int p5), .val (.ref o__1), .val (.ref o__4), .val (.ref o__12), .val (.ref o__24), .val (.ref b_33), .val (.int kd), .val (.ref b_60), .val (.int (1 : Int32))] [(.ref b_33), (.ref b_60)])) (B.setTop { (mkF m 191 #[.val (.int p1), .val (.int p2), .val (.int p3), .val (.int p4), .val (.int p5), .val (.ref o__1), .val (.ref o__4), .val (.ref o__12), .val (.ref o__24), .val (.ref b_33), .val (.int kd), .val (.ref b_60), .val (.int (1 : Int32))] [(.ref b_33), (.ref b_60)]) with pc := 194, stack := v.toList ++ [] })) <| X_203.virtualBack hx (y := (⟨"com/example/cogram/cogram/model/TermPair", "equals", "(Ljava/lang/Object;)Z"⟩ : MethodName)) (z := (⟨"com/example/cogram/cogram/model/TermPair", "equals", "(Ljava/lang/Object;)Z"⟩ : MethodName)) hown (mvT hZ (hw _ (List.mem_of_getElem? (i := 66) rfl))) (mvT hZ (hw _ (List.mem_of_getElem? (i := 67) rfl))) (notFace_of_selects (args := #[]) (mvT hZ (hw _ (List.mem_of_getElem? (i := 69) rfl)))) (mvT hZ (hw _ (List.mem_of_getElem? (i := 69) rfl))) (mvT hZ (hw _ (List.mem_of_getElem? (i := 68) rfl))) (by decide) (backOf (W := 0) (rmteT l Z a0 hw [] b_60 b_33 f__76 s2__76 f__40 s2__40 bf__76 kf__76 (own_fst (own_pick (p5 &&& (3 : Int32)) (own_mk p1) (own_mk p2) (own_mk p3)) (own_pick (((p5.toUInt32 >>> ((2 : Int32) &&& 31).toUInt32).toInt32) &&& (3 : Int32)) (own_mk p1) (own_mk p2) (own_mk p4))) bs__76 ks__76 (own_snd (own_pick (p5 &&& (3 : Int32)) (own_mk p1) (own_mk p2) (own_mk p3)) (own_pick (((p5.toUInt32 >>> ((2 : Int32) &&& 31).toUInt32).toInt32) &&& (3 : Int32)) (own_mk p1) (own_mk p2) (own_mk p4))) bf__40 kf__40 (own_fst (own_mk p1) (own_mk p2)) bs__40 ks__40 (own_snd (own_mk p1) (own_mk p2)) cs T_76.heap n0 z_85 f_215 p_76_0 p_76_1 f_205 f_206 p_76_2 p_76_3 p_76_4 p_76_5 p_76_6 p_76_7 p_76_8 p_76_9 f_207 f_208 f_209 f_210 f_211 f_212 f_213 f_214 ((own_ok_fst (own_ok_pick (own_ok_mk _) (own_ok_mk _) (own_ok_mk _)) (own_ok_pick (own_ok_mk _) (own_ok_mk _) (own_ok_mk _)))) ((own_ok_snd (own_ok_pick (own_ok_mk _) (own_ok_mk _) (own_ok_mk _)) (own_ok_pick (own_ok_mk _) (own_ok_mk _) (own_ok_mk _)))) ((own_ok_fst (own_ok_mk _) (own_ok_mk _))) ((own_ok_snd (own_ok_mk _) (own_ok_mk _))) SC O_86 (hcs)) hZ (hw _ (List.mem_of_getElem? (i := 70) rfl)) (hw _ (List.mem_of_getElem? (i := 31) rfl)) (by decide) (by decide)) q_217a q_217c (g := (mkF m 191 #[.val (.int p1), .val (.int p2), .val (.int p3), .val (.int p4), .val (.int p5), .val (.ref o__1), .val (.ref o__4), .val (.ref o__12), .val (.ref o__24), .val (.ref b_33), .val (.int kd), .val (.ref b_60), .val (.int (1 : Int32))] [(.ref b_33), (.ref b_60)])) rfl (by rw [hml]; rfl) (Steps.refl _) (argsL := [(.ref b_33)]) (rest := []) (lenOf pd_17 rfl) rfl (by show 2 * 0 + _ ≤ _; exact Nat.le_of_eq rfl) (hb hby at_191) (fun _ _ => ⟨rfl, e_203, (by decide : 18 + 0 ≤ _), (by decide : 36 + 0 ≤ _)⟩)
              obtain ⟨rfl, N_217q, e_217⟩ := hQ_217
              have N_217 := Fr.app N_203 N_217q
              refine OGo.to (fun _ k => st_217.trans k) ?_
              show OGo p e below _ (T_217.setTop (mkF m 194 #[.val (.int p1), .val (.int p2), .val (.int p3), .val (.int p4), .val (.int p5), .val (.ref o__1), .val (.ref o__4), .val (.ref o__12), .val (.ref o__24), .val (.ref b_33), .val (.int kd), .val (.ref b_60), .val (.int (1 : Int32))] [(.int (own_teq (own_fst (own_pick (p5 &&& (3 : Int32)) (own_mk p1) (own_mk p2) (own_mk p3)) (own_pick (((p5.toUInt32 >>> ((2 : Int32) &&& 31).toUInt32).toInt32) &&& (3 : Int32)) (own_mk p1) (own_mk p2) (own_mk p4))) (own_snd (own_pick (p5 &&& (3 : Int32)) (own_mk p1) (own_mk p2) (own_mk p3)) (own_pick (((p5.toUInt32 >>> ((2 : Int32) &&& 31).toUInt32).toInt32) &&& (3 : Int32)) (own_mk p1) (own_mk p2) (own_mk p4))) (own_fst (own_mk p1) (own_mk p2)) (own_snd (own_mk p1) (own_mk p2))))]))
              refine OGo.to (fun _ k => XS.iload X_217.here hx rfl (hb hby at_194) rfl k) ?_
              have hc196__218 : (own_teq (own_fst (own_pick (p5 &&& (3 : Int32)) (own_mk p1) (own_mk p2) (own_mk p3)) (own_pick (((p5.toUInt32 >>> ((2 : Int32) &&& 31).toUInt32).toInt32) &&& (3 : Int32)) (own_mk p1) (own_mk p2) (own_mk p4))) (own_snd (own_pick (p5 &&& (3 : Int32)) (own_mk p1) (own_mk p2) (own_mk p3)) (own_pick (((p5.toUInt32 >>> ((2 : Int32) &&& 31).toUInt32).toInt32) &&& (3 : Int32)) (own_mk p1) (own_mk p2) (own_mk p4))) (own_fst (own_mk p1) (own_mk p2)) (own_snd (own_mk p1) (own_mk p2))) = (1 : Int32) := own_T1s (own_ok_mk _) (own_ok_mk _) (own_ok_pick (own_ok_mk _) (own_ok_mk _) (own_ok_mk _)) (own_ok_pick (own_ok_mk _) (own_ok_mk _) (own_ok_mk _)) (Or.inr ⟨own_seq_e hc155__168, own_seq_e hc165__186⟩)
              refine OGo.to (fun _ k => XS.icmpNo X_217.here hx rfl (hb hby at_196) rfl (teq hc196__218).2 k) ?_
              show OGo p e below _ (T_217.setTop (mkF m 199 #[.val (.int p1), .val (.int p2), .val (.int p3), .val (.int p4), .val (.int p5), .val (.ref o__1), .val (.ref o__4), .val (.ref o__12), .val (.ref o__24), .val (.ref b_33), .val (.int kd), .val (.ref b_60), .val (.int (1 : Int32))] []))
              refine OGo.to (fun _ k => XS.iconst X_217.here hx rfl (hb hby at_199) k) ?_
              show OGo p e below _ (T_217.setTop (mkF m 200 #[.val (.int p1), .val (.int p2), .val (.int p3), .val (.int p4), .val (.int p5), .val (.ref o__1), .val (.ref o__4), .val (.ref o__12), .val (.ref o__24), .val (.ref b_33), .val (.int kd), .val (.ref b_60), .val (.int (1 : Int32))] [(.int (1 : Int32))]))
              refine OGo.to (fun _ k => XS.goto X_217.here hx rfl (pc0 := 200) (pc' := 204) rfl (hb hby at_200) (by decide) (by decide) k) ?_
              refine OGo.retW (Q := Q0 Z p1 p2 p3 p4 p5 cs h0 n0) X_217 hS_21 (by rw [e_217]; exact (Nat.le_trans (Nat.le_trans (Nat.le_trans (Nat.le_trans (Nat.le_refl T_21.heap.size) E_33.1) K_40.1) E_60.1) K_76.1)) (some (.int (1 : Int32))) (fun h => by rw [Bd.returns] at h; cases h) Bd.notSynchronized (fun fs hr => retN X_217 hx (t := .boolean) (z := (1 : Int32)) Bd.returns (by simp) (hb hby at_204) hr) ?_ (by decide) (by decide)
              show Q0 Z p1 p2 p3 p4 p5 cs h0 n0 _ T_217.heap _
              rw [e_217]
              exact ⟨rfl, N_217⟩
        ·  -- pc 145: no
          refine OGo.to (fun _ k => XS.ifYes X_157.here hx rfl (pc0 := 145) (pc' := 168) rfl (hb hby at_145) rfl ((if0 _ _).trans (feq hc145__166).2) (by decide) (by decide) k) ?_
          show OGo p e below _ (T_157.setTop (mkF m 168 #[.val (.int p1), .val (.int p2), .val (.int p3), .val (.int p4), .val (.int p5), .val (.ref o__1), .val (.ref o__4), .val (.ref o__12), .val (.ref o__24), .val (.ref b_33), .val (.int kd), .val (.ref b_60), .unset] []))
          refine OGo.to (fun _ k => XS.iconst X_157.here hx rfl (hb hby at_168) k) ?_
          refine OGo.to (fun _ k => XS.goto X_157.here hx rfl (pc0 := 169) (pc' := 173) rfl (hb hby at_169) (by decide) (by decide) k) ?_
          refine OGo.to (fun _ k => XS.istore X_157.here hx rfl (hb hby at_173) rfl (l' := #[.val (.int p1), .val (.int p2), .val (.int p3), .val (.int p4), .val (.int p5), .val (.ref o__1), .val (.ref o__4), .val (.ref o__12), .val (.ref o__24), .val (.ref b_33), .val (.int kd), .val (.ref b_60), .val (.int (1 : Int32))]) rfl k) ?_
          refine OGo.to (fun _ k => XS.aload X_157.here hx rfl (hb hby at_175) rfl rfl k) ?_
          refine OGo.to (fun _ k => XS.aload X_157.here hx rfl (hb hby at_177) rfl rfl k) ?_
          have f_220 : Exa Z T_76.heap b_60 "com/example/cogram/cogram/model/TermPair" := (A_60.keep K_76)
          have f_221 : Fld Z T_76.heap b_33 "com/example/cogram/cogram/model/TermPair" "first" "Ljava/lang/String;" (.ref f__40) := ((p_40_0.ext E_60).keep K_76 (fun q => ne_b_33_b_60 (List.mem_singleton.mp q)))
          have f_222 : Fld Z T_76.heap b_33 "com/example/cogram/cogram/model/TermPair" "second" "Ljava/lang/String;" (.ref s2__40) := ((p_40_1.ext E_60).keep K_76 (fun q => ne_b_33_b_60 (List.mem_singleton.mp q)))
          have f_223 : Exa Z T_76.heap f__40 "java/lang/String" := ((p_40_2.ext E_60).keep K_76)
          have f_224 : Fld Z T_76.heap f__40 "java/lang/String" "coder" "B" (.int (0 : Int32)) := ((p_40_3.ext E_60).keep K_76 (fun q => ne_f__40_b_60 (List.mem_singleton.mp q)))
          have f_225 : Fld Z T_76.heap f__40 "java/lang/String" "value" "[B" (.ref bf__40) := ((p_40_4.ext E_60).keep K_76 (fun q => ne_f__40_b_60 (List.mem_singleton.mp q)))
          have f_226 : Arv Z T_76.heap bf__40 kf__40 .byte (own_i (own_fst (own_mk p1) (own_mk p2)).length) ((own_fst (own_mk p1) (own_mk p2)).map Value.int) (.int (0 : Int32)) := ((p_40_5.ext E_60).keep K_76 (fun q => ne_bf__40_b_60 (List.mem_singleton.mp q)))
          have f_227 : Exa Z T_76.heap s2__40 "java/lang/String" := ((p_40_6.ext E_60).keep K_76)
          have f_228 : Fld Z T_76.heap s2__40 "java/lang/String" "coder" "B" (.int (0 : Int32)) := ((p_40_7.ext E_60).keep K_76 (fun q => ne_s2__40_b_60 (List.mem_singleton.mp q)))
          have f_229 : Fld Z T_76.heap s2__40 "java/lang/String" "value" "[B" (.ref bs__40) := ((p_40_8.ext E_60).keep K_76 (fun q => ne_s2__40_b_60 (List.mem_singleton.mp q)))
          have f_230 : Arv Z T_76.heap bs__40 ks__40 .byte (own_i (own_snd (own_mk p1) (own_mk p2)).length) ((own_snd (own_mk p1) (own_mk p2)).map Value.int) (.int (0 : Int32)) := ((p_40_9.ext E_60).keep K_76 (fun q => ne_bs__40_b_60 (List.mem_singleton.mp q)))
          have f_231 : Exa Z T_76.heap b_33 "com/example/cogram/cogram/model/TermPair" := ((f_73.ext E_60).keep K_76)
          obtain ⟨cq_219, kq_219, q_219a, q_219b, q_219c⟩ := isOf hZ e_157 f_231
          obtain ⟨_, T_219, Lc_219, X_219, hQ_219, st_219⟩ := own_un X_157 (Q := QteT Z b_33 b_60 f__40 s2__40 f__76 s2__76 bf__40 kf__40 (own_fst (own_mk p1) (own_mk p2)) bs__40 ks__40 (own_snd (own_mk p1) (own_mk p2)) bf__76 kf__76 (own_fst (own_pick (p5 &&& (3 : Int32)) (own_mk p1) (own_mk p2) (own_mk p3)) (own_pick (((p5.toUInt32 >>> ((2 : Int32) &&& 31).toUInt32).toInt32) &&& (3 : Int32)) (own_mk p1) (own_mk p2) (own_mk p4))) bs__76 ks__76 (own_snd (own_pick (p5 &&& (3 : Int32)) (own_mk p1) (own_mk p2) (own_mk p3)) (own_pick (((p5.toUInt32 >>> ((2 : Int32) &&& 31).toUInt32).toInt32) &&& (3 : Int32)) (own_mk p1) (own_mk p2) (own_mk p4))) cs T_76.heap n0) (rc := 0) (rs := 0) (W := fun v B => Steps p.tables e below (T_157.setTop (mkF m 179 #[.val (.int p1), .val (.int p2), .val (.int p3), .val (.int p4), .val (.int p5), .val (.ref o__1), .val (.ref o__4), .val (.ref o__12), .val (.ref o__24), .val (.ref b_33), .val (.int kd), .val (.ref b_60), .val (.int (1 : Int32))] [(.ref b_60), (.ref b_33)])) (B.setTop { (mkF m 179 #[.val (.int p1), .val (.int p2), .val (.int p3), .val (.int p4), .val (.int p5), .val (.ref o__1), .val (.ref o__4), .val (.ref o__12), .val (.ref o__24), .val (.ref b_33), .val (.int kd), .val (.ref b_60), .val (.int (1 : Int32))] [(.ref b_60), (.ref b_33)]) with pc := 182, stack := v.toList ++ [] })) <| X_157.virtualBack hx (y := (⟨"com/example/cogram/cogram/model/TermPair", "equals", "(Ljava/lang/Object;)Z"⟩ : MethodName)) (z := (⟨"com/example/cogram/cogram/model/TermPair", "equals", "(Ljava/lang/Object;)Z"⟩ : MethodName)) hown (mvT hZ (hw _ (List.mem_of_getElem? (i := 66) rfl))) (mvT hZ (hw _ (List.mem_of_getElem? (i := 67) rfl))) (notFace_of_selects (args := #[]) (mvT hZ (hw _ (List.mem_of_getElem? (i := 69) rfl)))) (mvT hZ (hw _ (List.mem_of_getElem? (i := 69) rfl))) (mvT hZ (hw _ (List.mem_of_getElem? (i := 68) rfl))) (by decide) (backOf (W := 0) (rmteT l Z a0 hw [] b_33 b_60 f__40 s2__40 f__76 s2__76 bf__40 kf__40 (own_fst (own_mk p1) (own_mk p2)) bs__40 ks__40 (own_snd (own_mk p1) (own_mk p2)) bf__76 kf__76 (own_fst (own_pick (p5 &&& (3 : Int32)) (own_mk p1) (own_mk p2) (own_mk p3)) (own_pick (((p5.toUInt32 >>> ((2 : Int32) &&& 31).toUInt32).toInt32) &&& (3 : Int32)) (own_mk p1) (own_mk p2) (own_mk p4))) bs__76 ks__76 (own_snd (own_pick (p5 &&& (3 : Int32)) (own_mk p1) (own_mk p2) (own_mk p3)) (own_pick (((p5.toUInt32 >>> ((2 : Int32) &&& 31).toUInt32).toInt32) &&& (3 : Int32)) (own_mk p1) (own_mk p2) (own_mk p4))) cs T_76.heap n0 z_85 f_220 f_221 f_222 p_76_0 p_76_1 f_223 f_224 f_225 f_226 f_227 f_228 f_229 f_230 p_76_2 p_76_3 p_76_4 p_76_5 p_76_6 p_76_7 p_76_8 p_76_9 ((own_ok_fst (own_ok_mk _) (own_ok_mk _))) ((own_ok_snd (own_ok_mk _) (own_ok_mk _))) ((own_ok_fst (own_ok_pick (own_ok_mk _) (own_ok_mk _) (own_ok_mk _)) (own_ok_pick (own_ok_mk _) (own_ok_mk _) (own_ok_mk _)))) ((own_ok_snd (own_ok_pick (own_ok_mk _) (own_ok_mk _) (own_ok_mk _)) (own_ok_pick (own_ok_mk _) (own_ok_mk _) (own_ok_mk _)))) SC O_86 (hcs)) hZ (hw _ (List.mem_of_getElem? (i := 70) rfl)) (hw _ (List.mem_of_getElem? (i := 31) rfl)) (by decide) (by decide)) q_219a q_219c (g := (mkF m 179 #[.val (.int p1), .val (.int p2), .val (.int p3), .val (.int p4), .val (.int p5), .val (.ref o__1), .val (.ref o__4), .val (.ref o__12), .val (.ref o__24), .val (.ref b_33), .val (.int kd), .val (.ref b_60), .val (.int (1 : Int32))] [(.ref b_60), (.ref b_33)])) rfl (by rw [hml]; rfl) (Steps.refl _) (argsL := [(.ref b_60)]) (rest := []) (lenOf pd_17 rfl) rfl (by show 2 * 0 + _ ≤ _; exact Nat.le_of_eq rfl) (hb hby at_179) (fun _ _ => ⟨rfl, e_157, (by decide : 18 + 0 ≤ _), (by decide : 36 + 0 ≤ _)⟩)
          obtain ⟨rfl, N_219q, e_219⟩ := hQ_219
          have N_219 := Fr.app N_157 N_219q
          refine OGo.to (fun _ k => st_219.trans k) ?_
          show OGo p e below _ (T_219.setTop (mkF m 182 #[.val (.int p1), .val (.int p2), .val (.int p3), .val (.int p4), .val (.int p5), .val (.ref o__1), .val (.ref o__4), .val (.ref o__12), .val (.ref o__24), .val (.ref b_33), .val (.int kd), .val (.ref b_60), .val (.int (1 : Int32))] [(.int (own_teq (own_fst (own_mk p1) (own_mk p2)) (own_snd (own_mk p1) (own_mk p2)) (own_fst (own_pick (p5 &&& (3 : Int32)) (own_mk p1) (own_mk p2) (own_mk p3)) (own_pick (((p5.toUInt32 >>> ((2 : Int32) &&& 31).toUInt32).toInt32) &&& (3 : Int32)) (own_mk p1) (own_mk p2) (own_mk p4))) (own_snd (own_pick (p5 &&& (3 : Int32)) (own_mk p1) (own_mk p2) (own_mk p3)) (own_pick (((p5.toUInt32 >>> ((2 : Int32) &&& 31).toUInt32).toInt32) &&& (3 : Int32)) (own_mk p1) (own_mk p2) (own_mk p4)))))]))
          refine OGo.to (fun _ k => XS.iload X_219.here hx rfl (hb hby at_182) rfl k) ?_
          have hc184__232 : (own_teq (own_fst (own_mk p1) (own_mk p2)) (own_snd (own_mk p1) (own_mk p2)) (own_fst (own_pick (p5 &&& (3 : Int32)) (own_mk p1) (own_mk p2) (own_mk p3)) (own_pick (((p5.toUInt32 >>> ((2 : Int32) &&& 31).toUInt32).toInt32) &&& (3 : Int32)) (own_mk p1) (own_mk p2) (own_mk p4))) (own_snd (own_pick (p5 &&& (3 : Int32)) (own_mk p1) (own_mk p2) (own_mk p3)) (own_pick (((p5.toUInt32 >>> ((2 : Int32) &&& 31).toUInt32).toInt32) &&& (3 : Int32)) (own_mk p1) (own_mk p2) (own_mk p4)))) = (1 : Int32) := own_T1 (own_ok_mk _) (own_ok_mk _) (own_ok_pick (own_ok_mk _) (own_ok_mk _) (own_ok_mk _)) (own_ok_pick (own_ok_mk _) (own_ok_mk _) (own_ok_mk _)) (Or.inl ⟨own_seq_e hc135__96, own_seq_e hc145__166⟩)
          refine OGo.to (fun _ k => XS.icmpNo X_219.here hx rfl (hb hby at_184) rfl (teq hc184__232).2 k) ?_
          show OGo p e below _ (T_219.setTop (mkF m 187 #[.val (.int p1), .val (.int p2), .val (.int p3), .val (.int p4), .val (.int p5), .val (.ref o__1), .val (.ref o__4), .val (.ref o__12), .val (.ref o__24), .val (.ref b_33), .val (.int kd), .val (.ref b_60), .val (.int (1 : Int32))] []))
          refine OGo.to (fun _ k => XS.aload X_219.here hx rfl (hb hby at_187) rfl rfl k) ?_
          refine OGo.to (fun _ k => XS.aload X_219.here hx rfl (hb hby at_189) rfl rfl k) ?_
          obtain ⟨cq_233, kq_233, q_233a, q_233b, q_233c⟩ := isOf hZ e_219 f_220
          obtain ⟨_, T_233, Lc_233, X_233, hQ_233, st_233⟩ := own_un X_219 (Q := QteT Z b_60 b_33 f__76 s2__76 f__40 s2__40 bf__76 kf__76 (own_fst (own_pick (p5 &&& (3 : Int32)) (own_mk p1) (own_mk p2) (own_mk p3)) (own_pick (((p5.toUInt32 >>> ((2 : Int32) &&& 31).toUInt32).toInt32) &&& (3 : Int32)) (own_mk p1) (own_mk p2) (own_mk p4))) bs__76 ks__76 (own_snd (own_pick (p5 &&& (3 : Int32)) (own_mk p1) (own_mk p2) (own_mk p3)) (own_pick (((p5.toUInt32 >>> ((2 : Int32) &&& 31).toUInt32).toInt32) &&& (3 : Int32)) (own_mk p1) (own_mk p2) (own_mk p4))) bf__40 kf__40 (own_fst (own_mk p1) (own_mk p2)) bs__40 ks__40 (own_snd (own_mk p1) (own_mk p2)) cs T_76.heap n0) (rc := 0) (rs := 0) (W := fun v B => Steps p.tables e below (T_219.setTop (mkF m 191 #[.val (.int p1), .val (.int p2), .val (.int p3), .val (.int p4), .val (.int p5), .val (.ref o__1), .val (.ref o__4), .val (.ref o__12), .val (.ref o__24), .val (.ref b_33), .val (.int kd), .val (.ref b_60), .val (.int (1 : Int32))] [(.ref b_33), (.ref b_60)])) (B.setTop { (mkF m 191 #[.val (.int p1), .val (.int p2), .val (.int p3), .val (.int p4), .val (.int p5), .val (.ref o__1), .val (.ref o__4), .val (.ref o__12), .val (.ref o__24), .val (.ref b_33), .val (.int kd), .val (.ref b_60), .val (.int (1 : Int32))] [(.ref b_33), (.ref b_60)]) with pc := 194, stack := v.toList ++ [] })) <| X_219.virtualBack hx (y := (⟨"com/example/cogram/cogram/model/TermPair", "equals", "(Ljava/lang/Object;)Z"⟩ : MethodName)) (z := (⟨"com/example/cogram/cogram/model/TermPair", "equals", "(Ljava/lang/Object;)Z"⟩ : MethodName)) hown (mvT hZ (hw _ (List.mem_of_getElem? (i := 66) rfl))) (mvT hZ (hw _ (List.mem_of_getElem? (i := 67) rfl))) (notFace_of_selects (args := #[]) (mvT hZ (hw _ (List.mem_of_getElem? (i := 69) rfl)))) (mvT hZ (hw _ (List.mem_of_getElem? (i := 69) rfl))) (mvT hZ (hw _ (List.mem_of_getElem? (i := 68) rfl))) (by decide) (backOf (W := 0) (rmteT l Z a0 hw [] b_60 b_33 f__76 s2__76 f__40 s2__40 bf__76 kf__76 (own_fst (own_pick (p5 &&& (3 : Int32)) (own_mk p1) (own_mk p2) (own_mk p3)) (own_pick (((p5.toUInt32 >>> ((2 : Int32) &&& 31).toUInt32).toInt32) &&& (3 : Int32)) (own_mk p1) (own_mk p2) (own_mk p4))) bs__76 ks__76 (own_snd (own_pick (p5 &&& (3 : Int32)) (own_mk p1) (own_mk p2) (own_mk p3)) (own_pick (((p5.toUInt32 >>> ((2 : Int32) &&& 31).toUInt32).toInt32) &&& (3 : Int32)) (own_mk p1) (own_mk p2) (own_mk p4))) bf__40 kf__40 (own_fst (own_mk p1) (own_mk p2)) bs__40 ks__40 (own_snd (own_mk p1) (own_mk p2)) cs T_76.heap n0 z_85 f_231 p_76_0 p_76_1 f_221 f_222 p_76_2 p_76_3 p_76_4 p_76_5 p_76_6 p_76_7 p_76_8 p_76_9 f_223 f_224 f_225 f_226 f_227 f_228 f_229 f_230 ((own_ok_fst (own_ok_pick (own_ok_mk _) (own_ok_mk _) (own_ok_mk _)) (own_ok_pick (own_ok_mk _) (own_ok_mk _) (own_ok_mk _)))) ((own_ok_snd (own_ok_pick (own_ok_mk _) (own_ok_mk _) (own_ok_mk _)) (own_ok_pick (own_ok_mk _) (own_ok_mk _) (own_ok_mk _)))) ((own_ok_fst (own_ok_mk _) (own_ok_mk _))) ((own_ok_snd (own_ok_mk _) (own_ok_mk _))) SC O_86 (hcs)) hZ (hw _ (List.mem_of_getElem? (i := 70) rfl)) (hw _ (List.mem_of_getElem? (i := 31) rfl)) (by decide) (by decide)) q_233a q_233c (g := (mkF m 191 #[.val (.int p1), .val (.int p2), .val (.int p3), .val (.int p4), .val (.int p5), .val (.ref o__1), .val (.ref o__4), .val (.ref o__12), .val (.ref o__24), .val (.ref b_33), .val (.int kd), .val (.ref b_60), .val (.int (1 : Int32))] [(.ref b_33), (.ref b_60)])) rfl (by rw [hml]; rfl) (Steps.refl _) (argsL := [(.ref b_33)]) (rest := []) (lenOf pd_17 rfl) rfl (by show 2 * 0 + _ ≤ _; exact Nat.le_of_eq rfl) (hb hby at_191) (fun _ _ => ⟨rfl, e_219, (by decide : 18 + 0 ≤ _), (by decide : 36 + 0 ≤ _)⟩)
          obtain ⟨rfl, N_233q, e_233⟩ := hQ_233
          have N_233 := Fr.app N_219 N_233q
          refine OGo.to (fun _ k => st_233.trans k) ?_
          show OGo p e below _ (T_233.setTop (mkF m 194 #[.val (.int p1), .val (.int p2), .val (.int p3), .val (.int p4), .val (.int p5), .val (.ref o__1), .val (.ref o__4), .val (.ref o__12), .val (.ref o__24), .val (.ref b_33), .val (.int kd), .val (.ref b_60), .val (.int (1 : Int32))] [(.int (own_teq (own_fst (own_pick (p5 &&& (3 : Int32)) (own_mk p1) (own_mk p2) (own_mk p3)) (own_pick (((p5.toUInt32 >>> ((2 : Int32) &&& 31).toUInt32).toInt32) &&& (3 : Int32)) (own_mk p1) (own_mk p2) (own_mk p4))) (own_snd (own_pick (p5 &&& (3 : Int32)) (own_mk p1) (own_mk p2) (own_mk p3)) (own_pick (((p5.toUInt32 >>> ((2 : Int32) &&& 31).toUInt32).toInt32) &&& (3 : Int32)) (own_mk p1) (own_mk p2) (own_mk p4))) (own_fst (own_mk p1) (own_mk p2)) (own_snd (own_mk p1) (own_mk p2))))]))
          refine OGo.to (fun _ k => XS.iload X_233.here hx rfl (hb hby at_194) rfl k) ?_
          have hc196__234 : (own_teq (own_fst (own_pick (p5 &&& (3 : Int32)) (own_mk p1) (own_mk p2) (own_mk p3)) (own_pick (((p5.toUInt32 >>> ((2 : Int32) &&& 31).toUInt32).toInt32) &&& (3 : Int32)) (own_mk p1) (own_mk p2) (own_mk p4))) (own_snd (own_pick (p5 &&& (3 : Int32)) (own_mk p1) (own_mk p2) (own_mk p3)) (own_pick (((p5.toUInt32 >>> ((2 : Int32) &&& 31).toUInt32).toInt32) &&& (3 : Int32)) (own_mk p1) (own_mk p2) (own_mk p4))) (own_fst (own_mk p1) (own_mk p2)) (own_snd (own_mk p1) (own_mk p2))) = (1 : Int32) := own_T1s (own_ok_mk _) (own_ok_mk _) (own_ok_pick (own_ok_mk _) (own_ok_mk _) (own_ok_mk _)) (own_ok_pick (own_ok_mk _) (own_ok_mk _) (own_ok_mk _)) (Or.inl ⟨own_seq_e hc135__96, own_seq_e hc145__166⟩)
          refine OGo.to (fun _ k => XS.icmpNo X_233.here hx rfl (hb hby at_196) rfl (teq hc196__234).2 k) ?_
          show OGo p e below _ (T_233.setTop (mkF m 199 #[.val (.int p1), .val (.int p2), .val (.int p3), .val (.int p4), .val (.int p5), .val (.ref o__1), .val (.ref o__4), .val (.ref o__12), .val (.ref o__24), .val (.ref b_33), .val (.int kd), .val (.ref b_60), .val (.int (1 : Int32))] []))
          refine OGo.to (fun _ k => XS.iconst X_233.here hx rfl (hb hby at_199) k) ?_
          refine OGo.to (fun _ k => XS.goto X_233.here hx rfl (pc0 := 200) (pc' := 204) rfl (hb hby at_200) (by decide) (by decide) k) ?_
          refine OGo.retW (Q := Q0 Z p1 p2 p3 p4 p5 cs h0 n0) X_233 hS_21 (by rw [e_233]; exact (Nat.le_trans (Nat.le_trans (Nat.le_trans (Nat.le_trans (Nat.le_refl T_21.heap.size) E_33.1) K_40.1) E_60.1) K_76.1)) (some (.int (1 : Int32))) (fun h => by rw [Bd.returns] at h; cases h) Bd.notSynchronized (fun fs hr => retN X_233 hx (t := .boolean) (z := (1 : Int32)) Bd.returns (by simp) (hb hby at_204) hr) ?_ (by decide) (by decide)
          show Q0 Z p1 p2 p3 p4 p5 cs h0 n0 _ T_233.heap _
          rw [e_233]
          exact ⟨rfl, N_233⟩
set_option maxRecDepth 65536 in
set_option maxHeartbeats 40000000 in
theorem comes_1 {Post : Tables → Env → Array Value → State → Outcome → State → Prop} (hpost : ∀ tb e args s v u, (limb_1_1.after args s (.returned v) u = true ∧ limb_1_2.after args s (.returned v) u = true ∧ True) → ReturnedEndW s (.returned v) u (Jvm.fieldLocs frame_1_writes args s ++ Jvm.arrayLocs frame_1_arrays args s ++ Jvm.staticLocs frame_1_statics s) 40 1216 → Post tb e args s (.returned v) u) :
    ArmFor flags0 classFile x code maxLocals ret World_1 tables_1 room_1 Calls_1 rest_1 Pre_1 Post := by
  intro l hfl _ _ p e ha hc hk s m args below hf hA hF happ hP
  obtain ⟨hcalls, hrest, hpre⟩ := hP
  obtain ⟨-, -, -, hnamed, -, -, -, hat⟩ := (Spec.applies_iff hf).mp happ
  obtain ⟨hg, hn⟩ := and_e (Cond.before_iff.mp (show (Jvm.Cond.and given_1 narrow_1).before args s = true from hpre))
  obtain ⟨g1, g2⟩ := and_e hg
  obtain ⟨g3, g4⟩ := and_e g2
  obtain ⟨g5, g6⟩ := and_e g4
  obtain ⟨g7, g8⟩ := and_e g6
  obtain ⟨g9, g10⟩ := and_e g8
  obtain ⟨w0, w1, w2, w3, w4, rfl⟩ : ∃ w0 w1 w2 w3 w4 : Value, args = #[w0, w1, w2, w3, w4] := by
    have hs : args.size = 5 := by simpa [Cond.value, given_1] using g1
    obtain ⟨L⟩ := args
    match L, hs with
    | [w0, w1, w2, w3, w4], _ => exact ⟨w0, w1, w2, w3, w4, rfl⟩
  have hw := fun d (hd : d ∈ tables_1) => atoms_spec (ws := Jvm.Cond.code x code maxLocals ret :: tables_1) hat d (List.mem_cons_of_mem _ hd)
  have hfit : Fit s := fun {y c} hc i hi => by
    obtain ⟨ha, rfl⟩ := Array.getElem?_eq_some_iff.mp hc
    have q := List.all_eq_true.mp ((Array.all_eq_true_iff_forall_mem.mp hF) _ (Array.getElem_mem ha)) i (List.mem_range.mpr hi)
    simpa [Array.getElem?_eq_getElem hi] using q
  obtain ⟨hsets, hown0⟩ := atoms_of _ (rest_1_c_eq ▸ (show rest_1_c.before _ s = true from hrest))
  have hr0 := Cond.before_iff.mp hown0
  obtain ⟨i0, ei0⟩ := is_v g3
  obtain rfl : w0 = (.int i0) := Option.some.inj ei0
  obtain ⟨i1, ei1⟩ := is_v g5
  obtain rfl : w1 = (.int i1) := Option.some.inj ei1
  obtain ⟨i2, ei2⟩ := is_v g7
  obtain rfl : w2 = (.int i2) := Option.some.inj ei2
  obtain ⟨i3, ei3⟩ := is_v g9
  obtain rfl : w3 = (.int i3) := Option.some.inj ei3
  obtain ⟨i4, ei4⟩ := is_v g10
  obtain rfl : w4 = (.int i4) := Option.some.inj ei4
  obtain ⟨cs, ecs⟩ := is_v (Cond.before_iff.mp (hsets _ (List.mem_of_getElem? (i := 1) rfl)))
  have SC : Sta s s.heap "java/lang/String" "COMPACT_STRINGS" "Z" (.int cs) := Sta.start ecs (Or.inl (hsets _ (List.mem_of_getElem? (i := 0) rfl)))
  have hcs : ¬ (cs = (0 : Int32)) := own_cs ecs (hsets _ (List.mem_of_getElem? (i := 2) rfl))
  have HH : Jvm.Lit.constHeld s "java/lang/String" 7 := hcalls.1 ("java/lang/String", 7) (List.mem_singleton.mpr rfl)
  obtain ⟨n, o, h1, h2, h3, _, L, rfl, ⟨rfl, N⟩, hq⟩ := rm0 l s _ hw tables_1 i0 i1 i2 i3 i4 cs s.heap s.heap.size (Nat.le_refl _) SC (Old.start s) hcs HH (hsets _ (List.mem_of_getElem? (i := 2) rfl)) p e ha hc hk s m _ below hf ((Spec.applies_iff_loose hf).mp happ).1 ⟨rfl, State.Warmed39.refl s, rfl, Or.inl rfl⟩ trivial
  refine ⟨n, _, h1, h2, h3, hpost _ _ _ _ _ _ ⟨Cond.after_iff.mpr rfl, Cond.after_iff.mpr (eq_i res_at (Term.int_eval (1)) rfl), trivial⟩ ⟨hq.1, hq.2.1, hq.2.2.1, (hq.2.2.2.sift fun y hy => Or.inr (N y hy)).mono (by decide) (by decide)⟩⟩
theorem main_1_1 : Claimed_1_1 := comes_1 fun _ _ _ _ _ _ h hF => ⟨h.1, hF⟩
theorem main_1_2 : Claimed_1_2 := comes_1 fun _ _ _ _ _ _ h hF => ⟨h.2.1, hF⟩
end Jvm.Pilot.@@N@@
namespace Jvm.Pilot.@@N@@
open Jvm Jvm.ClassFile Sem Op Lib Jvm.Free Jvm.Stand Jvm.Pilot.@@N@@.Jvm.D
/-! MADE BY PROGRAM (witnessworld.py) out of the Statement's table words and the real class files: 21 classes; the members and pool entries that the words name. The judged class is class 1, her method 3. -/
namespace start1
open Jvm.ClassFile
def u (s : String) : CpInfo := .utf8 (stringToUtf16 s)
/-- a pool by its gaps: so many unusable entries, then the entry; so many at the end -/
def gap : Nat → List CpInfo → List CpInfo
  | 0, r => r
  | n + 1, r => .unusable :: gap n r
def poolList (es : List (Nat × CpInfo)) (last : Nat) : List CpInfo := es.foldr (fun e r => gap e.1 (e.2 :: r)) (gap last [])
def pool (es : List (Nat × CpInfo)) (last : Nat) : Array CpInfo := ⟨poolList es last⟩
def fileOf (pool : Array CpInfo) (this : Nat) (attrs : Array Attribute := #[]) (ms : Array MethodInfo := #[]) (fl : Nat := 33) (sup : Nat := 0) (ifs : Array Nat := #[]) (fds : Array FieldInfo := #[]) : ClassFile where
  minorVersion := 0
  majorVersion := 65
  constantPool := pool
  accessFlags := fl
  thisClass := this
  superClass := sup
  interfaces := ifs
  fields := fds
  methods := ms
  attributes := attrs
def plain (name : String) (sup : Option ClassId) : Class where
  name := name
  kind := .ordinary
  loader := none
  accessFlags := 33
  super := sup
  interfaces := #[]
  cf := none
  fields := #[]
  methods := #[]
  instanceTypes := #[]
  staticTypes := #[]
  resolved := #[]
  callSites := []
  init := .initialized
  statics := none
  mirror := none

def pool0 : Array CpInfo := pool [(5, u "<init>"), (0, u "()V"), (1, .class_ 10), (1, u "java/lang/Object")] 113

def k0c0 : Code := { maxStack := 0, maxLocals := 1, code := object_method_1_code, exceptionTable := #[], attributes := #[] }
def k0m0 : Method := { name := "<init>", desc := "()V", sig := { parameters := [], returnType := none }, accessFlags := 1, code := some k0c0 }
/-- java/lang/Object -/
def k0 : Class := { plain "java/lang/Object" none with
  accessFlags := 33
  interfaces := #[]
  cf := some (fileOf pool0 8 #[] #[{ accessFlags := 1, nameIndex := 5, descriptorIndex := 6, attributes := #[] }] 33 0 #[] #[])
  fields := #[]
  methods := #[k0m0]
  instanceTypes := #[]
  staticTypes := #[]
  resolved := Array.replicate 124 none
  statics := none }

def pool1 : Array CpInfo := pool [(2, .class_ 4), (1, u "java/lang/Object"), (0, u "<init>"), (0, u "()V"), (0, .class_ 8), (0, u "java/lang/String"), (0, .methodref 7 10), (0, .nameAndType 5 11), (0, u "([C)V"), (0, .methodref 7 13), (0, .nameAndType 14 15), (0, u "valueOf"), (0, u "(C)Ljava/lang/String;"), (0, .methodref 17 18), (0, .class_ 19), (0, .nameAndType 20 21), (0, u "com/example/cogram/cogram/model/TermPairEqualsPinLaw"), (0, u "mk"), (0, u "(I)Ljava/lang/String;"), (0, .methodref 17 23), (0, .nameAndType 24 25), (0, u "pick"), (0, u "(ILjava/lang/String;Ljava/lang/String;Ljava/lang/String;)Ljava/lang/String;"), (0, .class_ 27), (0, u "com/example/cogram/cogram/model/TermPair"), (0, .methodref 26 29), (0, .nameAndType 5 30), (0, u "(Ljava/lang/String;Ljava/lang/String;)V"), (0, .methodref 26 32), (0, .nameAndType 33 34), (0, u "equals"), (0, u "(Ljava/lang/Object;)Z"), (0, .methodref 7 32), (3, u "law"), (0, u "(IIIII)Z")] 2

def k1m0 : Method := { name := "<init>", desc := "()V", sig := { parameters := [], returnType := none }, accessFlags := 1, code := none }
def k1c1 : Code := { maxStack := 6, maxLocals := 4, code := method_2_code, exceptionTable := #[], attributes := #[] }
def k1m1 : Method := { name := "mk", desc := "(I)Ljava/lang/String;", sig := { parameters := [.int], returnType := some (.object "java/lang/String") }, accessFlags := 10, code := some k1c1 }
def k1c2 : Code := { maxStack := 2, maxLocals := 4, code := method_3_code, exceptionTable := #[], attributes := #[] }
def k1m2 : Method := { name := "pick", desc := "(ILjava/lang/String;Ljava/lang/String;Ljava/lang/String;)Ljava/lang/String;", sig := { parameters := [.int, (.object "java/lang/String"), (.object "java/lang/String"), (.object "java/lang/String")], returnType := some (.object "java/lang/String") }, accessFlags := 10, code := some k1c2 }
def k1c3 : Code := { maxStack := 4, maxLocals := 13, code := code, exceptionTable := #[], attributes := #[] }
def k1m3 : Method := { name := "law", desc := "(IIIII)Z", sig := { parameters := [.int, .int, .int, .int, .int], returnType := some .boolean }, accessFlags := 9, code := some k1c3 }
/-- com/example/cogram/cogram/model/TermPairEqualsPinLaw -/
def k1 : Class := { plain "com/example/cogram/cogram/model/TermPairEqualsPinLaw" (some 0) with
  accessFlags := 49
  interfaces := #[]
  cf := some (fileOf pool1 17 #[] #[{ accessFlags := 1, nameIndex := 5, descriptorIndex := 6, attributes := #[] }, { accessFlags := 10, nameIndex := 20, descriptorIndex := 21, attributes := #[] }, { accessFlags := 10, nameIndex := 24, descriptorIndex := 25, attributes := #[] }, { accessFlags := 9, nameIndex := 39, descriptorIndex := 40, attributes := #[] }] 49 2 #[] #[])
  fields := #[]
  methods := #[k1m0, k1m1, k1m2, k1m3]
  instanceTypes := #[]
  staticTypes := #[]
  resolved := Array.replicate 43 none
  statics := none }

def pool2 : Array CpInfo := pool [(1, .class_ 2), (0, u "java/io/Serializable"), (0, .class_ 4), (0, u "java/lang/Object")] 2

/-- java/io/Serializable -/
def k2 : Class := { plain "java/io/Serializable" (some 0) with
  accessFlags := 1537
  interfaces := #[]
  cf := some (fileOf pool2 1 #[] #[] 1537 3 #[] #[])
  fields := #[]
  methods := #[]
  instanceTypes := #[]
  staticTypes := #[]
  resolved := Array.replicate 7 none
  statics := none }

def pool3 : Array CpInfo := pool [(1, .class_ 2), (0, u "java/lang/Comparable"), (0, .class_ 4), (0, u "java/lang/Object")] 7

/-- java/lang/Comparable -/
def k3 : Class := { plain "java/lang/Comparable" (some 0) with
  accessFlags := 1537
  interfaces := #[]
  cf := some (fileOf pool3 1 #[] #[] 1537 3 #[] #[])
  fields := #[]
  methods := #[]
  instanceTypes := #[]
  staticTypes := #[]
  resolved := Array.replicate 12 none
  statics := none }

def pool4 : Array CpInfo := pool [(2, .class_ 4), (1, u "java/lang/CharSequence"), (42, .class_ 48), (0, u "java/lang/CharSequence$1CodePointIterator"), (10, .class_ 60), (0, u "java/lang/CharSequence$1CharIterator"), (5, .class_ 67), (0, u "java/lang/Object")] 63

/-- java/lang/CharSequence -/
def k4 : Class := { plain "java/lang/CharSequence" (some 0) with
  accessFlags := 1537
  interfaces := #[]
  cf := some (fileOf pool4 2 #[.nestMembers #[47, 59]] #[] 1537 66 #[] #[])
  fields := #[]
  methods := #[]
  instanceTypes := #[]
  staticTypes := #[]
  resolved := Array.replicate 131 none
  statics := none }

def pool5 : Array CpInfo := pool [(1, .class_ 2), (0, u "java/lang/constant/Constable"), (0, .class_ 4), (0, u "java/lang/Object")] 6

/-- java/lang/constant/Constable -/
def k5 : Class := { plain "java/lang/constant/Constable" (some 0) with
  accessFlags := 1537
  interfaces := #[]
  cf := some (fileOf pool5 1 #[] #[] 1537 3 #[] #[])
  fields := #[]
  methods := #[]
  instanceTypes := #[]
  staticTypes := #[]
  resolved := Array.replicate 11 none
  statics := none }

def pool6 : Array CpInfo := pool [(1, .class_ 2), (0, u "java/lang/constant/ConstantDesc"), (0, .class_ 4), (0, u "java/lang/Object")] 32

/-- java/lang/constant/ConstantDesc -/
def k6 : Class := { plain "java/lang/constant/ConstantDesc" (some 0) with
  accessFlags := 1537
  interfaces := #[]
  cf := some (fileOf pool6 1 #[] #[] 1537 3 #[] #[])
  fields := #[]
  methods := #[]
  instanceTypes := #[]
  staticTypes := #[]
  resolved := Array.replicate 37 none
  statics := none }

def pool7 : Array CpInfo := pool [(1, .methodref 2 3), (0, .class_ 4), (0, .nameAndType 5 6), (0, u "java/lang/Object"), (0, u "<init>"), (0, u "()V"), (0, .string 8), (0, u ""), (0, .fieldref 10 11), (0, .class_ 12), (0, .nameAndType 13 14), (0, u "java/lang/String"), (0, u "value"), (0, u "[B"), (0, .fieldref 10 16), (0, .nameAndType 17 18), (0, u "coder"), (0, u "B"), (2, u "hash"), (0, u "I"), (2, u "hashIsZero"), (0, u "Z"), (0, .methodref 10 28), (0, .nameAndType 5 29), (0, u "([CIILjava/lang/Void;)V"), (8, .fieldref 10 39), (0, .nameAndType 40 26), (0, u "COMPACT_STRINGS"), (1, .class_ 44), (1, u "java/lang/StringUTF16"), (0, u "compress"), (1, .methodref 42 48), (0, .nameAndType 49 50), (0, u "coderFromArrayLen"), (0, u "([BI)B"), (2, u "toBytes"), (53, .class_ 109), (1, u "java/lang/StringLatin1"), (67, .methodref 42 178), (0, .nameAndType 45 179), (0, u "([CII)[B"), (29, .methodref 10 210), (0, .nameAndType 5 211), (0, u "([BB)V"), (123, .methodref 10 336), (0, .nameAndType 17 337), (0, u "()B"), (31, u "(C)Z"), (171, .methodref 107 542), (0, .nameAndType 543 544), (0, u "equals"), (0, u "([B[B)Z"), (28, u "(Ljava/lang/Object;)Z"), (1, .class_ 576), (0, u "java/lang/CharSequence"), (9, .methodref 107 587), (0, .nameAndType 588 589), (0, u "compareTo"), (0, u "([B[B)I"), (9, u "CASE_INSENSITIVE_ORDER"), (0, u "Ljava/util/Comparator;"), (112, u "(Ljava/lang/String;)I"), (68, u "valueOf"), (0, u "(C)Ljava/lang/String;"), (226, u "([C)V"), (4, .methodref 107 1016), (0, .nameAndType 1017 369), (0, u "canEncode"), (0, .methodref 107 1019), (0, .nameAndType 53 1020), (0, u "(C)[B"), (80, u "serialPersistentFields"), (0, u "[Ljava/io/ObjectStreamField;"), (0, .class_ 1104), (0, u "java/lang/String$CaseInsensitiveComparator"), (1, .class_ 1107), (0, u "java/io/Serializable"), (0, .class_ 1109), (0, u "java/lang/Comparable"), (0, .class_ 1111), (0, u "java/lang/constant/Constable"), (0, .class_ 1113), (0, u "java/lang/constant/ConstantDesc"), (2, u "serialVersionUID"), (0, u "J"), (3, u "REPL"), (0, u "C"), (2, u "LATIN1"), (1, u "UTF16")] 323

def k7m0 : Method := { name := "<init>", desc := "()V", sig := { parameters := [], returnType := none }, accessFlags := 1, code := none }
def k7c1 : Code := { maxStack := 5, maxLocals := 2, code := jdk_42_method_3_code, exceptionTable := #[], attributes := #[] }
def k7m1 : Method := { name := "<init>", desc := "([C)V", sig := { parameters := [(.array .char)], returnType := none }, accessFlags := 1, code := some k7c1 }
def k7c2 : Code := { maxStack := 2, maxLocals := 3, code := jdk_42_method_66_code, exceptionTable := #[], attributes := #[] }
def k7m2 : Method := { name := "equals", desc := "(Ljava/lang/Object;)Z", sig := { parameters := [(.object "java/lang/Object")], returnType := some .boolean }, accessFlags := 1, code := some k7c2 }
def k7c3 : Code := { maxStack := 2, maxLocals := 5, code := jdk_42_method_71_code, exceptionTable := #[], attributes := #[] }
def k7m3 : Method := { name := "compareTo", desc := "(Ljava/lang/String;)I", sig := { parameters := [(.object "java/lang/String")], returnType := some .int }, accessFlags := 1, code := some k7c3 }
def k7c4 : Code := { maxStack := 4, maxLocals := 1, code := jdk_42_method_139_code, exceptionTable := #[], attributes := #[] }
def k7m4 : Method := { name := "valueOf", desc := "(C)Ljava/lang/String;", sig := { parameters := [.char], returnType := some (.object "java/lang/String") }, accessFlags := 9, code := some k7c4 }
def k7c5 : Code := { maxStack := 4, maxLocals := 6, code := jdk_42_method_149_code, exceptionTable := #[], attributes := #[] }
def k7m5 : Method := { name := "<init>", desc := "([CIILjava/lang/Void;)V", sig := { parameters := [(.array .char), .int, .int, (.object "java/lang/Void")], returnType := none }, accessFlags := 2, code := some k7c5 }
def k7c6 : Code := { maxStack := 2, maxLocals := 3, code := jdk_42_method_151_code, exceptionTable := #[], attributes := #[] }
def k7m6 : Method := { name := "<init>", desc := "([BB)V", sig := { parameters := [(.array .byte), .byte], returnType := none }, accessFlags := 0, code := some k7c6 }
def k7c7 : Code := { maxStack := 1, maxLocals := 1, code := jdk_42_method_152_code, exceptionTable := #[], attributes := #[] }
def k7m7 : Method := { name := "coder", desc := "()B", sig := { parameters := [], returnType := some .byte }, accessFlags := 0, code := some k7c7 }
/-- java/lang/String -/
def k7 : Class := { plain "java/lang/String" (some 0) with
  accessFlags := 49
  interfaces := #[2, 3, 4, 5, 6]
  cf := some (fileOf pool7 10 #[.nestMembers #[1103]] #[{ accessFlags := 1, nameIndex := 5, descriptorIndex := 6, attributes := #[] }, { accessFlags := 1, nameIndex := 5, descriptorIndex := 1010, attributes := #[] }, { accessFlags := 1, nameIndex := 543, descriptorIndex := 573, attributes := #[] }, { accessFlags := 1, nameIndex := 588, descriptorIndex := 713, attributes := #[] }, { accessFlags := 9, nameIndex := 782, descriptorIndex := 783, attributes := #[] }, { accessFlags := 2, nameIndex := 5, descriptorIndex := 29, attributes := #[] }, { accessFlags := 0, nameIndex := 5, descriptorIndex := 211, attributes := #[] }, { accessFlags := 0, nameIndex := 17, descriptorIndex := 337, attributes := #[] }] 49 2 #[1106, 1108, 575, 1110, 1112] #[{ accessFlags := 18, nameIndex := 13, descriptorIndex := 14, attributes := #[] }, { accessFlags := 18, nameIndex := 17, descriptorIndex := 18, attributes := #[] }, { accessFlags := 2, nameIndex := 21, descriptorIndex := 22, attributes := #[] }, { accessFlags := 2, nameIndex := 25, descriptorIndex := 26, attributes := #[] }, { accessFlags := 26, nameIndex := 1116, descriptorIndex := 1117, attributes := #[] }, { accessFlags := 24, nameIndex := 40, descriptorIndex := 26, attributes := #[] }, { accessFlags := 26, nameIndex := 1101, descriptorIndex := 1102, attributes := #[] }, { accessFlags := 26, nameIndex := 1121, descriptorIndex := 1122, attributes := #[] }, { accessFlags := 25, nameIndex := 599, descriptorIndex := 600, attributes := #[] }, { accessFlags := 24, nameIndex := 1125, descriptorIndex := 18, attributes := #[] }, { accessFlags := 24, nameIndex := 1127, descriptorIndex := 18, attributes := #[] }])
  fields := #[{ name := "value", type := (.array .byte), accessFlags := 18, slot := 0, constantValue := 0 }, { name := "coder", type := .byte, accessFlags := 18, slot := 1, constantValue := 0 }, { name := "hash", type := .int, accessFlags := 2, slot := 2, constantValue := 0 }, { name := "hashIsZero", type := .boolean, accessFlags := 2, slot := 3, constantValue := 0 }, { name := "serialVersionUID", type := .long, accessFlags := 26, slot := 0, constantValue := 0 }, { name := "COMPACT_STRINGS", type := .boolean, accessFlags := 24, slot := 1, constantValue := 0 }, { name := "serialPersistentFields", type := (.array (.object "java/io/ObjectStreamField")), accessFlags := 26, slot := 2, constantValue := 0 }, { name := "REPL", type := .char, accessFlags := 26, slot := 3, constantValue := 0 }, { name := "CASE_INSENSITIVE_ORDER", type := (.object "java/util/Comparator"), accessFlags := 25, slot := 4, constantValue := 0 }, { name := "LATIN1", type := .byte, accessFlags := 24, slot := 5, constantValue := 0 }, { name := "UTF16", type := .byte, accessFlags := 24, slot := 6, constantValue := 0 }]
  methods := #[k7m0, k7m1, k7m2, k7m3, k7m4, k7m5, k7m6, k7m7]
  instanceTypes := #[(.array .byte), .byte, .int, .boolean]
  staticTypes := #[.long, .boolean, (.array (.object "java/io/ObjectStreamField")), .char, (.object "java/util/Comparator"), .byte, .byte]
  resolved := Array.replicate 1451 none
  statics := some 0 }

def pool8 : Array CpInfo := pool [(1, .methodref 2 3), (0, .class_ 4), (0, .nameAndType 5 6), (0, u "java/lang/Object"), (0, u "<init>"), (0, u "()V"), (0, .methodref 8 9), (0, .class_ 10), (0, .nameAndType 11 12), (0, u "java/lang/String"), (0, u "compareTo"), (0, u "(Ljava/lang/String;)I"), (0, .fieldref 14 15), (0, .class_ 16), (0, .nameAndType 17 18), (0, u "com/example/cogram/cogram/model/TermPair"), (0, u "first"), (0, u "Ljava/lang/String;"), (0, .fieldref 14 20), (0, .nameAndType 21 18), (0, u "second"), (13, .methodref 8 36), (0, .nameAndType 37 38), (0, u "equals"), (0, u "(Ljava/lang/Object;)Z"), (2, u "(Ljava/lang/String;Ljava/lang/String;)V")] 52

def k8c0 : Code := { maxStack := 2, maxLocals := 4, code := prog_40_method_1_code, exceptionTable := #[], attributes := #[] }
def k8m0 : Method := { name := "<init>", desc := "(Ljava/lang/String;Ljava/lang/String;)V", sig := { parameters := [(.object "java/lang/String"), (.object "java/lang/String")], returnType := none }, accessFlags := 0, code := some k8c0 }
def k8c1 : Code := { maxStack := 2, maxLocals := 3, code := prog_40_method_5_code, exceptionTable := #[], attributes := #[] }
def k8m1 : Method := { name := "equals", desc := "(Ljava/lang/Object;)Z", sig := { parameters := [(.object "java/lang/Object")], returnType := some .boolean }, accessFlags := 1, code := some k8c1 }
/-- com/example/cogram/cogram/model/TermPair -/
def k8 : Class := { plain "com/example/cogram/cogram/model/TermPair" (some 0) with
  accessFlags := 32
  interfaces := #[]
  cf := some (fileOf pool8 14 #[] #[{ accessFlags := 0, nameIndex := 5, descriptorIndex := 41, attributes := #[] }, { accessFlags := 1, nameIndex := 37, descriptorIndex := 38, attributes := #[] }] 32 2 #[] #[{ accessFlags := 18, nameIndex := 17, descriptorIndex := 18, attributes := #[] }, { accessFlags := 18, nameIndex := 21, descriptorIndex := 18, attributes := #[] }])
  fields := #[{ name := "first", type := (.object "java/lang/String"), accessFlags := 18, slot := 0, constantValue := 0 }, { name := "second", type := (.object "java/lang/String"), accessFlags := 18, slot := 1, constantValue := 0 }]
  methods := #[k8m0, k8m1]
  instanceTypes := #[(.object "java/lang/String"), (.object "java/lang/String")]
  staticTypes := #[]
  resolved := Array.replicate 94 none
  statics := none }

def pool9 : Array CpInfo := pool [(4, .class_ 6), (1, u "java/lang/Object"), (0, u "<init>"), (0, u "()V"), (5, .class_ 16), (1, u "java/lang/StringLatin1"), (17, .methodref 14 35), (0, .nameAndType 36 37), (0, u "compareTo"), (0, u "([B[BII)I"), (0, .methodref 39 40), (0, .class_ 41), (0, .nameAndType 42 43), (0, u "java/lang/Math"), (0, u "min"), (0, u "(II)I"), (0, .methodref 45 46), (0, .class_ 47), (0, .nameAndType 48 49), (0, u "jdk/internal/util/ArraysSupport"), (0, u "mismatch"), (0, u "([B[BI)I"), (0, .methodref 14 51), (0, .nameAndType 52 53), (0, u "getChar"), (0, u "([BI)C"), (36, u "canEncode"), (14, u "(C)Z"), (15, u "$assertionsDisabled"), (0, u "Z"), (98, .class_ 223), (1, u "java/lang/StringLatin1$LinesSpliterator"), (57, u "equals"), (0, u "([B[B)Z"), (4, u "([B[B)I"), (92, u "toBytes"), (1, u "(C)[B"), (7, .class_ 391), (0, u "java/lang/StringLatin1$CharsSpliterator")] 3

def k9m0 : Method := { name := "<init>", desc := "()V", sig := { parameters := [], returnType := none }, accessFlags := 0, code := none }
def k9c1 : Code := { maxStack := 2, maxLocals := 1, code := jdk_43_method_3_code, exceptionTable := #[], attributes := #[] }
def k9m1 : Method := { name := "canEncode", desc := "(C)Z", sig := { parameters := [.char], returnType := some .boolean }, accessFlags := 9, code := some k9c1 }
def k9c2 : Code := { maxStack := 3, maxLocals := 3, code := jdk_43_method_13_code, exceptionTable := #[], attributes := #[] }
def k9m2 : Method := { name := "equals", desc := "([B[B)Z", sig := { parameters := [(.array .byte), (.array .byte)], returnType := some .boolean }, accessFlags := 9, code := some k9c2 }
def k9c3 : Code := { maxStack := 4, maxLocals := 4, code := jdk_43_method_14_code, exceptionTable := #[], attributes := #[] }
def k9m3 : Method := { name := "compareTo", desc := "([B[B)I", sig := { parameters := [(.array .byte), (.array .byte)], returnType := some .int }, accessFlags := 9, code := some k9c3 }
def k9c4 : Code := { maxStack := 3, maxLocals := 6, code := jdk_43_method_15_code, exceptionTable := #[], attributes := #[] }
def k9m4 : Method := { name := "compareTo", desc := "([B[BII)I", sig := { parameters := [(.array .byte), (.array .byte), .int, .int], returnType := some .int }, accessFlags := 9, code := some k9c4 }
def k9c5 : Code := { maxStack := 2, maxLocals := 2, code := jdk_43_method_44_code, exceptionTable := #[], attributes := #[] }
def k9m5 : Method := { name := "getChar", desc := "([BI)C", sig := { parameters := [(.array .byte), .int], returnType := some .char }, accessFlags := 9, code := some k9c5 }
def k9c6 : Code := { maxStack := 4, maxLocals := 1, code := jdk_43_method_46_code, exceptionTable := #[], attributes := #[] }
def k9m6 : Method := { name := "toBytes", desc := "(C)[B", sig := { parameters := [.char], returnType := some (.array .byte) }, accessFlags := 9, code := some k9c6 }
/-- java/lang/StringLatin1 -/
def k9 : Class := { plain "java/lang/StringLatin1" (some 0) with
  accessFlags := 48
  interfaces := #[]
  cf := some (fileOf pool9 14 #[.nestMembers #[390, 221]] #[{ accessFlags := 0, nameIndex := 7, descriptorIndex := 8, attributes := #[] }, { accessFlags := 9, nameIndex := 90, descriptorIndex := 105, attributes := #[] }, { accessFlags := 9, nameIndex := 281, descriptorIndex := 282, attributes := #[] }, { accessFlags := 9, nameIndex := 36, descriptorIndex := 287, attributes := #[] }, { accessFlags := 9, nameIndex := 36, descriptorIndex := 37, attributes := #[] }, { accessFlags := 9, nameIndex := 52, descriptorIndex := 53, attributes := #[] }, { accessFlags := 9, nameIndex := 380, descriptorIndex := 382, attributes := #[] }] 48 4 #[] #[{ accessFlags := 4120, nameIndex := 121, descriptorIndex := 122, attributes := #[] }])
  fields := #[{ name := "$assertionsDisabled", type := .boolean, accessFlags := 4120, slot := 0, constantValue := 0 }]
  methods := #[k9m0, k9m1, k9m2, k9m3, k9m4, k9m5, k9m6]
  instanceTypes := #[]
  staticTypes := #[.boolean]
  resolved := Array.replicate 395 none
  statics := none }

def pool10 : Array CpInfo := pool [(1, .class_ 2), (0, u "java/lang/Math"), (1, .class_ 6), (1, u "java/lang/Object"), (0, u "<init>"), (0, u "()V"), (89, .class_ 100), (1, u "java/lang/Math$RandomNumberGeneratorHolder"), (71, u "negativeZeroFloatBits"), (0, u "J"), (2, u "negativeZeroDoubleBits"), (24, u "min"), (43, u "$assertionsDisabled"), (0, u "Z"), (88, u "(II)I"), (2, u "twoToTheDoubleScaleDown"), (0, u "D"), (4, u "twoToTheDoubleScaleUp"), (9, u "E"), (3, u "PI"), (2, u "TAU"), (2, u "DEGREES_TO_RADIANS"), (0, u "RADIANS_TO_DEGREES")] 94

def k10m0 : Method := { name := "<init>", desc := "()V", sig := { parameters := [], returnType := none }, accessFlags := 2, code := none }
def k10c1 : Code := { maxStack := 2, maxLocals := 2, code := jdk_29_method_69_code, exceptionTable := #[], attributes := #[] }
def k10m1 : Method := { name := "min", desc := "(II)I", sig := { parameters := [.int, .int], returnType := some .int }, accessFlags := 9, code := some k10c1 }
/-- java/lang/Math -/
def k10 : Class := { plain "java/lang/Math" (some 0) with
  accessFlags := 49
  interfaces := #[]
  cf := some (fileOf pool10 1 #[.nestMembers #[98]] #[{ accessFlags := 2, nameIndex := 7, descriptorIndex := 8, attributes := #[] }, { accessFlags := 9, nameIndex := 201, descriptorIndex := 335, attributes := #[] }] 49 4 #[] #[{ accessFlags := 25, nameIndex := 354, descriptorIndex := 339, attributes := #[] }, { accessFlags := 25, nameIndex := 358, descriptorIndex := 339, attributes := #[] }, { accessFlags := 25, nameIndex := 361, descriptorIndex := 339, attributes := #[] }, { accessFlags := 26, nameIndex := 364, descriptorIndex := 339, attributes := #[] }, { accessFlags := 26, nameIndex := 365, descriptorIndex := 339, attributes := #[] }, { accessFlags := 26, nameIndex := 172, descriptorIndex := 173, attributes := #[] }, { accessFlags := 26, nameIndex := 176, descriptorIndex := 173, attributes := #[] }, { accessFlags := 8, nameIndex := 344, descriptorIndex := 339, attributes := #[] }, { accessFlags := 8, nameIndex := 338, descriptorIndex := 339, attributes := #[] }, { accessFlags := 4120, nameIndex := 245, descriptorIndex := 246, attributes := #[] }])
  fields := #[{ name := "E", type := .double, accessFlags := 25, slot := 0, constantValue := 0 }, { name := "PI", type := .double, accessFlags := 25, slot := 1, constantValue := 0 }, { name := "TAU", type := .double, accessFlags := 25, slot := 2, constantValue := 0 }, { name := "DEGREES_TO_RADIANS", type := .double, accessFlags := 26, slot := 3, constantValue := 0 }, { name := "RADIANS_TO_DEGREES", type := .double, accessFlags := 26, slot := 4, constantValue := 0 }, { name := "negativeZeroFloatBits", type := .long, accessFlags := 26, slot := 5, constantValue := 0 }, { name := "negativeZeroDoubleBits", type := .long, accessFlags := 26, slot := 6, constantValue := 0 }, { name := "twoToTheDoubleScaleUp", type := .double, accessFlags := 8, slot := 7, constantValue := 0 }, { name := "twoToTheDoubleScaleDown", type := .double, accessFlags := 8, slot := 8, constantValue := 0 }, { name := "$assertionsDisabled", type := .boolean, accessFlags := 4120, slot := 9, constantValue := 0 }]
  methods := #[k10m0, k10m1]
  instanceTypes := #[]
  staticTypes := #[.double, .double, .double, .double, .double, .long, .long, .double, .double, .boolean]
  resolved := Array.replicate 460 none
  statics := none }

def pool11 : Array CpInfo := pool [(9, u "<init>"), (6, .class_ 18), (1, u "java/lang/Object"), (0, u "()V"), (1, .class_ 23), (1, u "jdk/internal/util/ArraysSupport"), (0, u "LOG2_ARRAY_LONG_INDEX_SCALE"), (0, u "I"), (2, u "U"), (0, u "Ljdk/internal/misc/Unsafe;"), (8, u "BIG_ENDIAN"), (0, u "Z"), (8, u "LOG2_BYTE_BIT_SIZE"), (4, u "LOG2_ARRAY_INT_INDEX_SCALE"), (54, u "JLA"), (0, u "Ljdk/internal/access/JavaLangAccess;"), (11, u "LOG2_ARRAY_BOOLEAN_INDEX_SCALE"), (9, u "LOG2_ARRAY_BYTE_INDEX_SCALE"), (5, u "LOG2_ARRAY_CHAR_INDEX_SCALE"), (5, u "LOG2_ARRAY_SHORT_INDEX_SCALE"), (5, u "mismatch"), (12, u "LOG2_ARRAY_FLOAT_INDEX_SCALE"), (24, u "LOG2_ARRAY_DOUBLE_INDEX_SCALE"), (89, u "T_BOOLEAN"), (2, u "T_CHAR"), (1, u "T_FLOAT"), (1, u "T_DOUBLE"), (1, u "T_BYTE"), (1, u "T_SHORT"), (1, u "T_INT"), (1, u "T_LONG"), (1, u "SOFT_MAX_ARRAY_LENGTH"), (41, u "([B[BI)I")] 41

def k11m0 : Method := { name := "<init>", desc := "()V", sig := { parameters := [], returnType := none }, accessFlags := 2, code := none }
def k11c1 : Code := { maxStack := 8, maxLocals := 4, code := jdk_48_method_13_code, exceptionTable := #[], attributes := #[] }
def k11m1 : Method := { name := "mismatch", desc := "([B[BI)I", sig := { parameters := [(.array .byte), (.array .byte), .int], returnType := some .int }, accessFlags := 9, code := some k11c1 }
/-- jdk/internal/util/ArraysSupport -/
def k11 : Class := { plain "jdk/internal/util/ArraysSupport" (some 0) with
  accessFlags := 33
  interfaces := #[]
  cf := some (fileOf pool11 21 #[] #[{ accessFlags := 2, nameIndex := 9, descriptorIndex := 19, attributes := #[] }, { accessFlags := 9, nameIndex := 149, descriptorIndex := 336, attributes := #[] }] 33 16 #[] #[{ accessFlags := 24, nameIndex := 28, descriptorIndex := 29, attributes := #[] }, { accessFlags := 26, nameIndex := 38, descriptorIndex := 39, attributes := #[] }, { accessFlags := 25, nameIndex := 121, descriptorIndex := 25, attributes := #[] }, { accessFlags := 25, nameIndex := 131, descriptorIndex := 25, attributes := #[] }, { accessFlags := 25, nameIndex := 137, descriptorIndex := 25, attributes := #[] }, { accessFlags := 25, nameIndex := 143, descriptorIndex := 25, attributes := #[] }, { accessFlags := 25, nameIndex := 53, descriptorIndex := 25, attributes := #[] }, { accessFlags := 25, nameIndex := 24, descriptorIndex := 25, attributes := #[] }, { accessFlags := 25, nameIndex := 162, descriptorIndex := 25, attributes := #[] }, { accessFlags := 25, nameIndex := 187, descriptorIndex := 25, attributes := #[] }, { accessFlags := 26, nameIndex := 48, descriptorIndex := 25, attributes := #[] }, { accessFlags := 25, nameIndex := 277, descriptorIndex := 25, attributes := #[] }, { accessFlags := 25, nameIndex := 280, descriptorIndex := 25, attributes := #[] }, { accessFlags := 25, nameIndex := 282, descriptorIndex := 25, attributes := #[] }, { accessFlags := 25, nameIndex := 284, descriptorIndex := 25, attributes := #[] }, { accessFlags := 25, nameIndex := 286, descriptorIndex := 25, attributes := #[] }, { accessFlags := 25, nameIndex := 288, descriptorIndex := 25, attributes := #[] }, { accessFlags := 25, nameIndex := 290, descriptorIndex := 25, attributes := #[] }, { accessFlags := 25, nameIndex := 292, descriptorIndex := 25, attributes := #[] }, { accessFlags := 26, nameIndex := 108, descriptorIndex := 109, attributes := #[] }, { accessFlags := 25, nameIndex := 294, descriptorIndex := 25, attributes := #[] }])
  fields := #[{ name := "U", type := (.object "jdk/internal/misc/Unsafe"), accessFlags := 24, slot := 0, constantValue := 0 }, { name := "BIG_ENDIAN", type := .boolean, accessFlags := 26, slot := 1, constantValue := 0 }, { name := "LOG2_ARRAY_BOOLEAN_INDEX_SCALE", type := .int, accessFlags := 25, slot := 2, constantValue := 0 }, { name := "LOG2_ARRAY_BYTE_INDEX_SCALE", type := .int, accessFlags := 25, slot := 3, constantValue := 0 }, { name := "LOG2_ARRAY_CHAR_INDEX_SCALE", type := .int, accessFlags := 25, slot := 4, constantValue := 0 }, { name := "LOG2_ARRAY_SHORT_INDEX_SCALE", type := .int, accessFlags := 25, slot := 5, constantValue := 0 }, { name := "LOG2_ARRAY_INT_INDEX_SCALE", type := .int, accessFlags := 25, slot := 6, constantValue := 0 }, { name := "LOG2_ARRAY_LONG_INDEX_SCALE", type := .int, accessFlags := 25, slot := 7, constantValue := 0 }, { name := "LOG2_ARRAY_FLOAT_INDEX_SCALE", type := .int, accessFlags := 25, slot := 8, constantValue := 0 }, { name := "LOG2_ARRAY_DOUBLE_INDEX_SCALE", type := .int, accessFlags := 25, slot := 9, constantValue := 0 }, { name := "LOG2_BYTE_BIT_SIZE", type := .int, accessFlags := 26, slot := 10, constantValue := 0 }, { name := "T_BOOLEAN", type := .int, accessFlags := 25, slot := 11, constantValue := 0 }, { name := "T_CHAR", type := .int, accessFlags := 25, slot := 12, constantValue := 0 }, { name := "T_FLOAT", type := .int, accessFlags := 25, slot := 13, constantValue := 0 }, { name := "T_DOUBLE", type := .int, accessFlags := 25, slot := 14, constantValue := 0 }, { name := "T_BYTE", type := .int, accessFlags := 25, slot := 15, constantValue := 0 }, { name := "T_SHORT", type := .int, accessFlags := 25, slot := 16, constantValue := 0 }, { name := "T_INT", type := .int, accessFlags := 25, slot := 17, constantValue := 0 }, { name := "T_LONG", type := .int, accessFlags := 25, slot := 18, constantValue := 0 }, { name := "JLA", type := (.object "jdk/internal/access/JavaLangAccess"), accessFlags := 26, slot := 19, constantValue := 0 }, { name := "SOFT_MAX_ARRAY_LENGTH", type := .int, accessFlags := 25, slot := 20, constantValue := 0 }]
  methods := #[k11m0, k11m1]
  instanceTypes := #[]
  staticTypes := #[(.object "jdk/internal/misc/Unsafe"), .boolean, .int, .int, .int, .int, .int, .int, .int, .int, .int, .int, .int, .int, .int, .int, .int, .int, .int, (.object "jdk/internal/access/JavaLangAccess"), .int]
  resolved := Array.replicate 378 none
  statics := none }

def pool12 : Array CpInfo := pool [(6, .class_ 8), (1, u "java/lang/Object"), (0, u "<init>"), (0, u "()V"), (1, .class_ 14), (1, u "java/lang/StringUTF16"), (31, u "$assertionsDisabled"), (0, u "Z"), (13, u "HI_BYTE_SHIFT"), (0, u "I"), (2, u "LO_BYTE_SHIFT"), (49, .methodref 12 116), (0, .nameAndType 117 118), (0, u "compress"), (0, u "([CI[BII)I"), (3, u "([CII)[B"), (138, u "coderFromArrayLen"), (0, u "([BI)B"), (106, .class_ 371), (1, u "java/lang/StringUTF16$LinesSpliterator"), (58, u "MAX_LENGTH"), (196, .class_ 628), (0, u "java/lang/StringUTF16$CodePointsSpliterator"), (0, .class_ 630), (0, u "java/lang/StringUTF16$CharsSpliterator")] 4

def k12m0 : Method := { name := "<init>", desc := "()V", sig := { parameters := [], returnType := none }, accessFlags := 0, code := none }
def k12c1 : Code := { maxStack := 2, maxLocals := 2, code := jdk_52_method_15_code, exceptionTable := #[], attributes := #[] }
def k12m1 : Method := { name := "coderFromArrayLen", desc := "([BI)B", sig := { parameters := [(.array .byte), .int], returnType := some .byte }, accessFlags := 8, code := some k12c1 }
def k12c2 : Code := { maxStack := 5, maxLocals := 6, code := jdk_52_method_16_code, exceptionTable := #[], attributes := #[] }
def k12m2 : Method := { name := "compress", desc := "([CII)[B", sig := { parameters := [(.array .char), .int, .int], returnType := some (.array .byte) }, accessFlags := 9, code := some k12c2 }
def k12c3 : Code := { maxStack := 3, maxLocals := 7, code := jdk_52_method_21_code, exceptionTable := #[], attributes := #[] }
def k12m3 : Method := { name := "compress", desc := "([CI[BII)I", sig := { parameters := [(.array .char), .int, (.array .byte), .int, .int], returnType := some .int }, accessFlags := 9, code := some k12c3 }
/-- java/lang/StringUTF16 -/
def k12 : Class := { plain "java/lang/StringUTF16" (some 0) with
  accessFlags := 48
  interfaces := #[]
  cf := some (fileOf pool12 12 #[.nestMembers #[627, 629, 369]] #[{ accessFlags := 0, nameIndex := 9, descriptorIndex := 10, attributes := #[] }, { accessFlags := 8, nameIndex := 261, descriptorIndex := 262, attributes := #[] }, { accessFlags := 9, nameIndex := 117, descriptorIndex := 122, attributes := #[] }, { accessFlags := 9, nameIndex := 117, descriptorIndex := 118, attributes := #[] }] 48 6 #[] #[{ accessFlags := 26, nameIndex := 61, descriptorIndex := 62, attributes := #[] }, { accessFlags := 26, nameIndex := 65, descriptorIndex := 62, attributes := #[] }, { accessFlags := 24, nameIndex := 430, descriptorIndex := 62, attributes := #[] }, { accessFlags := 4120, nameIndex := 46, descriptorIndex := 47, attributes := #[] }])
  fields := #[{ name := "HI_BYTE_SHIFT", type := .int, accessFlags := 26, slot := 0, constantValue := 0 }, { name := "LO_BYTE_SHIFT", type := .int, accessFlags := 26, slot := 1, constantValue := 0 }, { name := "MAX_LENGTH", type := .int, accessFlags := 24, slot := 2, constantValue := 0 }, { name := "$assertionsDisabled", type := .boolean, accessFlags := 4120, slot := 3, constantValue := 0 }]
  methods := #[k12m0, k12m1, k12m2, k12m3]
  instanceTypes := #[]
  staticTypes := #[.int, .int, .int, .boolean]
  resolved := Array.replicate 635 none
  statics := none }

def pool13 : Array CpInfo := pool [(2, .class_ 4), (1, u "java/lang/Object"), (0, u "<init>"), (0, u "()V"), (17, .class_ 26), (1, u "jdk/internal/util/Preconditions"), (28, .class_ 56), (0, u "jdk/internal/util/Preconditions$4"), (57, .class_ 115), (0, u "jdk/internal/util/Preconditions$1"), (7, u "SIOOBE_FORMATTER"), (0, u "Ljava/util/function/BiFunction;"), (0, .class_ 126), (0, u "jdk/internal/util/Preconditions$2"), (3, u "AIOOBE_FORMATTER"), (0, .class_ 132), (0, u "jdk/internal/util/Preconditions$3"), (3, u "IOOBE_FORMATTER")] 57

def k13m0 : Method := { name := "<init>", desc := "()V", sig := { parameters := [], returnType := none }, accessFlags := 1, code := none }
/-- jdk/internal/util/Preconditions -/
def k13 : Class := { plain "jdk/internal/util/Preconditions" (some 0) with
  accessFlags := 33
  interfaces := #[]
  cf := some (fileOf pool13 24 #[.nestMembers #[55, 131, 125, 114]] #[{ accessFlags := 1, nameIndex := 5, descriptorIndex := 6, attributes := #[] }] 33 2 #[] #[{ accessFlags := 25, nameIndex := 123, descriptorIndex := 124, attributes := #[] }, { accessFlags := 25, nameIndex := 130, descriptorIndex := 124, attributes := #[] }, { accessFlags := 25, nameIndex := 136, descriptorIndex := 124, attributes := #[] }])
  fields := #[{ name := "SIOOBE_FORMATTER", type := (.object "java/util/function/BiFunction"), accessFlags := 25, slot := 0, constantValue := 0 }, { name := "AIOOBE_FORMATTER", type := (.object "java/util/function/BiFunction"), accessFlags := 25, slot := 1, constantValue := 0 }, { name := "IOOBE_FORMATTER", type := (.object "java/util/function/BiFunction"), accessFlags := 25, slot := 2, constantValue := 0 }]
  methods := #[k13m0]
  instanceTypes := #[]
  staticTypes := #[(.object "java/util/function/BiFunction"), (.object "java/util/function/BiFunction"), (.object "java/util/function/BiFunction")]
  resolved := Array.replicate 194 none
  statics := some 1 }

def pool14 : Array CpInfo := pool [(1, u "java/lang/Cloneable"), (0, .class_ 1), (0, u "java/lang/Object"), (0, .class_ 3)] 3

/-- java/lang/Cloneable -/
def k14 : Class := { plain "java/lang/Cloneable" (some 0) with
  accessFlags := 1537
  interfaces := #[]
  cf := some (fileOf pool14 2 #[] #[] 1537 4 #[] #[])
  fields := #[]
  methods := #[]
  instanceTypes := #[]
  staticTypes := #[]
  resolved := Array.replicate 8 none
  statics := none }

/-- the primitive byte -/
def k15 : Class := { plain "byte" none with kind := .primitive 'B', accessFlags := 0x411 }
/-- [B -/
def k16 : Class := { plain "[B" (some 0) with kind := .array 15 .byte, interfaces := #[14, 2], accessFlags := 1041 }

/-- the primitive char -/
def k17 : Class := { plain "char" none with kind := .primitive 'C', accessFlags := 0x411 }
/-- [C -/
def k18 : Class := { plain "[C" (some 0) with kind := .array 17 .char, interfaces := #[14, 2], accessFlags := 1041 }

/-- the primitive int -/
def k19 : Class := { plain "int" none with kind := .primitive 'I', accessFlags := 0x411 }
/-- [I -/
def k20 : Class := { plain "[I" (some 0) with kind := .array 19 .int, interfaces := #[14, 2], accessFlags := 1041 }

def heap : Heap := #[{ cls := 7, slots := #[.long 0, .int 1, .null, .int 0, .null, .int 0, .int 0], vm := .statics 7 },
  { cls := 13, slots := #[.null, .null, .null], vm := .statics 13 }]
def classes : Array Class := #[k0, k1, k2, k3, k4, k5, k6, k7, k8, k9, k10, k11, k12, k13, k14, k15, k16, k17, k18, k19, k20]
def interned : List (Array UInt16 × Addr) := []
def slotsUsed : Nat := 10
def theMethod : MethodId := ⟨1, 3⟩
def args0 : Array Value := #[.int 70000, .int 7, .int 131080, .int 3, .int 32]
def aboutOver (below : List Frame) : State where
  vm := { classes := classes, interned := interned.toArray }
  heap := heap
  slotsUsed := slotsUsed
  threads := #[{ frames := .invoking theMethod args0 :: below }]
def below0 : List Frame := [.native { method := ⟨0, 0⟩, args := #[] }]
def about1 : State := aboutOver below0
def p0 : Program := .bare "" "" ""
def e0 : Env := launch0.env 0 0 0
theorem w_frames : about1.frames = Frame.invoking theMethod args0 :: below0 := rfl
set_option maxRecDepth 65536 in
theorem w_args : argsFit about1.vm theMethod args0 = true := by decide +kernel
set_option maxRecDepth 65536 in
theorem w_heap : heapFits about1 = true := by decide +kernel
set_option maxRecDepth 65536 in
theorem w_runnable : about1.curStatus? = some .runnable := by decide +kernel
set_option maxRecDepth 65536 in
theorem w_alone : about1.alone = true := by decide +kernel
set_option maxRecDepth 65536 in
theorem w_named : about1.methodNamed? x = some theMethod := by decide +kernel
set_option maxRecDepth 65536 in
theorem w_hears : about1.hears theMethod below0 = true := by decide +kernel
set_option maxRecDepth 65536 in
theorem w_ripe : about1.ripe theMethod args0 below0 = true := by decide +kernel
theorem w_running : about1.status = .running := rfl
set_option maxRecDepth 65536 in
theorem w_room : about1.hasRoom e0.platform room_1 = true :=
  launch0.hasRoom_least _ room_1 (by decide +kernel) (by decide +kernel) (by decide +kernel) (by decide +kernel) (by decide +kernel) (by decide +kernel)
theorem allAtoms_all (ts : List Jvm.Cond) (a : Array Jvm.Value) (st : Jvm.State) : (allAtoms ts).before a st = ts.all (fun c => c.before a st) := by
  induction ts with
  | nil => rfl
  | cons c t ih =>
    show (Jvm.Cond.and c (allAtoms t)).before a st = _
    rw [Jvm.Cond.before_and, ih, List.all_cons]
def words1 : List Jvm.Cond := Jvm.Cond.code x code maxLocals ret :: tables_1
/-- a 'code' word, met by the world's own term for the bytes: nothing is compared byte by byte -/
theorem code_word {y : MethodName} {bytes : ByteArray} {mx : Nat} {rt : Option FieldType} {a : Array Value} {s : State} {m : MethodId} {meth : Method} {c : Code} (h1 : s.methodNamed? y = some m) (h2 : s.vm.method? m = some meth) (h3 : meth.code = some c) (h4 : c.code = bytes)
    (h5 : (c.maxLocals == mx && c.exceptionTable.isEmpty && decide (c.maxStack ≤ mostOperands) && decide (meth.sig.returnType = rt) && !meth.locks && decide (parseMethodDescriptor y.desc = some meth.sig)) = true) : (Jvm.Cond.code y bytes mx rt).before a s = true := by
  simp only [Bool.and_eq_true, beq_iff_eq, Bool.not_eq_true', decide_eq_true_eq] at h5
  obtain ⟨⟨⟨⟨⟨g1, g2⟩, g3⟩, g4⟩, g5⟩, g6⟩ := h5
  simp [Cond.before, Cond.holds, Cond.value, h1, h2, h3, h4, g1, g2, g3, g4, g5, g6]
def isCode : Jvm.Cond → Bool
  | .code _ _ _ _ => true
  | _ => false
theorem all_split {L : List Jvm.Cond} {P : Jvm.Cond → Bool} (h1 : L.all (fun c => isCode c || P c) = true) (h2 : ∀ c ∈ L.filter isCode, P c = true) : L.all P = true := by
  refine List.all_eq_true.mpr fun c hc => ?_
  have h := List.all_eq_true.mp h1 c hc
  rcases Bool.eq_false_or_eq_true (isCode c) with hi | hi
  · exact h2 c (List.mem_filter.mpr ⟨hc, hi⟩)
  · simpa [hi] using h
set_option maxRecDepth 65536 in
theorem w_c0 : (Jvm.Cond.code x code maxLocals ret).before args0 about1 = true := code_word (m := ⟨1, 3⟩) (meth := k1m3) (c := k1c3) (by decide +kernel) rfl rfl rfl (by decide +kernel)
set_option maxRecDepth 65536 in
theorem w_c1 : (Jvm.Cond.code ({ cls := "com/example/cogram/cogram/model/TermPairEqualsPinLaw", name := "mk", desc := "(I)Ljava/lang/String;" } : Jvm.MethodName) method_2_code (4 : Nat) (Option.some (Jvm.ClassFile.FieldType.object "java/lang/String"))).before args0 about1 = true := code_word (m := ⟨1, 1⟩) (meth := k1m1) (c := k1c1) (by decide +kernel) rfl rfl rfl (by decide +kernel)
set_option maxRecDepth 65536 in
theorem w_c2 : (Jvm.Cond.code ({ cls := "java/lang/String", name := "<init>", desc := "([C)V" } : Jvm.MethodName) jdk_42_method_3_code (2 : Nat) (Option.none : Option Jvm.ClassFile.FieldType)).before args0 about1 = true := code_word (m := ⟨7, 1⟩) (meth := k7m1) (c := k7c1) (by decide +kernel) rfl rfl rfl (by decide +kernel)
set_option maxRecDepth 65536 in
theorem w_c3 : (Jvm.Cond.code ({ cls := "java/lang/String", name := "<init>", desc := "([CIILjava/lang/Void;)V" } : Jvm.MethodName) jdk_42_method_149_code (6 : Nat) (Option.none : Option Jvm.ClassFile.FieldType)).before args0 about1 = true := code_word (m := ⟨7, 5⟩) (meth := k7m5) (c := k7c5) (by decide +kernel) rfl rfl rfl (by decide +kernel)
set_option maxRecDepth 65536 in
theorem w_c4 : (Jvm.Cond.code ({ cls := "java/lang/Object", name := "<init>", desc := "()V" } : Jvm.MethodName) object_method_1_code (1 : Nat) (Option.none : Option Jvm.ClassFile.FieldType)).before args0 about1 = true := code_word (m := ⟨0, 0⟩) (meth := k0m0) (c := k0c0) (by decide +kernel) rfl rfl rfl (by decide +kernel)
set_option maxRecDepth 65536 in
theorem w_c5 : (Jvm.Cond.code ({ cls := "com/example/cogram/cogram/model/TermPairEqualsPinLaw", name := "pick", desc := "(ILjava/lang/String;Ljava/lang/String;Ljava/lang/String;)Ljava/lang/String;" } : Jvm.MethodName) method_3_code (4 : Nat) (Option.some (Jvm.ClassFile.FieldType.object "java/lang/String"))).before args0 about1 = true := code_word (m := ⟨1, 2⟩) (meth := k1m2) (c := k1c2) (by decide +kernel) rfl rfl rfl (by decide +kernel)
set_option maxRecDepth 65536 in
theorem w_c6 : (Jvm.Cond.code ({ cls := "com/example/cogram/cogram/model/TermPair", name := "<init>", desc := "(Ljava/lang/String;Ljava/lang/String;)V" } : Jvm.MethodName) prog_40_method_1_code (4 : Nat) (Option.none : Option Jvm.ClassFile.FieldType)).before args0 about1 = true := code_word (m := ⟨8, 0⟩) (meth := k8m0) (c := k8c0) (by decide +kernel) rfl rfl rfl (by decide +kernel)
set_option maxRecDepth 65536 in
theorem w_c7 : (Jvm.Cond.code ({ cls := "java/lang/String", name := "compareTo", desc := "(Ljava/lang/String;)I" } : Jvm.MethodName) jdk_42_method_71_code (5 : Nat) (Option.some Jvm.ClassFile.FieldType.int)).before args0 about1 = true := code_word (m := ⟨7, 3⟩) (meth := k7m3) (c := k7c3) (by decide +kernel) rfl rfl rfl (by decide +kernel)
set_option maxRecDepth 65536 in
theorem w_c8 : (Jvm.Cond.code ({ cls := "java/lang/String", name := "coder", desc := "()B" } : Jvm.MethodName) jdk_42_method_152_code (1 : Nat) (Option.some Jvm.ClassFile.FieldType.byte)).before args0 about1 = true := code_word (m := ⟨7, 7⟩) (meth := k7m7) (c := k7c7) (by decide +kernel) rfl rfl rfl (by decide +kernel)
set_option maxRecDepth 65536 in
theorem w_c9 : (Jvm.Cond.code ({ cls := "java/lang/StringLatin1", name := "compareTo", desc := "([B[B)I" } : Jvm.MethodName) jdk_43_method_14_code (4 : Nat) (Option.some Jvm.ClassFile.FieldType.int)).before args0 about1 = true := code_word (m := ⟨9, 3⟩) (meth := k9m3) (c := k9c3) (by decide +kernel) rfl rfl rfl (by decide +kernel)
set_option maxRecDepth 65536 in
theorem w_c10 : (Jvm.Cond.code ({ cls := "java/lang/StringLatin1", name := "compareTo", desc := "([B[BII)I" } : Jvm.MethodName) jdk_43_method_15_code (6 : Nat) (Option.some Jvm.ClassFile.FieldType.int)).before args0 about1 = true := code_word (m := ⟨9, 4⟩) (meth := k9m4) (c := k9c4) (by decide +kernel) rfl rfl rfl (by decide +kernel)
set_option maxRecDepth 65536 in
theorem w_c11 : (Jvm.Cond.code ({ cls := "java/lang/Math", name := "min", desc := "(II)I" } : Jvm.MethodName) jdk_29_method_69_code (2 : Nat) (Option.some Jvm.ClassFile.FieldType.int)).before args0 about1 = true := code_word (m := ⟨10, 1⟩) (meth := k10m1) (c := k10c1) (by decide +kernel) rfl rfl rfl (by decide +kernel)
set_option maxRecDepth 65536 in
theorem w_c12 : (Jvm.Cond.code ({ cls := "jdk/internal/util/ArraysSupport", name := "mismatch", desc := "([B[BI)I" } : Jvm.MethodName) jdk_48_method_13_code (4 : Nat) (Option.some Jvm.ClassFile.FieldType.int)).before args0 about1 = true := code_word (m := ⟨11, 1⟩) (meth := k11m1) (c := k11c1) (by decide +kernel) rfl rfl rfl (by decide +kernel)
set_option maxRecDepth 65536 in
theorem w_c13 : (Jvm.Cond.code ({ cls := "com/example/cogram/cogram/model/TermPair", name := "equals", desc := "(Ljava/lang/Object;)Z" } : Jvm.MethodName) prog_40_method_5_code (3 : Nat) (Option.some Jvm.ClassFile.FieldType.boolean)).before args0 about1 = true := code_word (m := ⟨8, 1⟩) (meth := k8m1) (c := k8c1) (by decide +kernel) rfl rfl rfl (by decide +kernel)
set_option maxRecDepth 65536 in
theorem w_c14 : (Jvm.Cond.code ({ cls := "java/lang/String", name := "equals", desc := "(Ljava/lang/Object;)Z" } : Jvm.MethodName) jdk_42_method_66_code (3 : Nat) (Option.some Jvm.ClassFile.FieldType.boolean)).before args0 about1 = true := code_word (m := ⟨7, 2⟩) (meth := k7m2) (c := k7c2) (by decide +kernel) rfl rfl rfl (by decide +kernel)
set_option maxRecDepth 65536 in
theorem w_c15 : (Jvm.Cond.code ({ cls := "java/lang/StringLatin1", name := "equals", desc := "([B[B)Z" } : Jvm.MethodName) jdk_43_method_13_code (3 : Nat) (Option.some Jvm.ClassFile.FieldType.boolean)).before args0 about1 = true := code_word (m := ⟨9, 2⟩) (meth := k9m2) (c := k9c2) (by decide +kernel) rfl rfl rfl (by decide +kernel)
set_option maxRecDepth 65536 in
theorem w_c16 : (Jvm.Cond.code ({ cls := "java/lang/StringUTF16", name := "compress", desc := "([CII)[B" } : Jvm.MethodName) jdk_52_method_16_code (6 : Nat) (Option.some (Jvm.ClassFile.FieldType.array Jvm.ClassFile.FieldType.byte))).before args0 about1 = true := code_word (m := ⟨12, 2⟩) (meth := k12m2) (c := k12c2) (by decide +kernel) rfl rfl rfl (by decide +kernel)
set_option maxRecDepth 65536 in
theorem w_c17 : (Jvm.Cond.code ({ cls := "java/lang/StringUTF16", name := "compress", desc := "([CI[BII)I" } : Jvm.MethodName) jdk_52_method_21_code (7 : Nat) (Option.some Jvm.ClassFile.FieldType.int)).before args0 about1 = true := code_word (m := ⟨12, 3⟩) (meth := k12m3) (c := k12c3) (by decide +kernel) rfl rfl rfl (by decide +kernel)
set_option maxRecDepth 65536 in
theorem w_c18 : (Jvm.Cond.code ({ cls := "java/lang/StringUTF16", name := "coderFromArrayLen", desc := "([BI)B" } : Jvm.MethodName) jdk_52_method_15_code (2 : Nat) (Option.some Jvm.ClassFile.FieldType.byte)).before args0 about1 = true := code_word (m := ⟨12, 1⟩) (meth := k12m1) (c := k12c1) (by decide +kernel) rfl rfl rfl (by decide +kernel)
set_option maxRecDepth 65536 in
theorem w_c19 : (Jvm.Cond.code ({ cls := "java/lang/String", name := "valueOf", desc := "(C)Ljava/lang/String;" } : Jvm.MethodName) jdk_42_method_139_code (1 : Nat) (Option.some (Jvm.ClassFile.FieldType.object "java/lang/String"))).before args0 about1 = true := code_word (m := ⟨7, 4⟩) (meth := k7m4) (c := k7c4) (by decide +kernel) rfl rfl rfl (by decide +kernel)
set_option maxRecDepth 65536 in
theorem w_c20 : (Jvm.Cond.code ({ cls := "java/lang/StringLatin1", name := "canEncode", desc := "(C)Z" } : Jvm.MethodName) jdk_43_method_3_code (1 : Nat) (Option.some Jvm.ClassFile.FieldType.boolean)).before args0 about1 = true := code_word (m := ⟨9, 1⟩) (meth := k9m1) (c := k9c1) (by decide +kernel) rfl rfl rfl (by decide +kernel)
set_option maxRecDepth 65536 in
theorem w_c21 : (Jvm.Cond.code ({ cls := "java/lang/StringLatin1", name := "toBytes", desc := "(C)[B" } : Jvm.MethodName) jdk_43_method_46_code (1 : Nat) (Option.some (Jvm.ClassFile.FieldType.array Jvm.ClassFile.FieldType.byte))).before args0 about1 = true := code_word (m := ⟨9, 6⟩) (meth := k9m6) (c := k9c6) (by decide +kernel) rfl rfl rfl (by decide +kernel)
set_option maxRecDepth 65536 in
theorem w_c22 : (Jvm.Cond.code ({ cls := "java/lang/String", name := "<init>", desc := "([BB)V" } : Jvm.MethodName) jdk_42_method_151_code (3 : Nat) (Option.none : Option Jvm.ClassFile.FieldType)).before args0 about1 = true := code_word (m := ⟨7, 6⟩) (meth := k7m6) (c := k7c6) (by decide +kernel) rfl rfl rfl (by decide +kernel)
set_option maxRecDepth 65536 in
theorem w_c23 : (Jvm.Cond.code ({ cls := "java/lang/StringLatin1", name := "getChar", desc := "([BI)C" } : Jvm.MethodName) jdk_43_method_44_code (2 : Nat) (Option.some Jvm.ClassFile.FieldType.char)).before args0 about1 = true := code_word (m := ⟨9, 5⟩) (meth := k9m5) (c := k9c5) (by decide +kernel) rfl rfl rfl (by decide +kernel)
def codes1 : List Jvm.Cond := [Jvm.Cond.code x code maxLocals ret, Jvm.Cond.code ({ cls := "com/example/cogram/cogram/model/TermPairEqualsPinLaw", name := "mk", desc := "(I)Ljava/lang/String;" } : Jvm.MethodName) method_2_code (4 : Nat) (Option.some (Jvm.ClassFile.FieldType.object "java/lang/String")), Jvm.Cond.code ({ cls := "java/lang/String", name := "<init>", desc := "([C)V" } : Jvm.MethodName) jdk_42_method_3_code (2 : Nat) (Option.none : Option Jvm.ClassFile.FieldType), Jvm.Cond.code ({ cls := "java/lang/String", name := "<init>", desc := "([CIILjava/lang/Void;)V" } : Jvm.MethodName) jdk_42_method_149_code (6 : Nat) (Option.none : Option Jvm.ClassFile.FieldType), Jvm.Cond.code ({ cls := "java/lang/Object", name := "<init>", desc := "()V" } : Jvm.MethodName) object_method_1_code (1 : Nat) (Option.none : Option Jvm.ClassFile.FieldType), Jvm.Cond.code ({ cls := "com/example/cogram/cogram/model/TermPairEqualsPinLaw", name := "pick", desc := "(ILjava/lang/String;Ljava/lang/String;Ljava/lang/String;)Ljava/lang/String;" } : Jvm.MethodName) method_3_code (4 : Nat) (Option.some (Jvm.ClassFile.FieldType.object "java/lang/String")), Jvm.Cond.code ({ cls := "com/example/cogram/cogram/model/TermPair", name := "<init>", desc := "(Ljava/lang/String;Ljava/lang/String;)V" } : Jvm.MethodName) prog_40_method_1_code (4 : Nat) (Option.none : Option Jvm.ClassFile.FieldType), Jvm.Cond.code ({ cls := "java/lang/String", name := "compareTo", desc := "(Ljava/lang/String;)I" } : Jvm.MethodName) jdk_42_method_71_code (5 : Nat) (Option.some Jvm.ClassFile.FieldType.int), Jvm.Cond.code ({ cls := "java/lang/String", name := "coder", desc := "()B" } : Jvm.MethodName) jdk_42_method_152_code (1 : Nat) (Option.some Jvm.ClassFile.FieldType.byte), Jvm.Cond.code ({ cls := "java/lang/StringLatin1", name := "compareTo", desc := "([B[B)I" } : Jvm.MethodName) jdk_43_method_14_code (4 : Nat) (Option.some Jvm.ClassFile.FieldType.int), Jvm.Cond.code ({ cls := "java/lang/StringLatin1", name := "compareTo", desc := "([B[BII)I" } : Jvm.MethodName) jdk_43_method_15_code (6 : Nat) (Option.some Jvm.ClassFile.FieldType.int), Jvm.Cond.code ({ cls := "java/lang/Math", name := "min", desc := "(II)I" } : Jvm.MethodName) jdk_29_method_69_code (2 : Nat) (Option.some Jvm.ClassFile.FieldType.int), Jvm.Cond.code ({ cls := "jdk/internal/util/ArraysSupport", name := "mismatch", desc := "([B[BI)I" } : Jvm.MethodName) jdk_48_method_13_code (4 : Nat) (Option.some Jvm.ClassFile.FieldType.int), Jvm.Cond.code ({ cls := "com/example/cogram/cogram/model/TermPair", name := "equals", desc := "(Ljava/lang/Object;)Z" } : Jvm.MethodName) prog_40_method_5_code (3 : Nat) (Option.some Jvm.ClassFile.FieldType.boolean), Jvm.Cond.code ({ cls := "java/lang/String", name := "equals", desc := "(Ljava/lang/Object;)Z" } : Jvm.MethodName) jdk_42_method_66_code (3 : Nat) (Option.some Jvm.ClassFile.FieldType.boolean), Jvm.Cond.code ({ cls := "java/lang/StringLatin1", name := "equals", desc := "([B[B)Z" } : Jvm.MethodName) jdk_43_method_13_code (3 : Nat) (Option.some Jvm.ClassFile.FieldType.boolean), Jvm.Cond.code ({ cls := "java/lang/StringUTF16", name := "compress", desc := "([CII)[B" } : Jvm.MethodName) jdk_52_method_16_code (6 : Nat) (Option.some (Jvm.ClassFile.FieldType.array Jvm.ClassFile.FieldType.byte)), Jvm.Cond.code ({ cls := "java/lang/StringUTF16", name := "compress", desc := "([CI[BII)I" } : Jvm.MethodName) jdk_52_method_21_code (7 : Nat) (Option.some Jvm.ClassFile.FieldType.int), Jvm.Cond.code ({ cls := "java/lang/StringUTF16", name := "coderFromArrayLen", desc := "([BI)B" } : Jvm.MethodName) jdk_52_method_15_code (2 : Nat) (Option.some Jvm.ClassFile.FieldType.byte), Jvm.Cond.code ({ cls := "java/lang/String", name := "valueOf", desc := "(C)Ljava/lang/String;" } : Jvm.MethodName) jdk_42_method_139_code (1 : Nat) (Option.some (Jvm.ClassFile.FieldType.object "java/lang/String")), Jvm.Cond.code ({ cls := "java/lang/StringLatin1", name := "canEncode", desc := "(C)Z" } : Jvm.MethodName) jdk_43_method_3_code (1 : Nat) (Option.some Jvm.ClassFile.FieldType.boolean), Jvm.Cond.code ({ cls := "java/lang/StringLatin1", name := "toBytes", desc := "(C)[B" } : Jvm.MethodName) jdk_43_method_46_code (1 : Nat) (Option.some (Jvm.ClassFile.FieldType.array Jvm.ClassFile.FieldType.byte)), Jvm.Cond.code ({ cls := "java/lang/String", name := "<init>", desc := "([BB)V" } : Jvm.MethodName) jdk_42_method_151_code (3 : Nat) (Option.none : Option Jvm.ClassFile.FieldType), Jvm.Cond.code ({ cls := "java/lang/StringLatin1", name := "getChar", desc := "([BI)C" } : Jvm.MethodName) jdk_43_method_44_code (2 : Nat) (Option.some Jvm.ClassFile.FieldType.char)]
set_option maxRecDepth 65536 in
theorem codes_eq : words1.filter isCode = codes1 := rfl
theorem w_codes : ∀ c ∈ words1.filter isCode, c.before args0 about1 = true := by
  rw [codes_eq]
  intro c hc
  simp only [codes1, List.mem_cons, List.not_mem_nil, or_false] at hc
  rcases hc with rfl | rfl | rfl | rfl | rfl | rfl | rfl | rfl | rfl | rfl | rfl | rfl | rfl | rfl | rfl | rfl | rfl | rfl | rfl | rfl | rfl | rfl | rfl | rfl
  · exact w_c0
  · exact w_c1
  · exact w_c2
  · exact w_c3
  · exact w_c4
  · exact w_c5
  · exact w_c6
  · exact w_c7
  · exact w_c8
  · exact w_c9
  · exact w_c10
  · exact w_c11
  · exact w_c12
  · exact w_c13
  · exact w_c14
  · exact w_c15
  · exact w_c16
  · exact w_c17
  · exact w_c18
  · exact w_c19
  · exact w_c20
  · exact w_c21
  · exact w_c22
  · exact w_c23
set_option maxRecDepth 65536 in
theorem w_t1 : (words1.take 24).all (fun c => isCode c || c.before args0 about1) = true := by decide +kernel
set_option maxRecDepth 65536 in
theorem w_t2 : ((words1.drop 24).take 24).all (fun c => isCode c || c.before args0 about1) = true := by decide +kernel
set_option maxRecDepth 65536 in
theorem w_t3 : (((words1.drop 24).drop 24).take 24).all (fun c => isCode c || c.before args0 about1) = true := by decide +kernel
set_option maxRecDepth 65536 in
theorem w_t4 : ((((words1.drop 24).drop 24).drop 24).take 24).all (fun c => isCode c || c.before args0 about1) = true := by decide +kernel
set_option maxRecDepth 65536 in
theorem w_t5 : ((((words1.drop 24).drop 24).drop 24).drop 24).all (fun c => isCode c || c.before args0 about1) = true := by decide +kernel
theorem w_tables : (allAtoms (Jvm.Cond.code x code maxLocals ret :: tables_1)).before args0 about1 = true := by
  rw [allAtoms_all]
  show words1.all (fun c => c.before args0 about1) = true
  refine all_split ?_ w_codes
  rw [← List.take_append_drop 24 words1, List.all_append, w_t1, ← List.take_append_drop 24 (words1.drop 24), List.all_append, w_t2, ← List.take_append_drop 24 ((words1.drop 24).drop 24), List.all_append, w_t3, ← List.take_append_drop 24 (((words1.drop 24).drop 24).drop 24), List.all_append, w_t4, w_t5]
  rfl
set_option maxRecDepth 65536 in
theorem w_rest : rest_1_c.before args0 about1 = true := by decide +kernel
set_option maxRecDepth 65536 in
theorem w_case : (Jvm.Cond.and given_1 narrow_1).before args0 about1 = true := by decide +kernel
set_option maxRecDepth 65536 in
theorem w_consts : constsHeld consts_1 about1 := Jvm.Lit.constsHeldB_iff.mp (by decide +kernel)
theorem w_applies : (headSpec (Jvm.Cond.code x code maxLocals ret :: tables_1) room_1).applies x e0.platform about1 = true :=
  (Spec.applies_iff w_frames).mpr ⟨w_running, w_runnable, w_alone, w_named, w_hears, w_ripe, w_room, w_tables⟩
theorem atStart : AtStart classFile x code maxLocals ret World_1 tables_1 room_1 Calls_1 rest_1 Pre_1 launch0 p0 e0 about1 theMethod args0 below0 :=
  ⟨lists_1, trivial, launch0.admits_env _ _ _, launch0.least_env, fairChoices_fair.cas, fairChoices_fair.clock, w_frames, w_args, w_heap, w_applies, ⟨w_consts, trivial⟩, w_rest, w_case⟩
end start1
theorem witness_1 : WitnessClaimed_1 := ⟨start1.p0, start1.e0, start1.about1, start1.theMethod, start1.args0, start1.below0, start1.atStart⟩
end Jvm.Pilot.@@N@@
