import JvmDerived
import JvmDerived.Pilot.@@N@@Statement
import JvmDerived.Pilot.@@N@@Code
set_option linter.unusedVariables false
set_option linter.unusedSimpArgs false
namespace Jvm.RoadKit
open Sem ClassFile Op Lib Jvm.Stand Jvm.Free Jvm.LawKit
section New
variable {p : Program} {l : Launch} {e : Env} {R : Room} {s : State} {m : MethodId} {args : Array Value} {below : List Frame} {meth : Method} {c : Code} {T : State} {locs : List Loc} {cells slots : Nat}
theorem retI (X : Stand p l e R s m args below meth c T locs cells slots) (hx : p.tables.exec = Jvm.exec) {pc : Nat} {Ls : Array Slot} {z : Int32} {rest : List Value} (hret : meth.sig.returnType = some .int) (hd : decode c.code pc = .ok (.ireturn, 1)) {fs : List Frame}
    (hl : ∀ (f : JFrame) (acts : List Action), f.method = m → f.locked = none → f.entered = [] → (doReturn e (T.setTop f) acts (some (.int z))).1 = T.setFrames fs) : Steps p.tables e below (T.setTop (mkF m pc Ls (.int z :: rest))) (T.setFrames fs) := by
  have hm' : T.vm.method? m = some meth := X.method'
  have hn : narrow .int (.int z) = .int z := rfl
  show Steps p.tables e below (T.setTop { method := m, pc := pc, locals := Ls, stack := _ :: rest, locked := none }) _
  jvm_step X.here [X.here.top, hx, hd, hm', hret, hn]
  first | (intro acts; rw [hl _ acts rfl rfl rfl]) | rw [hl _ _ rfl rfl rfl]
  exact Steps.refl _
end New
end Jvm.RoadKit
namespace Jvm.Pilot.@@N@@
open Jvm Jvm.ClassFile Sem Op Lib Jvm.Free Jvm.Stand Jvm.LawKit Jvm.RoadKit Bundle Jvm.Pilot.@@N@@.Jvm.D
section Own
variable {p : Program} {l : Launch} {e : Env} {R : Room} {s : State} {m : MethodId} {args : Array Value} {below : List Frame} {meth : Method} {c : Code} {T : State} {locs : List Loc} {cells slots : Nat}
theorem own_retL (X : Stand p l e R s m args below meth c T locs cells slots) (hx : p.tables.exec = Jvm.exec) {pc : Nat} {Ls : Array Slot} {z : Int64} {rest : List Value} (hret : meth.sig.returnType = some .long) (hd : decode c.code pc = .ok (.lreturn, 1)) {fs : List Frame}
    (hl : ∀ (f : JFrame) (acts : List Action), f.method = m → f.locked = none → f.entered = [] → (doReturn e (T.setTop f) acts (some (.long z))).1 = T.setFrames fs) : Steps p.tables e below (T.setTop (mkF m pc Ls (.long z :: rest))) (T.setFrames fs) := by
  have hm' : T.vm.method? m = some meth := X.method'
  have hn : narrow .long (.long z) = .long z := rfl
  show Steps p.tables e below (T.setTop { method := m, pc := pc, locals := Ls, stack := _ :: rest, locked := none }) _
  jvm_step X.here [X.here.top, hx, hd, hm', hret, hn]
  first | (intro acts; rw [hl _ acts rfl rfl rfl]) | rw [hl _ _ rfl rfl rfl]
  exact Steps.refl _
theorem own_retA (X : Stand p l e R s m args below meth c T locs cells slots) (hx : p.tables.exec = Jvm.exec) {pc : Nat} {Ls : Array Slot} {v : Value} {t : FieldType} {rest : List Value} (hret : meth.sig.returnType = some t) (ht : t.isReference = true) (hv : v.isRef = true) (hd : decode c.code pc = .ok (.areturn, 1)) {fs : List Frame}
    (hl : ∀ (f : JFrame) (acts : List Action), f.method = m → f.locked = none → f.entered = [] → (doReturn e (T.setTop f) acts (some v)).1 = T.setFrames fs) : Steps p.tables e below (T.setTop (mkF m pc Ls (v :: rest))) (T.setFrames fs) := by
  have hm' : T.vm.method? m = some meth := X.method'
  show Steps p.tables e below (T.setTop { method := m, pc := pc, locals := Ls, stack := _ :: rest, locked := none }) _
  jvm_step X.here [X.here.top, hx, hd, hm', hret, hv, ht]
  first | (intro acts; rw [hl _ acts rfl rfl rfl]) | rw [hl _ _ rfl rfl rfl]
  exact Steps.refl _
def OGo (p : Program) (e : Env) (below : List Frame) (P : State → Outcome → Prop) (S : State) : Prop := ∃ s₂ o, Steps p.tables e below S s₂ ∧ s₂.status = .running ∧ Ended s₂ below o ∧ P s₂ o
theorem OGo.to {P : State → Outcome → Prop} {S S' : State} (h : ∀ t, Steps p.tables e below S' t → Steps p.tables e below S t) (g : OGo p e below P S') : OGo p e below P S := by
  obtain ⟨s₂, o, h1, r⟩ := g
  exact ⟨s₂, o, h _ h1, r⟩
theorem OGo.ret {Q : Option Value → Heap → List Loc → Prop} (X : Stand p l e R s m args below meth c T locs cells slots) {g : JFrame} (v : Option Value) (hv : meth.sig.returnType = none → v = none) (hlocks : meth.locks = false)
    (st : ∀ fs : List Frame, (∀ (f : JFrame) (acts : List Action), f.method = m → f.locked = none → f.entered = [] → (doReturn e (T.setTop f) acts v).1 = T.setFrames fs) → Steps p.tables e below (T.setTop g) (T.setFrames fs)) (hq : Q v T.heap locs) {rc rs : Nat} (h1 : cells ≤ rc) (h2 : slots ≤ rs) :
    OGo p e below (fun s₂ o => ∃ v L, o = .returned v ∧ Q v s₂.heap L ∧ FrameEnd s o s₂ L rc rs) (T.setTop g) := by
  obtain ⟨fs, hr, hrun, hended, hW, hsame⟩ := X.leave (v := v) hv hlocks
  exact ⟨_, _, st fs hr, hrun, hended, _, _, rfl, hq, ⟨_, rfl⟩, hW, hsame.mono h1 h2⟩
theorem own_un (X0 : Stand p l e R s m args below meth c T locs cells slots) {Q : Option Value → Heap → List Loc → Prop} {rc rs : Nat} {W : Option Value → State → Prop}
    (h : ∃ (v : Option Value) (vm₁ : Vm) (B : Pt), s.WarmedH vm₁ ∧ Stand p l e R s m args below meth c B.U B.locs B.cells B.slots ∧ (∃ L, Q v B.U.heap L ∧ B.locs = locs ++ L ∧ B.cells = cells + rc ∧ B.slots = slots + rs) ∧ W v B.U) :
    ∃ (v : Option Value) (T' : State) (Lc : List Loc), Stand p l e R s m args below meth c T' (locs ++ Lc) (cells + rc) (slots + rs) ∧ Q v T'.heap Lc ∧ W v T' := by
  obtain ⟨v, vm₁, ⟨T', L', k', n'⟩, -, X, ⟨Lc, hQ, h1, h2, h3⟩, st⟩ := h
  subst h1 h2 h3
  exact ⟨v, T', Lc, X, hQ, st⟩
theorem own_selP {Z : State} {a0 : Array Value} (hZ : Z.Warmed39 s.vm) {y : MethodName} {n : Nat} (wi : (Jvm.Cond.instantiable y.cls n).before a0 Z = true) (wp : (Jvm.Cond.privateMethod y).before a0 Z = true) (wm : (Jvm.Cond.instanceMethod y).before a0 Z = true) (hy : y.cls ≠ "java/lang/invoke/MethodHandle" ∧ y.cls ≠ "java/lang/invoke/VarHandle") : (Jvm.Cond.selects y.cls y y).before args s = true := by
  obtain ⟨c, k, h1, h2, -, h3, -⟩ := Cond.instantiable_spec (mvT (args := args) hZ wi)
  exact selects_self_of_private h1 h2 ((Bool.or_eq_false_iff.mp h3).1) (Cond.privateMethod_at (mvP hZ wp (args := args))) (mvT hZ wm) hy
end Own
theorem own_ieq {a b : Int32} (h : a = b) : a.toInt = b.toInt := congrArg _ h
theorem own_ine {a b : Int32} (h : ¬ a = b) : a.toInt ≠ b.toInt := fun q => h (Int32.toInt_inj.mp q)
theorem own_ilt {a b : Int32} (h : a < b) : a.toInt < b.toInt := Int32.lt_iff_toInt_lt.mp h
theorem own_inlt {a b : Int32} (h : ¬ a < b) : b.toInt ≤ a.toInt := Int.not_lt.mp fun q => h (Int32.lt_iff_toInt_lt.mpr q)
theorem own_eqi {a b : Int32} (h : a.toInt = b.toInt) : a = b := Int32.toInt_inj.mp h
theorem own_lti {a b : Int32} (h : a.toInt < b.toInt) : a < b := Int32.lt_iff_toInt_lt.mpr h
theorem own_nlti {a b : Int32} (h : b.toInt ≤ a.toInt) : ¬ a < b := fun q => absurd (Int32.lt_iff_toInt_lt.mp q) (Int.not_lt.mpr h)
def own_i (n : Nat) : Int32 := Int32.ofNat n
theorem own_iI {n : Nat} (h : n < 100) : (own_i n).toInt = n := Int32.toInt_ofNat_small (Nat.lt_trans h (by decide))
theorem own_inn (n : Nat) (h : n < 100) : ¬ own_i n < (0 : Int32) := own_nlti (by rw [own_iI h]; exact Int.natCast_nonneg n)
theorem own_clamp (n : Nat) (h : n < 100) : (own_i n).toNatClampNeg = n := by rw [Int32.toNatClampNeg, own_iI h]; rfl
theorem own_clampLe {x : Int32} {n : Nat} (h : x.toInt ≤ n) : x.toNatClampNeg ≤ n := by rw [Int32.toNatClampNeg]; omega
theorem own_il {a b : Nat} (hb : b < 100) (h : a < b) : own_i a < own_i b := own_lti (by rw [own_iI (Nat.lt_trans h hb), own_iI hb]; exact Int.ofNat_lt.mpr h)
theorem own_il' {a b : Nat} (hb : a < 100 ∧ b < 100) (h : own_i a < own_i b) : a < b := by
  have q := own_ilt h
  rw [own_iI hb.1, own_iI hb.2] at q; omega
theorem own_ilt' {a b : Nat} (hb : a < 100 ∧ b < 100) (h : ¬ own_i a < own_i b) : ¬ a < b := fun q => h (own_il hb.2 q)
theorem own_nil {a b : Nat} (h : a < 100 ∧ b ≤ a) : ¬ own_i a < own_i b := own_nlti (by rw [own_iI h.1, own_iI (by omega)]; omega)
theorem own_succ (n : Nat) : own_i n + (1 : Int32) = own_i (n + 1) := by unfold own_i; exact (Int32.ofNat_add n 1).symm
theorem own_getD (L : List Int32) (i : Nat) : (L.map Value.int).getD i (.int (0 : Int32)) = .int (L.getD i (0 : Int32)) := by
  rw [List.getD_eq_getElem?_getD, List.getD_eq_getElem?_getD, List.getElem?_map]
  cases L[i]? <;> rfl
theorem own_setlast (o : List Int32) (x : Int32) : (o.map Value.int ++ List.replicate 1 (Value.int (0 : Int32))).set o.length (Value.int x) = (o ++ [x]).map Value.int := by
  simp [List.set_append]
def own_min (a b : Int32) : Int32 := if b < a then b else a
def own_bit (x i : Int32) : Int32 := ((x.toUInt32 >>> (i &&& 31).toUInt32).toInt32) &&& (1 : Int32)
def own_count (x : Int32) : Int32 := (((own_bit x (0 : Int32) + own_bit x (1 : Int32)) + own_bit x (2 : Int32)) + own_bit x (3 : Int32)) + own_bit x (4 : Int32)
theorem own_bitI (x i : Int32) : 0 ≤ (own_bit x i).toInt ∧ (own_bit x i).toInt ≤ 1 := c_and _ (1 : Int32) (by decide)
theorem own_add {a b : Int32} (ha : 0 ≤ a.toInt ∧ a.toInt ≤ 1000000) (hb : 0 ≤ b.toInt ∧ b.toInt ≤ 1000000) : (a + b).toInt = a.toInt + b.toInt := by
  have h1 := c_iadd a b
  have h2 := rng32 (a + b)
  omega
theorem own_countI (x : Int32) : (own_count x).toInt = (own_bit x (0 : Int32)).toInt + (own_bit x (1 : Int32)).toInt + (own_bit x (2 : Int32)).toInt + (own_bit x (3 : Int32)).toInt + (own_bit x (4 : Int32)).toInt := by
  have h0 := own_bitI x (0 : Int32)
  have h1 := own_bitI x (1 : Int32)
  have h2 := own_bitI x (2 : Int32)
  have h3 := own_bitI x (3 : Int32)
  have h4 := own_bitI x (4 : Int32)
  unfold own_count
  have s1 := own_add (a := own_bit x (0 : Int32)) (b := own_bit x (1 : Int32)) (by omega) (by omega)
  have s2 := own_add (a := own_bit x (0 : Int32) + own_bit x (1 : Int32)) (b := own_bit x (2 : Int32)) (by omega) (by omega)
  have s3 := own_add (a := (own_bit x (0 : Int32) + own_bit x (1 : Int32)) + own_bit x (2 : Int32)) (b := own_bit x (3 : Int32)) (by omega) (by omega)
  have s4 := own_add (a := ((own_bit x (0 : Int32) + own_bit x (1 : Int32)) + own_bit x (2 : Int32)) + own_bit x (3 : Int32)) (b := own_bit x (4 : Int32)) (by omega) (by omega)
  omega
theorem own_castV {Z : State} {h : Heap} {a : Addr} {k : ClassId} {n : Int32} {L L' : List Int32} {d : Value} (F : Arv Z h a k .int n (L.map Value.int) d) (e : L = L') : Arv Z h a k .int n (L'.map Value.int) d := by subst e; exact F
theorem own_conv {Z : State} {h : Heap} {a : Addr} {k : ClassId} {n n' : Int32} {L L' : List Int32} {r : Nat} (F : Arv Z h a k .int n (L.map Value.int ++ List.replicate r (.int (0 : Int32))) (.int (0 : Int32))) (e1 : n = n') (e2 : L = L') : Arv Z h a k .int n' (L'.map Value.int) (.int (0 : Int32)) := by
  subst e1 e2; exact F.pad (fun i => (pad_rep _ _ r i).symm)
def own_idx (x : Int32) : List Nat := (if own_bit x (0 : Int32) = (1 : Int32) then [0] else []) ++ ((if own_bit x (1 : Int32) = (1 : Int32) then [1] else []) ++ ((if own_bit x (2 : Int32) = (1 : Int32) then [2] else []) ++ ((if own_bit x (3 : Int32) = (1 : Int32) then [3] else []) ++ (if own_bit x (4 : Int32) = (1 : Int32) then [4] else []))))
def own_v (v0 v1 v2 v3 v4 : Int32) (i : Nat) : Int32 := [v0, v1, v2, v3, v4].getD i (0 : Int32)
def own_sel (x v0 v1 v2 v3 v4 : Int32) : List Int32 := (own_idx x).map (own_v v0 v1 v2 v3 v4)
theorem own_idx5 (x : Int32) : ∀ a ∈ own_idx x, a < 5 := by
  intro a ha
  unfold own_idx at ha
  simp only [List.mem_append] at ha
  rcases ha with h | h | h | h | h <;> (split at h <;> simp at h <;> omega)
theorem own_idxLen (x : Int32) : (own_idx x).length ≤ 5 := by
  unfold own_idx
  simp only [List.length_append]
  have t : ∀ (P : Prop) [Decidable P] (n : Nat), (if P then [n] else []).length ≤ 1 := fun P _ n => by by_cases h : P <;> simp [h]
  have t0 := t (own_bit x (0 : Int32) = (1 : Int32)) 0
  have t1 := t (own_bit x (1 : Int32) = (1 : Int32)) 1
  have t2 := t (own_bit x (2 : Int32) = (1 : Int32)) 2
  have t3 := t (own_bit x (3 : Int32) = (1 : Int32)) 3
  have t4 := t (own_bit x (4 : Int32) = (1 : Int32)) 4
  omega
theorem own_selLen (x v0 v1 v2 v3 v4 : Int32) : (own_sel x v0 v1 v2 v3 v4).length ≤ 5 := by unfold own_sel; rw [List.length_map]; exact own_idxLen x
def own_put (o : List Int32) (dm hm i : Int32) : List Int32 := if own_bit dm i = (0 : Int32) then o else if own_bit hm i = (1 : Int32) then o ++ [own_count (hm &&& (((1 : Int32) <<< (i &&& 31)) - (1 : Int32)))] else o ++ [(-1 : Int32)]
theorem own_put0 {o : List Int32} {dm hm i : Int32} (h : own_bit dm i = (0 : Int32)) : own_put o dm hm i = o := by unfold own_put; rw [if_pos h]
theorem own_put1 {o : List Int32} {dm hm i : Int32} (h : ¬ own_bit dm i = (0 : Int32)) (h2 : own_bit hm i = (1 : Int32)) : own_put o dm hm i = o ++ [own_count (hm &&& (((1 : Int32) <<< (i &&& 31)) - (1 : Int32)))] := by unfold own_put; rw [if_neg h, if_pos h2]
theorem own_put2 {o : List Int32} {dm hm i : Int32} (h : ¬ own_bit dm i = (0 : Int32)) (h2 : ¬ own_bit hm i = (1 : Int32)) : own_put o dm hm i = o ++ [(-1 : Int32)] := by unfold own_put; rw [if_neg h, if_neg h2]
theorem own_len1 (o : List Int32) (x : Int32) : own_i o.length + (1 : Int32) = own_i (o ++ [x]).length := by rw [own_succ]; simp
def own_adv (hs : List Int32) (x : Int32) : Nat → Nat → Nat
  | 0, j => j
  | f + 1, j => if j < hs.length then (if hs.getD j (0 : Int32) < x then own_adv hs x f (j + 1) else j) else j
theorem own_adv1 {hs : List Int32} {x : Int32} {f j : Nat} (h : ¬ j < hs.length) : own_adv hs x (f + 1) j = j := by rw [own_adv, if_neg h]
theorem own_adv2 {hs : List Int32} {x : Int32} {f j : Nat} (h : ¬ hs.getD j (0 : Int32) < x) : own_adv hs x (f + 1) j = j := by
  rw [own_adv]
  by_cases q : j < hs.length
  · rw [if_pos q, if_neg h]
  · rw [if_neg q]
theorem own_adv3 {hs : List Int32} {x : Int32} {f j : Nat} (h : j < hs.length) (h2 : hs.getD j (0 : Int32) < x) : own_adv hs x (f + 1) j = own_adv hs x f (j + 1) := by rw [own_adv, if_pos h, if_pos h2]
theorem own_advLe (hs : List Int32) (x : Int32) (f : Nat) : ∀ j, j ≤ hs.length → own_adv hs x f j ≤ hs.length := by
  induction f with
  | zero => intro j h; exact h
  | succ f ih =>
    intro j h
    rw [own_adv]
    split
    · split
      · exact ih _ (by omega)
      · exact h
    · exact h
def own_ent (hs : List Int32) : List Int32 → Nat → List Int32
  | [], _ => []
  | d :: ds, j => (if own_i (own_adv hs d hs.length j) < own_i hs.length then (if hs.getD (own_adv hs d hs.length j) (0 : Int32) = d then own_i (own_adv hs d hs.length j) else (-1 : Int32)) else (-1 : Int32)) :: own_ent hs ds (own_adv hs d hs.length j)
theorem own_entStep {hs ds outs : List Int32} {i j : Nat} (hi : i < ds.length) (h : outs ++ own_ent hs (ds.drop i) j = own_ent hs ds 0) :
    (outs ++ [if own_i (own_adv hs (ds.getD i (0 : Int32)) hs.length j) < own_i hs.length then (if hs.getD (own_adv hs (ds.getD i (0 : Int32)) hs.length j) (0 : Int32) = ds.getD i (0 : Int32) then own_i (own_adv hs (ds.getD i (0 : Int32)) hs.length j) else (-1 : Int32)) else (-1 : Int32)]) ++ own_ent hs (ds.drop (i + 1)) (own_adv hs (ds.getD i (0 : Int32)) hs.length j) = own_ent hs ds 0 := by
  rw [← h, List.drop_eq_getElem_cons hi, List.append_assoc]
  have e : ds.getD i (0 : Int32) = ds[i] := by rw [List.getD_eq_getElem?_getD, List.getElem?_eq_getElem hi]; rfl
  rw [e]
  rfl
def own_lt32 (x : Int32) : Prop := ∃ k : Fin 32, x = own_i k.1
theorem own_m31 (x : Int32) : own_lt32 (x &&& (31 : Int32)) := by
  have h := c_mask x (31 : Int32) 5 (by decide) (by decide)
  have hk : (x.toInt % 32).toNat < 32 := by omega
  refine ⟨⟨(x.toInt % 32).toNat, hk⟩, own_eqi ?_⟩
  rw [own_iI (Nat.lt_trans hk (by decide)), h]
  omega
def own_inc (v0 v1 v2 v3 v4 : Int32) : Prop := v0.toInt < v1.toInt ∧ v1.toInt < v2.toInt ∧ v2.toInt < v3.toInt ∧ v3.toInt < v4.toInt
theorem own_g (x : Int32) : 1 ≤ ((x &&& (255 : Int32)) + (1 : Int32)).toInt ∧ ((x &&& (255 : Int32)) + (1 : Int32)).toInt ≤ 256 := by
  have h := c_and x (255 : Int32) (by decide)
  have e : (255 : Int32).toInt = 255 := by decide
  have e1 : (1 : Int32).toInt = 1 := by decide
  have q := own_add (a := x &&& (255 : Int32)) (b := (1 : Int32)) (by omega) (by omega)
  omega
theorem own_order {p1 g1 g2 g3 g4 tot v0 v1 v2 v3 v4 : Int32} (h1 : 1 ≤ g1.toInt ∧ g1.toInt ≤ 256) (h2 : 1 ≤ g2.toInt ∧ g2.toInt ≤ 256) (h3 : 1 ≤ g3.toInt ∧ g3.toInt ≤ 256) (h4 : 1 ≤ g4.toInt ∧ g4.toInt ≤ 256) (ht : tot = ((g1 + g2) + g3) + g4) (w0 : v0 = own_min p1 ((2147483647 : Int32) - tot)) (w1 : v1 = v0 + g1) (w2 : v2 = v1 + g2) (w3 : v3 = v2 + g3) (w4 : v4 = v3 + g4) : own_inc v0 v1 v2 v3 v4 := by
  have t1 := own_add (a := g1) (b := g2) (by omega) (by omega)
  have t2 := own_add (a := g1 + g2) (b := g3) (by omega) (by omega)
  have t3 := own_add (a := (g1 + g2) + g3) (b := g4) (by omega) (by omega)
  rw [← ht] at t3
  have tm : (2147483647 : Int32).toInt = 2147483647 := by decide
  have tc := c_isub (2147483647 : Int32) tot
  have tr := rng32 ((2147483647 : Int32) - tot)
  have tv : v0.toInt ≤ ((2147483647 : Int32) - tot).toInt := by
    rw [w0]; unfold own_min
    split
    · exact Int.le_refl _
    · rename_i q; exact own_inlt q
  have r0 := rng32 v0
  have a1 := c_iadd v0 g1
  have r1 := rng32 (v0 + g1)
  rw [← w1] at a1 r1
  have a2 := c_iadd v1 g2
  have r2 := rng32 (v1 + g2)
  rw [← w2] at a2 r2
  have a3 := c_iadd v2 g3
  have r3 := rng32 (v2 + g3)
  rw [← w3] at a3 r3
  have a4 := c_iadd v3 g4
  have r4 := rng32 (v3 + g4)
  rw [← w4] at a4 r4
  unfold own_inc
  omega
theorem own_mapGet (f : Nat → Int32) {H : List Nat} {j : Nat} (hj : j < H.length) : (H.map f).getD j (0 : Int32) = f H[j] := by
  rw [List.getD_eq_getElem?_getD, List.getElem?_map, List.getElem?_eq_getElem hj]; rfl
theorem own_advMap {f g : Nat → Int32} (hlt : ∀ a b, a < 5 → b < 5 → (f a < f b ↔ g a < g b)) {H : List Nat} (hH : ∀ a ∈ H, a < 5) {d : Nat} (hd : d < 5) (n : Nat) : ∀ j, own_adv (H.map f) (f d) n j = own_adv (H.map g) (g d) n j := by
  induction n with
  | zero => intro j; rfl
  | succ n ih =>
    intro j
    rw [own_adv, own_adv, List.length_map, List.length_map]
    by_cases q : j < H.length
    · rw [if_pos q, if_pos q, own_mapGet f q, own_mapGet g q, ih]
      have e := hlt H[j] d (hH _ (List.getElem_mem q)) hd
      by_cases z : f H[j] < f d
      · rw [if_pos z, if_pos (e.mp z)]
      · rw [if_neg z, if_neg (fun y => z (e.mpr y))]
    · rw [if_neg q, if_neg q]
theorem own_entMap {f g : Nat → Int32} (hlt : ∀ a b, a < 5 → b < 5 → (f a < f b ↔ g a < g b)) (heq : ∀ a b, a < 5 → b < 5 → (f a = f b ↔ g a = g b)) {H : List Nat} (hH : ∀ a ∈ H, a < 5) (hl : H.length < 100) : ∀ (D : List Nat) (_ : ∀ a ∈ D, a < 5) (j : Nat), j ≤ H.length → own_ent (H.map f) (D.map f) j = own_ent (H.map g) (D.map g) j := by
  intro D
  induction D with
  | nil => intro _ j _; rfl
  | cons d D ih =>
    intro hD j hj
    have hd : d < 5 := hD d (List.mem_cons_self ..)
    have ha := own_advMap hlt hH hd (H.map g).length j
    have hJ := own_advLe (H.map g) (g d) (H.map g).length j (by rw [List.length_map]; exact hj)
    rw [List.map_cons, List.map_cons, own_ent, own_ent]
    have hl2 : (H.map f).length = (H.map g).length := by rw [List.length_map, List.length_map]
    rw [hl2, ha]
    generalize own_adv (H.map g) (g d) (H.map g).length j = J at hJ
    rw [ih (fun a h => hD a (List.mem_cons_of_mem _ h)) J (by rw [List.length_map] at hJ; exact hJ)]
    congr 1
    rw [List.length_map] at hJ ⊢
    by_cases q : own_i J < own_i H.length
    · rw [if_pos q, if_pos q]
      have z : J < H.length := own_il' ⟨by omega, hl⟩ q
      rw [own_mapGet f z, own_mapGet g z]
      have e := heq H[J] d (hH _ (List.getElem_mem z)) hd
      by_cases y : f H[J] = f d
      · rw [if_pos y, if_pos (e.mp y)]
      · rw [if_neg y, if_neg (fun x => y (e.mpr x))]
    · rw [if_neg q, if_neg q]
theorem own_vlt {v0 v1 v2 v3 v4 : Int32} (h : own_inc v0 v1 v2 v3 v4) : ∀ a b, a < b → b < 5 → (own_v v0 v1 v2 v3 v4 a).toInt < (own_v v0 v1 v2 v3 v4 b).toInt := by
  intro a b hab hb
  unfold own_inc at h
  rcases (by omega : (a = 0 ∧ b = 1) ∨ (a = 0 ∧ b = 2) ∨ (a = 0 ∧ b = 3) ∨ (a = 0 ∧ b = 4) ∨ (a = 1 ∧ b = 2) ∨ (a = 1 ∧ b = 3) ∨ (a = 1 ∧ b = 4) ∨ (a = 2 ∧ b = 3) ∨ (a = 2 ∧ b = 4) ∨ (a = 3 ∧ b = 4)) with ⟨rfl, rfl⟩ | ⟨rfl, rfl⟩ | ⟨rfl, rfl⟩ | ⟨rfl, rfl⟩ | ⟨rfl, rfl⟩ | ⟨rfl, rfl⟩ | ⟨rfl, rfl⟩ | ⟨rfl, rfl⟩ | ⟨rfl, rfl⟩ | ⟨rfl, rfl⟩ <;> simp [own_v] <;> omega
theorem own_mono {f : Nat → Int32} (h : ∀ a b, a < b → b < 5 → (f a).toInt < (f b).toInt) : (∀ a b, a < 5 → b < 5 → (f a < f b ↔ own_i a < own_i b)) ∧ (∀ a b, a < 5 → b < 5 → (f a = f b ↔ own_i a = own_i b)) := by
  have k : ∀ a b, a < b → b < 5 → (own_i a).toInt < (own_i b).toInt := fun a b q r => by rw [own_iI (by omega), own_iI (by omega)]; omega
  constructor
  · intro a b ha hb
    rw [Int32.lt_iff_toInt_lt, Int32.lt_iff_toInt_lt]
    rcases Nat.lt_trichotomy a b with q | q | q
    · have := h a b q hb; have := k a b q hb; omega
    · subst q; omega
    · have := h b a q ha; have := k b a q ha; omega
  · intro a b ha hb
    rw [← Int32.toInt_inj, ← Int32.toInt_inj]
    rcases Nat.lt_trichotomy a b with q | q | q
    · have := h a b q hb; have := k a b q hb; omega
    · subst q; omega
    · have := h b a q ha; have := k b a q ha; omega
theorem own_hind0 : ∀ b a : Fin 32, ¬ own_bit (own_i a.1) (0 : Int32) = (0 : Int32) → own_i ([] : List Int32).length < own_i (own_idx (own_i a.1)).length := by decide +kernel
theorem own_chld0 : ∀ b a : Fin 32, ([] : List Int32).length < 100 := by decide +kernel
theorem own_hin0 {dm hm v0 v1 v2 v3 v4 : Int32} (hd : own_lt32 dm) (hh : own_lt32 hm) : ¬ own_bit dm (0 : Int32) = (0 : Int32) → own_i ([] : List Int32).length < own_i (own_sel dm v0 v1 v2 v3 v4).length := by
  obtain ⟨a, rfl⟩ := hd
  obtain ⟨b, rfl⟩ := hh
  unfold own_sel
  rw [List.length_map]
  exact own_hind0 b a
theorem own_chl0 {dm hm : Int32} (hd : own_lt32 dm) (hh : own_lt32 hm) : ([] : List Int32).length < 100 := by
  obtain ⟨a, rfl⟩ := hd
  obtain ⟨b, rfl⟩ := hh
  exact own_chld0 b a
theorem own_hind1 : ∀ b a : Fin 32, ¬ own_bit (own_i a.1) (1 : Int32) = (0 : Int32) → own_i (own_put ([] : List Int32) (own_i a.1) (own_i b.1) (0 : Int32)).length < own_i (own_idx (own_i a.1)).length := by decide +kernel
theorem own_chld1 : ∀ b a : Fin 32, (own_put ([] : List Int32) (own_i a.1) (own_i b.1) (0 : Int32)).length < 100 := by decide +kernel
theorem own_hin1 {dm hm v0 v1 v2 v3 v4 : Int32} (hd : own_lt32 dm) (hh : own_lt32 hm) : ¬ own_bit dm (1 : Int32) = (0 : Int32) → own_i (own_put ([] : List Int32) dm hm (0 : Int32)).length < own_i (own_sel dm v0 v1 v2 v3 v4).length := by
  obtain ⟨a, rfl⟩ := hd
  obtain ⟨b, rfl⟩ := hh
  unfold own_sel
  rw [List.length_map]
  exact own_hind1 b a
theorem own_chl1 {dm hm : Int32} (hd : own_lt32 dm) (hh : own_lt32 hm) : (own_put ([] : List Int32) dm hm (0 : Int32)).length < 100 := by
  obtain ⟨a, rfl⟩ := hd
  obtain ⟨b, rfl⟩ := hh
  exact own_chld1 b a
theorem own_hind2 : ∀ b a : Fin 32, ¬ own_bit (own_i a.1) (2 : Int32) = (0 : Int32) → own_i (own_put (own_put ([] : List Int32) (own_i a.1) (own_i b.1) (0 : Int32)) (own_i a.1) (own_i b.1) (1 : Int32)).length < own_i (own_idx (own_i a.1)).length := by decide +kernel
theorem own_chld2 : ∀ b a : Fin 32, (own_put (own_put ([] : List Int32) (own_i a.1) (own_i b.1) (0 : Int32)) (own_i a.1) (own_i b.1) (1 : Int32)).length < 100 := by decide +kernel
theorem own_hin2 {dm hm v0 v1 v2 v3 v4 : Int32} (hd : own_lt32 dm) (hh : own_lt32 hm) : ¬ own_bit dm (2 : Int32) = (0 : Int32) → own_i (own_put (own_put ([] : List Int32) dm hm (0 : Int32)) dm hm (1 : Int32)).length < own_i (own_sel dm v0 v1 v2 v3 v4).length := by
  obtain ⟨a, rfl⟩ := hd
  obtain ⟨b, rfl⟩ := hh
  unfold own_sel
  rw [List.length_map]
  exact own_hind2 b a
theorem own_chl2 {dm hm : Int32} (hd : own_lt32 dm) (hh : own_lt32 hm) : (own_put (own_put ([] : List Int32) dm hm (0 : Int32)) dm hm (1 : Int32)).length < 100 := by
  obtain ⟨a, rfl⟩ := hd
  obtain ⟨b, rfl⟩ := hh
  exact own_chld2 b a
theorem own_hind3 : ∀ b a : Fin 32, ¬ own_bit (own_i a.1) (3 : Int32) = (0 : Int32) → own_i (own_put (own_put (own_put ([] : List Int32) (own_i a.1) (own_i b.1) (0 : Int32)) (own_i a.1) (own_i b.1) (1 : Int32)) (own_i a.1) (own_i b.1) (2 : Int32)).length < own_i (own_idx (own_i a.1)).length := by decide +kernel
theorem own_chld3 : ∀ b a : Fin 32, (own_put (own_put (own_put ([] : List Int32) (own_i a.1) (own_i b.1) (0 : Int32)) (own_i a.1) (own_i b.1) (1 : Int32)) (own_i a.1) (own_i b.1) (2 : Int32)).length < 100 := by decide +kernel
theorem own_hin3 {dm hm v0 v1 v2 v3 v4 : Int32} (hd : own_lt32 dm) (hh : own_lt32 hm) : ¬ own_bit dm (3 : Int32) = (0 : Int32) → own_i (own_put (own_put (own_put ([] : List Int32) dm hm (0 : Int32)) dm hm (1 : Int32)) dm hm (2 : Int32)).length < own_i (own_sel dm v0 v1 v2 v3 v4).length := by
  obtain ⟨a, rfl⟩ := hd
  obtain ⟨b, rfl⟩ := hh
  unfold own_sel
  rw [List.length_map]
  exact own_hind3 b a
theorem own_chl3 {dm hm : Int32} (hd : own_lt32 dm) (hh : own_lt32 hm) : (own_put (own_put (own_put ([] : List Int32) dm hm (0 : Int32)) dm hm (1 : Int32)) dm hm (2 : Int32)).length < 100 := by
  obtain ⟨a, rfl⟩ := hd
  obtain ⟨b, rfl⟩ := hh
  exact own_chld3 b a
theorem own_hind4 : ∀ b a : Fin 32, ¬ own_bit (own_i a.1) (4 : Int32) = (0 : Int32) → own_i (own_put (own_put (own_put (own_put ([] : List Int32) (own_i a.1) (own_i b.1) (0 : Int32)) (own_i a.1) (own_i b.1) (1 : Int32)) (own_i a.1) (own_i b.1) (2 : Int32)) (own_i a.1) (own_i b.1) (3 : Int32)).length < own_i (own_idx (own_i a.1)).length := by decide +kernel
theorem own_chld4 : ∀ b a : Fin 32, (own_put (own_put (own_put (own_put ([] : List Int32) (own_i a.1) (own_i b.1) (0 : Int32)) (own_i a.1) (own_i b.1) (1 : Int32)) (own_i a.1) (own_i b.1) (2 : Int32)) (own_i a.1) (own_i b.1) (3 : Int32)).length < 100 := by decide +kernel
theorem own_hin4 {dm hm v0 v1 v2 v3 v4 : Int32} (hd : own_lt32 dm) (hh : own_lt32 hm) : ¬ own_bit dm (4 : Int32) = (0 : Int32) → own_i (own_put (own_put (own_put (own_put ([] : List Int32) dm hm (0 : Int32)) dm hm (1 : Int32)) dm hm (2 : Int32)) dm hm (3 : Int32)).length < own_i (own_sel dm v0 v1 v2 v3 v4).length := by
  obtain ⟨a, rfl⟩ := hd
  obtain ⟨b, rfl⟩ := hh
  unfold own_sel
  rw [List.length_map]
  exact own_hind4 b a
theorem own_chl4 {dm hm : Int32} (hd : own_lt32 dm) (hh : own_lt32 hm) : (own_put (own_put (own_put (own_put ([] : List Int32) dm hm (0 : Int32)) dm hm (1 : Int32)) dm hm (2 : Int32)) dm hm (3 : Int32)).length < 100 := by
  obtain ⟨a, rfl⟩ := hd
  obtain ⟨b, rfl⟩ := hh
  exact own_chld4 b a
theorem own_dec : ∀ b a : Fin 32, own_ent ((own_idx (own_i b.1)).map own_i) ((own_idx (own_i a.1)).map own_i) 0 = (own_put (own_put (own_put (own_put (own_put ([] : List Int32) (own_i a.1) (own_i b.1) (0 : Int32)) (own_i a.1) (own_i b.1) (1 : Int32)) (own_i a.1) (own_i b.1) (2 : Int32)) (own_i a.1) (own_i b.1) (3 : Int32)) (own_i a.1) (own_i b.1) (4 : Int32)) := by decide +kernel
theorem own_main {dm hm v0 v1 v2 v3 v4 : Int32} (hd : own_lt32 dm) (hh : own_lt32 hm) (hlt : own_inc v0 v1 v2 v3 v4) : own_ent (own_sel hm v0 v1 v2 v3 v4) (own_sel dm v0 v1 v2 v3 v4) 0 = (own_put (own_put (own_put (own_put (own_put ([] : List Int32) dm hm (0 : Int32)) dm hm (1 : Int32)) dm hm (2 : Int32)) dm hm (3 : Int32)) dm hm (4 : Int32)) := by
  obtain ⟨a, rfl⟩ := hd
  obtain ⟨b, rfl⟩ := hh
  have o := own_mono (own_vlt hlt)
  unfold own_sel
  rw [own_entMap o.1 o.2 (own_idx5 _) (Nat.lt_of_le_of_lt (own_idxLen _) (by decide)) _ (own_idx5 _) 0 (Nat.zero_le _)]
  exact own_dec b a

theorem pd_0 : parseMethodDescriptor "(II)I" = some ⟨[.int, .int], some .int⟩ := by decide +kernel
theorem pd_1 : parseMethodDescriptor "(I)I" = some ⟨[.int], some .int⟩ := by decide +kernel
theorem pd_2 : parseMethodDescriptor "(IIIIII)[I" = some ⟨[.int, .int, .int, .int, .int, .int], some (.array .int)⟩ := by decide +kernel
theorem pd_3 : parseMethodDescriptor "([IIIII)I" = some ⟨[(.array .int), .int, .int, .int, .int], some .int⟩ := by decide +kernel
theorem pd_4 : parseMethodDescriptor "([I[I)[I" = some ⟨[(.array .int), (.array .int)], some (.array .int)⟩ := by decide +kernel
theorem pd_5 : parseMethodDescriptor "([I[I)Z" = some ⟨[(.array .int), (.array .int)], some .boolean⟩ := by decide +kernel
theorem pn_0 : plainName "com/example/cogram/cogram/index/PostingsEntriesPinLaw" = true := by first | (simp [plainName, overriddenIn]; done) | decide +kernel
theorem pn_1 : plainName "com/example/cogram/cogram/index/Postings" = true := by first | (simp [plainName, overriddenIn]; done) | decide +kernel
theorem d1_0 : decode jdk_29_method_69_code 0 = .ok (.iload_n 0, 1) := by decide +kernel
theorem d1_1 : decode jdk_29_method_69_code 1 = .ok (.iload_n 1, 1) := by decide +kernel
theorem d1_2 : decode jdk_29_method_69_code 2 = .ok (.if_icmp .gt 7, 3) := by decide +kernel
theorem d1_5 : decode jdk_29_method_69_code 5 = .ok (.iload_n 0, 1) := by decide +kernel
theorem d1_6 : decode jdk_29_method_69_code 6 = .ok (.goto 4, 3) := by decide +kernel
theorem d1_9 : decode jdk_29_method_69_code 9 = .ok (.iload_n 1, 1) := by decide +kernel
theorem d1_10 : decode jdk_29_method_69_code 10 = .ok (.ireturn, 1) := by decide +kernel
theorem ef_1 (m : MethodId) (x0 : Int32) (x1 : Int32) : entryFrame m #[(.int x0), (.int x1)] 2 = mkF m 0 #[.val (.int x0), .val (.int x1)] [] := by first | (simp [entryFrame, mkF, argsToLocals, Value.category]; done) | rfl
def Q1 (Z : State) (p1 : Int32) (p2 : Int32) (h0 : Heap) (n0 : Nat) (v : Option Value) (h : Heap) (L : List Loc) : Prop := v = some (.int (own_min p1 p2)) ∧ Fr n0 L ∧ h = h0
set_option maxRecDepth 65536 in
set_option maxHeartbeats 40000000 in
theorem rm1 (l : Launch) (Z : State) (a0 : Array Value) (hw : ∀ d ∈ tables_1, d.before a0 Z = true) (ws : List Jvm.Cond) (p1 : Int32) (p2 : Int32) (h0 : Heap) (n0 : Nat) (Z0 : n0 ≤ h0.size) :
    MetFree l (⟨"java/lang/Math", "min", "(II)I"⟩ : MethodName) (head1 (Jvm.Cond.code (⟨"java/lang/Math", "min", "(II)I"⟩ : MethodName) jdk_29_method_69_code 2 (some .int) :: ws) ({ frames := 0, cells := 0, slots := 0, locals := 0 } : Room)) (fun a U => a = #[(.int p1), (.int p2)] ∧ Z.Warmed39 U.vm ∧ U.heap = h0) (fun _ _ _ _ _ => True) (fun _ U o U' => ∃ v L, o = .returned v ∧ Q1 Z p1 p2 h0 n0 v U'.heap L ∧ FrameEnd U o U' L ({ frames := 0, cells := 0, slots := 0, locals := 0 } : Room).cells ({ frames := 0, cells := 0, slots := 0, locals := 0 } : Room).slots) := by
  refine MetFree.of_bodySF (Jvm.Free.JP.mathPlain rfl (by decide +kernel)) hisR ?_
  intro p e s m args below meth c s₁ Bd hml0 hP hK
  obtain ⟨rfl, hZ, hh⟩ := hP
  have hx := Bd.exec
  have hby := Bd.bytes
  have hml : c.maxLocals = 2 := hml0
  have hown : s.vm.findClass "java/lang/Math" = some m.cls := findClass_of_methodNamed Bd.named
  have hnm := (name_of_methodNamed Bd.named Bd.method).1
  have X0 : Stand p l e ({ frames := 0, cells := 0, slots := 0, locals := 0 } : Room) s m #[(.int p1), (.int p2)] below meth c s₁ [] 0 0 := Stand.of_body Bd
  have e0 : s₁.heap = h0 := by rw [← hh, Bd.state]; rfl
  have N0 := Fr.nil n0
  show OGo p e below (fun s₂ o => ∃ v L, o = .returned v ∧ Q1 Z p1 p2 h0 n0 v s₂.heap L ∧ FrameEnd s o s₂ L ({ frames := 0, cells := 0, slots := 0, locals := 0 } : Room).cells ({ frames := 0, cells := 0, slots := 0, locals := 0 } : Room).slots) _
  refine OGo.to (fun _ k => castTop (ef_1 m p1 p2) k) ?_
  refine OGo.to (fun _ k => XS.iloadN X0.here hx rfl (hb hby d1_0) rfl k) ?_
  show OGo p e below _ (s₁.setTop (mkF m 1 #[.val (.int p1), .val (.int p2)] [(.int p1)]))
  refine OGo.to (fun _ k => XS.iloadN X0.here hx rfl (hb hby d1_1) rfl k) ?_
  show OGo p e below _ (s₁.setTop (mkF m 2 #[.val (.int p1), .val (.int p2)] [(.int p2), (.int p1)]))
  by_cases hc2__1 : p2 < p1
  ·  -- pc 2: yes
    refine OGo.to (fun _ k => XS.icmpYes X0.here hx rfl (pc0 := 2) (pc' := 9) rfl (hb hby d1_2) rfl (tlt hc2__1).2.2.1 (by decide) (by decide) k) ?_
    show OGo p e below _ (s₁.setTop (mkF m 9 #[.val (.int p1), .val (.int p2)] []))
    refine OGo.to (fun _ k => XS.iloadN X0.here hx rfl (hb hby d1_9) rfl k) ?_
    show OGo p e below _ (s₁.setTop (mkF m 10 #[.val (.int p1), .val (.int p2)] [(.int p2)]))
    refine OGo.ret (Q := Q1 Z p1 p2 h0 n0) X0 (some (.int p2)) (fun h => by rw [Bd.returns] at h; cases h) Bd.notSynchronized (fun fs hr => retI X0 hx Bd.returns (hb hby d1_10) hr) ?_ (by decide) (by decide)
    show Q1 Z p1 p2 h0 n0 _ s₁.heap _
    rw [e0]
    exact ⟨congrArg (fun z => some (Value.int z)) (show p2 = (own_min p1 p2) from by unfold own_min; rw [if_pos hc2__1]), N0, rfl⟩
  ·  -- pc 2: no
    refine OGo.to (fun _ k => XS.icmpNo X0.here hx rfl (hb hby d1_2) rfl (flt hc2__1).2.2.1 k) ?_
    show OGo p e below _ (s₁.setTop (mkF m 5 #[.val (.int p1), .val (.int p2)] []))
    refine OGo.to (fun _ k => XS.iloadN X0.here hx rfl (hb hby d1_5) rfl k) ?_
    show OGo p e below _ (s₁.setTop (mkF m 6 #[.val (.int p1), .val (.int p2)] [(.int p1)]))
    refine OGo.to (fun _ k => XS.goto X0.here hx rfl (pc0 := 6) (pc' := 10) rfl (hb hby d1_6) (by decide) (by decide) k) ?_
    show OGo p e below _ (s₁.setTop (mkF m 10 #[.val (.int p1), .val (.int p2)] [(.int p1)]))
    refine OGo.ret (Q := Q1 Z p1 p2 h0 n0) X0 (some (.int p1)) (fun h => by rw [Bd.returns] at h; cases h) Bd.notSynchronized (fun fs hr => retI X0 hx Bd.returns (hb hby d1_10) hr) ?_ (by decide) (by decide)
    show Q1 Z p1 p2 h0 n0 _ s₁.heap _
    rw [e0]
    exact ⟨congrArg (fun z => some (Value.int z)) (show p1 = (own_min p1 p2) from by unfold own_min; rw [if_neg hc2__1]), N0, rfl⟩
theorem d4_0 : decode method_3_code 0 = .ok (.iload_n 0, 1) := by decide +kernel
theorem d4_1 : decode method_3_code 1 = .ok (.iload_n 1, 1) := by decide +kernel
theorem d4_2 : decode method_3_code 2 = .ok (.iushr, 1) := by decide +kernel
theorem d4_3 : decode method_3_code 3 = .ok (.iconst 1, 1) := by decide +kernel
theorem d4_4 : decode method_3_code 4 = .ok (.iand, 1) := by decide +kernel
theorem d4_5 : decode method_3_code 5 = .ok (.ireturn, 1) := by decide +kernel
theorem ef_4 (m : MethodId) (x0 : Int32) (x1 : Int32) : entryFrame m #[(.int x0), (.int x1)] 2 = mkF m 0 #[.val (.int x0), .val (.int x1)] [] := by first | (simp [entryFrame, mkF, argsToLocals, Value.category]; done) | rfl
def Q4 (Z : State) (p1 : Int32) (p2 : Int32) (h0 : Heap) (n0 : Nat) (v : Option Value) (h : Heap) (L : List Loc) : Prop := v = some (.int (own_bit p1 p2)) ∧ Fr n0 L ∧ h = h0
set_option maxRecDepth 65536 in
set_option maxHeartbeats 40000000 in
theorem rm4 (l : Launch) (Z : State) (a0 : Array Value) (hw : ∀ d ∈ tables_1, d.before a0 Z = true) (ws : List Jvm.Cond) (p1 : Int32) (p2 : Int32) (h0 : Heap) (n0 : Nat) (Z0 : n0 ≤ h0.size) :
    MetFree l (⟨"com/example/cogram/cogram/index/PostingsEntriesPinLaw", "bit", "(II)I"⟩ : MethodName) (head1 (Jvm.Cond.code (⟨"com/example/cogram/cogram/index/PostingsEntriesPinLaw", "bit", "(II)I"⟩ : MethodName) method_3_code 2 (some .int) :: ws) ({ frames := 0, cells := 0, slots := 0, locals := 0 } : Room)) (fun a U => a = #[(.int p1), (.int p2)] ∧ Z.Warmed39 U.vm ∧ U.heap = h0) (fun _ _ _ _ _ => True) (fun _ U o U' => ∃ v L, o = .returned v ∧ Q4 Z p1 p2 h0 n0 v U'.heap L ∧ FrameEnd U o U' L ({ frames := 0, cells := 0, slots := 0, locals := 0 } : Room).cells ({ frames := 0, cells := 0, slots := 0, locals := 0 } : Room).slots) := by
  refine MetFree.of_bodySF (plainFor_of_name pn_0) hisR ?_
  intro p e s m args below meth c s₁ Bd hml0 hP hK
  obtain ⟨rfl, hZ, hh⟩ := hP
  have hx := Bd.exec
  have hby := Bd.bytes
  have hml : c.maxLocals = 2 := hml0
  have hown : s.vm.findClass "com/example/cogram/cogram/index/PostingsEntriesPinLaw" = some m.cls := findClass_of_methodNamed Bd.named
  have hnm := (name_of_methodNamed Bd.named Bd.method).1
  have X0 : Stand p l e ({ frames := 0, cells := 0, slots := 0, locals := 0 } : Room) s m #[(.int p1), (.int p2)] below meth c s₁ [] 0 0 := Stand.of_body Bd
  have e0 : s₁.heap = h0 := by rw [← hh, Bd.state]; rfl
  have N0 := Fr.nil n0
  show OGo p e below (fun s₂ o => ∃ v L, o = .returned v ∧ Q4 Z p1 p2 h0 n0 v s₂.heap L ∧ FrameEnd s o s₂ L ({ frames := 0, cells := 0, slots := 0, locals := 0 } : Room).cells ({ frames := 0, cells := 0, slots := 0, locals := 0 } : Room).slots) _
  refine OGo.to (fun _ k => castTop (ef_4 m p1 p2) k) ?_
  refine OGo.to (fun _ k => XS.iloadN X0.here hx rfl (hb hby d4_0) rfl k) ?_
  show OGo p e below _ (s₁.setTop (mkF m 1 #[.val (.int p1), .val (.int p2)] [(.int p1)]))
  refine OGo.to (fun _ k => XS.iloadN X0.here hx rfl (hb hby d4_1) rfl k) ?_
  show OGo p e below _ (s₁.setTop (mkF m 2 #[.val (.int p1), .val (.int p2)] [(.int p2), (.int p1)]))
  refine OGo.to (fun _ k => XS.iushr X0.here hx rfl (hb hby d4_2) rfl k) ?_
  show OGo p e below _ (s₁.setTop (mkF m 3 #[.val (.int p1), .val (.int p2)] [(.int ((p1.toUInt32 >>> (p2 &&& 31).toUInt32).toInt32))]))
  refine OGo.to (fun _ k => XS.iconst X0.here hx rfl (hb hby d4_3) k) ?_
  show OGo p e below _ (s₁.setTop (mkF m 4 #[.val (.int p1), .val (.int p2)] [(.int (1 : Int32)), (.int ((p1.toUInt32 >>> (p2 &&& 31).toUInt32).toInt32))]))
  refine OGo.to (fun _ k => XS.iand X0.here hx rfl (hb hby d4_4) rfl k) ?_
  show OGo p e below _ (s₁.setTop (mkF m 5 #[.val (.int p1), .val (.int p2)] [(.int (((p1.toUInt32 >>> (p2 &&& 31).toUInt32).toInt32) &&& (1 : Int32)))]))
  refine OGo.ret (Q := Q4 Z p1 p2 h0 n0) X0 (some (.int (((p1.toUInt32 >>> (p2 &&& 31).toUInt32).toInt32) &&& (1 : Int32)))) (fun h => by rw [Bd.returns] at h; cases h) Bd.notSynchronized (fun fs hr => retI X0 hx Bd.returns (hb hby d4_5) hr) ?_ (by decide) (by decide)
  show Q4 Z p1 p2 h0 n0 _ s₁.heap _
  rw [e0]
  exact ⟨rfl, N0, rfl⟩
theorem d3_0 : decode method_4_code 0 = .ok (.iload_n 0, 1) := by decide +kernel
theorem d3_1 : decode method_4_code 1 = .ok (.iconst 0, 1) := by decide +kernel
theorem d3_2 : decode method_4_code 2 = .ok (.invokestatic 36, 3) := by decide +kernel
theorem d3_5 : decode method_4_code 5 = .ok (.iload_n 0, 1) := by decide +kernel
theorem d3_6 : decode method_4_code 6 = .ok (.iconst 1, 1) := by decide +kernel
theorem d3_7 : decode method_4_code 7 = .ok (.invokestatic 36, 3) := by decide +kernel
theorem d3_10 : decode method_4_code 10 = .ok (.iadd, 1) := by decide +kernel
theorem d3_11 : decode method_4_code 11 = .ok (.iload_n 0, 1) := by decide +kernel
theorem d3_12 : decode method_4_code 12 = .ok (.iconst 2, 1) := by decide +kernel
theorem d3_13 : decode method_4_code 13 = .ok (.invokestatic 36, 3) := by decide +kernel
theorem d3_16 : decode method_4_code 16 = .ok (.iadd, 1) := by decide +kernel
theorem d3_17 : decode method_4_code 17 = .ok (.iload_n 0, 1) := by decide +kernel
theorem d3_18 : decode method_4_code 18 = .ok (.iconst 3, 1) := by decide +kernel
theorem d3_19 : decode method_4_code 19 = .ok (.invokestatic 36, 3) := by decide +kernel
theorem d3_22 : decode method_4_code 22 = .ok (.iadd, 1) := by decide +kernel
theorem d3_23 : decode method_4_code 23 = .ok (.iload_n 0, 1) := by decide +kernel
theorem d3_24 : decode method_4_code 24 = .ok (.iconst 4, 1) := by decide +kernel
theorem d3_25 : decode method_4_code 25 = .ok (.invokestatic 36, 3) := by decide +kernel
theorem d3_28 : decode method_4_code 28 = .ok (.iadd, 1) := by decide +kernel
theorem d3_29 : decode method_4_code 29 = .ok (.ireturn, 1) := by decide +kernel
theorem ef_3 (m : MethodId) (x0 : Int32) : entryFrame m #[(.int x0)] 1 = mkF m 0 #[.val (.int x0)] [] := by first | (simp [entryFrame, mkF, argsToLocals, Value.category]; done) | rfl
def Q3 (Z : State) (p1 : Int32) (h0 : Heap) (n0 : Nat) (v : Option Value) (h : Heap) (L : List Loc) : Prop := v = some (.int (own_count p1)) ∧ Fr n0 L ∧ h = h0
set_option maxRecDepth 65536 in
set_option maxHeartbeats 40000000 in
theorem rm3 (l : Launch) (Z : State) (a0 : Array Value) (hw : ∀ d ∈ tables_1, d.before a0 Z = true) (ws : List Jvm.Cond) (p1 : Int32) (h0 : Heap) (n0 : Nat) (Z0 : n0 ≤ h0.size) :
    MetFree l (⟨"com/example/cogram/cogram/index/PostingsEntriesPinLaw", "count", "(I)I"⟩ : MethodName) (head1 (Jvm.Cond.code (⟨"com/example/cogram/cogram/index/PostingsEntriesPinLaw", "count", "(I)I"⟩ : MethodName) method_4_code 1 (some .int) :: ws) ({ frames := 1, cells := 0, slots := 0, locals := 14 } : Room)) (fun a U => a = #[(.int p1)] ∧ Z.Warmed39 U.vm ∧ U.heap = h0) (fun _ _ _ _ _ => True) (fun _ U o U' => ∃ v L, o = .returned v ∧ Q3 Z p1 h0 n0 v U'.heap L ∧ FrameEnd U o U' L ({ frames := 1, cells := 0, slots := 0, locals := 14 } : Room).cells ({ frames := 1, cells := 0, slots := 0, locals := 14 } : Room).slots) := by
  refine MetFree.of_bodySF (plainFor_of_name pn_0) hisR ?_
  intro p e s m args below meth c s₁ Bd hml0 hP hK
  obtain ⟨rfl, hZ, hh⟩ := hP
  have hx := Bd.exec
  have hby := Bd.bytes
  have hml : c.maxLocals = 1 := hml0
  have hown : s.vm.findClass "com/example/cogram/cogram/index/PostingsEntriesPinLaw" = some m.cls := findClass_of_methodNamed Bd.named
  have hnm := (name_of_methodNamed Bd.named Bd.method).1
  have X0 : Stand p l e ({ frames := 1, cells := 0, slots := 0, locals := 14 } : Room) s m #[(.int p1)] below meth c s₁ [] 0 0 := Stand.of_body Bd
  have e0 : s₁.heap = h0 := by rw [← hh, Bd.state]; rfl
  have N0 := Fr.nil n0
  show OGo p e below (fun s₂ o => ∃ v L, o = .returned v ∧ Q3 Z p1 h0 n0 v s₂.heap L ∧ FrameEnd s o s₂ L ({ frames := 1, cells := 0, slots := 0, locals := 14 } : Room).cells ({ frames := 1, cells := 0, slots := 0, locals := 14 } : Room).slots) _
  refine OGo.to (fun _ k => castTop (ef_3 m p1) k) ?_
  refine OGo.to (fun _ k => XS.iloadN X0.here hx rfl (hb hby d3_0) rfl k) ?_
  show OGo p e below _ (s₁.setTop (mkF m 1 #[.val (.int p1)] [(.int p1)]))
  refine OGo.to (fun _ k => XS.iconst X0.here hx rfl (hb hby d3_1) k) ?_
  show OGo p e below _ (s₁.setTop (mkF m 2 #[.val (.int p1)] [(.int (0 : Int32)), (.int p1)]))
  obtain ⟨_, T_1, Lc_1, X_1, hQ_1, st_1⟩ := own_un X0 (Q := Q4 Z p1 (0 : Int32) h0 n0) (rc := 0) (rs := 0) (W := fun v B => ∀ target, Steps p.tables e below (B.setTop { (mkF m 2 #[.val (.int p1)] [(.int (0 : Int32)), (.int p1)]) with pc := 5, stack := v.toList ++ [] }) target → Steps p.tables e below (s₁.setTop (mkF m 2 #[.val (.int p1)] [(.int (0 : Int32)), (.int p1)])) target) <| Jvm.LawKit.callS X0 hx (y := (⟨"com/example/cogram/cogram/index/PostingsEntriesPinLaw", "bit", "(II)I"⟩ : MethodName)) hown (mvT hZ (hw _ (List.mem_of_getElem? (i := 12) rfl))) (mvT hZ (hw _ (List.mem_of_getElem? (i := 13) rfl))) (mvT hZ (hw _ (List.mem_of_getElem? (i := 7) rfl))) (mvT hZ (hw _ (List.mem_of_getElem? (i := 14) rfl))) (by decide) (backOf (W := 0) (rm4 l Z a0 hw [] p1 (0 : Int32) h0 n0 Z0 ) hZ (hw _ (List.mem_of_getElem? (i := 14) rfl)) (hw _ (List.mem_of_getElem? (i := 7) rfl)) (by decide) (by decide)) (g := (mkF m 2 #[.val (.int p1)] [(.int (0 : Int32)), (.int p1)])) rfl (by rw [hml]; rfl) (argsL := [(.int p1), (.int (0 : Int32))]) (rest := []) (lenOf pd_0 rfl) rfl (by show 2 * 0 + _ ≤ _; exact Nat.le_of_eq rfl) (hb hby d3_2) (fun _ _ => ⟨rfl, e0, (by decide : 0 + 0 ≤ _), (by decide : 0 + 0 ≤ _)⟩)
  obtain ⟨rfl, N_1q, e_1⟩ := hQ_1
  have N_1 := Fr.app N0 N_1q
  refine OGo.to st_1 ?_
  show OGo p e below _ (T_1.setTop (mkF m 5 #[.val (.int p1)] [(.int (own_bit p1 (0 : Int32)))]))
  refine OGo.to (fun _ k => XS.iloadN X_1.here hx rfl (hb hby d3_5) rfl k) ?_
  show OGo p e below _ (T_1.setTop (mkF m 6 #[.val (.int p1)] [(.int p1), (.int (own_bit p1 (0 : Int32)))]))
  refine OGo.to (fun _ k => XS.iconst X_1.here hx rfl (hb hby d3_6) k) ?_
  show OGo p e below _ (T_1.setTop (mkF m 7 #[.val (.int p1)] [(.int (1 : Int32)), (.int p1), (.int (own_bit p1 (0 : Int32)))]))
  obtain ⟨_, T_2, Lc_2, X_2, hQ_2, st_2⟩ := own_un X_1 (Q := Q4 Z p1 (1 : Int32) h0 n0) (rc := 0) (rs := 0) (W := fun v B => ∀ target, Steps p.tables e below (B.setTop { (mkF m 7 #[.val (.int p1)] [(.int (1 : Int32)), (.int p1), (.int (own_bit p1 (0 : Int32)))]) with pc := 10, stack := v.toList ++ [(.int (own_bit p1 (0 : Int32)))] }) target → Steps p.tables e below (T_1.setTop (mkF m 7 #[.val (.int p1)] [(.int (1 : Int32)), (.int p1), (.int (own_bit p1 (0 : Int32)))])) target) <| Jvm.LawKit.callS X_1 hx (y := (⟨"com/example/cogram/cogram/index/PostingsEntriesPinLaw", "bit", "(II)I"⟩ : MethodName)) hown (mvT hZ (hw _ (List.mem_of_getElem? (i := 12) rfl))) (mvT hZ (hw _ (List.mem_of_getElem? (i := 13) rfl))) (mvT hZ (hw _ (List.mem_of_getElem? (i := 7) rfl))) (mvT hZ (hw _ (List.mem_of_getElem? (i := 14) rfl))) (by decide) (backOf (W := 1) (rm4 l Z a0 hw [] p1 (1 : Int32) h0 n0 Z0 ) hZ (hw _ (List.mem_of_getElem? (i := 14) rfl)) (hw _ (List.mem_of_getElem? (i := 7) rfl)) (by decide) (by decide)) (g := (mkF m 7 #[.val (.int p1)] [(.int (1 : Int32)), (.int p1), (.int (own_bit p1 (0 : Int32)))])) rfl (by rw [hml]; rfl) (argsL := [(.int p1), (.int (1 : Int32))]) (rest := [(.int (own_bit p1 (0 : Int32)))]) (lenOf pd_0 rfl) rfl (by show 2 * 0 + _ ≤ _; exact Nat.le_of_eq rfl) (hb hby d3_7) (fun _ _ => ⟨rfl, e_1, (by decide : 0 + 0 ≤ _), (by decide : 0 + 0 ≤ _)⟩)
  obtain ⟨rfl, N_2q, e_2⟩ := hQ_2
  have N_2 := Fr.app N_1 N_2q
  refine OGo.to st_2 ?_
  show OGo p e below _ (T_2.setTop (mkF m 10 #[.val (.int p1)] [(.int (own_bit p1 (1 : Int32))), (.int (own_bit p1 (0 : Int32)))]))
  refine OGo.to (fun _ k => XS.iadd X_2.here hx rfl (hb hby d3_10) rfl k) ?_
  show OGo p e below _ (T_2.setTop (mkF m 11 #[.val (.int p1)] [(.int ((own_bit p1 (0 : Int32)) + (own_bit p1 (1 : Int32))))]))
  refine OGo.to (fun _ k => XS.iloadN X_2.here hx rfl (hb hby d3_11) rfl k) ?_
  show OGo p e below _ (T_2.setTop (mkF m 12 #[.val (.int p1)] [(.int p1), (.int ((own_bit p1 (0 : Int32)) + (own_bit p1 (1 : Int32))))]))
  refine OGo.to (fun _ k => XS.iconst X_2.here hx rfl (hb hby d3_12) k) ?_
  show OGo p e below _ (T_2.setTop (mkF m 13 #[.val (.int p1)] [(.int (2 : Int32)), (.int p1), (.int ((own_bit p1 (0 : Int32)) + (own_bit p1 (1 : Int32))))]))
  obtain ⟨_, T_3, Lc_3, X_3, hQ_3, st_3⟩ := own_un X_2 (Q := Q4 Z p1 (2 : Int32) h0 n0) (rc := 0) (rs := 0) (W := fun v B => ∀ target, Steps p.tables e below (B.setTop { (mkF m 13 #[.val (.int p1)] [(.int (2 : Int32)), (.int p1), (.int ((own_bit p1 (0 : Int32)) + (own_bit p1 (1 : Int32))))]) with pc := 16, stack := v.toList ++ [(.int ((own_bit p1 (0 : Int32)) + (own_bit p1 (1 : Int32))))] }) target → Steps p.tables e below (T_2.setTop (mkF m 13 #[.val (.int p1)] [(.int (2 : Int32)), (.int p1), (.int ((own_bit p1 (0 : Int32)) + (own_bit p1 (1 : Int32))))])) target) <| Jvm.LawKit.callS X_2 hx (y := (⟨"com/example/cogram/cogram/index/PostingsEntriesPinLaw", "bit", "(II)I"⟩ : MethodName)) hown (mvT hZ (hw _ (List.mem_of_getElem? (i := 12) rfl))) (mvT hZ (hw _ (List.mem_of_getElem? (i := 13) rfl))) (mvT hZ (hw _ (List.mem_of_getElem? (i := 7) rfl))) (mvT hZ (hw _ (List.mem_of_getElem? (i := 14) rfl))) (by decide) (backOf (W := 1) (rm4 l Z a0 hw [] p1 (2 : Int32) h0 n0 Z0 ) hZ (hw _ (List.mem_of_getElem? (i := 14) rfl)) (hw _ (List.mem_of_getElem? (i := 7) rfl)) (by decide) (by decide)) (g := (mkF m 13 #[.val (.int p1)] [(.int (2 : Int32)), (.int p1), (.int ((own_bit p1 (0 : Int32)) + (own_bit p1 (1 : Int32))))])) rfl (by rw [hml]; rfl) (argsL := [(.int p1), (.int (2 : Int32))]) (rest := [(.int ((own_bit p1 (0 : Int32)) + (own_bit p1 (1 : Int32))))]) (lenOf pd_0 rfl) rfl (by show 2 * 0 + _ ≤ _; exact Nat.le_of_eq rfl) (hb hby d3_13) (fun _ _ => ⟨rfl, e_2, (by decide : 0 + 0 ≤ _), (by decide : 0 + 0 ≤ _)⟩)
  obtain ⟨rfl, N_3q, e_3⟩ := hQ_3
  have N_3 := Fr.app N_2 N_3q
  refine OGo.to st_3 ?_
  show OGo p e below _ (T_3.setTop (mkF m 16 #[.val (.int p1)] [(.int (own_bit p1 (2 : Int32))), (.int ((own_bit p1 (0 : Int32)) + (own_bit p1 (1 : Int32))))]))
  refine OGo.to (fun _ k => XS.iadd X_3.here hx rfl (hb hby d3_16) rfl k) ?_
  show OGo p e below _ (T_3.setTop (mkF m 17 #[.val (.int p1)] [(.int (((own_bit p1 (0 : Int32)) + (own_bit p1 (1 : Int32))) + (own_bit p1 (2 : Int32))))]))
  refine OGo.to (fun _ k => XS.iloadN X_3.here hx rfl (hb hby d3_17) rfl k) ?_
  show OGo p e below _ (T_3.setTop (mkF m 18 #[.val (.int p1)] [(.int p1), (.int (((own_bit p1 (0 : Int32)) + (own_bit p1 (1 : Int32))) + (own_bit p1 (2 : Int32))))]))
  refine OGo.to (fun _ k => XS.iconst X_3.here hx rfl (hb hby d3_18) k) ?_
  show OGo p e below _ (T_3.setTop (mkF m 19 #[.val (.int p1)] [(.int (3 : Int32)), (.int p1), (.int (((own_bit p1 (0 : Int32)) + (own_bit p1 (1 : Int32))) + (own_bit p1 (2 : Int32))))]))
  obtain ⟨_, T_4, Lc_4, X_4, hQ_4, st_4⟩ := own_un X_3 (Q := Q4 Z p1 (3 : Int32) h0 n0) (rc := 0) (rs := 0) (W := fun v B => ∀ target, Steps p.tables e below (B.setTop { (mkF m 19 #[.val (.int p1)] [(.int (3 : Int32)), (.int p1), (.int (((own_bit p1 (0 : Int32)) + (own_bit p1 (1 : Int32))) + (own_bit p1 (2 : Int32))))]) with pc := 22, stack := v.toList ++ [(.int (((own_bit p1 (0 : Int32)) + (own_bit p1 (1 : Int32))) + (own_bit p1 (2 : Int32))))] }) target → Steps p.tables e below (T_3.setTop (mkF m 19 #[.val (.int p1)] [(.int (3 : Int32)), (.int p1), (.int (((own_bit p1 (0 : Int32)) + (own_bit p1 (1 : Int32))) + (own_bit p1 (2 : Int32))))])) target) <| Jvm.LawKit.callS X_3 hx (y := (⟨"com/example/cogram/cogram/index/PostingsEntriesPinLaw", "bit", "(II)I"⟩ : MethodName)) hown (mvT hZ (hw _ (List.mem_of_getElem? (i := 12) rfl))) (mvT hZ (hw _ (List.mem_of_getElem? (i := 13) rfl))) (mvT hZ (hw _ (List.mem_of_getElem? (i := 7) rfl))) (mvT hZ (hw _ (List.mem_of_getElem? (i := 14) rfl))) (by decide) (backOf (W := 1) (rm4 l Z a0 hw [] p1 (3 : Int32) h0 n0 Z0 ) hZ (hw _ (List.mem_of_getElem? (i := 14) rfl)) (hw _ (List.mem_of_getElem? (i := 7) rfl)) (by decide) (by decide)) (g := (mkF m 19 #[.val (.int p1)] [(.int (3 : Int32)), (.int p1), (.int (((own_bit p1 (0 : Int32)) + (own_bit p1 (1 : Int32))) + (own_bit p1 (2 : Int32))))])) rfl (by rw [hml]; rfl) (argsL := [(.int p1), (.int (3 : Int32))]) (rest := [(.int (((own_bit p1 (0 : Int32)) + (own_bit p1 (1 : Int32))) + (own_bit p1 (2 : Int32))))]) (lenOf pd_0 rfl) rfl (by show 2 * 0 + _ ≤ _; exact Nat.le_of_eq rfl) (hb hby d3_19) (fun _ _ => ⟨rfl, e_3, (by decide : 0 + 0 ≤ _), (by decide : 0 + 0 ≤ _)⟩)
  obtain ⟨rfl, N_4q, e_4⟩ := hQ_4
  have N_4 := Fr.app N_3 N_4q
  refine OGo.to st_4 ?_
  show OGo p e below _ (T_4.setTop (mkF m 22 #[.val (.int p1)] [(.int (own_bit p1 (3 : Int32))), (.int (((own_bit p1 (0 : Int32)) + (own_bit p1 (1 : Int32))) + (own_bit p1 (2 : Int32))))]))
  refine OGo.to (fun _ k => XS.iadd X_4.here hx rfl (hb hby d3_22) rfl k) ?_
  show OGo p e below _ (T_4.setTop (mkF m 23 #[.val (.int p1)] [(.int ((((own_bit p1 (0 : Int32)) + (own_bit p1 (1 : Int32))) + (own_bit p1 (2 : Int32))) + (own_bit p1 (3 : Int32))))]))
  refine OGo.to (fun _ k => XS.iloadN X_4.here hx rfl (hb hby d3_23) rfl k) ?_
  show OGo p e below _ (T_4.setTop (mkF m 24 #[.val (.int p1)] [(.int p1), (.int ((((own_bit p1 (0 : Int32)) + (own_bit p1 (1 : Int32))) + (own_bit p1 (2 : Int32))) + (own_bit p1 (3 : Int32))))]))
  refine OGo.to (fun _ k => XS.iconst X_4.here hx rfl (hb hby d3_24) k) ?_
  show OGo p e below _ (T_4.setTop (mkF m 25 #[.val (.int p1)] [(.int (4 : Int32)), (.int p1), (.int ((((own_bit p1 (0 : Int32)) + (own_bit p1 (1 : Int32))) + (own_bit p1 (2 : Int32))) + (own_bit p1 (3 : Int32))))]))
  obtain ⟨_, T_5, Lc_5, X_5, hQ_5, st_5⟩ := own_un X_4 (Q := Q4 Z p1 (4 : Int32) h0 n0) (rc := 0) (rs := 0) (W := fun v B => ∀ target, Steps p.tables e below (B.setTop { (mkF m 25 #[.val (.int p1)] [(.int (4 : Int32)), (.int p1), (.int ((((own_bit p1 (0 : Int32)) + (own_bit p1 (1 : Int32))) + (own_bit p1 (2 : Int32))) + (own_bit p1 (3 : Int32))))]) with pc := 28, stack := v.toList ++ [(.int ((((own_bit p1 (0 : Int32)) + (own_bit p1 (1 : Int32))) + (own_bit p1 (2 : Int32))) + (own_bit p1 (3 : Int32))))] }) target → Steps p.tables e below (T_4.setTop (mkF m 25 #[.val (.int p1)] [(.int (4 : Int32)), (.int p1), (.int ((((own_bit p1 (0 : Int32)) + (own_bit p1 (1 : Int32))) + (own_bit p1 (2 : Int32))) + (own_bit p1 (3 : Int32))))])) target) <| Jvm.LawKit.callS X_4 hx (y := (⟨"com/example/cogram/cogram/index/PostingsEntriesPinLaw", "bit", "(II)I"⟩ : MethodName)) hown (mvT hZ (hw _ (List.mem_of_getElem? (i := 12) rfl))) (mvT hZ (hw _ (List.mem_of_getElem? (i := 13) rfl))) (mvT hZ (hw _ (List.mem_of_getElem? (i := 7) rfl))) (mvT hZ (hw _ (List.mem_of_getElem? (i := 14) rfl))) (by decide) (backOf (W := 1) (rm4 l Z a0 hw [] p1 (4 : Int32) h0 n0 Z0 ) hZ (hw _ (List.mem_of_getElem? (i := 14) rfl)) (hw _ (List.mem_of_getElem? (i := 7) rfl)) (by decide) (by decide)) (g := (mkF m 25 #[.val (.int p1)] [(.int (4 : Int32)), (.int p1), (.int ((((own_bit p1 (0 : Int32)) + (own_bit p1 (1 : Int32))) + (own_bit p1 (2 : Int32))) + (own_bit p1 (3 : Int32))))])) rfl (by rw [hml]; rfl) (argsL := [(.int p1), (.int (4 : Int32))]) (rest := [(.int ((((own_bit p1 (0 : Int32)) + (own_bit p1 (1 : Int32))) + (own_bit p1 (2 : Int32))) + (own_bit p1 (3 : Int32))))]) (lenOf pd_0 rfl) rfl (by show 2 * 0 + _ ≤ _; exact Nat.le_of_eq rfl) (hb hby d3_25) (fun _ _ => ⟨rfl, e_4, (by decide : 0 + 0 ≤ _), (by decide : 0 + 0 ≤ _)⟩)
  obtain ⟨rfl, N_5q, e_5⟩ := hQ_5
  have N_5 := Fr.app N_4 N_5q
  refine OGo.to st_5 ?_
  show OGo p e below _ (T_5.setTop (mkF m 28 #[.val (.int p1)] [(.int (own_bit p1 (4 : Int32))), (.int ((((own_bit p1 (0 : Int32)) + (own_bit p1 (1 : Int32))) + (own_bit p1 (2 : Int32))) + (own_bit p1 (3 : Int32))))]))
  refine OGo.to (fun _ k => XS.iadd X_5.here hx rfl (hb hby d3_28) rfl k) ?_
  show OGo p e below _ (T_5.setTop (mkF m 29 #[.val (.int p1)] [(.int (((((own_bit p1 (0 : Int32)) + (own_bit p1 (1 : Int32))) + (own_bit p1 (2 : Int32))) + (own_bit p1 (3 : Int32))) + (own_bit p1 (4 : Int32))))]))
  refine OGo.ret (Q := Q3 Z p1 h0 n0) X_5 (some (.int (((((own_bit p1 (0 : Int32)) + (own_bit p1 (1 : Int32))) + (own_bit p1 (2 : Int32))) + (own_bit p1 (3 : Int32))) + (own_bit p1 (4 : Int32))))) (fun h => by rw [Bd.returns] at h; cases h) Bd.notSynchronized (fun fs hr => retI X_5 hx Bd.returns (hb hby d3_29) hr) ?_ (by decide) (by decide)
  show Q3 Z p1 h0 n0 _ T_5.heap _
  rw [e_5]
  exact ⟨rfl, N_5, rfl⟩
theorem d2_0 : decode method_5_code 0 = .ok (.iload_n 0, 1) := by decide +kernel
theorem d2_1 : decode method_5_code 1 = .ok (.invokestatic 39, 3) := by decide +kernel
theorem d2_4 : decode method_5_code 4 = .ok (.newarray .int, 2) := by decide +kernel
theorem d2_6 : decode method_5_code 6 = .ok (.astore 6, 2) := by decide +kernel
theorem d2_8 : decode method_5_code 8 = .ok (.iconst 0, 1) := by decide +kernel
theorem d2_9 : decode method_5_code 9 = .ok (.istore 7, 2) := by decide +kernel
theorem d2_11 : decode method_5_code 11 = .ok (.iload_n 0, 1) := by decide +kernel
theorem d2_12 : decode method_5_code 12 = .ok (.iconst 0, 1) := by decide +kernel
theorem d2_13 : decode method_5_code 13 = .ok (.invokestatic 36, 3) := by decide +kernel
theorem d2_16 : decode method_5_code 16 = .ok (.iconst 1, 1) := by decide +kernel
theorem d2_17 : decode method_5_code 17 = .ok (.if_icmp .ne 12, 3) := by decide +kernel
theorem d2_20 : decode method_5_code 20 = .ok (.aload 6, 2) := by decide +kernel
theorem d2_22 : decode method_5_code 22 = .ok (.iload 7, 2) := by decide +kernel
theorem d2_24 : decode method_5_code 24 = .ok (.iload_n 1, 1) := by decide +kernel
theorem d2_25 : decode method_5_code 25 = .ok (.iastore, 1) := by decide +kernel
theorem d2_26 : decode method_5_code 26 = .ok (.iinc 7 1, 3) := by decide +kernel
theorem d2_29 : decode method_5_code 29 = .ok (.iload_n 0, 1) := by decide +kernel
theorem d2_30 : decode method_5_code 30 = .ok (.iconst 1, 1) := by decide +kernel
theorem d2_31 : decode method_5_code 31 = .ok (.invokestatic 36, 3) := by decide +kernel
theorem d2_34 : decode method_5_code 34 = .ok (.iconst 1, 1) := by decide +kernel
theorem d2_35 : decode method_5_code 35 = .ok (.if_icmp .ne 12, 3) := by decide +kernel
theorem d2_38 : decode method_5_code 38 = .ok (.aload 6, 2) := by decide +kernel
theorem d2_40 : decode method_5_code 40 = .ok (.iload 7, 2) := by decide +kernel
theorem d2_42 : decode method_5_code 42 = .ok (.iload_n 2, 1) := by decide +kernel
theorem d2_43 : decode method_5_code 43 = .ok (.iastore, 1) := by decide +kernel
theorem d2_44 : decode method_5_code 44 = .ok (.iinc 7 1, 3) := by decide +kernel
theorem d2_47 : decode method_5_code 47 = .ok (.iload_n 0, 1) := by decide +kernel
theorem d2_48 : decode method_5_code 48 = .ok (.iconst 2, 1) := by decide +kernel
theorem d2_49 : decode method_5_code 49 = .ok (.invokestatic 36, 3) := by decide +kernel
theorem d2_52 : decode method_5_code 52 = .ok (.iconst 1, 1) := by decide +kernel
theorem d2_53 : decode method_5_code 53 = .ok (.if_icmp .ne 12, 3) := by decide +kernel
theorem d2_56 : decode method_5_code 56 = .ok (.aload 6, 2) := by decide +kernel
theorem d2_58 : decode method_5_code 58 = .ok (.iload 7, 2) := by decide +kernel
theorem d2_60 : decode method_5_code 60 = .ok (.iload_n 3, 1) := by decide +kernel
theorem d2_61 : decode method_5_code 61 = .ok (.iastore, 1) := by decide +kernel
theorem d2_62 : decode method_5_code 62 = .ok (.iinc 7 1, 3) := by decide +kernel
theorem d2_65 : decode method_5_code 65 = .ok (.iload_n 0, 1) := by decide +kernel
theorem d2_66 : decode method_5_code 66 = .ok (.iconst 3, 1) := by decide +kernel
theorem d2_67 : decode method_5_code 67 = .ok (.invokestatic 36, 3) := by decide +kernel
theorem d2_70 : decode method_5_code 70 = .ok (.iconst 1, 1) := by decide +kernel
theorem d2_71 : decode method_5_code 71 = .ok (.if_icmp .ne 13, 3) := by decide +kernel
theorem d2_74 : decode method_5_code 74 = .ok (.aload 6, 2) := by decide +kernel
theorem d2_76 : decode method_5_code 76 = .ok (.iload 7, 2) := by decide +kernel
theorem d2_78 : decode method_5_code 78 = .ok (.iload 4, 2) := by decide +kernel
theorem d2_80 : decode method_5_code 80 = .ok (.iastore, 1) := by decide +kernel
theorem d2_81 : decode method_5_code 81 = .ok (.iinc 7 1, 3) := by decide +kernel
theorem d2_84 : decode method_5_code 84 = .ok (.iload_n 0, 1) := by decide +kernel
theorem d2_85 : decode method_5_code 85 = .ok (.iconst 4, 1) := by decide +kernel
theorem d2_86 : decode method_5_code 86 = .ok (.invokestatic 36, 3) := by decide +kernel
theorem d2_89 : decode method_5_code 89 = .ok (.iconst 1, 1) := by decide +kernel
theorem d2_90 : decode method_5_code 90 = .ok (.if_icmp .ne 13, 3) := by decide +kernel
theorem d2_93 : decode method_5_code 93 = .ok (.aload 6, 2) := by decide +kernel
theorem d2_95 : decode method_5_code 95 = .ok (.iload 7, 2) := by decide +kernel
theorem d2_97 : decode method_5_code 97 = .ok (.iload 5, 2) := by decide +kernel
theorem d2_99 : decode method_5_code 99 = .ok (.iastore, 1) := by decide +kernel
theorem d2_100 : decode method_5_code 100 = .ok (.iinc 7 1, 3) := by decide +kernel
theorem d2_103 : decode method_5_code 103 = .ok (.aload 6, 2) := by decide +kernel
theorem d2_105 : decode method_5_code 105 = .ok (.areturn, 1) := by decide +kernel
theorem ef_2 (m : MethodId) (x0 : Int32) (x1 : Int32) (x2 : Int32) (x3 : Int32) (x4 : Int32) (x5 : Int32) : entryFrame m #[(.int x0), (.int x1), (.int x2), (.int x3), (.int x4), (.int x5)] 8 = mkF m 0 #[.val (.int x0), .val (.int x1), .val (.int x2), .val (.int x3), .val (.int x4), .val (.int x5), .unset, .unset] [] := by first | (simp [entryFrame, mkF, argsToLocals, Value.category]; done) | rfl
def Q2 (Z : State) (p1 : Int32) (p2 : Int32) (p3 : Int32) (p4 : Int32) (p5 : Int32) (p6 : Int32) (h0 : Heap) (n0 : Nat) (v : Option Value) (h : Heap) (L : List Loc) : Prop := ∃ (b : Addr), ∃ (kb : ClassId), v = some (.ref b) ∧ Fr n0 L ∧ Keep h0 h [] ∧ n0 ≤ b ∧ h0.size ≤ b ∧ Arv Z h b kb .int (own_i (own_sel p1 p2 p3 p4 p5 p6).length) ((own_sel p1 p2 p3 p4 p5 p6).map Value.int) (.int (0 : Int32))
set_option maxRecDepth 65536 in
set_option maxHeartbeats 40000000 in
theorem rm2 (l : Launch) (Z : State) (a0 : Array Value) (hw : ∀ d ∈ tables_1, d.before a0 Z = true) (ws : List Jvm.Cond) (p1 : Int32) (p2 : Int32) (p3 : Int32) (p4 : Int32) (p5 : Int32) (p6 : Int32) (h0 : Heap) (n0 : Nat) (Z0 : n0 ≤ h0.size) :
    MetFree l (⟨"com/example/cogram/cogram/index/PostingsEntriesPinLaw", "subset", "(IIIIII)[I"⟩ : MethodName) (head1 (Jvm.Cond.code (⟨"com/example/cogram/cogram/index/PostingsEntriesPinLaw", "subset", "(IIIIII)[I"⟩ : MethodName) method_5_code 8 (some (.array .int)) :: ws) ({ frames := 2, cells := 1, slots := 5, locals := 26 } : Room)) (fun a U => a = #[(.int p1), (.int p2), (.int p3), (.int p4), (.int p5), (.int p6)] ∧ Z.Warmed39 U.vm ∧ U.heap = h0) (fun _ _ _ _ _ => True) (fun _ U o U' => ∃ v L, o = .returned v ∧ Q2 Z p1 p2 p3 p4 p5 p6 h0 n0 v U'.heap L ∧ FrameEnd U o U' L ({ frames := 2, cells := 1, slots := 5, locals := 26 } : Room).cells ({ frames := 2, cells := 1, slots := 5, locals := 26 } : Room).slots) := by
  refine MetFree.of_bodySF (plainFor_of_name pn_0) hisR ?_
  intro p e s m args below meth c s₁ Bd hml0 hP hK
  obtain ⟨rfl, hZ, hh⟩ := hP
  have hx := Bd.exec
  have hby := Bd.bytes
  have hml : c.maxLocals = 8 := hml0
  have hown : s.vm.findClass "com/example/cogram/cogram/index/PostingsEntriesPinLaw" = some m.cls := findClass_of_methodNamed Bd.named
  have hnm := (name_of_methodNamed Bd.named Bd.method).1
  have X0 : Stand p l e ({ frames := 2, cells := 1, slots := 5, locals := 26 } : Room) s m #[(.int p1), (.int p2), (.int p3), (.int p4), (.int p5), (.int p6)] below meth c s₁ [] 0 0 := Stand.of_body Bd
  have e0 : s₁.heap = h0 := by rw [← hh, Bd.state]; rfl
  have N0 := Fr.nil n0
  show OGo p e below (fun s₂ o => ∃ v L, o = .returned v ∧ Q2 Z p1 p2 p3 p4 p5 p6 h0 n0 v s₂.heap L ∧ FrameEnd s o s₂ L ({ frames := 2, cells := 1, slots := 5, locals := 26 } : Room).cells ({ frames := 2, cells := 1, slots := 5, locals := 26 } : Room).slots) _
  refine OGo.to (fun _ k => castTop (ef_2 m p1 p2 p3 p4 p5 p6) k) ?_
  have be0 := own_bitI p1 (0 : Int32)
  have be1 := own_bitI p1 (1 : Int32)
  have be2 := own_bitI p1 (2 : Int32)
  have be3 := own_bitI p1 (3 : Int32)
  have be4 := own_bitI p1 (4 : Int32)
  refine OGo.to (fun _ k => XS.iloadN X0.here hx rfl (hb hby d2_0) rfl k) ?_
  show OGo p e below _ (s₁.setTop (mkF m 1 #[.val (.int p1), .val (.int p2), .val (.int p3), .val (.int p4), .val (.int p5), .val (.int p6), .unset, .unset] [(.int p1)]))
  obtain ⟨_, T_1, Lc_1, X_1, hQ_1, st_1⟩ := own_un X0 (Q := Q3 Z p1 h0 n0) (rc := 0) (rs := 0) (W := fun v B => ∀ target, Steps p.tables e below (B.setTop { (mkF m 1 #[.val (.int p1), .val (.int p2), .val (.int p3), .val (.int p4), .val (.int p5), .val (.int p6), .unset, .unset] [(.int p1)]) with pc := 4, stack := v.toList ++ [] }) target → Steps p.tables e below (s₁.setTop (mkF m 1 #[.val (.int p1), .val (.int p2), .val (.int p3), .val (.int p4), .val (.int p5), .val (.int p6), .unset, .unset] [(.int p1)])) target) <| Jvm.LawKit.callS X0 hx (y := (⟨"com/example/cogram/cogram/index/PostingsEntriesPinLaw", "count", "(I)I"⟩ : MethodName)) hown (mvT hZ (hw _ (List.mem_of_getElem? (i := 9) rfl))) (mvT hZ (hw _ (List.mem_of_getElem? (i := 10) rfl))) (mvT hZ (hw _ (List.mem_of_getElem? (i := 7) rfl))) (mvT hZ (hw _ (List.mem_of_getElem? (i := 11) rfl))) (by decide) (backOf (W := 0) (rm3 l Z a0 hw [] p1 h0 n0 Z0 ) hZ (hw _ (List.mem_of_getElem? (i := 11) rfl)) (hw _ (List.mem_of_getElem? (i := 7) rfl)) (by decide) (by decide)) (g := (mkF m 1 #[.val (.int p1), .val (.int p2), .val (.int p3), .val (.int p4), .val (.int p5), .val (.int p6), .unset, .unset] [(.int p1)])) rfl (by rw [hml]; rfl) (argsL := [(.int p1)]) (rest := []) (lenOf pd_1 rfl) rfl (by show 2 * 0 + _ ≤ _; exact Nat.le_of_eq rfl) (hb hby d2_1) (fun _ _ => ⟨rfl, e0, (by decide : 0 + 0 ≤ _), (by decide : 0 + 0 ≤ _)⟩)
  obtain ⟨rfl, N_1q, e_1⟩ := hQ_1
  have N_1 := Fr.app N0 N_1q
  refine OGo.to st_1 ?_
  show OGo p e below _ (T_1.setTop (mkF m 4 #[.val (.int p1), .val (.int p2), .val (.int p3), .val (.int p4), .val (.int p5), .val (.int p6), .unset, .unset] [(.int (own_count p1))]))
  obtain ⟨T_2, h_2, k_2, X_2, e_2, E_2, A_2, st_2⟩ := newP X_1 hx hZ (hw _ (List.mem_of_getElem? (i := 15) rfl)) e_1 (g := (mkF m 4 #[.val (.int p1), .val (.int p2), .val (.int p3), .val (.int p4), .val (.int p5), .val (.int p6), .unset, .unset] [(.int (own_count p1))])) rfl (hb hby d2_4) rfl (own_nlti (show (0 : Int) ≤ (own_count p1).toInt by rw [own_countI p1]; omega)) (cap := 5) (own_clampLe (show (own_count p1).toInt ≤ (5 : Nat) by rw [own_countI p1]; omega)) (by decide) (by decide) (by decide)
  obtain ⟨b_2, g_2⟩ : ∃ z, z = h0.size := ⟨_, rfl⟩
  rw [← g_2] at A_2 st_2
  have g_b_2 : n0 ≤ b_2 := Nat.le_trans Z0 (Nat.le_of_eq g_2.symm)
  have sz_b_2 : h0.size ≤ b_2 := Nat.le_trans (Keep.refl h0 []).1 (Nat.le_of_eq g_2.symm)
  refine OGo.to st_2 ?_
  have z_3 : n0 ≤ h_2.size := Nat.le_trans Z0 E_2.1
  have K_4 : Keep h0 h_2 [] := (Keep.refl h0 []).ext E_2
  have V_2 : Arv Z h_2 b_2 k_2 .int (own_count p1) [(.int (0 : Int32)), (.int (0 : Int32)), (.int (0 : Int32)), (.int (0 : Int32)), (.int (0 : Int32))] (.int (0 : Int32)) := (Arv.new A_2 (own_nlti (show (0 : Int) ≤ (own_count p1).toInt by rw [own_countI p1]; omega))).pad (pad_rep [] (.int (0 : Int32)) 5)
  show OGo p e below _ (T_2.setTop (mkF m 6 #[.val (.int p1), .val (.int p2), .val (.int p3), .val (.int p4), .val (.int p5), .val (.int p6), .unset, .unset] [(.ref b_2)]))
  refine OGo.to (fun _ k => XS.astore X_2.here hx rfl (hb hby d2_6) rfl rfl (l' := #[.val (.int p1), .val (.int p2), .val (.int p3), .val (.int p4), .val (.int p5), .val (.int p6), .val (.ref b_2), .unset]) rfl k) ?_
  show OGo p e below _ (T_2.setTop (mkF m 8 #[.val (.int p1), .val (.int p2), .val (.int p3), .val (.int p4), .val (.int p5), .val (.int p6), .val (.ref b_2), .unset] []))
  refine OGo.to (fun _ k => XS.iconst X_2.here hx rfl (hb hby d2_8) k) ?_
  show OGo p e below _ (T_2.setTop (mkF m 9 #[.val (.int p1), .val (.int p2), .val (.int p3), .val (.int p4), .val (.int p5), .val (.int p6), .val (.ref b_2), .unset] [(.int (0 : Int32))]))
  refine OGo.to (fun _ k => XS.istore X_2.here hx rfl (hb hby d2_9) rfl (l' := #[.val (.int p1), .val (.int p2), .val (.int p3), .val (.int p4), .val (.int p5), .val (.int p6), .val (.ref b_2), .val (.int (0 : Int32))]) rfl k) ?_
  show OGo p e below _ (T_2.setTop (mkF m 11 #[.val (.int p1), .val (.int p2), .val (.int p3), .val (.int p4), .val (.int p5), .val (.int p6), .val (.ref b_2), .val (.int (0 : Int32))] []))
  refine OGo.to (fun _ k => XS.iloadN X_2.here hx rfl (hb hby d2_11) rfl k) ?_
  show OGo p e below _ (T_2.setTop (mkF m 12 #[.val (.int p1), .val (.int p2), .val (.int p3), .val (.int p4), .val (.int p5), .val (.int p6), .val (.ref b_2), .val (.int (0 : Int32))] [(.int p1)]))
  refine OGo.to (fun _ k => XS.iconst X_2.here hx rfl (hb hby d2_12) k) ?_
  show OGo p e below _ (T_2.setTop (mkF m 13 #[.val (.int p1), .val (.int p2), .val (.int p3), .val (.int p4), .val (.int p5), .val (.int p6), .val (.ref b_2), .val (.int (0 : Int32))] [(.int (0 : Int32)), (.int p1)]))
  obtain ⟨_, T_5, Lc_5, X_5, hQ_5, st_5⟩ := own_un X_2 (Q := Q4 Z p1 (0 : Int32) h_2 n0) (rc := 0) (rs := 0) (W := fun v B => ∀ target, Steps p.tables e below (B.setTop { (mkF m 13 #[.val (.int p1), .val (.int p2), .val (.int p3), .val (.int p4), .val (.int p5), .val (.int p6), .val (.ref b_2), .val (.int (0 : Int32))] [(.int (0 : Int32)), (.int p1)]) with pc := 16, stack := v.toList ++ [] }) target → Steps p.tables e below (T_2.setTop (mkF m 13 #[.val (.int p1), .val (.int p2), .val (.int p3), .val (.int p4), .val (.int p5), .val (.int p6), .val (.ref b_2), .val (.int (0 : Int32))] [(.int (0 : Int32)), (.int p1)])) target) <| Jvm.LawKit.callS X_2 hx (y := (⟨"com/example/cogram/cogram/index/PostingsEntriesPinLaw", "bit", "(II)I"⟩ : MethodName)) hown (mvT hZ (hw _ (List.mem_of_getElem? (i := 12) rfl))) (mvT hZ (hw _ (List.mem_of_getElem? (i := 13) rfl))) (mvT hZ (hw _ (List.mem_of_getElem? (i := 7) rfl))) (mvT hZ (hw _ (List.mem_of_getElem? (i := 14) rfl))) (by decide) (backOf (W := 0) (rm4 l Z a0 hw [] p1 (0 : Int32) h_2 n0 z_3 ) hZ (hw _ (List.mem_of_getElem? (i := 14) rfl)) (hw _ (List.mem_of_getElem? (i := 7) rfl)) (by decide) (by decide)) (g := (mkF m 13 #[.val (.int p1), .val (.int p2), .val (.int p3), .val (.int p4), .val (.int p5), .val (.int p6), .val (.ref b_2), .val (.int (0 : Int32))] [(.int (0 : Int32)), (.int p1)])) rfl (by rw [hml]; rfl) (argsL := [(.int p1), (.int (0 : Int32))]) (rest := []) (lenOf pd_0 rfl) rfl (by show 2 * 0 + _ ≤ _; exact Nat.le_of_eq rfl) (hb hby d2_13) (fun _ _ => ⟨rfl, e_2, (by decide : 1 + 0 ≤ _), (by decide : 5 + 0 ≤ _)⟩)
  obtain ⟨rfl, N_5q, e_5⟩ := hQ_5
  have N_5 := Fr.app N_1 N_5q
  refine OGo.to st_5 ?_
  show OGo p e below _ (T_5.setTop (mkF m 16 #[.val (.int p1), .val (.int p2), .val (.int p3), .val (.int p4), .val (.int p5), .val (.int p6), .val (.ref b_2), .val (.int (0 : Int32))] [(.int (own_bit p1 (0 : Int32)))]))
  refine OGo.to (fun _ k => XS.iconst X_5.here hx rfl (hb hby d2_16) k) ?_
  show OGo p e below _ (T_5.setTop (mkF m 17 #[.val (.int p1), .val (.int p2), .val (.int p3), .val (.int p4), .val (.int p5), .val (.int p6), .val (.ref b_2), .val (.int (0 : Int32))] [(.int (1 : Int32)), (.int (own_bit p1 (0 : Int32)))]))
  by_cases hc17__6 : (own_bit p1 (0 : Int32)) = (1 : Int32)
  ·  -- pc 17: yes
    refine OGo.to (fun _ k => XS.icmpNo X_5.here hx rfl (hb hby d2_17) rfl (teq hc17__6).2 k) ?_
    show OGo p e below _ (T_5.setTop (mkF m 20 #[.val (.int p1), .val (.int p2), .val (.int p3), .val (.int p4), .val (.int p5), .val (.int p6), .val (.ref b_2), .val (.int (0 : Int32))] []))
    refine OGo.to (fun _ k => XS.aload X_5.here hx rfl (hb hby d2_20) rfl rfl k) ?_
    show OGo p e below _ (T_5.setTop (mkF m 22 #[.val (.int p1), .val (.int p2), .val (.int p3), .val (.int p4), .val (.int p5), .val (.int p6), .val (.ref b_2), .val (.int (0 : Int32))] [(.ref b_2)]))
    refine OGo.to (fun _ k => XS.iload X_5.here hx rfl (hb hby d2_22) rfl k) ?_
    show OGo p e below _ (T_5.setTop (mkF m 24 #[.val (.int p1), .val (.int p2), .val (.int p3), .val (.int p4), .val (.int p5), .val (.int p6), .val (.ref b_2), .val (.int (0 : Int32))] [(.int (0 : Int32)), (.ref b_2)]))
    refine OGo.to (fun _ k => XS.iloadN X_5.here hx rfl (hb hby d2_24) rfl k) ?_
    show OGo p e below _ (T_5.setTop (mkF m 25 #[.val (.int p1), .val (.int p2), .val (.int p3), .val (.int p4), .val (.int p5), .val (.int p6), .val (.ref b_2), .val (.int (0 : Int32))] [(.int p2), (.int (0 : Int32)), (.ref b_2)]))
    have Vq_7 := V_2
    obtain ⟨cl_7, Ar_7, q_7, S_7, M_7, Hs_7, G_7⟩ := Vq_7
    have i_9 : ((own_bit p1 (0 : Int32))).toInt = 1 := own_ieq hc17__6
    have hin_8 : ¬ ((0 : Int32) < 0 ∨ cl_7.slots.size ≤ ((0 : Int32)).toNatClampNeg) := inb_of S_7 ⟨by decide, own_lti (show (0 : Int) < (own_count p1).toInt by rw [own_countI p1]; omega)⟩
    obtain ⟨T_8, h_8, X_8, e_8, W_8, st_8⟩ := stI X_5 hx hZ e_5 Ar_7 (j := (0 : Int32)) hin_8 (g := (mkF m 25 #[.val (.int p1), .val (.int p2), .val (.int p3), .val (.int p4), .val (.int p5), .val (.int p6), .val (.ref b_2), .val (.int (0 : Int32))] [(.int p2), (.int (0 : Int32)), (.ref b_2)])) rfl rfl (hb hby d2_25)
    refine OGo.to st_8 ?_
    have V_8 : Arv Z h_8 b_2 k_2 .int (own_count p1) [(.int p2), (.int (0 : Int32)), (.int (0 : Int32)), (.int (0 : Int32)), (.int (0 : Int32))] (.int (0 : Int32)) := Arv.set Ar_7 q_7 S_7 M_7 Hs_7 G_7 rfl W_8 0 rfl (Nat.le_of_ble_eq_true rfl)
    have N_8 := Fr.snoc X_8 N_5 g_b_2
    have z_10 : n0 ≤ h_8.size := Nat.le_trans z_3 (Keep.of_wr W_8).1
    have K_11 : Keep h0 h_8 [] := K_4.wr W_8 (Or.inr sz_b_2)
    show OGo p e below _ (T_8.setTop (mkF m 26 #[.val (.int p1), .val (.int p2), .val (.int p3), .val (.int p4), .val (.int p5), .val (.int p6), .val (.ref b_2), .val (.int (0 : Int32))] []))
    refine OGo.to (fun _ k => XS.iinc X_8.here hx rfl (hb hby d2_26) rfl (l' := #[.val (.int p1), .val (.int p2), .val (.int p3), .val (.int p4), .val (.int p5), .val (.int p6), .val (.ref b_2), .val (.int (1 : Int32))]) rfl k) ?_
    show OGo p e below _ (T_8.setTop (mkF m 29 #[.val (.int p1), .val (.int p2), .val (.int p3), .val (.int p4), .val (.int p5), .val (.int p6), .val (.ref b_2), .val (.int (1 : Int32))] []))
    refine OGo.to (fun _ k => XS.iloadN X_8.here hx rfl (hb hby d2_29) rfl k) ?_
    show OGo p e below _ (T_8.setTop (mkF m 30 #[.val (.int p1), .val (.int p2), .val (.int p3), .val (.int p4), .val (.int p5), .val (.int p6), .val (.ref b_2), .val (.int (1 : Int32))] [(.int p1)]))
    refine OGo.to (fun _ k => XS.iconst X_8.here hx rfl (hb hby d2_30) k) ?_
    show OGo p e below _ (T_8.setTop (mkF m 31 #[.val (.int p1), .val (.int p2), .val (.int p3), .val (.int p4), .val (.int p5), .val (.int p6), .val (.ref b_2), .val (.int (1 : Int32))] [(.int (1 : Int32)), (.int p1)]))
    obtain ⟨_, T_12, Lc_12, X_12, hQ_12, st_12⟩ := own_un X_8 (Q := Q4 Z p1 (1 : Int32) h_8 n0) (rc := 0) (rs := 0) (W := fun v B => ∀ target, Steps p.tables e below (B.setTop { (mkF m 31 #[.val (.int p1), .val (.int p2), .val (.int p3), .val (.int p4), .val (.int p5), .val (.int p6), .val (.ref b_2), .val (.int (1 : Int32))] [(.int (1 : Int32)), (.int p1)]) with pc := 34, stack := v.toList ++ [] }) target → Steps p.tables e below (T_8.setTop (mkF m 31 #[.val (.int p1), .val (.int p2), .val (.int p3), .val (.int p4), .val (.int p5), .val (.int p6), .val (.ref b_2), .val (.int (1 : Int32))] [(.int (1 : Int32)), (.int p1)])) target) <| Jvm.LawKit.callS X_8 hx (y := (⟨"com/example/cogram/cogram/index/PostingsEntriesPinLaw", "bit", "(II)I"⟩ : MethodName)) hown (mvT hZ (hw _ (List.mem_of_getElem? (i := 12) rfl))) (mvT hZ (hw _ (List.mem_of_getElem? (i := 13) rfl))) (mvT hZ (hw _ (List.mem_of_getElem? (i := 7) rfl))) (mvT hZ (hw _ (List.mem_of_getElem? (i := 14) rfl))) (by decide) (backOf (W := 0) (rm4 l Z a0 hw [] p1 (1 : Int32) h_8 n0 z_10 ) hZ (hw _ (List.mem_of_getElem? (i := 14) rfl)) (hw _ (List.mem_of_getElem? (i := 7) rfl)) (by decide) (by decide)) (g := (mkF m 31 #[.val (.int p1), .val (.int p2), .val (.int p3), .val (.int p4), .val (.int p5), .val (.int p6), .val (.ref b_2), .val (.int (1 : Int32))] [(.int (1 : Int32)), (.int p1)])) rfl (by rw [hml]; rfl) (argsL := [(.int p1), (.int (1 : Int32))]) (rest := []) (lenOf pd_0 rfl) rfl (by show 2 * 0 + _ ≤ _; exact Nat.le_of_eq rfl) (hb hby d2_31) (fun _ _ => ⟨rfl, e_8, (by decide : 1 + 0 ≤ _), (by decide : 5 + 0 ≤ _)⟩)
    obtain ⟨rfl, N_12q, e_12⟩ := hQ_12
    have N_12 := Fr.app N_8 N_12q
    refine OGo.to st_12 ?_
    show OGo p e below _ (T_12.setTop (mkF m 34 #[.val (.int p1), .val (.int p2), .val (.int p3), .val (.int p4), .val (.int p5), .val (.int p6), .val (.ref b_2), .val (.int (1 : Int32))] [(.int (own_bit p1 (1 : Int32)))]))
    refine OGo.to (fun _ k => XS.iconst X_12.here hx rfl (hb hby d2_34) k) ?_
    show OGo p e below _ (T_12.setTop (mkF m 35 #[.val (.int p1), .val (.int p2), .val (.int p3), .val (.int p4), .val (.int p5), .val (.int p6), .val (.ref b_2), .val (.int (1 : Int32))] [(.int (1 : Int32)), (.int (own_bit p1 (1 : Int32)))]))
    by_cases hc35__13 : (own_bit p1 (1 : Int32)) = (1 : Int32)
    ·  -- pc 35: yes
      refine OGo.to (fun _ k => XS.icmpNo X_12.here hx rfl (hb hby d2_35) rfl (teq hc35__13).2 k) ?_
      show OGo p e below _ (T_12.setTop (mkF m 38 #[.val (.int p1), .val (.int p2), .val (.int p3), .val (.int p4), .val (.int p5), .val (.int p6), .val (.ref b_2), .val (.int (1 : Int32))] []))
      refine OGo.to (fun _ k => XS.aload X_12.here hx rfl (hb hby d2_38) rfl rfl k) ?_
      show OGo p e below _ (T_12.setTop (mkF m 40 #[.val (.int p1), .val (.int p2), .val (.int p3), .val (.int p4), .val (.int p5), .val (.int p6), .val (.ref b_2), .val (.int (1 : Int32))] [(.ref b_2)]))
      refine OGo.to (fun _ k => XS.iload X_12.here hx rfl (hb hby d2_40) rfl k) ?_
      show OGo p e below _ (T_12.setTop (mkF m 42 #[.val (.int p1), .val (.int p2), .val (.int p3), .val (.int p4), .val (.int p5), .val (.int p6), .val (.ref b_2), .val (.int (1 : Int32))] [(.int (1 : Int32)), (.ref b_2)]))
      refine OGo.to (fun _ k => XS.iloadN X_12.here hx rfl (hb hby d2_42) rfl k) ?_
      show OGo p e below _ (T_12.setTop (mkF m 43 #[.val (.int p1), .val (.int p2), .val (.int p3), .val (.int p4), .val (.int p5), .val (.int p6), .val (.ref b_2), .val (.int (1 : Int32))] [(.int p3), (.int (1 : Int32)), (.ref b_2)]))
      have Vq_14 := V_8
      obtain ⟨cl_14, Ar_14, q_14, S_14, M_14, Hs_14, G_14⟩ := Vq_14
      have i_16 : ((own_bit p1 (0 : Int32))).toInt = 1 := own_ieq hc17__6
      have i_17 : ((own_bit p1 (1 : Int32))).toInt = 1 := own_ieq hc35__13
      have hin_15 : ¬ ((1 : Int32) < 0 ∨ cl_14.slots.size ≤ ((1 : Int32)).toNatClampNeg) := inb_of S_14 ⟨by decide, own_lti (show (1 : Int) < (own_count p1).toInt by rw [own_countI p1]; omega)⟩
      obtain ⟨T_15, h_15, X_15, e_15, W_15, st_15⟩ := stI X_12 hx hZ e_12 Ar_14 (j := (1 : Int32)) hin_15 (g := (mkF m 43 #[.val (.int p1), .val (.int p2), .val (.int p3), .val (.int p4), .val (.int p5), .val (.int p6), .val (.ref b_2), .val (.int (1 : Int32))] [(.int p3), (.int (1 : Int32)), (.ref b_2)])) rfl rfl (hb hby d2_43)
      refine OGo.to st_15 ?_
      have V_15 : Arv Z h_15 b_2 k_2 .int (own_count p1) [(.int p2), (.int p3), (.int (0 : Int32)), (.int (0 : Int32)), (.int (0 : Int32))] (.int (0 : Int32)) := Arv.set Ar_14 q_14 S_14 M_14 Hs_14 G_14 rfl W_15 1 rfl (Nat.le_of_ble_eq_true rfl)
      have N_15 := Fr.snoc X_15 N_12 g_b_2
      have z_18 : n0 ≤ h_15.size := Nat.le_trans z_10 (Keep.of_wr W_15).1
      have K_19 : Keep h0 h_15 [] := K_11.wr W_15 (Or.inr sz_b_2)
      show OGo p e below _ (T_15.setTop (mkF m 44 #[.val (.int p1), .val (.int p2), .val (.int p3), .val (.int p4), .val (.int p5), .val (.int p6), .val (.ref b_2), .val (.int (1 : Int32))] []))
      refine OGo.to (fun _ k => XS.iinc X_15.here hx rfl (hb hby d2_44) rfl (l' := #[.val (.int p1), .val (.int p2), .val (.int p3), .val (.int p4), .val (.int p5), .val (.int p6), .val (.ref b_2), .val (.int (2 : Int32))]) rfl k) ?_
      show OGo p e below _ (T_15.setTop (mkF m 47 #[.val (.int p1), .val (.int p2), .val (.int p3), .val (.int p4), .val (.int p5), .val (.int p6), .val (.ref b_2), .val (.int (2 : Int32))] []))
      refine OGo.to (fun _ k => XS.iloadN X_15.here hx rfl (hb hby d2_47) rfl k) ?_
      show OGo p e below _ (T_15.setTop (mkF m 48 #[.val (.int p1), .val (.int p2), .val (.int p3), .val (.int p4), .val (.int p5), .val (.int p6), .val (.ref b_2), .val (.int (2 : Int32))] [(.int p1)]))
      refine OGo.to (fun _ k => XS.iconst X_15.here hx rfl (hb hby d2_48) k) ?_
      show OGo p e below _ (T_15.setTop (mkF m 49 #[.val (.int p1), .val (.int p2), .val (.int p3), .val (.int p4), .val (.int p5), .val (.int p6), .val (.ref b_2), .val (.int (2 : Int32))] [(.int (2 : Int32)), (.int p1)]))
      obtain ⟨_, T_20, Lc_20, X_20, hQ_20, st_20⟩ := own_un X_15 (Q := Q4 Z p1 (2 : Int32) h_15 n0) (rc := 0) (rs := 0) (W := fun v B => ∀ target, Steps p.tables e below (B.setTop { (mkF m 49 #[.val (.int p1), .val (.int p2), .val (.int p3), .val (.int p4), .val (.int p5), .val (.int p6), .val (.ref b_2), .val (.int (2 : Int32))] [(.int (2 : Int32)), (.int p1)]) with pc := 52, stack := v.toList ++ [] }) target → Steps p.tables e below (T_15.setTop (mkF m 49 #[.val (.int p1), .val (.int p2), .val (.int p3), .val (.int p4), .val (.int p5), .val (.int p6), .val (.ref b_2), .val (.int (2 : Int32))] [(.int (2 : Int32)), (.int p1)])) target) <| Jvm.LawKit.callS X_15 hx (y := (⟨"com/example/cogram/cogram/index/PostingsEntriesPinLaw", "bit", "(II)I"⟩ : MethodName)) hown (mvT hZ (hw _ (List.mem_of_getElem? (i := 12) rfl))) (mvT hZ (hw _ (List.mem_of_getElem? (i := 13) rfl))) (mvT hZ (hw _ (List.mem_of_getElem? (i := 7) rfl))) (mvT hZ (hw _ (List.mem_of_getElem? (i := 14) rfl))) (by decide) (backOf (W := 0) (rm4 l Z a0 hw [] p1 (2 : Int32) h_15 n0 z_18 ) hZ (hw _ (List.mem_of_getElem? (i := 14) rfl)) (hw _ (List.mem_of_getElem? (i := 7) rfl)) (by decide) (by decide)) (g := (mkF m 49 #[.val (.int p1), .val (.int p2), .val (.int p3), .val (.int p4), .val (.int p5), .val (.int p6), .val (.ref b_2), .val (.int (2 : Int32))] [(.int (2 : Int32)), (.int p1)])) rfl (by rw [hml]; rfl) (argsL := [(.int p1), (.int (2 : Int32))]) (rest := []) (lenOf pd_0 rfl) rfl (by show 2 * 0 + _ ≤ _; exact Nat.le_of_eq rfl) (hb hby d2_49) (fun _ _ => ⟨rfl, e_15, (by decide : 1 + 0 ≤ _), (by decide : 5 + 0 ≤ _)⟩)
      obtain ⟨rfl, N_20q, e_20⟩ := hQ_20
      have N_20 := Fr.app N_15 N_20q
      refine OGo.to st_20 ?_
      show OGo p e below _ (T_20.setTop (mkF m 52 #[.val (.int p1), .val (.int p2), .val (.int p3), .val (.int p4), .val (.int p5), .val (.int p6), .val (.ref b_2), .val (.int (2 : Int32))] [(.int (own_bit p1 (2 : Int32)))]))
      refine OGo.to (fun _ k => XS.iconst X_20.here hx rfl (hb hby d2_52) k) ?_
      show OGo p e below _ (T_20.setTop (mkF m 53 #[.val (.int p1), .val (.int p2), .val (.int p3), .val (.int p4), .val (.int p5), .val (.int p6), .val (.ref b_2), .val (.int (2 : Int32))] [(.int (1 : Int32)), (.int (own_bit p1 (2 : Int32)))]))
      by_cases hc53__21 : (own_bit p1 (2 : Int32)) = (1 : Int32)
      ·  -- pc 53: yes
        refine OGo.to (fun _ k => XS.icmpNo X_20.here hx rfl (hb hby d2_53) rfl (teq hc53__21).2 k) ?_
        show OGo p e below _ (T_20.setTop (mkF m 56 #[.val (.int p1), .val (.int p2), .val (.int p3), .val (.int p4), .val (.int p5), .val (.int p6), .val (.ref b_2), .val (.int (2 : Int32))] []))
        refine OGo.to (fun _ k => XS.aload X_20.here hx rfl (hb hby d2_56) rfl rfl k) ?_
        show OGo p e below _ (T_20.setTop (mkF m 58 #[.val (.int p1), .val (.int p2), .val (.int p3), .val (.int p4), .val (.int p5), .val (.int p6), .val (.ref b_2), .val (.int (2 : Int32))] [(.ref b_2)]))
        refine OGo.to (fun _ k => XS.iload X_20.here hx rfl (hb hby d2_58) rfl k) ?_
        show OGo p e below _ (T_20.setTop (mkF m 60 #[.val (.int p1), .val (.int p2), .val (.int p3), .val (.int p4), .val (.int p5), .val (.int p6), .val (.ref b_2), .val (.int (2 : Int32))] [(.int (2 : Int32)), (.ref b_2)]))
        refine OGo.to (fun _ k => XS.iloadN X_20.here hx rfl (hb hby d2_60) rfl k) ?_
        show OGo p e below _ (T_20.setTop (mkF m 61 #[.val (.int p1), .val (.int p2), .val (.int p3), .val (.int p4), .val (.int p5), .val (.int p6), .val (.ref b_2), .val (.int (2 : Int32))] [(.int p4), (.int (2 : Int32)), (.ref b_2)]))
        have Vq_22 := V_15
        obtain ⟨cl_22, Ar_22, q_22, S_22, M_22, Hs_22, G_22⟩ := Vq_22
        have i_24 : ((own_bit p1 (0 : Int32))).toInt = 1 := own_ieq hc17__6
        have i_25 : ((own_bit p1 (1 : Int32))).toInt = 1 := own_ieq hc35__13
        have i_26 : ((own_bit p1 (2 : Int32))).toInt = 1 := own_ieq hc53__21
        have hin_23 : ¬ ((2 : Int32) < 0 ∨ cl_22.slots.size ≤ ((2 : Int32)).toNatClampNeg) := inb_of S_22 ⟨by decide, own_lti (show (2 : Int) < (own_count p1).toInt by rw [own_countI p1]; omega)⟩
        obtain ⟨T_23, h_23, X_23, e_23, W_23, st_23⟩ := stI X_20 hx hZ e_20 Ar_22 (j := (2 : Int32)) hin_23 (g := (mkF m 61 #[.val (.int p1), .val (.int p2), .val (.int p3), .val (.int p4), .val (.int p5), .val (.int p6), .val (.ref b_2), .val (.int (2 : Int32))] [(.int p4), (.int (2 : Int32)), (.ref b_2)])) rfl rfl (hb hby d2_61)
        refine OGo.to st_23 ?_
        have V_23 : Arv Z h_23 b_2 k_2 .int (own_count p1) [(.int p2), (.int p3), (.int p4), (.int (0 : Int32)), (.int (0 : Int32))] (.int (0 : Int32)) := Arv.set Ar_22 q_22 S_22 M_22 Hs_22 G_22 rfl W_23 2 rfl (Nat.le_of_ble_eq_true rfl)
        have N_23 := Fr.snoc X_23 N_20 g_b_2
        have z_27 : n0 ≤ h_23.size := Nat.le_trans z_18 (Keep.of_wr W_23).1
        have K_28 : Keep h0 h_23 [] := K_19.wr W_23 (Or.inr sz_b_2)
        show OGo p e below _ (T_23.setTop (mkF m 62 #[.val (.int p1), .val (.int p2), .val (.int p3), .val (.int p4), .val (.int p5), .val (.int p6), .val (.ref b_2), .val (.int (2 : Int32))] []))
        refine OGo.to (fun _ k => XS.iinc X_23.here hx rfl (hb hby d2_62) rfl (l' := #[.val (.int p1), .val (.int p2), .val (.int p3), .val (.int p4), .val (.int p5), .val (.int p6), .val (.ref b_2), .val (.int (3 : Int32))]) rfl k) ?_
        show OGo p e below _ (T_23.setTop (mkF m 65 #[.val (.int p1), .val (.int p2), .val (.int p3), .val (.int p4), .val (.int p5), .val (.int p6), .val (.ref b_2), .val (.int (3 : Int32))] []))
        refine OGo.to (fun _ k => XS.iloadN X_23.here hx rfl (hb hby d2_65) rfl k) ?_
        show OGo p e below _ (T_23.setTop (mkF m 66 #[.val (.int p1), .val (.int p2), .val (.int p3), .val (.int p4), .val (.int p5), .val (.int p6), .val (.ref b_2), .val (.int (3 : Int32))] [(.int p1)]))
        refine OGo.to (fun _ k => XS.iconst X_23.here hx rfl (hb hby d2_66) k) ?_
        show OGo p e below _ (T_23.setTop (mkF m 67 #[.val (.int p1), .val (.int p2), .val (.int p3), .val (.int p4), .val (.int p5), .val (.int p6), .val (.ref b_2), .val (.int (3 : Int32))] [(.int (3 : Int32)), (.int p1)]))
        obtain ⟨_, T_29, Lc_29, X_29, hQ_29, st_29⟩ := own_un X_23 (Q := Q4 Z p1 (3 : Int32) h_23 n0) (rc := 0) (rs := 0) (W := fun v B => ∀ target, Steps p.tables e below (B.setTop { (mkF m 67 #[.val (.int p1), .val (.int p2), .val (.int p3), .val (.int p4), .val (.int p5), .val (.int p6), .val (.ref b_2), .val (.int (3 : Int32))] [(.int (3 : Int32)), (.int p1)]) with pc := 70, stack := v.toList ++ [] }) target → Steps p.tables e below (T_23.setTop (mkF m 67 #[.val (.int p1), .val (.int p2), .val (.int p3), .val (.int p4), .val (.int p5), .val (.int p6), .val (.ref b_2), .val (.int (3 : Int32))] [(.int (3 : Int32)), (.int p1)])) target) <| Jvm.LawKit.callS X_23 hx (y := (⟨"com/example/cogram/cogram/index/PostingsEntriesPinLaw", "bit", "(II)I"⟩ : MethodName)) hown (mvT hZ (hw _ (List.mem_of_getElem? (i := 12) rfl))) (mvT hZ (hw _ (List.mem_of_getElem? (i := 13) rfl))) (mvT hZ (hw _ (List.mem_of_getElem? (i := 7) rfl))) (mvT hZ (hw _ (List.mem_of_getElem? (i := 14) rfl))) (by decide) (backOf (W := 0) (rm4 l Z a0 hw [] p1 (3 : Int32) h_23 n0 z_27 ) hZ (hw _ (List.mem_of_getElem? (i := 14) rfl)) (hw _ (List.mem_of_getElem? (i := 7) rfl)) (by decide) (by decide)) (g := (mkF m 67 #[.val (.int p1), .val (.int p2), .val (.int p3), .val (.int p4), .val (.int p5), .val (.int p6), .val (.ref b_2), .val (.int (3 : Int32))] [(.int (3 : Int32)), (.int p1)])) rfl (by rw [hml]; rfl) (argsL := [(.int p1), (.int (3 : Int32))]) (rest := []) (lenOf pd_0 rfl) rfl (by show 2 * 0 + _ ≤ _; exact Nat.le_of_eq rfl) (hb hby d2_67) (fun _ _ => ⟨rfl, e_23, (by decide : 1 + 0 ≤ _), (by decide : 5 + 0 ≤ _)⟩)
        obtain ⟨rfl, N_29q, e_29⟩ := hQ_29
        have N_29 := Fr.app N_23 N_29q
        refine OGo.to st_29 ?_
        show OGo p e below _ (T_29.setTop (mkF m 70 #[.val (.int p1), .val (.int p2), .val (.int p3), .val (.int p4), .val (.int p5), .val (.int p6), .val (.ref b_2), .val (.int (3 : Int32))] [(.int (own_bit p1 (3 : Int32)))]))
        refine OGo.to (fun _ k => XS.iconst X_29.here hx rfl (hb hby d2_70) k) ?_
        show OGo p e below _ (T_29.setTop (mkF m 71 #[.val (.int p1), .val (.int p2), .val (.int p3), .val (.int p4), .val (.int p5), .val (.int p6), .val (.ref b_2), .val (.int (3 : Int32))] [(.int (1 : Int32)), (.int (own_bit p1 (3 : Int32)))]))
        by_cases hc71__30 : (own_bit p1 (3 : Int32)) = (1 : Int32)
        ·  -- pc 71: yes
          refine OGo.to (fun _ k => XS.icmpNo X_29.here hx rfl (hb hby d2_71) rfl (teq hc71__30).2 k) ?_
          show OGo p e below _ (T_29.setTop (mkF m 74 #[.val (.int p1), .val (.int p2), .val (.int p3), .val (.int p4), .val (.int p5), .val (.int p6), .val (.ref b_2), .val (.int (3 : Int32))] []))
          refine OGo.to (fun _ k => XS.aload X_29.here hx rfl (hb hby d2_74) rfl rfl k) ?_
          show OGo p e below _ (T_29.setTop (mkF m 76 #[.val (.int p1), .val (.int p2), .val (.int p3), .val (.int p4), .val (.int p5), .val (.int p6), .val (.ref b_2), .val (.int (3 : Int32))] [(.ref b_2)]))
          refine OGo.to (fun _ k => XS.iload X_29.here hx rfl (hb hby d2_76) rfl k) ?_
          show OGo p e below _ (T_29.setTop (mkF m 78 #[.val (.int p1), .val (.int p2), .val (.int p3), .val (.int p4), .val (.int p5), .val (.int p6), .val (.ref b_2), .val (.int (3 : Int32))] [(.int (3 : Int32)), (.ref b_2)]))
          refine OGo.to (fun _ k => XS.iload X_29.here hx rfl (hb hby d2_78) rfl k) ?_
          show OGo p e below _ (T_29.setTop (mkF m 80 #[.val (.int p1), .val (.int p2), .val (.int p3), .val (.int p4), .val (.int p5), .val (.int p6), .val (.ref b_2), .val (.int (3 : Int32))] [(.int p5), (.int (3 : Int32)), (.ref b_2)]))
          have Vq_31 := V_23
          obtain ⟨cl_31, Ar_31, q_31, S_31, M_31, Hs_31, G_31⟩ := Vq_31
          have i_33 : ((own_bit p1 (0 : Int32))).toInt = 1 := own_ieq hc17__6
          have i_34 : ((own_bit p1 (1 : Int32))).toInt = 1 := own_ieq hc35__13
          have i_35 : ((own_bit p1 (2 : Int32))).toInt = 1 := own_ieq hc53__21
          have i_36 : ((own_bit p1 (3 : Int32))).toInt = 1 := own_ieq hc71__30
          have hin_32 : ¬ ((3 : Int32) < 0 ∨ cl_31.slots.size ≤ ((3 : Int32)).toNatClampNeg) := inb_of S_31 ⟨by decide, own_lti (show (3 : Int) < (own_count p1).toInt by rw [own_countI p1]; omega)⟩
          obtain ⟨T_32, h_32, X_32, e_32, W_32, st_32⟩ := stI X_29 hx hZ e_29 Ar_31 (j := (3 : Int32)) hin_32 (g := (mkF m 80 #[.val (.int p1), .val (.int p2), .val (.int p3), .val (.int p4), .val (.int p5), .val (.int p6), .val (.ref b_2), .val (.int (3 : Int32))] [(.int p5), (.int (3 : Int32)), (.ref b_2)])) rfl rfl (hb hby d2_80)
          refine OGo.to st_32 ?_
          have V_32 : Arv Z h_32 b_2 k_2 .int (own_count p1) [(.int p2), (.int p3), (.int p4), (.int p5), (.int (0 : Int32))] (.int (0 : Int32)) := Arv.set Ar_31 q_31 S_31 M_31 Hs_31 G_31 rfl W_32 3 rfl (Nat.le_of_ble_eq_true rfl)
          have N_32 := Fr.snoc X_32 N_29 g_b_2
          have z_37 : n0 ≤ h_32.size := Nat.le_trans z_27 (Keep.of_wr W_32).1
          have K_38 : Keep h0 h_32 [] := K_28.wr W_32 (Or.inr sz_b_2)
          show OGo p e below _ (T_32.setTop (mkF m 81 #[.val (.int p1), .val (.int p2), .val (.int p3), .val (.int p4), .val (.int p5), .val (.int p6), .val (.ref b_2), .val (.int (3 : Int32))] []))
          refine OGo.to (fun _ k => XS.iinc X_32.here hx rfl (hb hby d2_81) rfl (l' := #[.val (.int p1), .val (.int p2), .val (.int p3), .val (.int p4), .val (.int p5), .val (.int p6), .val (.ref b_2), .val (.int (4 : Int32))]) rfl k) ?_
          show OGo p e below _ (T_32.setTop (mkF m 84 #[.val (.int p1), .val (.int p2), .val (.int p3), .val (.int p4), .val (.int p5), .val (.int p6), .val (.ref b_2), .val (.int (4 : Int32))] []))
          refine OGo.to (fun _ k => XS.iloadN X_32.here hx rfl (hb hby d2_84) rfl k) ?_
          show OGo p e below _ (T_32.setTop (mkF m 85 #[.val (.int p1), .val (.int p2), .val (.int p3), .val (.int p4), .val (.int p5), .val (.int p6), .val (.ref b_2), .val (.int (4 : Int32))] [(.int p1)]))
          refine OGo.to (fun _ k => XS.iconst X_32.here hx rfl (hb hby d2_85) k) ?_
          show OGo p e below _ (T_32.setTop (mkF m 86 #[.val (.int p1), .val (.int p2), .val (.int p3), .val (.int p4), .val (.int p5), .val (.int p6), .val (.ref b_2), .val (.int (4 : Int32))] [(.int (4 : Int32)), (.int p1)]))
          obtain ⟨_, T_39, Lc_39, X_39, hQ_39, st_39⟩ := own_un X_32 (Q := Q4 Z p1 (4 : Int32) h_32 n0) (rc := 0) (rs := 0) (W := fun v B => ∀ target, Steps p.tables e below (B.setTop { (mkF m 86 #[.val (.int p1), .val (.int p2), .val (.int p3), .val (.int p4), .val (.int p5), .val (.int p6), .val (.ref b_2), .val (.int (4 : Int32))] [(.int (4 : Int32)), (.int p1)]) with pc := 89, stack := v.toList ++ [] }) target → Steps p.tables e below (T_32.setTop (mkF m 86 #[.val (.int p1), .val (.int p2), .val (.int p3), .val (.int p4), .val (.int p5), .val (.int p6), .val (.ref b_2), .val (.int (4 : Int32))] [(.int (4 : Int32)), (.int p1)])) target) <| Jvm.LawKit.callS X_32 hx (y := (⟨"com/example/cogram/cogram/index/PostingsEntriesPinLaw", "bit", "(II)I"⟩ : MethodName)) hown (mvT hZ (hw _ (List.mem_of_getElem? (i := 12) rfl))) (mvT hZ (hw _ (List.mem_of_getElem? (i := 13) rfl))) (mvT hZ (hw _ (List.mem_of_getElem? (i := 7) rfl))) (mvT hZ (hw _ (List.mem_of_getElem? (i := 14) rfl))) (by decide) (backOf (W := 0) (rm4 l Z a0 hw [] p1 (4 : Int32) h_32 n0 z_37 ) hZ (hw _ (List.mem_of_getElem? (i := 14) rfl)) (hw _ (List.mem_of_getElem? (i := 7) rfl)) (by decide) (by decide)) (g := (mkF m 86 #[.val (.int p1), .val (.int p2), .val (.int p3), .val (.int p4), .val (.int p5), .val (.int p6), .val (.ref b_2), .val (.int (4 : Int32))] [(.int (4 : Int32)), (.int p1)])) rfl (by rw [hml]; rfl) (argsL := [(.int p1), (.int (4 : Int32))]) (rest := []) (lenOf pd_0 rfl) rfl (by show 2 * 0 + _ ≤ _; exact Nat.le_of_eq rfl) (hb hby d2_86) (fun _ _ => ⟨rfl, e_32, (by decide : 1 + 0 ≤ _), (by decide : 5 + 0 ≤ _)⟩)
          obtain ⟨rfl, N_39q, e_39⟩ := hQ_39
          have N_39 := Fr.app N_32 N_39q
          refine OGo.to st_39 ?_
          show OGo p e below _ (T_39.setTop (mkF m 89 #[.val (.int p1), .val (.int p2), .val (.int p3), .val (.int p4), .val (.int p5), .val (.int p6), .val (.ref b_2), .val (.int (4 : Int32))] [(.int (own_bit p1 (4 : Int32)))]))
          refine OGo.to (fun _ k => XS.iconst X_39.here hx rfl (hb hby d2_89) k) ?_
          show OGo p e below _ (T_39.setTop (mkF m 90 #[.val (.int p1), .val (.int p2), .val (.int p3), .val (.int p4), .val (.int p5), .val (.int p6), .val (.ref b_2), .val (.int (4 : Int32))] [(.int (1 : Int32)), (.int (own_bit p1 (4 : Int32)))]))
          by_cases hc90__40 : (own_bit p1 (4 : Int32)) = (1 : Int32)
          ·  -- pc 90: yes
            refine OGo.to (fun _ k => XS.icmpNo X_39.here hx rfl (hb hby d2_90) rfl (teq hc90__40).2 k) ?_
            show OGo p e below _ (T_39.setTop (mkF m 93 #[.val (.int p1), .val (.int p2), .val (.int p3), .val (.int p4), .val (.int p5), .val (.int p6), .val (.ref b_2), .val (.int (4 : Int32))] []))
            refine OGo.to (fun _ k => XS.aload X_39.here hx rfl (hb hby d2_93) rfl rfl k) ?_
            show OGo p e below _ (T_39.setTop (mkF m 95 #[.val (.int p1), .val (.int p2), .val (.int p3), .val (.int p4), .val (.int p5), .val (.int p6), .val (.ref b_2), .val (.int (4 : Int32))] [(.ref b_2)]))
            refine OGo.to (fun _ k => XS.iload X_39.here hx rfl (hb hby d2_95) rfl k) ?_
            show OGo p e below _ (T_39.setTop (mkF m 97 #[.val (.int p1), .val (.int p2), .val (.int p3), .val (.int p4), .val (.int p5), .val (.int p6), .val (.ref b_2), .val (.int (4 : Int32))] [(.int (4 : Int32)), (.ref b_2)]))
            refine OGo.to (fun _ k => XS.iload X_39.here hx rfl (hb hby d2_97) rfl k) ?_
            show OGo p e below _ (T_39.setTop (mkF m 99 #[.val (.int p1), .val (.int p2), .val (.int p3), .val (.int p4), .val (.int p5), .val (.int p6), .val (.ref b_2), .val (.int (4 : Int32))] [(.int p6), (.int (4 : Int32)), (.ref b_2)]))
            have Vq_41 := V_32
            obtain ⟨cl_41, Ar_41, q_41, S_41, M_41, Hs_41, G_41⟩ := Vq_41
            have i_43 : ((own_bit p1 (0 : Int32))).toInt = 1 := own_ieq hc17__6
            have i_44 : ((own_bit p1 (1 : Int32))).toInt = 1 := own_ieq hc35__13
            have i_45 : ((own_bit p1 (2 : Int32))).toInt = 1 := own_ieq hc53__21
            have i_46 : ((own_bit p1 (3 : Int32))).toInt = 1 := own_ieq hc71__30
            have i_47 : ((own_bit p1 (4 : Int32))).toInt = 1 := own_ieq hc90__40
            have hin_42 : ¬ ((4 : Int32) < 0 ∨ cl_41.slots.size ≤ ((4 : Int32)).toNatClampNeg) := inb_of S_41 ⟨by decide, own_lti (show (4 : Int) < (own_count p1).toInt by rw [own_countI p1]; omega)⟩
            obtain ⟨T_42, h_42, X_42, e_42, W_42, st_42⟩ := stI X_39 hx hZ e_39 Ar_41 (j := (4 : Int32)) hin_42 (g := (mkF m 99 #[.val (.int p1), .val (.int p2), .val (.int p3), .val (.int p4), .val (.int p5), .val (.int p6), .val (.ref b_2), .val (.int (4 : Int32))] [(.int p6), (.int (4 : Int32)), (.ref b_2)])) rfl rfl (hb hby d2_99)
            refine OGo.to st_42 ?_
            have V_42 : Arv Z h_42 b_2 k_2 .int (own_count p1) [(.int p2), (.int p3), (.int p4), (.int p5), (.int p6)] (.int (0 : Int32)) := Arv.set Ar_41 q_41 S_41 M_41 Hs_41 G_41 rfl W_42 4 rfl (Nat.le_of_ble_eq_true rfl)
            have N_42 := Fr.snoc X_42 N_39 g_b_2
            have z_48 : n0 ≤ h_42.size := Nat.le_trans z_37 (Keep.of_wr W_42).1
            have K_49 : Keep h0 h_42 [] := K_38.wr W_42 (Or.inr sz_b_2)
            show OGo p e below _ (T_42.setTop (mkF m 100 #[.val (.int p1), .val (.int p2), .val (.int p3), .val (.int p4), .val (.int p5), .val (.int p6), .val (.ref b_2), .val (.int (4 : Int32))] []))
            refine OGo.to (fun _ k => XS.iinc X_42.here hx rfl (hb hby d2_100) rfl (l' := #[.val (.int p1), .val (.int p2), .val (.int p3), .val (.int p4), .val (.int p5), .val (.int p6), .val (.ref b_2), .val (.int (5 : Int32))]) rfl k) ?_
            show OGo p e below _ (T_42.setTop (mkF m 103 #[.val (.int p1), .val (.int p2), .val (.int p3), .val (.int p4), .val (.int p5), .val (.int p6), .val (.ref b_2), .val (.int (5 : Int32))] []))
            refine OGo.to (fun _ k => XS.aload X_42.here hx rfl (hb hby d2_103) rfl rfl k) ?_
            show OGo p e below _ (T_42.setTop (mkF m 105 #[.val (.int p1), .val (.int p2), .val (.int p3), .val (.int p4), .val (.int p5), .val (.int p6), .val (.ref b_2), .val (.int (5 : Int32))] [(.ref b_2)]))
            refine OGo.ret (Q := Q2 Z p1 p2 p3 p4 p5 p6 h0 n0) X_42 (some (.ref b_2)) (fun h => by rw [Bd.returns] at h; cases h) Bd.notSynchronized (fun fs hr => own_retA X_42 hx Bd.returns rfl rfl (hb hby d2_105) hr) ?_ (by decide) (by decide)
            have hidx : own_idx p1 = [0, 1, 2, 3, 4] := by unfold own_idx; rw [if_pos hc17__6, if_pos hc35__13, if_pos hc53__21, if_pos hc71__30, if_pos hc90__40]; rfl
            have i_50 : ((own_bit p1 (0 : Int32))).toInt = 1 := own_ieq hc17__6
            have i_51 : ((own_bit p1 (1 : Int32))).toInt = 1 := own_ieq hc35__13
            have i_52 : ((own_bit p1 (2 : Int32))).toInt = 1 := own_ieq hc53__21
            have i_53 : ((own_bit p1 (3 : Int32))).toInt = 1 := own_ieq hc71__30
            have i_54 : ((own_bit p1 (4 : Int32))).toInt = 1 := own_ieq hc90__40
            have hsel : ([p2, p3, p4, p5, p6] : List Int32) = (own_sel p1 p2 p3 p4 p5 p6) := by unfold own_sel; rw [hidx]; rfl
            have hcnt : own_count p1 = own_i (own_sel p1 p2 p3 p4 p5 p6).length := by rw [← hsel]; exact own_eqi (show (own_count p1).toInt = (5 : Int) by rw [own_countI p1]; omega)
            show Q2 Z p1 p2 p3 p4 p5 p6 h0 n0 _ T_42.heap _
            rw [e_42]
            exact ⟨b_2, k_2, rfl, N_42, K_49, g_b_2, sz_b_2, (own_conv (L := ([p2, p3, p4, p5, p6] : List Int32)) (r := 0) V_42 hcnt hsel)⟩
          ·  -- pc 90: no
            refine OGo.to (fun _ k => XS.icmpYes X_39.here hx rfl (pc0 := 90) (pc' := 103) rfl (hb hby d2_90) rfl (feq hc90__40).2 (by decide) (by decide) k) ?_
            show OGo p e below _ (T_39.setTop (mkF m 103 #[.val (.int p1), .val (.int p2), .val (.int p3), .val (.int p4), .val (.int p5), .val (.int p6), .val (.ref b_2), .val (.int (4 : Int32))] []))
            refine OGo.to (fun _ k => XS.aload X_39.here hx rfl (hb hby d2_103) rfl rfl k) ?_
            show OGo p e below _ (T_39.setTop (mkF m 105 #[.val (.int p1), .val (.int p2), .val (.int p3), .val (.int p4), .val (.int p5), .val (.int p6), .val (.ref b_2), .val (.int (4 : Int32))] [(.ref b_2)]))
            refine OGo.ret (Q := Q2 Z p1 p2 p3 p4 p5 p6 h0 n0) X_39 (some (.ref b_2)) (fun h => by rw [Bd.returns] at h; cases h) Bd.notSynchronized (fun fs hr => own_retA X_39 hx Bd.returns rfl rfl (hb hby d2_105) hr) ?_ (by decide) (by decide)
            have hidx : own_idx p1 = [0, 1, 2, 3] := by unfold own_idx; rw [if_pos hc17__6, if_pos hc35__13, if_pos hc53__21, if_pos hc71__30, if_neg hc90__40]; rfl
            have i_55 : ((own_bit p1 (0 : Int32))).toInt = 1 := own_ieq hc17__6
            have i_56 : ((own_bit p1 (1 : Int32))).toInt = 1 := own_ieq hc35__13
            have i_57 : ((own_bit p1 (2 : Int32))).toInt = 1 := own_ieq hc53__21
            have i_58 : ((own_bit p1 (3 : Int32))).toInt = 1 := own_ieq hc71__30
            have i_59 : ((own_bit p1 (4 : Int32))).toInt ≠ 1 := own_ine hc90__40
            have hsel : ([p2, p3, p4, p5] : List Int32) = (own_sel p1 p2 p3 p4 p5 p6) := by unfold own_sel; rw [hidx]; rfl
            have hcnt : own_count p1 = own_i (own_sel p1 p2 p3 p4 p5 p6).length := by rw [← hsel]; exact own_eqi (show (own_count p1).toInt = (4 : Int) by rw [own_countI p1]; omega)
            show Q2 Z p1 p2 p3 p4 p5 p6 h0 n0 _ T_39.heap _
            rw [e_39]
            exact ⟨b_2, k_2, rfl, N_39, K_38, g_b_2, sz_b_2, (own_conv (L := ([p2, p3, p4, p5] : List Int32)) (r := 1) V_32 hcnt hsel)⟩
        ·  -- pc 71: no
          refine OGo.to (fun _ k => XS.icmpYes X_29.here hx rfl (pc0 := 71) (pc' := 84) rfl (hb hby d2_71) rfl (feq hc71__30).2 (by decide) (by decide) k) ?_
          show OGo p e below _ (T_29.setTop (mkF m 84 #[.val (.int p1), .val (.int p2), .val (.int p3), .val (.int p4), .val (.int p5), .val (.int p6), .val (.ref b_2), .val (.int (3 : Int32))] []))
          refine OGo.to (fun _ k => XS.iloadN X_29.here hx rfl (hb hby d2_84) rfl k) ?_
          show OGo p e below _ (T_29.setTop (mkF m 85 #[.val (.int p1), .val (.int p2), .val (.int p3), .val (.int p4), .val (.int p5), .val (.int p6), .val (.ref b_2), .val (.int (3 : Int32))] [(.int p1)]))
          refine OGo.to (fun _ k => XS.iconst X_29.here hx rfl (hb hby d2_85) k) ?_
          show OGo p e below _ (T_29.setTop (mkF m 86 #[.val (.int p1), .val (.int p2), .val (.int p3), .val (.int p4), .val (.int p5), .val (.int p6), .val (.ref b_2), .val (.int (3 : Int32))] [(.int (4 : Int32)), (.int p1)]))
          obtain ⟨_, T_60, Lc_60, X_60, hQ_60, st_60⟩ := own_un X_29 (Q := Q4 Z p1 (4 : Int32) h_23 n0) (rc := 0) (rs := 0) (W := fun v B => ∀ target, Steps p.tables e below (B.setTop { (mkF m 86 #[.val (.int p1), .val (.int p2), .val (.int p3), .val (.int p4), .val (.int p5), .val (.int p6), .val (.ref b_2), .val (.int (3 : Int32))] [(.int (4 : Int32)), (.int p1)]) with pc := 89, stack := v.toList ++ [] }) target → Steps p.tables e below (T_29.setTop (mkF m 86 #[.val (.int p1), .val (.int p2), .val (.int p3), .val (.int p4), .val (.int p5), .val (.int p6), .val (.ref b_2), .val (.int (3 : Int32))] [(.int (4 : Int32)), (.int p1)])) target) <| Jvm.LawKit.callS X_29 hx (y := (⟨"com/example/cogram/cogram/index/PostingsEntriesPinLaw", "bit", "(II)I"⟩ : MethodName)) hown (mvT hZ (hw _ (List.mem_of_getElem? (i := 12) rfl))) (mvT hZ (hw _ (List.mem_of_getElem? (i := 13) rfl))) (mvT hZ (hw _ (List.mem_of_getElem? (i := 7) rfl))) (mvT hZ (hw _ (List.mem_of_getElem? (i := 14) rfl))) (by decide) (backOf (W := 0) (rm4 l Z a0 hw [] p1 (4 : Int32) h_23 n0 z_27 ) hZ (hw _ (List.mem_of_getElem? (i := 14) rfl)) (hw _ (List.mem_of_getElem? (i := 7) rfl)) (by decide) (by decide)) (g := (mkF m 86 #[.val (.int p1), .val (.int p2), .val (.int p3), .val (.int p4), .val (.int p5), .val (.int p6), .val (.ref b_2), .val (.int (3 : Int32))] [(.int (4 : Int32)), (.int p1)])) rfl (by rw [hml]; rfl) (argsL := [(.int p1), (.int (4 : Int32))]) (rest := []) (lenOf pd_0 rfl) rfl (by show 2 * 0 + _ ≤ _; exact Nat.le_of_eq rfl) (hb hby d2_86) (fun _ _ => ⟨rfl, e_29, (by decide : 1 + 0 ≤ _), (by decide : 5 + 0 ≤ _)⟩)
          obtain ⟨rfl, N_60q, e_60⟩ := hQ_60
          have N_60 := Fr.app N_29 N_60q
          refine OGo.to st_60 ?_
          show OGo p e below _ (T_60.setTop (mkF m 89 #[.val (.int p1), .val (.int p2), .val (.int p3), .val (.int p4), .val (.int p5), .val (.int p6), .val (.ref b_2), .val (.int (3 : Int32))] [(.int (own_bit p1 (4 : Int32)))]))
          refine OGo.to (fun _ k => XS.iconst X_60.here hx rfl (hb hby d2_89) k) ?_
          show OGo p e below _ (T_60.setTop (mkF m 90 #[.val (.int p1), .val (.int p2), .val (.int p3), .val (.int p4), .val (.int p5), .val (.int p6), .val (.ref b_2), .val (.int (3 : Int32))] [(.int (1 : Int32)), (.int (own_bit p1 (4 : Int32)))]))
          by_cases hc90__61 : (own_bit p1 (4 : Int32)) = (1 : Int32)
          ·  -- pc 90: yes
            refine OGo.to (fun _ k => XS.icmpNo X_60.here hx rfl (hb hby d2_90) rfl (teq hc90__61).2 k) ?_
            show OGo p e below _ (T_60.setTop (mkF m 93 #[.val (.int p1), .val (.int p2), .val (.int p3), .val (.int p4), .val (.int p5), .val (.int p6), .val (.ref b_2), .val (.int (3 : Int32))] []))
            refine OGo.to (fun _ k => XS.aload X_60.here hx rfl (hb hby d2_93) rfl rfl k) ?_
            show OGo p e below _ (T_60.setTop (mkF m 95 #[.val (.int p1), .val (.int p2), .val (.int p3), .val (.int p4), .val (.int p5), .val (.int p6), .val (.ref b_2), .val (.int (3 : Int32))] [(.ref b_2)]))
            refine OGo.to (fun _ k => XS.iload X_60.here hx rfl (hb hby d2_95) rfl k) ?_
            show OGo p e below _ (T_60.setTop (mkF m 97 #[.val (.int p1), .val (.int p2), .val (.int p3), .val (.int p4), .val (.int p5), .val (.int p6), .val (.ref b_2), .val (.int (3 : Int32))] [(.int (3 : Int32)), (.ref b_2)]))
            refine OGo.to (fun _ k => XS.iload X_60.here hx rfl (hb hby d2_97) rfl k) ?_
            show OGo p e below _ (T_60.setTop (mkF m 99 #[.val (.int p1), .val (.int p2), .val (.int p3), .val (.int p4), .val (.int p5), .val (.int p6), .val (.ref b_2), .val (.int (3 : Int32))] [(.int p6), (.int (3 : Int32)), (.ref b_2)]))
            have Vq_62 := V_23
            obtain ⟨cl_62, Ar_62, q_62, S_62, M_62, Hs_62, G_62⟩ := Vq_62
            have i_64 : ((own_bit p1 (0 : Int32))).toInt = 1 := own_ieq hc17__6
            have i_65 : ((own_bit p1 (1 : Int32))).toInt = 1 := own_ieq hc35__13
            have i_66 : ((own_bit p1 (2 : Int32))).toInt = 1 := own_ieq hc53__21
            have i_67 : ((own_bit p1 (3 : Int32))).toInt ≠ 1 := own_ine hc71__30
            have i_68 : ((own_bit p1 (4 : Int32))).toInt = 1 := own_ieq hc90__61
            have hin_63 : ¬ ((3 : Int32) < 0 ∨ cl_62.slots.size ≤ ((3 : Int32)).toNatClampNeg) := inb_of S_62 ⟨by decide, own_lti (show (3 : Int) < (own_count p1).toInt by rw [own_countI p1]; omega)⟩
            obtain ⟨T_63, h_63, X_63, e_63, W_63, st_63⟩ := stI X_60 hx hZ e_60 Ar_62 (j := (3 : Int32)) hin_63 (g := (mkF m 99 #[.val (.int p1), .val (.int p2), .val (.int p3), .val (.int p4), .val (.int p5), .val (.int p6), .val (.ref b_2), .val (.int (3 : Int32))] [(.int p6), (.int (3 : Int32)), (.ref b_2)])) rfl rfl (hb hby d2_99)
            refine OGo.to st_63 ?_
            have V_63 : Arv Z h_63 b_2 k_2 .int (own_count p1) [(.int p2), (.int p3), (.int p4), (.int p6), (.int (0 : Int32))] (.int (0 : Int32)) := Arv.set Ar_62 q_62 S_62 M_62 Hs_62 G_62 rfl W_63 3 rfl (Nat.le_of_ble_eq_true rfl)
            have N_63 := Fr.snoc X_63 N_60 g_b_2
            have z_69 : n0 ≤ h_63.size := Nat.le_trans z_27 (Keep.of_wr W_63).1
            have K_70 : Keep h0 h_63 [] := K_28.wr W_63 (Or.inr sz_b_2)
            show OGo p e below _ (T_63.setTop (mkF m 100 #[.val (.int p1), .val (.int p2), .val (.int p3), .val (.int p4), .val (.int p5), .val (.int p6), .val (.ref b_2), .val (.int (3 : Int32))] []))
            refine OGo.to (fun _ k => XS.iinc X_63.here hx rfl (hb hby d2_100) rfl (l' := #[.val (.int p1), .val (.int p2), .val (.int p3), .val (.int p4), .val (.int p5), .val (.int p6), .val (.ref b_2), .val (.int (4 : Int32))]) rfl k) ?_
            show OGo p e below _ (T_63.setTop (mkF m 103 #[.val (.int p1), .val (.int p2), .val (.int p3), .val (.int p4), .val (.int p5), .val (.int p6), .val (.ref b_2), .val (.int (4 : Int32))] []))
            refine OGo.to (fun _ k => XS.aload X_63.here hx rfl (hb hby d2_103) rfl rfl k) ?_
            show OGo p e below _ (T_63.setTop (mkF m 105 #[.val (.int p1), .val (.int p2), .val (.int p3), .val (.int p4), .val (.int p5), .val (.int p6), .val (.ref b_2), .val (.int (4 : Int32))] [(.ref b_2)]))
            refine OGo.ret (Q := Q2 Z p1 p2 p3 p4 p5 p6 h0 n0) X_63 (some (.ref b_2)) (fun h => by rw [Bd.returns] at h; cases h) Bd.notSynchronized (fun fs hr => own_retA X_63 hx Bd.returns rfl rfl (hb hby d2_105) hr) ?_ (by decide) (by decide)
            have hidx : own_idx p1 = [0, 1, 2, 4] := by unfold own_idx; rw [if_pos hc17__6, if_pos hc35__13, if_pos hc53__21, if_neg hc71__30, if_pos hc90__61]; rfl
            have i_71 : ((own_bit p1 (0 : Int32))).toInt = 1 := own_ieq hc17__6
            have i_72 : ((own_bit p1 (1 : Int32))).toInt = 1 := own_ieq hc35__13
            have i_73 : ((own_bit p1 (2 : Int32))).toInt = 1 := own_ieq hc53__21
            have i_74 : ((own_bit p1 (3 : Int32))).toInt ≠ 1 := own_ine hc71__30
            have i_75 : ((own_bit p1 (4 : Int32))).toInt = 1 := own_ieq hc90__61
            have hsel : ([p2, p3, p4, p6] : List Int32) = (own_sel p1 p2 p3 p4 p5 p6) := by unfold own_sel; rw [hidx]; rfl
            have hcnt : own_count p1 = own_i (own_sel p1 p2 p3 p4 p5 p6).length := by rw [← hsel]; exact own_eqi (show (own_count p1).toInt = (4 : Int) by rw [own_countI p1]; omega)
            show Q2 Z p1 p2 p3 p4 p5 p6 h0 n0 _ T_63.heap _
            rw [e_63]
            exact ⟨b_2, k_2, rfl, N_63, K_70, g_b_2, sz_b_2, (own_conv (L := ([p2, p3, p4, p6] : List Int32)) (r := 1) V_63 hcnt hsel)⟩
          ·  -- pc 90: no
            refine OGo.to (fun _ k => XS.icmpYes X_60.here hx rfl (pc0 := 90) (pc' := 103) rfl (hb hby d2_90) rfl (feq hc90__61).2 (by decide) (by decide) k) ?_
            show OGo p e below _ (T_60.setTop (mkF m 103 #[.val (.int p1), .val (.int p2), .val (.int p3), .val (.int p4), .val (.int p5), .val (.int p6), .val (.ref b_2), .val (.int (3 : Int32))] []))
            refine OGo.to (fun _ k => XS.aload X_60.here hx rfl (hb hby d2_103) rfl rfl k) ?_
            show OGo p e below _ (T_60.setTop (mkF m 105 #[.val (.int p1), .val (.int p2), .val (.int p3), .val (.int p4), .val (.int p5), .val (.int p6), .val (.ref b_2), .val (.int (3 : Int32))] [(.ref b_2)]))
            refine OGo.ret (Q := Q2 Z p1 p2 p3 p4 p5 p6 h0 n0) X_60 (some (.ref b_2)) (fun h => by rw [Bd.returns] at h; cases h) Bd.notSynchronized (fun fs hr => own_retA X_60 hx Bd.returns rfl rfl (hb hby d2_105) hr) ?_ (by decide) (by decide)
            have hidx : own_idx p1 = [0, 1, 2] := by unfold own_idx; rw [if_pos hc17__6, if_pos hc35__13, if_pos hc53__21, if_neg hc71__30, if_neg hc90__61]; rfl
            have i_76 : ((own_bit p1 (0 : Int32))).toInt = 1 := own_ieq hc17__6
            have i_77 : ((own_bit p1 (1 : Int32))).toInt = 1 := own_ieq hc35__13
            have i_78 : ((own_bit p1 (2 : Int32))).toInt = 1 := own_ieq hc53__21
            have i_79 : ((own_bit p1 (3 : Int32))).toInt ≠ 1 := own_ine hc71__30
            have i_80 : ((own_bit p1 (4 : Int32))).toInt ≠ 1 := own_ine hc90__61
            have hsel : ([p2, p3, p4] : List Int32) = (own_sel p1 p2 p3 p4 p5 p6) := by unfold own_sel; rw [hidx]; rfl
            have hcnt : own_count p1 = own_i (own_sel p1 p2 p3 p4 p5 p6).length := by rw [← hsel]; exact own_eqi (show (own_count p1).toInt = (3 : Int) by rw [own_countI p1]; omega)
            show Q2 Z p1 p2 p3 p4 p5 p6 h0 n0 _ T_60.heap _
            rw [e_60]
            exact ⟨b_2, k_2, rfl, N_60, K_28, g_b_2, sz_b_2, (own_conv (L := ([p2, p3, p4] : List Int32)) (r := 2) V_23 hcnt hsel)⟩
      ·  -- pc 53: no
        refine OGo.to (fun _ k => XS.icmpYes X_20.here hx rfl (pc0 := 53) (pc' := 65) rfl (hb hby d2_53) rfl (feq hc53__21).2 (by decide) (by decide) k) ?_
        show OGo p e below _ (T_20.setTop (mkF m 65 #[.val (.int p1), .val (.int p2), .val (.int p3), .val (.int p4), .val (.int p5), .val (.int p6), .val (.ref b_2), .val (.int (2 : Int32))] []))
        refine OGo.to (fun _ k => XS.iloadN X_20.here hx rfl (hb hby d2_65) rfl k) ?_
        show OGo p e below _ (T_20.setTop (mkF m 66 #[.val (.int p1), .val (.int p2), .val (.int p3), .val (.int p4), .val (.int p5), .val (.int p6), .val (.ref b_2), .val (.int (2 : Int32))] [(.int p1)]))
        refine OGo.to (fun _ k => XS.iconst X_20.here hx rfl (hb hby d2_66) k) ?_
        show OGo p e below _ (T_20.setTop (mkF m 67 #[.val (.int p1), .val (.int p2), .val (.int p3), .val (.int p4), .val (.int p5), .val (.int p6), .val (.ref b_2), .val (.int (2 : Int32))] [(.int (3 : Int32)), (.int p1)]))
        obtain ⟨_, T_81, Lc_81, X_81, hQ_81, st_81⟩ := own_un X_20 (Q := Q4 Z p1 (3 : Int32) h_15 n0) (rc := 0) (rs := 0) (W := fun v B => ∀ target, Steps p.tables e below (B.setTop { (mkF m 67 #[.val (.int p1), .val (.int p2), .val (.int p3), .val (.int p4), .val (.int p5), .val (.int p6), .val (.ref b_2), .val (.int (2 : Int32))] [(.int (3 : Int32)), (.int p1)]) with pc := 70, stack := v.toList ++ [] }) target → Steps p.tables e below (T_20.setTop (mkF m 67 #[.val (.int p1), .val (.int p2), .val (.int p3), .val (.int p4), .val (.int p5), .val (.int p6), .val (.ref b_2), .val (.int (2 : Int32))] [(.int (3 : Int32)), (.int p1)])) target) <| Jvm.LawKit.callS X_20 hx (y := (⟨"com/example/cogram/cogram/index/PostingsEntriesPinLaw", "bit", "(II)I"⟩ : MethodName)) hown (mvT hZ (hw _ (List.mem_of_getElem? (i := 12) rfl))) (mvT hZ (hw _ (List.mem_of_getElem? (i := 13) rfl))) (mvT hZ (hw _ (List.mem_of_getElem? (i := 7) rfl))) (mvT hZ (hw _ (List.mem_of_getElem? (i := 14) rfl))) (by decide) (backOf (W := 0) (rm4 l Z a0 hw [] p1 (3 : Int32) h_15 n0 z_18 ) hZ (hw _ (List.mem_of_getElem? (i := 14) rfl)) (hw _ (List.mem_of_getElem? (i := 7) rfl)) (by decide) (by decide)) (g := (mkF m 67 #[.val (.int p1), .val (.int p2), .val (.int p3), .val (.int p4), .val (.int p5), .val (.int p6), .val (.ref b_2), .val (.int (2 : Int32))] [(.int (3 : Int32)), (.int p1)])) rfl (by rw [hml]; rfl) (argsL := [(.int p1), (.int (3 : Int32))]) (rest := []) (lenOf pd_0 rfl) rfl (by show 2 * 0 + _ ≤ _; exact Nat.le_of_eq rfl) (hb hby d2_67) (fun _ _ => ⟨rfl, e_20, (by decide : 1 + 0 ≤ _), (by decide : 5 + 0 ≤ _)⟩)
        obtain ⟨rfl, N_81q, e_81⟩ := hQ_81
        have N_81 := Fr.app N_20 N_81q
        refine OGo.to st_81 ?_
        show OGo p e below _ (T_81.setTop (mkF m 70 #[.val (.int p1), .val (.int p2), .val (.int p3), .val (.int p4), .val (.int p5), .val (.int p6), .val (.ref b_2), .val (.int (2 : Int32))] [(.int (own_bit p1 (3 : Int32)))]))
        refine OGo.to (fun _ k => XS.iconst X_81.here hx rfl (hb hby d2_70) k) ?_
        show OGo p e below _ (T_81.setTop (mkF m 71 #[.val (.int p1), .val (.int p2), .val (.int p3), .val (.int p4), .val (.int p5), .val (.int p6), .val (.ref b_2), .val (.int (2 : Int32))] [(.int (1 : Int32)), (.int (own_bit p1 (3 : Int32)))]))
        by_cases hc71__82 : (own_bit p1 (3 : Int32)) = (1 : Int32)
        ·  -- pc 71: yes
          refine OGo.to (fun _ k => XS.icmpNo X_81.here hx rfl (hb hby d2_71) rfl (teq hc71__82).2 k) ?_
          show OGo p e below _ (T_81.setTop (mkF m 74 #[.val (.int p1), .val (.int p2), .val (.int p3), .val (.int p4), .val (.int p5), .val (.int p6), .val (.ref b_2), .val (.int (2 : Int32))] []))
          refine OGo.to (fun _ k => XS.aload X_81.here hx rfl (hb hby d2_74) rfl rfl k) ?_
          show OGo p e below _ (T_81.setTop (mkF m 76 #[.val (.int p1), .val (.int p2), .val (.int p3), .val (.int p4), .val (.int p5), .val (.int p6), .val (.ref b_2), .val (.int (2 : Int32))] [(.ref b_2)]))
          refine OGo.to (fun _ k => XS.iload X_81.here hx rfl (hb hby d2_76) rfl k) ?_
          show OGo p e below _ (T_81.setTop (mkF m 78 #[.val (.int p1), .val (.int p2), .val (.int p3), .val (.int p4), .val (.int p5), .val (.int p6), .val (.ref b_2), .val (.int (2 : Int32))] [(.int (2 : Int32)), (.ref b_2)]))
          refine OGo.to (fun _ k => XS.iload X_81.here hx rfl (hb hby d2_78) rfl k) ?_
          show OGo p e below _ (T_81.setTop (mkF m 80 #[.val (.int p1), .val (.int p2), .val (.int p3), .val (.int p4), .val (.int p5), .val (.int p6), .val (.ref b_2), .val (.int (2 : Int32))] [(.int p5), (.int (2 : Int32)), (.ref b_2)]))
          have Vq_83 := V_15
          obtain ⟨cl_83, Ar_83, q_83, S_83, M_83, Hs_83, G_83⟩ := Vq_83
          have i_85 : ((own_bit p1 (0 : Int32))).toInt = 1 := own_ieq hc17__6
          have i_86 : ((own_bit p1 (1 : Int32))).toInt = 1 := own_ieq hc35__13
          have i_87 : ((own_bit p1 (2 : Int32))).toInt ≠ 1 := own_ine hc53__21
          have i_88 : ((own_bit p1 (3 : Int32))).toInt = 1 := own_ieq hc71__82
          have hin_84 : ¬ ((2 : Int32) < 0 ∨ cl_83.slots.size ≤ ((2 : Int32)).toNatClampNeg) := inb_of S_83 ⟨by decide, own_lti (show (2 : Int) < (own_count p1).toInt by rw [own_countI p1]; omega)⟩
          obtain ⟨T_84, h_84, X_84, e_84, W_84, st_84⟩ := stI X_81 hx hZ e_81 Ar_83 (j := (2 : Int32)) hin_84 (g := (mkF m 80 #[.val (.int p1), .val (.int p2), .val (.int p3), .val (.int p4), .val (.int p5), .val (.int p6), .val (.ref b_2), .val (.int (2 : Int32))] [(.int p5), (.int (2 : Int32)), (.ref b_2)])) rfl rfl (hb hby d2_80)
          refine OGo.to st_84 ?_
          have V_84 : Arv Z h_84 b_2 k_2 .int (own_count p1) [(.int p2), (.int p3), (.int p5), (.int (0 : Int32)), (.int (0 : Int32))] (.int (0 : Int32)) := Arv.set Ar_83 q_83 S_83 M_83 Hs_83 G_83 rfl W_84 2 rfl (Nat.le_of_ble_eq_true rfl)
          have N_84 := Fr.snoc X_84 N_81 g_b_2
          have z_89 : n0 ≤ h_84.size := Nat.le_trans z_18 (Keep.of_wr W_84).1
          have K_90 : Keep h0 h_84 [] := K_19.wr W_84 (Or.inr sz_b_2)
          show OGo p e below _ (T_84.setTop (mkF m 81 #[.val (.int p1), .val (.int p2), .val (.int p3), .val (.int p4), .val (.int p5), .val (.int p6), .val (.ref b_2), .val (.int (2 : Int32))] []))
          refine OGo.to (fun _ k => XS.iinc X_84.here hx rfl (hb hby d2_81) rfl (l' := #[.val (.int p1), .val (.int p2), .val (.int p3), .val (.int p4), .val (.int p5), .val (.int p6), .val (.ref b_2), .val (.int (3 : Int32))]) rfl k) ?_
          show OGo p e below _ (T_84.setTop (mkF m 84 #[.val (.int p1), .val (.int p2), .val (.int p3), .val (.int p4), .val (.int p5), .val (.int p6), .val (.ref b_2), .val (.int (3 : Int32))] []))
          refine OGo.to (fun _ k => XS.iloadN X_84.here hx rfl (hb hby d2_84) rfl k) ?_
          show OGo p e below _ (T_84.setTop (mkF m 85 #[.val (.int p1), .val (.int p2), .val (.int p3), .val (.int p4), .val (.int p5), .val (.int p6), .val (.ref b_2), .val (.int (3 : Int32))] [(.int p1)]))
          refine OGo.to (fun _ k => XS.iconst X_84.here hx rfl (hb hby d2_85) k) ?_
          show OGo p e below _ (T_84.setTop (mkF m 86 #[.val (.int p1), .val (.int p2), .val (.int p3), .val (.int p4), .val (.int p5), .val (.int p6), .val (.ref b_2), .val (.int (3 : Int32))] [(.int (4 : Int32)), (.int p1)]))
          obtain ⟨_, T_91, Lc_91, X_91, hQ_91, st_91⟩ := own_un X_84 (Q := Q4 Z p1 (4 : Int32) h_84 n0) (rc := 0) (rs := 0) (W := fun v B => ∀ target, Steps p.tables e below (B.setTop { (mkF m 86 #[.val (.int p1), .val (.int p2), .val (.int p3), .val (.int p4), .val (.int p5), .val (.int p6), .val (.ref b_2), .val (.int (3 : Int32))] [(.int (4 : Int32)), (.int p1)]) with pc := 89, stack := v.toList ++ [] }) target → Steps p.tables e below (T_84.setTop (mkF m 86 #[.val (.int p1), .val (.int p2), .val (.int p3), .val (.int p4), .val (.int p5), .val (.int p6), .val (.ref b_2), .val (.int (3 : Int32))] [(.int (4 : Int32)), (.int p1)])) target) <| Jvm.LawKit.callS X_84 hx (y := (⟨"com/example/cogram/cogram/index/PostingsEntriesPinLaw", "bit", "(II)I"⟩ : MethodName)) hown (mvT hZ (hw _ (List.mem_of_getElem? (i := 12) rfl))) (mvT hZ (hw _ (List.mem_of_getElem? (i := 13) rfl))) (mvT hZ (hw _ (List.mem_of_getElem? (i := 7) rfl))) (mvT hZ (hw _ (List.mem_of_getElem? (i := 14) rfl))) (by decide) (backOf (W := 0) (rm4 l Z a0 hw [] p1 (4 : Int32) h_84 n0 z_89 ) hZ (hw _ (List.mem_of_getElem? (i := 14) rfl)) (hw _ (List.mem_of_getElem? (i := 7) rfl)) (by decide) (by decide)) (g := (mkF m 86 #[.val (.int p1), .val (.int p2), .val (.int p3), .val (.int p4), .val (.int p5), .val (.int p6), .val (.ref b_2), .val (.int (3 : Int32))] [(.int (4 : Int32)), (.int p1)])) rfl (by rw [hml]; rfl) (argsL := [(.int p1), (.int (4 : Int32))]) (rest := []) (lenOf pd_0 rfl) rfl (by show 2 * 0 + _ ≤ _; exact Nat.le_of_eq rfl) (hb hby d2_86) (fun _ _ => ⟨rfl, e_84, (by decide : 1 + 0 ≤ _), (by decide : 5 + 0 ≤ _)⟩)
          obtain ⟨rfl, N_91q, e_91⟩ := hQ_91
          have N_91 := Fr.app N_84 N_91q
          refine OGo.to st_91 ?_
          show OGo p e below _ (T_91.setTop (mkF m 89 #[.val (.int p1), .val (.int p2), .val (.int p3), .val (.int p4), .val (.int p5), .val (.int p6), .val (.ref b_2), .val (.int (3 : Int32))] [(.int (own_bit p1 (4 : Int32)))]))
          refine OGo.to (fun _ k => XS.iconst X_91.here hx rfl (hb hby d2_89) k) ?_
          show OGo p e below _ (T_91.setTop (mkF m 90 #[.val (.int p1), .val (.int p2), .val (.int p3), .val (.int p4), .val (.int p5), .val (.int p6), .val (.ref b_2), .val (.int (3 : Int32))] [(.int (1 : Int32)), (.int (own_bit p1 (4 : Int32)))]))
          by_cases hc90__92 : (own_bit p1 (4 : Int32)) = (1 : Int32)
          ·  -- pc 90: yes
            refine OGo.to (fun _ k => XS.icmpNo X_91.here hx rfl (hb hby d2_90) rfl (teq hc90__92).2 k) ?_
            show OGo p e below _ (T_91.setTop (mkF m 93 #[.val (.int p1), .val (.int p2), .val (.int p3), .val (.int p4), .val (.int p5), .val (.int p6), .val (.ref b_2), .val (.int (3 : Int32))] []))
            refine OGo.to (fun _ k => XS.aload X_91.here hx rfl (hb hby d2_93) rfl rfl k) ?_
            show OGo p e below _ (T_91.setTop (mkF m 95 #[.val (.int p1), .val (.int p2), .val (.int p3), .val (.int p4), .val (.int p5), .val (.int p6), .val (.ref b_2), .val (.int (3 : Int32))] [(.ref b_2)]))
            refine OGo.to (fun _ k => XS.iload X_91.here hx rfl (hb hby d2_95) rfl k) ?_
            show OGo p e below _ (T_91.setTop (mkF m 97 #[.val (.int p1), .val (.int p2), .val (.int p3), .val (.int p4), .val (.int p5), .val (.int p6), .val (.ref b_2), .val (.int (3 : Int32))] [(.int (3 : Int32)), (.ref b_2)]))
            refine OGo.to (fun _ k => XS.iload X_91.here hx rfl (hb hby d2_97) rfl k) ?_
            show OGo p e below _ (T_91.setTop (mkF m 99 #[.val (.int p1), .val (.int p2), .val (.int p3), .val (.int p4), .val (.int p5), .val (.int p6), .val (.ref b_2), .val (.int (3 : Int32))] [(.int p6), (.int (3 : Int32)), (.ref b_2)]))
            have Vq_93 := V_84
            obtain ⟨cl_93, Ar_93, q_93, S_93, M_93, Hs_93, G_93⟩ := Vq_93
            have i_95 : ((own_bit p1 (0 : Int32))).toInt = 1 := own_ieq hc17__6
            have i_96 : ((own_bit p1 (1 : Int32))).toInt = 1 := own_ieq hc35__13
            have i_97 : ((own_bit p1 (2 : Int32))).toInt ≠ 1 := own_ine hc53__21
            have i_98 : ((own_bit p1 (3 : Int32))).toInt = 1 := own_ieq hc71__82
            have i_99 : ((own_bit p1 (4 : Int32))).toInt = 1 := own_ieq hc90__92
            have hin_94 : ¬ ((3 : Int32) < 0 ∨ cl_93.slots.size ≤ ((3 : Int32)).toNatClampNeg) := inb_of S_93 ⟨by decide, own_lti (show (3 : Int) < (own_count p1).toInt by rw [own_countI p1]; omega)⟩
            obtain ⟨T_94, h_94, X_94, e_94, W_94, st_94⟩ := stI X_91 hx hZ e_91 Ar_93 (j := (3 : Int32)) hin_94 (g := (mkF m 99 #[.val (.int p1), .val (.int p2), .val (.int p3), .val (.int p4), .val (.int p5), .val (.int p6), .val (.ref b_2), .val (.int (3 : Int32))] [(.int p6), (.int (3 : Int32)), (.ref b_2)])) rfl rfl (hb hby d2_99)
            refine OGo.to st_94 ?_
            have V_94 : Arv Z h_94 b_2 k_2 .int (own_count p1) [(.int p2), (.int p3), (.int p5), (.int p6), (.int (0 : Int32))] (.int (0 : Int32)) := Arv.set Ar_93 q_93 S_93 M_93 Hs_93 G_93 rfl W_94 3 rfl (Nat.le_of_ble_eq_true rfl)
            have N_94 := Fr.snoc X_94 N_91 g_b_2
            have z_100 : n0 ≤ h_94.size := Nat.le_trans z_89 (Keep.of_wr W_94).1
            have K_101 : Keep h0 h_94 [] := K_90.wr W_94 (Or.inr sz_b_2)
            show OGo p e below _ (T_94.setTop (mkF m 100 #[.val (.int p1), .val (.int p2), .val (.int p3), .val (.int p4), .val (.int p5), .val (.int p6), .val (.ref b_2), .val (.int (3 : Int32))] []))
            refine OGo.to (fun _ k => XS.iinc X_94.here hx rfl (hb hby d2_100) rfl (l' := #[.val (.int p1), .val (.int p2), .val (.int p3), .val (.int p4), .val (.int p5), .val (.int p6), .val (.ref b_2), .val (.int (4 : Int32))]) rfl k) ?_
            show OGo p e below _ (T_94.setTop (mkF m 103 #[.val (.int p1), .val (.int p2), .val (.int p3), .val (.int p4), .val (.int p5), .val (.int p6), .val (.ref b_2), .val (.int (4 : Int32))] []))
            refine OGo.to (fun _ k => XS.aload X_94.here hx rfl (hb hby d2_103) rfl rfl k) ?_
            show OGo p e below _ (T_94.setTop (mkF m 105 #[.val (.int p1), .val (.int p2), .val (.int p3), .val (.int p4), .val (.int p5), .val (.int p6), .val (.ref b_2), .val (.int (4 : Int32))] [(.ref b_2)]))
            refine OGo.ret (Q := Q2 Z p1 p2 p3 p4 p5 p6 h0 n0) X_94 (some (.ref b_2)) (fun h => by rw [Bd.returns] at h; cases h) Bd.notSynchronized (fun fs hr => own_retA X_94 hx Bd.returns rfl rfl (hb hby d2_105) hr) ?_ (by decide) (by decide)
            have hidx : own_idx p1 = [0, 1, 3, 4] := by unfold own_idx; rw [if_pos hc17__6, if_pos hc35__13, if_neg hc53__21, if_pos hc71__82, if_pos hc90__92]; rfl
            have i_102 : ((own_bit p1 (0 : Int32))).toInt = 1 := own_ieq hc17__6
            have i_103 : ((own_bit p1 (1 : Int32))).toInt = 1 := own_ieq hc35__13
            have i_104 : ((own_bit p1 (2 : Int32))).toInt ≠ 1 := own_ine hc53__21
            have i_105 : ((own_bit p1 (3 : Int32))).toInt = 1 := own_ieq hc71__82
            have i_106 : ((own_bit p1 (4 : Int32))).toInt = 1 := own_ieq hc90__92
            have hsel : ([p2, p3, p5, p6] : List Int32) = (own_sel p1 p2 p3 p4 p5 p6) := by unfold own_sel; rw [hidx]; rfl
            have hcnt : own_count p1 = own_i (own_sel p1 p2 p3 p4 p5 p6).length := by rw [← hsel]; exact own_eqi (show (own_count p1).toInt = (4 : Int) by rw [own_countI p1]; omega)
            show Q2 Z p1 p2 p3 p4 p5 p6 h0 n0 _ T_94.heap _
            rw [e_94]
            exact ⟨b_2, k_2, rfl, N_94, K_101, g_b_2, sz_b_2, (own_conv (L := ([p2, p3, p5, p6] : List Int32)) (r := 1) V_94 hcnt hsel)⟩
          ·  -- pc 90: no
            refine OGo.to (fun _ k => XS.icmpYes X_91.here hx rfl (pc0 := 90) (pc' := 103) rfl (hb hby d2_90) rfl (feq hc90__92).2 (by decide) (by decide) k) ?_
            show OGo p e below _ (T_91.setTop (mkF m 103 #[.val (.int p1), .val (.int p2), .val (.int p3), .val (.int p4), .val (.int p5), .val (.int p6), .val (.ref b_2), .val (.int (3 : Int32))] []))
            refine OGo.to (fun _ k => XS.aload X_91.here hx rfl (hb hby d2_103) rfl rfl k) ?_
            show OGo p e below _ (T_91.setTop (mkF m 105 #[.val (.int p1), .val (.int p2), .val (.int p3), .val (.int p4), .val (.int p5), .val (.int p6), .val (.ref b_2), .val (.int (3 : Int32))] [(.ref b_2)]))
            refine OGo.ret (Q := Q2 Z p1 p2 p3 p4 p5 p6 h0 n0) X_91 (some (.ref b_2)) (fun h => by rw [Bd.returns] at h; cases h) Bd.notSynchronized (fun fs hr => own_retA X_91 hx Bd.returns rfl rfl (hb hby d2_105) hr) ?_ (by decide) (by decide)
            have hidx : own_idx p1 = [0, 1, 3] := by unfold own_idx; rw [if_pos hc17__6, if_pos hc35__13, if_neg hc53__21, if_pos hc71__82, if_neg hc90__92]; rfl
            have i_107 : ((own_bit p1 (0 : Int32))).toInt = 1 := own_ieq hc17__6
            have i_108 : ((own_bit p1 (1 : Int32))).toInt = 1 := own_ieq hc35__13
            have i_109 : ((own_bit p1 (2 : Int32))).toInt ≠ 1 := own_ine hc53__21
            have i_110 : ((own_bit p1 (3 : Int32))).toInt = 1 := own_ieq hc71__82
            have i_111 : ((own_bit p1 (4 : Int32))).toInt ≠ 1 := own_ine hc90__92
            have hsel : ([p2, p3, p5] : List Int32) = (own_sel p1 p2 p3 p4 p5 p6) := by unfold own_sel; rw [hidx]; rfl
            have hcnt : own_count p1 = own_i (own_sel p1 p2 p3 p4 p5 p6).length := by rw [← hsel]; exact own_eqi (show (own_count p1).toInt = (3 : Int) by rw [own_countI p1]; omega)
            show Q2 Z p1 p2 p3 p4 p5 p6 h0 n0 _ T_91.heap _
            rw [e_91]
            exact ⟨b_2, k_2, rfl, N_91, K_90, g_b_2, sz_b_2, (own_conv (L := ([p2, p3, p5] : List Int32)) (r := 2) V_84 hcnt hsel)⟩
        ·  -- pc 71: no
          refine OGo.to (fun _ k => XS.icmpYes X_81.here hx rfl (pc0 := 71) (pc' := 84) rfl (hb hby d2_71) rfl (feq hc71__82).2 (by decide) (by decide) k) ?_
          show OGo p e below _ (T_81.setTop (mkF m 84 #[.val (.int p1), .val (.int p2), .val (.int p3), .val (.int p4), .val (.int p5), .val (.int p6), .val (.ref b_2), .val (.int (2 : Int32))] []))
          refine OGo.to (fun _ k => XS.iloadN X_81.here hx rfl (hb hby d2_84) rfl k) ?_
          show OGo p e below _ (T_81.setTop (mkF m 85 #[.val (.int p1), .val (.int p2), .val (.int p3), .val (.int p4), .val (.int p5), .val (.int p6), .val (.ref b_2), .val (.int (2 : Int32))] [(.int p1)]))
          refine OGo.to (fun _ k => XS.iconst X_81.here hx rfl (hb hby d2_85) k) ?_
          show OGo p e below _ (T_81.setTop (mkF m 86 #[.val (.int p1), .val (.int p2), .val (.int p3), .val (.int p4), .val (.int p5), .val (.int p6), .val (.ref b_2), .val (.int (2 : Int32))] [(.int (4 : Int32)), (.int p1)]))
          obtain ⟨_, T_112, Lc_112, X_112, hQ_112, st_112⟩ := own_un X_81 (Q := Q4 Z p1 (4 : Int32) h_15 n0) (rc := 0) (rs := 0) (W := fun v B => ∀ target, Steps p.tables e below (B.setTop { (mkF m 86 #[.val (.int p1), .val (.int p2), .val (.int p3), .val (.int p4), .val (.int p5), .val (.int p6), .val (.ref b_2), .val (.int (2 : Int32))] [(.int (4 : Int32)), (.int p1)]) with pc := 89, stack := v.toList ++ [] }) target → Steps p.tables e below (T_81.setTop (mkF m 86 #[.val (.int p1), .val (.int p2), .val (.int p3), .val (.int p4), .val (.int p5), .val (.int p6), .val (.ref b_2), .val (.int (2 : Int32))] [(.int (4 : Int32)), (.int p1)])) target) <| Jvm.LawKit.callS X_81 hx (y := (⟨"com/example/cogram/cogram/index/PostingsEntriesPinLaw", "bit", "(II)I"⟩ : MethodName)) hown (mvT hZ (hw _ (List.mem_of_getElem? (i := 12) rfl))) (mvT hZ (hw _ (List.mem_of_getElem? (i := 13) rfl))) (mvT hZ (hw _ (List.mem_of_getElem? (i := 7) rfl))) (mvT hZ (hw _ (List.mem_of_getElem? (i := 14) rfl))) (by decide) (backOf (W := 0) (rm4 l Z a0 hw [] p1 (4 : Int32) h_15 n0 z_18 ) hZ (hw _ (List.mem_of_getElem? (i := 14) rfl)) (hw _ (List.mem_of_getElem? (i := 7) rfl)) (by decide) (by decide)) (g := (mkF m 86 #[.val (.int p1), .val (.int p2), .val (.int p3), .val (.int p4), .val (.int p5), .val (.int p6), .val (.ref b_2), .val (.int (2 : Int32))] [(.int (4 : Int32)), (.int p1)])) rfl (by rw [hml]; rfl) (argsL := [(.int p1), (.int (4 : Int32))]) (rest := []) (lenOf pd_0 rfl) rfl (by show 2 * 0 + _ ≤ _; exact Nat.le_of_eq rfl) (hb hby d2_86) (fun _ _ => ⟨rfl, e_81, (by decide : 1 + 0 ≤ _), (by decide : 5 + 0 ≤ _)⟩)
          obtain ⟨rfl, N_112q, e_112⟩ := hQ_112
          have N_112 := Fr.app N_81 N_112q
          refine OGo.to st_112 ?_
          show OGo p e below _ (T_112.setTop (mkF m 89 #[.val (.int p1), .val (.int p2), .val (.int p3), .val (.int p4), .val (.int p5), .val (.int p6), .val (.ref b_2), .val (.int (2 : Int32))] [(.int (own_bit p1 (4 : Int32)))]))
          refine OGo.to (fun _ k => XS.iconst X_112.here hx rfl (hb hby d2_89) k) ?_
          show OGo p e below _ (T_112.setTop (mkF m 90 #[.val (.int p1), .val (.int p2), .val (.int p3), .val (.int p4), .val (.int p5), .val (.int p6), .val (.ref b_2), .val (.int (2 : Int32))] [(.int (1 : Int32)), (.int (own_bit p1 (4 : Int32)))]))
          by_cases hc90__113 : (own_bit p1 (4 : Int32)) = (1 : Int32)
          ·  -- pc 90: yes
            refine OGo.to (fun _ k => XS.icmpNo X_112.here hx rfl (hb hby d2_90) rfl (teq hc90__113).2 k) ?_
            show OGo p e below _ (T_112.setTop (mkF m 93 #[.val (.int p1), .val (.int p2), .val (.int p3), .val (.int p4), .val (.int p5), .val (.int p6), .val (.ref b_2), .val (.int (2 : Int32))] []))
            refine OGo.to (fun _ k => XS.aload X_112.here hx rfl (hb hby d2_93) rfl rfl k) ?_
            show OGo p e below _ (T_112.setTop (mkF m 95 #[.val (.int p1), .val (.int p2), .val (.int p3), .val (.int p4), .val (.int p5), .val (.int p6), .val (.ref b_2), .val (.int (2 : Int32))] [(.ref b_2)]))
            refine OGo.to (fun _ k => XS.iload X_112.here hx rfl (hb hby d2_95) rfl k) ?_
            show OGo p e below _ (T_112.setTop (mkF m 97 #[.val (.int p1), .val (.int p2), .val (.int p3), .val (.int p4), .val (.int p5), .val (.int p6), .val (.ref b_2), .val (.int (2 : Int32))] [(.int (2 : Int32)), (.ref b_2)]))
            refine OGo.to (fun _ k => XS.iload X_112.here hx rfl (hb hby d2_97) rfl k) ?_
            show OGo p e below _ (T_112.setTop (mkF m 99 #[.val (.int p1), .val (.int p2), .val (.int p3), .val (.int p4), .val (.int p5), .val (.int p6), .val (.ref b_2), .val (.int (2 : Int32))] [(.int p6), (.int (2 : Int32)), (.ref b_2)]))
            have Vq_114 := V_15
            obtain ⟨cl_114, Ar_114, q_114, S_114, M_114, Hs_114, G_114⟩ := Vq_114
            have i_116 : ((own_bit p1 (0 : Int32))).toInt = 1 := own_ieq hc17__6
            have i_117 : ((own_bit p1 (1 : Int32))).toInt = 1 := own_ieq hc35__13
            have i_118 : ((own_bit p1 (2 : Int32))).toInt ≠ 1 := own_ine hc53__21
            have i_119 : ((own_bit p1 (3 : Int32))).toInt ≠ 1 := own_ine hc71__82
            have i_120 : ((own_bit p1 (4 : Int32))).toInt = 1 := own_ieq hc90__113
            have hin_115 : ¬ ((2 : Int32) < 0 ∨ cl_114.slots.size ≤ ((2 : Int32)).toNatClampNeg) := inb_of S_114 ⟨by decide, own_lti (show (2 : Int) < (own_count p1).toInt by rw [own_countI p1]; omega)⟩
            obtain ⟨T_115, h_115, X_115, e_115, W_115, st_115⟩ := stI X_112 hx hZ e_112 Ar_114 (j := (2 : Int32)) hin_115 (g := (mkF m 99 #[.val (.int p1), .val (.int p2), .val (.int p3), .val (.int p4), .val (.int p5), .val (.int p6), .val (.ref b_2), .val (.int (2 : Int32))] [(.int p6), (.int (2 : Int32)), (.ref b_2)])) rfl rfl (hb hby d2_99)
            refine OGo.to st_115 ?_
            have V_115 : Arv Z h_115 b_2 k_2 .int (own_count p1) [(.int p2), (.int p3), (.int p6), (.int (0 : Int32)), (.int (0 : Int32))] (.int (0 : Int32)) := Arv.set Ar_114 q_114 S_114 M_114 Hs_114 G_114 rfl W_115 2 rfl (Nat.le_of_ble_eq_true rfl)
            have N_115 := Fr.snoc X_115 N_112 g_b_2
            have z_121 : n0 ≤ h_115.size := Nat.le_trans z_18 (Keep.of_wr W_115).1
            have K_122 : Keep h0 h_115 [] := K_19.wr W_115 (Or.inr sz_b_2)
            show OGo p e below _ (T_115.setTop (mkF m 100 #[.val (.int p1), .val (.int p2), .val (.int p3), .val (.int p4), .val (.int p5), .val (.int p6), .val (.ref b_2), .val (.int (2 : Int32))] []))
            refine OGo.to (fun _ k => XS.iinc X_115.here hx rfl (hb hby d2_100) rfl (l' := #[.val (.int p1), .val (.int p2), .val (.int p3), .val (.int p4), .val (.int p5), .val (.int p6), .val (.ref b_2), .val (.int (3 : Int32))]) rfl k) ?_
            show OGo p e below _ (T_115.setTop (mkF m 103 #[.val (.int p1), .val (.int p2), .val (.int p3), .val (.int p4), .val (.int p5), .val (.int p6), .val (.ref b_2), .val (.int (3 : Int32))] []))
            refine OGo.to (fun _ k => XS.aload X_115.here hx rfl (hb hby d2_103) rfl rfl k) ?_
            show OGo p e below _ (T_115.setTop (mkF m 105 #[.val (.int p1), .val (.int p2), .val (.int p3), .val (.int p4), .val (.int p5), .val (.int p6), .val (.ref b_2), .val (.int (3 : Int32))] [(.ref b_2)]))
            refine OGo.ret (Q := Q2 Z p1 p2 p3 p4 p5 p6 h0 n0) X_115 (some (.ref b_2)) (fun h => by rw [Bd.returns] at h; cases h) Bd.notSynchronized (fun fs hr => own_retA X_115 hx Bd.returns rfl rfl (hb hby d2_105) hr) ?_ (by decide) (by decide)
            have hidx : own_idx p1 = [0, 1, 4] := by unfold own_idx; rw [if_pos hc17__6, if_pos hc35__13, if_neg hc53__21, if_neg hc71__82, if_pos hc90__113]; rfl
            have i_123 : ((own_bit p1 (0 : Int32))).toInt = 1 := own_ieq hc17__6
            have i_124 : ((own_bit p1 (1 : Int32))).toInt = 1 := own_ieq hc35__13
            have i_125 : ((own_bit p1 (2 : Int32))).toInt ≠ 1 := own_ine hc53__21
            have i_126 : ((own_bit p1 (3 : Int32))).toInt ≠ 1 := own_ine hc71__82
            have i_127 : ((own_bit p1 (4 : Int32))).toInt = 1 := own_ieq hc90__113
            have hsel : ([p2, p3, p6] : List Int32) = (own_sel p1 p2 p3 p4 p5 p6) := by unfold own_sel; rw [hidx]; rfl
            have hcnt : own_count p1 = own_i (own_sel p1 p2 p3 p4 p5 p6).length := by rw [← hsel]; exact own_eqi (show (own_count p1).toInt = (3 : Int) by rw [own_countI p1]; omega)
            show Q2 Z p1 p2 p3 p4 p5 p6 h0 n0 _ T_115.heap _
            rw [e_115]
            exact ⟨b_2, k_2, rfl, N_115, K_122, g_b_2, sz_b_2, (own_conv (L := ([p2, p3, p6] : List Int32)) (r := 2) V_115 hcnt hsel)⟩
          ·  -- pc 90: no
            refine OGo.to (fun _ k => XS.icmpYes X_112.here hx rfl (pc0 := 90) (pc' := 103) rfl (hb hby d2_90) rfl (feq hc90__113).2 (by decide) (by decide) k) ?_
            show OGo p e below _ (T_112.setTop (mkF m 103 #[.val (.int p1), .val (.int p2), .val (.int p3), .val (.int p4), .val (.int p5), .val (.int p6), .val (.ref b_2), .val (.int (2 : Int32))] []))
            refine OGo.to (fun _ k => XS.aload X_112.here hx rfl (hb hby d2_103) rfl rfl k) ?_
            show OGo p e below _ (T_112.setTop (mkF m 105 #[.val (.int p1), .val (.int p2), .val (.int p3), .val (.int p4), .val (.int p5), .val (.int p6), .val (.ref b_2), .val (.int (2 : Int32))] [(.ref b_2)]))
            refine OGo.ret (Q := Q2 Z p1 p2 p3 p4 p5 p6 h0 n0) X_112 (some (.ref b_2)) (fun h => by rw [Bd.returns] at h; cases h) Bd.notSynchronized (fun fs hr => own_retA X_112 hx Bd.returns rfl rfl (hb hby d2_105) hr) ?_ (by decide) (by decide)
            have hidx : own_idx p1 = [0, 1] := by unfold own_idx; rw [if_pos hc17__6, if_pos hc35__13, if_neg hc53__21, if_neg hc71__82, if_neg hc90__113]; rfl
            have i_128 : ((own_bit p1 (0 : Int32))).toInt = 1 := own_ieq hc17__6
            have i_129 : ((own_bit p1 (1 : Int32))).toInt = 1 := own_ieq hc35__13
            have i_130 : ((own_bit p1 (2 : Int32))).toInt ≠ 1 := own_ine hc53__21
            have i_131 : ((own_bit p1 (3 : Int32))).toInt ≠ 1 := own_ine hc71__82
            have i_132 : ((own_bit p1 (4 : Int32))).toInt ≠ 1 := own_ine hc90__113
            have hsel : ([p2, p3] : List Int32) = (own_sel p1 p2 p3 p4 p5 p6) := by unfold own_sel; rw [hidx]; rfl
            have hcnt : own_count p1 = own_i (own_sel p1 p2 p3 p4 p5 p6).length := by rw [← hsel]; exact own_eqi (show (own_count p1).toInt = (2 : Int) by rw [own_countI p1]; omega)
            show Q2 Z p1 p2 p3 p4 p5 p6 h0 n0 _ T_112.heap _
            rw [e_112]
            exact ⟨b_2, k_2, rfl, N_112, K_19, g_b_2, sz_b_2, (own_conv (L := ([p2, p3] : List Int32)) (r := 3) V_15 hcnt hsel)⟩
    ·  -- pc 35: no
      refine OGo.to (fun _ k => XS.icmpYes X_12.here hx rfl (pc0 := 35) (pc' := 47) rfl (hb hby d2_35) rfl (feq hc35__13).2 (by decide) (by decide) k) ?_
      show OGo p e below _ (T_12.setTop (mkF m 47 #[.val (.int p1), .val (.int p2), .val (.int p3), .val (.int p4), .val (.int p5), .val (.int p6), .val (.ref b_2), .val (.int (1 : Int32))] []))
      refine OGo.to (fun _ k => XS.iloadN X_12.here hx rfl (hb hby d2_47) rfl k) ?_
      show OGo p e below _ (T_12.setTop (mkF m 48 #[.val (.int p1), .val (.int p2), .val (.int p3), .val (.int p4), .val (.int p5), .val (.int p6), .val (.ref b_2), .val (.int (1 : Int32))] [(.int p1)]))
      refine OGo.to (fun _ k => XS.iconst X_12.here hx rfl (hb hby d2_48) k) ?_
      show OGo p e below _ (T_12.setTop (mkF m 49 #[.val (.int p1), .val (.int p2), .val (.int p3), .val (.int p4), .val (.int p5), .val (.int p6), .val (.ref b_2), .val (.int (1 : Int32))] [(.int (2 : Int32)), (.int p1)]))
      obtain ⟨_, T_133, Lc_133, X_133, hQ_133, st_133⟩ := own_un X_12 (Q := Q4 Z p1 (2 : Int32) h_8 n0) (rc := 0) (rs := 0) (W := fun v B => ∀ target, Steps p.tables e below (B.setTop { (mkF m 49 #[.val (.int p1), .val (.int p2), .val (.int p3), .val (.int p4), .val (.int p5), .val (.int p6), .val (.ref b_2), .val (.int (1 : Int32))] [(.int (2 : Int32)), (.int p1)]) with pc := 52, stack := v.toList ++ [] }) target → Steps p.tables e below (T_12.setTop (mkF m 49 #[.val (.int p1), .val (.int p2), .val (.int p3), .val (.int p4), .val (.int p5), .val (.int p6), .val (.ref b_2), .val (.int (1 : Int32))] [(.int (2 : Int32)), (.int p1)])) target) <| Jvm.LawKit.callS X_12 hx (y := (⟨"com/example/cogram/cogram/index/PostingsEntriesPinLaw", "bit", "(II)I"⟩ : MethodName)) hown (mvT hZ (hw _ (List.mem_of_getElem? (i := 12) rfl))) (mvT hZ (hw _ (List.mem_of_getElem? (i := 13) rfl))) (mvT hZ (hw _ (List.mem_of_getElem? (i := 7) rfl))) (mvT hZ (hw _ (List.mem_of_getElem? (i := 14) rfl))) (by decide) (backOf (W := 0) (rm4 l Z a0 hw [] p1 (2 : Int32) h_8 n0 z_10 ) hZ (hw _ (List.mem_of_getElem? (i := 14) rfl)) (hw _ (List.mem_of_getElem? (i := 7) rfl)) (by decide) (by decide)) (g := (mkF m 49 #[.val (.int p1), .val (.int p2), .val (.int p3), .val (.int p4), .val (.int p5), .val (.int p6), .val (.ref b_2), .val (.int (1 : Int32))] [(.int (2 : Int32)), (.int p1)])) rfl (by rw [hml]; rfl) (argsL := [(.int p1), (.int (2 : Int32))]) (rest := []) (lenOf pd_0 rfl) rfl (by show 2 * 0 + _ ≤ _; exact Nat.le_of_eq rfl) (hb hby d2_49) (fun _ _ => ⟨rfl, e_12, (by decide : 1 + 0 ≤ _), (by decide : 5 + 0 ≤ _)⟩)
      obtain ⟨rfl, N_133q, e_133⟩ := hQ_133
      have N_133 := Fr.app N_12 N_133q
      refine OGo.to st_133 ?_
      show OGo p e below _ (T_133.setTop (mkF m 52 #[.val (.int p1), .val (.int p2), .val (.int p3), .val (.int p4), .val (.int p5), .val (.int p6), .val (.ref b_2), .val (.int (1 : Int32))] [(.int (own_bit p1 (2 : Int32)))]))
      refine OGo.to (fun _ k => XS.iconst X_133.here hx rfl (hb hby d2_52) k) ?_
      show OGo p e below _ (T_133.setTop (mkF m 53 #[.val (.int p1), .val (.int p2), .val (.int p3), .val (.int p4), .val (.int p5), .val (.int p6), .val (.ref b_2), .val (.int (1 : Int32))] [(.int (1 : Int32)), (.int (own_bit p1 (2 : Int32)))]))
      by_cases hc53__134 : (own_bit p1 (2 : Int32)) = (1 : Int32)
      ·  -- pc 53: yes
        refine OGo.to (fun _ k => XS.icmpNo X_133.here hx rfl (hb hby d2_53) rfl (teq hc53__134).2 k) ?_
        show OGo p e below _ (T_133.setTop (mkF m 56 #[.val (.int p1), .val (.int p2), .val (.int p3), .val (.int p4), .val (.int p5), .val (.int p6), .val (.ref b_2), .val (.int (1 : Int32))] []))
        refine OGo.to (fun _ k => XS.aload X_133.here hx rfl (hb hby d2_56) rfl rfl k) ?_
        show OGo p e below _ (T_133.setTop (mkF m 58 #[.val (.int p1), .val (.int p2), .val (.int p3), .val (.int p4), .val (.int p5), .val (.int p6), .val (.ref b_2), .val (.int (1 : Int32))] [(.ref b_2)]))
        refine OGo.to (fun _ k => XS.iload X_133.here hx rfl (hb hby d2_58) rfl k) ?_
        show OGo p e below _ (T_133.setTop (mkF m 60 #[.val (.int p1), .val (.int p2), .val (.int p3), .val (.int p4), .val (.int p5), .val (.int p6), .val (.ref b_2), .val (.int (1 : Int32))] [(.int (1 : Int32)), (.ref b_2)]))
        refine OGo.to (fun _ k => XS.iloadN X_133.here hx rfl (hb hby d2_60) rfl k) ?_
        show OGo p e below _ (T_133.setTop (mkF m 61 #[.val (.int p1), .val (.int p2), .val (.int p3), .val (.int p4), .val (.int p5), .val (.int p6), .val (.ref b_2), .val (.int (1 : Int32))] [(.int p4), (.int (1 : Int32)), (.ref b_2)]))
        have Vq_135 := V_8
        obtain ⟨cl_135, Ar_135, q_135, S_135, M_135, Hs_135, G_135⟩ := Vq_135
        have i_137 : ((own_bit p1 (0 : Int32))).toInt = 1 := own_ieq hc17__6
        have i_138 : ((own_bit p1 (1 : Int32))).toInt ≠ 1 := own_ine hc35__13
        have i_139 : ((own_bit p1 (2 : Int32))).toInt = 1 := own_ieq hc53__134
        have hin_136 : ¬ ((1 : Int32) < 0 ∨ cl_135.slots.size ≤ ((1 : Int32)).toNatClampNeg) := inb_of S_135 ⟨by decide, own_lti (show (1 : Int) < (own_count p1).toInt by rw [own_countI p1]; omega)⟩
        obtain ⟨T_136, h_136, X_136, e_136, W_136, st_136⟩ := stI X_133 hx hZ e_133 Ar_135 (j := (1 : Int32)) hin_136 (g := (mkF m 61 #[.val (.int p1), .val (.int p2), .val (.int p3), .val (.int p4), .val (.int p5), .val (.int p6), .val (.ref b_2), .val (.int (1 : Int32))] [(.int p4), (.int (1 : Int32)), (.ref b_2)])) rfl rfl (hb hby d2_61)
        refine OGo.to st_136 ?_
        have V_136 : Arv Z h_136 b_2 k_2 .int (own_count p1) [(.int p2), (.int p4), (.int (0 : Int32)), (.int (0 : Int32)), (.int (0 : Int32))] (.int (0 : Int32)) := Arv.set Ar_135 q_135 S_135 M_135 Hs_135 G_135 rfl W_136 1 rfl (Nat.le_of_ble_eq_true rfl)
        have N_136 := Fr.snoc X_136 N_133 g_b_2
        have z_140 : n0 ≤ h_136.size := Nat.le_trans z_10 (Keep.of_wr W_136).1
        have K_141 : Keep h0 h_136 [] := K_11.wr W_136 (Or.inr sz_b_2)
        show OGo p e below _ (T_136.setTop (mkF m 62 #[.val (.int p1), .val (.int p2), .val (.int p3), .val (.int p4), .val (.int p5), .val (.int p6), .val (.ref b_2), .val (.int (1 : Int32))] []))
        refine OGo.to (fun _ k => XS.iinc X_136.here hx rfl (hb hby d2_62) rfl (l' := #[.val (.int p1), .val (.int p2), .val (.int p3), .val (.int p4), .val (.int p5), .val (.int p6), .val (.ref b_2), .val (.int (2 : Int32))]) rfl k) ?_
        show OGo p e below _ (T_136.setTop (mkF m 65 #[.val (.int p1), .val (.int p2), .val (.int p3), .val (.int p4), .val (.int p5), .val (.int p6), .val (.ref b_2), .val (.int (2 : Int32))] []))
        refine OGo.to (fun _ k => XS.iloadN X_136.here hx rfl (hb hby d2_65) rfl k) ?_
        show OGo p e below _ (T_136.setTop (mkF m 66 #[.val (.int p1), .val (.int p2), .val (.int p3), .val (.int p4), .val (.int p5), .val (.int p6), .val (.ref b_2), .val (.int (2 : Int32))] [(.int p1)]))
        refine OGo.to (fun _ k => XS.iconst X_136.here hx rfl (hb hby d2_66) k) ?_
        show OGo p e below _ (T_136.setTop (mkF m 67 #[.val (.int p1), .val (.int p2), .val (.int p3), .val (.int p4), .val (.int p5), .val (.int p6), .val (.ref b_2), .val (.int (2 : Int32))] [(.int (3 : Int32)), (.int p1)]))
        obtain ⟨_, T_142, Lc_142, X_142, hQ_142, st_142⟩ := own_un X_136 (Q := Q4 Z p1 (3 : Int32) h_136 n0) (rc := 0) (rs := 0) (W := fun v B => ∀ target, Steps p.tables e below (B.setTop { (mkF m 67 #[.val (.int p1), .val (.int p2), .val (.int p3), .val (.int p4), .val (.int p5), .val (.int p6), .val (.ref b_2), .val (.int (2 : Int32))] [(.int (3 : Int32)), (.int p1)]) with pc := 70, stack := v.toList ++ [] }) target → Steps p.tables e below (T_136.setTop (mkF m 67 #[.val (.int p1), .val (.int p2), .val (.int p3), .val (.int p4), .val (.int p5), .val (.int p6), .val (.ref b_2), .val (.int (2 : Int32))] [(.int (3 : Int32)), (.int p1)])) target) <| Jvm.LawKit.callS X_136 hx (y := (⟨"com/example/cogram/cogram/index/PostingsEntriesPinLaw", "bit", "(II)I"⟩ : MethodName)) hown (mvT hZ (hw _ (List.mem_of_getElem? (i := 12) rfl))) (mvT hZ (hw _ (List.mem_of_getElem? (i := 13) rfl))) (mvT hZ (hw _ (List.mem_of_getElem? (i := 7) rfl))) (mvT hZ (hw _ (List.mem_of_getElem? (i := 14) rfl))) (by decide) (backOf (W := 0) (rm4 l Z a0 hw [] p1 (3 : Int32) h_136 n0 z_140 ) hZ (hw _ (List.mem_of_getElem? (i := 14) rfl)) (hw _ (List.mem_of_getElem? (i := 7) rfl)) (by decide) (by decide)) (g := (mkF m 67 #[.val (.int p1), .val (.int p2), .val (.int p3), .val (.int p4), .val (.int p5), .val (.int p6), .val (.ref b_2), .val (.int (2 : Int32))] [(.int (3 : Int32)), (.int p1)])) rfl (by rw [hml]; rfl) (argsL := [(.int p1), (.int (3 : Int32))]) (rest := []) (lenOf pd_0 rfl) rfl (by show 2 * 0 + _ ≤ _; exact Nat.le_of_eq rfl) (hb hby d2_67) (fun _ _ => ⟨rfl, e_136, (by decide : 1 + 0 ≤ _), (by decide : 5 + 0 ≤ _)⟩)
        obtain ⟨rfl, N_142q, e_142⟩ := hQ_142
        have N_142 := Fr.app N_136 N_142q
        refine OGo.to st_142 ?_
        show OGo p e below _ (T_142.setTop (mkF m 70 #[.val (.int p1), .val (.int p2), .val (.int p3), .val (.int p4), .val (.int p5), .val (.int p6), .val (.ref b_2), .val (.int (2 : Int32))] [(.int (own_bit p1 (3 : Int32)))]))
        refine OGo.to (fun _ k => XS.iconst X_142.here hx rfl (hb hby d2_70) k) ?_
        show OGo p e below _ (T_142.setTop (mkF m 71 #[.val (.int p1), .val (.int p2), .val (.int p3), .val (.int p4), .val (.int p5), .val (.int p6), .val (.ref b_2), .val (.int (2 : Int32))] [(.int (1 : Int32)), (.int (own_bit p1 (3 : Int32)))]))
        by_cases hc71__143 : (own_bit p1 (3 : Int32)) = (1 : Int32)
        ·  -- pc 71: yes
          refine OGo.to (fun _ k => XS.icmpNo X_142.here hx rfl (hb hby d2_71) rfl (teq hc71__143).2 k) ?_
          show OGo p e below _ (T_142.setTop (mkF m 74 #[.val (.int p1), .val (.int p2), .val (.int p3), .val (.int p4), .val (.int p5), .val (.int p6), .val (.ref b_2), .val (.int (2 : Int32))] []))
          refine OGo.to (fun _ k => XS.aload X_142.here hx rfl (hb hby d2_74) rfl rfl k) ?_
          show OGo p e below _ (T_142.setTop (mkF m 76 #[.val (.int p1), .val (.int p2), .val (.int p3), .val (.int p4), .val (.int p5), .val (.int p6), .val (.ref b_2), .val (.int (2 : Int32))] [(.ref b_2)]))
          refine OGo.to (fun _ k => XS.iload X_142.here hx rfl (hb hby d2_76) rfl k) ?_
          show OGo p e below _ (T_142.setTop (mkF m 78 #[.val (.int p1), .val (.int p2), .val (.int p3), .val (.int p4), .val (.int p5), .val (.int p6), .val (.ref b_2), .val (.int (2 : Int32))] [(.int (2 : Int32)), (.ref b_2)]))
          refine OGo.to (fun _ k => XS.iload X_142.here hx rfl (hb hby d2_78) rfl k) ?_
          show OGo p e below _ (T_142.setTop (mkF m 80 #[.val (.int p1), .val (.int p2), .val (.int p3), .val (.int p4), .val (.int p5), .val (.int p6), .val (.ref b_2), .val (.int (2 : Int32))] [(.int p5), (.int (2 : Int32)), (.ref b_2)]))
          have Vq_144 := V_136
          obtain ⟨cl_144, Ar_144, q_144, S_144, M_144, Hs_144, G_144⟩ := Vq_144
          have i_146 : ((own_bit p1 (0 : Int32))).toInt = 1 := own_ieq hc17__6
          have i_147 : ((own_bit p1 (1 : Int32))).toInt ≠ 1 := own_ine hc35__13
          have i_148 : ((own_bit p1 (2 : Int32))).toInt = 1 := own_ieq hc53__134
          have i_149 : ((own_bit p1 (3 : Int32))).toInt = 1 := own_ieq hc71__143
          have hin_145 : ¬ ((2 : Int32) < 0 ∨ cl_144.slots.size ≤ ((2 : Int32)).toNatClampNeg) := inb_of S_144 ⟨by decide, own_lti (show (2 : Int) < (own_count p1).toInt by rw [own_countI p1]; omega)⟩
          obtain ⟨T_145, h_145, X_145, e_145, W_145, st_145⟩ := stI X_142 hx hZ e_142 Ar_144 (j := (2 : Int32)) hin_145 (g := (mkF m 80 #[.val (.int p1), .val (.int p2), .val (.int p3), .val (.int p4), .val (.int p5), .val (.int p6), .val (.ref b_2), .val (.int (2 : Int32))] [(.int p5), (.int (2 : Int32)), (.ref b_2)])) rfl rfl (hb hby d2_80)
          refine OGo.to st_145 ?_
          have V_145 : Arv Z h_145 b_2 k_2 .int (own_count p1) [(.int p2), (.int p4), (.int p5), (.int (0 : Int32)), (.int (0 : Int32))] (.int (0 : Int32)) := Arv.set Ar_144 q_144 S_144 M_144 Hs_144 G_144 rfl W_145 2 rfl (Nat.le_of_ble_eq_true rfl)
          have N_145 := Fr.snoc X_145 N_142 g_b_2
          have z_150 : n0 ≤ h_145.size := Nat.le_trans z_140 (Keep.of_wr W_145).1
          have K_151 : Keep h0 h_145 [] := K_141.wr W_145 (Or.inr sz_b_2)
          show OGo p e below _ (T_145.setTop (mkF m 81 #[.val (.int p1), .val (.int p2), .val (.int p3), .val (.int p4), .val (.int p5), .val (.int p6), .val (.ref b_2), .val (.int (2 : Int32))] []))
          refine OGo.to (fun _ k => XS.iinc X_145.here hx rfl (hb hby d2_81) rfl (l' := #[.val (.int p1), .val (.int p2), .val (.int p3), .val (.int p4), .val (.int p5), .val (.int p6), .val (.ref b_2), .val (.int (3 : Int32))]) rfl k) ?_
          show OGo p e below _ (T_145.setTop (mkF m 84 #[.val (.int p1), .val (.int p2), .val (.int p3), .val (.int p4), .val (.int p5), .val (.int p6), .val (.ref b_2), .val (.int (3 : Int32))] []))
          refine OGo.to (fun _ k => XS.iloadN X_145.here hx rfl (hb hby d2_84) rfl k) ?_
          show OGo p e below _ (T_145.setTop (mkF m 85 #[.val (.int p1), .val (.int p2), .val (.int p3), .val (.int p4), .val (.int p5), .val (.int p6), .val (.ref b_2), .val (.int (3 : Int32))] [(.int p1)]))
          refine OGo.to (fun _ k => XS.iconst X_145.here hx rfl (hb hby d2_85) k) ?_
          show OGo p e below _ (T_145.setTop (mkF m 86 #[.val (.int p1), .val (.int p2), .val (.int p3), .val (.int p4), .val (.int p5), .val (.int p6), .val (.ref b_2), .val (.int (3 : Int32))] [(.int (4 : Int32)), (.int p1)]))
          obtain ⟨_, T_152, Lc_152, X_152, hQ_152, st_152⟩ := own_un X_145 (Q := Q4 Z p1 (4 : Int32) h_145 n0) (rc := 0) (rs := 0) (W := fun v B => ∀ target, Steps p.tables e below (B.setTop { (mkF m 86 #[.val (.int p1), .val (.int p2), .val (.int p3), .val (.int p4), .val (.int p5), .val (.int p6), .val (.ref b_2), .val (.int (3 : Int32))] [(.int (4 : Int32)), (.int p1)]) with pc := 89, stack := v.toList ++ [] }) target → Steps p.tables e below (T_145.setTop (mkF m 86 #[.val (.int p1), .val (.int p2), .val (.int p3), .val (.int p4), .val (.int p5), .val (.int p6), .val (.ref b_2), .val (.int (3 : Int32))] [(.int (4 : Int32)), (.int p1)])) target) <| Jvm.LawKit.callS X_145 hx (y := (⟨"com/example/cogram/cogram/index/PostingsEntriesPinLaw", "bit", "(II)I"⟩ : MethodName)) hown (mvT hZ (hw _ (List.mem_of_getElem? (i := 12) rfl))) (mvT hZ (hw _ (List.mem_of_getElem? (i := 13) rfl))) (mvT hZ (hw _ (List.mem_of_getElem? (i := 7) rfl))) (mvT hZ (hw _ (List.mem_of_getElem? (i := 14) rfl))) (by decide) (backOf (W := 0) (rm4 l Z a0 hw [] p1 (4 : Int32) h_145 n0 z_150 ) hZ (hw _ (List.mem_of_getElem? (i := 14) rfl)) (hw _ (List.mem_of_getElem? (i := 7) rfl)) (by decide) (by decide)) (g := (mkF m 86 #[.val (.int p1), .val (.int p2), .val (.int p3), .val (.int p4), .val (.int p5), .val (.int p6), .val (.ref b_2), .val (.int (3 : Int32))] [(.int (4 : Int32)), (.int p1)])) rfl (by rw [hml]; rfl) (argsL := [(.int p1), (.int (4 : Int32))]) (rest := []) (lenOf pd_0 rfl) rfl (by show 2 * 0 + _ ≤ _; exact Nat.le_of_eq rfl) (hb hby d2_86) (fun _ _ => ⟨rfl, e_145, (by decide : 1 + 0 ≤ _), (by decide : 5 + 0 ≤ _)⟩)
          obtain ⟨rfl, N_152q, e_152⟩ := hQ_152
          have N_152 := Fr.app N_145 N_152q
          refine OGo.to st_152 ?_
          show OGo p e below _ (T_152.setTop (mkF m 89 #[.val (.int p1), .val (.int p2), .val (.int p3), .val (.int p4), .val (.int p5), .val (.int p6), .val (.ref b_2), .val (.int (3 : Int32))] [(.int (own_bit p1 (4 : Int32)))]))
          refine OGo.to (fun _ k => XS.iconst X_152.here hx rfl (hb hby d2_89) k) ?_
          show OGo p e below _ (T_152.setTop (mkF m 90 #[.val (.int p1), .val (.int p2), .val (.int p3), .val (.int p4), .val (.int p5), .val (.int p6), .val (.ref b_2), .val (.int (3 : Int32))] [(.int (1 : Int32)), (.int (own_bit p1 (4 : Int32)))]))
          by_cases hc90__153 : (own_bit p1 (4 : Int32)) = (1 : Int32)
          ·  -- pc 90: yes
            refine OGo.to (fun _ k => XS.icmpNo X_152.here hx rfl (hb hby d2_90) rfl (teq hc90__153).2 k) ?_
            show OGo p e below _ (T_152.setTop (mkF m 93 #[.val (.int p1), .val (.int p2), .val (.int p3), .val (.int p4), .val (.int p5), .val (.int p6), .val (.ref b_2), .val (.int (3 : Int32))] []))
            refine OGo.to (fun _ k => XS.aload X_152.here hx rfl (hb hby d2_93) rfl rfl k) ?_
            show OGo p e below _ (T_152.setTop (mkF m 95 #[.val (.int p1), .val (.int p2), .val (.int p3), .val (.int p4), .val (.int p5), .val (.int p6), .val (.ref b_2), .val (.int (3 : Int32))] [(.ref b_2)]))
            refine OGo.to (fun _ k => XS.iload X_152.here hx rfl (hb hby d2_95) rfl k) ?_
            show OGo p e below _ (T_152.setTop (mkF m 97 #[.val (.int p1), .val (.int p2), .val (.int p3), .val (.int p4), .val (.int p5), .val (.int p6), .val (.ref b_2), .val (.int (3 : Int32))] [(.int (3 : Int32)), (.ref b_2)]))
            refine OGo.to (fun _ k => XS.iload X_152.here hx rfl (hb hby d2_97) rfl k) ?_
            show OGo p e below _ (T_152.setTop (mkF m 99 #[.val (.int p1), .val (.int p2), .val (.int p3), .val (.int p4), .val (.int p5), .val (.int p6), .val (.ref b_2), .val (.int (3 : Int32))] [(.int p6), (.int (3 : Int32)), (.ref b_2)]))
            have Vq_154 := V_145
            obtain ⟨cl_154, Ar_154, q_154, S_154, M_154, Hs_154, G_154⟩ := Vq_154
            have i_156 : ((own_bit p1 (0 : Int32))).toInt = 1 := own_ieq hc17__6
            have i_157 : ((own_bit p1 (1 : Int32))).toInt ≠ 1 := own_ine hc35__13
            have i_158 : ((own_bit p1 (2 : Int32))).toInt = 1 := own_ieq hc53__134
            have i_159 : ((own_bit p1 (3 : Int32))).toInt = 1 := own_ieq hc71__143
            have i_160 : ((own_bit p1 (4 : Int32))).toInt = 1 := own_ieq hc90__153
            have hin_155 : ¬ ((3 : Int32) < 0 ∨ cl_154.slots.size ≤ ((3 : Int32)).toNatClampNeg) := inb_of S_154 ⟨by decide, own_lti (show (3 : Int) < (own_count p1).toInt by rw [own_countI p1]; omega)⟩
            obtain ⟨T_155, h_155, X_155, e_155, W_155, st_155⟩ := stI X_152 hx hZ e_152 Ar_154 (j := (3 : Int32)) hin_155 (g := (mkF m 99 #[.val (.int p1), .val (.int p2), .val (.int p3), .val (.int p4), .val (.int p5), .val (.int p6), .val (.ref b_2), .val (.int (3 : Int32))] [(.int p6), (.int (3 : Int32)), (.ref b_2)])) rfl rfl (hb hby d2_99)
            refine OGo.to st_155 ?_
            have V_155 : Arv Z h_155 b_2 k_2 .int (own_count p1) [(.int p2), (.int p4), (.int p5), (.int p6), (.int (0 : Int32))] (.int (0 : Int32)) := Arv.set Ar_154 q_154 S_154 M_154 Hs_154 G_154 rfl W_155 3 rfl (Nat.le_of_ble_eq_true rfl)
            have N_155 := Fr.snoc X_155 N_152 g_b_2
            have z_161 : n0 ≤ h_155.size := Nat.le_trans z_150 (Keep.of_wr W_155).1
            have K_162 : Keep h0 h_155 [] := K_151.wr W_155 (Or.inr sz_b_2)
            show OGo p e below _ (T_155.setTop (mkF m 100 #[.val (.int p1), .val (.int p2), .val (.int p3), .val (.int p4), .val (.int p5), .val (.int p6), .val (.ref b_2), .val (.int (3 : Int32))] []))
            refine OGo.to (fun _ k => XS.iinc X_155.here hx rfl (hb hby d2_100) rfl (l' := #[.val (.int p1), .val (.int p2), .val (.int p3), .val (.int p4), .val (.int p5), .val (.int p6), .val (.ref b_2), .val (.int (4 : Int32))]) rfl k) ?_
            show OGo p e below _ (T_155.setTop (mkF m 103 #[.val (.int p1), .val (.int p2), .val (.int p3), .val (.int p4), .val (.int p5), .val (.int p6), .val (.ref b_2), .val (.int (4 : Int32))] []))
            refine OGo.to (fun _ k => XS.aload X_155.here hx rfl (hb hby d2_103) rfl rfl k) ?_
            show OGo p e below _ (T_155.setTop (mkF m 105 #[.val (.int p1), .val (.int p2), .val (.int p3), .val (.int p4), .val (.int p5), .val (.int p6), .val (.ref b_2), .val (.int (4 : Int32))] [(.ref b_2)]))
            refine OGo.ret (Q := Q2 Z p1 p2 p3 p4 p5 p6 h0 n0) X_155 (some (.ref b_2)) (fun h => by rw [Bd.returns] at h; cases h) Bd.notSynchronized (fun fs hr => own_retA X_155 hx Bd.returns rfl rfl (hb hby d2_105) hr) ?_ (by decide) (by decide)
            have hidx : own_idx p1 = [0, 2, 3, 4] := by unfold own_idx; rw [if_pos hc17__6, if_neg hc35__13, if_pos hc53__134, if_pos hc71__143, if_pos hc90__153]; rfl
            have i_163 : ((own_bit p1 (0 : Int32))).toInt = 1 := own_ieq hc17__6
            have i_164 : ((own_bit p1 (1 : Int32))).toInt ≠ 1 := own_ine hc35__13
            have i_165 : ((own_bit p1 (2 : Int32))).toInt = 1 := own_ieq hc53__134
            have i_166 : ((own_bit p1 (3 : Int32))).toInt = 1 := own_ieq hc71__143
            have i_167 : ((own_bit p1 (4 : Int32))).toInt = 1 := own_ieq hc90__153
            have hsel : ([p2, p4, p5, p6] : List Int32) = (own_sel p1 p2 p3 p4 p5 p6) := by unfold own_sel; rw [hidx]; rfl
            have hcnt : own_count p1 = own_i (own_sel p1 p2 p3 p4 p5 p6).length := by rw [← hsel]; exact own_eqi (show (own_count p1).toInt = (4 : Int) by rw [own_countI p1]; omega)
            show Q2 Z p1 p2 p3 p4 p5 p6 h0 n0 _ T_155.heap _
            rw [e_155]
            exact ⟨b_2, k_2, rfl, N_155, K_162, g_b_2, sz_b_2, (own_conv (L := ([p2, p4, p5, p6] : List Int32)) (r := 1) V_155 hcnt hsel)⟩
          ·  -- pc 90: no
            refine OGo.to (fun _ k => XS.icmpYes X_152.here hx rfl (pc0 := 90) (pc' := 103) rfl (hb hby d2_90) rfl (feq hc90__153).2 (by decide) (by decide) k) ?_
            show OGo p e below _ (T_152.setTop (mkF m 103 #[.val (.int p1), .val (.int p2), .val (.int p3), .val (.int p4), .val (.int p5), .val (.int p6), .val (.ref b_2), .val (.int (3 : Int32))] []))
            refine OGo.to (fun _ k => XS.aload X_152.here hx rfl (hb hby d2_103) rfl rfl k) ?_
            show OGo p e below _ (T_152.setTop (mkF m 105 #[.val (.int p1), .val (.int p2), .val (.int p3), .val (.int p4), .val (.int p5), .val (.int p6), .val (.ref b_2), .val (.int (3 : Int32))] [(.ref b_2)]))
            refine OGo.ret (Q := Q2 Z p1 p2 p3 p4 p5 p6 h0 n0) X_152 (some (.ref b_2)) (fun h => by rw [Bd.returns] at h; cases h) Bd.notSynchronized (fun fs hr => own_retA X_152 hx Bd.returns rfl rfl (hb hby d2_105) hr) ?_ (by decide) (by decide)
            have hidx : own_idx p1 = [0, 2, 3] := by unfold own_idx; rw [if_pos hc17__6, if_neg hc35__13, if_pos hc53__134, if_pos hc71__143, if_neg hc90__153]; rfl
            have i_168 : ((own_bit p1 (0 : Int32))).toInt = 1 := own_ieq hc17__6
            have i_169 : ((own_bit p1 (1 : Int32))).toInt ≠ 1 := own_ine hc35__13
            have i_170 : ((own_bit p1 (2 : Int32))).toInt = 1 := own_ieq hc53__134
            have i_171 : ((own_bit p1 (3 : Int32))).toInt = 1 := own_ieq hc71__143
            have i_172 : ((own_bit p1 (4 : Int32))).toInt ≠ 1 := own_ine hc90__153
            have hsel : ([p2, p4, p5] : List Int32) = (own_sel p1 p2 p3 p4 p5 p6) := by unfold own_sel; rw [hidx]; rfl
            have hcnt : own_count p1 = own_i (own_sel p1 p2 p3 p4 p5 p6).length := by rw [← hsel]; exact own_eqi (show (own_count p1).toInt = (3 : Int) by rw [own_countI p1]; omega)
            show Q2 Z p1 p2 p3 p4 p5 p6 h0 n0 _ T_152.heap _
            rw [e_152]
            exact ⟨b_2, k_2, rfl, N_152, K_151, g_b_2, sz_b_2, (own_conv (L := ([p2, p4, p5] : List Int32)) (r := 2) V_145 hcnt hsel)⟩
        ·  -- pc 71: no
          refine OGo.to (fun _ k => XS.icmpYes X_142.here hx rfl (pc0 := 71) (pc' := 84) rfl (hb hby d2_71) rfl (feq hc71__143).2 (by decide) (by decide) k) ?_
          show OGo p e below _ (T_142.setTop (mkF m 84 #[.val (.int p1), .val (.int p2), .val (.int p3), .val (.int p4), .val (.int p5), .val (.int p6), .val (.ref b_2), .val (.int (2 : Int32))] []))
          refine OGo.to (fun _ k => XS.iloadN X_142.here hx rfl (hb hby d2_84) rfl k) ?_
          show OGo p e below _ (T_142.setTop (mkF m 85 #[.val (.int p1), .val (.int p2), .val (.int p3), .val (.int p4), .val (.int p5), .val (.int p6), .val (.ref b_2), .val (.int (2 : Int32))] [(.int p1)]))
          refine OGo.to (fun _ k => XS.iconst X_142.here hx rfl (hb hby d2_85) k) ?_
          show OGo p e below _ (T_142.setTop (mkF m 86 #[.val (.int p1), .val (.int p2), .val (.int p3), .val (.int p4), .val (.int p5), .val (.int p6), .val (.ref b_2), .val (.int (2 : Int32))] [(.int (4 : Int32)), (.int p1)]))
          obtain ⟨_, T_173, Lc_173, X_173, hQ_173, st_173⟩ := own_un X_142 (Q := Q4 Z p1 (4 : Int32) h_136 n0) (rc := 0) (rs := 0) (W := fun v B => ∀ target, Steps p.tables e below (B.setTop { (mkF m 86 #[.val (.int p1), .val (.int p2), .val (.int p3), .val (.int p4), .val (.int p5), .val (.int p6), .val (.ref b_2), .val (.int (2 : Int32))] [(.int (4 : Int32)), (.int p1)]) with pc := 89, stack := v.toList ++ [] }) target → Steps p.tables e below (T_142.setTop (mkF m 86 #[.val (.int p1), .val (.int p2), .val (.int p3), .val (.int p4), .val (.int p5), .val (.int p6), .val (.ref b_2), .val (.int (2 : Int32))] [(.int (4 : Int32)), (.int p1)])) target) <| Jvm.LawKit.callS X_142 hx (y := (⟨"com/example/cogram/cogram/index/PostingsEntriesPinLaw", "bit", "(II)I"⟩ : MethodName)) hown (mvT hZ (hw _ (List.mem_of_getElem? (i := 12) rfl))) (mvT hZ (hw _ (List.mem_of_getElem? (i := 13) rfl))) (mvT hZ (hw _ (List.mem_of_getElem? (i := 7) rfl))) (mvT hZ (hw _ (List.mem_of_getElem? (i := 14) rfl))) (by decide) (backOf (W := 0) (rm4 l Z a0 hw [] p1 (4 : Int32) h_136 n0 z_140 ) hZ (hw _ (List.mem_of_getElem? (i := 14) rfl)) (hw _ (List.mem_of_getElem? (i := 7) rfl)) (by decide) (by decide)) (g := (mkF m 86 #[.val (.int p1), .val (.int p2), .val (.int p3), .val (.int p4), .val (.int p5), .val (.int p6), .val (.ref b_2), .val (.int (2 : Int32))] [(.int (4 : Int32)), (.int p1)])) rfl (by rw [hml]; rfl) (argsL := [(.int p1), (.int (4 : Int32))]) (rest := []) (lenOf pd_0 rfl) rfl (by show 2 * 0 + _ ≤ _; exact Nat.le_of_eq rfl) (hb hby d2_86) (fun _ _ => ⟨rfl, e_142, (by decide : 1 + 0 ≤ _), (by decide : 5 + 0 ≤ _)⟩)
          obtain ⟨rfl, N_173q, e_173⟩ := hQ_173
          have N_173 := Fr.app N_142 N_173q
          refine OGo.to st_173 ?_
          show OGo p e below _ (T_173.setTop (mkF m 89 #[.val (.int p1), .val (.int p2), .val (.int p3), .val (.int p4), .val (.int p5), .val (.int p6), .val (.ref b_2), .val (.int (2 : Int32))] [(.int (own_bit p1 (4 : Int32)))]))
          refine OGo.to (fun _ k => XS.iconst X_173.here hx rfl (hb hby d2_89) k) ?_
          show OGo p e below _ (T_173.setTop (mkF m 90 #[.val (.int p1), .val (.int p2), .val (.int p3), .val (.int p4), .val (.int p5), .val (.int p6), .val (.ref b_2), .val (.int (2 : Int32))] [(.int (1 : Int32)), (.int (own_bit p1 (4 : Int32)))]))
          by_cases hc90__174 : (own_bit p1 (4 : Int32)) = (1 : Int32)
          ·  -- pc 90: yes
            refine OGo.to (fun _ k => XS.icmpNo X_173.here hx rfl (hb hby d2_90) rfl (teq hc90__174).2 k) ?_
            show OGo p e below _ (T_173.setTop (mkF m 93 #[.val (.int p1), .val (.int p2), .val (.int p3), .val (.int p4), .val (.int p5), .val (.int p6), .val (.ref b_2), .val (.int (2 : Int32))] []))
            refine OGo.to (fun _ k => XS.aload X_173.here hx rfl (hb hby d2_93) rfl rfl k) ?_
            show OGo p e below _ (T_173.setTop (mkF m 95 #[.val (.int p1), .val (.int p2), .val (.int p3), .val (.int p4), .val (.int p5), .val (.int p6), .val (.ref b_2), .val (.int (2 : Int32))] [(.ref b_2)]))
            refine OGo.to (fun _ k => XS.iload X_173.here hx rfl (hb hby d2_95) rfl k) ?_
            show OGo p e below _ (T_173.setTop (mkF m 97 #[.val (.int p1), .val (.int p2), .val (.int p3), .val (.int p4), .val (.int p5), .val (.int p6), .val (.ref b_2), .val (.int (2 : Int32))] [(.int (2 : Int32)), (.ref b_2)]))
            refine OGo.to (fun _ k => XS.iload X_173.here hx rfl (hb hby d2_97) rfl k) ?_
            show OGo p e below _ (T_173.setTop (mkF m 99 #[.val (.int p1), .val (.int p2), .val (.int p3), .val (.int p4), .val (.int p5), .val (.int p6), .val (.ref b_2), .val (.int (2 : Int32))] [(.int p6), (.int (2 : Int32)), (.ref b_2)]))
            have Vq_175 := V_136
            obtain ⟨cl_175, Ar_175, q_175, S_175, M_175, Hs_175, G_175⟩ := Vq_175
            have i_177 : ((own_bit p1 (0 : Int32))).toInt = 1 := own_ieq hc17__6
            have i_178 : ((own_bit p1 (1 : Int32))).toInt ≠ 1 := own_ine hc35__13
            have i_179 : ((own_bit p1 (2 : Int32))).toInt = 1 := own_ieq hc53__134
            have i_180 : ((own_bit p1 (3 : Int32))).toInt ≠ 1 := own_ine hc71__143
            have i_181 : ((own_bit p1 (4 : Int32))).toInt = 1 := own_ieq hc90__174
            have hin_176 : ¬ ((2 : Int32) < 0 ∨ cl_175.slots.size ≤ ((2 : Int32)).toNatClampNeg) := inb_of S_175 ⟨by decide, own_lti (show (2 : Int) < (own_count p1).toInt by rw [own_countI p1]; omega)⟩
            obtain ⟨T_176, h_176, X_176, e_176, W_176, st_176⟩ := stI X_173 hx hZ e_173 Ar_175 (j := (2 : Int32)) hin_176 (g := (mkF m 99 #[.val (.int p1), .val (.int p2), .val (.int p3), .val (.int p4), .val (.int p5), .val (.int p6), .val (.ref b_2), .val (.int (2 : Int32))] [(.int p6), (.int (2 : Int32)), (.ref b_2)])) rfl rfl (hb hby d2_99)
            refine OGo.to st_176 ?_
            have V_176 : Arv Z h_176 b_2 k_2 .int (own_count p1) [(.int p2), (.int p4), (.int p6), (.int (0 : Int32)), (.int (0 : Int32))] (.int (0 : Int32)) := Arv.set Ar_175 q_175 S_175 M_175 Hs_175 G_175 rfl W_176 2 rfl (Nat.le_of_ble_eq_true rfl)
            have N_176 := Fr.snoc X_176 N_173 g_b_2
            have z_182 : n0 ≤ h_176.size := Nat.le_trans z_140 (Keep.of_wr W_176).1
            have K_183 : Keep h0 h_176 [] := K_141.wr W_176 (Or.inr sz_b_2)
            show OGo p e below _ (T_176.setTop (mkF m 100 #[.val (.int p1), .val (.int p2), .val (.int p3), .val (.int p4), .val (.int p5), .val (.int p6), .val (.ref b_2), .val (.int (2 : Int32))] []))
            refine OGo.to (fun _ k => XS.iinc X_176.here hx rfl (hb hby d2_100) rfl (l' := #[.val (.int p1), .val (.int p2), .val (.int p3), .val (.int p4), .val (.int p5), .val (.int p6), .val (.ref b_2), .val (.int (3 : Int32))]) rfl k) ?_
            show OGo p e below _ (T_176.setTop (mkF m 103 #[.val (.int p1), .val (.int p2), .val (.int p3), .val (.int p4), .val (.int p5), .val (.int p6), .val (.ref b_2), .val (.int (3 : Int32))] []))
            refine OGo.to (fun _ k => XS.aload X_176.here hx rfl (hb hby d2_103) rfl rfl k) ?_
            show OGo p e below _ (T_176.setTop (mkF m 105 #[.val (.int p1), .val (.int p2), .val (.int p3), .val (.int p4), .val (.int p5), .val (.int p6), .val (.ref b_2), .val (.int (3 : Int32))] [(.ref b_2)]))
            refine OGo.ret (Q := Q2 Z p1 p2 p3 p4 p5 p6 h0 n0) X_176 (some (.ref b_2)) (fun h => by rw [Bd.returns] at h; cases h) Bd.notSynchronized (fun fs hr => own_retA X_176 hx Bd.returns rfl rfl (hb hby d2_105) hr) ?_ (by decide) (by decide)
            have hidx : own_idx p1 = [0, 2, 4] := by unfold own_idx; rw [if_pos hc17__6, if_neg hc35__13, if_pos hc53__134, if_neg hc71__143, if_pos hc90__174]; rfl
            have i_184 : ((own_bit p1 (0 : Int32))).toInt = 1 := own_ieq hc17__6
            have i_185 : ((own_bit p1 (1 : Int32))).toInt ≠ 1 := own_ine hc35__13
            have i_186 : ((own_bit p1 (2 : Int32))).toInt = 1 := own_ieq hc53__134
            have i_187 : ((own_bit p1 (3 : Int32))).toInt ≠ 1 := own_ine hc71__143
            have i_188 : ((own_bit p1 (4 : Int32))).toInt = 1 := own_ieq hc90__174
            have hsel : ([p2, p4, p6] : List Int32) = (own_sel p1 p2 p3 p4 p5 p6) := by unfold own_sel; rw [hidx]; rfl
            have hcnt : own_count p1 = own_i (own_sel p1 p2 p3 p4 p5 p6).length := by rw [← hsel]; exact own_eqi (show (own_count p1).toInt = (3 : Int) by rw [own_countI p1]; omega)
            show Q2 Z p1 p2 p3 p4 p5 p6 h0 n0 _ T_176.heap _
            rw [e_176]
            exact ⟨b_2, k_2, rfl, N_176, K_183, g_b_2, sz_b_2, (own_conv (L := ([p2, p4, p6] : List Int32)) (r := 2) V_176 hcnt hsel)⟩
          ·  -- pc 90: no
            refine OGo.to (fun _ k => XS.icmpYes X_173.here hx rfl (pc0 := 90) (pc' := 103) rfl (hb hby d2_90) rfl (feq hc90__174).2 (by decide) (by decide) k) ?_
            show OGo p e below _ (T_173.setTop (mkF m 103 #[.val (.int p1), .val (.int p2), .val (.int p3), .val (.int p4), .val (.int p5), .val (.int p6), .val (.ref b_2), .val (.int (2 : Int32))] []))
            refine OGo.to (fun _ k => XS.aload X_173.here hx rfl (hb hby d2_103) rfl rfl k) ?_
            show OGo p e below _ (T_173.setTop (mkF m 105 #[.val (.int p1), .val (.int p2), .val (.int p3), .val (.int p4), .val (.int p5), .val (.int p6), .val (.ref b_2), .val (.int (2 : Int32))] [(.ref b_2)]))
            refine OGo.ret (Q := Q2 Z p1 p2 p3 p4 p5 p6 h0 n0) X_173 (some (.ref b_2)) (fun h => by rw [Bd.returns] at h; cases h) Bd.notSynchronized (fun fs hr => own_retA X_173 hx Bd.returns rfl rfl (hb hby d2_105) hr) ?_ (by decide) (by decide)
            have hidx : own_idx p1 = [0, 2] := by unfold own_idx; rw [if_pos hc17__6, if_neg hc35__13, if_pos hc53__134, if_neg hc71__143, if_neg hc90__174]; rfl
            have i_189 : ((own_bit p1 (0 : Int32))).toInt = 1 := own_ieq hc17__6
            have i_190 : ((own_bit p1 (1 : Int32))).toInt ≠ 1 := own_ine hc35__13
            have i_191 : ((own_bit p1 (2 : Int32))).toInt = 1 := own_ieq hc53__134
            have i_192 : ((own_bit p1 (3 : Int32))).toInt ≠ 1 := own_ine hc71__143
            have i_193 : ((own_bit p1 (4 : Int32))).toInt ≠ 1 := own_ine hc90__174
            have hsel : ([p2, p4] : List Int32) = (own_sel p1 p2 p3 p4 p5 p6) := by unfold own_sel; rw [hidx]; rfl
            have hcnt : own_count p1 = own_i (own_sel p1 p2 p3 p4 p5 p6).length := by rw [← hsel]; exact own_eqi (show (own_count p1).toInt = (2 : Int) by rw [own_countI p1]; omega)
            show Q2 Z p1 p2 p3 p4 p5 p6 h0 n0 _ T_173.heap _
            rw [e_173]
            exact ⟨b_2, k_2, rfl, N_173, K_141, g_b_2, sz_b_2, (own_conv (L := ([p2, p4] : List Int32)) (r := 3) V_136 hcnt hsel)⟩
      ·  -- pc 53: no
        refine OGo.to (fun _ k => XS.icmpYes X_133.here hx rfl (pc0 := 53) (pc' := 65) rfl (hb hby d2_53) rfl (feq hc53__134).2 (by decide) (by decide) k) ?_
        show OGo p e below _ (T_133.setTop (mkF m 65 #[.val (.int p1), .val (.int p2), .val (.int p3), .val (.int p4), .val (.int p5), .val (.int p6), .val (.ref b_2), .val (.int (1 : Int32))] []))
        refine OGo.to (fun _ k => XS.iloadN X_133.here hx rfl (hb hby d2_65) rfl k) ?_
        show OGo p e below _ (T_133.setTop (mkF m 66 #[.val (.int p1), .val (.int p2), .val (.int p3), .val (.int p4), .val (.int p5), .val (.int p6), .val (.ref b_2), .val (.int (1 : Int32))] [(.int p1)]))
        refine OGo.to (fun _ k => XS.iconst X_133.here hx rfl (hb hby d2_66) k) ?_
        show OGo p e below _ (T_133.setTop (mkF m 67 #[.val (.int p1), .val (.int p2), .val (.int p3), .val (.int p4), .val (.int p5), .val (.int p6), .val (.ref b_2), .val (.int (1 : Int32))] [(.int (3 : Int32)), (.int p1)]))
        obtain ⟨_, T_194, Lc_194, X_194, hQ_194, st_194⟩ := own_un X_133 (Q := Q4 Z p1 (3 : Int32) h_8 n0) (rc := 0) (rs := 0) (W := fun v B => ∀ target, Steps p.tables e below (B.setTop { (mkF m 67 #[.val (.int p1), .val (.int p2), .val (.int p3), .val (.int p4), .val (.int p5), .val (.int p6), .val (.ref b_2), .val (.int (1 : Int32))] [(.int (3 : Int32)), (.int p1)]) with pc := 70, stack := v.toList ++ [] }) target → Steps p.tables e below (T_133.setTop (mkF m 67 #[.val (.int p1), .val (.int p2), .val (.int p3), .val (.int p4), .val (.int p5), .val (.int p6), .val (.ref b_2), .val (.int (1 : Int32))] [(.int (3 : Int32)), (.int p1)])) target) <| Jvm.LawKit.callS X_133 hx (y := (⟨"com/example/cogram/cogram/index/PostingsEntriesPinLaw", "bit", "(II)I"⟩ : MethodName)) hown (mvT hZ (hw _ (List.mem_of_getElem? (i := 12) rfl))) (mvT hZ (hw _ (List.mem_of_getElem? (i := 13) rfl))) (mvT hZ (hw _ (List.mem_of_getElem? (i := 7) rfl))) (mvT hZ (hw _ (List.mem_of_getElem? (i := 14) rfl))) (by decide) (backOf (W := 0) (rm4 l Z a0 hw [] p1 (3 : Int32) h_8 n0 z_10 ) hZ (hw _ (List.mem_of_getElem? (i := 14) rfl)) (hw _ (List.mem_of_getElem? (i := 7) rfl)) (by decide) (by decide)) (g := (mkF m 67 #[.val (.int p1), .val (.int p2), .val (.int p3), .val (.int p4), .val (.int p5), .val (.int p6), .val (.ref b_2), .val (.int (1 : Int32))] [(.int (3 : Int32)), (.int p1)])) rfl (by rw [hml]; rfl) (argsL := [(.int p1), (.int (3 : Int32))]) (rest := []) (lenOf pd_0 rfl) rfl (by show 2 * 0 + _ ≤ _; exact Nat.le_of_eq rfl) (hb hby d2_67) (fun _ _ => ⟨rfl, e_133, (by decide : 1 + 0 ≤ _), (by decide : 5 + 0 ≤ _)⟩)
        obtain ⟨rfl, N_194q, e_194⟩ := hQ_194
        have N_194 := Fr.app N_133 N_194q
        refine OGo.to st_194 ?_
        show OGo p e below _ (T_194.setTop (mkF m 70 #[.val (.int p1), .val (.int p2), .val (.int p3), .val (.int p4), .val (.int p5), .val (.int p6), .val (.ref b_2), .val (.int (1 : Int32))] [(.int (own_bit p1 (3 : Int32)))]))
        refine OGo.to (fun _ k => XS.iconst X_194.here hx rfl (hb hby d2_70) k) ?_
        show OGo p e below _ (T_194.setTop (mkF m 71 #[.val (.int p1), .val (.int p2), .val (.int p3), .val (.int p4), .val (.int p5), .val (.int p6), .val (.ref b_2), .val (.int (1 : Int32))] [(.int (1 : Int32)), (.int (own_bit p1 (3 : Int32)))]))
        by_cases hc71__195 : (own_bit p1 (3 : Int32)) = (1 : Int32)
        ·  -- pc 71: yes
          refine OGo.to (fun _ k => XS.icmpNo X_194.here hx rfl (hb hby d2_71) rfl (teq hc71__195).2 k) ?_
          show OGo p e below _ (T_194.setTop (mkF m 74 #[.val (.int p1), .val (.int p2), .val (.int p3), .val (.int p4), .val (.int p5), .val (.int p6), .val (.ref b_2), .val (.int (1 : Int32))] []))
          refine OGo.to (fun _ k => XS.aload X_194.here hx rfl (hb hby d2_74) rfl rfl k) ?_
          show OGo p e below _ (T_194.setTop (mkF m 76 #[.val (.int p1), .val (.int p2), .val (.int p3), .val (.int p4), .val (.int p5), .val (.int p6), .val (.ref b_2), .val (.int (1 : Int32))] [(.ref b_2)]))
          refine OGo.to (fun _ k => XS.iload X_194.here hx rfl (hb hby d2_76) rfl k) ?_
          show OGo p e below _ (T_194.setTop (mkF m 78 #[.val (.int p1), .val (.int p2), .val (.int p3), .val (.int p4), .val (.int p5), .val (.int p6), .val (.ref b_2), .val (.int (1 : Int32))] [(.int (1 : Int32)), (.ref b_2)]))
          refine OGo.to (fun _ k => XS.iload X_194.here hx rfl (hb hby d2_78) rfl k) ?_
          show OGo p e below _ (T_194.setTop (mkF m 80 #[.val (.int p1), .val (.int p2), .val (.int p3), .val (.int p4), .val (.int p5), .val (.int p6), .val (.ref b_2), .val (.int (1 : Int32))] [(.int p5), (.int (1 : Int32)), (.ref b_2)]))
          have Vq_196 := V_8
          obtain ⟨cl_196, Ar_196, q_196, S_196, M_196, Hs_196, G_196⟩ := Vq_196
          have i_198 : ((own_bit p1 (0 : Int32))).toInt = 1 := own_ieq hc17__6
          have i_199 : ((own_bit p1 (1 : Int32))).toInt ≠ 1 := own_ine hc35__13
          have i_200 : ((own_bit p1 (2 : Int32))).toInt ≠ 1 := own_ine hc53__134
          have i_201 : ((own_bit p1 (3 : Int32))).toInt = 1 := own_ieq hc71__195
          have hin_197 : ¬ ((1 : Int32) < 0 ∨ cl_196.slots.size ≤ ((1 : Int32)).toNatClampNeg) := inb_of S_196 ⟨by decide, own_lti (show (1 : Int) < (own_count p1).toInt by rw [own_countI p1]; omega)⟩
          obtain ⟨T_197, h_197, X_197, e_197, W_197, st_197⟩ := stI X_194 hx hZ e_194 Ar_196 (j := (1 : Int32)) hin_197 (g := (mkF m 80 #[.val (.int p1), .val (.int p2), .val (.int p3), .val (.int p4), .val (.int p5), .val (.int p6), .val (.ref b_2), .val (.int (1 : Int32))] [(.int p5), (.int (1 : Int32)), (.ref b_2)])) rfl rfl (hb hby d2_80)
          refine OGo.to st_197 ?_
          have V_197 : Arv Z h_197 b_2 k_2 .int (own_count p1) [(.int p2), (.int p5), (.int (0 : Int32)), (.int (0 : Int32)), (.int (0 : Int32))] (.int (0 : Int32)) := Arv.set Ar_196 q_196 S_196 M_196 Hs_196 G_196 rfl W_197 1 rfl (Nat.le_of_ble_eq_true rfl)
          have N_197 := Fr.snoc X_197 N_194 g_b_2
          have z_202 : n0 ≤ h_197.size := Nat.le_trans z_10 (Keep.of_wr W_197).1
          have K_203 : Keep h0 h_197 [] := K_11.wr W_197 (Or.inr sz_b_2)
          show OGo p e below _ (T_197.setTop (mkF m 81 #[.val (.int p1), .val (.int p2), .val (.int p3), .val (.int p4), .val (.int p5), .val (.int p6), .val (.ref b_2), .val (.int (1 : Int32))] []))
          refine OGo.to (fun _ k => XS.iinc X_197.here hx rfl (hb hby d2_81) rfl (l' := #[.val (.int p1), .val (.int p2), .val (.int p3), .val (.int p4), .val (.int p5), .val (.int p6), .val (.ref b_2), .val (.int (2 : Int32))]) rfl k) ?_
          show OGo p e below _ (T_197.setTop (mkF m 84 #[.val (.int p1), .val (.int p2), .val (.int p3), .val (.int p4), .val (.int p5), .val (.int p6), .val (.ref b_2), .val (.int (2 : Int32))] []))
          refine OGo.to (fun _ k => XS.iloadN X_197.here hx rfl (hb hby d2_84) rfl k) ?_
          show OGo p e below _ (T_197.setTop (mkF m 85 #[.val (.int p1), .val (.int p2), .val (.int p3), .val (.int p4), .val (.int p5), .val (.int p6), .val (.ref b_2), .val (.int (2 : Int32))] [(.int p1)]))
          refine OGo.to (fun _ k => XS.iconst X_197.here hx rfl (hb hby d2_85) k) ?_
          show OGo p e below _ (T_197.setTop (mkF m 86 #[.val (.int p1), .val (.int p2), .val (.int p3), .val (.int p4), .val (.int p5), .val (.int p6), .val (.ref b_2), .val (.int (2 : Int32))] [(.int (4 : Int32)), (.int p1)]))
          obtain ⟨_, T_204, Lc_204, X_204, hQ_204, st_204⟩ := own_un X_197 (Q := Q4 Z p1 (4 : Int32) h_197 n0) (rc := 0) (rs := 0) (W := fun v B => ∀ target, Steps p.tables e below (B.setTop { (mkF m 86 #[.val (.int p1), .val (.int p2), .val (.int p3), .val (.int p4), .val (.int p5), .val (.int p6), .val (.ref b_2), .val (.int (2 : Int32))] [(.int (4 : Int32)), (.int p1)]) with pc := 89, stack := v.toList ++ [] }) target → Steps p.tables e below (T_197.setTop (mkF m 86 #[.val (.int p1), .val (.int p2), .val (.int p3), .val (.int p4), .val (.int p5), .val (.int p6), .val (.ref b_2), .val (.int (2 : Int32))] [(.int (4 : Int32)), (.int p1)])) target) <| Jvm.LawKit.callS X_197 hx (y := (⟨"com/example/cogram/cogram/index/PostingsEntriesPinLaw", "bit", "(II)I"⟩ : MethodName)) hown (mvT hZ (hw _ (List.mem_of_getElem? (i := 12) rfl))) (mvT hZ (hw _ (List.mem_of_getElem? (i := 13) rfl))) (mvT hZ (hw _ (List.mem_of_getElem? (i := 7) rfl))) (mvT hZ (hw _ (List.mem_of_getElem? (i := 14) rfl))) (by decide) (backOf (W := 0) (rm4 l Z a0 hw [] p1 (4 : Int32) h_197 n0 z_202 ) hZ (hw _ (List.mem_of_getElem? (i := 14) rfl)) (hw _ (List.mem_of_getElem? (i := 7) rfl)) (by decide) (by decide)) (g := (mkF m 86 #[.val (.int p1), .val (.int p2), .val (.int p3), .val (.int p4), .val (.int p5), .val (.int p6), .val (.ref b_2), .val (.int (2 : Int32))] [(.int (4 : Int32)), (.int p1)])) rfl (by rw [hml]; rfl) (argsL := [(.int p1), (.int (4 : Int32))]) (rest := []) (lenOf pd_0 rfl) rfl (by show 2 * 0 + _ ≤ _; exact Nat.le_of_eq rfl) (hb hby d2_86) (fun _ _ => ⟨rfl, e_197, (by decide : 1 + 0 ≤ _), (by decide : 5 + 0 ≤ _)⟩)
          obtain ⟨rfl, N_204q, e_204⟩ := hQ_204
          have N_204 := Fr.app N_197 N_204q
          refine OGo.to st_204 ?_
          show OGo p e below _ (T_204.setTop (mkF m 89 #[.val (.int p1), .val (.int p2), .val (.int p3), .val (.int p4), .val (.int p5), .val (.int p6), .val (.ref b_2), .val (.int (2 : Int32))] [(.int (own_bit p1 (4 : Int32)))]))
          refine OGo.to (fun _ k => XS.iconst X_204.here hx rfl (hb hby d2_89) k) ?_
          show OGo p e below _ (T_204.setTop (mkF m 90 #[.val (.int p1), .val (.int p2), .val (.int p3), .val (.int p4), .val (.int p5), .val (.int p6), .val (.ref b_2), .val (.int (2 : Int32))] [(.int (1 : Int32)), (.int (own_bit p1 (4 : Int32)))]))
          by_cases hc90__205 : (own_bit p1 (4 : Int32)) = (1 : Int32)
          ·  -- pc 90: yes
            refine OGo.to (fun _ k => XS.icmpNo X_204.here hx rfl (hb hby d2_90) rfl (teq hc90__205).2 k) ?_
            show OGo p e below _ (T_204.setTop (mkF m 93 #[.val (.int p1), .val (.int p2), .val (.int p3), .val (.int p4), .val (.int p5), .val (.int p6), .val (.ref b_2), .val (.int (2 : Int32))] []))
            refine OGo.to (fun _ k => XS.aload X_204.here hx rfl (hb hby d2_93) rfl rfl k) ?_
            show OGo p e below _ (T_204.setTop (mkF m 95 #[.val (.int p1), .val (.int p2), .val (.int p3), .val (.int p4), .val (.int p5), .val (.int p6), .val (.ref b_2), .val (.int (2 : Int32))] [(.ref b_2)]))
            refine OGo.to (fun _ k => XS.iload X_204.here hx rfl (hb hby d2_95) rfl k) ?_
            show OGo p e below _ (T_204.setTop (mkF m 97 #[.val (.int p1), .val (.int p2), .val (.int p3), .val (.int p4), .val (.int p5), .val (.int p6), .val (.ref b_2), .val (.int (2 : Int32))] [(.int (2 : Int32)), (.ref b_2)]))
            refine OGo.to (fun _ k => XS.iload X_204.here hx rfl (hb hby d2_97) rfl k) ?_
            show OGo p e below _ (T_204.setTop (mkF m 99 #[.val (.int p1), .val (.int p2), .val (.int p3), .val (.int p4), .val (.int p5), .val (.int p6), .val (.ref b_2), .val (.int (2 : Int32))] [(.int p6), (.int (2 : Int32)), (.ref b_2)]))
            have Vq_206 := V_197
            obtain ⟨cl_206, Ar_206, q_206, S_206, M_206, Hs_206, G_206⟩ := Vq_206
            have i_208 : ((own_bit p1 (0 : Int32))).toInt = 1 := own_ieq hc17__6
            have i_209 : ((own_bit p1 (1 : Int32))).toInt ≠ 1 := own_ine hc35__13
            have i_210 : ((own_bit p1 (2 : Int32))).toInt ≠ 1 := own_ine hc53__134
            have i_211 : ((own_bit p1 (3 : Int32))).toInt = 1 := own_ieq hc71__195
            have i_212 : ((own_bit p1 (4 : Int32))).toInt = 1 := own_ieq hc90__205
            have hin_207 : ¬ ((2 : Int32) < 0 ∨ cl_206.slots.size ≤ ((2 : Int32)).toNatClampNeg) := inb_of S_206 ⟨by decide, own_lti (show (2 : Int) < (own_count p1).toInt by rw [own_countI p1]; omega)⟩
            obtain ⟨T_207, h_207, X_207, e_207, W_207, st_207⟩ := stI X_204 hx hZ e_204 Ar_206 (j := (2 : Int32)) hin_207 (g := (mkF m 99 #[.val (.int p1), .val (.int p2), .val (.int p3), .val (.int p4), .val (.int p5), .val (.int p6), .val (.ref b_2), .val (.int (2 : Int32))] [(.int p6), (.int (2 : Int32)), (.ref b_2)])) rfl rfl (hb hby d2_99)
            refine OGo.to st_207 ?_
            have V_207 : Arv Z h_207 b_2 k_2 .int (own_count p1) [(.int p2), (.int p5), (.int p6), (.int (0 : Int32)), (.int (0 : Int32))] (.int (0 : Int32)) := Arv.set Ar_206 q_206 S_206 M_206 Hs_206 G_206 rfl W_207 2 rfl (Nat.le_of_ble_eq_true rfl)
            have N_207 := Fr.snoc X_207 N_204 g_b_2
            have z_213 : n0 ≤ h_207.size := Nat.le_trans z_202 (Keep.of_wr W_207).1
            have K_214 : Keep h0 h_207 [] := K_203.wr W_207 (Or.inr sz_b_2)
            show OGo p e below _ (T_207.setTop (mkF m 100 #[.val (.int p1), .val (.int p2), .val (.int p3), .val (.int p4), .val (.int p5), .val (.int p6), .val (.ref b_2), .val (.int (2 : Int32))] []))
            refine OGo.to (fun _ k => XS.iinc X_207.here hx rfl (hb hby d2_100) rfl (l' := #[.val (.int p1), .val (.int p2), .val (.int p3), .val (.int p4), .val (.int p5), .val (.int p6), .val (.ref b_2), .val (.int (3 : Int32))]) rfl k) ?_
            show OGo p e below _ (T_207.setTop (mkF m 103 #[.val (.int p1), .val (.int p2), .val (.int p3), .val (.int p4), .val (.int p5), .val (.int p6), .val (.ref b_2), .val (.int (3 : Int32))] []))
            refine OGo.to (fun _ k => XS.aload X_207.here hx rfl (hb hby d2_103) rfl rfl k) ?_
            show OGo p e below _ (T_207.setTop (mkF m 105 #[.val (.int p1), .val (.int p2), .val (.int p3), .val (.int p4), .val (.int p5), .val (.int p6), .val (.ref b_2), .val (.int (3 : Int32))] [(.ref b_2)]))
            refine OGo.ret (Q := Q2 Z p1 p2 p3 p4 p5 p6 h0 n0) X_207 (some (.ref b_2)) (fun h => by rw [Bd.returns] at h; cases h) Bd.notSynchronized (fun fs hr => own_retA X_207 hx Bd.returns rfl rfl (hb hby d2_105) hr) ?_ (by decide) (by decide)
            have hidx : own_idx p1 = [0, 3, 4] := by unfold own_idx; rw [if_pos hc17__6, if_neg hc35__13, if_neg hc53__134, if_pos hc71__195, if_pos hc90__205]; rfl
            have i_215 : ((own_bit p1 (0 : Int32))).toInt = 1 := own_ieq hc17__6
            have i_216 : ((own_bit p1 (1 : Int32))).toInt ≠ 1 := own_ine hc35__13
            have i_217 : ((own_bit p1 (2 : Int32))).toInt ≠ 1 := own_ine hc53__134
            have i_218 : ((own_bit p1 (3 : Int32))).toInt = 1 := own_ieq hc71__195
            have i_219 : ((own_bit p1 (4 : Int32))).toInt = 1 := own_ieq hc90__205
            have hsel : ([p2, p5, p6] : List Int32) = (own_sel p1 p2 p3 p4 p5 p6) := by unfold own_sel; rw [hidx]; rfl
            have hcnt : own_count p1 = own_i (own_sel p1 p2 p3 p4 p5 p6).length := by rw [← hsel]; exact own_eqi (show (own_count p1).toInt = (3 : Int) by rw [own_countI p1]; omega)
            show Q2 Z p1 p2 p3 p4 p5 p6 h0 n0 _ T_207.heap _
            rw [e_207]
            exact ⟨b_2, k_2, rfl, N_207, K_214, g_b_2, sz_b_2, (own_conv (L := ([p2, p5, p6] : List Int32)) (r := 2) V_207 hcnt hsel)⟩
          ·  -- pc 90: no
            refine OGo.to (fun _ k => XS.icmpYes X_204.here hx rfl (pc0 := 90) (pc' := 103) rfl (hb hby d2_90) rfl (feq hc90__205).2 (by decide) (by decide) k) ?_
            show OGo p e below _ (T_204.setTop (mkF m 103 #[.val (.int p1), .val (.int p2), .val (.int p3), .val (.int p4), .val (.int p5), .val (.int p6), .val (.ref b_2), .val (.int (2 : Int32))] []))
            refine OGo.to (fun _ k => XS.aload X_204.here hx rfl (hb hby d2_103) rfl rfl k) ?_
            show OGo p e below _ (T_204.setTop (mkF m 105 #[.val (.int p1), .val (.int p2), .val (.int p3), .val (.int p4), .val (.int p5), .val (.int p6), .val (.ref b_2), .val (.int (2 : Int32))] [(.ref b_2)]))
            refine OGo.ret (Q := Q2 Z p1 p2 p3 p4 p5 p6 h0 n0) X_204 (some (.ref b_2)) (fun h => by rw [Bd.returns] at h; cases h) Bd.notSynchronized (fun fs hr => own_retA X_204 hx Bd.returns rfl rfl (hb hby d2_105) hr) ?_ (by decide) (by decide)
            have hidx : own_idx p1 = [0, 3] := by unfold own_idx; rw [if_pos hc17__6, if_neg hc35__13, if_neg hc53__134, if_pos hc71__195, if_neg hc90__205]; rfl
            have i_220 : ((own_bit p1 (0 : Int32))).toInt = 1 := own_ieq hc17__6
            have i_221 : ((own_bit p1 (1 : Int32))).toInt ≠ 1 := own_ine hc35__13
            have i_222 : ((own_bit p1 (2 : Int32))).toInt ≠ 1 := own_ine hc53__134
            have i_223 : ((own_bit p1 (3 : Int32))).toInt = 1 := own_ieq hc71__195
            have i_224 : ((own_bit p1 (4 : Int32))).toInt ≠ 1 := own_ine hc90__205
            have hsel : ([p2, p5] : List Int32) = (own_sel p1 p2 p3 p4 p5 p6) := by unfold own_sel; rw [hidx]; rfl
            have hcnt : own_count p1 = own_i (own_sel p1 p2 p3 p4 p5 p6).length := by rw [← hsel]; exact own_eqi (show (own_count p1).toInt = (2 : Int) by rw [own_countI p1]; omega)
            show Q2 Z p1 p2 p3 p4 p5 p6 h0 n0 _ T_204.heap _
            rw [e_204]
            exact ⟨b_2, k_2, rfl, N_204, K_203, g_b_2, sz_b_2, (own_conv (L := ([p2, p5] : List Int32)) (r := 3) V_197 hcnt hsel)⟩
        ·  -- pc 71: no
          refine OGo.to (fun _ k => XS.icmpYes X_194.here hx rfl (pc0 := 71) (pc' := 84) rfl (hb hby d2_71) rfl (feq hc71__195).2 (by decide) (by decide) k) ?_
          show OGo p e below _ (T_194.setTop (mkF m 84 #[.val (.int p1), .val (.int p2), .val (.int p3), .val (.int p4), .val (.int p5), .val (.int p6), .val (.ref b_2), .val (.int (1 : Int32))] []))
          refine OGo.to (fun _ k => XS.iloadN X_194.here hx rfl (hb hby d2_84) rfl k) ?_
          show OGo p e below _ (T_194.setTop (mkF m 85 #[.val (.int p1), .val (.int p2), .val (.int p3), .val (.int p4), .val (.int p5), .val (.int p6), .val (.ref b_2), .val (.int (1 : Int32))] [(.int p1)]))
          refine OGo.to (fun _ k => XS.iconst X_194.here hx rfl (hb hby d2_85) k) ?_
          show OGo p e below _ (T_194.setTop (mkF m 86 #[.val (.int p1), .val (.int p2), .val (.int p3), .val (.int p4), .val (.int p5), .val (.int p6), .val (.ref b_2), .val (.int (1 : Int32))] [(.int (4 : Int32)), (.int p1)]))
          obtain ⟨_, T_225, Lc_225, X_225, hQ_225, st_225⟩ := own_un X_194 (Q := Q4 Z p1 (4 : Int32) h_8 n0) (rc := 0) (rs := 0) (W := fun v B => ∀ target, Steps p.tables e below (B.setTop { (mkF m 86 #[.val (.int p1), .val (.int p2), .val (.int p3), .val (.int p4), .val (.int p5), .val (.int p6), .val (.ref b_2), .val (.int (1 : Int32))] [(.int (4 : Int32)), (.int p1)]) with pc := 89, stack := v.toList ++ [] }) target → Steps p.tables e below (T_194.setTop (mkF m 86 #[.val (.int p1), .val (.int p2), .val (.int p3), .val (.int p4), .val (.int p5), .val (.int p6), .val (.ref b_2), .val (.int (1 : Int32))] [(.int (4 : Int32)), (.int p1)])) target) <| Jvm.LawKit.callS X_194 hx (y := (⟨"com/example/cogram/cogram/index/PostingsEntriesPinLaw", "bit", "(II)I"⟩ : MethodName)) hown (mvT hZ (hw _ (List.mem_of_getElem? (i := 12) rfl))) (mvT hZ (hw _ (List.mem_of_getElem? (i := 13) rfl))) (mvT hZ (hw _ (List.mem_of_getElem? (i := 7) rfl))) (mvT hZ (hw _ (List.mem_of_getElem? (i := 14) rfl))) (by decide) (backOf (W := 0) (rm4 l Z a0 hw [] p1 (4 : Int32) h_8 n0 z_10 ) hZ (hw _ (List.mem_of_getElem? (i := 14) rfl)) (hw _ (List.mem_of_getElem? (i := 7) rfl)) (by decide) (by decide)) (g := (mkF m 86 #[.val (.int p1), .val (.int p2), .val (.int p3), .val (.int p4), .val (.int p5), .val (.int p6), .val (.ref b_2), .val (.int (1 : Int32))] [(.int (4 : Int32)), (.int p1)])) rfl (by rw [hml]; rfl) (argsL := [(.int p1), (.int (4 : Int32))]) (rest := []) (lenOf pd_0 rfl) rfl (by show 2 * 0 + _ ≤ _; exact Nat.le_of_eq rfl) (hb hby d2_86) (fun _ _ => ⟨rfl, e_194, (by decide : 1 + 0 ≤ _), (by decide : 5 + 0 ≤ _)⟩)
          obtain ⟨rfl, N_225q, e_225⟩ := hQ_225
          have N_225 := Fr.app N_194 N_225q
          refine OGo.to st_225 ?_
          show OGo p e below _ (T_225.setTop (mkF m 89 #[.val (.int p1), .val (.int p2), .val (.int p3), .val (.int p4), .val (.int p5), .val (.int p6), .val (.ref b_2), .val (.int (1 : Int32))] [(.int (own_bit p1 (4 : Int32)))]))
          refine OGo.to (fun _ k => XS.iconst X_225.here hx rfl (hb hby d2_89) k) ?_
          show OGo p e below _ (T_225.setTop (mkF m 90 #[.val (.int p1), .val (.int p2), .val (.int p3), .val (.int p4), .val (.int p5), .val (.int p6), .val (.ref b_2), .val (.int (1 : Int32))] [(.int (1 : Int32)), (.int (own_bit p1 (4 : Int32)))]))
          by_cases hc90__226 : (own_bit p1 (4 : Int32)) = (1 : Int32)
          ·  -- pc 90: yes
            refine OGo.to (fun _ k => XS.icmpNo X_225.here hx rfl (hb hby d2_90) rfl (teq hc90__226).2 k) ?_
            show OGo p e below _ (T_225.setTop (mkF m 93 #[.val (.int p1), .val (.int p2), .val (.int p3), .val (.int p4), .val (.int p5), .val (.int p6), .val (.ref b_2), .val (.int (1 : Int32))] []))
            refine OGo.to (fun _ k => XS.aload X_225.here hx rfl (hb hby d2_93) rfl rfl k) ?_
            show OGo p e below _ (T_225.setTop (mkF m 95 #[.val (.int p1), .val (.int p2), .val (.int p3), .val (.int p4), .val (.int p5), .val (.int p6), .val (.ref b_2), .val (.int (1 : Int32))] [(.ref b_2)]))
            refine OGo.to (fun _ k => XS.iload X_225.here hx rfl (hb hby d2_95) rfl k) ?_
            show OGo p e below _ (T_225.setTop (mkF m 97 #[.val (.int p1), .val (.int p2), .val (.int p3), .val (.int p4), .val (.int p5), .val (.int p6), .val (.ref b_2), .val (.int (1 : Int32))] [(.int (1 : Int32)), (.ref b_2)]))
            refine OGo.to (fun _ k => XS.iload X_225.here hx rfl (hb hby d2_97) rfl k) ?_
            show OGo p e below _ (T_225.setTop (mkF m 99 #[.val (.int p1), .val (.int p2), .val (.int p3), .val (.int p4), .val (.int p5), .val (.int p6), .val (.ref b_2), .val (.int (1 : Int32))] [(.int p6), (.int (1 : Int32)), (.ref b_2)]))
            have Vq_227 := V_8
            obtain ⟨cl_227, Ar_227, q_227, S_227, M_227, Hs_227, G_227⟩ := Vq_227
            have i_229 : ((own_bit p1 (0 : Int32))).toInt = 1 := own_ieq hc17__6
            have i_230 : ((own_bit p1 (1 : Int32))).toInt ≠ 1 := own_ine hc35__13
            have i_231 : ((own_bit p1 (2 : Int32))).toInt ≠ 1 := own_ine hc53__134
            have i_232 : ((own_bit p1 (3 : Int32))).toInt ≠ 1 := own_ine hc71__195
            have i_233 : ((own_bit p1 (4 : Int32))).toInt = 1 := own_ieq hc90__226
            have hin_228 : ¬ ((1 : Int32) < 0 ∨ cl_227.slots.size ≤ ((1 : Int32)).toNatClampNeg) := inb_of S_227 ⟨by decide, own_lti (show (1 : Int) < (own_count p1).toInt by rw [own_countI p1]; omega)⟩
            obtain ⟨T_228, h_228, X_228, e_228, W_228, st_228⟩ := stI X_225 hx hZ e_225 Ar_227 (j := (1 : Int32)) hin_228 (g := (mkF m 99 #[.val (.int p1), .val (.int p2), .val (.int p3), .val (.int p4), .val (.int p5), .val (.int p6), .val (.ref b_2), .val (.int (1 : Int32))] [(.int p6), (.int (1 : Int32)), (.ref b_2)])) rfl rfl (hb hby d2_99)
            refine OGo.to st_228 ?_
            have V_228 : Arv Z h_228 b_2 k_2 .int (own_count p1) [(.int p2), (.int p6), (.int (0 : Int32)), (.int (0 : Int32)), (.int (0 : Int32))] (.int (0 : Int32)) := Arv.set Ar_227 q_227 S_227 M_227 Hs_227 G_227 rfl W_228 1 rfl (Nat.le_of_ble_eq_true rfl)
            have N_228 := Fr.snoc X_228 N_225 g_b_2
            have z_234 : n0 ≤ h_228.size := Nat.le_trans z_10 (Keep.of_wr W_228).1
            have K_235 : Keep h0 h_228 [] := K_11.wr W_228 (Or.inr sz_b_2)
            show OGo p e below _ (T_228.setTop (mkF m 100 #[.val (.int p1), .val (.int p2), .val (.int p3), .val (.int p4), .val (.int p5), .val (.int p6), .val (.ref b_2), .val (.int (1 : Int32))] []))
            refine OGo.to (fun _ k => XS.iinc X_228.here hx rfl (hb hby d2_100) rfl (l' := #[.val (.int p1), .val (.int p2), .val (.int p3), .val (.int p4), .val (.int p5), .val (.int p6), .val (.ref b_2), .val (.int (2 : Int32))]) rfl k) ?_
            show OGo p e below _ (T_228.setTop (mkF m 103 #[.val (.int p1), .val (.int p2), .val (.int p3), .val (.int p4), .val (.int p5), .val (.int p6), .val (.ref b_2), .val (.int (2 : Int32))] []))
            refine OGo.to (fun _ k => XS.aload X_228.here hx rfl (hb hby d2_103) rfl rfl k) ?_
            show OGo p e below _ (T_228.setTop (mkF m 105 #[.val (.int p1), .val (.int p2), .val (.int p3), .val (.int p4), .val (.int p5), .val (.int p6), .val (.ref b_2), .val (.int (2 : Int32))] [(.ref b_2)]))
            refine OGo.ret (Q := Q2 Z p1 p2 p3 p4 p5 p6 h0 n0) X_228 (some (.ref b_2)) (fun h => by rw [Bd.returns] at h; cases h) Bd.notSynchronized (fun fs hr => own_retA X_228 hx Bd.returns rfl rfl (hb hby d2_105) hr) ?_ (by decide) (by decide)
            have hidx : own_idx p1 = [0, 4] := by unfold own_idx; rw [if_pos hc17__6, if_neg hc35__13, if_neg hc53__134, if_neg hc71__195, if_pos hc90__226]; rfl
            have i_236 : ((own_bit p1 (0 : Int32))).toInt = 1 := own_ieq hc17__6
            have i_237 : ((own_bit p1 (1 : Int32))).toInt ≠ 1 := own_ine hc35__13
            have i_238 : ((own_bit p1 (2 : Int32))).toInt ≠ 1 := own_ine hc53__134
            have i_239 : ((own_bit p1 (3 : Int32))).toInt ≠ 1 := own_ine hc71__195
            have i_240 : ((own_bit p1 (4 : Int32))).toInt = 1 := own_ieq hc90__226
            have hsel : ([p2, p6] : List Int32) = (own_sel p1 p2 p3 p4 p5 p6) := by unfold own_sel; rw [hidx]; rfl
            have hcnt : own_count p1 = own_i (own_sel p1 p2 p3 p4 p5 p6).length := by rw [← hsel]; exact own_eqi (show (own_count p1).toInt = (2 : Int) by rw [own_countI p1]; omega)
            show Q2 Z p1 p2 p3 p4 p5 p6 h0 n0 _ T_228.heap _
            rw [e_228]
            exact ⟨b_2, k_2, rfl, N_228, K_235, g_b_2, sz_b_2, (own_conv (L := ([p2, p6] : List Int32)) (r := 3) V_228 hcnt hsel)⟩
          ·  -- pc 90: no
            refine OGo.to (fun _ k => XS.icmpYes X_225.here hx rfl (pc0 := 90) (pc' := 103) rfl (hb hby d2_90) rfl (feq hc90__226).2 (by decide) (by decide) k) ?_
            show OGo p e below _ (T_225.setTop (mkF m 103 #[.val (.int p1), .val (.int p2), .val (.int p3), .val (.int p4), .val (.int p5), .val (.int p6), .val (.ref b_2), .val (.int (1 : Int32))] []))
            refine OGo.to (fun _ k => XS.aload X_225.here hx rfl (hb hby d2_103) rfl rfl k) ?_
            show OGo p e below _ (T_225.setTop (mkF m 105 #[.val (.int p1), .val (.int p2), .val (.int p3), .val (.int p4), .val (.int p5), .val (.int p6), .val (.ref b_2), .val (.int (1 : Int32))] [(.ref b_2)]))
            refine OGo.ret (Q := Q2 Z p1 p2 p3 p4 p5 p6 h0 n0) X_225 (some (.ref b_2)) (fun h => by rw [Bd.returns] at h; cases h) Bd.notSynchronized (fun fs hr => own_retA X_225 hx Bd.returns rfl rfl (hb hby d2_105) hr) ?_ (by decide) (by decide)
            have hidx : own_idx p1 = [0] := by unfold own_idx; rw [if_pos hc17__6, if_neg hc35__13, if_neg hc53__134, if_neg hc71__195, if_neg hc90__226]; rfl
            have i_241 : ((own_bit p1 (0 : Int32))).toInt = 1 := own_ieq hc17__6
            have i_242 : ((own_bit p1 (1 : Int32))).toInt ≠ 1 := own_ine hc35__13
            have i_243 : ((own_bit p1 (2 : Int32))).toInt ≠ 1 := own_ine hc53__134
            have i_244 : ((own_bit p1 (3 : Int32))).toInt ≠ 1 := own_ine hc71__195
            have i_245 : ((own_bit p1 (4 : Int32))).toInt ≠ 1 := own_ine hc90__226
            have hsel : ([p2] : List Int32) = (own_sel p1 p2 p3 p4 p5 p6) := by unfold own_sel; rw [hidx]; rfl
            have hcnt : own_count p1 = own_i (own_sel p1 p2 p3 p4 p5 p6).length := by rw [← hsel]; exact own_eqi (show (own_count p1).toInt = (1 : Int) by rw [own_countI p1]; omega)
            show Q2 Z p1 p2 p3 p4 p5 p6 h0 n0 _ T_225.heap _
            rw [e_225]
            exact ⟨b_2, k_2, rfl, N_225, K_11, g_b_2, sz_b_2, (own_conv (L := ([p2] : List Int32)) (r := 4) V_8 hcnt hsel)⟩
  ·  -- pc 17: no
    refine OGo.to (fun _ k => XS.icmpYes X_5.here hx rfl (pc0 := 17) (pc' := 29) rfl (hb hby d2_17) rfl (feq hc17__6).2 (by decide) (by decide) k) ?_
    show OGo p e below _ (T_5.setTop (mkF m 29 #[.val (.int p1), .val (.int p2), .val (.int p3), .val (.int p4), .val (.int p5), .val (.int p6), .val (.ref b_2), .val (.int (0 : Int32))] []))
    refine OGo.to (fun _ k => XS.iloadN X_5.here hx rfl (hb hby d2_29) rfl k) ?_
    show OGo p e below _ (T_5.setTop (mkF m 30 #[.val (.int p1), .val (.int p2), .val (.int p3), .val (.int p4), .val (.int p5), .val (.int p6), .val (.ref b_2), .val (.int (0 : Int32))] [(.int p1)]))
    refine OGo.to (fun _ k => XS.iconst X_5.here hx rfl (hb hby d2_30) k) ?_
    show OGo p e below _ (T_5.setTop (mkF m 31 #[.val (.int p1), .val (.int p2), .val (.int p3), .val (.int p4), .val (.int p5), .val (.int p6), .val (.ref b_2), .val (.int (0 : Int32))] [(.int (1 : Int32)), (.int p1)]))
    obtain ⟨_, T_246, Lc_246, X_246, hQ_246, st_246⟩ := own_un X_5 (Q := Q4 Z p1 (1 : Int32) h_2 n0) (rc := 0) (rs := 0) (W := fun v B => ∀ target, Steps p.tables e below (B.setTop { (mkF m 31 #[.val (.int p1), .val (.int p2), .val (.int p3), .val (.int p4), .val (.int p5), .val (.int p6), .val (.ref b_2), .val (.int (0 : Int32))] [(.int (1 : Int32)), (.int p1)]) with pc := 34, stack := v.toList ++ [] }) target → Steps p.tables e below (T_5.setTop (mkF m 31 #[.val (.int p1), .val (.int p2), .val (.int p3), .val (.int p4), .val (.int p5), .val (.int p6), .val (.ref b_2), .val (.int (0 : Int32))] [(.int (1 : Int32)), (.int p1)])) target) <| Jvm.LawKit.callS X_5 hx (y := (⟨"com/example/cogram/cogram/index/PostingsEntriesPinLaw", "bit", "(II)I"⟩ : MethodName)) hown (mvT hZ (hw _ (List.mem_of_getElem? (i := 12) rfl))) (mvT hZ (hw _ (List.mem_of_getElem? (i := 13) rfl))) (mvT hZ (hw _ (List.mem_of_getElem? (i := 7) rfl))) (mvT hZ (hw _ (List.mem_of_getElem? (i := 14) rfl))) (by decide) (backOf (W := 0) (rm4 l Z a0 hw [] p1 (1 : Int32) h_2 n0 z_3 ) hZ (hw _ (List.mem_of_getElem? (i := 14) rfl)) (hw _ (List.mem_of_getElem? (i := 7) rfl)) (by decide) (by decide)) (g := (mkF m 31 #[.val (.int p1), .val (.int p2), .val (.int p3), .val (.int p4), .val (.int p5), .val (.int p6), .val (.ref b_2), .val (.int (0 : Int32))] [(.int (1 : Int32)), (.int p1)])) rfl (by rw [hml]; rfl) (argsL := [(.int p1), (.int (1 : Int32))]) (rest := []) (lenOf pd_0 rfl) rfl (by show 2 * 0 + _ ≤ _; exact Nat.le_of_eq rfl) (hb hby d2_31) (fun _ _ => ⟨rfl, e_5, (by decide : 1 + 0 ≤ _), (by decide : 5 + 0 ≤ _)⟩)
    obtain ⟨rfl, N_246q, e_246⟩ := hQ_246
    have N_246 := Fr.app N_5 N_246q
    refine OGo.to st_246 ?_
    show OGo p e below _ (T_246.setTop (mkF m 34 #[.val (.int p1), .val (.int p2), .val (.int p3), .val (.int p4), .val (.int p5), .val (.int p6), .val (.ref b_2), .val (.int (0 : Int32))] [(.int (own_bit p1 (1 : Int32)))]))
    refine OGo.to (fun _ k => XS.iconst X_246.here hx rfl (hb hby d2_34) k) ?_
    show OGo p e below _ (T_246.setTop (mkF m 35 #[.val (.int p1), .val (.int p2), .val (.int p3), .val (.int p4), .val (.int p5), .val (.int p6), .val (.ref b_2), .val (.int (0 : Int32))] [(.int (1 : Int32)), (.int (own_bit p1 (1 : Int32)))]))
    by_cases hc35__247 : (own_bit p1 (1 : Int32)) = (1 : Int32)
    ·  -- pc 35: yes
      refine OGo.to (fun _ k => XS.icmpNo X_246.here hx rfl (hb hby d2_35) rfl (teq hc35__247).2 k) ?_
      show OGo p e below _ (T_246.setTop (mkF m 38 #[.val (.int p1), .val (.int p2), .val (.int p3), .val (.int p4), .val (.int p5), .val (.int p6), .val (.ref b_2), .val (.int (0 : Int32))] []))
      refine OGo.to (fun _ k => XS.aload X_246.here hx rfl (hb hby d2_38) rfl rfl k) ?_
      show OGo p e below _ (T_246.setTop (mkF m 40 #[.val (.int p1), .val (.int p2), .val (.int p3), .val (.int p4), .val (.int p5), .val (.int p6), .val (.ref b_2), .val (.int (0 : Int32))] [(.ref b_2)]))
      refine OGo.to (fun _ k => XS.iload X_246.here hx rfl (hb hby d2_40) rfl k) ?_
      show OGo p e below _ (T_246.setTop (mkF m 42 #[.val (.int p1), .val (.int p2), .val (.int p3), .val (.int p4), .val (.int p5), .val (.int p6), .val (.ref b_2), .val (.int (0 : Int32))] [(.int (0 : Int32)), (.ref b_2)]))
      refine OGo.to (fun _ k => XS.iloadN X_246.here hx rfl (hb hby d2_42) rfl k) ?_
      show OGo p e below _ (T_246.setTop (mkF m 43 #[.val (.int p1), .val (.int p2), .val (.int p3), .val (.int p4), .val (.int p5), .val (.int p6), .val (.ref b_2), .val (.int (0 : Int32))] [(.int p3), (.int (0 : Int32)), (.ref b_2)]))
      have Vq_248 := V_2
      obtain ⟨cl_248, Ar_248, q_248, S_248, M_248, Hs_248, G_248⟩ := Vq_248
      have i_250 : ((own_bit p1 (0 : Int32))).toInt ≠ 1 := own_ine hc17__6
      have i_251 : ((own_bit p1 (1 : Int32))).toInt = 1 := own_ieq hc35__247
      have hin_249 : ¬ ((0 : Int32) < 0 ∨ cl_248.slots.size ≤ ((0 : Int32)).toNatClampNeg) := inb_of S_248 ⟨by decide, own_lti (show (0 : Int) < (own_count p1).toInt by rw [own_countI p1]; omega)⟩
      obtain ⟨T_249, h_249, X_249, e_249, W_249, st_249⟩ := stI X_246 hx hZ e_246 Ar_248 (j := (0 : Int32)) hin_249 (g := (mkF m 43 #[.val (.int p1), .val (.int p2), .val (.int p3), .val (.int p4), .val (.int p5), .val (.int p6), .val (.ref b_2), .val (.int (0 : Int32))] [(.int p3), (.int (0 : Int32)), (.ref b_2)])) rfl rfl (hb hby d2_43)
      refine OGo.to st_249 ?_
      have V_249 : Arv Z h_249 b_2 k_2 .int (own_count p1) [(.int p3), (.int (0 : Int32)), (.int (0 : Int32)), (.int (0 : Int32)), (.int (0 : Int32))] (.int (0 : Int32)) := Arv.set Ar_248 q_248 S_248 M_248 Hs_248 G_248 rfl W_249 0 rfl (Nat.le_of_ble_eq_true rfl)
      have N_249 := Fr.snoc X_249 N_246 g_b_2
      have z_252 : n0 ≤ h_249.size := Nat.le_trans z_3 (Keep.of_wr W_249).1
      have K_253 : Keep h0 h_249 [] := K_4.wr W_249 (Or.inr sz_b_2)
      show OGo p e below _ (T_249.setTop (mkF m 44 #[.val (.int p1), .val (.int p2), .val (.int p3), .val (.int p4), .val (.int p5), .val (.int p6), .val (.ref b_2), .val (.int (0 : Int32))] []))
      refine OGo.to (fun _ k => XS.iinc X_249.here hx rfl (hb hby d2_44) rfl (l' := #[.val (.int p1), .val (.int p2), .val (.int p3), .val (.int p4), .val (.int p5), .val (.int p6), .val (.ref b_2), .val (.int (1 : Int32))]) rfl k) ?_
      show OGo p e below _ (T_249.setTop (mkF m 47 #[.val (.int p1), .val (.int p2), .val (.int p3), .val (.int p4), .val (.int p5), .val (.int p6), .val (.ref b_2), .val (.int (1 : Int32))] []))
      refine OGo.to (fun _ k => XS.iloadN X_249.here hx rfl (hb hby d2_47) rfl k) ?_
      show OGo p e below _ (T_249.setTop (mkF m 48 #[.val (.int p1), .val (.int p2), .val (.int p3), .val (.int p4), .val (.int p5), .val (.int p6), .val (.ref b_2), .val (.int (1 : Int32))] [(.int p1)]))
      refine OGo.to (fun _ k => XS.iconst X_249.here hx rfl (hb hby d2_48) k) ?_
      show OGo p e below _ (T_249.setTop (mkF m 49 #[.val (.int p1), .val (.int p2), .val (.int p3), .val (.int p4), .val (.int p5), .val (.int p6), .val (.ref b_2), .val (.int (1 : Int32))] [(.int (2 : Int32)), (.int p1)]))
      obtain ⟨_, T_254, Lc_254, X_254, hQ_254, st_254⟩ := own_un X_249 (Q := Q4 Z p1 (2 : Int32) h_249 n0) (rc := 0) (rs := 0) (W := fun v B => ∀ target, Steps p.tables e below (B.setTop { (mkF m 49 #[.val (.int p1), .val (.int p2), .val (.int p3), .val (.int p4), .val (.int p5), .val (.int p6), .val (.ref b_2), .val (.int (1 : Int32))] [(.int (2 : Int32)), (.int p1)]) with pc := 52, stack := v.toList ++ [] }) target → Steps p.tables e below (T_249.setTop (mkF m 49 #[.val (.int p1), .val (.int p2), .val (.int p3), .val (.int p4), .val (.int p5), .val (.int p6), .val (.ref b_2), .val (.int (1 : Int32))] [(.int (2 : Int32)), (.int p1)])) target) <| Jvm.LawKit.callS X_249 hx (y := (⟨"com/example/cogram/cogram/index/PostingsEntriesPinLaw", "bit", "(II)I"⟩ : MethodName)) hown (mvT hZ (hw _ (List.mem_of_getElem? (i := 12) rfl))) (mvT hZ (hw _ (List.mem_of_getElem? (i := 13) rfl))) (mvT hZ (hw _ (List.mem_of_getElem? (i := 7) rfl))) (mvT hZ (hw _ (List.mem_of_getElem? (i := 14) rfl))) (by decide) (backOf (W := 0) (rm4 l Z a0 hw [] p1 (2 : Int32) h_249 n0 z_252 ) hZ (hw _ (List.mem_of_getElem? (i := 14) rfl)) (hw _ (List.mem_of_getElem? (i := 7) rfl)) (by decide) (by decide)) (g := (mkF m 49 #[.val (.int p1), .val (.int p2), .val (.int p3), .val (.int p4), .val (.int p5), .val (.int p6), .val (.ref b_2), .val (.int (1 : Int32))] [(.int (2 : Int32)), (.int p1)])) rfl (by rw [hml]; rfl) (argsL := [(.int p1), (.int (2 : Int32))]) (rest := []) (lenOf pd_0 rfl) rfl (by show 2 * 0 + _ ≤ _; exact Nat.le_of_eq rfl) (hb hby d2_49) (fun _ _ => ⟨rfl, e_249, (by decide : 1 + 0 ≤ _), (by decide : 5 + 0 ≤ _)⟩)
      obtain ⟨rfl, N_254q, e_254⟩ := hQ_254
      have N_254 := Fr.app N_249 N_254q
      refine OGo.to st_254 ?_
      show OGo p e below _ (T_254.setTop (mkF m 52 #[.val (.int p1), .val (.int p2), .val (.int p3), .val (.int p4), .val (.int p5), .val (.int p6), .val (.ref b_2), .val (.int (1 : Int32))] [(.int (own_bit p1 (2 : Int32)))]))
      refine OGo.to (fun _ k => XS.iconst X_254.here hx rfl (hb hby d2_52) k) ?_
      show OGo p e below _ (T_254.setTop (mkF m 53 #[.val (.int p1), .val (.int p2), .val (.int p3), .val (.int p4), .val (.int p5), .val (.int p6), .val (.ref b_2), .val (.int (1 : Int32))] [(.int (1 : Int32)), (.int (own_bit p1 (2 : Int32)))]))
      by_cases hc53__255 : (own_bit p1 (2 : Int32)) = (1 : Int32)
      ·  -- pc 53: yes
        refine OGo.to (fun _ k => XS.icmpNo X_254.here hx rfl (hb hby d2_53) rfl (teq hc53__255).2 k) ?_
        show OGo p e below _ (T_254.setTop (mkF m 56 #[.val (.int p1), .val (.int p2), .val (.int p3), .val (.int p4), .val (.int p5), .val (.int p6), .val (.ref b_2), .val (.int (1 : Int32))] []))
        refine OGo.to (fun _ k => XS.aload X_254.here hx rfl (hb hby d2_56) rfl rfl k) ?_
        show OGo p e below _ (T_254.setTop (mkF m 58 #[.val (.int p1), .val (.int p2), .val (.int p3), .val (.int p4), .val (.int p5), .val (.int p6), .val (.ref b_2), .val (.int (1 : Int32))] [(.ref b_2)]))
        refine OGo.to (fun _ k => XS.iload X_254.here hx rfl (hb hby d2_58) rfl k) ?_
        show OGo p e below _ (T_254.setTop (mkF m 60 #[.val (.int p1), .val (.int p2), .val (.int p3), .val (.int p4), .val (.int p5), .val (.int p6), .val (.ref b_2), .val (.int (1 : Int32))] [(.int (1 : Int32)), (.ref b_2)]))
        refine OGo.to (fun _ k => XS.iloadN X_254.here hx rfl (hb hby d2_60) rfl k) ?_
        show OGo p e below _ (T_254.setTop (mkF m 61 #[.val (.int p1), .val (.int p2), .val (.int p3), .val (.int p4), .val (.int p5), .val (.int p6), .val (.ref b_2), .val (.int (1 : Int32))] [(.int p4), (.int (1 : Int32)), (.ref b_2)]))
        have Vq_256 := V_249
        obtain ⟨cl_256, Ar_256, q_256, S_256, M_256, Hs_256, G_256⟩ := Vq_256
        have i_258 : ((own_bit p1 (0 : Int32))).toInt ≠ 1 := own_ine hc17__6
        have i_259 : ((own_bit p1 (1 : Int32))).toInt = 1 := own_ieq hc35__247
        have i_260 : ((own_bit p1 (2 : Int32))).toInt = 1 := own_ieq hc53__255
        have hin_257 : ¬ ((1 : Int32) < 0 ∨ cl_256.slots.size ≤ ((1 : Int32)).toNatClampNeg) := inb_of S_256 ⟨by decide, own_lti (show (1 : Int) < (own_count p1).toInt by rw [own_countI p1]; omega)⟩
        obtain ⟨T_257, h_257, X_257, e_257, W_257, st_257⟩ := stI X_254 hx hZ e_254 Ar_256 (j := (1 : Int32)) hin_257 (g := (mkF m 61 #[.val (.int p1), .val (.int p2), .val (.int p3), .val (.int p4), .val (.int p5), .val (.int p6), .val (.ref b_2), .val (.int (1 : Int32))] [(.int p4), (.int (1 : Int32)), (.ref b_2)])) rfl rfl (hb hby d2_61)
        refine OGo.to st_257 ?_
        have V_257 : Arv Z h_257 b_2 k_2 .int (own_count p1) [(.int p3), (.int p4), (.int (0 : Int32)), (.int (0 : Int32)), (.int (0 : Int32))] (.int (0 : Int32)) := Arv.set Ar_256 q_256 S_256 M_256 Hs_256 G_256 rfl W_257 1 rfl (Nat.le_of_ble_eq_true rfl)
        have N_257 := Fr.snoc X_257 N_254 g_b_2
        have z_261 : n0 ≤ h_257.size := Nat.le_trans z_252 (Keep.of_wr W_257).1
        have K_262 : Keep h0 h_257 [] := K_253.wr W_257 (Or.inr sz_b_2)
        show OGo p e below _ (T_257.setTop (mkF m 62 #[.val (.int p1), .val (.int p2), .val (.int p3), .val (.int p4), .val (.int p5), .val (.int p6), .val (.ref b_2), .val (.int (1 : Int32))] []))
        refine OGo.to (fun _ k => XS.iinc X_257.here hx rfl (hb hby d2_62) rfl (l' := #[.val (.int p1), .val (.int p2), .val (.int p3), .val (.int p4), .val (.int p5), .val (.int p6), .val (.ref b_2), .val (.int (2 : Int32))]) rfl k) ?_
        show OGo p e below _ (T_257.setTop (mkF m 65 #[.val (.int p1), .val (.int p2), .val (.int p3), .val (.int p4), .val (.int p5), .val (.int p6), .val (.ref b_2), .val (.int (2 : Int32))] []))
        refine OGo.to (fun _ k => XS.iloadN X_257.here hx rfl (hb hby d2_65) rfl k) ?_
        show OGo p e below _ (T_257.setTop (mkF m 66 #[.val (.int p1), .val (.int p2), .val (.int p3), .val (.int p4), .val (.int p5), .val (.int p6), .val (.ref b_2), .val (.int (2 : Int32))] [(.int p1)]))
        refine OGo.to (fun _ k => XS.iconst X_257.here hx rfl (hb hby d2_66) k) ?_
        show OGo p e below _ (T_257.setTop (mkF m 67 #[.val (.int p1), .val (.int p2), .val (.int p3), .val (.int p4), .val (.int p5), .val (.int p6), .val (.ref b_2), .val (.int (2 : Int32))] [(.int (3 : Int32)), (.int p1)]))
        obtain ⟨_, T_263, Lc_263, X_263, hQ_263, st_263⟩ := own_un X_257 (Q := Q4 Z p1 (3 : Int32) h_257 n0) (rc := 0) (rs := 0) (W := fun v B => ∀ target, Steps p.tables e below (B.setTop { (mkF m 67 #[.val (.int p1), .val (.int p2), .val (.int p3), .val (.int p4), .val (.int p5), .val (.int p6), .val (.ref b_2), .val (.int (2 : Int32))] [(.int (3 : Int32)), (.int p1)]) with pc := 70, stack := v.toList ++ [] }) target → Steps p.tables e below (T_257.setTop (mkF m 67 #[.val (.int p1), .val (.int p2), .val (.int p3), .val (.int p4), .val (.int p5), .val (.int p6), .val (.ref b_2), .val (.int (2 : Int32))] [(.int (3 : Int32)), (.int p1)])) target) <| Jvm.LawKit.callS X_257 hx (y := (⟨"com/example/cogram/cogram/index/PostingsEntriesPinLaw", "bit", "(II)I"⟩ : MethodName)) hown (mvT hZ (hw _ (List.mem_of_getElem? (i := 12) rfl))) (mvT hZ (hw _ (List.mem_of_getElem? (i := 13) rfl))) (mvT hZ (hw _ (List.mem_of_getElem? (i := 7) rfl))) (mvT hZ (hw _ (List.mem_of_getElem? (i := 14) rfl))) (by decide) (backOf (W := 0) (rm4 l Z a0 hw [] p1 (3 : Int32) h_257 n0 z_261 ) hZ (hw _ (List.mem_of_getElem? (i := 14) rfl)) (hw _ (List.mem_of_getElem? (i := 7) rfl)) (by decide) (by decide)) (g := (mkF m 67 #[.val (.int p1), .val (.int p2), .val (.int p3), .val (.int p4), .val (.int p5), .val (.int p6), .val (.ref b_2), .val (.int (2 : Int32))] [(.int (3 : Int32)), (.int p1)])) rfl (by rw [hml]; rfl) (argsL := [(.int p1), (.int (3 : Int32))]) (rest := []) (lenOf pd_0 rfl) rfl (by show 2 * 0 + _ ≤ _; exact Nat.le_of_eq rfl) (hb hby d2_67) (fun _ _ => ⟨rfl, e_257, (by decide : 1 + 0 ≤ _), (by decide : 5 + 0 ≤ _)⟩)
        obtain ⟨rfl, N_263q, e_263⟩ := hQ_263
        have N_263 := Fr.app N_257 N_263q
        refine OGo.to st_263 ?_
        show OGo p e below _ (T_263.setTop (mkF m 70 #[.val (.int p1), .val (.int p2), .val (.int p3), .val (.int p4), .val (.int p5), .val (.int p6), .val (.ref b_2), .val (.int (2 : Int32))] [(.int (own_bit p1 (3 : Int32)))]))
        refine OGo.to (fun _ k => XS.iconst X_263.here hx rfl (hb hby d2_70) k) ?_
        show OGo p e below _ (T_263.setTop (mkF m 71 #[.val (.int p1), .val (.int p2), .val (.int p3), .val (.int p4), .val (.int p5), .val (.int p6), .val (.ref b_2), .val (.int (2 : Int32))] [(.int (1 : Int32)), (.int (own_bit p1 (3 : Int32)))]))
        by_cases hc71__264 : (own_bit p1 (3 : Int32)) = (1 : Int32)
        ·  -- pc 71: yes
          refine OGo.to (fun _ k => XS.icmpNo X_263.here hx rfl (hb hby d2_71) rfl (teq hc71__264).2 k) ?_
          show OGo p e below _ (T_263.setTop (mkF m 74 #[.val (.int p1), .val (.int p2), .val (.int p3), .val (.int p4), .val (.int p5), .val (.int p6), .val (.ref b_2), .val (.int (2 : Int32))] []))
          refine OGo.to (fun _ k => XS.aload X_263.here hx rfl (hb hby d2_74) rfl rfl k) ?_
          show OGo p e below _ (T_263.setTop (mkF m 76 #[.val (.int p1), .val (.int p2), .val (.int p3), .val (.int p4), .val (.int p5), .val (.int p6), .val (.ref b_2), .val (.int (2 : Int32))] [(.ref b_2)]))
          refine OGo.to (fun _ k => XS.iload X_263.here hx rfl (hb hby d2_76) rfl k) ?_
          show OGo p e below _ (T_263.setTop (mkF m 78 #[.val (.int p1), .val (.int p2), .val (.int p3), .val (.int p4), .val (.int p5), .val (.int p6), .val (.ref b_2), .val (.int (2 : Int32))] [(.int (2 : Int32)), (.ref b_2)]))
          refine OGo.to (fun _ k => XS.iload X_263.here hx rfl (hb hby d2_78) rfl k) ?_
          show OGo p e below _ (T_263.setTop (mkF m 80 #[.val (.int p1), .val (.int p2), .val (.int p3), .val (.int p4), .val (.int p5), .val (.int p6), .val (.ref b_2), .val (.int (2 : Int32))] [(.int p5), (.int (2 : Int32)), (.ref b_2)]))
          have Vq_265 := V_257
          obtain ⟨cl_265, Ar_265, q_265, S_265, M_265, Hs_265, G_265⟩ := Vq_265
          have i_267 : ((own_bit p1 (0 : Int32))).toInt ≠ 1 := own_ine hc17__6
          have i_268 : ((own_bit p1 (1 : Int32))).toInt = 1 := own_ieq hc35__247
          have i_269 : ((own_bit p1 (2 : Int32))).toInt = 1 := own_ieq hc53__255
          have i_270 : ((own_bit p1 (3 : Int32))).toInt = 1 := own_ieq hc71__264
          have hin_266 : ¬ ((2 : Int32) < 0 ∨ cl_265.slots.size ≤ ((2 : Int32)).toNatClampNeg) := inb_of S_265 ⟨by decide, own_lti (show (2 : Int) < (own_count p1).toInt by rw [own_countI p1]; omega)⟩
          obtain ⟨T_266, h_266, X_266, e_266, W_266, st_266⟩ := stI X_263 hx hZ e_263 Ar_265 (j := (2 : Int32)) hin_266 (g := (mkF m 80 #[.val (.int p1), .val (.int p2), .val (.int p3), .val (.int p4), .val (.int p5), .val (.int p6), .val (.ref b_2), .val (.int (2 : Int32))] [(.int p5), (.int (2 : Int32)), (.ref b_2)])) rfl rfl (hb hby d2_80)
          refine OGo.to st_266 ?_
          have V_266 : Arv Z h_266 b_2 k_2 .int (own_count p1) [(.int p3), (.int p4), (.int p5), (.int (0 : Int32)), (.int (0 : Int32))] (.int (0 : Int32)) := Arv.set Ar_265 q_265 S_265 M_265 Hs_265 G_265 rfl W_266 2 rfl (Nat.le_of_ble_eq_true rfl)
          have N_266 := Fr.snoc X_266 N_263 g_b_2
          have z_271 : n0 ≤ h_266.size := Nat.le_trans z_261 (Keep.of_wr W_266).1
          have K_272 : Keep h0 h_266 [] := K_262.wr W_266 (Or.inr sz_b_2)
          show OGo p e below _ (T_266.setTop (mkF m 81 #[.val (.int p1), .val (.int p2), .val (.int p3), .val (.int p4), .val (.int p5), .val (.int p6), .val (.ref b_2), .val (.int (2 : Int32))] []))
          refine OGo.to (fun _ k => XS.iinc X_266.here hx rfl (hb hby d2_81) rfl (l' := #[.val (.int p1), .val (.int p2), .val (.int p3), .val (.int p4), .val (.int p5), .val (.int p6), .val (.ref b_2), .val (.int (3 : Int32))]) rfl k) ?_
          show OGo p e below _ (T_266.setTop (mkF m 84 #[.val (.int p1), .val (.int p2), .val (.int p3), .val (.int p4), .val (.int p5), .val (.int p6), .val (.ref b_2), .val (.int (3 : Int32))] []))
          refine OGo.to (fun _ k => XS.iloadN X_266.here hx rfl (hb hby d2_84) rfl k) ?_
          show OGo p e below _ (T_266.setTop (mkF m 85 #[.val (.int p1), .val (.int p2), .val (.int p3), .val (.int p4), .val (.int p5), .val (.int p6), .val (.ref b_2), .val (.int (3 : Int32))] [(.int p1)]))
          refine OGo.to (fun _ k => XS.iconst X_266.here hx rfl (hb hby d2_85) k) ?_
          show OGo p e below _ (T_266.setTop (mkF m 86 #[.val (.int p1), .val (.int p2), .val (.int p3), .val (.int p4), .val (.int p5), .val (.int p6), .val (.ref b_2), .val (.int (3 : Int32))] [(.int (4 : Int32)), (.int p1)]))
          obtain ⟨_, T_273, Lc_273, X_273, hQ_273, st_273⟩ := own_un X_266 (Q := Q4 Z p1 (4 : Int32) h_266 n0) (rc := 0) (rs := 0) (W := fun v B => ∀ target, Steps p.tables e below (B.setTop { (mkF m 86 #[.val (.int p1), .val (.int p2), .val (.int p3), .val (.int p4), .val (.int p5), .val (.int p6), .val (.ref b_2), .val (.int (3 : Int32))] [(.int (4 : Int32)), (.int p1)]) with pc := 89, stack := v.toList ++ [] }) target → Steps p.tables e below (T_266.setTop (mkF m 86 #[.val (.int p1), .val (.int p2), .val (.int p3), .val (.int p4), .val (.int p5), .val (.int p6), .val (.ref b_2), .val (.int (3 : Int32))] [(.int (4 : Int32)), (.int p1)])) target) <| Jvm.LawKit.callS X_266 hx (y := (⟨"com/example/cogram/cogram/index/PostingsEntriesPinLaw", "bit", "(II)I"⟩ : MethodName)) hown (mvT hZ (hw _ (List.mem_of_getElem? (i := 12) rfl))) (mvT hZ (hw _ (List.mem_of_getElem? (i := 13) rfl))) (mvT hZ (hw _ (List.mem_of_getElem? (i := 7) rfl))) (mvT hZ (hw _ (List.mem_of_getElem? (i := 14) rfl))) (by decide) (backOf (W := 0) (rm4 l Z a0 hw [] p1 (4 : Int32) h_266 n0 z_271 ) hZ (hw _ (List.mem_of_getElem? (i := 14) rfl)) (hw _ (List.mem_of_getElem? (i := 7) rfl)) (by decide) (by decide)) (g := (mkF m 86 #[.val (.int p1), .val (.int p2), .val (.int p3), .val (.int p4), .val (.int p5), .val (.int p6), .val (.ref b_2), .val (.int (3 : Int32))] [(.int (4 : Int32)), (.int p1)])) rfl (by rw [hml]; rfl) (argsL := [(.int p1), (.int (4 : Int32))]) (rest := []) (lenOf pd_0 rfl) rfl (by show 2 * 0 + _ ≤ _; exact Nat.le_of_eq rfl) (hb hby d2_86) (fun _ _ => ⟨rfl, e_266, (by decide : 1 + 0 ≤ _), (by decide : 5 + 0 ≤ _)⟩)
          obtain ⟨rfl, N_273q, e_273⟩ := hQ_273
          have N_273 := Fr.app N_266 N_273q
          refine OGo.to st_273 ?_
          show OGo p e below _ (T_273.setTop (mkF m 89 #[.val (.int p1), .val (.int p2), .val (.int p3), .val (.int p4), .val (.int p5), .val (.int p6), .val (.ref b_2), .val (.int (3 : Int32))] [(.int (own_bit p1 (4 : Int32)))]))
          refine OGo.to (fun _ k => XS.iconst X_273.here hx rfl (hb hby d2_89) k) ?_
          show OGo p e below _ (T_273.setTop (mkF m 90 #[.val (.int p1), .val (.int p2), .val (.int p3), .val (.int p4), .val (.int p5), .val (.int p6), .val (.ref b_2), .val (.int (3 : Int32))] [(.int (1 : Int32)), (.int (own_bit p1 (4 : Int32)))]))
          by_cases hc90__274 : (own_bit p1 (4 : Int32)) = (1 : Int32)
          ·  -- pc 90: yes
            refine OGo.to (fun _ k => XS.icmpNo X_273.here hx rfl (hb hby d2_90) rfl (teq hc90__274).2 k) ?_
            show OGo p e below _ (T_273.setTop (mkF m 93 #[.val (.int p1), .val (.int p2), .val (.int p3), .val (.int p4), .val (.int p5), .val (.int p6), .val (.ref b_2), .val (.int (3 : Int32))] []))
            refine OGo.to (fun _ k => XS.aload X_273.here hx rfl (hb hby d2_93) rfl rfl k) ?_
            show OGo p e below _ (T_273.setTop (mkF m 95 #[.val (.int p1), .val (.int p2), .val (.int p3), .val (.int p4), .val (.int p5), .val (.int p6), .val (.ref b_2), .val (.int (3 : Int32))] [(.ref b_2)]))
            refine OGo.to (fun _ k => XS.iload X_273.here hx rfl (hb hby d2_95) rfl k) ?_
            show OGo p e below _ (T_273.setTop (mkF m 97 #[.val (.int p1), .val (.int p2), .val (.int p3), .val (.int p4), .val (.int p5), .val (.int p6), .val (.ref b_2), .val (.int (3 : Int32))] [(.int (3 : Int32)), (.ref b_2)]))
            refine OGo.to (fun _ k => XS.iload X_273.here hx rfl (hb hby d2_97) rfl k) ?_
            show OGo p e below _ (T_273.setTop (mkF m 99 #[.val (.int p1), .val (.int p2), .val (.int p3), .val (.int p4), .val (.int p5), .val (.int p6), .val (.ref b_2), .val (.int (3 : Int32))] [(.int p6), (.int (3 : Int32)), (.ref b_2)]))
            have Vq_275 := V_266
            obtain ⟨cl_275, Ar_275, q_275, S_275, M_275, Hs_275, G_275⟩ := Vq_275
            have i_277 : ((own_bit p1 (0 : Int32))).toInt ≠ 1 := own_ine hc17__6
            have i_278 : ((own_bit p1 (1 : Int32))).toInt = 1 := own_ieq hc35__247
            have i_279 : ((own_bit p1 (2 : Int32))).toInt = 1 := own_ieq hc53__255
            have i_280 : ((own_bit p1 (3 : Int32))).toInt = 1 := own_ieq hc71__264
            have i_281 : ((own_bit p1 (4 : Int32))).toInt = 1 := own_ieq hc90__274
            have hin_276 : ¬ ((3 : Int32) < 0 ∨ cl_275.slots.size ≤ ((3 : Int32)).toNatClampNeg) := inb_of S_275 ⟨by decide, own_lti (show (3 : Int) < (own_count p1).toInt by rw [own_countI p1]; omega)⟩
            obtain ⟨T_276, h_276, X_276, e_276, W_276, st_276⟩ := stI X_273 hx hZ e_273 Ar_275 (j := (3 : Int32)) hin_276 (g := (mkF m 99 #[.val (.int p1), .val (.int p2), .val (.int p3), .val (.int p4), .val (.int p5), .val (.int p6), .val (.ref b_2), .val (.int (3 : Int32))] [(.int p6), (.int (3 : Int32)), (.ref b_2)])) rfl rfl (hb hby d2_99)
            refine OGo.to st_276 ?_
            have V_276 : Arv Z h_276 b_2 k_2 .int (own_count p1) [(.int p3), (.int p4), (.int p5), (.int p6), (.int (0 : Int32))] (.int (0 : Int32)) := Arv.set Ar_275 q_275 S_275 M_275 Hs_275 G_275 rfl W_276 3 rfl (Nat.le_of_ble_eq_true rfl)
            have N_276 := Fr.snoc X_276 N_273 g_b_2
            have z_282 : n0 ≤ h_276.size := Nat.le_trans z_271 (Keep.of_wr W_276).1
            have K_283 : Keep h0 h_276 [] := K_272.wr W_276 (Or.inr sz_b_2)
            show OGo p e below _ (T_276.setTop (mkF m 100 #[.val (.int p1), .val (.int p2), .val (.int p3), .val (.int p4), .val (.int p5), .val (.int p6), .val (.ref b_2), .val (.int (3 : Int32))] []))
            refine OGo.to (fun _ k => XS.iinc X_276.here hx rfl (hb hby d2_100) rfl (l' := #[.val (.int p1), .val (.int p2), .val (.int p3), .val (.int p4), .val (.int p5), .val (.int p6), .val (.ref b_2), .val (.int (4 : Int32))]) rfl k) ?_
            show OGo p e below _ (T_276.setTop (mkF m 103 #[.val (.int p1), .val (.int p2), .val (.int p3), .val (.int p4), .val (.int p5), .val (.int p6), .val (.ref b_2), .val (.int (4 : Int32))] []))
            refine OGo.to (fun _ k => XS.aload X_276.here hx rfl (hb hby d2_103) rfl rfl k) ?_
            show OGo p e below _ (T_276.setTop (mkF m 105 #[.val (.int p1), .val (.int p2), .val (.int p3), .val (.int p4), .val (.int p5), .val (.int p6), .val (.ref b_2), .val (.int (4 : Int32))] [(.ref b_2)]))
            refine OGo.ret (Q := Q2 Z p1 p2 p3 p4 p5 p6 h0 n0) X_276 (some (.ref b_2)) (fun h => by rw [Bd.returns] at h; cases h) Bd.notSynchronized (fun fs hr => own_retA X_276 hx Bd.returns rfl rfl (hb hby d2_105) hr) ?_ (by decide) (by decide)
            have hidx : own_idx p1 = [1, 2, 3, 4] := by unfold own_idx; rw [if_neg hc17__6, if_pos hc35__247, if_pos hc53__255, if_pos hc71__264, if_pos hc90__274]; rfl
            have i_284 : ((own_bit p1 (0 : Int32))).toInt ≠ 1 := own_ine hc17__6
            have i_285 : ((own_bit p1 (1 : Int32))).toInt = 1 := own_ieq hc35__247
            have i_286 : ((own_bit p1 (2 : Int32))).toInt = 1 := own_ieq hc53__255
            have i_287 : ((own_bit p1 (3 : Int32))).toInt = 1 := own_ieq hc71__264
            have i_288 : ((own_bit p1 (4 : Int32))).toInt = 1 := own_ieq hc90__274
            have hsel : ([p3, p4, p5, p6] : List Int32) = (own_sel p1 p2 p3 p4 p5 p6) := by unfold own_sel; rw [hidx]; rfl
            have hcnt : own_count p1 = own_i (own_sel p1 p2 p3 p4 p5 p6).length := by rw [← hsel]; exact own_eqi (show (own_count p1).toInt = (4 : Int) by rw [own_countI p1]; omega)
            show Q2 Z p1 p2 p3 p4 p5 p6 h0 n0 _ T_276.heap _
            rw [e_276]
            exact ⟨b_2, k_2, rfl, N_276, K_283, g_b_2, sz_b_2, (own_conv (L := ([p3, p4, p5, p6] : List Int32)) (r := 1) V_276 hcnt hsel)⟩
          ·  -- pc 90: no
            refine OGo.to (fun _ k => XS.icmpYes X_273.here hx rfl (pc0 := 90) (pc' := 103) rfl (hb hby d2_90) rfl (feq hc90__274).2 (by decide) (by decide) k) ?_
            show OGo p e below _ (T_273.setTop (mkF m 103 #[.val (.int p1), .val (.int p2), .val (.int p3), .val (.int p4), .val (.int p5), .val (.int p6), .val (.ref b_2), .val (.int (3 : Int32))] []))
            refine OGo.to (fun _ k => XS.aload X_273.here hx rfl (hb hby d2_103) rfl rfl k) ?_
            show OGo p e below _ (T_273.setTop (mkF m 105 #[.val (.int p1), .val (.int p2), .val (.int p3), .val (.int p4), .val (.int p5), .val (.int p6), .val (.ref b_2), .val (.int (3 : Int32))] [(.ref b_2)]))
            refine OGo.ret (Q := Q2 Z p1 p2 p3 p4 p5 p6 h0 n0) X_273 (some (.ref b_2)) (fun h => by rw [Bd.returns] at h; cases h) Bd.notSynchronized (fun fs hr => own_retA X_273 hx Bd.returns rfl rfl (hb hby d2_105) hr) ?_ (by decide) (by decide)
            have hidx : own_idx p1 = [1, 2, 3] := by unfold own_idx; rw [if_neg hc17__6, if_pos hc35__247, if_pos hc53__255, if_pos hc71__264, if_neg hc90__274]; rfl
            have i_289 : ((own_bit p1 (0 : Int32))).toInt ≠ 1 := own_ine hc17__6
            have i_290 : ((own_bit p1 (1 : Int32))).toInt = 1 := own_ieq hc35__247
            have i_291 : ((own_bit p1 (2 : Int32))).toInt = 1 := own_ieq hc53__255
            have i_292 : ((own_bit p1 (3 : Int32))).toInt = 1 := own_ieq hc71__264
            have i_293 : ((own_bit p1 (4 : Int32))).toInt ≠ 1 := own_ine hc90__274
            have hsel : ([p3, p4, p5] : List Int32) = (own_sel p1 p2 p3 p4 p5 p6) := by unfold own_sel; rw [hidx]; rfl
            have hcnt : own_count p1 = own_i (own_sel p1 p2 p3 p4 p5 p6).length := by rw [← hsel]; exact own_eqi (show (own_count p1).toInt = (3 : Int) by rw [own_countI p1]; omega)
            show Q2 Z p1 p2 p3 p4 p5 p6 h0 n0 _ T_273.heap _
            rw [e_273]
            exact ⟨b_2, k_2, rfl, N_273, K_272, g_b_2, sz_b_2, (own_conv (L := ([p3, p4, p5] : List Int32)) (r := 2) V_266 hcnt hsel)⟩
        ·  -- pc 71: no
          refine OGo.to (fun _ k => XS.icmpYes X_263.here hx rfl (pc0 := 71) (pc' := 84) rfl (hb hby d2_71) rfl (feq hc71__264).2 (by decide) (by decide) k) ?_
          show OGo p e below _ (T_263.setTop (mkF m 84 #[.val (.int p1), .val (.int p2), .val (.int p3), .val (.int p4), .val (.int p5), .val (.int p6), .val (.ref b_2), .val (.int (2 : Int32))] []))
          refine OGo.to (fun _ k => XS.iloadN X_263.here hx rfl (hb hby d2_84) rfl k) ?_
          show OGo p e below _ (T_263.setTop (mkF m 85 #[.val (.int p1), .val (.int p2), .val (.int p3), .val (.int p4), .val (.int p5), .val (.int p6), .val (.ref b_2), .val (.int (2 : Int32))] [(.int p1)]))
          refine OGo.to (fun _ k => XS.iconst X_263.here hx rfl (hb hby d2_85) k) ?_
          show OGo p e below _ (T_263.setTop (mkF m 86 #[.val (.int p1), .val (.int p2), .val (.int p3), .val (.int p4), .val (.int p5), .val (.int p6), .val (.ref b_2), .val (.int (2 : Int32))] [(.int (4 : Int32)), (.int p1)]))
          obtain ⟨_, T_294, Lc_294, X_294, hQ_294, st_294⟩ := own_un X_263 (Q := Q4 Z p1 (4 : Int32) h_257 n0) (rc := 0) (rs := 0) (W := fun v B => ∀ target, Steps p.tables e below (B.setTop { (mkF m 86 #[.val (.int p1), .val (.int p2), .val (.int p3), .val (.int p4), .val (.int p5), .val (.int p6), .val (.ref b_2), .val (.int (2 : Int32))] [(.int (4 : Int32)), (.int p1)]) with pc := 89, stack := v.toList ++ [] }) target → Steps p.tables e below (T_263.setTop (mkF m 86 #[.val (.int p1), .val (.int p2), .val (.int p3), .val (.int p4), .val (.int p5), .val (.int p6), .val (.ref b_2), .val (.int (2 : Int32))] [(.int (4 : Int32)), (.int p1)])) target) <| Jvm.LawKit.callS X_263 hx (y := (⟨"com/example/cogram/cogram/index/PostingsEntriesPinLaw", "bit", "(II)I"⟩ : MethodName)) hown (mvT hZ (hw _ (List.mem_of_getElem? (i := 12) rfl))) (mvT hZ (hw _ (List.mem_of_getElem? (i := 13) rfl))) (mvT hZ (hw _ (List.mem_of_getElem? (i := 7) rfl))) (mvT hZ (hw _ (List.mem_of_getElem? (i := 14) rfl))) (by decide) (backOf (W := 0) (rm4 l Z a0 hw [] p1 (4 : Int32) h_257 n0 z_261 ) hZ (hw _ (List.mem_of_getElem? (i := 14) rfl)) (hw _ (List.mem_of_getElem? (i := 7) rfl)) (by decide) (by decide)) (g := (mkF m 86 #[.val (.int p1), .val (.int p2), .val (.int p3), .val (.int p4), .val (.int p5), .val (.int p6), .val (.ref b_2), .val (.int (2 : Int32))] [(.int (4 : Int32)), (.int p1)])) rfl (by rw [hml]; rfl) (argsL := [(.int p1), (.int (4 : Int32))]) (rest := []) (lenOf pd_0 rfl) rfl (by show 2 * 0 + _ ≤ _; exact Nat.le_of_eq rfl) (hb hby d2_86) (fun _ _ => ⟨rfl, e_263, (by decide : 1 + 0 ≤ _), (by decide : 5 + 0 ≤ _)⟩)
          obtain ⟨rfl, N_294q, e_294⟩ := hQ_294
          have N_294 := Fr.app N_263 N_294q
          refine OGo.to st_294 ?_
          show OGo p e below _ (T_294.setTop (mkF m 89 #[.val (.int p1), .val (.int p2), .val (.int p3), .val (.int p4), .val (.int p5), .val (.int p6), .val (.ref b_2), .val (.int (2 : Int32))] [(.int (own_bit p1 (4 : Int32)))]))
          refine OGo.to (fun _ k => XS.iconst X_294.here hx rfl (hb hby d2_89) k) ?_
          show OGo p e below _ (T_294.setTop (mkF m 90 #[.val (.int p1), .val (.int p2), .val (.int p3), .val (.int p4), .val (.int p5), .val (.int p6), .val (.ref b_2), .val (.int (2 : Int32))] [(.int (1 : Int32)), (.int (own_bit p1 (4 : Int32)))]))
          by_cases hc90__295 : (own_bit p1 (4 : Int32)) = (1 : Int32)
          ·  -- pc 90: yes
            refine OGo.to (fun _ k => XS.icmpNo X_294.here hx rfl (hb hby d2_90) rfl (teq hc90__295).2 k) ?_
            show OGo p e below _ (T_294.setTop (mkF m 93 #[.val (.int p1), .val (.int p2), .val (.int p3), .val (.int p4), .val (.int p5), .val (.int p6), .val (.ref b_2), .val (.int (2 : Int32))] []))
            refine OGo.to (fun _ k => XS.aload X_294.here hx rfl (hb hby d2_93) rfl rfl k) ?_
            show OGo p e below _ (T_294.setTop (mkF m 95 #[.val (.int p1), .val (.int p2), .val (.int p3), .val (.int p4), .val (.int p5), .val (.int p6), .val (.ref b_2), .val (.int (2 : Int32))] [(.ref b_2)]))
            refine OGo.to (fun _ k => XS.iload X_294.here hx rfl (hb hby d2_95) rfl k) ?_
            show OGo p e below _ (T_294.setTop (mkF m 97 #[.val (.int p1), .val (.int p2), .val (.int p3), .val (.int p4), .val (.int p5), .val (.int p6), .val (.ref b_2), .val (.int (2 : Int32))] [(.int (2 : Int32)), (.ref b_2)]))
            refine OGo.to (fun _ k => XS.iload X_294.here hx rfl (hb hby d2_97) rfl k) ?_
            show OGo p e below _ (T_294.setTop (mkF m 99 #[.val (.int p1), .val (.int p2), .val (.int p3), .val (.int p4), .val (.int p5), .val (.int p6), .val (.ref b_2), .val (.int (2 : Int32))] [(.int p6), (.int (2 : Int32)), (.ref b_2)]))
            have Vq_296 := V_257
            obtain ⟨cl_296, Ar_296, q_296, S_296, M_296, Hs_296, G_296⟩ := Vq_296
            have i_298 : ((own_bit p1 (0 : Int32))).toInt ≠ 1 := own_ine hc17__6
            have i_299 : ((own_bit p1 (1 : Int32))).toInt = 1 := own_ieq hc35__247
            have i_300 : ((own_bit p1 (2 : Int32))).toInt = 1 := own_ieq hc53__255
            have i_301 : ((own_bit p1 (3 : Int32))).toInt ≠ 1 := own_ine hc71__264
            have i_302 : ((own_bit p1 (4 : Int32))).toInt = 1 := own_ieq hc90__295
            have hin_297 : ¬ ((2 : Int32) < 0 ∨ cl_296.slots.size ≤ ((2 : Int32)).toNatClampNeg) := inb_of S_296 ⟨by decide, own_lti (show (2 : Int) < (own_count p1).toInt by rw [own_countI p1]; omega)⟩
            obtain ⟨T_297, h_297, X_297, e_297, W_297, st_297⟩ := stI X_294 hx hZ e_294 Ar_296 (j := (2 : Int32)) hin_297 (g := (mkF m 99 #[.val (.int p1), .val (.int p2), .val (.int p3), .val (.int p4), .val (.int p5), .val (.int p6), .val (.ref b_2), .val (.int (2 : Int32))] [(.int p6), (.int (2 : Int32)), (.ref b_2)])) rfl rfl (hb hby d2_99)
            refine OGo.to st_297 ?_
            have V_297 : Arv Z h_297 b_2 k_2 .int (own_count p1) [(.int p3), (.int p4), (.int p6), (.int (0 : Int32)), (.int (0 : Int32))] (.int (0 : Int32)) := Arv.set Ar_296 q_296 S_296 M_296 Hs_296 G_296 rfl W_297 2 rfl (Nat.le_of_ble_eq_true rfl)
            have N_297 := Fr.snoc X_297 N_294 g_b_2
            have z_303 : n0 ≤ h_297.size := Nat.le_trans z_261 (Keep.of_wr W_297).1
            have K_304 : Keep h0 h_297 [] := K_262.wr W_297 (Or.inr sz_b_2)
            show OGo p e below _ (T_297.setTop (mkF m 100 #[.val (.int p1), .val (.int p2), .val (.int p3), .val (.int p4), .val (.int p5), .val (.int p6), .val (.ref b_2), .val (.int (2 : Int32))] []))
            refine OGo.to (fun _ k => XS.iinc X_297.here hx rfl (hb hby d2_100) rfl (l' := #[.val (.int p1), .val (.int p2), .val (.int p3), .val (.int p4), .val (.int p5), .val (.int p6), .val (.ref b_2), .val (.int (3 : Int32))]) rfl k) ?_
            show OGo p e below _ (T_297.setTop (mkF m 103 #[.val (.int p1), .val (.int p2), .val (.int p3), .val (.int p4), .val (.int p5), .val (.int p6), .val (.ref b_2), .val (.int (3 : Int32))] []))
            refine OGo.to (fun _ k => XS.aload X_297.here hx rfl (hb hby d2_103) rfl rfl k) ?_
            show OGo p e below _ (T_297.setTop (mkF m 105 #[.val (.int p1), .val (.int p2), .val (.int p3), .val (.int p4), .val (.int p5), .val (.int p6), .val (.ref b_2), .val (.int (3 : Int32))] [(.ref b_2)]))
            refine OGo.ret (Q := Q2 Z p1 p2 p3 p4 p5 p6 h0 n0) X_297 (some (.ref b_2)) (fun h => by rw [Bd.returns] at h; cases h) Bd.notSynchronized (fun fs hr => own_retA X_297 hx Bd.returns rfl rfl (hb hby d2_105) hr) ?_ (by decide) (by decide)
            have hidx : own_idx p1 = [1, 2, 4] := by unfold own_idx; rw [if_neg hc17__6, if_pos hc35__247, if_pos hc53__255, if_neg hc71__264, if_pos hc90__295]; rfl
            have i_305 : ((own_bit p1 (0 : Int32))).toInt ≠ 1 := own_ine hc17__6
            have i_306 : ((own_bit p1 (1 : Int32))).toInt = 1 := own_ieq hc35__247
            have i_307 : ((own_bit p1 (2 : Int32))).toInt = 1 := own_ieq hc53__255
            have i_308 : ((own_bit p1 (3 : Int32))).toInt ≠ 1 := own_ine hc71__264
            have i_309 : ((own_bit p1 (4 : Int32))).toInt = 1 := own_ieq hc90__295
            have hsel : ([p3, p4, p6] : List Int32) = (own_sel p1 p2 p3 p4 p5 p6) := by unfold own_sel; rw [hidx]; rfl
            have hcnt : own_count p1 = own_i (own_sel p1 p2 p3 p4 p5 p6).length := by rw [← hsel]; exact own_eqi (show (own_count p1).toInt = (3 : Int) by rw [own_countI p1]; omega)
            show Q2 Z p1 p2 p3 p4 p5 p6 h0 n0 _ T_297.heap _
            rw [e_297]
            exact ⟨b_2, k_2, rfl, N_297, K_304, g_b_2, sz_b_2, (own_conv (L := ([p3, p4, p6] : List Int32)) (r := 2) V_297 hcnt hsel)⟩
          ·  -- pc 90: no
            refine OGo.to (fun _ k => XS.icmpYes X_294.here hx rfl (pc0 := 90) (pc' := 103) rfl (hb hby d2_90) rfl (feq hc90__295).2 (by decide) (by decide) k) ?_
            show OGo p e below _ (T_294.setTop (mkF m 103 #[.val (.int p1), .val (.int p2), .val (.int p3), .val (.int p4), .val (.int p5), .val (.int p6), .val (.ref b_2), .val (.int (2 : Int32))] []))
            refine OGo.to (fun _ k => XS.aload X_294.here hx rfl (hb hby d2_103) rfl rfl k) ?_
            show OGo p e below _ (T_294.setTop (mkF m 105 #[.val (.int p1), .val (.int p2), .val (.int p3), .val (.int p4), .val (.int p5), .val (.int p6), .val (.ref b_2), .val (.int (2 : Int32))] [(.ref b_2)]))
            refine OGo.ret (Q := Q2 Z p1 p2 p3 p4 p5 p6 h0 n0) X_294 (some (.ref b_2)) (fun h => by rw [Bd.returns] at h; cases h) Bd.notSynchronized (fun fs hr => own_retA X_294 hx Bd.returns rfl rfl (hb hby d2_105) hr) ?_ (by decide) (by decide)
            have hidx : own_idx p1 = [1, 2] := by unfold own_idx; rw [if_neg hc17__6, if_pos hc35__247, if_pos hc53__255, if_neg hc71__264, if_neg hc90__295]; rfl
            have i_310 : ((own_bit p1 (0 : Int32))).toInt ≠ 1 := own_ine hc17__6
            have i_311 : ((own_bit p1 (1 : Int32))).toInt = 1 := own_ieq hc35__247
            have i_312 : ((own_bit p1 (2 : Int32))).toInt = 1 := own_ieq hc53__255
            have i_313 : ((own_bit p1 (3 : Int32))).toInt ≠ 1 := own_ine hc71__264
            have i_314 : ((own_bit p1 (4 : Int32))).toInt ≠ 1 := own_ine hc90__295
            have hsel : ([p3, p4] : List Int32) = (own_sel p1 p2 p3 p4 p5 p6) := by unfold own_sel; rw [hidx]; rfl
            have hcnt : own_count p1 = own_i (own_sel p1 p2 p3 p4 p5 p6).length := by rw [← hsel]; exact own_eqi (show (own_count p1).toInt = (2 : Int) by rw [own_countI p1]; omega)
            show Q2 Z p1 p2 p3 p4 p5 p6 h0 n0 _ T_294.heap _
            rw [e_294]
            exact ⟨b_2, k_2, rfl, N_294, K_262, g_b_2, sz_b_2, (own_conv (L := ([p3, p4] : List Int32)) (r := 3) V_257 hcnt hsel)⟩
      ·  -- pc 53: no
        refine OGo.to (fun _ k => XS.icmpYes X_254.here hx rfl (pc0 := 53) (pc' := 65) rfl (hb hby d2_53) rfl (feq hc53__255).2 (by decide) (by decide) k) ?_
        show OGo p e below _ (T_254.setTop (mkF m 65 #[.val (.int p1), .val (.int p2), .val (.int p3), .val (.int p4), .val (.int p5), .val (.int p6), .val (.ref b_2), .val (.int (1 : Int32))] []))
        refine OGo.to (fun _ k => XS.iloadN X_254.here hx rfl (hb hby d2_65) rfl k) ?_
        show OGo p e below _ (T_254.setTop (mkF m 66 #[.val (.int p1), .val (.int p2), .val (.int p3), .val (.int p4), .val (.int p5), .val (.int p6), .val (.ref b_2), .val (.int (1 : Int32))] [(.int p1)]))
        refine OGo.to (fun _ k => XS.iconst X_254.here hx rfl (hb hby d2_66) k) ?_
        show OGo p e below _ (T_254.setTop (mkF m 67 #[.val (.int p1), .val (.int p2), .val (.int p3), .val (.int p4), .val (.int p5), .val (.int p6), .val (.ref b_2), .val (.int (1 : Int32))] [(.int (3 : Int32)), (.int p1)]))
        obtain ⟨_, T_315, Lc_315, X_315, hQ_315, st_315⟩ := own_un X_254 (Q := Q4 Z p1 (3 : Int32) h_249 n0) (rc := 0) (rs := 0) (W := fun v B => ∀ target, Steps p.tables e below (B.setTop { (mkF m 67 #[.val (.int p1), .val (.int p2), .val (.int p3), .val (.int p4), .val (.int p5), .val (.int p6), .val (.ref b_2), .val (.int (1 : Int32))] [(.int (3 : Int32)), (.int p1)]) with pc := 70, stack := v.toList ++ [] }) target → Steps p.tables e below (T_254.setTop (mkF m 67 #[.val (.int p1), .val (.int p2), .val (.int p3), .val (.int p4), .val (.int p5), .val (.int p6), .val (.ref b_2), .val (.int (1 : Int32))] [(.int (3 : Int32)), (.int p1)])) target) <| Jvm.LawKit.callS X_254 hx (y := (⟨"com/example/cogram/cogram/index/PostingsEntriesPinLaw", "bit", "(II)I"⟩ : MethodName)) hown (mvT hZ (hw _ (List.mem_of_getElem? (i := 12) rfl))) (mvT hZ (hw _ (List.mem_of_getElem? (i := 13) rfl))) (mvT hZ (hw _ (List.mem_of_getElem? (i := 7) rfl))) (mvT hZ (hw _ (List.mem_of_getElem? (i := 14) rfl))) (by decide) (backOf (W := 0) (rm4 l Z a0 hw [] p1 (3 : Int32) h_249 n0 z_252 ) hZ (hw _ (List.mem_of_getElem? (i := 14) rfl)) (hw _ (List.mem_of_getElem? (i := 7) rfl)) (by decide) (by decide)) (g := (mkF m 67 #[.val (.int p1), .val (.int p2), .val (.int p3), .val (.int p4), .val (.int p5), .val (.int p6), .val (.ref b_2), .val (.int (1 : Int32))] [(.int (3 : Int32)), (.int p1)])) rfl (by rw [hml]; rfl) (argsL := [(.int p1), (.int (3 : Int32))]) (rest := []) (lenOf pd_0 rfl) rfl (by show 2 * 0 + _ ≤ _; exact Nat.le_of_eq rfl) (hb hby d2_67) (fun _ _ => ⟨rfl, e_254, (by decide : 1 + 0 ≤ _), (by decide : 5 + 0 ≤ _)⟩)
        obtain ⟨rfl, N_315q, e_315⟩ := hQ_315
        have N_315 := Fr.app N_254 N_315q
        refine OGo.to st_315 ?_
        show OGo p e below _ (T_315.setTop (mkF m 70 #[.val (.int p1), .val (.int p2), .val (.int p3), .val (.int p4), .val (.int p5), .val (.int p6), .val (.ref b_2), .val (.int (1 : Int32))] [(.int (own_bit p1 (3 : Int32)))]))
        refine OGo.to (fun _ k => XS.iconst X_315.here hx rfl (hb hby d2_70) k) ?_
        show OGo p e below _ (T_315.setTop (mkF m 71 #[.val (.int p1), .val (.int p2), .val (.int p3), .val (.int p4), .val (.int p5), .val (.int p6), .val (.ref b_2), .val (.int (1 : Int32))] [(.int (1 : Int32)), (.int (own_bit p1 (3 : Int32)))]))
        by_cases hc71__316 : (own_bit p1 (3 : Int32)) = (1 : Int32)
        ·  -- pc 71: yes
          refine OGo.to (fun _ k => XS.icmpNo X_315.here hx rfl (hb hby d2_71) rfl (teq hc71__316).2 k) ?_
          show OGo p e below _ (T_315.setTop (mkF m 74 #[.val (.int p1), .val (.int p2), .val (.int p3), .val (.int p4), .val (.int p5), .val (.int p6), .val (.ref b_2), .val (.int (1 : Int32))] []))
          refine OGo.to (fun _ k => XS.aload X_315.here hx rfl (hb hby d2_74) rfl rfl k) ?_
          show OGo p e below _ (T_315.setTop (mkF m 76 #[.val (.int p1), .val (.int p2), .val (.int p3), .val (.int p4), .val (.int p5), .val (.int p6), .val (.ref b_2), .val (.int (1 : Int32))] [(.ref b_2)]))
          refine OGo.to (fun _ k => XS.iload X_315.here hx rfl (hb hby d2_76) rfl k) ?_
          show OGo p e below _ (T_315.setTop (mkF m 78 #[.val (.int p1), .val (.int p2), .val (.int p3), .val (.int p4), .val (.int p5), .val (.int p6), .val (.ref b_2), .val (.int (1 : Int32))] [(.int (1 : Int32)), (.ref b_2)]))
          refine OGo.to (fun _ k => XS.iload X_315.here hx rfl (hb hby d2_78) rfl k) ?_
          show OGo p e below _ (T_315.setTop (mkF m 80 #[.val (.int p1), .val (.int p2), .val (.int p3), .val (.int p4), .val (.int p5), .val (.int p6), .val (.ref b_2), .val (.int (1 : Int32))] [(.int p5), (.int (1 : Int32)), (.ref b_2)]))
          have Vq_317 := V_249
          obtain ⟨cl_317, Ar_317, q_317, S_317, M_317, Hs_317, G_317⟩ := Vq_317
          have i_319 : ((own_bit p1 (0 : Int32))).toInt ≠ 1 := own_ine hc17__6
          have i_320 : ((own_bit p1 (1 : Int32))).toInt = 1 := own_ieq hc35__247
          have i_321 : ((own_bit p1 (2 : Int32))).toInt ≠ 1 := own_ine hc53__255
          have i_322 : ((own_bit p1 (3 : Int32))).toInt = 1 := own_ieq hc71__316
          have hin_318 : ¬ ((1 : Int32) < 0 ∨ cl_317.slots.size ≤ ((1 : Int32)).toNatClampNeg) := inb_of S_317 ⟨by decide, own_lti (show (1 : Int) < (own_count p1).toInt by rw [own_countI p1]; omega)⟩
          obtain ⟨T_318, h_318, X_318, e_318, W_318, st_318⟩ := stI X_315 hx hZ e_315 Ar_317 (j := (1 : Int32)) hin_318 (g := (mkF m 80 #[.val (.int p1), .val (.int p2), .val (.int p3), .val (.int p4), .val (.int p5), .val (.int p6), .val (.ref b_2), .val (.int (1 : Int32))] [(.int p5), (.int (1 : Int32)), (.ref b_2)])) rfl rfl (hb hby d2_80)
          refine OGo.to st_318 ?_
          have V_318 : Arv Z h_318 b_2 k_2 .int (own_count p1) [(.int p3), (.int p5), (.int (0 : Int32)), (.int (0 : Int32)), (.int (0 : Int32))] (.int (0 : Int32)) := Arv.set Ar_317 q_317 S_317 M_317 Hs_317 G_317 rfl W_318 1 rfl (Nat.le_of_ble_eq_true rfl)
          have N_318 := Fr.snoc X_318 N_315 g_b_2
          have z_323 : n0 ≤ h_318.size := Nat.le_trans z_252 (Keep.of_wr W_318).1
          have K_324 : Keep h0 h_318 [] := K_253.wr W_318 (Or.inr sz_b_2)
          show OGo p e below _ (T_318.setTop (mkF m 81 #[.val (.int p1), .val (.int p2), .val (.int p3), .val (.int p4), .val (.int p5), .val (.int p6), .val (.ref b_2), .val (.int (1 : Int32))] []))
          refine OGo.to (fun _ k => XS.iinc X_318.here hx rfl (hb hby d2_81) rfl (l' := #[.val (.int p1), .val (.int p2), .val (.int p3), .val (.int p4), .val (.int p5), .val (.int p6), .val (.ref b_2), .val (.int (2 : Int32))]) rfl k) ?_
          show OGo p e below _ (T_318.setTop (mkF m 84 #[.val (.int p1), .val (.int p2), .val (.int p3), .val (.int p4), .val (.int p5), .val (.int p6), .val (.ref b_2), .val (.int (2 : Int32))] []))
          refine OGo.to (fun _ k => XS.iloadN X_318.here hx rfl (hb hby d2_84) rfl k) ?_
          show OGo p e below _ (T_318.setTop (mkF m 85 #[.val (.int p1), .val (.int p2), .val (.int p3), .val (.int p4), .val (.int p5), .val (.int p6), .val (.ref b_2), .val (.int (2 : Int32))] [(.int p1)]))
          refine OGo.to (fun _ k => XS.iconst X_318.here hx rfl (hb hby d2_85) k) ?_
          show OGo p e below _ (T_318.setTop (mkF m 86 #[.val (.int p1), .val (.int p2), .val (.int p3), .val (.int p4), .val (.int p5), .val (.int p6), .val (.ref b_2), .val (.int (2 : Int32))] [(.int (4 : Int32)), (.int p1)]))
          obtain ⟨_, T_325, Lc_325, X_325, hQ_325, st_325⟩ := own_un X_318 (Q := Q4 Z p1 (4 : Int32) h_318 n0) (rc := 0) (rs := 0) (W := fun v B => ∀ target, Steps p.tables e below (B.setTop { (mkF m 86 #[.val (.int p1), .val (.int p2), .val (.int p3), .val (.int p4), .val (.int p5), .val (.int p6), .val (.ref b_2), .val (.int (2 : Int32))] [(.int (4 : Int32)), (.int p1)]) with pc := 89, stack := v.toList ++ [] }) target → Steps p.tables e below (T_318.setTop (mkF m 86 #[.val (.int p1), .val (.int p2), .val (.int p3), .val (.int p4), .val (.int p5), .val (.int p6), .val (.ref b_2), .val (.int (2 : Int32))] [(.int (4 : Int32)), (.int p1)])) target) <| Jvm.LawKit.callS X_318 hx (y := (⟨"com/example/cogram/cogram/index/PostingsEntriesPinLaw", "bit", "(II)I"⟩ : MethodName)) hown (mvT hZ (hw _ (List.mem_of_getElem? (i := 12) rfl))) (mvT hZ (hw _ (List.mem_of_getElem? (i := 13) rfl))) (mvT hZ (hw _ (List.mem_of_getElem? (i := 7) rfl))) (mvT hZ (hw _ (List.mem_of_getElem? (i := 14) rfl))) (by decide) (backOf (W := 0) (rm4 l Z a0 hw [] p1 (4 : Int32) h_318 n0 z_323 ) hZ (hw _ (List.mem_of_getElem? (i := 14) rfl)) (hw _ (List.mem_of_getElem? (i := 7) rfl)) (by decide) (by decide)) (g := (mkF m 86 #[.val (.int p1), .val (.int p2), .val (.int p3), .val (.int p4), .val (.int p5), .val (.int p6), .val (.ref b_2), .val (.int (2 : Int32))] [(.int (4 : Int32)), (.int p1)])) rfl (by rw [hml]; rfl) (argsL := [(.int p1), (.int (4 : Int32))]) (rest := []) (lenOf pd_0 rfl) rfl (by show 2 * 0 + _ ≤ _; exact Nat.le_of_eq rfl) (hb hby d2_86) (fun _ _ => ⟨rfl, e_318, (by decide : 1 + 0 ≤ _), (by decide : 5 + 0 ≤ _)⟩)
          obtain ⟨rfl, N_325q, e_325⟩ := hQ_325
          have N_325 := Fr.app N_318 N_325q
          refine OGo.to st_325 ?_
          show OGo p e below _ (T_325.setTop (mkF m 89 #[.val (.int p1), .val (.int p2), .val (.int p3), .val (.int p4), .val (.int p5), .val (.int p6), .val (.ref b_2), .val (.int (2 : Int32))] [(.int (own_bit p1 (4 : Int32)))]))
          refine OGo.to (fun _ k => XS.iconst X_325.here hx rfl (hb hby d2_89) k) ?_
          show OGo p e below _ (T_325.setTop (mkF m 90 #[.val (.int p1), .val (.int p2), .val (.int p3), .val (.int p4), .val (.int p5), .val (.int p6), .val (.ref b_2), .val (.int (2 : Int32))] [(.int (1 : Int32)), (.int (own_bit p1 (4 : Int32)))]))
          by_cases hc90__326 : (own_bit p1 (4 : Int32)) = (1 : Int32)
          ·  -- pc 90: yes
            refine OGo.to (fun _ k => XS.icmpNo X_325.here hx rfl (hb hby d2_90) rfl (teq hc90__326).2 k) ?_
            show OGo p e below _ (T_325.setTop (mkF m 93 #[.val (.int p1), .val (.int p2), .val (.int p3), .val (.int p4), .val (.int p5), .val (.int p6), .val (.ref b_2), .val (.int (2 : Int32))] []))
            refine OGo.to (fun _ k => XS.aload X_325.here hx rfl (hb hby d2_93) rfl rfl k) ?_
            show OGo p e below _ (T_325.setTop (mkF m 95 #[.val (.int p1), .val (.int p2), .val (.int p3), .val (.int p4), .val (.int p5), .val (.int p6), .val (.ref b_2), .val (.int (2 : Int32))] [(.ref b_2)]))
            refine OGo.to (fun _ k => XS.iload X_325.here hx rfl (hb hby d2_95) rfl k) ?_
            show OGo p e below _ (T_325.setTop (mkF m 97 #[.val (.int p1), .val (.int p2), .val (.int p3), .val (.int p4), .val (.int p5), .val (.int p6), .val (.ref b_2), .val (.int (2 : Int32))] [(.int (2 : Int32)), (.ref b_2)]))
            refine OGo.to (fun _ k => XS.iload X_325.here hx rfl (hb hby d2_97) rfl k) ?_
            show OGo p e below _ (T_325.setTop (mkF m 99 #[.val (.int p1), .val (.int p2), .val (.int p3), .val (.int p4), .val (.int p5), .val (.int p6), .val (.ref b_2), .val (.int (2 : Int32))] [(.int p6), (.int (2 : Int32)), (.ref b_2)]))
            have Vq_327 := V_318
            obtain ⟨cl_327, Ar_327, q_327, S_327, M_327, Hs_327, G_327⟩ := Vq_327
            have i_329 : ((own_bit p1 (0 : Int32))).toInt ≠ 1 := own_ine hc17__6
            have i_330 : ((own_bit p1 (1 : Int32))).toInt = 1 := own_ieq hc35__247
            have i_331 : ((own_bit p1 (2 : Int32))).toInt ≠ 1 := own_ine hc53__255
            have i_332 : ((own_bit p1 (3 : Int32))).toInt = 1 := own_ieq hc71__316
            have i_333 : ((own_bit p1 (4 : Int32))).toInt = 1 := own_ieq hc90__326
            have hin_328 : ¬ ((2 : Int32) < 0 ∨ cl_327.slots.size ≤ ((2 : Int32)).toNatClampNeg) := inb_of S_327 ⟨by decide, own_lti (show (2 : Int) < (own_count p1).toInt by rw [own_countI p1]; omega)⟩
            obtain ⟨T_328, h_328, X_328, e_328, W_328, st_328⟩ := stI X_325 hx hZ e_325 Ar_327 (j := (2 : Int32)) hin_328 (g := (mkF m 99 #[.val (.int p1), .val (.int p2), .val (.int p3), .val (.int p4), .val (.int p5), .val (.int p6), .val (.ref b_2), .val (.int (2 : Int32))] [(.int p6), (.int (2 : Int32)), (.ref b_2)])) rfl rfl (hb hby d2_99)
            refine OGo.to st_328 ?_
            have V_328 : Arv Z h_328 b_2 k_2 .int (own_count p1) [(.int p3), (.int p5), (.int p6), (.int (0 : Int32)), (.int (0 : Int32))] (.int (0 : Int32)) := Arv.set Ar_327 q_327 S_327 M_327 Hs_327 G_327 rfl W_328 2 rfl (Nat.le_of_ble_eq_true rfl)
            have N_328 := Fr.snoc X_328 N_325 g_b_2
            have z_334 : n0 ≤ h_328.size := Nat.le_trans z_323 (Keep.of_wr W_328).1
            have K_335 : Keep h0 h_328 [] := K_324.wr W_328 (Or.inr sz_b_2)
            show OGo p e below _ (T_328.setTop (mkF m 100 #[.val (.int p1), .val (.int p2), .val (.int p3), .val (.int p4), .val (.int p5), .val (.int p6), .val (.ref b_2), .val (.int (2 : Int32))] []))
            refine OGo.to (fun _ k => XS.iinc X_328.here hx rfl (hb hby d2_100) rfl (l' := #[.val (.int p1), .val (.int p2), .val (.int p3), .val (.int p4), .val (.int p5), .val (.int p6), .val (.ref b_2), .val (.int (3 : Int32))]) rfl k) ?_
            show OGo p e below _ (T_328.setTop (mkF m 103 #[.val (.int p1), .val (.int p2), .val (.int p3), .val (.int p4), .val (.int p5), .val (.int p6), .val (.ref b_2), .val (.int (3 : Int32))] []))
            refine OGo.to (fun _ k => XS.aload X_328.here hx rfl (hb hby d2_103) rfl rfl k) ?_
            show OGo p e below _ (T_328.setTop (mkF m 105 #[.val (.int p1), .val (.int p2), .val (.int p3), .val (.int p4), .val (.int p5), .val (.int p6), .val (.ref b_2), .val (.int (3 : Int32))] [(.ref b_2)]))
            refine OGo.ret (Q := Q2 Z p1 p2 p3 p4 p5 p6 h0 n0) X_328 (some (.ref b_2)) (fun h => by rw [Bd.returns] at h; cases h) Bd.notSynchronized (fun fs hr => own_retA X_328 hx Bd.returns rfl rfl (hb hby d2_105) hr) ?_ (by decide) (by decide)
            have hidx : own_idx p1 = [1, 3, 4] := by unfold own_idx; rw [if_neg hc17__6, if_pos hc35__247, if_neg hc53__255, if_pos hc71__316, if_pos hc90__326]; rfl
            have i_336 : ((own_bit p1 (0 : Int32))).toInt ≠ 1 := own_ine hc17__6
            have i_337 : ((own_bit p1 (1 : Int32))).toInt = 1 := own_ieq hc35__247
            have i_338 : ((own_bit p1 (2 : Int32))).toInt ≠ 1 := own_ine hc53__255
            have i_339 : ((own_bit p1 (3 : Int32))).toInt = 1 := own_ieq hc71__316
            have i_340 : ((own_bit p1 (4 : Int32))).toInt = 1 := own_ieq hc90__326
            have hsel : ([p3, p5, p6] : List Int32) = (own_sel p1 p2 p3 p4 p5 p6) := by unfold own_sel; rw [hidx]; rfl
            have hcnt : own_count p1 = own_i (own_sel p1 p2 p3 p4 p5 p6).length := by rw [← hsel]; exact own_eqi (show (own_count p1).toInt = (3 : Int) by rw [own_countI p1]; omega)
            show Q2 Z p1 p2 p3 p4 p5 p6 h0 n0 _ T_328.heap _
            rw [e_328]
            exact ⟨b_2, k_2, rfl, N_328, K_335, g_b_2, sz_b_2, (own_conv (L := ([p3, p5, p6] : List Int32)) (r := 2) V_328 hcnt hsel)⟩
          ·  -- pc 90: no
            refine OGo.to (fun _ k => XS.icmpYes X_325.here hx rfl (pc0 := 90) (pc' := 103) rfl (hb hby d2_90) rfl (feq hc90__326).2 (by decide) (by decide) k) ?_
            show OGo p e below _ (T_325.setTop (mkF m 103 #[.val (.int p1), .val (.int p2), .val (.int p3), .val (.int p4), .val (.int p5), .val (.int p6), .val (.ref b_2), .val (.int (2 : Int32))] []))
            refine OGo.to (fun _ k => XS.aload X_325.here hx rfl (hb hby d2_103) rfl rfl k) ?_
            show OGo p e below _ (T_325.setTop (mkF m 105 #[.val (.int p1), .val (.int p2), .val (.int p3), .val (.int p4), .val (.int p5), .val (.int p6), .val (.ref b_2), .val (.int (2 : Int32))] [(.ref b_2)]))
            refine OGo.ret (Q := Q2 Z p1 p2 p3 p4 p5 p6 h0 n0) X_325 (some (.ref b_2)) (fun h => by rw [Bd.returns] at h; cases h) Bd.notSynchronized (fun fs hr => own_retA X_325 hx Bd.returns rfl rfl (hb hby d2_105) hr) ?_ (by decide) (by decide)
            have hidx : own_idx p1 = [1, 3] := by unfold own_idx; rw [if_neg hc17__6, if_pos hc35__247, if_neg hc53__255, if_pos hc71__316, if_neg hc90__326]; rfl
            have i_341 : ((own_bit p1 (0 : Int32))).toInt ≠ 1 := own_ine hc17__6
            have i_342 : ((own_bit p1 (1 : Int32))).toInt = 1 := own_ieq hc35__247
            have i_343 : ((own_bit p1 (2 : Int32))).toInt ≠ 1 := own_ine hc53__255
            have i_344 : ((own_bit p1 (3 : Int32))).toInt = 1 := own_ieq hc71__316
            have i_345 : ((own_bit p1 (4 : Int32))).toInt ≠ 1 := own_ine hc90__326
            have hsel : ([p3, p5] : List Int32) = (own_sel p1 p2 p3 p4 p5 p6) := by unfold own_sel; rw [hidx]; rfl
            have hcnt : own_count p1 = own_i (own_sel p1 p2 p3 p4 p5 p6).length := by rw [← hsel]; exact own_eqi (show (own_count p1).toInt = (2 : Int) by rw [own_countI p1]; omega)
            show Q2 Z p1 p2 p3 p4 p5 p6 h0 n0 _ T_325.heap _
            rw [e_325]
            exact ⟨b_2, k_2, rfl, N_325, K_324, g_b_2, sz_b_2, (own_conv (L := ([p3, p5] : List Int32)) (r := 3) V_318 hcnt hsel)⟩
        ·  -- pc 71: no
          refine OGo.to (fun _ k => XS.icmpYes X_315.here hx rfl (pc0 := 71) (pc' := 84) rfl (hb hby d2_71) rfl (feq hc71__316).2 (by decide) (by decide) k) ?_
          show OGo p e below _ (T_315.setTop (mkF m 84 #[.val (.int p1), .val (.int p2), .val (.int p3), .val (.int p4), .val (.int p5), .val (.int p6), .val (.ref b_2), .val (.int (1 : Int32))] []))
          refine OGo.to (fun _ k => XS.iloadN X_315.here hx rfl (hb hby d2_84) rfl k) ?_
          show OGo p e below _ (T_315.setTop (mkF m 85 #[.val (.int p1), .val (.int p2), .val (.int p3), .val (.int p4), .val (.int p5), .val (.int p6), .val (.ref b_2), .val (.int (1 : Int32))] [(.int p1)]))
          refine OGo.to (fun _ k => XS.iconst X_315.here hx rfl (hb hby d2_85) k) ?_
          show OGo p e below _ (T_315.setTop (mkF m 86 #[.val (.int p1), .val (.int p2), .val (.int p3), .val (.int p4), .val (.int p5), .val (.int p6), .val (.ref b_2), .val (.int (1 : Int32))] [(.int (4 : Int32)), (.int p1)]))
          obtain ⟨_, T_346, Lc_346, X_346, hQ_346, st_346⟩ := own_un X_315 (Q := Q4 Z p1 (4 : Int32) h_249 n0) (rc := 0) (rs := 0) (W := fun v B => ∀ target, Steps p.tables e below (B.setTop { (mkF m 86 #[.val (.int p1), .val (.int p2), .val (.int p3), .val (.int p4), .val (.int p5), .val (.int p6), .val (.ref b_2), .val (.int (1 : Int32))] [(.int (4 : Int32)), (.int p1)]) with pc := 89, stack := v.toList ++ [] }) target → Steps p.tables e below (T_315.setTop (mkF m 86 #[.val (.int p1), .val (.int p2), .val (.int p3), .val (.int p4), .val (.int p5), .val (.int p6), .val (.ref b_2), .val (.int (1 : Int32))] [(.int (4 : Int32)), (.int p1)])) target) <| Jvm.LawKit.callS X_315 hx (y := (⟨"com/example/cogram/cogram/index/PostingsEntriesPinLaw", "bit", "(II)I"⟩ : MethodName)) hown (mvT hZ (hw _ (List.mem_of_getElem? (i := 12) rfl))) (mvT hZ (hw _ (List.mem_of_getElem? (i := 13) rfl))) (mvT hZ (hw _ (List.mem_of_getElem? (i := 7) rfl))) (mvT hZ (hw _ (List.mem_of_getElem? (i := 14) rfl))) (by decide) (backOf (W := 0) (rm4 l Z a0 hw [] p1 (4 : Int32) h_249 n0 z_252 ) hZ (hw _ (List.mem_of_getElem? (i := 14) rfl)) (hw _ (List.mem_of_getElem? (i := 7) rfl)) (by decide) (by decide)) (g := (mkF m 86 #[.val (.int p1), .val (.int p2), .val (.int p3), .val (.int p4), .val (.int p5), .val (.int p6), .val (.ref b_2), .val (.int (1 : Int32))] [(.int (4 : Int32)), (.int p1)])) rfl (by rw [hml]; rfl) (argsL := [(.int p1), (.int (4 : Int32))]) (rest := []) (lenOf pd_0 rfl) rfl (by show 2 * 0 + _ ≤ _; exact Nat.le_of_eq rfl) (hb hby d2_86) (fun _ _ => ⟨rfl, e_315, (by decide : 1 + 0 ≤ _), (by decide : 5 + 0 ≤ _)⟩)
          obtain ⟨rfl, N_346q, e_346⟩ := hQ_346
          have N_346 := Fr.app N_315 N_346q
          refine OGo.to st_346 ?_
          show OGo p e below _ (T_346.setTop (mkF m 89 #[.val (.int p1), .val (.int p2), .val (.int p3), .val (.int p4), .val (.int p5), .val (.int p6), .val (.ref b_2), .val (.int (1 : Int32))] [(.int (own_bit p1 (4 : Int32)))]))
          refine OGo.to (fun _ k => XS.iconst X_346.here hx rfl (hb hby d2_89) k) ?_
          show OGo p e below _ (T_346.setTop (mkF m 90 #[.val (.int p1), .val (.int p2), .val (.int p3), .val (.int p4), .val (.int p5), .val (.int p6), .val (.ref b_2), .val (.int (1 : Int32))] [(.int (1 : Int32)), (.int (own_bit p1 (4 : Int32)))]))
          by_cases hc90__347 : (own_bit p1 (4 : Int32)) = (1 : Int32)
          ·  -- pc 90: yes
            refine OGo.to (fun _ k => XS.icmpNo X_346.here hx rfl (hb hby d2_90) rfl (teq hc90__347).2 k) ?_
            show OGo p e below _ (T_346.setTop (mkF m 93 #[.val (.int p1), .val (.int p2), .val (.int p3), .val (.int p4), .val (.int p5), .val (.int p6), .val (.ref b_2), .val (.int (1 : Int32))] []))
            refine OGo.to (fun _ k => XS.aload X_346.here hx rfl (hb hby d2_93) rfl rfl k) ?_
            show OGo p e below _ (T_346.setTop (mkF m 95 #[.val (.int p1), .val (.int p2), .val (.int p3), .val (.int p4), .val (.int p5), .val (.int p6), .val (.ref b_2), .val (.int (1 : Int32))] [(.ref b_2)]))
            refine OGo.to (fun _ k => XS.iload X_346.here hx rfl (hb hby d2_95) rfl k) ?_
            show OGo p e below _ (T_346.setTop (mkF m 97 #[.val (.int p1), .val (.int p2), .val (.int p3), .val (.int p4), .val (.int p5), .val (.int p6), .val (.ref b_2), .val (.int (1 : Int32))] [(.int (1 : Int32)), (.ref b_2)]))
            refine OGo.to (fun _ k => XS.iload X_346.here hx rfl (hb hby d2_97) rfl k) ?_
            show OGo p e below _ (T_346.setTop (mkF m 99 #[.val (.int p1), .val (.int p2), .val (.int p3), .val (.int p4), .val (.int p5), .val (.int p6), .val (.ref b_2), .val (.int (1 : Int32))] [(.int p6), (.int (1 : Int32)), (.ref b_2)]))
            have Vq_348 := V_249
            obtain ⟨cl_348, Ar_348, q_348, S_348, M_348, Hs_348, G_348⟩ := Vq_348
            have i_350 : ((own_bit p1 (0 : Int32))).toInt ≠ 1 := own_ine hc17__6
            have i_351 : ((own_bit p1 (1 : Int32))).toInt = 1 := own_ieq hc35__247
            have i_352 : ((own_bit p1 (2 : Int32))).toInt ≠ 1 := own_ine hc53__255
            have i_353 : ((own_bit p1 (3 : Int32))).toInt ≠ 1 := own_ine hc71__316
            have i_354 : ((own_bit p1 (4 : Int32))).toInt = 1 := own_ieq hc90__347
            have hin_349 : ¬ ((1 : Int32) < 0 ∨ cl_348.slots.size ≤ ((1 : Int32)).toNatClampNeg) := inb_of S_348 ⟨by decide, own_lti (show (1 : Int) < (own_count p1).toInt by rw [own_countI p1]; omega)⟩
            obtain ⟨T_349, h_349, X_349, e_349, W_349, st_349⟩ := stI X_346 hx hZ e_346 Ar_348 (j := (1 : Int32)) hin_349 (g := (mkF m 99 #[.val (.int p1), .val (.int p2), .val (.int p3), .val (.int p4), .val (.int p5), .val (.int p6), .val (.ref b_2), .val (.int (1 : Int32))] [(.int p6), (.int (1 : Int32)), (.ref b_2)])) rfl rfl (hb hby d2_99)
            refine OGo.to st_349 ?_
            have V_349 : Arv Z h_349 b_2 k_2 .int (own_count p1) [(.int p3), (.int p6), (.int (0 : Int32)), (.int (0 : Int32)), (.int (0 : Int32))] (.int (0 : Int32)) := Arv.set Ar_348 q_348 S_348 M_348 Hs_348 G_348 rfl W_349 1 rfl (Nat.le_of_ble_eq_true rfl)
            have N_349 := Fr.snoc X_349 N_346 g_b_2
            have z_355 : n0 ≤ h_349.size := Nat.le_trans z_252 (Keep.of_wr W_349).1
            have K_356 : Keep h0 h_349 [] := K_253.wr W_349 (Or.inr sz_b_2)
            show OGo p e below _ (T_349.setTop (mkF m 100 #[.val (.int p1), .val (.int p2), .val (.int p3), .val (.int p4), .val (.int p5), .val (.int p6), .val (.ref b_2), .val (.int (1 : Int32))] []))
            refine OGo.to (fun _ k => XS.iinc X_349.here hx rfl (hb hby d2_100) rfl (l' := #[.val (.int p1), .val (.int p2), .val (.int p3), .val (.int p4), .val (.int p5), .val (.int p6), .val (.ref b_2), .val (.int (2 : Int32))]) rfl k) ?_
            show OGo p e below _ (T_349.setTop (mkF m 103 #[.val (.int p1), .val (.int p2), .val (.int p3), .val (.int p4), .val (.int p5), .val (.int p6), .val (.ref b_2), .val (.int (2 : Int32))] []))
            refine OGo.to (fun _ k => XS.aload X_349.here hx rfl (hb hby d2_103) rfl rfl k) ?_
            show OGo p e below _ (T_349.setTop (mkF m 105 #[.val (.int p1), .val (.int p2), .val (.int p3), .val (.int p4), .val (.int p5), .val (.int p6), .val (.ref b_2), .val (.int (2 : Int32))] [(.ref b_2)]))
            refine OGo.ret (Q := Q2 Z p1 p2 p3 p4 p5 p6 h0 n0) X_349 (some (.ref b_2)) (fun h => by rw [Bd.returns] at h; cases h) Bd.notSynchronized (fun fs hr => own_retA X_349 hx Bd.returns rfl rfl (hb hby d2_105) hr) ?_ (by decide) (by decide)
            have hidx : own_idx p1 = [1, 4] := by unfold own_idx; rw [if_neg hc17__6, if_pos hc35__247, if_neg hc53__255, if_neg hc71__316, if_pos hc90__347]; rfl
            have i_357 : ((own_bit p1 (0 : Int32))).toInt ≠ 1 := own_ine hc17__6
            have i_358 : ((own_bit p1 (1 : Int32))).toInt = 1 := own_ieq hc35__247
            have i_359 : ((own_bit p1 (2 : Int32))).toInt ≠ 1 := own_ine hc53__255
            have i_360 : ((own_bit p1 (3 : Int32))).toInt ≠ 1 := own_ine hc71__316
            have i_361 : ((own_bit p1 (4 : Int32))).toInt = 1 := own_ieq hc90__347
            have hsel : ([p3, p6] : List Int32) = (own_sel p1 p2 p3 p4 p5 p6) := by unfold own_sel; rw [hidx]; rfl
            have hcnt : own_count p1 = own_i (own_sel p1 p2 p3 p4 p5 p6).length := by rw [← hsel]; exact own_eqi (show (own_count p1).toInt = (2 : Int) by rw [own_countI p1]; omega)
            show Q2 Z p1 p2 p3 p4 p5 p6 h0 n0 _ T_349.heap _
            rw [e_349]
            exact ⟨b_2, k_2, rfl, N_349, K_356, g_b_2, sz_b_2, (own_conv (L := ([p3, p6] : List Int32)) (r := 3) V_349 hcnt hsel)⟩
          ·  -- pc 90: no
            refine OGo.to (fun _ k => XS.icmpYes X_346.here hx rfl (pc0 := 90) (pc' := 103) rfl (hb hby d2_90) rfl (feq hc90__347).2 (by decide) (by decide) k) ?_
            show OGo p e below _ (T_346.setTop (mkF m 103 #[.val (.int p1), .val (.int p2), .val (.int p3), .val (.int p4), .val (.int p5), .val (.int p6), .val (.ref b_2), .val (.int (1 : Int32))] []))
            refine OGo.to (fun _ k => XS.aload X_346.here hx rfl (hb hby d2_103) rfl rfl k) ?_
            show OGo p e below _ (T_346.setTop (mkF m 105 #[.val (.int p1), .val (.int p2), .val (.int p3), .val (.int p4), .val (.int p5), .val (.int p6), .val (.ref b_2), .val (.int (1 : Int32))] [(.ref b_2)]))
            refine OGo.ret (Q := Q2 Z p1 p2 p3 p4 p5 p6 h0 n0) X_346 (some (.ref b_2)) (fun h => by rw [Bd.returns] at h; cases h) Bd.notSynchronized (fun fs hr => own_retA X_346 hx Bd.returns rfl rfl (hb hby d2_105) hr) ?_ (by decide) (by decide)
            have hidx : own_idx p1 = [1] := by unfold own_idx; rw [if_neg hc17__6, if_pos hc35__247, if_neg hc53__255, if_neg hc71__316, if_neg hc90__347]; rfl
            have i_362 : ((own_bit p1 (0 : Int32))).toInt ≠ 1 := own_ine hc17__6
            have i_363 : ((own_bit p1 (1 : Int32))).toInt = 1 := own_ieq hc35__247
            have i_364 : ((own_bit p1 (2 : Int32))).toInt ≠ 1 := own_ine hc53__255
            have i_365 : ((own_bit p1 (3 : Int32))).toInt ≠ 1 := own_ine hc71__316
            have i_366 : ((own_bit p1 (4 : Int32))).toInt ≠ 1 := own_ine hc90__347
            have hsel : ([p3] : List Int32) = (own_sel p1 p2 p3 p4 p5 p6) := by unfold own_sel; rw [hidx]; rfl
            have hcnt : own_count p1 = own_i (own_sel p1 p2 p3 p4 p5 p6).length := by rw [← hsel]; exact own_eqi (show (own_count p1).toInt = (1 : Int) by rw [own_countI p1]; omega)
            show Q2 Z p1 p2 p3 p4 p5 p6 h0 n0 _ T_346.heap _
            rw [e_346]
            exact ⟨b_2, k_2, rfl, N_346, K_253, g_b_2, sz_b_2, (own_conv (L := ([p3] : List Int32)) (r := 4) V_249 hcnt hsel)⟩
    ·  -- pc 35: no
      refine OGo.to (fun _ k => XS.icmpYes X_246.here hx rfl (pc0 := 35) (pc' := 47) rfl (hb hby d2_35) rfl (feq hc35__247).2 (by decide) (by decide) k) ?_
      show OGo p e below _ (T_246.setTop (mkF m 47 #[.val (.int p1), .val (.int p2), .val (.int p3), .val (.int p4), .val (.int p5), .val (.int p6), .val (.ref b_2), .val (.int (0 : Int32))] []))
      refine OGo.to (fun _ k => XS.iloadN X_246.here hx rfl (hb hby d2_47) rfl k) ?_
      show OGo p e below _ (T_246.setTop (mkF m 48 #[.val (.int p1), .val (.int p2), .val (.int p3), .val (.int p4), .val (.int p5), .val (.int p6), .val (.ref b_2), .val (.int (0 : Int32))] [(.int p1)]))
      refine OGo.to (fun _ k => XS.iconst X_246.here hx rfl (hb hby d2_48) k) ?_
      show OGo p e below _ (T_246.setTop (mkF m 49 #[.val (.int p1), .val (.int p2), .val (.int p3), .val (.int p4), .val (.int p5), .val (.int p6), .val (.ref b_2), .val (.int (0 : Int32))] [(.int (2 : Int32)), (.int p1)]))
      obtain ⟨_, T_367, Lc_367, X_367, hQ_367, st_367⟩ := own_un X_246 (Q := Q4 Z p1 (2 : Int32) h_2 n0) (rc := 0) (rs := 0) (W := fun v B => ∀ target, Steps p.tables e below (B.setTop { (mkF m 49 #[.val (.int p1), .val (.int p2), .val (.int p3), .val (.int p4), .val (.int p5), .val (.int p6), .val (.ref b_2), .val (.int (0 : Int32))] [(.int (2 : Int32)), (.int p1)]) with pc := 52, stack := v.toList ++ [] }) target → Steps p.tables e below (T_246.setTop (mkF m 49 #[.val (.int p1), .val (.int p2), .val (.int p3), .val (.int p4), .val (.int p5), .val (.int p6), .val (.ref b_2), .val (.int (0 : Int32))] [(.int (2 : Int32)), (.int p1)])) target) <| Jvm.LawKit.callS X_246 hx (y := (⟨"com/example/cogram/cogram/index/PostingsEntriesPinLaw", "bit", "(II)I"⟩ : MethodName)) hown (mvT hZ (hw _ (List.mem_of_getElem? (i := 12) rfl))) (mvT hZ (hw _ (List.mem_of_getElem? (i := 13) rfl))) (mvT hZ (hw _ (List.mem_of_getElem? (i := 7) rfl))) (mvT hZ (hw _ (List.mem_of_getElem? (i := 14) rfl))) (by decide) (backOf (W := 0) (rm4 l Z a0 hw [] p1 (2 : Int32) h_2 n0 z_3 ) hZ (hw _ (List.mem_of_getElem? (i := 14) rfl)) (hw _ (List.mem_of_getElem? (i := 7) rfl)) (by decide) (by decide)) (g := (mkF m 49 #[.val (.int p1), .val (.int p2), .val (.int p3), .val (.int p4), .val (.int p5), .val (.int p6), .val (.ref b_2), .val (.int (0 : Int32))] [(.int (2 : Int32)), (.int p1)])) rfl (by rw [hml]; rfl) (argsL := [(.int p1), (.int (2 : Int32))]) (rest := []) (lenOf pd_0 rfl) rfl (by show 2 * 0 + _ ≤ _; exact Nat.le_of_eq rfl) (hb hby d2_49) (fun _ _ => ⟨rfl, e_246, (by decide : 1 + 0 ≤ _), (by decide : 5 + 0 ≤ _)⟩)
      obtain ⟨rfl, N_367q, e_367⟩ := hQ_367
      have N_367 := Fr.app N_246 N_367q
      refine OGo.to st_367 ?_
      show OGo p e below _ (T_367.setTop (mkF m 52 #[.val (.int p1), .val (.int p2), .val (.int p3), .val (.int p4), .val (.int p5), .val (.int p6), .val (.ref b_2), .val (.int (0 : Int32))] [(.int (own_bit p1 (2 : Int32)))]))
      refine OGo.to (fun _ k => XS.iconst X_367.here hx rfl (hb hby d2_52) k) ?_
      show OGo p e below _ (T_367.setTop (mkF m 53 #[.val (.int p1), .val (.int p2), .val (.int p3), .val (.int p4), .val (.int p5), .val (.int p6), .val (.ref b_2), .val (.int (0 : Int32))] [(.int (1 : Int32)), (.int (own_bit p1 (2 : Int32)))]))
      by_cases hc53__368 : (own_bit p1 (2 : Int32)) = (1 : Int32)
      ·  -- pc 53: yes
        refine OGo.to (fun _ k => XS.icmpNo X_367.here hx rfl (hb hby d2_53) rfl (teq hc53__368).2 k) ?_
        show OGo p e below _ (T_367.setTop (mkF m 56 #[.val (.int p1), .val (.int p2), .val (.int p3), .val (.int p4), .val (.int p5), .val (.int p6), .val (.ref b_2), .val (.int (0 : Int32))] []))
        refine OGo.to (fun _ k => XS.aload X_367.here hx rfl (hb hby d2_56) rfl rfl k) ?_
        show OGo p e below _ (T_367.setTop (mkF m 58 #[.val (.int p1), .val (.int p2), .val (.int p3), .val (.int p4), .val (.int p5), .val (.int p6), .val (.ref b_2), .val (.int (0 : Int32))] [(.ref b_2)]))
        refine OGo.to (fun _ k => XS.iload X_367.here hx rfl (hb hby d2_58) rfl k) ?_
        show OGo p e below _ (T_367.setTop (mkF m 60 #[.val (.int p1), .val (.int p2), .val (.int p3), .val (.int p4), .val (.int p5), .val (.int p6), .val (.ref b_2), .val (.int (0 : Int32))] [(.int (0 : Int32)), (.ref b_2)]))
        refine OGo.to (fun _ k => XS.iloadN X_367.here hx rfl (hb hby d2_60) rfl k) ?_
        show OGo p e below _ (T_367.setTop (mkF m 61 #[.val (.int p1), .val (.int p2), .val (.int p3), .val (.int p4), .val (.int p5), .val (.int p6), .val (.ref b_2), .val (.int (0 : Int32))] [(.int p4), (.int (0 : Int32)), (.ref b_2)]))
        have Vq_369 := V_2
        obtain ⟨cl_369, Ar_369, q_369, S_369, M_369, Hs_369, G_369⟩ := Vq_369
        have i_371 : ((own_bit p1 (0 : Int32))).toInt ≠ 1 := own_ine hc17__6
        have i_372 : ((own_bit p1 (1 : Int32))).toInt ≠ 1 := own_ine hc35__247
        have i_373 : ((own_bit p1 (2 : Int32))).toInt = 1 := own_ieq hc53__368
        have hin_370 : ¬ ((0 : Int32) < 0 ∨ cl_369.slots.size ≤ ((0 : Int32)).toNatClampNeg) := inb_of S_369 ⟨by decide, own_lti (show (0 : Int) < (own_count p1).toInt by rw [own_countI p1]; omega)⟩
        obtain ⟨T_370, h_370, X_370, e_370, W_370, st_370⟩ := stI X_367 hx hZ e_367 Ar_369 (j := (0 : Int32)) hin_370 (g := (mkF m 61 #[.val (.int p1), .val (.int p2), .val (.int p3), .val (.int p4), .val (.int p5), .val (.int p6), .val (.ref b_2), .val (.int (0 : Int32))] [(.int p4), (.int (0 : Int32)), (.ref b_2)])) rfl rfl (hb hby d2_61)
        refine OGo.to st_370 ?_
        have V_370 : Arv Z h_370 b_2 k_2 .int (own_count p1) [(.int p4), (.int (0 : Int32)), (.int (0 : Int32)), (.int (0 : Int32)), (.int (0 : Int32))] (.int (0 : Int32)) := Arv.set Ar_369 q_369 S_369 M_369 Hs_369 G_369 rfl W_370 0 rfl (Nat.le_of_ble_eq_true rfl)
        have N_370 := Fr.snoc X_370 N_367 g_b_2
        have z_374 : n0 ≤ h_370.size := Nat.le_trans z_3 (Keep.of_wr W_370).1
        have K_375 : Keep h0 h_370 [] := K_4.wr W_370 (Or.inr sz_b_2)
        show OGo p e below _ (T_370.setTop (mkF m 62 #[.val (.int p1), .val (.int p2), .val (.int p3), .val (.int p4), .val (.int p5), .val (.int p6), .val (.ref b_2), .val (.int (0 : Int32))] []))
        refine OGo.to (fun _ k => XS.iinc X_370.here hx rfl (hb hby d2_62) rfl (l' := #[.val (.int p1), .val (.int p2), .val (.int p3), .val (.int p4), .val (.int p5), .val (.int p6), .val (.ref b_2), .val (.int (1 : Int32))]) rfl k) ?_
        show OGo p e below _ (T_370.setTop (mkF m 65 #[.val (.int p1), .val (.int p2), .val (.int p3), .val (.int p4), .val (.int p5), .val (.int p6), .val (.ref b_2), .val (.int (1 : Int32))] []))
        refine OGo.to (fun _ k => XS.iloadN X_370.here hx rfl (hb hby d2_65) rfl k) ?_
        show OGo p e below _ (T_370.setTop (mkF m 66 #[.val (.int p1), .val (.int p2), .val (.int p3), .val (.int p4), .val (.int p5), .val (.int p6), .val (.ref b_2), .val (.int (1 : Int32))] [(.int p1)]))
        refine OGo.to (fun _ k => XS.iconst X_370.here hx rfl (hb hby d2_66) k) ?_
        show OGo p e below _ (T_370.setTop (mkF m 67 #[.val (.int p1), .val (.int p2), .val (.int p3), .val (.int p4), .val (.int p5), .val (.int p6), .val (.ref b_2), .val (.int (1 : Int32))] [(.int (3 : Int32)), (.int p1)]))
        obtain ⟨_, T_376, Lc_376, X_376, hQ_376, st_376⟩ := own_un X_370 (Q := Q4 Z p1 (3 : Int32) h_370 n0) (rc := 0) (rs := 0) (W := fun v B => ∀ target, Steps p.tables e below (B.setTop { (mkF m 67 #[.val (.int p1), .val (.int p2), .val (.int p3), .val (.int p4), .val (.int p5), .val (.int p6), .val (.ref b_2), .val (.int (1 : Int32))] [(.int (3 : Int32)), (.int p1)]) with pc := 70, stack := v.toList ++ [] }) target → Steps p.tables e below (T_370.setTop (mkF m 67 #[.val (.int p1), .val (.int p2), .val (.int p3), .val (.int p4), .val (.int p5), .val (.int p6), .val (.ref b_2), .val (.int (1 : Int32))] [(.int (3 : Int32)), (.int p1)])) target) <| Jvm.LawKit.callS X_370 hx (y := (⟨"com/example/cogram/cogram/index/PostingsEntriesPinLaw", "bit", "(II)I"⟩ : MethodName)) hown (mvT hZ (hw _ (List.mem_of_getElem? (i := 12) rfl))) (mvT hZ (hw _ (List.mem_of_getElem? (i := 13) rfl))) (mvT hZ (hw _ (List.mem_of_getElem? (i := 7) rfl))) (mvT hZ (hw _ (List.mem_of_getElem? (i := 14) rfl))) (by decide) (backOf (W := 0) (rm4 l Z a0 hw [] p1 (3 : Int32) h_370 n0 z_374 ) hZ (hw _ (List.mem_of_getElem? (i := 14) rfl)) (hw _ (List.mem_of_getElem? (i := 7) rfl)) (by decide) (by decide)) (g := (mkF m 67 #[.val (.int p1), .val (.int p2), .val (.int p3), .val (.int p4), .val (.int p5), .val (.int p6), .val (.ref b_2), .val (.int (1 : Int32))] [(.int (3 : Int32)), (.int p1)])) rfl (by rw [hml]; rfl) (argsL := [(.int p1), (.int (3 : Int32))]) (rest := []) (lenOf pd_0 rfl) rfl (by show 2 * 0 + _ ≤ _; exact Nat.le_of_eq rfl) (hb hby d2_67) (fun _ _ => ⟨rfl, e_370, (by decide : 1 + 0 ≤ _), (by decide : 5 + 0 ≤ _)⟩)
        obtain ⟨rfl, N_376q, e_376⟩ := hQ_376
        have N_376 := Fr.app N_370 N_376q
        refine OGo.to st_376 ?_
        show OGo p e below _ (T_376.setTop (mkF m 70 #[.val (.int p1), .val (.int p2), .val (.int p3), .val (.int p4), .val (.int p5), .val (.int p6), .val (.ref b_2), .val (.int (1 : Int32))] [(.int (own_bit p1 (3 : Int32)))]))
        refine OGo.to (fun _ k => XS.iconst X_376.here hx rfl (hb hby d2_70) k) ?_
        show OGo p e below _ (T_376.setTop (mkF m 71 #[.val (.int p1), .val (.int p2), .val (.int p3), .val (.int p4), .val (.int p5), .val (.int p6), .val (.ref b_2), .val (.int (1 : Int32))] [(.int (1 : Int32)), (.int (own_bit p1 (3 : Int32)))]))
        by_cases hc71__377 : (own_bit p1 (3 : Int32)) = (1 : Int32)
        ·  -- pc 71: yes
          refine OGo.to (fun _ k => XS.icmpNo X_376.here hx rfl (hb hby d2_71) rfl (teq hc71__377).2 k) ?_
          show OGo p e below _ (T_376.setTop (mkF m 74 #[.val (.int p1), .val (.int p2), .val (.int p3), .val (.int p4), .val (.int p5), .val (.int p6), .val (.ref b_2), .val (.int (1 : Int32))] []))
          refine OGo.to (fun _ k => XS.aload X_376.here hx rfl (hb hby d2_74) rfl rfl k) ?_
          show OGo p e below _ (T_376.setTop (mkF m 76 #[.val (.int p1), .val (.int p2), .val (.int p3), .val (.int p4), .val (.int p5), .val (.int p6), .val (.ref b_2), .val (.int (1 : Int32))] [(.ref b_2)]))
          refine OGo.to (fun _ k => XS.iload X_376.here hx rfl (hb hby d2_76) rfl k) ?_
          show OGo p e below _ (T_376.setTop (mkF m 78 #[.val (.int p1), .val (.int p2), .val (.int p3), .val (.int p4), .val (.int p5), .val (.int p6), .val (.ref b_2), .val (.int (1 : Int32))] [(.int (1 : Int32)), (.ref b_2)]))
          refine OGo.to (fun _ k => XS.iload X_376.here hx rfl (hb hby d2_78) rfl k) ?_
          show OGo p e below _ (T_376.setTop (mkF m 80 #[.val (.int p1), .val (.int p2), .val (.int p3), .val (.int p4), .val (.int p5), .val (.int p6), .val (.ref b_2), .val (.int (1 : Int32))] [(.int p5), (.int (1 : Int32)), (.ref b_2)]))
          have Vq_378 := V_370
          obtain ⟨cl_378, Ar_378, q_378, S_378, M_378, Hs_378, G_378⟩ := Vq_378
          have i_380 : ((own_bit p1 (0 : Int32))).toInt ≠ 1 := own_ine hc17__6
          have i_381 : ((own_bit p1 (1 : Int32))).toInt ≠ 1 := own_ine hc35__247
          have i_382 : ((own_bit p1 (2 : Int32))).toInt = 1 := own_ieq hc53__368
          have i_383 : ((own_bit p1 (3 : Int32))).toInt = 1 := own_ieq hc71__377
          have hin_379 : ¬ ((1 : Int32) < 0 ∨ cl_378.slots.size ≤ ((1 : Int32)).toNatClampNeg) := inb_of S_378 ⟨by decide, own_lti (show (1 : Int) < (own_count p1).toInt by rw [own_countI p1]; omega)⟩
          obtain ⟨T_379, h_379, X_379, e_379, W_379, st_379⟩ := stI X_376 hx hZ e_376 Ar_378 (j := (1 : Int32)) hin_379 (g := (mkF m 80 #[.val (.int p1), .val (.int p2), .val (.int p3), .val (.int p4), .val (.int p5), .val (.int p6), .val (.ref b_2), .val (.int (1 : Int32))] [(.int p5), (.int (1 : Int32)), (.ref b_2)])) rfl rfl (hb hby d2_80)
          refine OGo.to st_379 ?_
          have V_379 : Arv Z h_379 b_2 k_2 .int (own_count p1) [(.int p4), (.int p5), (.int (0 : Int32)), (.int (0 : Int32)), (.int (0 : Int32))] (.int (0 : Int32)) := Arv.set Ar_378 q_378 S_378 M_378 Hs_378 G_378 rfl W_379 1 rfl (Nat.le_of_ble_eq_true rfl)
          have N_379 := Fr.snoc X_379 N_376 g_b_2
          have z_384 : n0 ≤ h_379.size := Nat.le_trans z_374 (Keep.of_wr W_379).1
          have K_385 : Keep h0 h_379 [] := K_375.wr W_379 (Or.inr sz_b_2)
          show OGo p e below _ (T_379.setTop (mkF m 81 #[.val (.int p1), .val (.int p2), .val (.int p3), .val (.int p4), .val (.int p5), .val (.int p6), .val (.ref b_2), .val (.int (1 : Int32))] []))
          refine OGo.to (fun _ k => XS.iinc X_379.here hx rfl (hb hby d2_81) rfl (l' := #[.val (.int p1), .val (.int p2), .val (.int p3), .val (.int p4), .val (.int p5), .val (.int p6), .val (.ref b_2), .val (.int (2 : Int32))]) rfl k) ?_
          show OGo p e below _ (T_379.setTop (mkF m 84 #[.val (.int p1), .val (.int p2), .val (.int p3), .val (.int p4), .val (.int p5), .val (.int p6), .val (.ref b_2), .val (.int (2 : Int32))] []))
          refine OGo.to (fun _ k => XS.iloadN X_379.here hx rfl (hb hby d2_84) rfl k) ?_
          show OGo p e below _ (T_379.setTop (mkF m 85 #[.val (.int p1), .val (.int p2), .val (.int p3), .val (.int p4), .val (.int p5), .val (.int p6), .val (.ref b_2), .val (.int (2 : Int32))] [(.int p1)]))
          refine OGo.to (fun _ k => XS.iconst X_379.here hx rfl (hb hby d2_85) k) ?_
          show OGo p e below _ (T_379.setTop (mkF m 86 #[.val (.int p1), .val (.int p2), .val (.int p3), .val (.int p4), .val (.int p5), .val (.int p6), .val (.ref b_2), .val (.int (2 : Int32))] [(.int (4 : Int32)), (.int p1)]))
          obtain ⟨_, T_386, Lc_386, X_386, hQ_386, st_386⟩ := own_un X_379 (Q := Q4 Z p1 (4 : Int32) h_379 n0) (rc := 0) (rs := 0) (W := fun v B => ∀ target, Steps p.tables e below (B.setTop { (mkF m 86 #[.val (.int p1), .val (.int p2), .val (.int p3), .val (.int p4), .val (.int p5), .val (.int p6), .val (.ref b_2), .val (.int (2 : Int32))] [(.int (4 : Int32)), (.int p1)]) with pc := 89, stack := v.toList ++ [] }) target → Steps p.tables e below (T_379.setTop (mkF m 86 #[.val (.int p1), .val (.int p2), .val (.int p3), .val (.int p4), .val (.int p5), .val (.int p6), .val (.ref b_2), .val (.int (2 : Int32))] [(.int (4 : Int32)), (.int p1)])) target) <| Jvm.LawKit.callS X_379 hx (y := (⟨"com/example/cogram/cogram/index/PostingsEntriesPinLaw", "bit", "(II)I"⟩ : MethodName)) hown (mvT hZ (hw _ (List.mem_of_getElem? (i := 12) rfl))) (mvT hZ (hw _ (List.mem_of_getElem? (i := 13) rfl))) (mvT hZ (hw _ (List.mem_of_getElem? (i := 7) rfl))) (mvT hZ (hw _ (List.mem_of_getElem? (i := 14) rfl))) (by decide) (backOf (W := 0) (rm4 l Z a0 hw [] p1 (4 : Int32) h_379 n0 z_384 ) hZ (hw _ (List.mem_of_getElem? (i := 14) rfl)) (hw _ (List.mem_of_getElem? (i := 7) rfl)) (by decide) (by decide)) (g := (mkF m 86 #[.val (.int p1), .val (.int p2), .val (.int p3), .val (.int p4), .val (.int p5), .val (.int p6), .val (.ref b_2), .val (.int (2 : Int32))] [(.int (4 : Int32)), (.int p1)])) rfl (by rw [hml]; rfl) (argsL := [(.int p1), (.int (4 : Int32))]) (rest := []) (lenOf pd_0 rfl) rfl (by show 2 * 0 + _ ≤ _; exact Nat.le_of_eq rfl) (hb hby d2_86) (fun _ _ => ⟨rfl, e_379, (by decide : 1 + 0 ≤ _), (by decide : 5 + 0 ≤ _)⟩)
          obtain ⟨rfl, N_386q, e_386⟩ := hQ_386
          have N_386 := Fr.app N_379 N_386q
          refine OGo.to st_386 ?_
          show OGo p e below _ (T_386.setTop (mkF m 89 #[.val (.int p1), .val (.int p2), .val (.int p3), .val (.int p4), .val (.int p5), .val (.int p6), .val (.ref b_2), .val (.int (2 : Int32))] [(.int (own_bit p1 (4 : Int32)))]))
          refine OGo.to (fun _ k => XS.iconst X_386.here hx rfl (hb hby d2_89) k) ?_
          show OGo p e below _ (T_386.setTop (mkF m 90 #[.val (.int p1), .val (.int p2), .val (.int p3), .val (.int p4), .val (.int p5), .val (.int p6), .val (.ref b_2), .val (.int (2 : Int32))] [(.int (1 : Int32)), (.int (own_bit p1 (4 : Int32)))]))
          by_cases hc90__387 : (own_bit p1 (4 : Int32)) = (1 : Int32)
          ·  -- pc 90: yes
            refine OGo.to (fun _ k => XS.icmpNo X_386.here hx rfl (hb hby d2_90) rfl (teq hc90__387).2 k) ?_
            show OGo p e below _ (T_386.setTop (mkF m 93 #[.val (.int p1), .val (.int p2), .val (.int p3), .val (.int p4), .val (.int p5), .val (.int p6), .val (.ref b_2), .val (.int (2 : Int32))] []))
            refine OGo.to (fun _ k => XS.aload X_386.here hx rfl (hb hby d2_93) rfl rfl k) ?_
            show OGo p e below _ (T_386.setTop (mkF m 95 #[.val (.int p1), .val (.int p2), .val (.int p3), .val (.int p4), .val (.int p5), .val (.int p6), .val (.ref b_2), .val (.int (2 : Int32))] [(.ref b_2)]))
            refine OGo.to (fun _ k => XS.iload X_386.here hx rfl (hb hby d2_95) rfl k) ?_
            show OGo p e below _ (T_386.setTop (mkF m 97 #[.val (.int p1), .val (.int p2), .val (.int p3), .val (.int p4), .val (.int p5), .val (.int p6), .val (.ref b_2), .val (.int (2 : Int32))] [(.int (2 : Int32)), (.ref b_2)]))
            refine OGo.to (fun _ k => XS.iload X_386.here hx rfl (hb hby d2_97) rfl k) ?_
            show OGo p e below _ (T_386.setTop (mkF m 99 #[.val (.int p1), .val (.int p2), .val (.int p3), .val (.int p4), .val (.int p5), .val (.int p6), .val (.ref b_2), .val (.int (2 : Int32))] [(.int p6), (.int (2 : Int32)), (.ref b_2)]))
            have Vq_388 := V_379
            obtain ⟨cl_388, Ar_388, q_388, S_388, M_388, Hs_388, G_388⟩ := Vq_388
            have i_390 : ((own_bit p1 (0 : Int32))).toInt ≠ 1 := own_ine hc17__6
            have i_391 : ((own_bit p1 (1 : Int32))).toInt ≠ 1 := own_ine hc35__247
            have i_392 : ((own_bit p1 (2 : Int32))).toInt = 1 := own_ieq hc53__368
            have i_393 : ((own_bit p1 (3 : Int32))).toInt = 1 := own_ieq hc71__377
            have i_394 : ((own_bit p1 (4 : Int32))).toInt = 1 := own_ieq hc90__387
            have hin_389 : ¬ ((2 : Int32) < 0 ∨ cl_388.slots.size ≤ ((2 : Int32)).toNatClampNeg) := inb_of S_388 ⟨by decide, own_lti (show (2 : Int) < (own_count p1).toInt by rw [own_countI p1]; omega)⟩
            obtain ⟨T_389, h_389, X_389, e_389, W_389, st_389⟩ := stI X_386 hx hZ e_386 Ar_388 (j := (2 : Int32)) hin_389 (g := (mkF m 99 #[.val (.int p1), .val (.int p2), .val (.int p3), .val (.int p4), .val (.int p5), .val (.int p6), .val (.ref b_2), .val (.int (2 : Int32))] [(.int p6), (.int (2 : Int32)), (.ref b_2)])) rfl rfl (hb hby d2_99)
            refine OGo.to st_389 ?_
            have V_389 : Arv Z h_389 b_2 k_2 .int (own_count p1) [(.int p4), (.int p5), (.int p6), (.int (0 : Int32)), (.int (0 : Int32))] (.int (0 : Int32)) := Arv.set Ar_388 q_388 S_388 M_388 Hs_388 G_388 rfl W_389 2 rfl (Nat.le_of_ble_eq_true rfl)
            have N_389 := Fr.snoc X_389 N_386 g_b_2
            have z_395 : n0 ≤ h_389.size := Nat.le_trans z_384 (Keep.of_wr W_389).1
            have K_396 : Keep h0 h_389 [] := K_385.wr W_389 (Or.inr sz_b_2)
            show OGo p e below _ (T_389.setTop (mkF m 100 #[.val (.int p1), .val (.int p2), .val (.int p3), .val (.int p4), .val (.int p5), .val (.int p6), .val (.ref b_2), .val (.int (2 : Int32))] []))
            refine OGo.to (fun _ k => XS.iinc X_389.here hx rfl (hb hby d2_100) rfl (l' := #[.val (.int p1), .val (.int p2), .val (.int p3), .val (.int p4), .val (.int p5), .val (.int p6), .val (.ref b_2), .val (.int (3 : Int32))]) rfl k) ?_
            show OGo p e below _ (T_389.setTop (mkF m 103 #[.val (.int p1), .val (.int p2), .val (.int p3), .val (.int p4), .val (.int p5), .val (.int p6), .val (.ref b_2), .val (.int (3 : Int32))] []))
            refine OGo.to (fun _ k => XS.aload X_389.here hx rfl (hb hby d2_103) rfl rfl k) ?_
            show OGo p e below _ (T_389.setTop (mkF m 105 #[.val (.int p1), .val (.int p2), .val (.int p3), .val (.int p4), .val (.int p5), .val (.int p6), .val (.ref b_2), .val (.int (3 : Int32))] [(.ref b_2)]))
            refine OGo.ret (Q := Q2 Z p1 p2 p3 p4 p5 p6 h0 n0) X_389 (some (.ref b_2)) (fun h => by rw [Bd.returns] at h; cases h) Bd.notSynchronized (fun fs hr => own_retA X_389 hx Bd.returns rfl rfl (hb hby d2_105) hr) ?_ (by decide) (by decide)
            have hidx : own_idx p1 = [2, 3, 4] := by unfold own_idx; rw [if_neg hc17__6, if_neg hc35__247, if_pos hc53__368, if_pos hc71__377, if_pos hc90__387]; rfl
            have i_397 : ((own_bit p1 (0 : Int32))).toInt ≠ 1 := own_ine hc17__6
            have i_398 : ((own_bit p1 (1 : Int32))).toInt ≠ 1 := own_ine hc35__247
            have i_399 : ((own_bit p1 (2 : Int32))).toInt = 1 := own_ieq hc53__368
            have i_400 : ((own_bit p1 (3 : Int32))).toInt = 1 := own_ieq hc71__377
            have i_401 : ((own_bit p1 (4 : Int32))).toInt = 1 := own_ieq hc90__387
            have hsel : ([p4, p5, p6] : List Int32) = (own_sel p1 p2 p3 p4 p5 p6) := by unfold own_sel; rw [hidx]; rfl
            have hcnt : own_count p1 = own_i (own_sel p1 p2 p3 p4 p5 p6).length := by rw [← hsel]; exact own_eqi (show (own_count p1).toInt = (3 : Int) by rw [own_countI p1]; omega)
            show Q2 Z p1 p2 p3 p4 p5 p6 h0 n0 _ T_389.heap _
            rw [e_389]
            exact ⟨b_2, k_2, rfl, N_389, K_396, g_b_2, sz_b_2, (own_conv (L := ([p4, p5, p6] : List Int32)) (r := 2) V_389 hcnt hsel)⟩
          ·  -- pc 90: no
            refine OGo.to (fun _ k => XS.icmpYes X_386.here hx rfl (pc0 := 90) (pc' := 103) rfl (hb hby d2_90) rfl (feq hc90__387).2 (by decide) (by decide) k) ?_
            show OGo p e below _ (T_386.setTop (mkF m 103 #[.val (.int p1), .val (.int p2), .val (.int p3), .val (.int p4), .val (.int p5), .val (.int p6), .val (.ref b_2), .val (.int (2 : Int32))] []))
            refine OGo.to (fun _ k => XS.aload X_386.here hx rfl (hb hby d2_103) rfl rfl k) ?_
            show OGo p e below _ (T_386.setTop (mkF m 105 #[.val (.int p1), .val (.int p2), .val (.int p3), .val (.int p4), .val (.int p5), .val (.int p6), .val (.ref b_2), .val (.int (2 : Int32))] [(.ref b_2)]))
            refine OGo.ret (Q := Q2 Z p1 p2 p3 p4 p5 p6 h0 n0) X_386 (some (.ref b_2)) (fun h => by rw [Bd.returns] at h; cases h) Bd.notSynchronized (fun fs hr => own_retA X_386 hx Bd.returns rfl rfl (hb hby d2_105) hr) ?_ (by decide) (by decide)
            have hidx : own_idx p1 = [2, 3] := by unfold own_idx; rw [if_neg hc17__6, if_neg hc35__247, if_pos hc53__368, if_pos hc71__377, if_neg hc90__387]; rfl
            have i_402 : ((own_bit p1 (0 : Int32))).toInt ≠ 1 := own_ine hc17__6
            have i_403 : ((own_bit p1 (1 : Int32))).toInt ≠ 1 := own_ine hc35__247
            have i_404 : ((own_bit p1 (2 : Int32))).toInt = 1 := own_ieq hc53__368
            have i_405 : ((own_bit p1 (3 : Int32))).toInt = 1 := own_ieq hc71__377
            have i_406 : ((own_bit p1 (4 : Int32))).toInt ≠ 1 := own_ine hc90__387
            have hsel : ([p4, p5] : List Int32) = (own_sel p1 p2 p3 p4 p5 p6) := by unfold own_sel; rw [hidx]; rfl
            have hcnt : own_count p1 = own_i (own_sel p1 p2 p3 p4 p5 p6).length := by rw [← hsel]; exact own_eqi (show (own_count p1).toInt = (2 : Int) by rw [own_countI p1]; omega)
            show Q2 Z p1 p2 p3 p4 p5 p6 h0 n0 _ T_386.heap _
            rw [e_386]
            exact ⟨b_2, k_2, rfl, N_386, K_385, g_b_2, sz_b_2, (own_conv (L := ([p4, p5] : List Int32)) (r := 3) V_379 hcnt hsel)⟩
        ·  -- pc 71: no
          refine OGo.to (fun _ k => XS.icmpYes X_376.here hx rfl (pc0 := 71) (pc' := 84) rfl (hb hby d2_71) rfl (feq hc71__377).2 (by decide) (by decide) k) ?_
          show OGo p e below _ (T_376.setTop (mkF m 84 #[.val (.int p1), .val (.int p2), .val (.int p3), .val (.int p4), .val (.int p5), .val (.int p6), .val (.ref b_2), .val (.int (1 : Int32))] []))
          refine OGo.to (fun _ k => XS.iloadN X_376.here hx rfl (hb hby d2_84) rfl k) ?_
          show OGo p e below _ (T_376.setTop (mkF m 85 #[.val (.int p1), .val (.int p2), .val (.int p3), .val (.int p4), .val (.int p5), .val (.int p6), .val (.ref b_2), .val (.int (1 : Int32))] [(.int p1)]))
          refine OGo.to (fun _ k => XS.iconst X_376.here hx rfl (hb hby d2_85) k) ?_
          show OGo p e below _ (T_376.setTop (mkF m 86 #[.val (.int p1), .val (.int p2), .val (.int p3), .val (.int p4), .val (.int p5), .val (.int p6), .val (.ref b_2), .val (.int (1 : Int32))] [(.int (4 : Int32)), (.int p1)]))
          obtain ⟨_, T_407, Lc_407, X_407, hQ_407, st_407⟩ := own_un X_376 (Q := Q4 Z p1 (4 : Int32) h_370 n0) (rc := 0) (rs := 0) (W := fun v B => ∀ target, Steps p.tables e below (B.setTop { (mkF m 86 #[.val (.int p1), .val (.int p2), .val (.int p3), .val (.int p4), .val (.int p5), .val (.int p6), .val (.ref b_2), .val (.int (1 : Int32))] [(.int (4 : Int32)), (.int p1)]) with pc := 89, stack := v.toList ++ [] }) target → Steps p.tables e below (T_376.setTop (mkF m 86 #[.val (.int p1), .val (.int p2), .val (.int p3), .val (.int p4), .val (.int p5), .val (.int p6), .val (.ref b_2), .val (.int (1 : Int32))] [(.int (4 : Int32)), (.int p1)])) target) <| Jvm.LawKit.callS X_376 hx (y := (⟨"com/example/cogram/cogram/index/PostingsEntriesPinLaw", "bit", "(II)I"⟩ : MethodName)) hown (mvT hZ (hw _ (List.mem_of_getElem? (i := 12) rfl))) (mvT hZ (hw _ (List.mem_of_getElem? (i := 13) rfl))) (mvT hZ (hw _ (List.mem_of_getElem? (i := 7) rfl))) (mvT hZ (hw _ (List.mem_of_getElem? (i := 14) rfl))) (by decide) (backOf (W := 0) (rm4 l Z a0 hw [] p1 (4 : Int32) h_370 n0 z_374 ) hZ (hw _ (List.mem_of_getElem? (i := 14) rfl)) (hw _ (List.mem_of_getElem? (i := 7) rfl)) (by decide) (by decide)) (g := (mkF m 86 #[.val (.int p1), .val (.int p2), .val (.int p3), .val (.int p4), .val (.int p5), .val (.int p6), .val (.ref b_2), .val (.int (1 : Int32))] [(.int (4 : Int32)), (.int p1)])) rfl (by rw [hml]; rfl) (argsL := [(.int p1), (.int (4 : Int32))]) (rest := []) (lenOf pd_0 rfl) rfl (by show 2 * 0 + _ ≤ _; exact Nat.le_of_eq rfl) (hb hby d2_86) (fun _ _ => ⟨rfl, e_376, (by decide : 1 + 0 ≤ _), (by decide : 5 + 0 ≤ _)⟩)
          obtain ⟨rfl, N_407q, e_407⟩ := hQ_407
          have N_407 := Fr.app N_376 N_407q
          refine OGo.to st_407 ?_
          show OGo p e below _ (T_407.setTop (mkF m 89 #[.val (.int p1), .val (.int p2), .val (.int p3), .val (.int p4), .val (.int p5), .val (.int p6), .val (.ref b_2), .val (.int (1 : Int32))] [(.int (own_bit p1 (4 : Int32)))]))
          refine OGo.to (fun _ k => XS.iconst X_407.here hx rfl (hb hby d2_89) k) ?_
          show OGo p e below _ (T_407.setTop (mkF m 90 #[.val (.int p1), .val (.int p2), .val (.int p3), .val (.int p4), .val (.int p5), .val (.int p6), .val (.ref b_2), .val (.int (1 : Int32))] [(.int (1 : Int32)), (.int (own_bit p1 (4 : Int32)))]))
          by_cases hc90__408 : (own_bit p1 (4 : Int32)) = (1 : Int32)
          ·  -- pc 90: yes
            refine OGo.to (fun _ k => XS.icmpNo X_407.here hx rfl (hb hby d2_90) rfl (teq hc90__408).2 k) ?_
            show OGo p e below _ (T_407.setTop (mkF m 93 #[.val (.int p1), .val (.int p2), .val (.int p3), .val (.int p4), .val (.int p5), .val (.int p6), .val (.ref b_2), .val (.int (1 : Int32))] []))
            refine OGo.to (fun _ k => XS.aload X_407.here hx rfl (hb hby d2_93) rfl rfl k) ?_
            show OGo p e below _ (T_407.setTop (mkF m 95 #[.val (.int p1), .val (.int p2), .val (.int p3), .val (.int p4), .val (.int p5), .val (.int p6), .val (.ref b_2), .val (.int (1 : Int32))] [(.ref b_2)]))
            refine OGo.to (fun _ k => XS.iload X_407.here hx rfl (hb hby d2_95) rfl k) ?_
            show OGo p e below _ (T_407.setTop (mkF m 97 #[.val (.int p1), .val (.int p2), .val (.int p3), .val (.int p4), .val (.int p5), .val (.int p6), .val (.ref b_2), .val (.int (1 : Int32))] [(.int (1 : Int32)), (.ref b_2)]))
            refine OGo.to (fun _ k => XS.iload X_407.here hx rfl (hb hby d2_97) rfl k) ?_
            show OGo p e below _ (T_407.setTop (mkF m 99 #[.val (.int p1), .val (.int p2), .val (.int p3), .val (.int p4), .val (.int p5), .val (.int p6), .val (.ref b_2), .val (.int (1 : Int32))] [(.int p6), (.int (1 : Int32)), (.ref b_2)]))
            have Vq_409 := V_370
            obtain ⟨cl_409, Ar_409, q_409, S_409, M_409, Hs_409, G_409⟩ := Vq_409
            have i_411 : ((own_bit p1 (0 : Int32))).toInt ≠ 1 := own_ine hc17__6
            have i_412 : ((own_bit p1 (1 : Int32))).toInt ≠ 1 := own_ine hc35__247
            have i_413 : ((own_bit p1 (2 : Int32))).toInt = 1 := own_ieq hc53__368
            have i_414 : ((own_bit p1 (3 : Int32))).toInt ≠ 1 := own_ine hc71__377
            have i_415 : ((own_bit p1 (4 : Int32))).toInt = 1 := own_ieq hc90__408
            have hin_410 : ¬ ((1 : Int32) < 0 ∨ cl_409.slots.size ≤ ((1 : Int32)).toNatClampNeg) := inb_of S_409 ⟨by decide, own_lti (show (1 : Int) < (own_count p1).toInt by rw [own_countI p1]; omega)⟩
            obtain ⟨T_410, h_410, X_410, e_410, W_410, st_410⟩ := stI X_407 hx hZ e_407 Ar_409 (j := (1 : Int32)) hin_410 (g := (mkF m 99 #[.val (.int p1), .val (.int p2), .val (.int p3), .val (.int p4), .val (.int p5), .val (.int p6), .val (.ref b_2), .val (.int (1 : Int32))] [(.int p6), (.int (1 : Int32)), (.ref b_2)])) rfl rfl (hb hby d2_99)
            refine OGo.to st_410 ?_
            have V_410 : Arv Z h_410 b_2 k_2 .int (own_count p1) [(.int p4), (.int p6), (.int (0 : Int32)), (.int (0 : Int32)), (.int (0 : Int32))] (.int (0 : Int32)) := Arv.set Ar_409 q_409 S_409 M_409 Hs_409 G_409 rfl W_410 1 rfl (Nat.le_of_ble_eq_true rfl)
            have N_410 := Fr.snoc X_410 N_407 g_b_2
            have z_416 : n0 ≤ h_410.size := Nat.le_trans z_374 (Keep.of_wr W_410).1
            have K_417 : Keep h0 h_410 [] := K_375.wr W_410 (Or.inr sz_b_2)
            show OGo p e below _ (T_410.setTop (mkF m 100 #[.val (.int p1), .val (.int p2), .val (.int p3), .val (.int p4), .val (.int p5), .val (.int p6), .val (.ref b_2), .val (.int (1 : Int32))] []))
            refine OGo.to (fun _ k => XS.iinc X_410.here hx rfl (hb hby d2_100) rfl (l' := #[.val (.int p1), .val (.int p2), .val (.int p3), .val (.int p4), .val (.int p5), .val (.int p6), .val (.ref b_2), .val (.int (2 : Int32))]) rfl k) ?_
            show OGo p e below _ (T_410.setTop (mkF m 103 #[.val (.int p1), .val (.int p2), .val (.int p3), .val (.int p4), .val (.int p5), .val (.int p6), .val (.ref b_2), .val (.int (2 : Int32))] []))
            refine OGo.to (fun _ k => XS.aload X_410.here hx rfl (hb hby d2_103) rfl rfl k) ?_
            show OGo p e below _ (T_410.setTop (mkF m 105 #[.val (.int p1), .val (.int p2), .val (.int p3), .val (.int p4), .val (.int p5), .val (.int p6), .val (.ref b_2), .val (.int (2 : Int32))] [(.ref b_2)]))
            refine OGo.ret (Q := Q2 Z p1 p2 p3 p4 p5 p6 h0 n0) X_410 (some (.ref b_2)) (fun h => by rw [Bd.returns] at h; cases h) Bd.notSynchronized (fun fs hr => own_retA X_410 hx Bd.returns rfl rfl (hb hby d2_105) hr) ?_ (by decide) (by decide)
            have hidx : own_idx p1 = [2, 4] := by unfold own_idx; rw [if_neg hc17__6, if_neg hc35__247, if_pos hc53__368, if_neg hc71__377, if_pos hc90__408]; rfl
            have i_418 : ((own_bit p1 (0 : Int32))).toInt ≠ 1 := own_ine hc17__6
            have i_419 : ((own_bit p1 (1 : Int32))).toInt ≠ 1 := own_ine hc35__247
            have i_420 : ((own_bit p1 (2 : Int32))).toInt = 1 := own_ieq hc53__368
            have i_421 : ((own_bit p1 (3 : Int32))).toInt ≠ 1 := own_ine hc71__377
            have i_422 : ((own_bit p1 (4 : Int32))).toInt = 1 := own_ieq hc90__408
            have hsel : ([p4, p6] : List Int32) = (own_sel p1 p2 p3 p4 p5 p6) := by unfold own_sel; rw [hidx]; rfl
            have hcnt : own_count p1 = own_i (own_sel p1 p2 p3 p4 p5 p6).length := by rw [← hsel]; exact own_eqi (show (own_count p1).toInt = (2 : Int) by rw [own_countI p1]; omega)
            show Q2 Z p1 p2 p3 p4 p5 p6 h0 n0 _ T_410.heap _
            rw [e_410]
            exact ⟨b_2, k_2, rfl, N_410, K_417, g_b_2, sz_b_2, (own_conv (L := ([p4, p6] : List Int32)) (r := 3) V_410 hcnt hsel)⟩
          ·  -- pc 90: no
            refine OGo.to (fun _ k => XS.icmpYes X_407.here hx rfl (pc0 := 90) (pc' := 103) rfl (hb hby d2_90) rfl (feq hc90__408).2 (by decide) (by decide) k) ?_
            show OGo p e below _ (T_407.setTop (mkF m 103 #[.val (.int p1), .val (.int p2), .val (.int p3), .val (.int p4), .val (.int p5), .val (.int p6), .val (.ref b_2), .val (.int (1 : Int32))] []))
            refine OGo.to (fun _ k => XS.aload X_407.here hx rfl (hb hby d2_103) rfl rfl k) ?_
            show OGo p e below _ (T_407.setTop (mkF m 105 #[.val (.int p1), .val (.int p2), .val (.int p3), .val (.int p4), .val (.int p5), .val (.int p6), .val (.ref b_2), .val (.int (1 : Int32))] [(.ref b_2)]))
            refine OGo.ret (Q := Q2 Z p1 p2 p3 p4 p5 p6 h0 n0) X_407 (some (.ref b_2)) (fun h => by rw [Bd.returns] at h; cases h) Bd.notSynchronized (fun fs hr => own_retA X_407 hx Bd.returns rfl rfl (hb hby d2_105) hr) ?_ (by decide) (by decide)
            have hidx : own_idx p1 = [2] := by unfold own_idx; rw [if_neg hc17__6, if_neg hc35__247, if_pos hc53__368, if_neg hc71__377, if_neg hc90__408]; rfl
            have i_423 : ((own_bit p1 (0 : Int32))).toInt ≠ 1 := own_ine hc17__6
            have i_424 : ((own_bit p1 (1 : Int32))).toInt ≠ 1 := own_ine hc35__247
            have i_425 : ((own_bit p1 (2 : Int32))).toInt = 1 := own_ieq hc53__368
            have i_426 : ((own_bit p1 (3 : Int32))).toInt ≠ 1 := own_ine hc71__377
            have i_427 : ((own_bit p1 (4 : Int32))).toInt ≠ 1 := own_ine hc90__408
            have hsel : ([p4] : List Int32) = (own_sel p1 p2 p3 p4 p5 p6) := by unfold own_sel; rw [hidx]; rfl
            have hcnt : own_count p1 = own_i (own_sel p1 p2 p3 p4 p5 p6).length := by rw [← hsel]; exact own_eqi (show (own_count p1).toInt = (1 : Int) by rw [own_countI p1]; omega)
            show Q2 Z p1 p2 p3 p4 p5 p6 h0 n0 _ T_407.heap _
            rw [e_407]
            exact ⟨b_2, k_2, rfl, N_407, K_375, g_b_2, sz_b_2, (own_conv (L := ([p4] : List Int32)) (r := 4) V_370 hcnt hsel)⟩
      ·  -- pc 53: no
        refine OGo.to (fun _ k => XS.icmpYes X_367.here hx rfl (pc0 := 53) (pc' := 65) rfl (hb hby d2_53) rfl (feq hc53__368).2 (by decide) (by decide) k) ?_
        show OGo p e below _ (T_367.setTop (mkF m 65 #[.val (.int p1), .val (.int p2), .val (.int p3), .val (.int p4), .val (.int p5), .val (.int p6), .val (.ref b_2), .val (.int (0 : Int32))] []))
        refine OGo.to (fun _ k => XS.iloadN X_367.here hx rfl (hb hby d2_65) rfl k) ?_
        show OGo p e below _ (T_367.setTop (mkF m 66 #[.val (.int p1), .val (.int p2), .val (.int p3), .val (.int p4), .val (.int p5), .val (.int p6), .val (.ref b_2), .val (.int (0 : Int32))] [(.int p1)]))
        refine OGo.to (fun _ k => XS.iconst X_367.here hx rfl (hb hby d2_66) k) ?_
        show OGo p e below _ (T_367.setTop (mkF m 67 #[.val (.int p1), .val (.int p2), .val (.int p3), .val (.int p4), .val (.int p5), .val (.int p6), .val (.ref b_2), .val (.int (0 : Int32))] [(.int (3 : Int32)), (.int p1)]))
        obtain ⟨_, T_428, Lc_428, X_428, hQ_428, st_428⟩ := own_un X_367 (Q := Q4 Z p1 (3 : Int32) h_2 n0) (rc := 0) (rs := 0) (W := fun v B => ∀ target, Steps p.tables e below (B.setTop { (mkF m 67 #[.val (.int p1), .val (.int p2), .val (.int p3), .val (.int p4), .val (.int p5), .val (.int p6), .val (.ref b_2), .val (.int (0 : Int32))] [(.int (3 : Int32)), (.int p1)]) with pc := 70, stack := v.toList ++ [] }) target → Steps p.tables e below (T_367.setTop (mkF m 67 #[.val (.int p1), .val (.int p2), .val (.int p3), .val (.int p4), .val (.int p5), .val (.int p6), .val (.ref b_2), .val (.int (0 : Int32))] [(.int (3 : Int32)), (.int p1)])) target) <| Jvm.LawKit.callS X_367 hx (y := (⟨"com/example/cogram/cogram/index/PostingsEntriesPinLaw", "bit", "(II)I"⟩ : MethodName)) hown (mvT hZ (hw _ (List.mem_of_getElem? (i := 12) rfl))) (mvT hZ (hw _ (List.mem_of_getElem? (i := 13) rfl))) (mvT hZ (hw _ (List.mem_of_getElem? (i := 7) rfl))) (mvT hZ (hw _ (List.mem_of_getElem? (i := 14) rfl))) (by decide) (backOf (W := 0) (rm4 l Z a0 hw [] p1 (3 : Int32) h_2 n0 z_3 ) hZ (hw _ (List.mem_of_getElem? (i := 14) rfl)) (hw _ (List.mem_of_getElem? (i := 7) rfl)) (by decide) (by decide)) (g := (mkF m 67 #[.val (.int p1), .val (.int p2), .val (.int p3), .val (.int p4), .val (.int p5), .val (.int p6), .val (.ref b_2), .val (.int (0 : Int32))] [(.int (3 : Int32)), (.int p1)])) rfl (by rw [hml]; rfl) (argsL := [(.int p1), (.int (3 : Int32))]) (rest := []) (lenOf pd_0 rfl) rfl (by show 2 * 0 + _ ≤ _; exact Nat.le_of_eq rfl) (hb hby d2_67) (fun _ _ => ⟨rfl, e_367, (by decide : 1 + 0 ≤ _), (by decide : 5 + 0 ≤ _)⟩)
        obtain ⟨rfl, N_428q, e_428⟩ := hQ_428
        have N_428 := Fr.app N_367 N_428q
        refine OGo.to st_428 ?_
        show OGo p e below _ (T_428.setTop (mkF m 70 #[.val (.int p1), .val (.int p2), .val (.int p3), .val (.int p4), .val (.int p5), .val (.int p6), .val (.ref b_2), .val (.int (0 : Int32))] [(.int (own_bit p1 (3 : Int32)))]))
        refine OGo.to (fun _ k => XS.iconst X_428.here hx rfl (hb hby d2_70) k) ?_
        show OGo p e below _ (T_428.setTop (mkF m 71 #[.val (.int p1), .val (.int p2), .val (.int p3), .val (.int p4), .val (.int p5), .val (.int p6), .val (.ref b_2), .val (.int (0 : Int32))] [(.int (1 : Int32)), (.int (own_bit p1 (3 : Int32)))]))
        by_cases hc71__429 : (own_bit p1 (3 : Int32)) = (1 : Int32)
        ·  -- pc 71: yes
          refine OGo.to (fun _ k => XS.icmpNo X_428.here hx rfl (hb hby d2_71) rfl (teq hc71__429).2 k) ?_
          show OGo p e below _ (T_428.setTop (mkF m 74 #[.val (.int p1), .val (.int p2), .val (.int p3), .val (.int p4), .val (.int p5), .val (.int p6), .val (.ref b_2), .val (.int (0 : Int32))] []))
          refine OGo.to (fun _ k => XS.aload X_428.here hx rfl (hb hby d2_74) rfl rfl k) ?_
          show OGo p e below _ (T_428.setTop (mkF m 76 #[.val (.int p1), .val (.int p2), .val (.int p3), .val (.int p4), .val (.int p5), .val (.int p6), .val (.ref b_2), .val (.int (0 : Int32))] [(.ref b_2)]))
          refine OGo.to (fun _ k => XS.iload X_428.here hx rfl (hb hby d2_76) rfl k) ?_
          show OGo p e below _ (T_428.setTop (mkF m 78 #[.val (.int p1), .val (.int p2), .val (.int p3), .val (.int p4), .val (.int p5), .val (.int p6), .val (.ref b_2), .val (.int (0 : Int32))] [(.int (0 : Int32)), (.ref b_2)]))
          refine OGo.to (fun _ k => XS.iload X_428.here hx rfl (hb hby d2_78) rfl k) ?_
          show OGo p e below _ (T_428.setTop (mkF m 80 #[.val (.int p1), .val (.int p2), .val (.int p3), .val (.int p4), .val (.int p5), .val (.int p6), .val (.ref b_2), .val (.int (0 : Int32))] [(.int p5), (.int (0 : Int32)), (.ref b_2)]))
          have Vq_430 := V_2
          obtain ⟨cl_430, Ar_430, q_430, S_430, M_430, Hs_430, G_430⟩ := Vq_430
          have i_432 : ((own_bit p1 (0 : Int32))).toInt ≠ 1 := own_ine hc17__6
          have i_433 : ((own_bit p1 (1 : Int32))).toInt ≠ 1 := own_ine hc35__247
          have i_434 : ((own_bit p1 (2 : Int32))).toInt ≠ 1 := own_ine hc53__368
          have i_435 : ((own_bit p1 (3 : Int32))).toInt = 1 := own_ieq hc71__429
          have hin_431 : ¬ ((0 : Int32) < 0 ∨ cl_430.slots.size ≤ ((0 : Int32)).toNatClampNeg) := inb_of S_430 ⟨by decide, own_lti (show (0 : Int) < (own_count p1).toInt by rw [own_countI p1]; omega)⟩
          obtain ⟨T_431, h_431, X_431, e_431, W_431, st_431⟩ := stI X_428 hx hZ e_428 Ar_430 (j := (0 : Int32)) hin_431 (g := (mkF m 80 #[.val (.int p1), .val (.int p2), .val (.int p3), .val (.int p4), .val (.int p5), .val (.int p6), .val (.ref b_2), .val (.int (0 : Int32))] [(.int p5), (.int (0 : Int32)), (.ref b_2)])) rfl rfl (hb hby d2_80)
          refine OGo.to st_431 ?_
          have V_431 : Arv Z h_431 b_2 k_2 .int (own_count p1) [(.int p5), (.int (0 : Int32)), (.int (0 : Int32)), (.int (0 : Int32)), (.int (0 : Int32))] (.int (0 : Int32)) := Arv.set Ar_430 q_430 S_430 M_430 Hs_430 G_430 rfl W_431 0 rfl (Nat.le_of_ble_eq_true rfl)
          have N_431 := Fr.snoc X_431 N_428 g_b_2
          have z_436 : n0 ≤ h_431.size := Nat.le_trans z_3 (Keep.of_wr W_431).1
          have K_437 : Keep h0 h_431 [] := K_4.wr W_431 (Or.inr sz_b_2)
          show OGo p e below _ (T_431.setTop (mkF m 81 #[.val (.int p1), .val (.int p2), .val (.int p3), .val (.int p4), .val (.int p5), .val (.int p6), .val (.ref b_2), .val (.int (0 : Int32))] []))
          refine OGo.to (fun _ k => XS.iinc X_431.here hx rfl (hb hby d2_81) rfl (l' := #[.val (.int p1), .val (.int p2), .val (.int p3), .val (.int p4), .val (.int p5), .val (.int p6), .val (.ref b_2), .val (.int (1 : Int32))]) rfl k) ?_
          show OGo p e below _ (T_431.setTop (mkF m 84 #[.val (.int p1), .val (.int p2), .val (.int p3), .val (.int p4), .val (.int p5), .val (.int p6), .val (.ref b_2), .val (.int (1 : Int32))] []))
          refine OGo.to (fun _ k => XS.iloadN X_431.here hx rfl (hb hby d2_84) rfl k) ?_
          show OGo p e below _ (T_431.setTop (mkF m 85 #[.val (.int p1), .val (.int p2), .val (.int p3), .val (.int p4), .val (.int p5), .val (.int p6), .val (.ref b_2), .val (.int (1 : Int32))] [(.int p1)]))
          refine OGo.to (fun _ k => XS.iconst X_431.here hx rfl (hb hby d2_85) k) ?_
          show OGo p e below _ (T_431.setTop (mkF m 86 #[.val (.int p1), .val (.int p2), .val (.int p3), .val (.int p4), .val (.int p5), .val (.int p6), .val (.ref b_2), .val (.int (1 : Int32))] [(.int (4 : Int32)), (.int p1)]))
          obtain ⟨_, T_438, Lc_438, X_438, hQ_438, st_438⟩ := own_un X_431 (Q := Q4 Z p1 (4 : Int32) h_431 n0) (rc := 0) (rs := 0) (W := fun v B => ∀ target, Steps p.tables e below (B.setTop { (mkF m 86 #[.val (.int p1), .val (.int p2), .val (.int p3), .val (.int p4), .val (.int p5), .val (.int p6), .val (.ref b_2), .val (.int (1 : Int32))] [(.int (4 : Int32)), (.int p1)]) with pc := 89, stack := v.toList ++ [] }) target → Steps p.tables e below (T_431.setTop (mkF m 86 #[.val (.int p1), .val (.int p2), .val (.int p3), .val (.int p4), .val (.int p5), .val (.int p6), .val (.ref b_2), .val (.int (1 : Int32))] [(.int (4 : Int32)), (.int p1)])) target) <| Jvm.LawKit.callS X_431 hx (y := (⟨"com/example/cogram/cogram/index/PostingsEntriesPinLaw", "bit", "(II)I"⟩ : MethodName)) hown (mvT hZ (hw _ (List.mem_of_getElem? (i := 12) rfl))) (mvT hZ (hw _ (List.mem_of_getElem? (i := 13) rfl))) (mvT hZ (hw _ (List.mem_of_getElem? (i := 7) rfl))) (mvT hZ (hw _ (List.mem_of_getElem? (i := 14) rfl))) (by decide) (backOf (W := 0) (rm4 l Z a0 hw [] p1 (4 : Int32) h_431 n0 z_436 ) hZ (hw _ (List.mem_of_getElem? (i := 14) rfl)) (hw _ (List.mem_of_getElem? (i := 7) rfl)) (by decide) (by decide)) (g := (mkF m 86 #[.val (.int p1), .val (.int p2), .val (.int p3), .val (.int p4), .val (.int p5), .val (.int p6), .val (.ref b_2), .val (.int (1 : Int32))] [(.int (4 : Int32)), (.int p1)])) rfl (by rw [hml]; rfl) (argsL := [(.int p1), (.int (4 : Int32))]) (rest := []) (lenOf pd_0 rfl) rfl (by show 2 * 0 + _ ≤ _; exact Nat.le_of_eq rfl) (hb hby d2_86) (fun _ _ => ⟨rfl, e_431, (by decide : 1 + 0 ≤ _), (by decide : 5 + 0 ≤ _)⟩)
          obtain ⟨rfl, N_438q, e_438⟩ := hQ_438
          have N_438 := Fr.app N_431 N_438q
          refine OGo.to st_438 ?_
          show OGo p e below _ (T_438.setTop (mkF m 89 #[.val (.int p1), .val (.int p2), .val (.int p3), .val (.int p4), .val (.int p5), .val (.int p6), .val (.ref b_2), .val (.int (1 : Int32))] [(.int (own_bit p1 (4 : Int32)))]))
          refine OGo.to (fun _ k => XS.iconst X_438.here hx rfl (hb hby d2_89) k) ?_
          show OGo p e below _ (T_438.setTop (mkF m 90 #[.val (.int p1), .val (.int p2), .val (.int p3), .val (.int p4), .val (.int p5), .val (.int p6), .val (.ref b_2), .val (.int (1 : Int32))] [(.int (1 : Int32)), (.int (own_bit p1 (4 : Int32)))]))
          by_cases hc90__439 : (own_bit p1 (4 : Int32)) = (1 : Int32)
          ·  -- pc 90: yes
            refine OGo.to (fun _ k => XS.icmpNo X_438.here hx rfl (hb hby d2_90) rfl (teq hc90__439).2 k) ?_
            show OGo p e below _ (T_438.setTop (mkF m 93 #[.val (.int p1), .val (.int p2), .val (.int p3), .val (.int p4), .val (.int p5), .val (.int p6), .val (.ref b_2), .val (.int (1 : Int32))] []))
            refine OGo.to (fun _ k => XS.aload X_438.here hx rfl (hb hby d2_93) rfl rfl k) ?_
            show OGo p e below _ (T_438.setTop (mkF m 95 #[.val (.int p1), .val (.int p2), .val (.int p3), .val (.int p4), .val (.int p5), .val (.int p6), .val (.ref b_2), .val (.int (1 : Int32))] [(.ref b_2)]))
            refine OGo.to (fun _ k => XS.iload X_438.here hx rfl (hb hby d2_95) rfl k) ?_
            show OGo p e below _ (T_438.setTop (mkF m 97 #[.val (.int p1), .val (.int p2), .val (.int p3), .val (.int p4), .val (.int p5), .val (.int p6), .val (.ref b_2), .val (.int (1 : Int32))] [(.int (1 : Int32)), (.ref b_2)]))
            refine OGo.to (fun _ k => XS.iload X_438.here hx rfl (hb hby d2_97) rfl k) ?_
            show OGo p e below _ (T_438.setTop (mkF m 99 #[.val (.int p1), .val (.int p2), .val (.int p3), .val (.int p4), .val (.int p5), .val (.int p6), .val (.ref b_2), .val (.int (1 : Int32))] [(.int p6), (.int (1 : Int32)), (.ref b_2)]))
            have Vq_440 := V_431
            obtain ⟨cl_440, Ar_440, q_440, S_440, M_440, Hs_440, G_440⟩ := Vq_440
            have i_442 : ((own_bit p1 (0 : Int32))).toInt ≠ 1 := own_ine hc17__6
            have i_443 : ((own_bit p1 (1 : Int32))).toInt ≠ 1 := own_ine hc35__247
            have i_444 : ((own_bit p1 (2 : Int32))).toInt ≠ 1 := own_ine hc53__368
            have i_445 : ((own_bit p1 (3 : Int32))).toInt = 1 := own_ieq hc71__429
            have i_446 : ((own_bit p1 (4 : Int32))).toInt = 1 := own_ieq hc90__439
            have hin_441 : ¬ ((1 : Int32) < 0 ∨ cl_440.slots.size ≤ ((1 : Int32)).toNatClampNeg) := inb_of S_440 ⟨by decide, own_lti (show (1 : Int) < (own_count p1).toInt by rw [own_countI p1]; omega)⟩
            obtain ⟨T_441, h_441, X_441, e_441, W_441, st_441⟩ := stI X_438 hx hZ e_438 Ar_440 (j := (1 : Int32)) hin_441 (g := (mkF m 99 #[.val (.int p1), .val (.int p2), .val (.int p3), .val (.int p4), .val (.int p5), .val (.int p6), .val (.ref b_2), .val (.int (1 : Int32))] [(.int p6), (.int (1 : Int32)), (.ref b_2)])) rfl rfl (hb hby d2_99)
            refine OGo.to st_441 ?_
            have V_441 : Arv Z h_441 b_2 k_2 .int (own_count p1) [(.int p5), (.int p6), (.int (0 : Int32)), (.int (0 : Int32)), (.int (0 : Int32))] (.int (0 : Int32)) := Arv.set Ar_440 q_440 S_440 M_440 Hs_440 G_440 rfl W_441 1 rfl (Nat.le_of_ble_eq_true rfl)
            have N_441 := Fr.snoc X_441 N_438 g_b_2
            have z_447 : n0 ≤ h_441.size := Nat.le_trans z_436 (Keep.of_wr W_441).1
            have K_448 : Keep h0 h_441 [] := K_437.wr W_441 (Or.inr sz_b_2)
            show OGo p e below _ (T_441.setTop (mkF m 100 #[.val (.int p1), .val (.int p2), .val (.int p3), .val (.int p4), .val (.int p5), .val (.int p6), .val (.ref b_2), .val (.int (1 : Int32))] []))
            refine OGo.to (fun _ k => XS.iinc X_441.here hx rfl (hb hby d2_100) rfl (l' := #[.val (.int p1), .val (.int p2), .val (.int p3), .val (.int p4), .val (.int p5), .val (.int p6), .val (.ref b_2), .val (.int (2 : Int32))]) rfl k) ?_
            show OGo p e below _ (T_441.setTop (mkF m 103 #[.val (.int p1), .val (.int p2), .val (.int p3), .val (.int p4), .val (.int p5), .val (.int p6), .val (.ref b_2), .val (.int (2 : Int32))] []))
            refine OGo.to (fun _ k => XS.aload X_441.here hx rfl (hb hby d2_103) rfl rfl k) ?_
            show OGo p e below _ (T_441.setTop (mkF m 105 #[.val (.int p1), .val (.int p2), .val (.int p3), .val (.int p4), .val (.int p5), .val (.int p6), .val (.ref b_2), .val (.int (2 : Int32))] [(.ref b_2)]))
            refine OGo.ret (Q := Q2 Z p1 p2 p3 p4 p5 p6 h0 n0) X_441 (some (.ref b_2)) (fun h => by rw [Bd.returns] at h; cases h) Bd.notSynchronized (fun fs hr => own_retA X_441 hx Bd.returns rfl rfl (hb hby d2_105) hr) ?_ (by decide) (by decide)
            have hidx : own_idx p1 = [3, 4] := by unfold own_idx; rw [if_neg hc17__6, if_neg hc35__247, if_neg hc53__368, if_pos hc71__429, if_pos hc90__439]; rfl
            have i_449 : ((own_bit p1 (0 : Int32))).toInt ≠ 1 := own_ine hc17__6
            have i_450 : ((own_bit p1 (1 : Int32))).toInt ≠ 1 := own_ine hc35__247
            have i_451 : ((own_bit p1 (2 : Int32))).toInt ≠ 1 := own_ine hc53__368
            have i_452 : ((own_bit p1 (3 : Int32))).toInt = 1 := own_ieq hc71__429
            have i_453 : ((own_bit p1 (4 : Int32))).toInt = 1 := own_ieq hc90__439
            have hsel : ([p5, p6] : List Int32) = (own_sel p1 p2 p3 p4 p5 p6) := by unfold own_sel; rw [hidx]; rfl
            have hcnt : own_count p1 = own_i (own_sel p1 p2 p3 p4 p5 p6).length := by rw [← hsel]; exact own_eqi (show (own_count p1).toInt = (2 : Int) by rw [own_countI p1]; omega)
            show Q2 Z p1 p2 p3 p4 p5 p6 h0 n0 _ T_441.heap _
            rw [e_441]
            exact ⟨b_2, k_2, rfl, N_441, K_448, g_b_2, sz_b_2, (own_conv (L := ([p5, p6] : List Int32)) (r := 3) V_441 hcnt hsel)⟩
          ·  -- pc 90: no
            refine OGo.to (fun _ k => XS.icmpYes X_438.here hx rfl (pc0 := 90) (pc' := 103) rfl (hb hby d2_90) rfl (feq hc90__439).2 (by decide) (by decide) k) ?_
            show OGo p e below _ (T_438.setTop (mkF m 103 #[.val (.int p1), .val (.int p2), .val (.int p3), .val (.int p4), .val (.int p5), .val (.int p6), .val (.ref b_2), .val (.int (1 : Int32))] []))
            refine OGo.to (fun _ k => XS.aload X_438.here hx rfl (hb hby d2_103) rfl rfl k) ?_
            show OGo p e below _ (T_438.setTop (mkF m 105 #[.val (.int p1), .val (.int p2), .val (.int p3), .val (.int p4), .val (.int p5), .val (.int p6), .val (.ref b_2), .val (.int (1 : Int32))] [(.ref b_2)]))
            refine OGo.ret (Q := Q2 Z p1 p2 p3 p4 p5 p6 h0 n0) X_438 (some (.ref b_2)) (fun h => by rw [Bd.returns] at h; cases h) Bd.notSynchronized (fun fs hr => own_retA X_438 hx Bd.returns rfl rfl (hb hby d2_105) hr) ?_ (by decide) (by decide)
            have hidx : own_idx p1 = [3] := by unfold own_idx; rw [if_neg hc17__6, if_neg hc35__247, if_neg hc53__368, if_pos hc71__429, if_neg hc90__439]; rfl
            have i_454 : ((own_bit p1 (0 : Int32))).toInt ≠ 1 := own_ine hc17__6
            have i_455 : ((own_bit p1 (1 : Int32))).toInt ≠ 1 := own_ine hc35__247
            have i_456 : ((own_bit p1 (2 : Int32))).toInt ≠ 1 := own_ine hc53__368
            have i_457 : ((own_bit p1 (3 : Int32))).toInt = 1 := own_ieq hc71__429
            have i_458 : ((own_bit p1 (4 : Int32))).toInt ≠ 1 := own_ine hc90__439
            have hsel : ([p5] : List Int32) = (own_sel p1 p2 p3 p4 p5 p6) := by unfold own_sel; rw [hidx]; rfl
            have hcnt : own_count p1 = own_i (own_sel p1 p2 p3 p4 p5 p6).length := by rw [← hsel]; exact own_eqi (show (own_count p1).toInt = (1 : Int) by rw [own_countI p1]; omega)
            show Q2 Z p1 p2 p3 p4 p5 p6 h0 n0 _ T_438.heap _
            rw [e_438]
            exact ⟨b_2, k_2, rfl, N_438, K_437, g_b_2, sz_b_2, (own_conv (L := ([p5] : List Int32)) (r := 4) V_431 hcnt hsel)⟩
        ·  -- pc 71: no
          refine OGo.to (fun _ k => XS.icmpYes X_428.here hx rfl (pc0 := 71) (pc' := 84) rfl (hb hby d2_71) rfl (feq hc71__429).2 (by decide) (by decide) k) ?_
          show OGo p e below _ (T_428.setTop (mkF m 84 #[.val (.int p1), .val (.int p2), .val (.int p3), .val (.int p4), .val (.int p5), .val (.int p6), .val (.ref b_2), .val (.int (0 : Int32))] []))
          refine OGo.to (fun _ k => XS.iloadN X_428.here hx rfl (hb hby d2_84) rfl k) ?_
          show OGo p e below _ (T_428.setTop (mkF m 85 #[.val (.int p1), .val (.int p2), .val (.int p3), .val (.int p4), .val (.int p5), .val (.int p6), .val (.ref b_2), .val (.int (0 : Int32))] [(.int p1)]))
          refine OGo.to (fun _ k => XS.iconst X_428.here hx rfl (hb hby d2_85) k) ?_
          show OGo p e below _ (T_428.setTop (mkF m 86 #[.val (.int p1), .val (.int p2), .val (.int p3), .val (.int p4), .val (.int p5), .val (.int p6), .val (.ref b_2), .val (.int (0 : Int32))] [(.int (4 : Int32)), (.int p1)]))
          obtain ⟨_, T_459, Lc_459, X_459, hQ_459, st_459⟩ := own_un X_428 (Q := Q4 Z p1 (4 : Int32) h_2 n0) (rc := 0) (rs := 0) (W := fun v B => ∀ target, Steps p.tables e below (B.setTop { (mkF m 86 #[.val (.int p1), .val (.int p2), .val (.int p3), .val (.int p4), .val (.int p5), .val (.int p6), .val (.ref b_2), .val (.int (0 : Int32))] [(.int (4 : Int32)), (.int p1)]) with pc := 89, stack := v.toList ++ [] }) target → Steps p.tables e below (T_428.setTop (mkF m 86 #[.val (.int p1), .val (.int p2), .val (.int p3), .val (.int p4), .val (.int p5), .val (.int p6), .val (.ref b_2), .val (.int (0 : Int32))] [(.int (4 : Int32)), (.int p1)])) target) <| Jvm.LawKit.callS X_428 hx (y := (⟨"com/example/cogram/cogram/index/PostingsEntriesPinLaw", "bit", "(II)I"⟩ : MethodName)) hown (mvT hZ (hw _ (List.mem_of_getElem? (i := 12) rfl))) (mvT hZ (hw _ (List.mem_of_getElem? (i := 13) rfl))) (mvT hZ (hw _ (List.mem_of_getElem? (i := 7) rfl))) (mvT hZ (hw _ (List.mem_of_getElem? (i := 14) rfl))) (by decide) (backOf (W := 0) (rm4 l Z a0 hw [] p1 (4 : Int32) h_2 n0 z_3 ) hZ (hw _ (List.mem_of_getElem? (i := 14) rfl)) (hw _ (List.mem_of_getElem? (i := 7) rfl)) (by decide) (by decide)) (g := (mkF m 86 #[.val (.int p1), .val (.int p2), .val (.int p3), .val (.int p4), .val (.int p5), .val (.int p6), .val (.ref b_2), .val (.int (0 : Int32))] [(.int (4 : Int32)), (.int p1)])) rfl (by rw [hml]; rfl) (argsL := [(.int p1), (.int (4 : Int32))]) (rest := []) (lenOf pd_0 rfl) rfl (by show 2 * 0 + _ ≤ _; exact Nat.le_of_eq rfl) (hb hby d2_86) (fun _ _ => ⟨rfl, e_428, (by decide : 1 + 0 ≤ _), (by decide : 5 + 0 ≤ _)⟩)
          obtain ⟨rfl, N_459q, e_459⟩ := hQ_459
          have N_459 := Fr.app N_428 N_459q
          refine OGo.to st_459 ?_
          show OGo p e below _ (T_459.setTop (mkF m 89 #[.val (.int p1), .val (.int p2), .val (.int p3), .val (.int p4), .val (.int p5), .val (.int p6), .val (.ref b_2), .val (.int (0 : Int32))] [(.int (own_bit p1 (4 : Int32)))]))
          refine OGo.to (fun _ k => XS.iconst X_459.here hx rfl (hb hby d2_89) k) ?_
          show OGo p e below _ (T_459.setTop (mkF m 90 #[.val (.int p1), .val (.int p2), .val (.int p3), .val (.int p4), .val (.int p5), .val (.int p6), .val (.ref b_2), .val (.int (0 : Int32))] [(.int (1 : Int32)), (.int (own_bit p1 (4 : Int32)))]))
          by_cases hc90__460 : (own_bit p1 (4 : Int32)) = (1 : Int32)
          ·  -- pc 90: yes
            refine OGo.to (fun _ k => XS.icmpNo X_459.here hx rfl (hb hby d2_90) rfl (teq hc90__460).2 k) ?_
            show OGo p e below _ (T_459.setTop (mkF m 93 #[.val (.int p1), .val (.int p2), .val (.int p3), .val (.int p4), .val (.int p5), .val (.int p6), .val (.ref b_2), .val (.int (0 : Int32))] []))
            refine OGo.to (fun _ k => XS.aload X_459.here hx rfl (hb hby d2_93) rfl rfl k) ?_
            show OGo p e below _ (T_459.setTop (mkF m 95 #[.val (.int p1), .val (.int p2), .val (.int p3), .val (.int p4), .val (.int p5), .val (.int p6), .val (.ref b_2), .val (.int (0 : Int32))] [(.ref b_2)]))
            refine OGo.to (fun _ k => XS.iload X_459.here hx rfl (hb hby d2_95) rfl k) ?_
            show OGo p e below _ (T_459.setTop (mkF m 97 #[.val (.int p1), .val (.int p2), .val (.int p3), .val (.int p4), .val (.int p5), .val (.int p6), .val (.ref b_2), .val (.int (0 : Int32))] [(.int (0 : Int32)), (.ref b_2)]))
            refine OGo.to (fun _ k => XS.iload X_459.here hx rfl (hb hby d2_97) rfl k) ?_
            show OGo p e below _ (T_459.setTop (mkF m 99 #[.val (.int p1), .val (.int p2), .val (.int p3), .val (.int p4), .val (.int p5), .val (.int p6), .val (.ref b_2), .val (.int (0 : Int32))] [(.int p6), (.int (0 : Int32)), (.ref b_2)]))
            have Vq_461 := V_2
            obtain ⟨cl_461, Ar_461, q_461, S_461, M_461, Hs_461, G_461⟩ := Vq_461
            have i_463 : ((own_bit p1 (0 : Int32))).toInt ≠ 1 := own_ine hc17__6
            have i_464 : ((own_bit p1 (1 : Int32))).toInt ≠ 1 := own_ine hc35__247
            have i_465 : ((own_bit p1 (2 : Int32))).toInt ≠ 1 := own_ine hc53__368
            have i_466 : ((own_bit p1 (3 : Int32))).toInt ≠ 1 := own_ine hc71__429
            have i_467 : ((own_bit p1 (4 : Int32))).toInt = 1 := own_ieq hc90__460
            have hin_462 : ¬ ((0 : Int32) < 0 ∨ cl_461.slots.size ≤ ((0 : Int32)).toNatClampNeg) := inb_of S_461 ⟨by decide, own_lti (show (0 : Int) < (own_count p1).toInt by rw [own_countI p1]; omega)⟩
            obtain ⟨T_462, h_462, X_462, e_462, W_462, st_462⟩ := stI X_459 hx hZ e_459 Ar_461 (j := (0 : Int32)) hin_462 (g := (mkF m 99 #[.val (.int p1), .val (.int p2), .val (.int p3), .val (.int p4), .val (.int p5), .val (.int p6), .val (.ref b_2), .val (.int (0 : Int32))] [(.int p6), (.int (0 : Int32)), (.ref b_2)])) rfl rfl (hb hby d2_99)
            refine OGo.to st_462 ?_
            have V_462 : Arv Z h_462 b_2 k_2 .int (own_count p1) [(.int p6), (.int (0 : Int32)), (.int (0 : Int32)), (.int (0 : Int32)), (.int (0 : Int32))] (.int (0 : Int32)) := Arv.set Ar_461 q_461 S_461 M_461 Hs_461 G_461 rfl W_462 0 rfl (Nat.le_of_ble_eq_true rfl)
            have N_462 := Fr.snoc X_462 N_459 g_b_2
            have z_468 : n0 ≤ h_462.size := Nat.le_trans z_3 (Keep.of_wr W_462).1
            have K_469 : Keep h0 h_462 [] := K_4.wr W_462 (Or.inr sz_b_2)
            show OGo p e below _ (T_462.setTop (mkF m 100 #[.val (.int p1), .val (.int p2), .val (.int p3), .val (.int p4), .val (.int p5), .val (.int p6), .val (.ref b_2), .val (.int (0 : Int32))] []))
            refine OGo.to (fun _ k => XS.iinc X_462.here hx rfl (hb hby d2_100) rfl (l' := #[.val (.int p1), .val (.int p2), .val (.int p3), .val (.int p4), .val (.int p5), .val (.int p6), .val (.ref b_2), .val (.int (1 : Int32))]) rfl k) ?_
            show OGo p e below _ (T_462.setTop (mkF m 103 #[.val (.int p1), .val (.int p2), .val (.int p3), .val (.int p4), .val (.int p5), .val (.int p6), .val (.ref b_2), .val (.int (1 : Int32))] []))
            refine OGo.to (fun _ k => XS.aload X_462.here hx rfl (hb hby d2_103) rfl rfl k) ?_
            show OGo p e below _ (T_462.setTop (mkF m 105 #[.val (.int p1), .val (.int p2), .val (.int p3), .val (.int p4), .val (.int p5), .val (.int p6), .val (.ref b_2), .val (.int (1 : Int32))] [(.ref b_2)]))
            refine OGo.ret (Q := Q2 Z p1 p2 p3 p4 p5 p6 h0 n0) X_462 (some (.ref b_2)) (fun h => by rw [Bd.returns] at h; cases h) Bd.notSynchronized (fun fs hr => own_retA X_462 hx Bd.returns rfl rfl (hb hby d2_105) hr) ?_ (by decide) (by decide)
            have hidx : own_idx p1 = [4] := by unfold own_idx; rw [if_neg hc17__6, if_neg hc35__247, if_neg hc53__368, if_neg hc71__429, if_pos hc90__460]; rfl
            have i_470 : ((own_bit p1 (0 : Int32))).toInt ≠ 1 := own_ine hc17__6
            have i_471 : ((own_bit p1 (1 : Int32))).toInt ≠ 1 := own_ine hc35__247
            have i_472 : ((own_bit p1 (2 : Int32))).toInt ≠ 1 := own_ine hc53__368
            have i_473 : ((own_bit p1 (3 : Int32))).toInt ≠ 1 := own_ine hc71__429
            have i_474 : ((own_bit p1 (4 : Int32))).toInt = 1 := own_ieq hc90__460
            have hsel : ([p6] : List Int32) = (own_sel p1 p2 p3 p4 p5 p6) := by unfold own_sel; rw [hidx]; rfl
            have hcnt : own_count p1 = own_i (own_sel p1 p2 p3 p4 p5 p6).length := by rw [← hsel]; exact own_eqi (show (own_count p1).toInt = (1 : Int) by rw [own_countI p1]; omega)
            show Q2 Z p1 p2 p3 p4 p5 p6 h0 n0 _ T_462.heap _
            rw [e_462]
            exact ⟨b_2, k_2, rfl, N_462, K_469, g_b_2, sz_b_2, (own_conv (L := ([p6] : List Int32)) (r := 4) V_462 hcnt hsel)⟩
          ·  -- pc 90: no
            refine OGo.to (fun _ k => XS.icmpYes X_459.here hx rfl (pc0 := 90) (pc' := 103) rfl (hb hby d2_90) rfl (feq hc90__460).2 (by decide) (by decide) k) ?_
            show OGo p e below _ (T_459.setTop (mkF m 103 #[.val (.int p1), .val (.int p2), .val (.int p3), .val (.int p4), .val (.int p5), .val (.int p6), .val (.ref b_2), .val (.int (0 : Int32))] []))
            refine OGo.to (fun _ k => XS.aload X_459.here hx rfl (hb hby d2_103) rfl rfl k) ?_
            show OGo p e below _ (T_459.setTop (mkF m 105 #[.val (.int p1), .val (.int p2), .val (.int p3), .val (.int p4), .val (.int p5), .val (.int p6), .val (.ref b_2), .val (.int (0 : Int32))] [(.ref b_2)]))
            refine OGo.ret (Q := Q2 Z p1 p2 p3 p4 p5 p6 h0 n0) X_459 (some (.ref b_2)) (fun h => by rw [Bd.returns] at h; cases h) Bd.notSynchronized (fun fs hr => own_retA X_459 hx Bd.returns rfl rfl (hb hby d2_105) hr) ?_ (by decide) (by decide)
            have hidx : own_idx p1 = [] := by unfold own_idx; rw [if_neg hc17__6, if_neg hc35__247, if_neg hc53__368, if_neg hc71__429, if_neg hc90__460]; rfl
            have i_475 : ((own_bit p1 (0 : Int32))).toInt ≠ 1 := own_ine hc17__6
            have i_476 : ((own_bit p1 (1 : Int32))).toInt ≠ 1 := own_ine hc35__247
            have i_477 : ((own_bit p1 (2 : Int32))).toInt ≠ 1 := own_ine hc53__368
            have i_478 : ((own_bit p1 (3 : Int32))).toInt ≠ 1 := own_ine hc71__429
            have i_479 : ((own_bit p1 (4 : Int32))).toInt ≠ 1 := own_ine hc90__460
            have hsel : ([] : List Int32) = (own_sel p1 p2 p3 p4 p5 p6) := by unfold own_sel; rw [hidx]; rfl
            have hcnt : own_count p1 = own_i (own_sel p1 p2 p3 p4 p5 p6).length := by rw [← hsel]; exact own_eqi (show (own_count p1).toInt = (0 : Int) by rw [own_countI p1]; omega)
            show Q2 Z p1 p2 p3 p4 p5 p6 h0 n0 _ T_459.heap _
            rw [e_459]
            exact ⟨b_2, k_2, rfl, N_459, K_4, g_b_2, sz_b_2, (own_conv (L := ([] : List Int32)) (r := 5) V_2 hcnt hsel)⟩
theorem d5_0 : decode method_6_code 0 = .ok (.iload_n 2, 1) := by decide +kernel
theorem d5_1 : decode method_6_code 1 = .ok (.iload 4, 2) := by decide +kernel
theorem d5_3 : decode method_6_code 3 = .ok (.invokestatic 36, 3) := by decide +kernel
theorem d5_6 : decode method_6_code 6 = .ok (.ifCond .ne 5, 3) := by decide +kernel
theorem d5_9 : decode method_6_code 9 = .ok (.iload_n 1, 1) := by decide +kernel
theorem d5_10 : decode method_6_code 10 = .ok (.ireturn, 1) := by decide +kernel
theorem d5_11 : decode method_6_code 11 = .ok (.aload_n 0, 1) := by decide +kernel
theorem d5_12 : decode method_6_code 12 = .ok (.iload_n 1, 1) := by decide +kernel
theorem d5_13 : decode method_6_code 13 = .ok (.iload_n 3, 1) := by decide +kernel
theorem d5_14 : decode method_6_code 14 = .ok (.iload 4, 2) := by decide +kernel
theorem d5_16 : decode method_6_code 16 = .ok (.invokestatic 36, 3) := by decide +kernel
theorem d5_19 : decode method_6_code 19 = .ok (.iconst 1, 1) := by decide +kernel
theorem d5_20 : decode method_6_code 20 = .ok (.if_icmp .ne 17, 3) := by decide +kernel
theorem d5_23 : decode method_6_code 23 = .ok (.iload_n 3, 1) := by decide +kernel
theorem d5_24 : decode method_6_code 24 = .ok (.iconst 1, 1) := by decide +kernel
theorem d5_25 : decode method_6_code 25 = .ok (.iload 4, 2) := by decide +kernel
theorem d5_27 : decode method_6_code 27 = .ok (.ishl, 1) := by decide +kernel
theorem d5_28 : decode method_6_code 28 = .ok (.iconst 1, 1) := by decide +kernel
theorem d5_29 : decode method_6_code 29 = .ok (.isub, 1) := by decide +kernel
theorem d5_30 : decode method_6_code 30 = .ok (.iand, 1) := by decide +kernel
theorem d5_31 : decode method_6_code 31 = .ok (.invokestatic 39, 3) := by decide +kernel
theorem d5_34 : decode method_6_code 34 = .ok (.goto 4, 3) := by decide +kernel
theorem d5_37 : decode method_6_code 37 = .ok (.iconst (-1), 1) := by decide +kernel
theorem d5_38 : decode method_6_code 38 = .ok (.iastore, 1) := by decide +kernel
theorem d5_39 : decode method_6_code 39 = .ok (.iload_n 1, 1) := by decide +kernel
theorem d5_40 : decode method_6_code 40 = .ok (.iconst 1, 1) := by decide +kernel
theorem d5_41 : decode method_6_code 41 = .ok (.iadd, 1) := by decide +kernel
theorem d5_42 : decode method_6_code 42 = .ok (.ireturn, 1) := by decide +kernel
theorem ef_put0 (m : MethodId) (x0 : Addr) (x1 : Int32) (x2 : Int32) (x3 : Int32) (x4 : Int32) : entryFrame m #[(.ref x0), (.int x1), (.int x2), (.int x3), (.int x4)] 5 = mkF m 0 #[.val (.ref x0), .val (.int x1), .val (.int x2), .val (.int x3), .val (.int x4)] [] := by first | (simp [entryFrame, mkF, argsToLocals, Value.category]; done) | rfl
def Qput0 (Z : State) (a1 : Addr) (p1 : Int32) (p2 : Int32) (p3 : Int32) (kc : ClassId) (nn : Int32) (outs : List Int32) (h0 : Heap) (n0 : Nat) (v : Option Value) (h : Heap) (L : List Loc) : Prop := v = some (.int (own_i (own_put outs p2 p3 (0 : Int32)).length)) ∧ Fr n0 L ∧ Keep h0 h [a1] ∧ Arv Z h a1 kc .int nn ((own_put outs p2 p3 (0 : Int32)).map Value.int) (.int (0 : Int32))
set_option maxRecDepth 65536 in
set_option maxHeartbeats 40000000 in
theorem rmput0 (l : Launch) (Z : State) (a0 : Array Value) (hw : ∀ d ∈ tables_1, d.before a0 Z = true) (ws : List Jvm.Cond) (a1 : Addr) (p1 : Int32) (p2 : Int32) (p3 : Int32) (kc : ClassId) (nn : Int32) (outs : List Int32) (h0 : Heap) (n0 : Nat) (Z0 : n0 ≤ h0.size) (V1 : Arv Z h0 a1 kc .int nn (outs.map Value.int) (.int (0 : Int32))) (hk1 : p1 = own_i outs.length) (hin : ¬ own_bit p2 (0 : Int32) = (0 : Int32) → own_i outs.length < nn) (hl : outs.length < 100) (g1 : n0 ≤ a1) :
    MetFree l (⟨"com/example/cogram/cogram/index/PostingsEntriesPinLaw", "put", "([IIIII)I"⟩ : MethodName) (head1 (Jvm.Cond.code (⟨"com/example/cogram/cogram/index/PostingsEntriesPinLaw", "put", "([IIIII)I"⟩ : MethodName) method_6_code 5 (some .int) :: ws) ({ frames := 2, cells := 0, slots := 0, locals := 28 } : Room)) (fun a U => a = #[(.ref a1), (.int p1), (.int p2), (.int p3), (.int (0 : Int32))] ∧ Z.Warmed39 U.vm ∧ U.heap = h0) (fun _ _ _ _ _ => True) (fun _ U o U' => ∃ v L, o = .returned v ∧ Qput0 Z a1 p1 p2 p3 kc nn outs h0 n0 v U'.heap L ∧ FrameEnd U o U' L ({ frames := 2, cells := 0, slots := 0, locals := 28 } : Room).cells ({ frames := 2, cells := 0, slots := 0, locals := 28 } : Room).slots) := by
  refine MetFree.of_bodySF (plainFor_of_name pn_0) hisR ?_
  intro p e s m args below meth c s₁ Bd hml0 hP hK
  obtain ⟨rfl, hZ, hh⟩ := hP
  have hx := Bd.exec
  have hby := Bd.bytes
  have hml : c.maxLocals = 5 := hml0
  have hown : s.vm.findClass "com/example/cogram/cogram/index/PostingsEntriesPinLaw" = some m.cls := findClass_of_methodNamed Bd.named
  have hnm := (name_of_methodNamed Bd.named Bd.method).1
  have X0 : Stand p l e ({ frames := 2, cells := 0, slots := 0, locals := 28 } : Room) s m #[(.ref a1), (.int p1), (.int p2), (.int p3), (.int (0 : Int32))] below meth c s₁ [] 0 0 := Stand.of_body Bd
  have e0 : s₁.heap = h0 := by rw [← hh, Bd.state]; rfl
  have N0 := Fr.nil n0
  show OGo p e below (fun s₂ o => ∃ v L, o = .returned v ∧ Qput0 Z a1 p1 p2 p3 kc nn outs h0 n0 v s₂.heap L ∧ FrameEnd s o s₂ L ({ frames := 2, cells := 0, slots := 0, locals := 28 } : Room).cells ({ frames := 2, cells := 0, slots := 0, locals := 28 } : Room).slots) _
  refine OGo.to (fun _ k => castTop (ef_put0 m a1 p1 p2 p3 (0 : Int32)) k) ?_
  rcases hk1 with rfl
  ·
    show OGo p e below _ (s₁.setTop (mkF m 0 #[.val (.ref a1), .val (.int (own_i outs.length)), .val (.int p2), .val (.int p3), .val (.int (0 : Int32))] []))
    refine OGo.to (fun _ k => XS.iloadN X0.here hx rfl (hb hby d5_0) rfl k) ?_
    show OGo p e below _ (s₁.setTop (mkF m 1 #[.val (.ref a1), .val (.int (own_i outs.length)), .val (.int p2), .val (.int p3), .val (.int (0 : Int32))] [(.int p2)]))
    refine OGo.to (fun _ k => XS.iload X0.here hx rfl (hb hby d5_1) rfl k) ?_
    show OGo p e below _ (s₁.setTop (mkF m 3 #[.val (.ref a1), .val (.int (own_i outs.length)), .val (.int p2), .val (.int p3), .val (.int (0 : Int32))] [(.int (0 : Int32)), (.int p2)]))
    obtain ⟨_, T_1, Lc_1, X_1, hQ_1, st_1⟩ := own_un X0 (Q := Q4 Z p2 (0 : Int32) h0 n0) (rc := 0) (rs := 0) (W := fun v B => ∀ target, Steps p.tables e below (B.setTop { (mkF m 3 #[.val (.ref a1), .val (.int (own_i outs.length)), .val (.int p2), .val (.int p3), .val (.int (0 : Int32))] [(.int (0 : Int32)), (.int p2)]) with pc := 6, stack := v.toList ++ [] }) target → Steps p.tables e below (s₁.setTop (mkF m 3 #[.val (.ref a1), .val (.int (own_i outs.length)), .val (.int p2), .val (.int p3), .val (.int (0 : Int32))] [(.int (0 : Int32)), (.int p2)])) target) <| Jvm.LawKit.callS X0 hx (y := (⟨"com/example/cogram/cogram/index/PostingsEntriesPinLaw", "bit", "(II)I"⟩ : MethodName)) hown (mvT hZ (hw _ (List.mem_of_getElem? (i := 12) rfl))) (mvT hZ (hw _ (List.mem_of_getElem? (i := 13) rfl))) (mvT hZ (hw _ (List.mem_of_getElem? (i := 7) rfl))) (mvT hZ (hw _ (List.mem_of_getElem? (i := 14) rfl))) (by decide) (backOf (W := 0) (rm4 l Z a0 hw [] p2 (0 : Int32) h0 n0 Z0 ) hZ (hw _ (List.mem_of_getElem? (i := 14) rfl)) (hw _ (List.mem_of_getElem? (i := 7) rfl)) (by decide) (by decide)) (g := (mkF m 3 #[.val (.ref a1), .val (.int (own_i outs.length)), .val (.int p2), .val (.int p3), .val (.int (0 : Int32))] [(.int (0 : Int32)), (.int p2)])) rfl (by rw [hml]; rfl) (argsL := [(.int p2), (.int (0 : Int32))]) (rest := []) (lenOf pd_0 rfl) rfl (by show 2 * 0 + _ ≤ _; exact Nat.le_of_eq rfl) (hb hby d5_3) (fun _ _ => ⟨rfl, e0, (by decide : 0 + 0 ≤ _), (by decide : 0 + 0 ≤ _)⟩)
    obtain ⟨rfl, N_1q, e_1⟩ := hQ_1
    have N_1 := Fr.app N0 N_1q
    refine OGo.to st_1 ?_
    show OGo p e below _ (T_1.setTop (mkF m 6 #[.val (.ref a1), .val (.int (own_i outs.length)), .val (.int p2), .val (.int p3), .val (.int (0 : Int32))] [(.int (own_bit p2 (0 : Int32)))]))
    by_cases hc6__2 : (own_bit p2 (0 : Int32)) = (0 : Int32)
    ·  -- pc 6: yes
      refine OGo.to (fun _ k => XS.ifNo X_1.here hx rfl (hb hby d5_6) rfl ((if0 _ _).trans (teq hc6__2).2) k) ?_
      show OGo p e below _ (T_1.setTop (mkF m 9 #[.val (.ref a1), .val (.int (own_i outs.length)), .val (.int p2), .val (.int p3), .val (.int (0 : Int32))] []))
      refine OGo.to (fun _ k => XS.iloadN X_1.here hx rfl (hb hby d5_9) rfl k) ?_
      show OGo p e below _ (T_1.setTop (mkF m 10 #[.val (.ref a1), .val (.int (own_i outs.length)), .val (.int p2), .val (.int p3), .val (.int (0 : Int32))] [(.int (own_i outs.length))]))
      refine OGo.ret (Q := Qput0 Z a1 (own_i outs.length) p2 p3 kc nn outs h0 n0) X_1 (some (.int (own_i outs.length))) (fun h => by rw [Bd.returns] at h; cases h) Bd.notSynchronized (fun fs hr => retI X_1 hx Bd.returns (hb hby d5_10) hr) ?_ (by decide) (by decide)
      show Qput0 Z a1 (own_i outs.length) p2 p3 kc nn outs h0 n0 _ T_1.heap _
      rw [e_1]
      exact ⟨congrArg (fun z => some (Value.int z)) (show (own_i outs.length) = (own_i (own_put outs p2 p3 (0 : Int32)).length) from congrArg (fun z : List Int32 => own_i z.length) ((own_put0 (o := outs) (hm := p3) hc6__2).symm)), N_1, (Keep.refl h0 [a1]), (own_castV V1 ((own_put0 (o := outs) (hm := p3) hc6__2).symm))⟩
    ·  -- pc 6: no
      refine OGo.to (fun _ k => XS.ifYes X_1.here hx rfl (pc0 := 6) (pc' := 11) rfl (hb hby d5_6) rfl ((if0 _ _).trans (feq hc6__2).2) (by decide) (by decide) k) ?_
      show OGo p e below _ (T_1.setTop (mkF m 11 #[.val (.ref a1), .val (.int (own_i outs.length)), .val (.int p2), .val (.int p3), .val (.int (0 : Int32))] []))
      refine OGo.to (fun _ k => XS.aloadN X_1.here hx rfl (hb hby d5_11) rfl rfl k) ?_
      show OGo p e below _ (T_1.setTop (mkF m 12 #[.val (.ref a1), .val (.int (own_i outs.length)), .val (.int p2), .val (.int p3), .val (.int (0 : Int32))] [(.ref a1)]))
      refine OGo.to (fun _ k => XS.iloadN X_1.here hx rfl (hb hby d5_12) rfl k) ?_
      show OGo p e below _ (T_1.setTop (mkF m 13 #[.val (.ref a1), .val (.int (own_i outs.length)), .val (.int p2), .val (.int p3), .val (.int (0 : Int32))] [(.int (own_i outs.length)), (.ref a1)]))
      refine OGo.to (fun _ k => XS.iloadN X_1.here hx rfl (hb hby d5_13) rfl k) ?_
      show OGo p e below _ (T_1.setTop (mkF m 14 #[.val (.ref a1), .val (.int (own_i outs.length)), .val (.int p2), .val (.int p3), .val (.int (0 : Int32))] [(.int p3), (.int (own_i outs.length)), (.ref a1)]))
      refine OGo.to (fun _ k => XS.iload X_1.here hx rfl (hb hby d5_14) rfl k) ?_
      show OGo p e below _ (T_1.setTop (mkF m 16 #[.val (.ref a1), .val (.int (own_i outs.length)), .val (.int p2), .val (.int p3), .val (.int (0 : Int32))] [(.int (0 : Int32)), (.int p3), (.int (own_i outs.length)), (.ref a1)]))
      obtain ⟨_, T_3, Lc_3, X_3, hQ_3, st_3⟩ := own_un X_1 (Q := Q4 Z p3 (0 : Int32) h0 n0) (rc := 0) (rs := 0) (W := fun v B => ∀ target, Steps p.tables e below (B.setTop { (mkF m 16 #[.val (.ref a1), .val (.int (own_i outs.length)), .val (.int p2), .val (.int p3), .val (.int (0 : Int32))] [(.int (0 : Int32)), (.int p3), (.int (own_i outs.length)), (.ref a1)]) with pc := 19, stack := v.toList ++ [(.int (own_i outs.length)), (.ref a1)] }) target → Steps p.tables e below (T_1.setTop (mkF m 16 #[.val (.ref a1), .val (.int (own_i outs.length)), .val (.int p2), .val (.int p3), .val (.int (0 : Int32))] [(.int (0 : Int32)), (.int p3), (.int (own_i outs.length)), (.ref a1)])) target) <| Jvm.LawKit.callS X_1 hx (y := (⟨"com/example/cogram/cogram/index/PostingsEntriesPinLaw", "bit", "(II)I"⟩ : MethodName)) hown (mvT hZ (hw _ (List.mem_of_getElem? (i := 12) rfl))) (mvT hZ (hw _ (List.mem_of_getElem? (i := 13) rfl))) (mvT hZ (hw _ (List.mem_of_getElem? (i := 7) rfl))) (mvT hZ (hw _ (List.mem_of_getElem? (i := 14) rfl))) (by decide) (backOf (W := 2) (rm4 l Z a0 hw [] p3 (0 : Int32) h0 n0 Z0 ) hZ (hw _ (List.mem_of_getElem? (i := 14) rfl)) (hw _ (List.mem_of_getElem? (i := 7) rfl)) (by decide) (by decide)) (g := (mkF m 16 #[.val (.ref a1), .val (.int (own_i outs.length)), .val (.int p2), .val (.int p3), .val (.int (0 : Int32))] [(.int (0 : Int32)), (.int p3), (.int (own_i outs.length)), (.ref a1)])) rfl (by rw [hml]; rfl) (argsL := [(.int p3), (.int (0 : Int32))]) (rest := [(.int (own_i outs.length)), (.ref a1)]) (lenOf pd_0 rfl) rfl (by show 2 * 0 + _ ≤ _; exact Nat.le_of_eq rfl) (hb hby d5_16) (fun _ _ => ⟨rfl, e_1, (by decide : 0 + 0 ≤ _), (by decide : 0 + 0 ≤ _)⟩)
      obtain ⟨rfl, N_3q, e_3⟩ := hQ_3
      have N_3 := Fr.app N_1 N_3q
      refine OGo.to st_3 ?_
      show OGo p e below _ (T_3.setTop (mkF m 19 #[.val (.ref a1), .val (.int (own_i outs.length)), .val (.int p2), .val (.int p3), .val (.int (0 : Int32))] [(.int (own_bit p3 (0 : Int32))), (.int (own_i outs.length)), (.ref a1)]))
      refine OGo.to (fun _ k => XS.iconst X_3.here hx rfl (hb hby d5_19) k) ?_
      show OGo p e below _ (T_3.setTop (mkF m 20 #[.val (.ref a1), .val (.int (own_i outs.length)), .val (.int p2), .val (.int p3), .val (.int (0 : Int32))] [(.int (1 : Int32)), (.int (own_bit p3 (0 : Int32))), (.int (own_i outs.length)), (.ref a1)]))
      by_cases hc20__4 : (own_bit p3 (0 : Int32)) = (1 : Int32)
      ·  -- pc 20: yes
        refine OGo.to (fun _ k => XS.icmpNo X_3.here hx rfl (hb hby d5_20) rfl (teq hc20__4).2 k) ?_
        show OGo p e below _ (T_3.setTop (mkF m 23 #[.val (.ref a1), .val (.int (own_i outs.length)), .val (.int p2), .val (.int p3), .val (.int (0 : Int32))] [(.int (own_i outs.length)), (.ref a1)]))
        refine OGo.to (fun _ k => XS.iloadN X_3.here hx rfl (hb hby d5_23) rfl k) ?_
        show OGo p e below _ (T_3.setTop (mkF m 24 #[.val (.ref a1), .val (.int (own_i outs.length)), .val (.int p2), .val (.int p3), .val (.int (0 : Int32))] [(.int p3), (.int (own_i outs.length)), (.ref a1)]))
        refine OGo.to (fun _ k => XS.iconst X_3.here hx rfl (hb hby d5_24) k) ?_
        show OGo p e below _ (T_3.setTop (mkF m 25 #[.val (.ref a1), .val (.int (own_i outs.length)), .val (.int p2), .val (.int p3), .val (.int (0 : Int32))] [(.int (1 : Int32)), (.int p3), (.int (own_i outs.length)), (.ref a1)]))
        refine OGo.to (fun _ k => XS.iload X_3.here hx rfl (hb hby d5_25) rfl k) ?_
        show OGo p e below _ (T_3.setTop (mkF m 27 #[.val (.ref a1), .val (.int (own_i outs.length)), .val (.int p2), .val (.int p3), .val (.int (0 : Int32))] [(.int (0 : Int32)), (.int (1 : Int32)), (.int p3), (.int (own_i outs.length)), (.ref a1)]))
        refine OGo.to (fun _ k => XS.ishl X_3.here hx rfl (hb hby d5_27) rfl k) ?_
        show OGo p e below _ (T_3.setTop (mkF m 28 #[.val (.ref a1), .val (.int (own_i outs.length)), .val (.int p2), .val (.int p3), .val (.int (0 : Int32))] [(.int ((1 : Int32) <<< ((0 : Int32) &&& 31))), (.int p3), (.int (own_i outs.length)), (.ref a1)]))
        refine OGo.to (fun _ k => XS.iconst X_3.here hx rfl (hb hby d5_28) k) ?_
        show OGo p e below _ (T_3.setTop (mkF m 29 #[.val (.ref a1), .val (.int (own_i outs.length)), .val (.int p2), .val (.int p3), .val (.int (0 : Int32))] [(.int (1 : Int32)), (.int ((1 : Int32) <<< ((0 : Int32) &&& 31))), (.int p3), (.int (own_i outs.length)), (.ref a1)]))
        refine OGo.to (fun _ k => XS.isub X_3.here hx rfl (hb hby d5_29) rfl k) ?_
        show OGo p e below _ (T_3.setTop (mkF m 30 #[.val (.ref a1), .val (.int (own_i outs.length)), .val (.int p2), .val (.int p3), .val (.int (0 : Int32))] [(.int (((1 : Int32) <<< ((0 : Int32) &&& 31)) - (1 : Int32))), (.int p3), (.int (own_i outs.length)), (.ref a1)]))
        refine OGo.to (fun _ k => XS.iand X_3.here hx rfl (hb hby d5_30) rfl k) ?_
        show OGo p e below _ (T_3.setTop (mkF m 31 #[.val (.ref a1), .val (.int (own_i outs.length)), .val (.int p2), .val (.int p3), .val (.int (0 : Int32))] [(.int (p3 &&& (((1 : Int32) <<< ((0 : Int32) &&& 31)) - (1 : Int32)))), (.int (own_i outs.length)), (.ref a1)]))
        obtain ⟨_, T_5, Lc_5, X_5, hQ_5, st_5⟩ := own_un X_3 (Q := Q3 Z (p3 &&& (((1 : Int32) <<< ((0 : Int32) &&& 31)) - (1 : Int32))) h0 n0) (rc := 0) (rs := 0) (W := fun v B => ∀ target, Steps p.tables e below (B.setTop { (mkF m 31 #[.val (.ref a1), .val (.int (own_i outs.length)), .val (.int p2), .val (.int p3), .val (.int (0 : Int32))] [(.int (p3 &&& (((1 : Int32) <<< ((0 : Int32) &&& 31)) - (1 : Int32)))), (.int (own_i outs.length)), (.ref a1)]) with pc := 34, stack := v.toList ++ [(.int (own_i outs.length)), (.ref a1)] }) target → Steps p.tables e below (T_3.setTop (mkF m 31 #[.val (.ref a1), .val (.int (own_i outs.length)), .val (.int p2), .val (.int p3), .val (.int (0 : Int32))] [(.int (p3 &&& (((1 : Int32) <<< ((0 : Int32) &&& 31)) - (1 : Int32)))), (.int (own_i outs.length)), (.ref a1)])) target) <| Jvm.LawKit.callS X_3 hx (y := (⟨"com/example/cogram/cogram/index/PostingsEntriesPinLaw", "count", "(I)I"⟩ : MethodName)) hown (mvT hZ (hw _ (List.mem_of_getElem? (i := 9) rfl))) (mvT hZ (hw _ (List.mem_of_getElem? (i := 10) rfl))) (mvT hZ (hw _ (List.mem_of_getElem? (i := 7) rfl))) (mvT hZ (hw _ (List.mem_of_getElem? (i := 11) rfl))) (by decide) (backOf (W := 2) (rm3 l Z a0 hw [] (p3 &&& (((1 : Int32) <<< ((0 : Int32) &&& 31)) - (1 : Int32))) h0 n0 Z0 ) hZ (hw _ (List.mem_of_getElem? (i := 11) rfl)) (hw _ (List.mem_of_getElem? (i := 7) rfl)) (by decide) (by decide)) (g := (mkF m 31 #[.val (.ref a1), .val (.int (own_i outs.length)), .val (.int p2), .val (.int p3), .val (.int (0 : Int32))] [(.int (p3 &&& (((1 : Int32) <<< ((0 : Int32) &&& 31)) - (1 : Int32)))), (.int (own_i outs.length)), (.ref a1)])) rfl (by rw [hml]; rfl) (argsL := [(.int (p3 &&& (((1 : Int32) <<< ((0 : Int32) &&& 31)) - (1 : Int32))))]) (rest := [(.int (own_i outs.length)), (.ref a1)]) (lenOf pd_1 rfl) rfl (by show 2 * 0 + _ ≤ _; exact Nat.le_of_eq rfl) (hb hby d5_31) (fun _ _ => ⟨rfl, e_3, (by decide : 0 + 0 ≤ _), (by decide : 0 + 0 ≤ _)⟩)
        obtain ⟨rfl, N_5q, e_5⟩ := hQ_5
        have N_5 := Fr.app N_3 N_5q
        refine OGo.to st_5 ?_
        show OGo p e below _ (T_5.setTop (mkF m 34 #[.val (.ref a1), .val (.int (own_i outs.length)), .val (.int p2), .val (.int p3), .val (.int (0 : Int32))] [(.int (own_count (p3 &&& (((1 : Int32) <<< ((0 : Int32) &&& 31)) - (1 : Int32))))), (.int (own_i outs.length)), (.ref a1)]))
        refine OGo.to (fun _ k => XS.goto X_5.here hx rfl (pc0 := 34) (pc' := 38) rfl (hb hby d5_34) (by decide) (by decide) k) ?_
        show OGo p e below _ (T_5.setTop (mkF m 38 #[.val (.ref a1), .val (.int (own_i outs.length)), .val (.int p2), .val (.int p3), .val (.int (0 : Int32))] [(.int (own_count (p3 &&& (((1 : Int32) <<< ((0 : Int32) &&& 31)) - (1 : Int32))))), (.int (own_i outs.length)), (.ref a1)]))
        have Vp_6 : Arv Z h0 a1 kc .int nn ((outs.map Value.int) ++ List.replicate 1 (.int (0 : Int32))) (.int (0 : Int32)) := V1.pad (pad_rep (outs.map Value.int) (.int (0 : Int32)) 1)
        have Vq_7 := Vp_6
        obtain ⟨cl_7, Ar_7, q_7, S_7, M_7, Hs_7, G_7⟩ := Vq_7
        have hin_8 : ¬ ((own_i outs.length) < 0 ∨ cl_7.slots.size ≤ ((own_i outs.length)).toNatClampNeg) := inb_of S_7 ⟨own_inn _ (by omega), hin hc6__2⟩
        obtain ⟨T_8, h_8, X_8, e_8, W_8, st_8⟩ := stI X_5 hx hZ e_5 Ar_7 (j := (own_i outs.length)) hin_8 (g := (mkF m 38 #[.val (.ref a1), .val (.int (own_i outs.length)), .val (.int p2), .val (.int p3), .val (.int (0 : Int32))] [(.int (own_count (p3 &&& (((1 : Int32) <<< ((0 : Int32) &&& 31)) - (1 : Int32))))), (.int (own_i outs.length)), (.ref a1)])) rfl rfl (hb hby d5_38)
        refine OGo.to st_8 ?_
        have V_8 : Arv Z h_8 a1 kc .int nn ((outs ++ [(own_count (p3 &&& (((1 : Int32) <<< ((0 : Int32) &&& 31)) - (1 : Int32))))]).map Value.int) (.int (0 : Int32)) := (by have q := Arv.set Ar_7 q_7 S_7 M_7 Hs_7 G_7 rfl W_8 outs.length (own_clamp _ (by omega)) (by simp); rwa [own_setlast] at q)
        have N_8 := Fr.snoc X_8 N_5 g1
        have z_9 : n0 ≤ h_8.size := Nat.le_trans Z0 (Keep.of_wr W_8).1
        have K_10 : Keep h0 h_8 [a1] := (Keep.refl h0 [a1]).wr W_8 (Or.inl (List.mem_of_getElem? (i := 0) rfl))
        show OGo p e below _ (T_8.setTop (mkF m 39 #[.val (.ref a1), .val (.int (own_i outs.length)), .val (.int p2), .val (.int p3), .val (.int (0 : Int32))] []))
        refine OGo.to (fun _ k => XS.iloadN X_8.here hx rfl (hb hby d5_39) rfl k) ?_
        show OGo p e below _ (T_8.setTop (mkF m 40 #[.val (.ref a1), .val (.int (own_i outs.length)), .val (.int p2), .val (.int p3), .val (.int (0 : Int32))] [(.int (own_i outs.length))]))
        refine OGo.to (fun _ k => XS.iconst X_8.here hx rfl (hb hby d5_40) k) ?_
        show OGo p e below _ (T_8.setTop (mkF m 41 #[.val (.ref a1), .val (.int (own_i outs.length)), .val (.int p2), .val (.int p3), .val (.int (0 : Int32))] [(.int (1 : Int32)), (.int (own_i outs.length))]))
        refine OGo.to (fun _ k => XS.iadd X_8.here hx rfl (hb hby d5_41) rfl k) ?_
        show OGo p e below _ (T_8.setTop (mkF m 42 #[.val (.ref a1), .val (.int (own_i outs.length)), .val (.int p2), .val (.int p3), .val (.int (0 : Int32))] [(.int ((own_i outs.length) + (1 : Int32)))]))
        refine OGo.ret (Q := Qput0 Z a1 (own_i outs.length) p2 p3 kc nn outs h0 n0) X_8 (some (.int ((own_i outs.length) + (1 : Int32)))) (fun h => by rw [Bd.returns] at h; cases h) Bd.notSynchronized (fun fs hr => retI X_8 hx Bd.returns (hb hby d5_42) hr) ?_ (by decide) (by decide)
        show Qput0 Z a1 (own_i outs.length) p2 p3 kc nn outs h0 n0 _ T_8.heap _
        rw [e_8]
        exact ⟨congrArg (fun z => some (Value.int z)) (show ((own_i outs.length) + (1 : Int32)) = (own_i (own_put outs p2 p3 (0 : Int32)).length) from (own_len1 outs _).trans (congrArg (fun z : List Int32 => own_i z.length) ((own_put1 (o := outs) hc6__2 hc20__4).symm))), N_8, K_10, (own_castV V_8 ((own_put1 (o := outs) hc6__2 hc20__4).symm))⟩
      ·  -- pc 20: no
        refine OGo.to (fun _ k => XS.icmpYes X_3.here hx rfl (pc0 := 20) (pc' := 37) rfl (hb hby d5_20) rfl (feq hc20__4).2 (by decide) (by decide) k) ?_
        show OGo p e below _ (T_3.setTop (mkF m 37 #[.val (.ref a1), .val (.int (own_i outs.length)), .val (.int p2), .val (.int p3), .val (.int (0 : Int32))] [(.int (own_i outs.length)), (.ref a1)]))
        refine OGo.to (fun _ k => XS.iconst X_3.here hx rfl (hb hby d5_37) k) ?_
        show OGo p e below _ (T_3.setTop (mkF m 38 #[.val (.ref a1), .val (.int (own_i outs.length)), .val (.int p2), .val (.int p3), .val (.int (0 : Int32))] [(.int (-1 : Int32)), (.int (own_i outs.length)), (.ref a1)]))
        have Vp_11 : Arv Z h0 a1 kc .int nn ((outs.map Value.int) ++ List.replicate 1 (.int (0 : Int32))) (.int (0 : Int32)) := V1.pad (pad_rep (outs.map Value.int) (.int (0 : Int32)) 1)
        have Vq_12 := Vp_11
        obtain ⟨cl_12, Ar_12, q_12, S_12, M_12, Hs_12, G_12⟩ := Vq_12
        have hin_13 : ¬ ((own_i outs.length) < 0 ∨ cl_12.slots.size ≤ ((own_i outs.length)).toNatClampNeg) := inb_of S_12 ⟨own_inn _ (by omega), hin hc6__2⟩
        obtain ⟨T_13, h_13, X_13, e_13, W_13, st_13⟩ := stI X_3 hx hZ e_3 Ar_12 (j := (own_i outs.length)) hin_13 (g := (mkF m 38 #[.val (.ref a1), .val (.int (own_i outs.length)), .val (.int p2), .val (.int p3), .val (.int (0 : Int32))] [(.int (-1 : Int32)), (.int (own_i outs.length)), (.ref a1)])) rfl rfl (hb hby d5_38)
        refine OGo.to st_13 ?_
        have V_13 : Arv Z h_13 a1 kc .int nn ((outs ++ [(-1 : Int32)]).map Value.int) (.int (0 : Int32)) := (by have q := Arv.set Ar_12 q_12 S_12 M_12 Hs_12 G_12 rfl W_13 outs.length (own_clamp _ (by omega)) (by simp); rwa [own_setlast] at q)
        have N_13 := Fr.snoc X_13 N_3 g1
        have z_14 : n0 ≤ h_13.size := Nat.le_trans Z0 (Keep.of_wr W_13).1
        have K_15 : Keep h0 h_13 [a1] := (Keep.refl h0 [a1]).wr W_13 (Or.inl (List.mem_of_getElem? (i := 0) rfl))
        show OGo p e below _ (T_13.setTop (mkF m 39 #[.val (.ref a1), .val (.int (own_i outs.length)), .val (.int p2), .val (.int p3), .val (.int (0 : Int32))] []))
        refine OGo.to (fun _ k => XS.iloadN X_13.here hx rfl (hb hby d5_39) rfl k) ?_
        show OGo p e below _ (T_13.setTop (mkF m 40 #[.val (.ref a1), .val (.int (own_i outs.length)), .val (.int p2), .val (.int p3), .val (.int (0 : Int32))] [(.int (own_i outs.length))]))
        refine OGo.to (fun _ k => XS.iconst X_13.here hx rfl (hb hby d5_40) k) ?_
        show OGo p e below _ (T_13.setTop (mkF m 41 #[.val (.ref a1), .val (.int (own_i outs.length)), .val (.int p2), .val (.int p3), .val (.int (0 : Int32))] [(.int (1 : Int32)), (.int (own_i outs.length))]))
        refine OGo.to (fun _ k => XS.iadd X_13.here hx rfl (hb hby d5_41) rfl k) ?_
        show OGo p e below _ (T_13.setTop (mkF m 42 #[.val (.ref a1), .val (.int (own_i outs.length)), .val (.int p2), .val (.int p3), .val (.int (0 : Int32))] [(.int ((own_i outs.length) + (1 : Int32)))]))
        refine OGo.ret (Q := Qput0 Z a1 (own_i outs.length) p2 p3 kc nn outs h0 n0) X_13 (some (.int ((own_i outs.length) + (1 : Int32)))) (fun h => by rw [Bd.returns] at h; cases h) Bd.notSynchronized (fun fs hr => retI X_13 hx Bd.returns (hb hby d5_42) hr) ?_ (by decide) (by decide)
        show Qput0 Z a1 (own_i outs.length) p2 p3 kc nn outs h0 n0 _ T_13.heap _
        rw [e_13]
        exact ⟨congrArg (fun z => some (Value.int z)) (show ((own_i outs.length) + (1 : Int32)) = (own_i (own_put outs p2 p3 (0 : Int32)).length) from (own_len1 outs _).trans (congrArg (fun z : List Int32 => own_i z.length) ((own_put2 (o := outs) hc6__2 hc20__4).symm))), N_13, K_15, (own_castV V_13 ((own_put2 (o := outs) hc6__2 hc20__4).symm))⟩
theorem ef_put1 (m : MethodId) (x0 : Addr) (x1 : Int32) (x2 : Int32) (x3 : Int32) (x4 : Int32) : entryFrame m #[(.ref x0), (.int x1), (.int x2), (.int x3), (.int x4)] 5 = mkF m 0 #[.val (.ref x0), .val (.int x1), .val (.int x2), .val (.int x3), .val (.int x4)] [] := by first | (simp [entryFrame, mkF, argsToLocals, Value.category]; done) | rfl
def Qput1 (Z : State) (a1 : Addr) (p1 : Int32) (p2 : Int32) (p3 : Int32) (kc : ClassId) (nn : Int32) (outs : List Int32) (h0 : Heap) (n0 : Nat) (v : Option Value) (h : Heap) (L : List Loc) : Prop := v = some (.int (own_i (own_put outs p2 p3 (1 : Int32)).length)) ∧ Fr n0 L ∧ Keep h0 h [a1] ∧ Arv Z h a1 kc .int nn ((own_put outs p2 p3 (1 : Int32)).map Value.int) (.int (0 : Int32))
set_option maxRecDepth 65536 in
set_option maxHeartbeats 40000000 in
theorem rmput1 (l : Launch) (Z : State) (a0 : Array Value) (hw : ∀ d ∈ tables_1, d.before a0 Z = true) (ws : List Jvm.Cond) (a1 : Addr) (p1 : Int32) (p2 : Int32) (p3 : Int32) (kc : ClassId) (nn : Int32) (outs : List Int32) (h0 : Heap) (n0 : Nat) (Z0 : n0 ≤ h0.size) (V1 : Arv Z h0 a1 kc .int nn (outs.map Value.int) (.int (0 : Int32))) (hk1 : p1 = own_i outs.length) (hin : ¬ own_bit p2 (1 : Int32) = (0 : Int32) → own_i outs.length < nn) (hl : outs.length < 100) (g1 : n0 ≤ a1) :
    MetFree l (⟨"com/example/cogram/cogram/index/PostingsEntriesPinLaw", "put", "([IIIII)I"⟩ : MethodName) (head1 (Jvm.Cond.code (⟨"com/example/cogram/cogram/index/PostingsEntriesPinLaw", "put", "([IIIII)I"⟩ : MethodName) method_6_code 5 (some .int) :: ws) ({ frames := 2, cells := 0, slots := 0, locals := 28 } : Room)) (fun a U => a = #[(.ref a1), (.int p1), (.int p2), (.int p3), (.int (1 : Int32))] ∧ Z.Warmed39 U.vm ∧ U.heap = h0) (fun _ _ _ _ _ => True) (fun _ U o U' => ∃ v L, o = .returned v ∧ Qput1 Z a1 p1 p2 p3 kc nn outs h0 n0 v U'.heap L ∧ FrameEnd U o U' L ({ frames := 2, cells := 0, slots := 0, locals := 28 } : Room).cells ({ frames := 2, cells := 0, slots := 0, locals := 28 } : Room).slots) := by
  refine MetFree.of_bodySF (plainFor_of_name pn_0) hisR ?_
  intro p e s m args below meth c s₁ Bd hml0 hP hK
  obtain ⟨rfl, hZ, hh⟩ := hP
  have hx := Bd.exec
  have hby := Bd.bytes
  have hml : c.maxLocals = 5 := hml0
  have hown : s.vm.findClass "com/example/cogram/cogram/index/PostingsEntriesPinLaw" = some m.cls := findClass_of_methodNamed Bd.named
  have hnm := (name_of_methodNamed Bd.named Bd.method).1
  have X0 : Stand p l e ({ frames := 2, cells := 0, slots := 0, locals := 28 } : Room) s m #[(.ref a1), (.int p1), (.int p2), (.int p3), (.int (1 : Int32))] below meth c s₁ [] 0 0 := Stand.of_body Bd
  have e0 : s₁.heap = h0 := by rw [← hh, Bd.state]; rfl
  have N0 := Fr.nil n0
  show OGo p e below (fun s₂ o => ∃ v L, o = .returned v ∧ Qput1 Z a1 p1 p2 p3 kc nn outs h0 n0 v s₂.heap L ∧ FrameEnd s o s₂ L ({ frames := 2, cells := 0, slots := 0, locals := 28 } : Room).cells ({ frames := 2, cells := 0, slots := 0, locals := 28 } : Room).slots) _
  refine OGo.to (fun _ k => castTop (ef_put1 m a1 p1 p2 p3 (1 : Int32)) k) ?_
  rcases hk1 with rfl
  ·
    show OGo p e below _ (s₁.setTop (mkF m 0 #[.val (.ref a1), .val (.int (own_i outs.length)), .val (.int p2), .val (.int p3), .val (.int (1 : Int32))] []))
    refine OGo.to (fun _ k => XS.iloadN X0.here hx rfl (hb hby d5_0) rfl k) ?_
    show OGo p e below _ (s₁.setTop (mkF m 1 #[.val (.ref a1), .val (.int (own_i outs.length)), .val (.int p2), .val (.int p3), .val (.int (1 : Int32))] [(.int p2)]))
    refine OGo.to (fun _ k => XS.iload X0.here hx rfl (hb hby d5_1) rfl k) ?_
    show OGo p e below _ (s₁.setTop (mkF m 3 #[.val (.ref a1), .val (.int (own_i outs.length)), .val (.int p2), .val (.int p3), .val (.int (1 : Int32))] [(.int (1 : Int32)), (.int p2)]))
    obtain ⟨_, T_1, Lc_1, X_1, hQ_1, st_1⟩ := own_un X0 (Q := Q4 Z p2 (1 : Int32) h0 n0) (rc := 0) (rs := 0) (W := fun v B => ∀ target, Steps p.tables e below (B.setTop { (mkF m 3 #[.val (.ref a1), .val (.int (own_i outs.length)), .val (.int p2), .val (.int p3), .val (.int (1 : Int32))] [(.int (1 : Int32)), (.int p2)]) with pc := 6, stack := v.toList ++ [] }) target → Steps p.tables e below (s₁.setTop (mkF m 3 #[.val (.ref a1), .val (.int (own_i outs.length)), .val (.int p2), .val (.int p3), .val (.int (1 : Int32))] [(.int (1 : Int32)), (.int p2)])) target) <| Jvm.LawKit.callS X0 hx (y := (⟨"com/example/cogram/cogram/index/PostingsEntriesPinLaw", "bit", "(II)I"⟩ : MethodName)) hown (mvT hZ (hw _ (List.mem_of_getElem? (i := 12) rfl))) (mvT hZ (hw _ (List.mem_of_getElem? (i := 13) rfl))) (mvT hZ (hw _ (List.mem_of_getElem? (i := 7) rfl))) (mvT hZ (hw _ (List.mem_of_getElem? (i := 14) rfl))) (by decide) (backOf (W := 0) (rm4 l Z a0 hw [] p2 (1 : Int32) h0 n0 Z0 ) hZ (hw _ (List.mem_of_getElem? (i := 14) rfl)) (hw _ (List.mem_of_getElem? (i := 7) rfl)) (by decide) (by decide)) (g := (mkF m 3 #[.val (.ref a1), .val (.int (own_i outs.length)), .val (.int p2), .val (.int p3), .val (.int (1 : Int32))] [(.int (1 : Int32)), (.int p2)])) rfl (by rw [hml]; rfl) (argsL := [(.int p2), (.int (1 : Int32))]) (rest := []) (lenOf pd_0 rfl) rfl (by show 2 * 0 + _ ≤ _; exact Nat.le_of_eq rfl) (hb hby d5_3) (fun _ _ => ⟨rfl, e0, (by decide : 0 + 0 ≤ _), (by decide : 0 + 0 ≤ _)⟩)
    obtain ⟨rfl, N_1q, e_1⟩ := hQ_1
    have N_1 := Fr.app N0 N_1q
    refine OGo.to st_1 ?_
    show OGo p e below _ (T_1.setTop (mkF m 6 #[.val (.ref a1), .val (.int (own_i outs.length)), .val (.int p2), .val (.int p3), .val (.int (1 : Int32))] [(.int (own_bit p2 (1 : Int32)))]))
    by_cases hc6__2 : (own_bit p2 (1 : Int32)) = (0 : Int32)
    ·  -- pc 6: yes
      refine OGo.to (fun _ k => XS.ifNo X_1.here hx rfl (hb hby d5_6) rfl ((if0 _ _).trans (teq hc6__2).2) k) ?_
      show OGo p e below _ (T_1.setTop (mkF m 9 #[.val (.ref a1), .val (.int (own_i outs.length)), .val (.int p2), .val (.int p3), .val (.int (1 : Int32))] []))
      refine OGo.to (fun _ k => XS.iloadN X_1.here hx rfl (hb hby d5_9) rfl k) ?_
      show OGo p e below _ (T_1.setTop (mkF m 10 #[.val (.ref a1), .val (.int (own_i outs.length)), .val (.int p2), .val (.int p3), .val (.int (1 : Int32))] [(.int (own_i outs.length))]))
      refine OGo.ret (Q := Qput1 Z a1 (own_i outs.length) p2 p3 kc nn outs h0 n0) X_1 (some (.int (own_i outs.length))) (fun h => by rw [Bd.returns] at h; cases h) Bd.notSynchronized (fun fs hr => retI X_1 hx Bd.returns (hb hby d5_10) hr) ?_ (by decide) (by decide)
      show Qput1 Z a1 (own_i outs.length) p2 p3 kc nn outs h0 n0 _ T_1.heap _
      rw [e_1]
      exact ⟨congrArg (fun z => some (Value.int z)) (show (own_i outs.length) = (own_i (own_put outs p2 p3 (1 : Int32)).length) from congrArg (fun z : List Int32 => own_i z.length) ((own_put0 (o := outs) (hm := p3) hc6__2).symm)), N_1, (Keep.refl h0 [a1]), (own_castV V1 ((own_put0 (o := outs) (hm := p3) hc6__2).symm))⟩
    ·  -- pc 6: no
      refine OGo.to (fun _ k => XS.ifYes X_1.here hx rfl (pc0 := 6) (pc' := 11) rfl (hb hby d5_6) rfl ((if0 _ _).trans (feq hc6__2).2) (by decide) (by decide) k) ?_
      show OGo p e below _ (T_1.setTop (mkF m 11 #[.val (.ref a1), .val (.int (own_i outs.length)), .val (.int p2), .val (.int p3), .val (.int (1 : Int32))] []))
      refine OGo.to (fun _ k => XS.aloadN X_1.here hx rfl (hb hby d5_11) rfl rfl k) ?_
      show OGo p e below _ (T_1.setTop (mkF m 12 #[.val (.ref a1), .val (.int (own_i outs.length)), .val (.int p2), .val (.int p3), .val (.int (1 : Int32))] [(.ref a1)]))
      refine OGo.to (fun _ k => XS.iloadN X_1.here hx rfl (hb hby d5_12) rfl k) ?_
      show OGo p e below _ (T_1.setTop (mkF m 13 #[.val (.ref a1), .val (.int (own_i outs.length)), .val (.int p2), .val (.int p3), .val (.int (1 : Int32))] [(.int (own_i outs.length)), (.ref a1)]))
      refine OGo.to (fun _ k => XS.iloadN X_1.here hx rfl (hb hby d5_13) rfl k) ?_
      show OGo p e below _ (T_1.setTop (mkF m 14 #[.val (.ref a1), .val (.int (own_i outs.length)), .val (.int p2), .val (.int p3), .val (.int (1 : Int32))] [(.int p3), (.int (own_i outs.length)), (.ref a1)]))
      refine OGo.to (fun _ k => XS.iload X_1.here hx rfl (hb hby d5_14) rfl k) ?_
      show OGo p e below _ (T_1.setTop (mkF m 16 #[.val (.ref a1), .val (.int (own_i outs.length)), .val (.int p2), .val (.int p3), .val (.int (1 : Int32))] [(.int (1 : Int32)), (.int p3), (.int (own_i outs.length)), (.ref a1)]))
      obtain ⟨_, T_3, Lc_3, X_3, hQ_3, st_3⟩ := own_un X_1 (Q := Q4 Z p3 (1 : Int32) h0 n0) (rc := 0) (rs := 0) (W := fun v B => ∀ target, Steps p.tables e below (B.setTop { (mkF m 16 #[.val (.ref a1), .val (.int (own_i outs.length)), .val (.int p2), .val (.int p3), .val (.int (1 : Int32))] [(.int (1 : Int32)), (.int p3), (.int (own_i outs.length)), (.ref a1)]) with pc := 19, stack := v.toList ++ [(.int (own_i outs.length)), (.ref a1)] }) target → Steps p.tables e below (T_1.setTop (mkF m 16 #[.val (.ref a1), .val (.int (own_i outs.length)), .val (.int p2), .val (.int p3), .val (.int (1 : Int32))] [(.int (1 : Int32)), (.int p3), (.int (own_i outs.length)), (.ref a1)])) target) <| Jvm.LawKit.callS X_1 hx (y := (⟨"com/example/cogram/cogram/index/PostingsEntriesPinLaw", "bit", "(II)I"⟩ : MethodName)) hown (mvT hZ (hw _ (List.mem_of_getElem? (i := 12) rfl))) (mvT hZ (hw _ (List.mem_of_getElem? (i := 13) rfl))) (mvT hZ (hw _ (List.mem_of_getElem? (i := 7) rfl))) (mvT hZ (hw _ (List.mem_of_getElem? (i := 14) rfl))) (by decide) (backOf (W := 2) (rm4 l Z a0 hw [] p3 (1 : Int32) h0 n0 Z0 ) hZ (hw _ (List.mem_of_getElem? (i := 14) rfl)) (hw _ (List.mem_of_getElem? (i := 7) rfl)) (by decide) (by decide)) (g := (mkF m 16 #[.val (.ref a1), .val (.int (own_i outs.length)), .val (.int p2), .val (.int p3), .val (.int (1 : Int32))] [(.int (1 : Int32)), (.int p3), (.int (own_i outs.length)), (.ref a1)])) rfl (by rw [hml]; rfl) (argsL := [(.int p3), (.int (1 : Int32))]) (rest := [(.int (own_i outs.length)), (.ref a1)]) (lenOf pd_0 rfl) rfl (by show 2 * 0 + _ ≤ _; exact Nat.le_of_eq rfl) (hb hby d5_16) (fun _ _ => ⟨rfl, e_1, (by decide : 0 + 0 ≤ _), (by decide : 0 + 0 ≤ _)⟩)
      obtain ⟨rfl, N_3q, e_3⟩ := hQ_3
      have N_3 := Fr.app N_1 N_3q
      refine OGo.to st_3 ?_
      show OGo p e below _ (T_3.setTop (mkF m 19 #[.val (.ref a1), .val (.int (own_i outs.length)), .val (.int p2), .val (.int p3), .val (.int (1 : Int32))] [(.int (own_bit p3 (1 : Int32))), (.int (own_i outs.length)), (.ref a1)]))
      refine OGo.to (fun _ k => XS.iconst X_3.here hx rfl (hb hby d5_19) k) ?_
      show OGo p e below _ (T_3.setTop (mkF m 20 #[.val (.ref a1), .val (.int (own_i outs.length)), .val (.int p2), .val (.int p3), .val (.int (1 : Int32))] [(.int (1 : Int32)), (.int (own_bit p3 (1 : Int32))), (.int (own_i outs.length)), (.ref a1)]))
      by_cases hc20__4 : (own_bit p3 (1 : Int32)) = (1 : Int32)
      ·  -- pc 20: yes
        refine OGo.to (fun _ k => XS.icmpNo X_3.here hx rfl (hb hby d5_20) rfl (teq hc20__4).2 k) ?_
        show OGo p e below _ (T_3.setTop (mkF m 23 #[.val (.ref a1), .val (.int (own_i outs.length)), .val (.int p2), .val (.int p3), .val (.int (1 : Int32))] [(.int (own_i outs.length)), (.ref a1)]))
        refine OGo.to (fun _ k => XS.iloadN X_3.here hx rfl (hb hby d5_23) rfl k) ?_
        show OGo p e below _ (T_3.setTop (mkF m 24 #[.val (.ref a1), .val (.int (own_i outs.length)), .val (.int p2), .val (.int p3), .val (.int (1 : Int32))] [(.int p3), (.int (own_i outs.length)), (.ref a1)]))
        refine OGo.to (fun _ k => XS.iconst X_3.here hx rfl (hb hby d5_24) k) ?_
        show OGo p e below _ (T_3.setTop (mkF m 25 #[.val (.ref a1), .val (.int (own_i outs.length)), .val (.int p2), .val (.int p3), .val (.int (1 : Int32))] [(.int (1 : Int32)), (.int p3), (.int (own_i outs.length)), (.ref a1)]))
        refine OGo.to (fun _ k => XS.iload X_3.here hx rfl (hb hby d5_25) rfl k) ?_
        show OGo p e below _ (T_3.setTop (mkF m 27 #[.val (.ref a1), .val (.int (own_i outs.length)), .val (.int p2), .val (.int p3), .val (.int (1 : Int32))] [(.int (1 : Int32)), (.int (1 : Int32)), (.int p3), (.int (own_i outs.length)), (.ref a1)]))
        refine OGo.to (fun _ k => XS.ishl X_3.here hx rfl (hb hby d5_27) rfl k) ?_
        show OGo p e below _ (T_3.setTop (mkF m 28 #[.val (.ref a1), .val (.int (own_i outs.length)), .val (.int p2), .val (.int p3), .val (.int (1 : Int32))] [(.int ((1 : Int32) <<< ((1 : Int32) &&& 31))), (.int p3), (.int (own_i outs.length)), (.ref a1)]))
        refine OGo.to (fun _ k => XS.iconst X_3.here hx rfl (hb hby d5_28) k) ?_
        show OGo p e below _ (T_3.setTop (mkF m 29 #[.val (.ref a1), .val (.int (own_i outs.length)), .val (.int p2), .val (.int p3), .val (.int (1 : Int32))] [(.int (1 : Int32)), (.int ((1 : Int32) <<< ((1 : Int32) &&& 31))), (.int p3), (.int (own_i outs.length)), (.ref a1)]))
        refine OGo.to (fun _ k => XS.isub X_3.here hx rfl (hb hby d5_29) rfl k) ?_
        show OGo p e below _ (T_3.setTop (mkF m 30 #[.val (.ref a1), .val (.int (own_i outs.length)), .val (.int p2), .val (.int p3), .val (.int (1 : Int32))] [(.int (((1 : Int32) <<< ((1 : Int32) &&& 31)) - (1 : Int32))), (.int p3), (.int (own_i outs.length)), (.ref a1)]))
        refine OGo.to (fun _ k => XS.iand X_3.here hx rfl (hb hby d5_30) rfl k) ?_
        show OGo p e below _ (T_3.setTop (mkF m 31 #[.val (.ref a1), .val (.int (own_i outs.length)), .val (.int p2), .val (.int p3), .val (.int (1 : Int32))] [(.int (p3 &&& (((1 : Int32) <<< ((1 : Int32) &&& 31)) - (1 : Int32)))), (.int (own_i outs.length)), (.ref a1)]))
        obtain ⟨_, T_5, Lc_5, X_5, hQ_5, st_5⟩ := own_un X_3 (Q := Q3 Z (p3 &&& (((1 : Int32) <<< ((1 : Int32) &&& 31)) - (1 : Int32))) h0 n0) (rc := 0) (rs := 0) (W := fun v B => ∀ target, Steps p.tables e below (B.setTop { (mkF m 31 #[.val (.ref a1), .val (.int (own_i outs.length)), .val (.int p2), .val (.int p3), .val (.int (1 : Int32))] [(.int (p3 &&& (((1 : Int32) <<< ((1 : Int32) &&& 31)) - (1 : Int32)))), (.int (own_i outs.length)), (.ref a1)]) with pc := 34, stack := v.toList ++ [(.int (own_i outs.length)), (.ref a1)] }) target → Steps p.tables e below (T_3.setTop (mkF m 31 #[.val (.ref a1), .val (.int (own_i outs.length)), .val (.int p2), .val (.int p3), .val (.int (1 : Int32))] [(.int (p3 &&& (((1 : Int32) <<< ((1 : Int32) &&& 31)) - (1 : Int32)))), (.int (own_i outs.length)), (.ref a1)])) target) <| Jvm.LawKit.callS X_3 hx (y := (⟨"com/example/cogram/cogram/index/PostingsEntriesPinLaw", "count", "(I)I"⟩ : MethodName)) hown (mvT hZ (hw _ (List.mem_of_getElem? (i := 9) rfl))) (mvT hZ (hw _ (List.mem_of_getElem? (i := 10) rfl))) (mvT hZ (hw _ (List.mem_of_getElem? (i := 7) rfl))) (mvT hZ (hw _ (List.mem_of_getElem? (i := 11) rfl))) (by decide) (backOf (W := 2) (rm3 l Z a0 hw [] (p3 &&& (((1 : Int32) <<< ((1 : Int32) &&& 31)) - (1 : Int32))) h0 n0 Z0 ) hZ (hw _ (List.mem_of_getElem? (i := 11) rfl)) (hw _ (List.mem_of_getElem? (i := 7) rfl)) (by decide) (by decide)) (g := (mkF m 31 #[.val (.ref a1), .val (.int (own_i outs.length)), .val (.int p2), .val (.int p3), .val (.int (1 : Int32))] [(.int (p3 &&& (((1 : Int32) <<< ((1 : Int32) &&& 31)) - (1 : Int32)))), (.int (own_i outs.length)), (.ref a1)])) rfl (by rw [hml]; rfl) (argsL := [(.int (p3 &&& (((1 : Int32) <<< ((1 : Int32) &&& 31)) - (1 : Int32))))]) (rest := [(.int (own_i outs.length)), (.ref a1)]) (lenOf pd_1 rfl) rfl (by show 2 * 0 + _ ≤ _; exact Nat.le_of_eq rfl) (hb hby d5_31) (fun _ _ => ⟨rfl, e_3, (by decide : 0 + 0 ≤ _), (by decide : 0 + 0 ≤ _)⟩)
        obtain ⟨rfl, N_5q, e_5⟩ := hQ_5
        have N_5 := Fr.app N_3 N_5q
        refine OGo.to st_5 ?_
        show OGo p e below _ (T_5.setTop (mkF m 34 #[.val (.ref a1), .val (.int (own_i outs.length)), .val (.int p2), .val (.int p3), .val (.int (1 : Int32))] [(.int (own_count (p3 &&& (((1 : Int32) <<< ((1 : Int32) &&& 31)) - (1 : Int32))))), (.int (own_i outs.length)), (.ref a1)]))
        refine OGo.to (fun _ k => XS.goto X_5.here hx rfl (pc0 := 34) (pc' := 38) rfl (hb hby d5_34) (by decide) (by decide) k) ?_
        show OGo p e below _ (T_5.setTop (mkF m 38 #[.val (.ref a1), .val (.int (own_i outs.length)), .val (.int p2), .val (.int p3), .val (.int (1 : Int32))] [(.int (own_count (p3 &&& (((1 : Int32) <<< ((1 : Int32) &&& 31)) - (1 : Int32))))), (.int (own_i outs.length)), (.ref a1)]))
        have Vp_6 : Arv Z h0 a1 kc .int nn ((outs.map Value.int) ++ List.replicate 1 (.int (0 : Int32))) (.int (0 : Int32)) := V1.pad (pad_rep (outs.map Value.int) (.int (0 : Int32)) 1)
        have Vq_7 := Vp_6
        obtain ⟨cl_7, Ar_7, q_7, S_7, M_7, Hs_7, G_7⟩ := Vq_7
        have hin_8 : ¬ ((own_i outs.length) < 0 ∨ cl_7.slots.size ≤ ((own_i outs.length)).toNatClampNeg) := inb_of S_7 ⟨own_inn _ (by omega), hin hc6__2⟩
        obtain ⟨T_8, h_8, X_8, e_8, W_8, st_8⟩ := stI X_5 hx hZ e_5 Ar_7 (j := (own_i outs.length)) hin_8 (g := (mkF m 38 #[.val (.ref a1), .val (.int (own_i outs.length)), .val (.int p2), .val (.int p3), .val (.int (1 : Int32))] [(.int (own_count (p3 &&& (((1 : Int32) <<< ((1 : Int32) &&& 31)) - (1 : Int32))))), (.int (own_i outs.length)), (.ref a1)])) rfl rfl (hb hby d5_38)
        refine OGo.to st_8 ?_
        have V_8 : Arv Z h_8 a1 kc .int nn ((outs ++ [(own_count (p3 &&& (((1 : Int32) <<< ((1 : Int32) &&& 31)) - (1 : Int32))))]).map Value.int) (.int (0 : Int32)) := (by have q := Arv.set Ar_7 q_7 S_7 M_7 Hs_7 G_7 rfl W_8 outs.length (own_clamp _ (by omega)) (by simp); rwa [own_setlast] at q)
        have N_8 := Fr.snoc X_8 N_5 g1
        have z_9 : n0 ≤ h_8.size := Nat.le_trans Z0 (Keep.of_wr W_8).1
        have K_10 : Keep h0 h_8 [a1] := (Keep.refl h0 [a1]).wr W_8 (Or.inl (List.mem_of_getElem? (i := 0) rfl))
        show OGo p e below _ (T_8.setTop (mkF m 39 #[.val (.ref a1), .val (.int (own_i outs.length)), .val (.int p2), .val (.int p3), .val (.int (1 : Int32))] []))
        refine OGo.to (fun _ k => XS.iloadN X_8.here hx rfl (hb hby d5_39) rfl k) ?_
        show OGo p e below _ (T_8.setTop (mkF m 40 #[.val (.ref a1), .val (.int (own_i outs.length)), .val (.int p2), .val (.int p3), .val (.int (1 : Int32))] [(.int (own_i outs.length))]))
        refine OGo.to (fun _ k => XS.iconst X_8.here hx rfl (hb hby d5_40) k) ?_
        show OGo p e below _ (T_8.setTop (mkF m 41 #[.val (.ref a1), .val (.int (own_i outs.length)), .val (.int p2), .val (.int p3), .val (.int (1 : Int32))] [(.int (1 : Int32)), (.int (own_i outs.length))]))
        refine OGo.to (fun _ k => XS.iadd X_8.here hx rfl (hb hby d5_41) rfl k) ?_
        show OGo p e below _ (T_8.setTop (mkF m 42 #[.val (.ref a1), .val (.int (own_i outs.length)), .val (.int p2), .val (.int p3), .val (.int (1 : Int32))] [(.int ((own_i outs.length) + (1 : Int32)))]))
        refine OGo.ret (Q := Qput1 Z a1 (own_i outs.length) p2 p3 kc nn outs h0 n0) X_8 (some (.int ((own_i outs.length) + (1 : Int32)))) (fun h => by rw [Bd.returns] at h; cases h) Bd.notSynchronized (fun fs hr => retI X_8 hx Bd.returns (hb hby d5_42) hr) ?_ (by decide) (by decide)
        show Qput1 Z a1 (own_i outs.length) p2 p3 kc nn outs h0 n0 _ T_8.heap _
        rw [e_8]
        exact ⟨congrArg (fun z => some (Value.int z)) (show ((own_i outs.length) + (1 : Int32)) = (own_i (own_put outs p2 p3 (1 : Int32)).length) from (own_len1 outs _).trans (congrArg (fun z : List Int32 => own_i z.length) ((own_put1 (o := outs) hc6__2 hc20__4).symm))), N_8, K_10, (own_castV V_8 ((own_put1 (o := outs) hc6__2 hc20__4).symm))⟩
      ·  -- pc 20: no
        refine OGo.to (fun _ k => XS.icmpYes X_3.here hx rfl (pc0 := 20) (pc' := 37) rfl (hb hby d5_20) rfl (feq hc20__4).2 (by decide) (by decide) k) ?_
        show OGo p e below _ (T_3.setTop (mkF m 37 #[.val (.ref a1), .val (.int (own_i outs.length)), .val (.int p2), .val (.int p3), .val (.int (1 : Int32))] [(.int (own_i outs.length)), (.ref a1)]))
        refine OGo.to (fun _ k => XS.iconst X_3.here hx rfl (hb hby d5_37) k) ?_
        show OGo p e below _ (T_3.setTop (mkF m 38 #[.val (.ref a1), .val (.int (own_i outs.length)), .val (.int p2), .val (.int p3), .val (.int (1 : Int32))] [(.int (-1 : Int32)), (.int (own_i outs.length)), (.ref a1)]))
        have Vp_11 : Arv Z h0 a1 kc .int nn ((outs.map Value.int) ++ List.replicate 1 (.int (0 : Int32))) (.int (0 : Int32)) := V1.pad (pad_rep (outs.map Value.int) (.int (0 : Int32)) 1)
        have Vq_12 := Vp_11
        obtain ⟨cl_12, Ar_12, q_12, S_12, M_12, Hs_12, G_12⟩ := Vq_12
        have hin_13 : ¬ ((own_i outs.length) < 0 ∨ cl_12.slots.size ≤ ((own_i outs.length)).toNatClampNeg) := inb_of S_12 ⟨own_inn _ (by omega), hin hc6__2⟩
        obtain ⟨T_13, h_13, X_13, e_13, W_13, st_13⟩ := stI X_3 hx hZ e_3 Ar_12 (j := (own_i outs.length)) hin_13 (g := (mkF m 38 #[.val (.ref a1), .val (.int (own_i outs.length)), .val (.int p2), .val (.int p3), .val (.int (1 : Int32))] [(.int (-1 : Int32)), (.int (own_i outs.length)), (.ref a1)])) rfl rfl (hb hby d5_38)
        refine OGo.to st_13 ?_
        have V_13 : Arv Z h_13 a1 kc .int nn ((outs ++ [(-1 : Int32)]).map Value.int) (.int (0 : Int32)) := (by have q := Arv.set Ar_12 q_12 S_12 M_12 Hs_12 G_12 rfl W_13 outs.length (own_clamp _ (by omega)) (by simp); rwa [own_setlast] at q)
        have N_13 := Fr.snoc X_13 N_3 g1
        have z_14 : n0 ≤ h_13.size := Nat.le_trans Z0 (Keep.of_wr W_13).1
        have K_15 : Keep h0 h_13 [a1] := (Keep.refl h0 [a1]).wr W_13 (Or.inl (List.mem_of_getElem? (i := 0) rfl))
        show OGo p e below _ (T_13.setTop (mkF m 39 #[.val (.ref a1), .val (.int (own_i outs.length)), .val (.int p2), .val (.int p3), .val (.int (1 : Int32))] []))
        refine OGo.to (fun _ k => XS.iloadN X_13.here hx rfl (hb hby d5_39) rfl k) ?_
        show OGo p e below _ (T_13.setTop (mkF m 40 #[.val (.ref a1), .val (.int (own_i outs.length)), .val (.int p2), .val (.int p3), .val (.int (1 : Int32))] [(.int (own_i outs.length))]))
        refine OGo.to (fun _ k => XS.iconst X_13.here hx rfl (hb hby d5_40) k) ?_
        show OGo p e below _ (T_13.setTop (mkF m 41 #[.val (.ref a1), .val (.int (own_i outs.length)), .val (.int p2), .val (.int p3), .val (.int (1 : Int32))] [(.int (1 : Int32)), (.int (own_i outs.length))]))
        refine OGo.to (fun _ k => XS.iadd X_13.here hx rfl (hb hby d5_41) rfl k) ?_
        show OGo p e below _ (T_13.setTop (mkF m 42 #[.val (.ref a1), .val (.int (own_i outs.length)), .val (.int p2), .val (.int p3), .val (.int (1 : Int32))] [(.int ((own_i outs.length) + (1 : Int32)))]))
        refine OGo.ret (Q := Qput1 Z a1 (own_i outs.length) p2 p3 kc nn outs h0 n0) X_13 (some (.int ((own_i outs.length) + (1 : Int32)))) (fun h => by rw [Bd.returns] at h; cases h) Bd.notSynchronized (fun fs hr => retI X_13 hx Bd.returns (hb hby d5_42) hr) ?_ (by decide) (by decide)
        show Qput1 Z a1 (own_i outs.length) p2 p3 kc nn outs h0 n0 _ T_13.heap _
        rw [e_13]
        exact ⟨congrArg (fun z => some (Value.int z)) (show ((own_i outs.length) + (1 : Int32)) = (own_i (own_put outs p2 p3 (1 : Int32)).length) from (own_len1 outs _).trans (congrArg (fun z : List Int32 => own_i z.length) ((own_put2 (o := outs) hc6__2 hc20__4).symm))), N_13, K_15, (own_castV V_13 ((own_put2 (o := outs) hc6__2 hc20__4).symm))⟩
theorem ef_put2 (m : MethodId) (x0 : Addr) (x1 : Int32) (x2 : Int32) (x3 : Int32) (x4 : Int32) : entryFrame m #[(.ref x0), (.int x1), (.int x2), (.int x3), (.int x4)] 5 = mkF m 0 #[.val (.ref x0), .val (.int x1), .val (.int x2), .val (.int x3), .val (.int x4)] [] := by first | (simp [entryFrame, mkF, argsToLocals, Value.category]; done) | rfl
def Qput2 (Z : State) (a1 : Addr) (p1 : Int32) (p2 : Int32) (p3 : Int32) (kc : ClassId) (nn : Int32) (outs : List Int32) (h0 : Heap) (n0 : Nat) (v : Option Value) (h : Heap) (L : List Loc) : Prop := v = some (.int (own_i (own_put outs p2 p3 (2 : Int32)).length)) ∧ Fr n0 L ∧ Keep h0 h [a1] ∧ Arv Z h a1 kc .int nn ((own_put outs p2 p3 (2 : Int32)).map Value.int) (.int (0 : Int32))
set_option maxRecDepth 65536 in
set_option maxHeartbeats 40000000 in
theorem rmput2 (l : Launch) (Z : State) (a0 : Array Value) (hw : ∀ d ∈ tables_1, d.before a0 Z = true) (ws : List Jvm.Cond) (a1 : Addr) (p1 : Int32) (p2 : Int32) (p3 : Int32) (kc : ClassId) (nn : Int32) (outs : List Int32) (h0 : Heap) (n0 : Nat) (Z0 : n0 ≤ h0.size) (V1 : Arv Z h0 a1 kc .int nn (outs.map Value.int) (.int (0 : Int32))) (hk1 : p1 = own_i outs.length) (hin : ¬ own_bit p2 (2 : Int32) = (0 : Int32) → own_i outs.length < nn) (hl : outs.length < 100) (g1 : n0 ≤ a1) :
    MetFree l (⟨"com/example/cogram/cogram/index/PostingsEntriesPinLaw", "put", "([IIIII)I"⟩ : MethodName) (head1 (Jvm.Cond.code (⟨"com/example/cogram/cogram/index/PostingsEntriesPinLaw", "put", "([IIIII)I"⟩ : MethodName) method_6_code 5 (some .int) :: ws) ({ frames := 2, cells := 0, slots := 0, locals := 28 } : Room)) (fun a U => a = #[(.ref a1), (.int p1), (.int p2), (.int p3), (.int (2 : Int32))] ∧ Z.Warmed39 U.vm ∧ U.heap = h0) (fun _ _ _ _ _ => True) (fun _ U o U' => ∃ v L, o = .returned v ∧ Qput2 Z a1 p1 p2 p3 kc nn outs h0 n0 v U'.heap L ∧ FrameEnd U o U' L ({ frames := 2, cells := 0, slots := 0, locals := 28 } : Room).cells ({ frames := 2, cells := 0, slots := 0, locals := 28 } : Room).slots) := by
  refine MetFree.of_bodySF (plainFor_of_name pn_0) hisR ?_
  intro p e s m args below meth c s₁ Bd hml0 hP hK
  obtain ⟨rfl, hZ, hh⟩ := hP
  have hx := Bd.exec
  have hby := Bd.bytes
  have hml : c.maxLocals = 5 := hml0
  have hown : s.vm.findClass "com/example/cogram/cogram/index/PostingsEntriesPinLaw" = some m.cls := findClass_of_methodNamed Bd.named
  have hnm := (name_of_methodNamed Bd.named Bd.method).1
  have X0 : Stand p l e ({ frames := 2, cells := 0, slots := 0, locals := 28 } : Room) s m #[(.ref a1), (.int p1), (.int p2), (.int p3), (.int (2 : Int32))] below meth c s₁ [] 0 0 := Stand.of_body Bd
  have e0 : s₁.heap = h0 := by rw [← hh, Bd.state]; rfl
  have N0 := Fr.nil n0
  show OGo p e below (fun s₂ o => ∃ v L, o = .returned v ∧ Qput2 Z a1 p1 p2 p3 kc nn outs h0 n0 v s₂.heap L ∧ FrameEnd s o s₂ L ({ frames := 2, cells := 0, slots := 0, locals := 28 } : Room).cells ({ frames := 2, cells := 0, slots := 0, locals := 28 } : Room).slots) _
  refine OGo.to (fun _ k => castTop (ef_put2 m a1 p1 p2 p3 (2 : Int32)) k) ?_
  rcases hk1 with rfl
  ·
    show OGo p e below _ (s₁.setTop (mkF m 0 #[.val (.ref a1), .val (.int (own_i outs.length)), .val (.int p2), .val (.int p3), .val (.int (2 : Int32))] []))
    refine OGo.to (fun _ k => XS.iloadN X0.here hx rfl (hb hby d5_0) rfl k) ?_
    show OGo p e below _ (s₁.setTop (mkF m 1 #[.val (.ref a1), .val (.int (own_i outs.length)), .val (.int p2), .val (.int p3), .val (.int (2 : Int32))] [(.int p2)]))
    refine OGo.to (fun _ k => XS.iload X0.here hx rfl (hb hby d5_1) rfl k) ?_
    show OGo p e below _ (s₁.setTop (mkF m 3 #[.val (.ref a1), .val (.int (own_i outs.length)), .val (.int p2), .val (.int p3), .val (.int (2 : Int32))] [(.int (2 : Int32)), (.int p2)]))
    obtain ⟨_, T_1, Lc_1, X_1, hQ_1, st_1⟩ := own_un X0 (Q := Q4 Z p2 (2 : Int32) h0 n0) (rc := 0) (rs := 0) (W := fun v B => ∀ target, Steps p.tables e below (B.setTop { (mkF m 3 #[.val (.ref a1), .val (.int (own_i outs.length)), .val (.int p2), .val (.int p3), .val (.int (2 : Int32))] [(.int (2 : Int32)), (.int p2)]) with pc := 6, stack := v.toList ++ [] }) target → Steps p.tables e below (s₁.setTop (mkF m 3 #[.val (.ref a1), .val (.int (own_i outs.length)), .val (.int p2), .val (.int p3), .val (.int (2 : Int32))] [(.int (2 : Int32)), (.int p2)])) target) <| Jvm.LawKit.callS X0 hx (y := (⟨"com/example/cogram/cogram/index/PostingsEntriesPinLaw", "bit", "(II)I"⟩ : MethodName)) hown (mvT hZ (hw _ (List.mem_of_getElem? (i := 12) rfl))) (mvT hZ (hw _ (List.mem_of_getElem? (i := 13) rfl))) (mvT hZ (hw _ (List.mem_of_getElem? (i := 7) rfl))) (mvT hZ (hw _ (List.mem_of_getElem? (i := 14) rfl))) (by decide) (backOf (W := 0) (rm4 l Z a0 hw [] p2 (2 : Int32) h0 n0 Z0 ) hZ (hw _ (List.mem_of_getElem? (i := 14) rfl)) (hw _ (List.mem_of_getElem? (i := 7) rfl)) (by decide) (by decide)) (g := (mkF m 3 #[.val (.ref a1), .val (.int (own_i outs.length)), .val (.int p2), .val (.int p3), .val (.int (2 : Int32))] [(.int (2 : Int32)), (.int p2)])) rfl (by rw [hml]; rfl) (argsL := [(.int p2), (.int (2 : Int32))]) (rest := []) (lenOf pd_0 rfl) rfl (by show 2 * 0 + _ ≤ _; exact Nat.le_of_eq rfl) (hb hby d5_3) (fun _ _ => ⟨rfl, e0, (by decide : 0 + 0 ≤ _), (by decide : 0 + 0 ≤ _)⟩)
    obtain ⟨rfl, N_1q, e_1⟩ := hQ_1
    have N_1 := Fr.app N0 N_1q
    refine OGo.to st_1 ?_
    show OGo p e below _ (T_1.setTop (mkF m 6 #[.val (.ref a1), .val (.int (own_i outs.length)), .val (.int p2), .val (.int p3), .val (.int (2 : Int32))] [(.int (own_bit p2 (2 : Int32)))]))
    by_cases hc6__2 : (own_bit p2 (2 : Int32)) = (0 : Int32)
    ·  -- pc 6: yes
      refine OGo.to (fun _ k => XS.ifNo X_1.here hx rfl (hb hby d5_6) rfl ((if0 _ _).trans (teq hc6__2).2) k) ?_
      show OGo p e below _ (T_1.setTop (mkF m 9 #[.val (.ref a1), .val (.int (own_i outs.length)), .val (.int p2), .val (.int p3), .val (.int (2 : Int32))] []))
      refine OGo.to (fun _ k => XS.iloadN X_1.here hx rfl (hb hby d5_9) rfl k) ?_
      show OGo p e below _ (T_1.setTop (mkF m 10 #[.val (.ref a1), .val (.int (own_i outs.length)), .val (.int p2), .val (.int p3), .val (.int (2 : Int32))] [(.int (own_i outs.length))]))
      refine OGo.ret (Q := Qput2 Z a1 (own_i outs.length) p2 p3 kc nn outs h0 n0) X_1 (some (.int (own_i outs.length))) (fun h => by rw [Bd.returns] at h; cases h) Bd.notSynchronized (fun fs hr => retI X_1 hx Bd.returns (hb hby d5_10) hr) ?_ (by decide) (by decide)
      show Qput2 Z a1 (own_i outs.length) p2 p3 kc nn outs h0 n0 _ T_1.heap _
      rw [e_1]
      exact ⟨congrArg (fun z => some (Value.int z)) (show (own_i outs.length) = (own_i (own_put outs p2 p3 (2 : Int32)).length) from congrArg (fun z : List Int32 => own_i z.length) ((own_put0 (o := outs) (hm := p3) hc6__2).symm)), N_1, (Keep.refl h0 [a1]), (own_castV V1 ((own_put0 (o := outs) (hm := p3) hc6__2).symm))⟩
    ·  -- pc 6: no
      refine OGo.to (fun _ k => XS.ifYes X_1.here hx rfl (pc0 := 6) (pc' := 11) rfl (hb hby d5_6) rfl ((if0 _ _).trans (feq hc6__2).2) (by decide) (by decide) k) ?_
      show OGo p e below _ (T_1.setTop (mkF m 11 #[.val (.ref a1), .val (.int (own_i outs.length)), .val (.int p2), .val (.int p3), .val (.int (2 : Int32))] []))
      refine OGo.to (fun _ k => XS.aloadN X_1.here hx rfl (hb hby d5_11) rfl rfl k) ?_
      show OGo p e below _ (T_1.setTop (mkF m 12 #[.val (.ref a1), .val (.int (own_i outs.length)), .val (.int p2), .val (.int p3), .val (.int (2 : Int32))] [(.ref a1)]))
      refine OGo.to (fun _ k => XS.iloadN X_1.here hx rfl (hb hby d5_12) rfl k) ?_
      show OGo p e below _ (T_1.setTop (mkF m 13 #[.val (.ref a1), .val (.int (own_i outs.length)), .val (.int p2), .val (.int p3), .val (.int (2 : Int32))] [(.int (own_i outs.length)), (.ref a1)]))
      refine OGo.to (fun _ k => XS.iloadN X_1.here hx rfl (hb hby d5_13) rfl k) ?_
      show OGo p e below _ (T_1.setTop (mkF m 14 #[.val (.ref a1), .val (.int (own_i outs.length)), .val (.int p2), .val (.int p3), .val (.int (2 : Int32))] [(.int p3), (.int (own_i outs.length)), (.ref a1)]))
      refine OGo.to (fun _ k => XS.iload X_1.here hx rfl (hb hby d5_14) rfl k) ?_
      show OGo p e below _ (T_1.setTop (mkF m 16 #[.val (.ref a1), .val (.int (own_i outs.length)), .val (.int p2), .val (.int p3), .val (.int (2 : Int32))] [(.int (2 : Int32)), (.int p3), (.int (own_i outs.length)), (.ref a1)]))
      obtain ⟨_, T_3, Lc_3, X_3, hQ_3, st_3⟩ := own_un X_1 (Q := Q4 Z p3 (2 : Int32) h0 n0) (rc := 0) (rs := 0) (W := fun v B => ∀ target, Steps p.tables e below (B.setTop { (mkF m 16 #[.val (.ref a1), .val (.int (own_i outs.length)), .val (.int p2), .val (.int p3), .val (.int (2 : Int32))] [(.int (2 : Int32)), (.int p3), (.int (own_i outs.length)), (.ref a1)]) with pc := 19, stack := v.toList ++ [(.int (own_i outs.length)), (.ref a1)] }) target → Steps p.tables e below (T_1.setTop (mkF m 16 #[.val (.ref a1), .val (.int (own_i outs.length)), .val (.int p2), .val (.int p3), .val (.int (2 : Int32))] [(.int (2 : Int32)), (.int p3), (.int (own_i outs.length)), (.ref a1)])) target) <| Jvm.LawKit.callS X_1 hx (y := (⟨"com/example/cogram/cogram/index/PostingsEntriesPinLaw", "bit", "(II)I"⟩ : MethodName)) hown (mvT hZ (hw _ (List.mem_of_getElem? (i := 12) rfl))) (mvT hZ (hw _ (List.mem_of_getElem? (i := 13) rfl))) (mvT hZ (hw _ (List.mem_of_getElem? (i := 7) rfl))) (mvT hZ (hw _ (List.mem_of_getElem? (i := 14) rfl))) (by decide) (backOf (W := 2) (rm4 l Z a0 hw [] p3 (2 : Int32) h0 n0 Z0 ) hZ (hw _ (List.mem_of_getElem? (i := 14) rfl)) (hw _ (List.mem_of_getElem? (i := 7) rfl)) (by decide) (by decide)) (g := (mkF m 16 #[.val (.ref a1), .val (.int (own_i outs.length)), .val (.int p2), .val (.int p3), .val (.int (2 : Int32))] [(.int (2 : Int32)), (.int p3), (.int (own_i outs.length)), (.ref a1)])) rfl (by rw [hml]; rfl) (argsL := [(.int p3), (.int (2 : Int32))]) (rest := [(.int (own_i outs.length)), (.ref a1)]) (lenOf pd_0 rfl) rfl (by show 2 * 0 + _ ≤ _; exact Nat.le_of_eq rfl) (hb hby d5_16) (fun _ _ => ⟨rfl, e_1, (by decide : 0 + 0 ≤ _), (by decide : 0 + 0 ≤ _)⟩)
      obtain ⟨rfl, N_3q, e_3⟩ := hQ_3
      have N_3 := Fr.app N_1 N_3q
      refine OGo.to st_3 ?_
      show OGo p e below _ (T_3.setTop (mkF m 19 #[.val (.ref a1), .val (.int (own_i outs.length)), .val (.int p2), .val (.int p3), .val (.int (2 : Int32))] [(.int (own_bit p3 (2 : Int32))), (.int (own_i outs.length)), (.ref a1)]))
      refine OGo.to (fun _ k => XS.iconst X_3.here hx rfl (hb hby d5_19) k) ?_
      show OGo p e below _ (T_3.setTop (mkF m 20 #[.val (.ref a1), .val (.int (own_i outs.length)), .val (.int p2), .val (.int p3), .val (.int (2 : Int32))] [(.int (1 : Int32)), (.int (own_bit p3 (2 : Int32))), (.int (own_i outs.length)), (.ref a1)]))
      by_cases hc20__4 : (own_bit p3 (2 : Int32)) = (1 : Int32)
      ·  -- pc 20: yes
        refine OGo.to (fun _ k => XS.icmpNo X_3.here hx rfl (hb hby d5_20) rfl (teq hc20__4).2 k) ?_
        show OGo p e below _ (T_3.setTop (mkF m 23 #[.val (.ref a1), .val (.int (own_i outs.length)), .val (.int p2), .val (.int p3), .val (.int (2 : Int32))] [(.int (own_i outs.length)), (.ref a1)]))
        refine OGo.to (fun _ k => XS.iloadN X_3.here hx rfl (hb hby d5_23) rfl k) ?_
        show OGo p e below _ (T_3.setTop (mkF m 24 #[.val (.ref a1), .val (.int (own_i outs.length)), .val (.int p2), .val (.int p3), .val (.int (2 : Int32))] [(.int p3), (.int (own_i outs.length)), (.ref a1)]))
        refine OGo.to (fun _ k => XS.iconst X_3.here hx rfl (hb hby d5_24) k) ?_
        show OGo p e below _ (T_3.setTop (mkF m 25 #[.val (.ref a1), .val (.int (own_i outs.length)), .val (.int p2), .val (.int p3), .val (.int (2 : Int32))] [(.int (1 : Int32)), (.int p3), (.int (own_i outs.length)), (.ref a1)]))
        refine OGo.to (fun _ k => XS.iload X_3.here hx rfl (hb hby d5_25) rfl k) ?_
        show OGo p e below _ (T_3.setTop (mkF m 27 #[.val (.ref a1), .val (.int (own_i outs.length)), .val (.int p2), .val (.int p3), .val (.int (2 : Int32))] [(.int (2 : Int32)), (.int (1 : Int32)), (.int p3), (.int (own_i outs.length)), (.ref a1)]))
        refine OGo.to (fun _ k => XS.ishl X_3.here hx rfl (hb hby d5_27) rfl k) ?_
        show OGo p e below _ (T_3.setTop (mkF m 28 #[.val (.ref a1), .val (.int (own_i outs.length)), .val (.int p2), .val (.int p3), .val (.int (2 : Int32))] [(.int ((1 : Int32) <<< ((2 : Int32) &&& 31))), (.int p3), (.int (own_i outs.length)), (.ref a1)]))
        refine OGo.to (fun _ k => XS.iconst X_3.here hx rfl (hb hby d5_28) k) ?_
        show OGo p e below _ (T_3.setTop (mkF m 29 #[.val (.ref a1), .val (.int (own_i outs.length)), .val (.int p2), .val (.int p3), .val (.int (2 : Int32))] [(.int (1 : Int32)), (.int ((1 : Int32) <<< ((2 : Int32) &&& 31))), (.int p3), (.int (own_i outs.length)), (.ref a1)]))
        refine OGo.to (fun _ k => XS.isub X_3.here hx rfl (hb hby d5_29) rfl k) ?_
        show OGo p e below _ (T_3.setTop (mkF m 30 #[.val (.ref a1), .val (.int (own_i outs.length)), .val (.int p2), .val (.int p3), .val (.int (2 : Int32))] [(.int (((1 : Int32) <<< ((2 : Int32) &&& 31)) - (1 : Int32))), (.int p3), (.int (own_i outs.length)), (.ref a1)]))
        refine OGo.to (fun _ k => XS.iand X_3.here hx rfl (hb hby d5_30) rfl k) ?_
        show OGo p e below _ (T_3.setTop (mkF m 31 #[.val (.ref a1), .val (.int (own_i outs.length)), .val (.int p2), .val (.int p3), .val (.int (2 : Int32))] [(.int (p3 &&& (((1 : Int32) <<< ((2 : Int32) &&& 31)) - (1 : Int32)))), (.int (own_i outs.length)), (.ref a1)]))
        obtain ⟨_, T_5, Lc_5, X_5, hQ_5, st_5⟩ := own_un X_3 (Q := Q3 Z (p3 &&& (((1 : Int32) <<< ((2 : Int32) &&& 31)) - (1 : Int32))) h0 n0) (rc := 0) (rs := 0) (W := fun v B => ∀ target, Steps p.tables e below (B.setTop { (mkF m 31 #[.val (.ref a1), .val (.int (own_i outs.length)), .val (.int p2), .val (.int p3), .val (.int (2 : Int32))] [(.int (p3 &&& (((1 : Int32) <<< ((2 : Int32) &&& 31)) - (1 : Int32)))), (.int (own_i outs.length)), (.ref a1)]) with pc := 34, stack := v.toList ++ [(.int (own_i outs.length)), (.ref a1)] }) target → Steps p.tables e below (T_3.setTop (mkF m 31 #[.val (.ref a1), .val (.int (own_i outs.length)), .val (.int p2), .val (.int p3), .val (.int (2 : Int32))] [(.int (p3 &&& (((1 : Int32) <<< ((2 : Int32) &&& 31)) - (1 : Int32)))), (.int (own_i outs.length)), (.ref a1)])) target) <| Jvm.LawKit.callS X_3 hx (y := (⟨"com/example/cogram/cogram/index/PostingsEntriesPinLaw", "count", "(I)I"⟩ : MethodName)) hown (mvT hZ (hw _ (List.mem_of_getElem? (i := 9) rfl))) (mvT hZ (hw _ (List.mem_of_getElem? (i := 10) rfl))) (mvT hZ (hw _ (List.mem_of_getElem? (i := 7) rfl))) (mvT hZ (hw _ (List.mem_of_getElem? (i := 11) rfl))) (by decide) (backOf (W := 2) (rm3 l Z a0 hw [] (p3 &&& (((1 : Int32) <<< ((2 : Int32) &&& 31)) - (1 : Int32))) h0 n0 Z0 ) hZ (hw _ (List.mem_of_getElem? (i := 11) rfl)) (hw _ (List.mem_of_getElem? (i := 7) rfl)) (by decide) (by decide)) (g := (mkF m 31 #[.val (.ref a1), .val (.int (own_i outs.length)), .val (.int p2), .val (.int p3), .val (.int (2 : Int32))] [(.int (p3 &&& (((1 : Int32) <<< ((2 : Int32) &&& 31)) - (1 : Int32)))), (.int (own_i outs.length)), (.ref a1)])) rfl (by rw [hml]; rfl) (argsL := [(.int (p3 &&& (((1 : Int32) <<< ((2 : Int32) &&& 31)) - (1 : Int32))))]) (rest := [(.int (own_i outs.length)), (.ref a1)]) (lenOf pd_1 rfl) rfl (by show 2 * 0 + _ ≤ _; exact Nat.le_of_eq rfl) (hb hby d5_31) (fun _ _ => ⟨rfl, e_3, (by decide : 0 + 0 ≤ _), (by decide : 0 + 0 ≤ _)⟩)
        obtain ⟨rfl, N_5q, e_5⟩ := hQ_5
        have N_5 := Fr.app N_3 N_5q
        refine OGo.to st_5 ?_
        show OGo p e below _ (T_5.setTop (mkF m 34 #[.val (.ref a1), .val (.int (own_i outs.length)), .val (.int p2), .val (.int p3), .val (.int (2 : Int32))] [(.int (own_count (p3 &&& (((1 : Int32) <<< ((2 : Int32) &&& 31)) - (1 : Int32))))), (.int (own_i outs.length)), (.ref a1)]))
        refine OGo.to (fun _ k => XS.goto X_5.here hx rfl (pc0 := 34) (pc' := 38) rfl (hb hby d5_34) (by decide) (by decide) k) ?_
        show OGo p e below _ (T_5.setTop (mkF m 38 #[.val (.ref a1), .val (.int (own_i outs.length)), .val (.int p2), .val (.int p3), .val (.int (2 : Int32))] [(.int (own_count (p3 &&& (((1 : Int32) <<< ((2 : Int32) &&& 31)) - (1 : Int32))))), (.int (own_i outs.length)), (.ref a1)]))
        have Vp_6 : Arv Z h0 a1 kc .int nn ((outs.map Value.int) ++ List.replicate 1 (.int (0 : Int32))) (.int (0 : Int32)) := V1.pad (pad_rep (outs.map Value.int) (.int (0 : Int32)) 1)
        have Vq_7 := Vp_6
        obtain ⟨cl_7, Ar_7, q_7, S_7, M_7, Hs_7, G_7⟩ := Vq_7
        have hin_8 : ¬ ((own_i outs.length) < 0 ∨ cl_7.slots.size ≤ ((own_i outs.length)).toNatClampNeg) := inb_of S_7 ⟨own_inn _ (by omega), hin hc6__2⟩
        obtain ⟨T_8, h_8, X_8, e_8, W_8, st_8⟩ := stI X_5 hx hZ e_5 Ar_7 (j := (own_i outs.length)) hin_8 (g := (mkF m 38 #[.val (.ref a1), .val (.int (own_i outs.length)), .val (.int p2), .val (.int p3), .val (.int (2 : Int32))] [(.int (own_count (p3 &&& (((1 : Int32) <<< ((2 : Int32) &&& 31)) - (1 : Int32))))), (.int (own_i outs.length)), (.ref a1)])) rfl rfl (hb hby d5_38)
        refine OGo.to st_8 ?_
        have V_8 : Arv Z h_8 a1 kc .int nn ((outs ++ [(own_count (p3 &&& (((1 : Int32) <<< ((2 : Int32) &&& 31)) - (1 : Int32))))]).map Value.int) (.int (0 : Int32)) := (by have q := Arv.set Ar_7 q_7 S_7 M_7 Hs_7 G_7 rfl W_8 outs.length (own_clamp _ (by omega)) (by simp); rwa [own_setlast] at q)
        have N_8 := Fr.snoc X_8 N_5 g1
        have z_9 : n0 ≤ h_8.size := Nat.le_trans Z0 (Keep.of_wr W_8).1
        have K_10 : Keep h0 h_8 [a1] := (Keep.refl h0 [a1]).wr W_8 (Or.inl (List.mem_of_getElem? (i := 0) rfl))
        show OGo p e below _ (T_8.setTop (mkF m 39 #[.val (.ref a1), .val (.int (own_i outs.length)), .val (.int p2), .val (.int p3), .val (.int (2 : Int32))] []))
        refine OGo.to (fun _ k => XS.iloadN X_8.here hx rfl (hb hby d5_39) rfl k) ?_
        show OGo p e below _ (T_8.setTop (mkF m 40 #[.val (.ref a1), .val (.int (own_i outs.length)), .val (.int p2), .val (.int p3), .val (.int (2 : Int32))] [(.int (own_i outs.length))]))
        refine OGo.to (fun _ k => XS.iconst X_8.here hx rfl (hb hby d5_40) k) ?_
        show OGo p e below _ (T_8.setTop (mkF m 41 #[.val (.ref a1), .val (.int (own_i outs.length)), .val (.int p2), .val (.int p3), .val (.int (2 : Int32))] [(.int (1 : Int32)), (.int (own_i outs.length))]))
        refine OGo.to (fun _ k => XS.iadd X_8.here hx rfl (hb hby d5_41) rfl k) ?_
        show OGo p e below _ (T_8.setTop (mkF m 42 #[.val (.ref a1), .val (.int (own_i outs.length)), .val (.int p2), .val (.int p3), .val (.int (2 : Int32))] [(.int ((own_i outs.length) + (1 : Int32)))]))
        refine OGo.ret (Q := Qput2 Z a1 (own_i outs.length) p2 p3 kc nn outs h0 n0) X_8 (some (.int ((own_i outs.length) + (1 : Int32)))) (fun h => by rw [Bd.returns] at h; cases h) Bd.notSynchronized (fun fs hr => retI X_8 hx Bd.returns (hb hby d5_42) hr) ?_ (by decide) (by decide)
        show Qput2 Z a1 (own_i outs.length) p2 p3 kc nn outs h0 n0 _ T_8.heap _
        rw [e_8]
        exact ⟨congrArg (fun z => some (Value.int z)) (show ((own_i outs.length) + (1 : Int32)) = (own_i (own_put outs p2 p3 (2 : Int32)).length) from (own_len1 outs _).trans (congrArg (fun z : List Int32 => own_i z.length) ((own_put1 (o := outs) hc6__2 hc20__4).symm))), N_8, K_10, (own_castV V_8 ((own_put1 (o := outs) hc6__2 hc20__4).symm))⟩
      ·  -- pc 20: no
        refine OGo.to (fun _ k => XS.icmpYes X_3.here hx rfl (pc0 := 20) (pc' := 37) rfl (hb hby d5_20) rfl (feq hc20__4).2 (by decide) (by decide) k) ?_
        show OGo p e below _ (T_3.setTop (mkF m 37 #[.val (.ref a1), .val (.int (own_i outs.length)), .val (.int p2), .val (.int p3), .val (.int (2 : Int32))] [(.int (own_i outs.length)), (.ref a1)]))
        refine OGo.to (fun _ k => XS.iconst X_3.here hx rfl (hb hby d5_37) k) ?_
        show OGo p e below _ (T_3.setTop (mkF m 38 #[.val (.ref a1), .val (.int (own_i outs.length)), .val (.int p2), .val (.int p3), .val (.int (2 : Int32))] [(.int (-1 : Int32)), (.int (own_i outs.length)), (.ref a1)]))
        have Vp_11 : Arv Z h0 a1 kc .int nn ((outs.map Value.int) ++ List.replicate 1 (.int (0 : Int32))) (.int (0 : Int32)) := V1.pad (pad_rep (outs.map Value.int) (.int (0 : Int32)) 1)
        have Vq_12 := Vp_11
        obtain ⟨cl_12, Ar_12, q_12, S_12, M_12, Hs_12, G_12⟩ := Vq_12
        have hin_13 : ¬ ((own_i outs.length) < 0 ∨ cl_12.slots.size ≤ ((own_i outs.length)).toNatClampNeg) := inb_of S_12 ⟨own_inn _ (by omega), hin hc6__2⟩
        obtain ⟨T_13, h_13, X_13, e_13, W_13, st_13⟩ := stI X_3 hx hZ e_3 Ar_12 (j := (own_i outs.length)) hin_13 (g := (mkF m 38 #[.val (.ref a1), .val (.int (own_i outs.length)), .val (.int p2), .val (.int p3), .val (.int (2 : Int32))] [(.int (-1 : Int32)), (.int (own_i outs.length)), (.ref a1)])) rfl rfl (hb hby d5_38)
        refine OGo.to st_13 ?_
        have V_13 : Arv Z h_13 a1 kc .int nn ((outs ++ [(-1 : Int32)]).map Value.int) (.int (0 : Int32)) := (by have q := Arv.set Ar_12 q_12 S_12 M_12 Hs_12 G_12 rfl W_13 outs.length (own_clamp _ (by omega)) (by simp); rwa [own_setlast] at q)
        have N_13 := Fr.snoc X_13 N_3 g1
        have z_14 : n0 ≤ h_13.size := Nat.le_trans Z0 (Keep.of_wr W_13).1
        have K_15 : Keep h0 h_13 [a1] := (Keep.refl h0 [a1]).wr W_13 (Or.inl (List.mem_of_getElem? (i := 0) rfl))
        show OGo p e below _ (T_13.setTop (mkF m 39 #[.val (.ref a1), .val (.int (own_i outs.length)), .val (.int p2), .val (.int p3), .val (.int (2 : Int32))] []))
        refine OGo.to (fun _ k => XS.iloadN X_13.here hx rfl (hb hby d5_39) rfl k) ?_
        show OGo p e below _ (T_13.setTop (mkF m 40 #[.val (.ref a1), .val (.int (own_i outs.length)), .val (.int p2), .val (.int p3), .val (.int (2 : Int32))] [(.int (own_i outs.length))]))
        refine OGo.to (fun _ k => XS.iconst X_13.here hx rfl (hb hby d5_40) k) ?_
        show OGo p e below _ (T_13.setTop (mkF m 41 #[.val (.ref a1), .val (.int (own_i outs.length)), .val (.int p2), .val (.int p3), .val (.int (2 : Int32))] [(.int (1 : Int32)), (.int (own_i outs.length))]))
        refine OGo.to (fun _ k => XS.iadd X_13.here hx rfl (hb hby d5_41) rfl k) ?_
        show OGo p e below _ (T_13.setTop (mkF m 42 #[.val (.ref a1), .val (.int (own_i outs.length)), .val (.int p2), .val (.int p3), .val (.int (2 : Int32))] [(.int ((own_i outs.length) + (1 : Int32)))]))
        refine OGo.ret (Q := Qput2 Z a1 (own_i outs.length) p2 p3 kc nn outs h0 n0) X_13 (some (.int ((own_i outs.length) + (1 : Int32)))) (fun h => by rw [Bd.returns] at h; cases h) Bd.notSynchronized (fun fs hr => retI X_13 hx Bd.returns (hb hby d5_42) hr) ?_ (by decide) (by decide)
        show Qput2 Z a1 (own_i outs.length) p2 p3 kc nn outs h0 n0 _ T_13.heap _
        rw [e_13]
        exact ⟨congrArg (fun z => some (Value.int z)) (show ((own_i outs.length) + (1 : Int32)) = (own_i (own_put outs p2 p3 (2 : Int32)).length) from (own_len1 outs _).trans (congrArg (fun z : List Int32 => own_i z.length) ((own_put2 (o := outs) hc6__2 hc20__4).symm))), N_13, K_15, (own_castV V_13 ((own_put2 (o := outs) hc6__2 hc20__4).symm))⟩
theorem ef_put3 (m : MethodId) (x0 : Addr) (x1 : Int32) (x2 : Int32) (x3 : Int32) (x4 : Int32) : entryFrame m #[(.ref x0), (.int x1), (.int x2), (.int x3), (.int x4)] 5 = mkF m 0 #[.val (.ref x0), .val (.int x1), .val (.int x2), .val (.int x3), .val (.int x4)] [] := by first | (simp [entryFrame, mkF, argsToLocals, Value.category]; done) | rfl
def Qput3 (Z : State) (a1 : Addr) (p1 : Int32) (p2 : Int32) (p3 : Int32) (kc : ClassId) (nn : Int32) (outs : List Int32) (h0 : Heap) (n0 : Nat) (v : Option Value) (h : Heap) (L : List Loc) : Prop := v = some (.int (own_i (own_put outs p2 p3 (3 : Int32)).length)) ∧ Fr n0 L ∧ Keep h0 h [a1] ∧ Arv Z h a1 kc .int nn ((own_put outs p2 p3 (3 : Int32)).map Value.int) (.int (0 : Int32))
set_option maxRecDepth 65536 in
set_option maxHeartbeats 40000000 in
theorem rmput3 (l : Launch) (Z : State) (a0 : Array Value) (hw : ∀ d ∈ tables_1, d.before a0 Z = true) (ws : List Jvm.Cond) (a1 : Addr) (p1 : Int32) (p2 : Int32) (p3 : Int32) (kc : ClassId) (nn : Int32) (outs : List Int32) (h0 : Heap) (n0 : Nat) (Z0 : n0 ≤ h0.size) (V1 : Arv Z h0 a1 kc .int nn (outs.map Value.int) (.int (0 : Int32))) (hk1 : p1 = own_i outs.length) (hin : ¬ own_bit p2 (3 : Int32) = (0 : Int32) → own_i outs.length < nn) (hl : outs.length < 100) (g1 : n0 ≤ a1) :
    MetFree l (⟨"com/example/cogram/cogram/index/PostingsEntriesPinLaw", "put", "([IIIII)I"⟩ : MethodName) (head1 (Jvm.Cond.code (⟨"com/example/cogram/cogram/index/PostingsEntriesPinLaw", "put", "([IIIII)I"⟩ : MethodName) method_6_code 5 (some .int) :: ws) ({ frames := 2, cells := 0, slots := 0, locals := 28 } : Room)) (fun a U => a = #[(.ref a1), (.int p1), (.int p2), (.int p3), (.int (3 : Int32))] ∧ Z.Warmed39 U.vm ∧ U.heap = h0) (fun _ _ _ _ _ => True) (fun _ U o U' => ∃ v L, o = .returned v ∧ Qput3 Z a1 p1 p2 p3 kc nn outs h0 n0 v U'.heap L ∧ FrameEnd U o U' L ({ frames := 2, cells := 0, slots := 0, locals := 28 } : Room).cells ({ frames := 2, cells := 0, slots := 0, locals := 28 } : Room).slots) := by
  refine MetFree.of_bodySF (plainFor_of_name pn_0) hisR ?_
  intro p e s m args below meth c s₁ Bd hml0 hP hK
  obtain ⟨rfl, hZ, hh⟩ := hP
  have hx := Bd.exec
  have hby := Bd.bytes
  have hml : c.maxLocals = 5 := hml0
  have hown : s.vm.findClass "com/example/cogram/cogram/index/PostingsEntriesPinLaw" = some m.cls := findClass_of_methodNamed Bd.named
  have hnm := (name_of_methodNamed Bd.named Bd.method).1
  have X0 : Stand p l e ({ frames := 2, cells := 0, slots := 0, locals := 28 } : Room) s m #[(.ref a1), (.int p1), (.int p2), (.int p3), (.int (3 : Int32))] below meth c s₁ [] 0 0 := Stand.of_body Bd
  have e0 : s₁.heap = h0 := by rw [← hh, Bd.state]; rfl
  have N0 := Fr.nil n0
  show OGo p e below (fun s₂ o => ∃ v L, o = .returned v ∧ Qput3 Z a1 p1 p2 p3 kc nn outs h0 n0 v s₂.heap L ∧ FrameEnd s o s₂ L ({ frames := 2, cells := 0, slots := 0, locals := 28 } : Room).cells ({ frames := 2, cells := 0, slots := 0, locals := 28 } : Room).slots) _
  refine OGo.to (fun _ k => castTop (ef_put3 m a1 p1 p2 p3 (3 : Int32)) k) ?_
  rcases hk1 with rfl
  ·
    show OGo p e below _ (s₁.setTop (mkF m 0 #[.val (.ref a1), .val (.int (own_i outs.length)), .val (.int p2), .val (.int p3), .val (.int (3 : Int32))] []))
    refine OGo.to (fun _ k => XS.iloadN X0.here hx rfl (hb hby d5_0) rfl k) ?_
    show OGo p e below _ (s₁.setTop (mkF m 1 #[.val (.ref a1), .val (.int (own_i outs.length)), .val (.int p2), .val (.int p3), .val (.int (3 : Int32))] [(.int p2)]))
    refine OGo.to (fun _ k => XS.iload X0.here hx rfl (hb hby d5_1) rfl k) ?_
    show OGo p e below _ (s₁.setTop (mkF m 3 #[.val (.ref a1), .val (.int (own_i outs.length)), .val (.int p2), .val (.int p3), .val (.int (3 : Int32))] [(.int (3 : Int32)), (.int p2)]))
    obtain ⟨_, T_1, Lc_1, X_1, hQ_1, st_1⟩ := own_un X0 (Q := Q4 Z p2 (3 : Int32) h0 n0) (rc := 0) (rs := 0) (W := fun v B => ∀ target, Steps p.tables e below (B.setTop { (mkF m 3 #[.val (.ref a1), .val (.int (own_i outs.length)), .val (.int p2), .val (.int p3), .val (.int (3 : Int32))] [(.int (3 : Int32)), (.int p2)]) with pc := 6, stack := v.toList ++ [] }) target → Steps p.tables e below (s₁.setTop (mkF m 3 #[.val (.ref a1), .val (.int (own_i outs.length)), .val (.int p2), .val (.int p3), .val (.int (3 : Int32))] [(.int (3 : Int32)), (.int p2)])) target) <| Jvm.LawKit.callS X0 hx (y := (⟨"com/example/cogram/cogram/index/PostingsEntriesPinLaw", "bit", "(II)I"⟩ : MethodName)) hown (mvT hZ (hw _ (List.mem_of_getElem? (i := 12) rfl))) (mvT hZ (hw _ (List.mem_of_getElem? (i := 13) rfl))) (mvT hZ (hw _ (List.mem_of_getElem? (i := 7) rfl))) (mvT hZ (hw _ (List.mem_of_getElem? (i := 14) rfl))) (by decide) (backOf (W := 0) (rm4 l Z a0 hw [] p2 (3 : Int32) h0 n0 Z0 ) hZ (hw _ (List.mem_of_getElem? (i := 14) rfl)) (hw _ (List.mem_of_getElem? (i := 7) rfl)) (by decide) (by decide)) (g := (mkF m 3 #[.val (.ref a1), .val (.int (own_i outs.length)), .val (.int p2), .val (.int p3), .val (.int (3 : Int32))] [(.int (3 : Int32)), (.int p2)])) rfl (by rw [hml]; rfl) (argsL := [(.int p2), (.int (3 : Int32))]) (rest := []) (lenOf pd_0 rfl) rfl (by show 2 * 0 + _ ≤ _; exact Nat.le_of_eq rfl) (hb hby d5_3) (fun _ _ => ⟨rfl, e0, (by decide : 0 + 0 ≤ _), (by decide : 0 + 0 ≤ _)⟩)
    obtain ⟨rfl, N_1q, e_1⟩ := hQ_1
    have N_1 := Fr.app N0 N_1q
    refine OGo.to st_1 ?_
    show OGo p e below _ (T_1.setTop (mkF m 6 #[.val (.ref a1), .val (.int (own_i outs.length)), .val (.int p2), .val (.int p3), .val (.int (3 : Int32))] [(.int (own_bit p2 (3 : Int32)))]))
    by_cases hc6__2 : (own_bit p2 (3 : Int32)) = (0 : Int32)
    ·  -- pc 6: yes
      refine OGo.to (fun _ k => XS.ifNo X_1.here hx rfl (hb hby d5_6) rfl ((if0 _ _).trans (teq hc6__2).2) k) ?_
      show OGo p e below _ (T_1.setTop (mkF m 9 #[.val (.ref a1), .val (.int (own_i outs.length)), .val (.int p2), .val (.int p3), .val (.int (3 : Int32))] []))
      refine OGo.to (fun _ k => XS.iloadN X_1.here hx rfl (hb hby d5_9) rfl k) ?_
      show OGo p e below _ (T_1.setTop (mkF m 10 #[.val (.ref a1), .val (.int (own_i outs.length)), .val (.int p2), .val (.int p3), .val (.int (3 : Int32))] [(.int (own_i outs.length))]))
      refine OGo.ret (Q := Qput3 Z a1 (own_i outs.length) p2 p3 kc nn outs h0 n0) X_1 (some (.int (own_i outs.length))) (fun h => by rw [Bd.returns] at h; cases h) Bd.notSynchronized (fun fs hr => retI X_1 hx Bd.returns (hb hby d5_10) hr) ?_ (by decide) (by decide)
      show Qput3 Z a1 (own_i outs.length) p2 p3 kc nn outs h0 n0 _ T_1.heap _
      rw [e_1]
      exact ⟨congrArg (fun z => some (Value.int z)) (show (own_i outs.length) = (own_i (own_put outs p2 p3 (3 : Int32)).length) from congrArg (fun z : List Int32 => own_i z.length) ((own_put0 (o := outs) (hm := p3) hc6__2).symm)), N_1, (Keep.refl h0 [a1]), (own_castV V1 ((own_put0 (o := outs) (hm := p3) hc6__2).symm))⟩
    ·  -- pc 6: no
      refine OGo.to (fun _ k => XS.ifYes X_1.here hx rfl (pc0 := 6) (pc' := 11) rfl (hb hby d5_6) rfl ((if0 _ _).trans (feq hc6__2).2) (by decide) (by decide) k) ?_
      show OGo p e below _ (T_1.setTop (mkF m 11 #[.val (.ref a1), .val (.int (own_i outs.length)), .val (.int p2), .val (.int p3), .val (.int (3 : Int32))] []))
      refine OGo.to (fun _ k => XS.aloadN X_1.here hx rfl (hb hby d5_11) rfl rfl k) ?_
      show OGo p e below _ (T_1.setTop (mkF m 12 #[.val (.ref a1), .val (.int (own_i outs.length)), .val (.int p2), .val (.int p3), .val (.int (3 : Int32))] [(.ref a1)]))
      refine OGo.to (fun _ k => XS.iloadN X_1.here hx rfl (hb hby d5_12) rfl k) ?_
      show OGo p e below _ (T_1.setTop (mkF m 13 #[.val (.ref a1), .val (.int (own_i outs.length)), .val (.int p2), .val (.int p3), .val (.int (3 : Int32))] [(.int (own_i outs.length)), (.ref a1)]))
      refine OGo.to (fun _ k => XS.iloadN X_1.here hx rfl (hb hby d5_13) rfl k) ?_
      show OGo p e below _ (T_1.setTop (mkF m 14 #[.val (.ref a1), .val (.int (own_i outs.length)), .val (.int p2), .val (.int p3), .val (.int (3 : Int32))] [(.int p3), (.int (own_i outs.length)), (.ref a1)]))
      refine OGo.to (fun _ k => XS.iload X_1.here hx rfl (hb hby d5_14) rfl k) ?_
      show OGo p e below _ (T_1.setTop (mkF m 16 #[.val (.ref a1), .val (.int (own_i outs.length)), .val (.int p2), .val (.int p3), .val (.int (3 : Int32))] [(.int (3 : Int32)), (.int p3), (.int (own_i outs.length)), (.ref a1)]))
      obtain ⟨_, T_3, Lc_3, X_3, hQ_3, st_3⟩ := own_un X_1 (Q := Q4 Z p3 (3 : Int32) h0 n0) (rc := 0) (rs := 0) (W := fun v B => ∀ target, Steps p.tables e below (B.setTop { (mkF m 16 #[.val (.ref a1), .val (.int (own_i outs.length)), .val (.int p2), .val (.int p3), .val (.int (3 : Int32))] [(.int (3 : Int32)), (.int p3), (.int (own_i outs.length)), (.ref a1)]) with pc := 19, stack := v.toList ++ [(.int (own_i outs.length)), (.ref a1)] }) target → Steps p.tables e below (T_1.setTop (mkF m 16 #[.val (.ref a1), .val (.int (own_i outs.length)), .val (.int p2), .val (.int p3), .val (.int (3 : Int32))] [(.int (3 : Int32)), (.int p3), (.int (own_i outs.length)), (.ref a1)])) target) <| Jvm.LawKit.callS X_1 hx (y := (⟨"com/example/cogram/cogram/index/PostingsEntriesPinLaw", "bit", "(II)I"⟩ : MethodName)) hown (mvT hZ (hw _ (List.mem_of_getElem? (i := 12) rfl))) (mvT hZ (hw _ (List.mem_of_getElem? (i := 13) rfl))) (mvT hZ (hw _ (List.mem_of_getElem? (i := 7) rfl))) (mvT hZ (hw _ (List.mem_of_getElem? (i := 14) rfl))) (by decide) (backOf (W := 2) (rm4 l Z a0 hw [] p3 (3 : Int32) h0 n0 Z0 ) hZ (hw _ (List.mem_of_getElem? (i := 14) rfl)) (hw _ (List.mem_of_getElem? (i := 7) rfl)) (by decide) (by decide)) (g := (mkF m 16 #[.val (.ref a1), .val (.int (own_i outs.length)), .val (.int p2), .val (.int p3), .val (.int (3 : Int32))] [(.int (3 : Int32)), (.int p3), (.int (own_i outs.length)), (.ref a1)])) rfl (by rw [hml]; rfl) (argsL := [(.int p3), (.int (3 : Int32))]) (rest := [(.int (own_i outs.length)), (.ref a1)]) (lenOf pd_0 rfl) rfl (by show 2 * 0 + _ ≤ _; exact Nat.le_of_eq rfl) (hb hby d5_16) (fun _ _ => ⟨rfl, e_1, (by decide : 0 + 0 ≤ _), (by decide : 0 + 0 ≤ _)⟩)
      obtain ⟨rfl, N_3q, e_3⟩ := hQ_3
      have N_3 := Fr.app N_1 N_3q
      refine OGo.to st_3 ?_
      show OGo p e below _ (T_3.setTop (mkF m 19 #[.val (.ref a1), .val (.int (own_i outs.length)), .val (.int p2), .val (.int p3), .val (.int (3 : Int32))] [(.int (own_bit p3 (3 : Int32))), (.int (own_i outs.length)), (.ref a1)]))
      refine OGo.to (fun _ k => XS.iconst X_3.here hx rfl (hb hby d5_19) k) ?_
      show OGo p e below _ (T_3.setTop (mkF m 20 #[.val (.ref a1), .val (.int (own_i outs.length)), .val (.int p2), .val (.int p3), .val (.int (3 : Int32))] [(.int (1 : Int32)), (.int (own_bit p3 (3 : Int32))), (.int (own_i outs.length)), (.ref a1)]))
      by_cases hc20__4 : (own_bit p3 (3 : Int32)) = (1 : Int32)
      ·  -- pc 20: yes
        refine OGo.to (fun _ k => XS.icmpNo X_3.here hx rfl (hb hby d5_20) rfl (teq hc20__4).2 k) ?_
        show OGo p e below _ (T_3.setTop (mkF m 23 #[.val (.ref a1), .val (.int (own_i outs.length)), .val (.int p2), .val (.int p3), .val (.int (3 : Int32))] [(.int (own_i outs.length)), (.ref a1)]))
        refine OGo.to (fun _ k => XS.iloadN X_3.here hx rfl (hb hby d5_23) rfl k) ?_
        show OGo p e below _ (T_3.setTop (mkF m 24 #[.val (.ref a1), .val (.int (own_i outs.length)), .val (.int p2), .val (.int p3), .val (.int (3 : Int32))] [(.int p3), (.int (own_i outs.length)), (.ref a1)]))
        refine OGo.to (fun _ k => XS.iconst X_3.here hx rfl (hb hby d5_24) k) ?_
        show OGo p e below _ (T_3.setTop (mkF m 25 #[.val (.ref a1), .val (.int (own_i outs.length)), .val (.int p2), .val (.int p3), .val (.int (3 : Int32))] [(.int (1 : Int32)), (.int p3), (.int (own_i outs.length)), (.ref a1)]))
        refine OGo.to (fun _ k => XS.iload X_3.here hx rfl (hb hby d5_25) rfl k) ?_
        show OGo p e below _ (T_3.setTop (mkF m 27 #[.val (.ref a1), .val (.int (own_i outs.length)), .val (.int p2), .val (.int p3), .val (.int (3 : Int32))] [(.int (3 : Int32)), (.int (1 : Int32)), (.int p3), (.int (own_i outs.length)), (.ref a1)]))
        refine OGo.to (fun _ k => XS.ishl X_3.here hx rfl (hb hby d5_27) rfl k) ?_
        show OGo p e below _ (T_3.setTop (mkF m 28 #[.val (.ref a1), .val (.int (own_i outs.length)), .val (.int p2), .val (.int p3), .val (.int (3 : Int32))] [(.int ((1 : Int32) <<< ((3 : Int32) &&& 31))), (.int p3), (.int (own_i outs.length)), (.ref a1)]))
        refine OGo.to (fun _ k => XS.iconst X_3.here hx rfl (hb hby d5_28) k) ?_
        show OGo p e below _ (T_3.setTop (mkF m 29 #[.val (.ref a1), .val (.int (own_i outs.length)), .val (.int p2), .val (.int p3), .val (.int (3 : Int32))] [(.int (1 : Int32)), (.int ((1 : Int32) <<< ((3 : Int32) &&& 31))), (.int p3), (.int (own_i outs.length)), (.ref a1)]))
        refine OGo.to (fun _ k => XS.isub X_3.here hx rfl (hb hby d5_29) rfl k) ?_
        show OGo p e below _ (T_3.setTop (mkF m 30 #[.val (.ref a1), .val (.int (own_i outs.length)), .val (.int p2), .val (.int p3), .val (.int (3 : Int32))] [(.int (((1 : Int32) <<< ((3 : Int32) &&& 31)) - (1 : Int32))), (.int p3), (.int (own_i outs.length)), (.ref a1)]))
        refine OGo.to (fun _ k => XS.iand X_3.here hx rfl (hb hby d5_30) rfl k) ?_
        show OGo p e below _ (T_3.setTop (mkF m 31 #[.val (.ref a1), .val (.int (own_i outs.length)), .val (.int p2), .val (.int p3), .val (.int (3 : Int32))] [(.int (p3 &&& (((1 : Int32) <<< ((3 : Int32) &&& 31)) - (1 : Int32)))), (.int (own_i outs.length)), (.ref a1)]))
        obtain ⟨_, T_5, Lc_5, X_5, hQ_5, st_5⟩ := own_un X_3 (Q := Q3 Z (p3 &&& (((1 : Int32) <<< ((3 : Int32) &&& 31)) - (1 : Int32))) h0 n0) (rc := 0) (rs := 0) (W := fun v B => ∀ target, Steps p.tables e below (B.setTop { (mkF m 31 #[.val (.ref a1), .val (.int (own_i outs.length)), .val (.int p2), .val (.int p3), .val (.int (3 : Int32))] [(.int (p3 &&& (((1 : Int32) <<< ((3 : Int32) &&& 31)) - (1 : Int32)))), (.int (own_i outs.length)), (.ref a1)]) with pc := 34, stack := v.toList ++ [(.int (own_i outs.length)), (.ref a1)] }) target → Steps p.tables e below (T_3.setTop (mkF m 31 #[.val (.ref a1), .val (.int (own_i outs.length)), .val (.int p2), .val (.int p3), .val (.int (3 : Int32))] [(.int (p3 &&& (((1 : Int32) <<< ((3 : Int32) &&& 31)) - (1 : Int32)))), (.int (own_i outs.length)), (.ref a1)])) target) <| Jvm.LawKit.callS X_3 hx (y := (⟨"com/example/cogram/cogram/index/PostingsEntriesPinLaw", "count", "(I)I"⟩ : MethodName)) hown (mvT hZ (hw _ (List.mem_of_getElem? (i := 9) rfl))) (mvT hZ (hw _ (List.mem_of_getElem? (i := 10) rfl))) (mvT hZ (hw _ (List.mem_of_getElem? (i := 7) rfl))) (mvT hZ (hw _ (List.mem_of_getElem? (i := 11) rfl))) (by decide) (backOf (W := 2) (rm3 l Z a0 hw [] (p3 &&& (((1 : Int32) <<< ((3 : Int32) &&& 31)) - (1 : Int32))) h0 n0 Z0 ) hZ (hw _ (List.mem_of_getElem? (i := 11) rfl)) (hw _ (List.mem_of_getElem? (i := 7) rfl)) (by decide) (by decide)) (g := (mkF m 31 #[.val (.ref a1), .val (.int (own_i outs.length)), .val (.int p2), .val (.int p3), .val (.int (3 : Int32))] [(.int (p3 &&& (((1 : Int32) <<< ((3 : Int32) &&& 31)) - (1 : Int32)))), (.int (own_i outs.length)), (.ref a1)])) rfl (by rw [hml]; rfl) (argsL := [(.int (p3 &&& (((1 : Int32) <<< ((3 : Int32) &&& 31)) - (1 : Int32))))]) (rest := [(.int (own_i outs.length)), (.ref a1)]) (lenOf pd_1 rfl) rfl (by show 2 * 0 + _ ≤ _; exact Nat.le_of_eq rfl) (hb hby d5_31) (fun _ _ => ⟨rfl, e_3, (by decide : 0 + 0 ≤ _), (by decide : 0 + 0 ≤ _)⟩)
        obtain ⟨rfl, N_5q, e_5⟩ := hQ_5
        have N_5 := Fr.app N_3 N_5q
        refine OGo.to st_5 ?_
        show OGo p e below _ (T_5.setTop (mkF m 34 #[.val (.ref a1), .val (.int (own_i outs.length)), .val (.int p2), .val (.int p3), .val (.int (3 : Int32))] [(.int (own_count (p3 &&& (((1 : Int32) <<< ((3 : Int32) &&& 31)) - (1 : Int32))))), (.int (own_i outs.length)), (.ref a1)]))
        refine OGo.to (fun _ k => XS.goto X_5.here hx rfl (pc0 := 34) (pc' := 38) rfl (hb hby d5_34) (by decide) (by decide) k) ?_
        show OGo p e below _ (T_5.setTop (mkF m 38 #[.val (.ref a1), .val (.int (own_i outs.length)), .val (.int p2), .val (.int p3), .val (.int (3 : Int32))] [(.int (own_count (p3 &&& (((1 : Int32) <<< ((3 : Int32) &&& 31)) - (1 : Int32))))), (.int (own_i outs.length)), (.ref a1)]))
        have Vp_6 : Arv Z h0 a1 kc .int nn ((outs.map Value.int) ++ List.replicate 1 (.int (0 : Int32))) (.int (0 : Int32)) := V1.pad (pad_rep (outs.map Value.int) (.int (0 : Int32)) 1)
        have Vq_7 := Vp_6
        obtain ⟨cl_7, Ar_7, q_7, S_7, M_7, Hs_7, G_7⟩ := Vq_7
        have hin_8 : ¬ ((own_i outs.length) < 0 ∨ cl_7.slots.size ≤ ((own_i outs.length)).toNatClampNeg) := inb_of S_7 ⟨own_inn _ (by omega), hin hc6__2⟩
        obtain ⟨T_8, h_8, X_8, e_8, W_8, st_8⟩ := stI X_5 hx hZ e_5 Ar_7 (j := (own_i outs.length)) hin_8 (g := (mkF m 38 #[.val (.ref a1), .val (.int (own_i outs.length)), .val (.int p2), .val (.int p3), .val (.int (3 : Int32))] [(.int (own_count (p3 &&& (((1 : Int32) <<< ((3 : Int32) &&& 31)) - (1 : Int32))))), (.int (own_i outs.length)), (.ref a1)])) rfl rfl (hb hby d5_38)
        refine OGo.to st_8 ?_
        have V_8 : Arv Z h_8 a1 kc .int nn ((outs ++ [(own_count (p3 &&& (((1 : Int32) <<< ((3 : Int32) &&& 31)) - (1 : Int32))))]).map Value.int) (.int (0 : Int32)) := (by have q := Arv.set Ar_7 q_7 S_7 M_7 Hs_7 G_7 rfl W_8 outs.length (own_clamp _ (by omega)) (by simp); rwa [own_setlast] at q)
        have N_8 := Fr.snoc X_8 N_5 g1
        have z_9 : n0 ≤ h_8.size := Nat.le_trans Z0 (Keep.of_wr W_8).1
        have K_10 : Keep h0 h_8 [a1] := (Keep.refl h0 [a1]).wr W_8 (Or.inl (List.mem_of_getElem? (i := 0) rfl))
        show OGo p e below _ (T_8.setTop (mkF m 39 #[.val (.ref a1), .val (.int (own_i outs.length)), .val (.int p2), .val (.int p3), .val (.int (3 : Int32))] []))
        refine OGo.to (fun _ k => XS.iloadN X_8.here hx rfl (hb hby d5_39) rfl k) ?_
        show OGo p e below _ (T_8.setTop (mkF m 40 #[.val (.ref a1), .val (.int (own_i outs.length)), .val (.int p2), .val (.int p3), .val (.int (3 : Int32))] [(.int (own_i outs.length))]))
        refine OGo.to (fun _ k => XS.iconst X_8.here hx rfl (hb hby d5_40) k) ?_
        show OGo p e below _ (T_8.setTop (mkF m 41 #[.val (.ref a1), .val (.int (own_i outs.length)), .val (.int p2), .val (.int p3), .val (.int (3 : Int32))] [(.int (1 : Int32)), (.int (own_i outs.length))]))
        refine OGo.to (fun _ k => XS.iadd X_8.here hx rfl (hb hby d5_41) rfl k) ?_
        show OGo p e below _ (T_8.setTop (mkF m 42 #[.val (.ref a1), .val (.int (own_i outs.length)), .val (.int p2), .val (.int p3), .val (.int (3 : Int32))] [(.int ((own_i outs.length) + (1 : Int32)))]))
        refine OGo.ret (Q := Qput3 Z a1 (own_i outs.length) p2 p3 kc nn outs h0 n0) X_8 (some (.int ((own_i outs.length) + (1 : Int32)))) (fun h => by rw [Bd.returns] at h; cases h) Bd.notSynchronized (fun fs hr => retI X_8 hx Bd.returns (hb hby d5_42) hr) ?_ (by decide) (by decide)
        show Qput3 Z a1 (own_i outs.length) p2 p3 kc nn outs h0 n0 _ T_8.heap _
        rw [e_8]
        exact ⟨congrArg (fun z => some (Value.int z)) (show ((own_i outs.length) + (1 : Int32)) = (own_i (own_put outs p2 p3 (3 : Int32)).length) from (own_len1 outs _).trans (congrArg (fun z : List Int32 => own_i z.length) ((own_put1 (o := outs) hc6__2 hc20__4).symm))), N_8, K_10, (own_castV V_8 ((own_put1 (o := outs) hc6__2 hc20__4).symm))⟩
      ·  -- pc 20: no
        refine OGo.to (fun _ k => XS.icmpYes X_3.here hx rfl (pc0 := 20) (pc' := 37) rfl (hb hby d5_20) rfl (feq hc20__4).2 (by decide) (by decide) k) ?_
        show OGo p e below _ (T_3.setTop (mkF m 37 #[.val (.ref a1), .val (.int (own_i outs.length)), .val (.int p2), .val (.int p3), .val (.int (3 : Int32))] [(.int (own_i outs.length)), (.ref a1)]))
        refine OGo.to (fun _ k => XS.iconst X_3.here hx rfl (hb hby d5_37) k) ?_
        show OGo p e below _ (T_3.setTop (mkF m 38 #[.val (.ref a1), .val (.int (own_i outs.length)), .val (.int p2), .val (.int p3), .val (.int (3 : Int32))] [(.int (-1 : Int32)), (.int (own_i outs.length)), (.ref a1)]))
        have Vp_11 : Arv Z h0 a1 kc .int nn ((outs.map Value.int) ++ List.replicate 1 (.int (0 : Int32))) (.int (0 : Int32)) := V1.pad (pad_rep (outs.map Value.int) (.int (0 : Int32)) 1)
        have Vq_12 := Vp_11
        obtain ⟨cl_12, Ar_12, q_12, S_12, M_12, Hs_12, G_12⟩ := Vq_12
        have hin_13 : ¬ ((own_i outs.length) < 0 ∨ cl_12.slots.size ≤ ((own_i outs.length)).toNatClampNeg) := inb_of S_12 ⟨own_inn _ (by omega), hin hc6__2⟩
        obtain ⟨T_13, h_13, X_13, e_13, W_13, st_13⟩ := stI X_3 hx hZ e_3 Ar_12 (j := (own_i outs.length)) hin_13 (g := (mkF m 38 #[.val (.ref a1), .val (.int (own_i outs.length)), .val (.int p2), .val (.int p3), .val (.int (3 : Int32))] [(.int (-1 : Int32)), (.int (own_i outs.length)), (.ref a1)])) rfl rfl (hb hby d5_38)
        refine OGo.to st_13 ?_
        have V_13 : Arv Z h_13 a1 kc .int nn ((outs ++ [(-1 : Int32)]).map Value.int) (.int (0 : Int32)) := (by have q := Arv.set Ar_12 q_12 S_12 M_12 Hs_12 G_12 rfl W_13 outs.length (own_clamp _ (by omega)) (by simp); rwa [own_setlast] at q)
        have N_13 := Fr.snoc X_13 N_3 g1
        have z_14 : n0 ≤ h_13.size := Nat.le_trans Z0 (Keep.of_wr W_13).1
        have K_15 : Keep h0 h_13 [a1] := (Keep.refl h0 [a1]).wr W_13 (Or.inl (List.mem_of_getElem? (i := 0) rfl))
        show OGo p e below _ (T_13.setTop (mkF m 39 #[.val (.ref a1), .val (.int (own_i outs.length)), .val (.int p2), .val (.int p3), .val (.int (3 : Int32))] []))
        refine OGo.to (fun _ k => XS.iloadN X_13.here hx rfl (hb hby d5_39) rfl k) ?_
        show OGo p e below _ (T_13.setTop (mkF m 40 #[.val (.ref a1), .val (.int (own_i outs.length)), .val (.int p2), .val (.int p3), .val (.int (3 : Int32))] [(.int (own_i outs.length))]))
        refine OGo.to (fun _ k => XS.iconst X_13.here hx rfl (hb hby d5_40) k) ?_
        show OGo p e below _ (T_13.setTop (mkF m 41 #[.val (.ref a1), .val (.int (own_i outs.length)), .val (.int p2), .val (.int p3), .val (.int (3 : Int32))] [(.int (1 : Int32)), (.int (own_i outs.length))]))
        refine OGo.to (fun _ k => XS.iadd X_13.here hx rfl (hb hby d5_41) rfl k) ?_
        show OGo p e below _ (T_13.setTop (mkF m 42 #[.val (.ref a1), .val (.int (own_i outs.length)), .val (.int p2), .val (.int p3), .val (.int (3 : Int32))] [(.int ((own_i outs.length) + (1 : Int32)))]))
        refine OGo.ret (Q := Qput3 Z a1 (own_i outs.length) p2 p3 kc nn outs h0 n0) X_13 (some (.int ((own_i outs.length) + (1 : Int32)))) (fun h => by rw [Bd.returns] at h; cases h) Bd.notSynchronized (fun fs hr => retI X_13 hx Bd.returns (hb hby d5_42) hr) ?_ (by decide) (by decide)
        show Qput3 Z a1 (own_i outs.length) p2 p3 kc nn outs h0 n0 _ T_13.heap _
        rw [e_13]
        exact ⟨congrArg (fun z => some (Value.int z)) (show ((own_i outs.length) + (1 : Int32)) = (own_i (own_put outs p2 p3 (3 : Int32)).length) from (own_len1 outs _).trans (congrArg (fun z : List Int32 => own_i z.length) ((own_put2 (o := outs) hc6__2 hc20__4).symm))), N_13, K_15, (own_castV V_13 ((own_put2 (o := outs) hc6__2 hc20__4).symm))⟩
theorem ef_put4 (m : MethodId) (x0 : Addr) (x1 : Int32) (x2 : Int32) (x3 : Int32) (x4 : Int32) : entryFrame m #[(.ref x0), (.int x1), (.int x2), (.int x3), (.int x4)] 5 = mkF m 0 #[.val (.ref x0), .val (.int x1), .val (.int x2), .val (.int x3), .val (.int x4)] [] := by first | (simp [entryFrame, mkF, argsToLocals, Value.category]; done) | rfl
def Qput4 (Z : State) (a1 : Addr) (p1 : Int32) (p2 : Int32) (p3 : Int32) (kc : ClassId) (nn : Int32) (outs : List Int32) (h0 : Heap) (n0 : Nat) (v : Option Value) (h : Heap) (L : List Loc) : Prop := v = some (.int (own_i (own_put outs p2 p3 (4 : Int32)).length)) ∧ Fr n0 L ∧ Keep h0 h [a1] ∧ Arv Z h a1 kc .int nn ((own_put outs p2 p3 (4 : Int32)).map Value.int) (.int (0 : Int32))
set_option maxRecDepth 65536 in
set_option maxHeartbeats 40000000 in
theorem rmput4 (l : Launch) (Z : State) (a0 : Array Value) (hw : ∀ d ∈ tables_1, d.before a0 Z = true) (ws : List Jvm.Cond) (a1 : Addr) (p1 : Int32) (p2 : Int32) (p3 : Int32) (kc : ClassId) (nn : Int32) (outs : List Int32) (h0 : Heap) (n0 : Nat) (Z0 : n0 ≤ h0.size) (V1 : Arv Z h0 a1 kc .int nn (outs.map Value.int) (.int (0 : Int32))) (hk1 : p1 = own_i outs.length) (hin : ¬ own_bit p2 (4 : Int32) = (0 : Int32) → own_i outs.length < nn) (hl : outs.length < 100) (g1 : n0 ≤ a1) :
    MetFree l (⟨"com/example/cogram/cogram/index/PostingsEntriesPinLaw", "put", "([IIIII)I"⟩ : MethodName) (head1 (Jvm.Cond.code (⟨"com/example/cogram/cogram/index/PostingsEntriesPinLaw", "put", "([IIIII)I"⟩ : MethodName) method_6_code 5 (some .int) :: ws) ({ frames := 2, cells := 0, slots := 0, locals := 28 } : Room)) (fun a U => a = #[(.ref a1), (.int p1), (.int p2), (.int p3), (.int (4 : Int32))] ∧ Z.Warmed39 U.vm ∧ U.heap = h0) (fun _ _ _ _ _ => True) (fun _ U o U' => ∃ v L, o = .returned v ∧ Qput4 Z a1 p1 p2 p3 kc nn outs h0 n0 v U'.heap L ∧ FrameEnd U o U' L ({ frames := 2, cells := 0, slots := 0, locals := 28 } : Room).cells ({ frames := 2, cells := 0, slots := 0, locals := 28 } : Room).slots) := by
  refine MetFree.of_bodySF (plainFor_of_name pn_0) hisR ?_
  intro p e s m args below meth c s₁ Bd hml0 hP hK
  obtain ⟨rfl, hZ, hh⟩ := hP
  have hx := Bd.exec
  have hby := Bd.bytes
  have hml : c.maxLocals = 5 := hml0
  have hown : s.vm.findClass "com/example/cogram/cogram/index/PostingsEntriesPinLaw" = some m.cls := findClass_of_methodNamed Bd.named
  have hnm := (name_of_methodNamed Bd.named Bd.method).1
  have X0 : Stand p l e ({ frames := 2, cells := 0, slots := 0, locals := 28 } : Room) s m #[(.ref a1), (.int p1), (.int p2), (.int p3), (.int (4 : Int32))] below meth c s₁ [] 0 0 := Stand.of_body Bd
  have e0 : s₁.heap = h0 := by rw [← hh, Bd.state]; rfl
  have N0 := Fr.nil n0
  show OGo p e below (fun s₂ o => ∃ v L, o = .returned v ∧ Qput4 Z a1 p1 p2 p3 kc nn outs h0 n0 v s₂.heap L ∧ FrameEnd s o s₂ L ({ frames := 2, cells := 0, slots := 0, locals := 28 } : Room).cells ({ frames := 2, cells := 0, slots := 0, locals := 28 } : Room).slots) _
  refine OGo.to (fun _ k => castTop (ef_put4 m a1 p1 p2 p3 (4 : Int32)) k) ?_
  rcases hk1 with rfl
  ·
    show OGo p e below _ (s₁.setTop (mkF m 0 #[.val (.ref a1), .val (.int (own_i outs.length)), .val (.int p2), .val (.int p3), .val (.int (4 : Int32))] []))
    refine OGo.to (fun _ k => XS.iloadN X0.here hx rfl (hb hby d5_0) rfl k) ?_
    show OGo p e below _ (s₁.setTop (mkF m 1 #[.val (.ref a1), .val (.int (own_i outs.length)), .val (.int p2), .val (.int p3), .val (.int (4 : Int32))] [(.int p2)]))
    refine OGo.to (fun _ k => XS.iload X0.here hx rfl (hb hby d5_1) rfl k) ?_
    show OGo p e below _ (s₁.setTop (mkF m 3 #[.val (.ref a1), .val (.int (own_i outs.length)), .val (.int p2), .val (.int p3), .val (.int (4 : Int32))] [(.int (4 : Int32)), (.int p2)]))
    obtain ⟨_, T_1, Lc_1, X_1, hQ_1, st_1⟩ := own_un X0 (Q := Q4 Z p2 (4 : Int32) h0 n0) (rc := 0) (rs := 0) (W := fun v B => ∀ target, Steps p.tables e below (B.setTop { (mkF m 3 #[.val (.ref a1), .val (.int (own_i outs.length)), .val (.int p2), .val (.int p3), .val (.int (4 : Int32))] [(.int (4 : Int32)), (.int p2)]) with pc := 6, stack := v.toList ++ [] }) target → Steps p.tables e below (s₁.setTop (mkF m 3 #[.val (.ref a1), .val (.int (own_i outs.length)), .val (.int p2), .val (.int p3), .val (.int (4 : Int32))] [(.int (4 : Int32)), (.int p2)])) target) <| Jvm.LawKit.callS X0 hx (y := (⟨"com/example/cogram/cogram/index/PostingsEntriesPinLaw", "bit", "(II)I"⟩ : MethodName)) hown (mvT hZ (hw _ (List.mem_of_getElem? (i := 12) rfl))) (mvT hZ (hw _ (List.mem_of_getElem? (i := 13) rfl))) (mvT hZ (hw _ (List.mem_of_getElem? (i := 7) rfl))) (mvT hZ (hw _ (List.mem_of_getElem? (i := 14) rfl))) (by decide) (backOf (W := 0) (rm4 l Z a0 hw [] p2 (4 : Int32) h0 n0 Z0 ) hZ (hw _ (List.mem_of_getElem? (i := 14) rfl)) (hw _ (List.mem_of_getElem? (i := 7) rfl)) (by decide) (by decide)) (g := (mkF m 3 #[.val (.ref a1), .val (.int (own_i outs.length)), .val (.int p2), .val (.int p3), .val (.int (4 : Int32))] [(.int (4 : Int32)), (.int p2)])) rfl (by rw [hml]; rfl) (argsL := [(.int p2), (.int (4 : Int32))]) (rest := []) (lenOf pd_0 rfl) rfl (by show 2 * 0 + _ ≤ _; exact Nat.le_of_eq rfl) (hb hby d5_3) (fun _ _ => ⟨rfl, e0, (by decide : 0 + 0 ≤ _), (by decide : 0 + 0 ≤ _)⟩)
    obtain ⟨rfl, N_1q, e_1⟩ := hQ_1
    have N_1 := Fr.app N0 N_1q
    refine OGo.to st_1 ?_
    show OGo p e below _ (T_1.setTop (mkF m 6 #[.val (.ref a1), .val (.int (own_i outs.length)), .val (.int p2), .val (.int p3), .val (.int (4 : Int32))] [(.int (own_bit p2 (4 : Int32)))]))
    by_cases hc6__2 : (own_bit p2 (4 : Int32)) = (0 : Int32)
    ·  -- pc 6: yes
      refine OGo.to (fun _ k => XS.ifNo X_1.here hx rfl (hb hby d5_6) rfl ((if0 _ _).trans (teq hc6__2).2) k) ?_
      show OGo p e below _ (T_1.setTop (mkF m 9 #[.val (.ref a1), .val (.int (own_i outs.length)), .val (.int p2), .val (.int p3), .val (.int (4 : Int32))] []))
      refine OGo.to (fun _ k => XS.iloadN X_1.here hx rfl (hb hby d5_9) rfl k) ?_
      show OGo p e below _ (T_1.setTop (mkF m 10 #[.val (.ref a1), .val (.int (own_i outs.length)), .val (.int p2), .val (.int p3), .val (.int (4 : Int32))] [(.int (own_i outs.length))]))
      refine OGo.ret (Q := Qput4 Z a1 (own_i outs.length) p2 p3 kc nn outs h0 n0) X_1 (some (.int (own_i outs.length))) (fun h => by rw [Bd.returns] at h; cases h) Bd.notSynchronized (fun fs hr => retI X_1 hx Bd.returns (hb hby d5_10) hr) ?_ (by decide) (by decide)
      show Qput4 Z a1 (own_i outs.length) p2 p3 kc nn outs h0 n0 _ T_1.heap _
      rw [e_1]
      exact ⟨congrArg (fun z => some (Value.int z)) (show (own_i outs.length) = (own_i (own_put outs p2 p3 (4 : Int32)).length) from congrArg (fun z : List Int32 => own_i z.length) ((own_put0 (o := outs) (hm := p3) hc6__2).symm)), N_1, (Keep.refl h0 [a1]), (own_castV V1 ((own_put0 (o := outs) (hm := p3) hc6__2).symm))⟩
    ·  -- pc 6: no
      refine OGo.to (fun _ k => XS.ifYes X_1.here hx rfl (pc0 := 6) (pc' := 11) rfl (hb hby d5_6) rfl ((if0 _ _).trans (feq hc6__2).2) (by decide) (by decide) k) ?_
      show OGo p e below _ (T_1.setTop (mkF m 11 #[.val (.ref a1), .val (.int (own_i outs.length)), .val (.int p2), .val (.int p3), .val (.int (4 : Int32))] []))
      refine OGo.to (fun _ k => XS.aloadN X_1.here hx rfl (hb hby d5_11) rfl rfl k) ?_
      show OGo p e below _ (T_1.setTop (mkF m 12 #[.val (.ref a1), .val (.int (own_i outs.length)), .val (.int p2), .val (.int p3), .val (.int (4 : Int32))] [(.ref a1)]))
      refine OGo.to (fun _ k => XS.iloadN X_1.here hx rfl (hb hby d5_12) rfl k) ?_
      show OGo p e below _ (T_1.setTop (mkF m 13 #[.val (.ref a1), .val (.int (own_i outs.length)), .val (.int p2), .val (.int p3), .val (.int (4 : Int32))] [(.int (own_i outs.length)), (.ref a1)]))
      refine OGo.to (fun _ k => XS.iloadN X_1.here hx rfl (hb hby d5_13) rfl k) ?_
      show OGo p e below _ (T_1.setTop (mkF m 14 #[.val (.ref a1), .val (.int (own_i outs.length)), .val (.int p2), .val (.int p3), .val (.int (4 : Int32))] [(.int p3), (.int (own_i outs.length)), (.ref a1)]))
      refine OGo.to (fun _ k => XS.iload X_1.here hx rfl (hb hby d5_14) rfl k) ?_
      show OGo p e below _ (T_1.setTop (mkF m 16 #[.val (.ref a1), .val (.int (own_i outs.length)), .val (.int p2), .val (.int p3), .val (.int (4 : Int32))] [(.int (4 : Int32)), (.int p3), (.int (own_i outs.length)), (.ref a1)]))
      obtain ⟨_, T_3, Lc_3, X_3, hQ_3, st_3⟩ := own_un X_1 (Q := Q4 Z p3 (4 : Int32) h0 n0) (rc := 0) (rs := 0) (W := fun v B => ∀ target, Steps p.tables e below (B.setTop { (mkF m 16 #[.val (.ref a1), .val (.int (own_i outs.length)), .val (.int p2), .val (.int p3), .val (.int (4 : Int32))] [(.int (4 : Int32)), (.int p3), (.int (own_i outs.length)), (.ref a1)]) with pc := 19, stack := v.toList ++ [(.int (own_i outs.length)), (.ref a1)] }) target → Steps p.tables e below (T_1.setTop (mkF m 16 #[.val (.ref a1), .val (.int (own_i outs.length)), .val (.int p2), .val (.int p3), .val (.int (4 : Int32))] [(.int (4 : Int32)), (.int p3), (.int (own_i outs.length)), (.ref a1)])) target) <| Jvm.LawKit.callS X_1 hx (y := (⟨"com/example/cogram/cogram/index/PostingsEntriesPinLaw", "bit", "(II)I"⟩ : MethodName)) hown (mvT hZ (hw _ (List.mem_of_getElem? (i := 12) rfl))) (mvT hZ (hw _ (List.mem_of_getElem? (i := 13) rfl))) (mvT hZ (hw _ (List.mem_of_getElem? (i := 7) rfl))) (mvT hZ (hw _ (List.mem_of_getElem? (i := 14) rfl))) (by decide) (backOf (W := 2) (rm4 l Z a0 hw [] p3 (4 : Int32) h0 n0 Z0 ) hZ (hw _ (List.mem_of_getElem? (i := 14) rfl)) (hw _ (List.mem_of_getElem? (i := 7) rfl)) (by decide) (by decide)) (g := (mkF m 16 #[.val (.ref a1), .val (.int (own_i outs.length)), .val (.int p2), .val (.int p3), .val (.int (4 : Int32))] [(.int (4 : Int32)), (.int p3), (.int (own_i outs.length)), (.ref a1)])) rfl (by rw [hml]; rfl) (argsL := [(.int p3), (.int (4 : Int32))]) (rest := [(.int (own_i outs.length)), (.ref a1)]) (lenOf pd_0 rfl) rfl (by show 2 * 0 + _ ≤ _; exact Nat.le_of_eq rfl) (hb hby d5_16) (fun _ _ => ⟨rfl, e_1, (by decide : 0 + 0 ≤ _), (by decide : 0 + 0 ≤ _)⟩)
      obtain ⟨rfl, N_3q, e_3⟩ := hQ_3
      have N_3 := Fr.app N_1 N_3q
      refine OGo.to st_3 ?_
      show OGo p e below _ (T_3.setTop (mkF m 19 #[.val (.ref a1), .val (.int (own_i outs.length)), .val (.int p2), .val (.int p3), .val (.int (4 : Int32))] [(.int (own_bit p3 (4 : Int32))), (.int (own_i outs.length)), (.ref a1)]))
      refine OGo.to (fun _ k => XS.iconst X_3.here hx rfl (hb hby d5_19) k) ?_
      show OGo p e below _ (T_3.setTop (mkF m 20 #[.val (.ref a1), .val (.int (own_i outs.length)), .val (.int p2), .val (.int p3), .val (.int (4 : Int32))] [(.int (1 : Int32)), (.int (own_bit p3 (4 : Int32))), (.int (own_i outs.length)), (.ref a1)]))
      by_cases hc20__4 : (own_bit p3 (4 : Int32)) = (1 : Int32)
      ·  -- pc 20: yes
        refine OGo.to (fun _ k => XS.icmpNo X_3.here hx rfl (hb hby d5_20) rfl (teq hc20__4).2 k) ?_
        show OGo p e below _ (T_3.setTop (mkF m 23 #[.val (.ref a1), .val (.int (own_i outs.length)), .val (.int p2), .val (.int p3), .val (.int (4 : Int32))] [(.int (own_i outs.length)), (.ref a1)]))
        refine OGo.to (fun _ k => XS.iloadN X_3.here hx rfl (hb hby d5_23) rfl k) ?_
        show OGo p e below _ (T_3.setTop (mkF m 24 #[.val (.ref a1), .val (.int (own_i outs.length)), .val (.int p2), .val (.int p3), .val (.int (4 : Int32))] [(.int p3), (.int (own_i outs.length)), (.ref a1)]))
        refine OGo.to (fun _ k => XS.iconst X_3.here hx rfl (hb hby d5_24) k) ?_
        show OGo p e below _ (T_3.setTop (mkF m 25 #[.val (.ref a1), .val (.int (own_i outs.length)), .val (.int p2), .val (.int p3), .val (.int (4 : Int32))] [(.int (1 : Int32)), (.int p3), (.int (own_i outs.length)), (.ref a1)]))
        refine OGo.to (fun _ k => XS.iload X_3.here hx rfl (hb hby d5_25) rfl k) ?_
        show OGo p e below _ (T_3.setTop (mkF m 27 #[.val (.ref a1), .val (.int (own_i outs.length)), .val (.int p2), .val (.int p3), .val (.int (4 : Int32))] [(.int (4 : Int32)), (.int (1 : Int32)), (.int p3), (.int (own_i outs.length)), (.ref a1)]))
        refine OGo.to (fun _ k => XS.ishl X_3.here hx rfl (hb hby d5_27) rfl k) ?_
        show OGo p e below _ (T_3.setTop (mkF m 28 #[.val (.ref a1), .val (.int (own_i outs.length)), .val (.int p2), .val (.int p3), .val (.int (4 : Int32))] [(.int ((1 : Int32) <<< ((4 : Int32) &&& 31))), (.int p3), (.int (own_i outs.length)), (.ref a1)]))
        refine OGo.to (fun _ k => XS.iconst X_3.here hx rfl (hb hby d5_28) k) ?_
        show OGo p e below _ (T_3.setTop (mkF m 29 #[.val (.ref a1), .val (.int (own_i outs.length)), .val (.int p2), .val (.int p3), .val (.int (4 : Int32))] [(.int (1 : Int32)), (.int ((1 : Int32) <<< ((4 : Int32) &&& 31))), (.int p3), (.int (own_i outs.length)), (.ref a1)]))
        refine OGo.to (fun _ k => XS.isub X_3.here hx rfl (hb hby d5_29) rfl k) ?_
        show OGo p e below _ (T_3.setTop (mkF m 30 #[.val (.ref a1), .val (.int (own_i outs.length)), .val (.int p2), .val (.int p3), .val (.int (4 : Int32))] [(.int (((1 : Int32) <<< ((4 : Int32) &&& 31)) - (1 : Int32))), (.int p3), (.int (own_i outs.length)), (.ref a1)]))
        refine OGo.to (fun _ k => XS.iand X_3.here hx rfl (hb hby d5_30) rfl k) ?_
        show OGo p e below _ (T_3.setTop (mkF m 31 #[.val (.ref a1), .val (.int (own_i outs.length)), .val (.int p2), .val (.int p3), .val (.int (4 : Int32))] [(.int (p3 &&& (((1 : Int32) <<< ((4 : Int32) &&& 31)) - (1 : Int32)))), (.int (own_i outs.length)), (.ref a1)]))
        obtain ⟨_, T_5, Lc_5, X_5, hQ_5, st_5⟩ := own_un X_3 (Q := Q3 Z (p3 &&& (((1 : Int32) <<< ((4 : Int32) &&& 31)) - (1 : Int32))) h0 n0) (rc := 0) (rs := 0) (W := fun v B => ∀ target, Steps p.tables e below (B.setTop { (mkF m 31 #[.val (.ref a1), .val (.int (own_i outs.length)), .val (.int p2), .val (.int p3), .val (.int (4 : Int32))] [(.int (p3 &&& (((1 : Int32) <<< ((4 : Int32) &&& 31)) - (1 : Int32)))), (.int (own_i outs.length)), (.ref a1)]) with pc := 34, stack := v.toList ++ [(.int (own_i outs.length)), (.ref a1)] }) target → Steps p.tables e below (T_3.setTop (mkF m 31 #[.val (.ref a1), .val (.int (own_i outs.length)), .val (.int p2), .val (.int p3), .val (.int (4 : Int32))] [(.int (p3 &&& (((1 : Int32) <<< ((4 : Int32) &&& 31)) - (1 : Int32)))), (.int (own_i outs.length)), (.ref a1)])) target) <| Jvm.LawKit.callS X_3 hx (y := (⟨"com/example/cogram/cogram/index/PostingsEntriesPinLaw", "count", "(I)I"⟩ : MethodName)) hown (mvT hZ (hw _ (List.mem_of_getElem? (i := 9) rfl))) (mvT hZ (hw _ (List.mem_of_getElem? (i := 10) rfl))) (mvT hZ (hw _ (List.mem_of_getElem? (i := 7) rfl))) (mvT hZ (hw _ (List.mem_of_getElem? (i := 11) rfl))) (by decide) (backOf (W := 2) (rm3 l Z a0 hw [] (p3 &&& (((1 : Int32) <<< ((4 : Int32) &&& 31)) - (1 : Int32))) h0 n0 Z0 ) hZ (hw _ (List.mem_of_getElem? (i := 11) rfl)) (hw _ (List.mem_of_getElem? (i := 7) rfl)) (by decide) (by decide)) (g := (mkF m 31 #[.val (.ref a1), .val (.int (own_i outs.length)), .val (.int p2), .val (.int p3), .val (.int (4 : Int32))] [(.int (p3 &&& (((1 : Int32) <<< ((4 : Int32) &&& 31)) - (1 : Int32)))), (.int (own_i outs.length)), (.ref a1)])) rfl (by rw [hml]; rfl) (argsL := [(.int (p3 &&& (((1 : Int32) <<< ((4 : Int32) &&& 31)) - (1 : Int32))))]) (rest := [(.int (own_i outs.length)), (.ref a1)]) (lenOf pd_1 rfl) rfl (by show 2 * 0 + _ ≤ _; exact Nat.le_of_eq rfl) (hb hby d5_31) (fun _ _ => ⟨rfl, e_3, (by decide : 0 + 0 ≤ _), (by decide : 0 + 0 ≤ _)⟩)
        obtain ⟨rfl, N_5q, e_5⟩ := hQ_5
        have N_5 := Fr.app N_3 N_5q
        refine OGo.to st_5 ?_
        show OGo p e below _ (T_5.setTop (mkF m 34 #[.val (.ref a1), .val (.int (own_i outs.length)), .val (.int p2), .val (.int p3), .val (.int (4 : Int32))] [(.int (own_count (p3 &&& (((1 : Int32) <<< ((4 : Int32) &&& 31)) - (1 : Int32))))), (.int (own_i outs.length)), (.ref a1)]))
        refine OGo.to (fun _ k => XS.goto X_5.here hx rfl (pc0 := 34) (pc' := 38) rfl (hb hby d5_34) (by decide) (by decide) k) ?_
        show OGo p e below _ (T_5.setTop (mkF m 38 #[.val (.ref a1), .val (.int (own_i outs.length)), .val (.int p2), .val (.int p3), .val (.int (4 : Int32))] [(.int (own_count (p3 &&& (((1 : Int32) <<< ((4 : Int32) &&& 31)) - (1 : Int32))))), (.int (own_i outs.length)), (.ref a1)]))
        have Vp_6 : Arv Z h0 a1 kc .int nn ((outs.map Value.int) ++ List.replicate 1 (.int (0 : Int32))) (.int (0 : Int32)) := V1.pad (pad_rep (outs.map Value.int) (.int (0 : Int32)) 1)
        have Vq_7 := Vp_6
        obtain ⟨cl_7, Ar_7, q_7, S_7, M_7, Hs_7, G_7⟩ := Vq_7
        have hin_8 : ¬ ((own_i outs.length) < 0 ∨ cl_7.slots.size ≤ ((own_i outs.length)).toNatClampNeg) := inb_of S_7 ⟨own_inn _ (by omega), hin hc6__2⟩
        obtain ⟨T_8, h_8, X_8, e_8, W_8, st_8⟩ := stI X_5 hx hZ e_5 Ar_7 (j := (own_i outs.length)) hin_8 (g := (mkF m 38 #[.val (.ref a1), .val (.int (own_i outs.length)), .val (.int p2), .val (.int p3), .val (.int (4 : Int32))] [(.int (own_count (p3 &&& (((1 : Int32) <<< ((4 : Int32) &&& 31)) - (1 : Int32))))), (.int (own_i outs.length)), (.ref a1)])) rfl rfl (hb hby d5_38)
        refine OGo.to st_8 ?_
        have V_8 : Arv Z h_8 a1 kc .int nn ((outs ++ [(own_count (p3 &&& (((1 : Int32) <<< ((4 : Int32) &&& 31)) - (1 : Int32))))]).map Value.int) (.int (0 : Int32)) := (by have q := Arv.set Ar_7 q_7 S_7 M_7 Hs_7 G_7 rfl W_8 outs.length (own_clamp _ (by omega)) (by simp); rwa [own_setlast] at q)
        have N_8 := Fr.snoc X_8 N_5 g1
        have z_9 : n0 ≤ h_8.size := Nat.le_trans Z0 (Keep.of_wr W_8).1
        have K_10 : Keep h0 h_8 [a1] := (Keep.refl h0 [a1]).wr W_8 (Or.inl (List.mem_of_getElem? (i := 0) rfl))
        show OGo p e below _ (T_8.setTop (mkF m 39 #[.val (.ref a1), .val (.int (own_i outs.length)), .val (.int p2), .val (.int p3), .val (.int (4 : Int32))] []))
        refine OGo.to (fun _ k => XS.iloadN X_8.here hx rfl (hb hby d5_39) rfl k) ?_
        show OGo p e below _ (T_8.setTop (mkF m 40 #[.val (.ref a1), .val (.int (own_i outs.length)), .val (.int p2), .val (.int p3), .val (.int (4 : Int32))] [(.int (own_i outs.length))]))
        refine OGo.to (fun _ k => XS.iconst X_8.here hx rfl (hb hby d5_40) k) ?_
        show OGo p e below _ (T_8.setTop (mkF m 41 #[.val (.ref a1), .val (.int (own_i outs.length)), .val (.int p2), .val (.int p3), .val (.int (4 : Int32))] [(.int (1 : Int32)), (.int (own_i outs.length))]))
        refine OGo.to (fun _ k => XS.iadd X_8.here hx rfl (hb hby d5_41) rfl k) ?_
        show OGo p e below _ (T_8.setTop (mkF m 42 #[.val (.ref a1), .val (.int (own_i outs.length)), .val (.int p2), .val (.int p3), .val (.int (4 : Int32))] [(.int ((own_i outs.length) + (1 : Int32)))]))
        refine OGo.ret (Q := Qput4 Z a1 (own_i outs.length) p2 p3 kc nn outs h0 n0) X_8 (some (.int ((own_i outs.length) + (1 : Int32)))) (fun h => by rw [Bd.returns] at h; cases h) Bd.notSynchronized (fun fs hr => retI X_8 hx Bd.returns (hb hby d5_42) hr) ?_ (by decide) (by decide)
        show Qput4 Z a1 (own_i outs.length) p2 p3 kc nn outs h0 n0 _ T_8.heap _
        rw [e_8]
        exact ⟨congrArg (fun z => some (Value.int z)) (show ((own_i outs.length) + (1 : Int32)) = (own_i (own_put outs p2 p3 (4 : Int32)).length) from (own_len1 outs _).trans (congrArg (fun z : List Int32 => own_i z.length) ((own_put1 (o := outs) hc6__2 hc20__4).symm))), N_8, K_10, (own_castV V_8 ((own_put1 (o := outs) hc6__2 hc20__4).symm))⟩
      ·  -- pc 20: no
        refine OGo.to (fun _ k => XS.icmpYes X_3.here hx rfl (pc0 := 20) (pc' := 37) rfl (hb hby d5_20) rfl (feq hc20__4).2 (by decide) (by decide) k) ?_
        show OGo p e below _ (T_3.setTop (mkF m 37 #[.val (.ref a1), .val (.int (own_i outs.length)), .val (.int p2), .val (.int p3), .val (.int (4 : Int32))] [(.int (own_i outs.length)), (.ref a1)]))
        refine OGo.to (fun _ k => XS.iconst X_3.here hx rfl (hb hby d5_37) k) ?_
        show OGo p e below _ (T_3.setTop (mkF m 38 #[.val (.ref a1), .val (.int (own_i outs.length)), .val (.int p2), .val (.int p3), .val (.int (4 : Int32))] [(.int (-1 : Int32)), (.int (own_i outs.length)), (.ref a1)]))
        have Vp_11 : Arv Z h0 a1 kc .int nn ((outs.map Value.int) ++ List.replicate 1 (.int (0 : Int32))) (.int (0 : Int32)) := V1.pad (pad_rep (outs.map Value.int) (.int (0 : Int32)) 1)
        have Vq_12 := Vp_11
        obtain ⟨cl_12, Ar_12, q_12, S_12, M_12, Hs_12, G_12⟩ := Vq_12
        have hin_13 : ¬ ((own_i outs.length) < 0 ∨ cl_12.slots.size ≤ ((own_i outs.length)).toNatClampNeg) := inb_of S_12 ⟨own_inn _ (by omega), hin hc6__2⟩
        obtain ⟨T_13, h_13, X_13, e_13, W_13, st_13⟩ := stI X_3 hx hZ e_3 Ar_12 (j := (own_i outs.length)) hin_13 (g := (mkF m 38 #[.val (.ref a1), .val (.int (own_i outs.length)), .val (.int p2), .val (.int p3), .val (.int (4 : Int32))] [(.int (-1 : Int32)), (.int (own_i outs.length)), (.ref a1)])) rfl rfl (hb hby d5_38)
        refine OGo.to st_13 ?_
        have V_13 : Arv Z h_13 a1 kc .int nn ((outs ++ [(-1 : Int32)]).map Value.int) (.int (0 : Int32)) := (by have q := Arv.set Ar_12 q_12 S_12 M_12 Hs_12 G_12 rfl W_13 outs.length (own_clamp _ (by omega)) (by simp); rwa [own_setlast] at q)
        have N_13 := Fr.snoc X_13 N_3 g1
        have z_14 : n0 ≤ h_13.size := Nat.le_trans Z0 (Keep.of_wr W_13).1
        have K_15 : Keep h0 h_13 [a1] := (Keep.refl h0 [a1]).wr W_13 (Or.inl (List.mem_of_getElem? (i := 0) rfl))
        show OGo p e below _ (T_13.setTop (mkF m 39 #[.val (.ref a1), .val (.int (own_i outs.length)), .val (.int p2), .val (.int p3), .val (.int (4 : Int32))] []))
        refine OGo.to (fun _ k => XS.iloadN X_13.here hx rfl (hb hby d5_39) rfl k) ?_
        show OGo p e below _ (T_13.setTop (mkF m 40 #[.val (.ref a1), .val (.int (own_i outs.length)), .val (.int p2), .val (.int p3), .val (.int (4 : Int32))] [(.int (own_i outs.length))]))
        refine OGo.to (fun _ k => XS.iconst X_13.here hx rfl (hb hby d5_40) k) ?_
        show OGo p e below _ (T_13.setTop (mkF m 41 #[.val (.ref a1), .val (.int (own_i outs.length)), .val (.int p2), .val (.int p3), .val (.int (4 : Int32))] [(.int (1 : Int32)), (.int (own_i outs.length))]))
        refine OGo.to (fun _ k => XS.iadd X_13.here hx rfl (hb hby d5_41) rfl k) ?_
        show OGo p e below _ (T_13.setTop (mkF m 42 #[.val (.ref a1), .val (.int (own_i outs.length)), .val (.int p2), .val (.int p3), .val (.int (4 : Int32))] [(.int ((own_i outs.length) + (1 : Int32)))]))
        refine OGo.ret (Q := Qput4 Z a1 (own_i outs.length) p2 p3 kc nn outs h0 n0) X_13 (some (.int ((own_i outs.length) + (1 : Int32)))) (fun h => by rw [Bd.returns] at h; cases h) Bd.notSynchronized (fun fs hr => retI X_13 hx Bd.returns (hb hby d5_42) hr) ?_ (by decide) (by decide)
        show Qput4 Z a1 (own_i outs.length) p2 p3 kc nn outs h0 n0 _ T_13.heap _
        rw [e_13]
        exact ⟨congrArg (fun z => some (Value.int z)) (show ((own_i outs.length) + (1 : Int32)) = (own_i (own_put outs p2 p3 (4 : Int32)).length) from (own_len1 outs _).trans (congrArg (fun z : List Int32 => own_i z.length) ((own_put2 (o := outs) hc6__2 hc20__4).symm))), N_13, K_15, (own_castV V_13 ((own_put2 (o := outs) hc6__2 hc20__4).symm))⟩
theorem d7_0 : decode method_7_code 0 = .ok (.aload_n 0, 1) := by decide +kernel
theorem d7_1 : decode method_7_code 1 = .ok (.arraylength, 1) := by decide +kernel
theorem d7_2 : decode method_7_code 2 = .ok (.ifCond .le 14, 3) := by decide +kernel
theorem d7_5 : decode method_7_code 5 = .ok (.aload_n 0, 1) := by decide +kernel
theorem d7_6 : decode method_7_code 6 = .ok (.iconst 0, 1) := by decide +kernel
theorem d7_7 : decode method_7_code 7 = .ok (.iaload, 1) := by decide +kernel
theorem d7_8 : decode method_7_code 8 = .ok (.aload_n 1, 1) := by decide +kernel
theorem d7_9 : decode method_7_code 9 = .ok (.iconst 0, 1) := by decide +kernel
theorem d7_10 : decode method_7_code 10 = .ok (.iaload, 1) := by decide +kernel
theorem d7_11 : decode method_7_code 11 = .ok (.if_icmp .eq 5, 3) := by decide +kernel
theorem d7_16 : decode method_7_code 16 = .ok (.aload_n 0, 1) := by decide +kernel
theorem d7_17 : decode method_7_code 17 = .ok (.arraylength, 1) := by decide +kernel
theorem d7_18 : decode method_7_code 18 = .ok (.iconst 1, 1) := by decide +kernel
theorem d7_19 : decode method_7_code 19 = .ok (.if_icmp .le 14, 3) := by decide +kernel
theorem d7_22 : decode method_7_code 22 = .ok (.aload_n 0, 1) := by decide +kernel
theorem d7_23 : decode method_7_code 23 = .ok (.iconst 1, 1) := by decide +kernel
theorem d7_24 : decode method_7_code 24 = .ok (.iaload, 1) := by decide +kernel
theorem d7_25 : decode method_7_code 25 = .ok (.aload_n 1, 1) := by decide +kernel
theorem d7_26 : decode method_7_code 26 = .ok (.iconst 1, 1) := by decide +kernel
theorem d7_27 : decode method_7_code 27 = .ok (.iaload, 1) := by decide +kernel
theorem d7_28 : decode method_7_code 28 = .ok (.if_icmp .eq 5, 3) := by decide +kernel
theorem d7_33 : decode method_7_code 33 = .ok (.aload_n 0, 1) := by decide +kernel
theorem d7_34 : decode method_7_code 34 = .ok (.arraylength, 1) := by decide +kernel
theorem d7_35 : decode method_7_code 35 = .ok (.iconst 2, 1) := by decide +kernel
theorem d7_36 : decode method_7_code 36 = .ok (.if_icmp .le 14, 3) := by decide +kernel
theorem d7_39 : decode method_7_code 39 = .ok (.aload_n 0, 1) := by decide +kernel
theorem d7_40 : decode method_7_code 40 = .ok (.iconst 2, 1) := by decide +kernel
theorem d7_41 : decode method_7_code 41 = .ok (.iaload, 1) := by decide +kernel
theorem d7_42 : decode method_7_code 42 = .ok (.aload_n 1, 1) := by decide +kernel
theorem d7_43 : decode method_7_code 43 = .ok (.iconst 2, 1) := by decide +kernel
theorem d7_44 : decode method_7_code 44 = .ok (.iaload, 1) := by decide +kernel
theorem d7_45 : decode method_7_code 45 = .ok (.if_icmp .eq 5, 3) := by decide +kernel
theorem d7_50 : decode method_7_code 50 = .ok (.aload_n 0, 1) := by decide +kernel
theorem d7_51 : decode method_7_code 51 = .ok (.arraylength, 1) := by decide +kernel
theorem d7_52 : decode method_7_code 52 = .ok (.iconst 3, 1) := by decide +kernel
theorem d7_53 : decode method_7_code 53 = .ok (.if_icmp .le 14, 3) := by decide +kernel
theorem d7_56 : decode method_7_code 56 = .ok (.aload_n 0, 1) := by decide +kernel
theorem d7_57 : decode method_7_code 57 = .ok (.iconst 3, 1) := by decide +kernel
theorem d7_58 : decode method_7_code 58 = .ok (.iaload, 1) := by decide +kernel
theorem d7_59 : decode method_7_code 59 = .ok (.aload_n 1, 1) := by decide +kernel
theorem d7_60 : decode method_7_code 60 = .ok (.iconst 3, 1) := by decide +kernel
theorem d7_61 : decode method_7_code 61 = .ok (.iaload, 1) := by decide +kernel
theorem d7_62 : decode method_7_code 62 = .ok (.if_icmp .eq 5, 3) := by decide +kernel
theorem d7_67 : decode method_7_code 67 = .ok (.aload_n 0, 1) := by decide +kernel
theorem d7_68 : decode method_7_code 68 = .ok (.arraylength, 1) := by decide +kernel
theorem d7_69 : decode method_7_code 69 = .ok (.iconst 4, 1) := by decide +kernel
theorem d7_70 : decode method_7_code 70 = .ok (.if_icmp .le 14, 3) := by decide +kernel
theorem d7_73 : decode method_7_code 73 = .ok (.aload_n 0, 1) := by decide +kernel
theorem d7_74 : decode method_7_code 74 = .ok (.iconst 4, 1) := by decide +kernel
theorem d7_75 : decode method_7_code 75 = .ok (.iaload, 1) := by decide +kernel
theorem d7_76 : decode method_7_code 76 = .ok (.aload_n 1, 1) := by decide +kernel
theorem d7_77 : decode method_7_code 77 = .ok (.iconst 4, 1) := by decide +kernel
theorem d7_78 : decode method_7_code 78 = .ok (.iaload, 1) := by decide +kernel
theorem d7_79 : decode method_7_code 79 = .ok (.if_icmp .eq 5, 3) := by decide +kernel
theorem d7_84 : decode method_7_code 84 = .ok (.iconst 1, 1) := by decide +kernel
theorem d7_85 : decode method_7_code 85 = .ok (.ireturn, 1) := by decide +kernel
theorem ef_7 (m : MethodId) (x0 : Addr) (x1 : Addr) : entryFrame m #[(.ref x0), (.ref x1)] 2 = mkF m 0 #[.val (.ref x0), .val (.ref x1)] [] := by first | (simp [entryFrame, mkF, argsToLocals, Value.category]; done) | rfl
def Q7 (Z : State) (a1 : Addr) (a2 : Addr) (k1 : ClassId) (k2 : ClassId) (nn : Int32) (o1 : List Int32) (o2 : List Int32) (h0 : Heap) (n0 : Nat) (v : Option Value) (h : Heap) (L : List Loc) : Prop := v = some (.int (1 : Int32)) ∧ Fr n0 L ∧ h = h0
set_option maxRecDepth 65536 in
set_option maxHeartbeats 40000000 in
theorem rm7 (l : Launch) (Z : State) (a0 : Array Value) (hw : ∀ d ∈ tables_1, d.before a0 Z = true) (ws : List Jvm.Cond) (a1 : Addr) (a2 : Addr) (k1 : ClassId) (k2 : ClassId) (nn : Int32) (o1 : List Int32) (o2 : List Int32) (h0 : Heap) (n0 : Nat) (Z0 : n0 ≤ h0.size) (V1 : Arv Z h0 a1 k1 .int nn (o1.map Value.int) (.int (0 : Int32))) (V2 : Arv Z h0 a2 k2 .int nn (o2.map Value.int) (.int (0 : Int32))) (heq : o2 = o1) :
    MetFree l (⟨"com/example/cogram/cogram/index/PostingsEntriesPinLaw", "same", "([I[I)Z"⟩ : MethodName) (head1 (Jvm.Cond.code (⟨"com/example/cogram/cogram/index/PostingsEntriesPinLaw", "same", "([I[I)Z"⟩ : MethodName) method_7_code 2 (some .boolean) :: ws) ({ frames := 0, cells := 0, slots := 0, locals := 0 } : Room)) (fun a U => a = #[(.ref a1), (.ref a2)] ∧ Z.Warmed39 U.vm ∧ U.heap = h0) (fun _ _ _ _ _ => True) (fun _ U o U' => ∃ v L, o = .returned v ∧ Q7 Z a1 a2 k1 k2 nn o1 o2 h0 n0 v U'.heap L ∧ FrameEnd U o U' L ({ frames := 0, cells := 0, slots := 0, locals := 0 } : Room).cells ({ frames := 0, cells := 0, slots := 0, locals := 0 } : Room).slots) := by
  refine MetFree.of_bodySF (plainFor_of_name pn_0) hisR ?_
  intro p e s m args below meth c s₁ Bd hml0 hP hK
  obtain ⟨rfl, hZ, hh⟩ := hP
  have hx := Bd.exec
  have hby := Bd.bytes
  have hml : c.maxLocals = 2 := hml0
  have hown : s.vm.findClass "com/example/cogram/cogram/index/PostingsEntriesPinLaw" = some m.cls := findClass_of_methodNamed Bd.named
  have hnm := (name_of_methodNamed Bd.named Bd.method).1
  have X0 : Stand p l e ({ frames := 0, cells := 0, slots := 0, locals := 0 } : Room) s m #[(.ref a1), (.ref a2)] below meth c s₁ [] 0 0 := Stand.of_body Bd
  have e0 : s₁.heap = h0 := by rw [← hh, Bd.state]; rfl
  have N0 := Fr.nil n0
  show OGo p e below (fun s₂ o => ∃ v L, o = .returned v ∧ Q7 Z a1 a2 k1 k2 nn o1 o2 h0 n0 v s₂.heap L ∧ FrameEnd s o s₂ L ({ frames := 0, cells := 0, slots := 0, locals := 0 } : Room).cells ({ frames := 0, cells := 0, slots := 0, locals := 0 } : Room).slots) _
  refine OGo.to (fun _ k => castTop (ef_7 m a1 a2) k) ?_
  refine OGo.to (fun _ k => XS.aloadN X0.here hx rfl (hb hby d7_0) rfl rfl k) ?_
  show OGo p e below _ (s₁.setTop (mkF m 1 #[.val (.ref a1), .val (.ref a2)] [(.ref a1)]))
  have Vq_1 := V1
  obtain ⟨cl_1, Ar_1, q_1, S_1, M_1, Hs_1, G_1⟩ := Vq_1
  refine OGo.to (fun _ k => X0.arraylength hx (by rw [e0]; exact Ar_1.1) (State.isArrayOf_alike hZ.alike Ar_1.2.1) (g := (mkF m 1 #[.val (.ref a1), .val (.ref a2)] [(.ref a1)])) rfl rfl (hb hby d7_1) _ k) ?_
  rw [len_of S_1 M_1]
  show OGo p e below _ (s₁.setTop (mkF m 2 #[.val (.ref a1), .val (.ref a2)] [(.int nn)]))
  by_cases hc2__2 : (0 : Int32) < nn
  ·  -- pc 2: yes
    refine OGo.to (fun _ k => XS.ifNo X0.here hx rfl (hb hby d7_2) rfl ((if0 _ _).trans (tlt hc2__2).2.2.2) k) ?_
    show OGo p e below _ (s₁.setTop (mkF m 5 #[.val (.ref a1), .val (.ref a2)] []))
    refine OGo.to (fun _ k => XS.aloadN X0.here hx rfl (hb hby d7_5) rfl rfl k) ?_
    show OGo p e below _ (s₁.setTop (mkF m 6 #[.val (.ref a1), .val (.ref a2)] [(.ref a1)]))
    refine OGo.to (fun _ k => XS.iconst X0.here hx rfl (hb hby d7_6) k) ?_
    show OGo p e below _ (s₁.setTop (mkF m 7 #[.val (.ref a1), .val (.ref a2)] [(.int (0 : Int32)), (.ref a1)]))
    have Vq_3 := V1
    obtain ⟨cl_3, Ar_3, q_3, S_3, M_3, Hs_3, G_3⟩ := Vq_3
    have hin_4 : ¬ ((0 : Int32) < 0 ∨ cl_3.slots.size ≤ ((0 : Int32)).toNatClampNeg) := inb_of S_3 ⟨by decide, hc2__2⟩
    have hat_4 : cl_3.slots[((0 : Int32)).toNatClampNeg]? = some (.int (o1.getD 0 (0 : Int32))) := Hs_3.at hin_4 (own_getD o1 0)
    refine OGo.to (fun _ k => X0.iaload hx (j := (0 : Int32)) (v := (.int (o1.getD 0 (0 : Int32)))) (by rw [e0]; exact Ar_3.1) (State.isArrayOf_alike hZ.alike Ar_3.2.1) Ar_3.2.2 hin_4 hat_4 (g := (mkF m 7 #[.val (.ref a1), .val (.ref a2)] [(.int (0 : Int32)), (.ref a1)])) rfl rfl (hb hby d7_7) _ k) ?_
    show OGo p e below _ (s₁.setTop (mkF m 8 #[.val (.ref a1), .val (.ref a2)] [(.int (o1.getD 0 (0 : Int32)))]))
    refine OGo.to (fun _ k => XS.aloadN X0.here hx rfl (hb hby d7_8) rfl rfl k) ?_
    show OGo p e below _ (s₁.setTop (mkF m 9 #[.val (.ref a1), .val (.ref a2)] [(.ref a2), (.int (o1.getD 0 (0 : Int32)))]))
    refine OGo.to (fun _ k => XS.iconst X0.here hx rfl (hb hby d7_9) k) ?_
    show OGo p e below _ (s₁.setTop (mkF m 10 #[.val (.ref a1), .val (.ref a2)] [(.int (0 : Int32)), (.ref a2), (.int (o1.getD 0 (0 : Int32)))]))
    have Vq_5 := V2
    obtain ⟨cl_5, Ar_5, q_5, S_5, M_5, Hs_5, G_5⟩ := Vq_5
    have hin_6 : ¬ ((0 : Int32) < 0 ∨ cl_5.slots.size ≤ ((0 : Int32)).toNatClampNeg) := inb_of S_5 ⟨by decide, hc2__2⟩
    have hat_6 : cl_5.slots[((0 : Int32)).toNatClampNeg]? = some (.int (o2.getD 0 (0 : Int32))) := Hs_5.at hin_6 (own_getD o2 0)
    refine OGo.to (fun _ k => X0.iaload hx (j := (0 : Int32)) (v := (.int (o2.getD 0 (0 : Int32)))) (by rw [e0]; exact Ar_5.1) (State.isArrayOf_alike hZ.alike Ar_5.2.1) Ar_5.2.2 hin_6 hat_6 (g := (mkF m 10 #[.val (.ref a1), .val (.ref a2)] [(.int (0 : Int32)), (.ref a2), (.int (o1.getD 0 (0 : Int32)))])) rfl rfl (hb hby d7_10) _ k) ?_
    show OGo p e below _ (s₁.setTop (mkF m 11 #[.val (.ref a1), .val (.ref a2)] [(.int (o2.getD 0 (0 : Int32))), (.int (o1.getD 0 (0 : Int32)))]))
    have hc11__7 : (o1.getD 0 (0 : Int32)) = (o2.getD 0 (0 : Int32)) := by rw [heq]
    refine OGo.to (fun _ k => XS.icmpYes X0.here hx rfl (pc0 := 11) (pc' := 16) rfl (hb hby d7_11) rfl (teq hc11__7).1 (by decide) (by decide) k) ?_
    show OGo p e below _ (s₁.setTop (mkF m 16 #[.val (.ref a1), .val (.ref a2)] []))
    refine OGo.to (fun _ k => XS.aloadN X0.here hx rfl (hb hby d7_16) rfl rfl k) ?_
    show OGo p e below _ (s₁.setTop (mkF m 17 #[.val (.ref a1), .val (.ref a2)] [(.ref a1)]))
    have Vq_8 := V1
    obtain ⟨cl_8, Ar_8, q_8, S_8, M_8, Hs_8, G_8⟩ := Vq_8
    refine OGo.to (fun _ k => X0.arraylength hx (by rw [e0]; exact Ar_8.1) (State.isArrayOf_alike hZ.alike Ar_8.2.1) (g := (mkF m 17 #[.val (.ref a1), .val (.ref a2)] [(.ref a1)])) rfl rfl (hb hby d7_17) _ k) ?_
    rw [len_of S_8 M_8]
    show OGo p e below _ (s₁.setTop (mkF m 18 #[.val (.ref a1), .val (.ref a2)] [(.int nn)]))
    refine OGo.to (fun _ k => XS.iconst X0.here hx rfl (hb hby d7_18) k) ?_
    show OGo p e below _ (s₁.setTop (mkF m 19 #[.val (.ref a1), .val (.ref a2)] [(.int (1 : Int32)), (.int nn)]))
    by_cases hc19__9 : (1 : Int32) < nn
    ·  -- pc 19: yes
      refine OGo.to (fun _ k => XS.icmpNo X0.here hx rfl (hb hby d7_19) rfl (tlt hc19__9).2.2.2 k) ?_
      show OGo p e below _ (s₁.setTop (mkF m 22 #[.val (.ref a1), .val (.ref a2)] []))
      refine OGo.to (fun _ k => XS.aloadN X0.here hx rfl (hb hby d7_22) rfl rfl k) ?_
      show OGo p e below _ (s₁.setTop (mkF m 23 #[.val (.ref a1), .val (.ref a2)] [(.ref a1)]))
      refine OGo.to (fun _ k => XS.iconst X0.here hx rfl (hb hby d7_23) k) ?_
      show OGo p e below _ (s₁.setTop (mkF m 24 #[.val (.ref a1), .val (.ref a2)] [(.int (1 : Int32)), (.ref a1)]))
      have Vq_10 := V1
      obtain ⟨cl_10, Ar_10, q_10, S_10, M_10, Hs_10, G_10⟩ := Vq_10
      have hin_11 : ¬ ((1 : Int32) < 0 ∨ cl_10.slots.size ≤ ((1 : Int32)).toNatClampNeg) := inb_of S_10 ⟨by decide, hc19__9⟩
      have hat_11 : cl_10.slots[((1 : Int32)).toNatClampNeg]? = some (.int (o1.getD 1 (0 : Int32))) := Hs_10.at hin_11 (own_getD o1 1)
      refine OGo.to (fun _ k => X0.iaload hx (j := (1 : Int32)) (v := (.int (o1.getD 1 (0 : Int32)))) (by rw [e0]; exact Ar_10.1) (State.isArrayOf_alike hZ.alike Ar_10.2.1) Ar_10.2.2 hin_11 hat_11 (g := (mkF m 24 #[.val (.ref a1), .val (.ref a2)] [(.int (1 : Int32)), (.ref a1)])) rfl rfl (hb hby d7_24) _ k) ?_
      show OGo p e below _ (s₁.setTop (mkF m 25 #[.val (.ref a1), .val (.ref a2)] [(.int (o1.getD 1 (0 : Int32)))]))
      refine OGo.to (fun _ k => XS.aloadN X0.here hx rfl (hb hby d7_25) rfl rfl k) ?_
      show OGo p e below _ (s₁.setTop (mkF m 26 #[.val (.ref a1), .val (.ref a2)] [(.ref a2), (.int (o1.getD 1 (0 : Int32)))]))
      refine OGo.to (fun _ k => XS.iconst X0.here hx rfl (hb hby d7_26) k) ?_
      show OGo p e below _ (s₁.setTop (mkF m 27 #[.val (.ref a1), .val (.ref a2)] [(.int (1 : Int32)), (.ref a2), (.int (o1.getD 1 (0 : Int32)))]))
      have Vq_12 := V2
      obtain ⟨cl_12, Ar_12, q_12, S_12, M_12, Hs_12, G_12⟩ := Vq_12
      have hin_13 : ¬ ((1 : Int32) < 0 ∨ cl_12.slots.size ≤ ((1 : Int32)).toNatClampNeg) := inb_of S_12 ⟨by decide, hc19__9⟩
      have hat_13 : cl_12.slots[((1 : Int32)).toNatClampNeg]? = some (.int (o2.getD 1 (0 : Int32))) := Hs_12.at hin_13 (own_getD o2 1)
      refine OGo.to (fun _ k => X0.iaload hx (j := (1 : Int32)) (v := (.int (o2.getD 1 (0 : Int32)))) (by rw [e0]; exact Ar_12.1) (State.isArrayOf_alike hZ.alike Ar_12.2.1) Ar_12.2.2 hin_13 hat_13 (g := (mkF m 27 #[.val (.ref a1), .val (.ref a2)] [(.int (1 : Int32)), (.ref a2), (.int (o1.getD 1 (0 : Int32)))])) rfl rfl (hb hby d7_27) _ k) ?_
      show OGo p e below _ (s₁.setTop (mkF m 28 #[.val (.ref a1), .val (.ref a2)] [(.int (o2.getD 1 (0 : Int32))), (.int (o1.getD 1 (0 : Int32)))]))
      have hc28__14 : (o1.getD 1 (0 : Int32)) = (o2.getD 1 (0 : Int32)) := by rw [heq]
      refine OGo.to (fun _ k => XS.icmpYes X0.here hx rfl (pc0 := 28) (pc' := 33) rfl (hb hby d7_28) rfl (teq hc28__14).1 (by decide) (by decide) k) ?_
      show OGo p e below _ (s₁.setTop (mkF m 33 #[.val (.ref a1), .val (.ref a2)] []))
      refine OGo.to (fun _ k => XS.aloadN X0.here hx rfl (hb hby d7_33) rfl rfl k) ?_
      show OGo p e below _ (s₁.setTop (mkF m 34 #[.val (.ref a1), .val (.ref a2)] [(.ref a1)]))
      have Vq_15 := V1
      obtain ⟨cl_15, Ar_15, q_15, S_15, M_15, Hs_15, G_15⟩ := Vq_15
      refine OGo.to (fun _ k => X0.arraylength hx (by rw [e0]; exact Ar_15.1) (State.isArrayOf_alike hZ.alike Ar_15.2.1) (g := (mkF m 34 #[.val (.ref a1), .val (.ref a2)] [(.ref a1)])) rfl rfl (hb hby d7_34) _ k) ?_
      rw [len_of S_15 M_15]
      show OGo p e below _ (s₁.setTop (mkF m 35 #[.val (.ref a1), .val (.ref a2)] [(.int nn)]))
      refine OGo.to (fun _ k => XS.iconst X0.here hx rfl (hb hby d7_35) k) ?_
      show OGo p e below _ (s₁.setTop (mkF m 36 #[.val (.ref a1), .val (.ref a2)] [(.int (2 : Int32)), (.int nn)]))
      by_cases hc36__16 : (2 : Int32) < nn
      ·  -- pc 36: yes
        refine OGo.to (fun _ k => XS.icmpNo X0.here hx rfl (hb hby d7_36) rfl (tlt hc36__16).2.2.2 k) ?_
        show OGo p e below _ (s₁.setTop (mkF m 39 #[.val (.ref a1), .val (.ref a2)] []))
        refine OGo.to (fun _ k => XS.aloadN X0.here hx rfl (hb hby d7_39) rfl rfl k) ?_
        show OGo p e below _ (s₁.setTop (mkF m 40 #[.val (.ref a1), .val (.ref a2)] [(.ref a1)]))
        refine OGo.to (fun _ k => XS.iconst X0.here hx rfl (hb hby d7_40) k) ?_
        show OGo p e below _ (s₁.setTop (mkF m 41 #[.val (.ref a1), .val (.ref a2)] [(.int (2 : Int32)), (.ref a1)]))
        have Vq_17 := V1
        obtain ⟨cl_17, Ar_17, q_17, S_17, M_17, Hs_17, G_17⟩ := Vq_17
        have hin_18 : ¬ ((2 : Int32) < 0 ∨ cl_17.slots.size ≤ ((2 : Int32)).toNatClampNeg) := inb_of S_17 ⟨by decide, hc36__16⟩
        have hat_18 : cl_17.slots[((2 : Int32)).toNatClampNeg]? = some (.int (o1.getD 2 (0 : Int32))) := Hs_17.at hin_18 (own_getD o1 2)
        refine OGo.to (fun _ k => X0.iaload hx (j := (2 : Int32)) (v := (.int (o1.getD 2 (0 : Int32)))) (by rw [e0]; exact Ar_17.1) (State.isArrayOf_alike hZ.alike Ar_17.2.1) Ar_17.2.2 hin_18 hat_18 (g := (mkF m 41 #[.val (.ref a1), .val (.ref a2)] [(.int (2 : Int32)), (.ref a1)])) rfl rfl (hb hby d7_41) _ k) ?_
        show OGo p e below _ (s₁.setTop (mkF m 42 #[.val (.ref a1), .val (.ref a2)] [(.int (o1.getD 2 (0 : Int32)))]))
        refine OGo.to (fun _ k => XS.aloadN X0.here hx rfl (hb hby d7_42) rfl rfl k) ?_
        show OGo p e below _ (s₁.setTop (mkF m 43 #[.val (.ref a1), .val (.ref a2)] [(.ref a2), (.int (o1.getD 2 (0 : Int32)))]))
        refine OGo.to (fun _ k => XS.iconst X0.here hx rfl (hb hby d7_43) k) ?_
        show OGo p e below _ (s₁.setTop (mkF m 44 #[.val (.ref a1), .val (.ref a2)] [(.int (2 : Int32)), (.ref a2), (.int (o1.getD 2 (0 : Int32)))]))
        have Vq_19 := V2
        obtain ⟨cl_19, Ar_19, q_19, S_19, M_19, Hs_19, G_19⟩ := Vq_19
        have hin_20 : ¬ ((2 : Int32) < 0 ∨ cl_19.slots.size ≤ ((2 : Int32)).toNatClampNeg) := inb_of S_19 ⟨by decide, hc36__16⟩
        have hat_20 : cl_19.slots[((2 : Int32)).toNatClampNeg]? = some (.int (o2.getD 2 (0 : Int32))) := Hs_19.at hin_20 (own_getD o2 2)
        refine OGo.to (fun _ k => X0.iaload hx (j := (2 : Int32)) (v := (.int (o2.getD 2 (0 : Int32)))) (by rw [e0]; exact Ar_19.1) (State.isArrayOf_alike hZ.alike Ar_19.2.1) Ar_19.2.2 hin_20 hat_20 (g := (mkF m 44 #[.val (.ref a1), .val (.ref a2)] [(.int (2 : Int32)), (.ref a2), (.int (o1.getD 2 (0 : Int32)))])) rfl rfl (hb hby d7_44) _ k) ?_
        show OGo p e below _ (s₁.setTop (mkF m 45 #[.val (.ref a1), .val (.ref a2)] [(.int (o2.getD 2 (0 : Int32))), (.int (o1.getD 2 (0 : Int32)))]))
        have hc45__21 : (o1.getD 2 (0 : Int32)) = (o2.getD 2 (0 : Int32)) := by rw [heq]
        refine OGo.to (fun _ k => XS.icmpYes X0.here hx rfl (pc0 := 45) (pc' := 50) rfl (hb hby d7_45) rfl (teq hc45__21).1 (by decide) (by decide) k) ?_
        show OGo p e below _ (s₁.setTop (mkF m 50 #[.val (.ref a1), .val (.ref a2)] []))
        refine OGo.to (fun _ k => XS.aloadN X0.here hx rfl (hb hby d7_50) rfl rfl k) ?_
        show OGo p e below _ (s₁.setTop (mkF m 51 #[.val (.ref a1), .val (.ref a2)] [(.ref a1)]))
        have Vq_22 := V1
        obtain ⟨cl_22, Ar_22, q_22, S_22, M_22, Hs_22, G_22⟩ := Vq_22
        refine OGo.to (fun _ k => X0.arraylength hx (by rw [e0]; exact Ar_22.1) (State.isArrayOf_alike hZ.alike Ar_22.2.1) (g := (mkF m 51 #[.val (.ref a1), .val (.ref a2)] [(.ref a1)])) rfl rfl (hb hby d7_51) _ k) ?_
        rw [len_of S_22 M_22]
        show OGo p e below _ (s₁.setTop (mkF m 52 #[.val (.ref a1), .val (.ref a2)] [(.int nn)]))
        refine OGo.to (fun _ k => XS.iconst X0.here hx rfl (hb hby d7_52) k) ?_
        show OGo p e below _ (s₁.setTop (mkF m 53 #[.val (.ref a1), .val (.ref a2)] [(.int (3 : Int32)), (.int nn)]))
        by_cases hc53__23 : (3 : Int32) < nn
        ·  -- pc 53: yes
          refine OGo.to (fun _ k => XS.icmpNo X0.here hx rfl (hb hby d7_53) rfl (tlt hc53__23).2.2.2 k) ?_
          show OGo p e below _ (s₁.setTop (mkF m 56 #[.val (.ref a1), .val (.ref a2)] []))
          refine OGo.to (fun _ k => XS.aloadN X0.here hx rfl (hb hby d7_56) rfl rfl k) ?_
          show OGo p e below _ (s₁.setTop (mkF m 57 #[.val (.ref a1), .val (.ref a2)] [(.ref a1)]))
          refine OGo.to (fun _ k => XS.iconst X0.here hx rfl (hb hby d7_57) k) ?_
          show OGo p e below _ (s₁.setTop (mkF m 58 #[.val (.ref a1), .val (.ref a2)] [(.int (3 : Int32)), (.ref a1)]))
          have Vq_24 := V1
          obtain ⟨cl_24, Ar_24, q_24, S_24, M_24, Hs_24, G_24⟩ := Vq_24
          have hin_25 : ¬ ((3 : Int32) < 0 ∨ cl_24.slots.size ≤ ((3 : Int32)).toNatClampNeg) := inb_of S_24 ⟨by decide, hc53__23⟩
          have hat_25 : cl_24.slots[((3 : Int32)).toNatClampNeg]? = some (.int (o1.getD 3 (0 : Int32))) := Hs_24.at hin_25 (own_getD o1 3)
          refine OGo.to (fun _ k => X0.iaload hx (j := (3 : Int32)) (v := (.int (o1.getD 3 (0 : Int32)))) (by rw [e0]; exact Ar_24.1) (State.isArrayOf_alike hZ.alike Ar_24.2.1) Ar_24.2.2 hin_25 hat_25 (g := (mkF m 58 #[.val (.ref a1), .val (.ref a2)] [(.int (3 : Int32)), (.ref a1)])) rfl rfl (hb hby d7_58) _ k) ?_
          show OGo p e below _ (s₁.setTop (mkF m 59 #[.val (.ref a1), .val (.ref a2)] [(.int (o1.getD 3 (0 : Int32)))]))
          refine OGo.to (fun _ k => XS.aloadN X0.here hx rfl (hb hby d7_59) rfl rfl k) ?_
          show OGo p e below _ (s₁.setTop (mkF m 60 #[.val (.ref a1), .val (.ref a2)] [(.ref a2), (.int (o1.getD 3 (0 : Int32)))]))
          refine OGo.to (fun _ k => XS.iconst X0.here hx rfl (hb hby d7_60) k) ?_
          show OGo p e below _ (s₁.setTop (mkF m 61 #[.val (.ref a1), .val (.ref a2)] [(.int (3 : Int32)), (.ref a2), (.int (o1.getD 3 (0 : Int32)))]))
          have Vq_26 := V2
          obtain ⟨cl_26, Ar_26, q_26, S_26, M_26, Hs_26, G_26⟩ := Vq_26
          have hin_27 : ¬ ((3 : Int32) < 0 ∨ cl_26.slots.size ≤ ((3 : Int32)).toNatClampNeg) := inb_of S_26 ⟨by decide, hc53__23⟩
          have hat_27 : cl_26.slots[((3 : Int32)).toNatClampNeg]? = some (.int (o2.getD 3 (0 : Int32))) := Hs_26.at hin_27 (own_getD o2 3)
          refine OGo.to (fun _ k => X0.iaload hx (j := (3 : Int32)) (v := (.int (o2.getD 3 (0 : Int32)))) (by rw [e0]; exact Ar_26.1) (State.isArrayOf_alike hZ.alike Ar_26.2.1) Ar_26.2.2 hin_27 hat_27 (g := (mkF m 61 #[.val (.ref a1), .val (.ref a2)] [(.int (3 : Int32)), (.ref a2), (.int (o1.getD 3 (0 : Int32)))])) rfl rfl (hb hby d7_61) _ k) ?_
          show OGo p e below _ (s₁.setTop (mkF m 62 #[.val (.ref a1), .val (.ref a2)] [(.int (o2.getD 3 (0 : Int32))), (.int (o1.getD 3 (0 : Int32)))]))
          have hc62__28 : (o1.getD 3 (0 : Int32)) = (o2.getD 3 (0 : Int32)) := by rw [heq]
          refine OGo.to (fun _ k => XS.icmpYes X0.here hx rfl (pc0 := 62) (pc' := 67) rfl (hb hby d7_62) rfl (teq hc62__28).1 (by decide) (by decide) k) ?_
          show OGo p e below _ (s₁.setTop (mkF m 67 #[.val (.ref a1), .val (.ref a2)] []))
          refine OGo.to (fun _ k => XS.aloadN X0.here hx rfl (hb hby d7_67) rfl rfl k) ?_
          show OGo p e below _ (s₁.setTop (mkF m 68 #[.val (.ref a1), .val (.ref a2)] [(.ref a1)]))
          have Vq_29 := V1
          obtain ⟨cl_29, Ar_29, q_29, S_29, M_29, Hs_29, G_29⟩ := Vq_29
          refine OGo.to (fun _ k => X0.arraylength hx (by rw [e0]; exact Ar_29.1) (State.isArrayOf_alike hZ.alike Ar_29.2.1) (g := (mkF m 68 #[.val (.ref a1), .val (.ref a2)] [(.ref a1)])) rfl rfl (hb hby d7_68) _ k) ?_
          rw [len_of S_29 M_29]
          show OGo p e below _ (s₁.setTop (mkF m 69 #[.val (.ref a1), .val (.ref a2)] [(.int nn)]))
          refine OGo.to (fun _ k => XS.iconst X0.here hx rfl (hb hby d7_69) k) ?_
          show OGo p e below _ (s₁.setTop (mkF m 70 #[.val (.ref a1), .val (.ref a2)] [(.int (4 : Int32)), (.int nn)]))
          by_cases hc70__30 : (4 : Int32) < nn
          ·  -- pc 70: yes
            refine OGo.to (fun _ k => XS.icmpNo X0.here hx rfl (hb hby d7_70) rfl (tlt hc70__30).2.2.2 k) ?_
            show OGo p e below _ (s₁.setTop (mkF m 73 #[.val (.ref a1), .val (.ref a2)] []))
            refine OGo.to (fun _ k => XS.aloadN X0.here hx rfl (hb hby d7_73) rfl rfl k) ?_
            show OGo p e below _ (s₁.setTop (mkF m 74 #[.val (.ref a1), .val (.ref a2)] [(.ref a1)]))
            refine OGo.to (fun _ k => XS.iconst X0.here hx rfl (hb hby d7_74) k) ?_
            show OGo p e below _ (s₁.setTop (mkF m 75 #[.val (.ref a1), .val (.ref a2)] [(.int (4 : Int32)), (.ref a1)]))
            have Vq_31 := V1
            obtain ⟨cl_31, Ar_31, q_31, S_31, M_31, Hs_31, G_31⟩ := Vq_31
            have hin_32 : ¬ ((4 : Int32) < 0 ∨ cl_31.slots.size ≤ ((4 : Int32)).toNatClampNeg) := inb_of S_31 ⟨by decide, hc70__30⟩
            have hat_32 : cl_31.slots[((4 : Int32)).toNatClampNeg]? = some (.int (o1.getD 4 (0 : Int32))) := Hs_31.at hin_32 (own_getD o1 4)
            refine OGo.to (fun _ k => X0.iaload hx (j := (4 : Int32)) (v := (.int (o1.getD 4 (0 : Int32)))) (by rw [e0]; exact Ar_31.1) (State.isArrayOf_alike hZ.alike Ar_31.2.1) Ar_31.2.2 hin_32 hat_32 (g := (mkF m 75 #[.val (.ref a1), .val (.ref a2)] [(.int (4 : Int32)), (.ref a1)])) rfl rfl (hb hby d7_75) _ k) ?_
            show OGo p e below _ (s₁.setTop (mkF m 76 #[.val (.ref a1), .val (.ref a2)] [(.int (o1.getD 4 (0 : Int32)))]))
            refine OGo.to (fun _ k => XS.aloadN X0.here hx rfl (hb hby d7_76) rfl rfl k) ?_
            show OGo p e below _ (s₁.setTop (mkF m 77 #[.val (.ref a1), .val (.ref a2)] [(.ref a2), (.int (o1.getD 4 (0 : Int32)))]))
            refine OGo.to (fun _ k => XS.iconst X0.here hx rfl (hb hby d7_77) k) ?_
            show OGo p e below _ (s₁.setTop (mkF m 78 #[.val (.ref a1), .val (.ref a2)] [(.int (4 : Int32)), (.ref a2), (.int (o1.getD 4 (0 : Int32)))]))
            have Vq_33 := V2
            obtain ⟨cl_33, Ar_33, q_33, S_33, M_33, Hs_33, G_33⟩ := Vq_33
            have hin_34 : ¬ ((4 : Int32) < 0 ∨ cl_33.slots.size ≤ ((4 : Int32)).toNatClampNeg) := inb_of S_33 ⟨by decide, hc70__30⟩
            have hat_34 : cl_33.slots[((4 : Int32)).toNatClampNeg]? = some (.int (o2.getD 4 (0 : Int32))) := Hs_33.at hin_34 (own_getD o2 4)
            refine OGo.to (fun _ k => X0.iaload hx (j := (4 : Int32)) (v := (.int (o2.getD 4 (0 : Int32)))) (by rw [e0]; exact Ar_33.1) (State.isArrayOf_alike hZ.alike Ar_33.2.1) Ar_33.2.2 hin_34 hat_34 (g := (mkF m 78 #[.val (.ref a1), .val (.ref a2)] [(.int (4 : Int32)), (.ref a2), (.int (o1.getD 4 (0 : Int32)))])) rfl rfl (hb hby d7_78) _ k) ?_
            show OGo p e below _ (s₁.setTop (mkF m 79 #[.val (.ref a1), .val (.ref a2)] [(.int (o2.getD 4 (0 : Int32))), (.int (o1.getD 4 (0 : Int32)))]))
            have hc79__35 : (o1.getD 4 (0 : Int32)) = (o2.getD 4 (0 : Int32)) := by rw [heq]
            refine OGo.to (fun _ k => XS.icmpYes X0.here hx rfl (pc0 := 79) (pc' := 84) rfl (hb hby d7_79) rfl (teq hc79__35).1 (by decide) (by decide) k) ?_
            show OGo p e below _ (s₁.setTop (mkF m 84 #[.val (.ref a1), .val (.ref a2)] []))
            refine OGo.to (fun _ k => XS.iconst X0.here hx rfl (hb hby d7_84) k) ?_
            show OGo p e below _ (s₁.setTop (mkF m 85 #[.val (.ref a1), .val (.ref a2)] [(.int (1 : Int32))]))
            refine OGo.ret (Q := Q7 Z a1 a2 k1 k2 nn o1 o2 h0 n0) X0 (some (.int (1 : Int32))) (fun h => by rw [Bd.returns] at h; cases h) Bd.notSynchronized (fun fs hr => retN X0 hx (t := .boolean) (z := (1 : Int32)) Bd.returns (by simp) (hb hby d7_85) hr) ?_ (by decide) (by decide)
            show Q7 Z a1 a2 k1 k2 nn o1 o2 h0 n0 _ s₁.heap _
            rw [e0]
            exact ⟨rfl, N0, rfl⟩
          ·  -- pc 70: no
            refine OGo.to (fun _ k => XS.icmpYes X0.here hx rfl (pc0 := 70) (pc' := 84) rfl (hb hby d7_70) rfl (flt hc70__30).2.2.2 (by decide) (by decide) k) ?_
            show OGo p e below _ (s₁.setTop (mkF m 84 #[.val (.ref a1), .val (.ref a2)] []))
            refine OGo.to (fun _ k => XS.iconst X0.here hx rfl (hb hby d7_84) k) ?_
            show OGo p e below _ (s₁.setTop (mkF m 85 #[.val (.ref a1), .val (.ref a2)] [(.int (1 : Int32))]))
            refine OGo.ret (Q := Q7 Z a1 a2 k1 k2 nn o1 o2 h0 n0) X0 (some (.int (1 : Int32))) (fun h => by rw [Bd.returns] at h; cases h) Bd.notSynchronized (fun fs hr => retN X0 hx (t := .boolean) (z := (1 : Int32)) Bd.returns (by simp) (hb hby d7_85) hr) ?_ (by decide) (by decide)
            show Q7 Z a1 a2 k1 k2 nn o1 o2 h0 n0 _ s₁.heap _
            rw [e0]
            exact ⟨rfl, N0, rfl⟩
        ·  -- pc 53: no
          refine OGo.to (fun _ k => XS.icmpYes X0.here hx rfl (pc0 := 53) (pc' := 67) rfl (hb hby d7_53) rfl (flt hc53__23).2.2.2 (by decide) (by decide) k) ?_
          show OGo p e below _ (s₁.setTop (mkF m 67 #[.val (.ref a1), .val (.ref a2)] []))
          refine OGo.to (fun _ k => XS.aloadN X0.here hx rfl (hb hby d7_67) rfl rfl k) ?_
          show OGo p e below _ (s₁.setTop (mkF m 68 #[.val (.ref a1), .val (.ref a2)] [(.ref a1)]))
          have Vq_36 := V1
          obtain ⟨cl_36, Ar_36, q_36, S_36, M_36, Hs_36, G_36⟩ := Vq_36
          refine OGo.to (fun _ k => X0.arraylength hx (by rw [e0]; exact Ar_36.1) (State.isArrayOf_alike hZ.alike Ar_36.2.1) (g := (mkF m 68 #[.val (.ref a1), .val (.ref a2)] [(.ref a1)])) rfl rfl (hb hby d7_68) _ k) ?_
          rw [len_of S_36 M_36]
          show OGo p e below _ (s₁.setTop (mkF m 69 #[.val (.ref a1), .val (.ref a2)] [(.int nn)]))
          refine OGo.to (fun _ k => XS.iconst X0.here hx rfl (hb hby d7_69) k) ?_
          show OGo p e below _ (s₁.setTop (mkF m 70 #[.val (.ref a1), .val (.ref a2)] [(.int (4 : Int32)), (.int nn)]))
          by_cases hc70__37 : (4 : Int32) < nn
          ·  -- pc 70: yes
            refine OGo.to (fun _ k => XS.icmpNo X0.here hx rfl (hb hby d7_70) rfl (tlt hc70__37).2.2.2 k) ?_
            show OGo p e below _ (s₁.setTop (mkF m 73 #[.val (.ref a1), .val (.ref a2)] []))
            refine OGo.to (fun _ k => XS.aloadN X0.here hx rfl (hb hby d7_73) rfl rfl k) ?_
            show OGo p e below _ (s₁.setTop (mkF m 74 #[.val (.ref a1), .val (.ref a2)] [(.ref a1)]))
            refine OGo.to (fun _ k => XS.iconst X0.here hx rfl (hb hby d7_74) k) ?_
            show OGo p e below _ (s₁.setTop (mkF m 75 #[.val (.ref a1), .val (.ref a2)] [(.int (4 : Int32)), (.ref a1)]))
            have Vq_38 := V1
            obtain ⟨cl_38, Ar_38, q_38, S_38, M_38, Hs_38, G_38⟩ := Vq_38
            have hin_39 : ¬ ((4 : Int32) < 0 ∨ cl_38.slots.size ≤ ((4 : Int32)).toNatClampNeg) := inb_of S_38 ⟨by decide, hc70__37⟩
            have hat_39 : cl_38.slots[((4 : Int32)).toNatClampNeg]? = some (.int (o1.getD 4 (0 : Int32))) := Hs_38.at hin_39 (own_getD o1 4)
            refine OGo.to (fun _ k => X0.iaload hx (j := (4 : Int32)) (v := (.int (o1.getD 4 (0 : Int32)))) (by rw [e0]; exact Ar_38.1) (State.isArrayOf_alike hZ.alike Ar_38.2.1) Ar_38.2.2 hin_39 hat_39 (g := (mkF m 75 #[.val (.ref a1), .val (.ref a2)] [(.int (4 : Int32)), (.ref a1)])) rfl rfl (hb hby d7_75) _ k) ?_
            show OGo p e below _ (s₁.setTop (mkF m 76 #[.val (.ref a1), .val (.ref a2)] [(.int (o1.getD 4 (0 : Int32)))]))
            refine OGo.to (fun _ k => XS.aloadN X0.here hx rfl (hb hby d7_76) rfl rfl k) ?_
            show OGo p e below _ (s₁.setTop (mkF m 77 #[.val (.ref a1), .val (.ref a2)] [(.ref a2), (.int (o1.getD 4 (0 : Int32)))]))
            refine OGo.to (fun _ k => XS.iconst X0.here hx rfl (hb hby d7_77) k) ?_
            show OGo p e below _ (s₁.setTop (mkF m 78 #[.val (.ref a1), .val (.ref a2)] [(.int (4 : Int32)), (.ref a2), (.int (o1.getD 4 (0 : Int32)))]))
            have Vq_40 := V2
            obtain ⟨cl_40, Ar_40, q_40, S_40, M_40, Hs_40, G_40⟩ := Vq_40
            have hin_41 : ¬ ((4 : Int32) < 0 ∨ cl_40.slots.size ≤ ((4 : Int32)).toNatClampNeg) := inb_of S_40 ⟨by decide, hc70__37⟩
            have hat_41 : cl_40.slots[((4 : Int32)).toNatClampNeg]? = some (.int (o2.getD 4 (0 : Int32))) := Hs_40.at hin_41 (own_getD o2 4)
            refine OGo.to (fun _ k => X0.iaload hx (j := (4 : Int32)) (v := (.int (o2.getD 4 (0 : Int32)))) (by rw [e0]; exact Ar_40.1) (State.isArrayOf_alike hZ.alike Ar_40.2.1) Ar_40.2.2 hin_41 hat_41 (g := (mkF m 78 #[.val (.ref a1), .val (.ref a2)] [(.int (4 : Int32)), (.ref a2), (.int (o1.getD 4 (0 : Int32)))])) rfl rfl (hb hby d7_78) _ k) ?_
            show OGo p e below _ (s₁.setTop (mkF m 79 #[.val (.ref a1), .val (.ref a2)] [(.int (o2.getD 4 (0 : Int32))), (.int (o1.getD 4 (0 : Int32)))]))
            have hc79__42 : (o1.getD 4 (0 : Int32)) = (o2.getD 4 (0 : Int32)) := by rw [heq]
            refine OGo.to (fun _ k => XS.icmpYes X0.here hx rfl (pc0 := 79) (pc' := 84) rfl (hb hby d7_79) rfl (teq hc79__42).1 (by decide) (by decide) k) ?_
            show OGo p e below _ (s₁.setTop (mkF m 84 #[.val (.ref a1), .val (.ref a2)] []))
            refine OGo.to (fun _ k => XS.iconst X0.here hx rfl (hb hby d7_84) k) ?_
            show OGo p e below _ (s₁.setTop (mkF m 85 #[.val (.ref a1), .val (.ref a2)] [(.int (1 : Int32))]))
            refine OGo.ret (Q := Q7 Z a1 a2 k1 k2 nn o1 o2 h0 n0) X0 (some (.int (1 : Int32))) (fun h => by rw [Bd.returns] at h; cases h) Bd.notSynchronized (fun fs hr => retN X0 hx (t := .boolean) (z := (1 : Int32)) Bd.returns (by simp) (hb hby d7_85) hr) ?_ (by decide) (by decide)
            show Q7 Z a1 a2 k1 k2 nn o1 o2 h0 n0 _ s₁.heap _
            rw [e0]
            exact ⟨rfl, N0, rfl⟩
          ·  -- pc 70: no
            refine OGo.to (fun _ k => XS.icmpYes X0.here hx rfl (pc0 := 70) (pc' := 84) rfl (hb hby d7_70) rfl (flt hc70__37).2.2.2 (by decide) (by decide) k) ?_
            show OGo p e below _ (s₁.setTop (mkF m 84 #[.val (.ref a1), .val (.ref a2)] []))
            refine OGo.to (fun _ k => XS.iconst X0.here hx rfl (hb hby d7_84) k) ?_
            show OGo p e below _ (s₁.setTop (mkF m 85 #[.val (.ref a1), .val (.ref a2)] [(.int (1 : Int32))]))
            refine OGo.ret (Q := Q7 Z a1 a2 k1 k2 nn o1 o2 h0 n0) X0 (some (.int (1 : Int32))) (fun h => by rw [Bd.returns] at h; cases h) Bd.notSynchronized (fun fs hr => retN X0 hx (t := .boolean) (z := (1 : Int32)) Bd.returns (by simp) (hb hby d7_85) hr) ?_ (by decide) (by decide)
            show Q7 Z a1 a2 k1 k2 nn o1 o2 h0 n0 _ s₁.heap _
            rw [e0]
            exact ⟨rfl, N0, rfl⟩
      ·  -- pc 36: no
        refine OGo.to (fun _ k => XS.icmpYes X0.here hx rfl (pc0 := 36) (pc' := 50) rfl (hb hby d7_36) rfl (flt hc36__16).2.2.2 (by decide) (by decide) k) ?_
        show OGo p e below _ (s₁.setTop (mkF m 50 #[.val (.ref a1), .val (.ref a2)] []))
        refine OGo.to (fun _ k => XS.aloadN X0.here hx rfl (hb hby d7_50) rfl rfl k) ?_
        show OGo p e below _ (s₁.setTop (mkF m 51 #[.val (.ref a1), .val (.ref a2)] [(.ref a1)]))
        have Vq_43 := V1
        obtain ⟨cl_43, Ar_43, q_43, S_43, M_43, Hs_43, G_43⟩ := Vq_43
        refine OGo.to (fun _ k => X0.arraylength hx (by rw [e0]; exact Ar_43.1) (State.isArrayOf_alike hZ.alike Ar_43.2.1) (g := (mkF m 51 #[.val (.ref a1), .val (.ref a2)] [(.ref a1)])) rfl rfl (hb hby d7_51) _ k) ?_
        rw [len_of S_43 M_43]
        show OGo p e below _ (s₁.setTop (mkF m 52 #[.val (.ref a1), .val (.ref a2)] [(.int nn)]))
        refine OGo.to (fun _ k => XS.iconst X0.here hx rfl (hb hby d7_52) k) ?_
        show OGo p e below _ (s₁.setTop (mkF m 53 #[.val (.ref a1), .val (.ref a2)] [(.int (3 : Int32)), (.int nn)]))
        by_cases hc53__44 : (3 : Int32) < nn
        ·  -- pc 53: yes
          refine OGo.to (fun _ k => XS.icmpNo X0.here hx rfl (hb hby d7_53) rfl (tlt hc53__44).2.2.2 k) ?_
          show OGo p e below _ (s₁.setTop (mkF m 56 #[.val (.ref a1), .val (.ref a2)] []))
          refine OGo.to (fun _ k => XS.aloadN X0.here hx rfl (hb hby d7_56) rfl rfl k) ?_
          show OGo p e below _ (s₁.setTop (mkF m 57 #[.val (.ref a1), .val (.ref a2)] [(.ref a1)]))
          refine OGo.to (fun _ k => XS.iconst X0.here hx rfl (hb hby d7_57) k) ?_
          show OGo p e below _ (s₁.setTop (mkF m 58 #[.val (.ref a1), .val (.ref a2)] [(.int (3 : Int32)), (.ref a1)]))
          have Vq_45 := V1
          obtain ⟨cl_45, Ar_45, q_45, S_45, M_45, Hs_45, G_45⟩ := Vq_45
          have hin_46 : ¬ ((3 : Int32) < 0 ∨ cl_45.slots.size ≤ ((3 : Int32)).toNatClampNeg) := inb_of S_45 ⟨by decide, hc53__44⟩
          have hat_46 : cl_45.slots[((3 : Int32)).toNatClampNeg]? = some (.int (o1.getD 3 (0 : Int32))) := Hs_45.at hin_46 (own_getD o1 3)
          refine OGo.to (fun _ k => X0.iaload hx (j := (3 : Int32)) (v := (.int (o1.getD 3 (0 : Int32)))) (by rw [e0]; exact Ar_45.1) (State.isArrayOf_alike hZ.alike Ar_45.2.1) Ar_45.2.2 hin_46 hat_46 (g := (mkF m 58 #[.val (.ref a1), .val (.ref a2)] [(.int (3 : Int32)), (.ref a1)])) rfl rfl (hb hby d7_58) _ k) ?_
          show OGo p e below _ (s₁.setTop (mkF m 59 #[.val (.ref a1), .val (.ref a2)] [(.int (o1.getD 3 (0 : Int32)))]))
          refine OGo.to (fun _ k => XS.aloadN X0.here hx rfl (hb hby d7_59) rfl rfl k) ?_
          show OGo p e below _ (s₁.setTop (mkF m 60 #[.val (.ref a1), .val (.ref a2)] [(.ref a2), (.int (o1.getD 3 (0 : Int32)))]))
          refine OGo.to (fun _ k => XS.iconst X0.here hx rfl (hb hby d7_60) k) ?_
          show OGo p e below _ (s₁.setTop (mkF m 61 #[.val (.ref a1), .val (.ref a2)] [(.int (3 : Int32)), (.ref a2), (.int (o1.getD 3 (0 : Int32)))]))
          have Vq_47 := V2
          obtain ⟨cl_47, Ar_47, q_47, S_47, M_47, Hs_47, G_47⟩ := Vq_47
          have hin_48 : ¬ ((3 : Int32) < 0 ∨ cl_47.slots.size ≤ ((3 : Int32)).toNatClampNeg) := inb_of S_47 ⟨by decide, hc53__44⟩
          have hat_48 : cl_47.slots[((3 : Int32)).toNatClampNeg]? = some (.int (o2.getD 3 (0 : Int32))) := Hs_47.at hin_48 (own_getD o2 3)
          refine OGo.to (fun _ k => X0.iaload hx (j := (3 : Int32)) (v := (.int (o2.getD 3 (0 : Int32)))) (by rw [e0]; exact Ar_47.1) (State.isArrayOf_alike hZ.alike Ar_47.2.1) Ar_47.2.2 hin_48 hat_48 (g := (mkF m 61 #[.val (.ref a1), .val (.ref a2)] [(.int (3 : Int32)), (.ref a2), (.int (o1.getD 3 (0 : Int32)))])) rfl rfl (hb hby d7_61) _ k) ?_
          show OGo p e below _ (s₁.setTop (mkF m 62 #[.val (.ref a1), .val (.ref a2)] [(.int (o2.getD 3 (0 : Int32))), (.int (o1.getD 3 (0 : Int32)))]))
          have hc62__49 : (o1.getD 3 (0 : Int32)) = (o2.getD 3 (0 : Int32)) := by rw [heq]
          refine OGo.to (fun _ k => XS.icmpYes X0.here hx rfl (pc0 := 62) (pc' := 67) rfl (hb hby d7_62) rfl (teq hc62__49).1 (by decide) (by decide) k) ?_
          show OGo p e below _ (s₁.setTop (mkF m 67 #[.val (.ref a1), .val (.ref a2)] []))
          refine OGo.to (fun _ k => XS.aloadN X0.here hx rfl (hb hby d7_67) rfl rfl k) ?_
          show OGo p e below _ (s₁.setTop (mkF m 68 #[.val (.ref a1), .val (.ref a2)] [(.ref a1)]))
          have Vq_50 := V1
          obtain ⟨cl_50, Ar_50, q_50, S_50, M_50, Hs_50, G_50⟩ := Vq_50
          refine OGo.to (fun _ k => X0.arraylength hx (by rw [e0]; exact Ar_50.1) (State.isArrayOf_alike hZ.alike Ar_50.2.1) (g := (mkF m 68 #[.val (.ref a1), .val (.ref a2)] [(.ref a1)])) rfl rfl (hb hby d7_68) _ k) ?_
          rw [len_of S_50 M_50]
          show OGo p e below _ (s₁.setTop (mkF m 69 #[.val (.ref a1), .val (.ref a2)] [(.int nn)]))
          refine OGo.to (fun _ k => XS.iconst X0.here hx rfl (hb hby d7_69) k) ?_
          show OGo p e below _ (s₁.setTop (mkF m 70 #[.val (.ref a1), .val (.ref a2)] [(.int (4 : Int32)), (.int nn)]))
          by_cases hc70__51 : (4 : Int32) < nn
          ·  -- pc 70: yes
            refine OGo.to (fun _ k => XS.icmpNo X0.here hx rfl (hb hby d7_70) rfl (tlt hc70__51).2.2.2 k) ?_
            show OGo p e below _ (s₁.setTop (mkF m 73 #[.val (.ref a1), .val (.ref a2)] []))
            refine OGo.to (fun _ k => XS.aloadN X0.here hx rfl (hb hby d7_73) rfl rfl k) ?_
            show OGo p e below _ (s₁.setTop (mkF m 74 #[.val (.ref a1), .val (.ref a2)] [(.ref a1)]))
            refine OGo.to (fun _ k => XS.iconst X0.here hx rfl (hb hby d7_74) k) ?_
            show OGo p e below _ (s₁.setTop (mkF m 75 #[.val (.ref a1), .val (.ref a2)] [(.int (4 : Int32)), (.ref a1)]))
            have Vq_52 := V1
            obtain ⟨cl_52, Ar_52, q_52, S_52, M_52, Hs_52, G_52⟩ := Vq_52
            have hin_53 : ¬ ((4 : Int32) < 0 ∨ cl_52.slots.size ≤ ((4 : Int32)).toNatClampNeg) := inb_of S_52 ⟨by decide, hc70__51⟩
            have hat_53 : cl_52.slots[((4 : Int32)).toNatClampNeg]? = some (.int (o1.getD 4 (0 : Int32))) := Hs_52.at hin_53 (own_getD o1 4)
            refine OGo.to (fun _ k => X0.iaload hx (j := (4 : Int32)) (v := (.int (o1.getD 4 (0 : Int32)))) (by rw [e0]; exact Ar_52.1) (State.isArrayOf_alike hZ.alike Ar_52.2.1) Ar_52.2.2 hin_53 hat_53 (g := (mkF m 75 #[.val (.ref a1), .val (.ref a2)] [(.int (4 : Int32)), (.ref a1)])) rfl rfl (hb hby d7_75) _ k) ?_
            show OGo p e below _ (s₁.setTop (mkF m 76 #[.val (.ref a1), .val (.ref a2)] [(.int (o1.getD 4 (0 : Int32)))]))
            refine OGo.to (fun _ k => XS.aloadN X0.here hx rfl (hb hby d7_76) rfl rfl k) ?_
            show OGo p e below _ (s₁.setTop (mkF m 77 #[.val (.ref a1), .val (.ref a2)] [(.ref a2), (.int (o1.getD 4 (0 : Int32)))]))
            refine OGo.to (fun _ k => XS.iconst X0.here hx rfl (hb hby d7_77) k) ?_
            show OGo p e below _ (s₁.setTop (mkF m 78 #[.val (.ref a1), .val (.ref a2)] [(.int (4 : Int32)), (.ref a2), (.int (o1.getD 4 (0 : Int32)))]))
            have Vq_54 := V2
            obtain ⟨cl_54, Ar_54, q_54, S_54, M_54, Hs_54, G_54⟩ := Vq_54
            have hin_55 : ¬ ((4 : Int32) < 0 ∨ cl_54.slots.size ≤ ((4 : Int32)).toNatClampNeg) := inb_of S_54 ⟨by decide, hc70__51⟩
            have hat_55 : cl_54.slots[((4 : Int32)).toNatClampNeg]? = some (.int (o2.getD 4 (0 : Int32))) := Hs_54.at hin_55 (own_getD o2 4)
            refine OGo.to (fun _ k => X0.iaload hx (j := (4 : Int32)) (v := (.int (o2.getD 4 (0 : Int32)))) (by rw [e0]; exact Ar_54.1) (State.isArrayOf_alike hZ.alike Ar_54.2.1) Ar_54.2.2 hin_55 hat_55 (g := (mkF m 78 #[.val (.ref a1), .val (.ref a2)] [(.int (4 : Int32)), (.ref a2), (.int (o1.getD 4 (0 : Int32)))])) rfl rfl (hb hby d7_78) _ k) ?_
            show OGo p e below _ (s₁.setTop (mkF m 79 #[.val (.ref a1), .val (.ref a2)] [(.int (o2.getD 4 (0 : Int32))), (.int (o1.getD 4 (0 : Int32)))]))
            have hc79__56 : (o1.getD 4 (0 : Int32)) = (o2.getD 4 (0 : Int32)) := by rw [heq]
            refine OGo.to (fun _ k => XS.icmpYes X0.here hx rfl (pc0 := 79) (pc' := 84) rfl (hb hby d7_79) rfl (teq hc79__56).1 (by decide) (by decide) k) ?_
            show OGo p e below _ (s₁.setTop (mkF m 84 #[.val (.ref a1), .val (.ref a2)] []))
            refine OGo.to (fun _ k => XS.iconst X0.here hx rfl (hb hby d7_84) k) ?_
            show OGo p e below _ (s₁.setTop (mkF m 85 #[.val (.ref a1), .val (.ref a2)] [(.int (1 : Int32))]))
            refine OGo.ret (Q := Q7 Z a1 a2 k1 k2 nn o1 o2 h0 n0) X0 (some (.int (1 : Int32))) (fun h => by rw [Bd.returns] at h; cases h) Bd.notSynchronized (fun fs hr => retN X0 hx (t := .boolean) (z := (1 : Int32)) Bd.returns (by simp) (hb hby d7_85) hr) ?_ (by decide) (by decide)
            show Q7 Z a1 a2 k1 k2 nn o1 o2 h0 n0 _ s₁.heap _
            rw [e0]
            exact ⟨rfl, N0, rfl⟩
          ·  -- pc 70: no
            refine OGo.to (fun _ k => XS.icmpYes X0.here hx rfl (pc0 := 70) (pc' := 84) rfl (hb hby d7_70) rfl (flt hc70__51).2.2.2 (by decide) (by decide) k) ?_
            show OGo p e below _ (s₁.setTop (mkF m 84 #[.val (.ref a1), .val (.ref a2)] []))
            refine OGo.to (fun _ k => XS.iconst X0.here hx rfl (hb hby d7_84) k) ?_
            show OGo p e below _ (s₁.setTop (mkF m 85 #[.val (.ref a1), .val (.ref a2)] [(.int (1 : Int32))]))
            refine OGo.ret (Q := Q7 Z a1 a2 k1 k2 nn o1 o2 h0 n0) X0 (some (.int (1 : Int32))) (fun h => by rw [Bd.returns] at h; cases h) Bd.notSynchronized (fun fs hr => retN X0 hx (t := .boolean) (z := (1 : Int32)) Bd.returns (by simp) (hb hby d7_85) hr) ?_ (by decide) (by decide)
            show Q7 Z a1 a2 k1 k2 nn o1 o2 h0 n0 _ s₁.heap _
            rw [e0]
            exact ⟨rfl, N0, rfl⟩
        ·  -- pc 53: no
          refine OGo.to (fun _ k => XS.icmpYes X0.here hx rfl (pc0 := 53) (pc' := 67) rfl (hb hby d7_53) rfl (flt hc53__44).2.2.2 (by decide) (by decide) k) ?_
          show OGo p e below _ (s₁.setTop (mkF m 67 #[.val (.ref a1), .val (.ref a2)] []))
          refine OGo.to (fun _ k => XS.aloadN X0.here hx rfl (hb hby d7_67) rfl rfl k) ?_
          show OGo p e below _ (s₁.setTop (mkF m 68 #[.val (.ref a1), .val (.ref a2)] [(.ref a1)]))
          have Vq_57 := V1
          obtain ⟨cl_57, Ar_57, q_57, S_57, M_57, Hs_57, G_57⟩ := Vq_57
          refine OGo.to (fun _ k => X0.arraylength hx (by rw [e0]; exact Ar_57.1) (State.isArrayOf_alike hZ.alike Ar_57.2.1) (g := (mkF m 68 #[.val (.ref a1), .val (.ref a2)] [(.ref a1)])) rfl rfl (hb hby d7_68) _ k) ?_
          rw [len_of S_57 M_57]
          show OGo p e below _ (s₁.setTop (mkF m 69 #[.val (.ref a1), .val (.ref a2)] [(.int nn)]))
          refine OGo.to (fun _ k => XS.iconst X0.here hx rfl (hb hby d7_69) k) ?_
          show OGo p e below _ (s₁.setTop (mkF m 70 #[.val (.ref a1), .val (.ref a2)] [(.int (4 : Int32)), (.int nn)]))
          by_cases hc70__58 : (4 : Int32) < nn
          ·  -- pc 70: yes
            refine OGo.to (fun _ k => XS.icmpNo X0.here hx rfl (hb hby d7_70) rfl (tlt hc70__58).2.2.2 k) ?_
            show OGo p e below _ (s₁.setTop (mkF m 73 #[.val (.ref a1), .val (.ref a2)] []))
            refine OGo.to (fun _ k => XS.aloadN X0.here hx rfl (hb hby d7_73) rfl rfl k) ?_
            show OGo p e below _ (s₁.setTop (mkF m 74 #[.val (.ref a1), .val (.ref a2)] [(.ref a1)]))
            refine OGo.to (fun _ k => XS.iconst X0.here hx rfl (hb hby d7_74) k) ?_
            show OGo p e below _ (s₁.setTop (mkF m 75 #[.val (.ref a1), .val (.ref a2)] [(.int (4 : Int32)), (.ref a1)]))
            have Vq_59 := V1
            obtain ⟨cl_59, Ar_59, q_59, S_59, M_59, Hs_59, G_59⟩ := Vq_59
            have hin_60 : ¬ ((4 : Int32) < 0 ∨ cl_59.slots.size ≤ ((4 : Int32)).toNatClampNeg) := inb_of S_59 ⟨by decide, hc70__58⟩
            have hat_60 : cl_59.slots[((4 : Int32)).toNatClampNeg]? = some (.int (o1.getD 4 (0 : Int32))) := Hs_59.at hin_60 (own_getD o1 4)
            refine OGo.to (fun _ k => X0.iaload hx (j := (4 : Int32)) (v := (.int (o1.getD 4 (0 : Int32)))) (by rw [e0]; exact Ar_59.1) (State.isArrayOf_alike hZ.alike Ar_59.2.1) Ar_59.2.2 hin_60 hat_60 (g := (mkF m 75 #[.val (.ref a1), .val (.ref a2)] [(.int (4 : Int32)), (.ref a1)])) rfl rfl (hb hby d7_75) _ k) ?_
            show OGo p e below _ (s₁.setTop (mkF m 76 #[.val (.ref a1), .val (.ref a2)] [(.int (o1.getD 4 (0 : Int32)))]))
            refine OGo.to (fun _ k => XS.aloadN X0.here hx rfl (hb hby d7_76) rfl rfl k) ?_
            show OGo p e below _ (s₁.setTop (mkF m 77 #[.val (.ref a1), .val (.ref a2)] [(.ref a2), (.int (o1.getD 4 (0 : Int32)))]))
            refine OGo.to (fun _ k => XS.iconst X0.here hx rfl (hb hby d7_77) k) ?_
            show OGo p e below _ (s₁.setTop (mkF m 78 #[.val (.ref a1), .val (.ref a2)] [(.int (4 : Int32)), (.ref a2), (.int (o1.getD 4 (0 : Int32)))]))
            have Vq_61 := V2
            obtain ⟨cl_61, Ar_61, q_61, S_61, M_61, Hs_61, G_61⟩ := Vq_61
            have hin_62 : ¬ ((4 : Int32) < 0 ∨ cl_61.slots.size ≤ ((4 : Int32)).toNatClampNeg) := inb_of S_61 ⟨by decide, hc70__58⟩
            have hat_62 : cl_61.slots[((4 : Int32)).toNatClampNeg]? = some (.int (o2.getD 4 (0 : Int32))) := Hs_61.at hin_62 (own_getD o2 4)
            refine OGo.to (fun _ k => X0.iaload hx (j := (4 : Int32)) (v := (.int (o2.getD 4 (0 : Int32)))) (by rw [e0]; exact Ar_61.1) (State.isArrayOf_alike hZ.alike Ar_61.2.1) Ar_61.2.2 hin_62 hat_62 (g := (mkF m 78 #[.val (.ref a1), .val (.ref a2)] [(.int (4 : Int32)), (.ref a2), (.int (o1.getD 4 (0 : Int32)))])) rfl rfl (hb hby d7_78) _ k) ?_
            show OGo p e below _ (s₁.setTop (mkF m 79 #[.val (.ref a1), .val (.ref a2)] [(.int (o2.getD 4 (0 : Int32))), (.int (o1.getD 4 (0 : Int32)))]))
            have hc79__63 : (o1.getD 4 (0 : Int32)) = (o2.getD 4 (0 : Int32)) := by rw [heq]
            refine OGo.to (fun _ k => XS.icmpYes X0.here hx rfl (pc0 := 79) (pc' := 84) rfl (hb hby d7_79) rfl (teq hc79__63).1 (by decide) (by decide) k) ?_
            show OGo p e below _ (s₁.setTop (mkF m 84 #[.val (.ref a1), .val (.ref a2)] []))
            refine OGo.to (fun _ k => XS.iconst X0.here hx rfl (hb hby d7_84) k) ?_
            show OGo p e below _ (s₁.setTop (mkF m 85 #[.val (.ref a1), .val (.ref a2)] [(.int (1 : Int32))]))
            refine OGo.ret (Q := Q7 Z a1 a2 k1 k2 nn o1 o2 h0 n0) X0 (some (.int (1 : Int32))) (fun h => by rw [Bd.returns] at h; cases h) Bd.notSynchronized (fun fs hr => retN X0 hx (t := .boolean) (z := (1 : Int32)) Bd.returns (by simp) (hb hby d7_85) hr) ?_ (by decide) (by decide)
            show Q7 Z a1 a2 k1 k2 nn o1 o2 h0 n0 _ s₁.heap _
            rw [e0]
            exact ⟨rfl, N0, rfl⟩
          ·  -- pc 70: no
            refine OGo.to (fun _ k => XS.icmpYes X0.here hx rfl (pc0 := 70) (pc' := 84) rfl (hb hby d7_70) rfl (flt hc70__58).2.2.2 (by decide) (by decide) k) ?_
            show OGo p e below _ (s₁.setTop (mkF m 84 #[.val (.ref a1), .val (.ref a2)] []))
            refine OGo.to (fun _ k => XS.iconst X0.here hx rfl (hb hby d7_84) k) ?_
            show OGo p e below _ (s₁.setTop (mkF m 85 #[.val (.ref a1), .val (.ref a2)] [(.int (1 : Int32))]))
            refine OGo.ret (Q := Q7 Z a1 a2 k1 k2 nn o1 o2 h0 n0) X0 (some (.int (1 : Int32))) (fun h => by rw [Bd.returns] at h; cases h) Bd.notSynchronized (fun fs hr => retN X0 hx (t := .boolean) (z := (1 : Int32)) Bd.returns (by simp) (hb hby d7_85) hr) ?_ (by decide) (by decide)
            show Q7 Z a1 a2 k1 k2 nn o1 o2 h0 n0 _ s₁.heap _
            rw [e0]
            exact ⟨rfl, N0, rfl⟩
    ·  -- pc 19: no
      refine OGo.to (fun _ k => XS.icmpYes X0.here hx rfl (pc0 := 19) (pc' := 33) rfl (hb hby d7_19) rfl (flt hc19__9).2.2.2 (by decide) (by decide) k) ?_
      show OGo p e below _ (s₁.setTop (mkF m 33 #[.val (.ref a1), .val (.ref a2)] []))
      refine OGo.to (fun _ k => XS.aloadN X0.here hx rfl (hb hby d7_33) rfl rfl k) ?_
      show OGo p e below _ (s₁.setTop (mkF m 34 #[.val (.ref a1), .val (.ref a2)] [(.ref a1)]))
      have Vq_64 := V1
      obtain ⟨cl_64, Ar_64, q_64, S_64, M_64, Hs_64, G_64⟩ := Vq_64
      refine OGo.to (fun _ k => X0.arraylength hx (by rw [e0]; exact Ar_64.1) (State.isArrayOf_alike hZ.alike Ar_64.2.1) (g := (mkF m 34 #[.val (.ref a1), .val (.ref a2)] [(.ref a1)])) rfl rfl (hb hby d7_34) _ k) ?_
      rw [len_of S_64 M_64]
      show OGo p e below _ (s₁.setTop (mkF m 35 #[.val (.ref a1), .val (.ref a2)] [(.int nn)]))
      refine OGo.to (fun _ k => XS.iconst X0.here hx rfl (hb hby d7_35) k) ?_
      show OGo p e below _ (s₁.setTop (mkF m 36 #[.val (.ref a1), .val (.ref a2)] [(.int (2 : Int32)), (.int nn)]))
      by_cases hc36__65 : (2 : Int32) < nn
      ·  -- pc 36: yes
        refine OGo.to (fun _ k => XS.icmpNo X0.here hx rfl (hb hby d7_36) rfl (tlt hc36__65).2.2.2 k) ?_
        show OGo p e below _ (s₁.setTop (mkF m 39 #[.val (.ref a1), .val (.ref a2)] []))
        refine OGo.to (fun _ k => XS.aloadN X0.here hx rfl (hb hby d7_39) rfl rfl k) ?_
        show OGo p e below _ (s₁.setTop (mkF m 40 #[.val (.ref a1), .val (.ref a2)] [(.ref a1)]))
        refine OGo.to (fun _ k => XS.iconst X0.here hx rfl (hb hby d7_40) k) ?_
        show OGo p e below _ (s₁.setTop (mkF m 41 #[.val (.ref a1), .val (.ref a2)] [(.int (2 : Int32)), (.ref a1)]))
        have Vq_66 := V1
        obtain ⟨cl_66, Ar_66, q_66, S_66, M_66, Hs_66, G_66⟩ := Vq_66
        have hin_67 : ¬ ((2 : Int32) < 0 ∨ cl_66.slots.size ≤ ((2 : Int32)).toNatClampNeg) := inb_of S_66 ⟨by decide, hc36__65⟩
        have hat_67 : cl_66.slots[((2 : Int32)).toNatClampNeg]? = some (.int (o1.getD 2 (0 : Int32))) := Hs_66.at hin_67 (own_getD o1 2)
        refine OGo.to (fun _ k => X0.iaload hx (j := (2 : Int32)) (v := (.int (o1.getD 2 (0 : Int32)))) (by rw [e0]; exact Ar_66.1) (State.isArrayOf_alike hZ.alike Ar_66.2.1) Ar_66.2.2 hin_67 hat_67 (g := (mkF m 41 #[.val (.ref a1), .val (.ref a2)] [(.int (2 : Int32)), (.ref a1)])) rfl rfl (hb hby d7_41) _ k) ?_
        show OGo p e below _ (s₁.setTop (mkF m 42 #[.val (.ref a1), .val (.ref a2)] [(.int (o1.getD 2 (0 : Int32)))]))
        refine OGo.to (fun _ k => XS.aloadN X0.here hx rfl (hb hby d7_42) rfl rfl k) ?_
        show OGo p e below _ (s₁.setTop (mkF m 43 #[.val (.ref a1), .val (.ref a2)] [(.ref a2), (.int (o1.getD 2 (0 : Int32)))]))
        refine OGo.to (fun _ k => XS.iconst X0.here hx rfl (hb hby d7_43) k) ?_
        show OGo p e below _ (s₁.setTop (mkF m 44 #[.val (.ref a1), .val (.ref a2)] [(.int (2 : Int32)), (.ref a2), (.int (o1.getD 2 (0 : Int32)))]))
        have Vq_68 := V2
        obtain ⟨cl_68, Ar_68, q_68, S_68, M_68, Hs_68, G_68⟩ := Vq_68
        have hin_69 : ¬ ((2 : Int32) < 0 ∨ cl_68.slots.size ≤ ((2 : Int32)).toNatClampNeg) := inb_of S_68 ⟨by decide, hc36__65⟩
        have hat_69 : cl_68.slots[((2 : Int32)).toNatClampNeg]? = some (.int (o2.getD 2 (0 : Int32))) := Hs_68.at hin_69 (own_getD o2 2)
        refine OGo.to (fun _ k => X0.iaload hx (j := (2 : Int32)) (v := (.int (o2.getD 2 (0 : Int32)))) (by rw [e0]; exact Ar_68.1) (State.isArrayOf_alike hZ.alike Ar_68.2.1) Ar_68.2.2 hin_69 hat_69 (g := (mkF m 44 #[.val (.ref a1), .val (.ref a2)] [(.int (2 : Int32)), (.ref a2), (.int (o1.getD 2 (0 : Int32)))])) rfl rfl (hb hby d7_44) _ k) ?_
        show OGo p e below _ (s₁.setTop (mkF m 45 #[.val (.ref a1), .val (.ref a2)] [(.int (o2.getD 2 (0 : Int32))), (.int (o1.getD 2 (0 : Int32)))]))
        have hc45__70 : (o1.getD 2 (0 : Int32)) = (o2.getD 2 (0 : Int32)) := by rw [heq]
        refine OGo.to (fun _ k => XS.icmpYes X0.here hx rfl (pc0 := 45) (pc' := 50) rfl (hb hby d7_45) rfl (teq hc45__70).1 (by decide) (by decide) k) ?_
        show OGo p e below _ (s₁.setTop (mkF m 50 #[.val (.ref a1), .val (.ref a2)] []))
        refine OGo.to (fun _ k => XS.aloadN X0.here hx rfl (hb hby d7_50) rfl rfl k) ?_
        show OGo p e below _ (s₁.setTop (mkF m 51 #[.val (.ref a1), .val (.ref a2)] [(.ref a1)]))
        have Vq_71 := V1
        obtain ⟨cl_71, Ar_71, q_71, S_71, M_71, Hs_71, G_71⟩ := Vq_71
        refine OGo.to (fun _ k => X0.arraylength hx (by rw [e0]; exact Ar_71.1) (State.isArrayOf_alike hZ.alike Ar_71.2.1) (g := (mkF m 51 #[.val (.ref a1), .val (.ref a2)] [(.ref a1)])) rfl rfl (hb hby d7_51) _ k) ?_
        rw [len_of S_71 M_71]
        show OGo p e below _ (s₁.setTop (mkF m 52 #[.val (.ref a1), .val (.ref a2)] [(.int nn)]))
        refine OGo.to (fun _ k => XS.iconst X0.here hx rfl (hb hby d7_52) k) ?_
        show OGo p e below _ (s₁.setTop (mkF m 53 #[.val (.ref a1), .val (.ref a2)] [(.int (3 : Int32)), (.int nn)]))
        by_cases hc53__72 : (3 : Int32) < nn
        ·  -- pc 53: yes
          refine OGo.to (fun _ k => XS.icmpNo X0.here hx rfl (hb hby d7_53) rfl (tlt hc53__72).2.2.2 k) ?_
          show OGo p e below _ (s₁.setTop (mkF m 56 #[.val (.ref a1), .val (.ref a2)] []))
          refine OGo.to (fun _ k => XS.aloadN X0.here hx rfl (hb hby d7_56) rfl rfl k) ?_
          show OGo p e below _ (s₁.setTop (mkF m 57 #[.val (.ref a1), .val (.ref a2)] [(.ref a1)]))
          refine OGo.to (fun _ k => XS.iconst X0.here hx rfl (hb hby d7_57) k) ?_
          show OGo p e below _ (s₁.setTop (mkF m 58 #[.val (.ref a1), .val (.ref a2)] [(.int (3 : Int32)), (.ref a1)]))
          have Vq_73 := V1
          obtain ⟨cl_73, Ar_73, q_73, S_73, M_73, Hs_73, G_73⟩ := Vq_73
          have hin_74 : ¬ ((3 : Int32) < 0 ∨ cl_73.slots.size ≤ ((3 : Int32)).toNatClampNeg) := inb_of S_73 ⟨by decide, hc53__72⟩
          have hat_74 : cl_73.slots[((3 : Int32)).toNatClampNeg]? = some (.int (o1.getD 3 (0 : Int32))) := Hs_73.at hin_74 (own_getD o1 3)
          refine OGo.to (fun _ k => X0.iaload hx (j := (3 : Int32)) (v := (.int (o1.getD 3 (0 : Int32)))) (by rw [e0]; exact Ar_73.1) (State.isArrayOf_alike hZ.alike Ar_73.2.1) Ar_73.2.2 hin_74 hat_74 (g := (mkF m 58 #[.val (.ref a1), .val (.ref a2)] [(.int (3 : Int32)), (.ref a1)])) rfl rfl (hb hby d7_58) _ k) ?_
          show OGo p e below _ (s₁.setTop (mkF m 59 #[.val (.ref a1), .val (.ref a2)] [(.int (o1.getD 3 (0 : Int32)))]))
          refine OGo.to (fun _ k => XS.aloadN X0.here hx rfl (hb hby d7_59) rfl rfl k) ?_
          show OGo p e below _ (s₁.setTop (mkF m 60 #[.val (.ref a1), .val (.ref a2)] [(.ref a2), (.int (o1.getD 3 (0 : Int32)))]))
          refine OGo.to (fun _ k => XS.iconst X0.here hx rfl (hb hby d7_60) k) ?_
          show OGo p e below _ (s₁.setTop (mkF m 61 #[.val (.ref a1), .val (.ref a2)] [(.int (3 : Int32)), (.ref a2), (.int (o1.getD 3 (0 : Int32)))]))
          have Vq_75 := V2
          obtain ⟨cl_75, Ar_75, q_75, S_75, M_75, Hs_75, G_75⟩ := Vq_75
          have hin_76 : ¬ ((3 : Int32) < 0 ∨ cl_75.slots.size ≤ ((3 : Int32)).toNatClampNeg) := inb_of S_75 ⟨by decide, hc53__72⟩
          have hat_76 : cl_75.slots[((3 : Int32)).toNatClampNeg]? = some (.int (o2.getD 3 (0 : Int32))) := Hs_75.at hin_76 (own_getD o2 3)
          refine OGo.to (fun _ k => X0.iaload hx (j := (3 : Int32)) (v := (.int (o2.getD 3 (0 : Int32)))) (by rw [e0]; exact Ar_75.1) (State.isArrayOf_alike hZ.alike Ar_75.2.1) Ar_75.2.2 hin_76 hat_76 (g := (mkF m 61 #[.val (.ref a1), .val (.ref a2)] [(.int (3 : Int32)), (.ref a2), (.int (o1.getD 3 (0 : Int32)))])) rfl rfl (hb hby d7_61) _ k) ?_
          show OGo p e below _ (s₁.setTop (mkF m 62 #[.val (.ref a1), .val (.ref a2)] [(.int (o2.getD 3 (0 : Int32))), (.int (o1.getD 3 (0 : Int32)))]))
          have hc62__77 : (o1.getD 3 (0 : Int32)) = (o2.getD 3 (0 : Int32)) := by rw [heq]
          refine OGo.to (fun _ k => XS.icmpYes X0.here hx rfl (pc0 := 62) (pc' := 67) rfl (hb hby d7_62) rfl (teq hc62__77).1 (by decide) (by decide) k) ?_
          show OGo p e below _ (s₁.setTop (mkF m 67 #[.val (.ref a1), .val (.ref a2)] []))
          refine OGo.to (fun _ k => XS.aloadN X0.here hx rfl (hb hby d7_67) rfl rfl k) ?_
          show OGo p e below _ (s₁.setTop (mkF m 68 #[.val (.ref a1), .val (.ref a2)] [(.ref a1)]))
          have Vq_78 := V1
          obtain ⟨cl_78, Ar_78, q_78, S_78, M_78, Hs_78, G_78⟩ := Vq_78
          refine OGo.to (fun _ k => X0.arraylength hx (by rw [e0]; exact Ar_78.1) (State.isArrayOf_alike hZ.alike Ar_78.2.1) (g := (mkF m 68 #[.val (.ref a1), .val (.ref a2)] [(.ref a1)])) rfl rfl (hb hby d7_68) _ k) ?_
          rw [len_of S_78 M_78]
          show OGo p e below _ (s₁.setTop (mkF m 69 #[.val (.ref a1), .val (.ref a2)] [(.int nn)]))
          refine OGo.to (fun _ k => XS.iconst X0.here hx rfl (hb hby d7_69) k) ?_
          show OGo p e below _ (s₁.setTop (mkF m 70 #[.val (.ref a1), .val (.ref a2)] [(.int (4 : Int32)), (.int nn)]))
          by_cases hc70__79 : (4 : Int32) < nn
          ·  -- pc 70: yes
            refine OGo.to (fun _ k => XS.icmpNo X0.here hx rfl (hb hby d7_70) rfl (tlt hc70__79).2.2.2 k) ?_
            show OGo p e below _ (s₁.setTop (mkF m 73 #[.val (.ref a1), .val (.ref a2)] []))
            refine OGo.to (fun _ k => XS.aloadN X0.here hx rfl (hb hby d7_73) rfl rfl k) ?_
            show OGo p e below _ (s₁.setTop (mkF m 74 #[.val (.ref a1), .val (.ref a2)] [(.ref a1)]))
            refine OGo.to (fun _ k => XS.iconst X0.here hx rfl (hb hby d7_74) k) ?_
            show OGo p e below _ (s₁.setTop (mkF m 75 #[.val (.ref a1), .val (.ref a2)] [(.int (4 : Int32)), (.ref a1)]))
            have Vq_80 := V1
            obtain ⟨cl_80, Ar_80, q_80, S_80, M_80, Hs_80, G_80⟩ := Vq_80
            have hin_81 : ¬ ((4 : Int32) < 0 ∨ cl_80.slots.size ≤ ((4 : Int32)).toNatClampNeg) := inb_of S_80 ⟨by decide, hc70__79⟩
            have hat_81 : cl_80.slots[((4 : Int32)).toNatClampNeg]? = some (.int (o1.getD 4 (0 : Int32))) := Hs_80.at hin_81 (own_getD o1 4)
            refine OGo.to (fun _ k => X0.iaload hx (j := (4 : Int32)) (v := (.int (o1.getD 4 (0 : Int32)))) (by rw [e0]; exact Ar_80.1) (State.isArrayOf_alike hZ.alike Ar_80.2.1) Ar_80.2.2 hin_81 hat_81 (g := (mkF m 75 #[.val (.ref a1), .val (.ref a2)] [(.int (4 : Int32)), (.ref a1)])) rfl rfl (hb hby d7_75) _ k) ?_
            show OGo p e below _ (s₁.setTop (mkF m 76 #[.val (.ref a1), .val (.ref a2)] [(.int (o1.getD 4 (0 : Int32)))]))
            refine OGo.to (fun _ k => XS.aloadN X0.here hx rfl (hb hby d7_76) rfl rfl k) ?_
            show OGo p e below _ (s₁.setTop (mkF m 77 #[.val (.ref a1), .val (.ref a2)] [(.ref a2), (.int (o1.getD 4 (0 : Int32)))]))
            refine OGo.to (fun _ k => XS.iconst X0.here hx rfl (hb hby d7_77) k) ?_
            show OGo p e below _ (s₁.setTop (mkF m 78 #[.val (.ref a1), .val (.ref a2)] [(.int (4 : Int32)), (.ref a2), (.int (o1.getD 4 (0 : Int32)))]))
            have Vq_82 := V2
            obtain ⟨cl_82, Ar_82, q_82, S_82, M_82, Hs_82, G_82⟩ := Vq_82
            have hin_83 : ¬ ((4 : Int32) < 0 ∨ cl_82.slots.size ≤ ((4 : Int32)).toNatClampNeg) := inb_of S_82 ⟨by decide, hc70__79⟩
            have hat_83 : cl_82.slots[((4 : Int32)).toNatClampNeg]? = some (.int (o2.getD 4 (0 : Int32))) := Hs_82.at hin_83 (own_getD o2 4)
            refine OGo.to (fun _ k => X0.iaload hx (j := (4 : Int32)) (v := (.int (o2.getD 4 (0 : Int32)))) (by rw [e0]; exact Ar_82.1) (State.isArrayOf_alike hZ.alike Ar_82.2.1) Ar_82.2.2 hin_83 hat_83 (g := (mkF m 78 #[.val (.ref a1), .val (.ref a2)] [(.int (4 : Int32)), (.ref a2), (.int (o1.getD 4 (0 : Int32)))])) rfl rfl (hb hby d7_78) _ k) ?_
            show OGo p e below _ (s₁.setTop (mkF m 79 #[.val (.ref a1), .val (.ref a2)] [(.int (o2.getD 4 (0 : Int32))), (.int (o1.getD 4 (0 : Int32)))]))
            have hc79__84 : (o1.getD 4 (0 : Int32)) = (o2.getD 4 (0 : Int32)) := by rw [heq]
            refine OGo.to (fun _ k => XS.icmpYes X0.here hx rfl (pc0 := 79) (pc' := 84) rfl (hb hby d7_79) rfl (teq hc79__84).1 (by decide) (by decide) k) ?_
            show OGo p e below _ (s₁.setTop (mkF m 84 #[.val (.ref a1), .val (.ref a2)] []))
            refine OGo.to (fun _ k => XS.iconst X0.here hx rfl (hb hby d7_84) k) ?_
            show OGo p e below _ (s₁.setTop (mkF m 85 #[.val (.ref a1), .val (.ref a2)] [(.int (1 : Int32))]))
            refine OGo.ret (Q := Q7 Z a1 a2 k1 k2 nn o1 o2 h0 n0) X0 (some (.int (1 : Int32))) (fun h => by rw [Bd.returns] at h; cases h) Bd.notSynchronized (fun fs hr => retN X0 hx (t := .boolean) (z := (1 : Int32)) Bd.returns (by simp) (hb hby d7_85) hr) ?_ (by decide) (by decide)
            show Q7 Z a1 a2 k1 k2 nn o1 o2 h0 n0 _ s₁.heap _
            rw [e0]
            exact ⟨rfl, N0, rfl⟩
          ·  -- pc 70: no
            refine OGo.to (fun _ k => XS.icmpYes X0.here hx rfl (pc0 := 70) (pc' := 84) rfl (hb hby d7_70) rfl (flt hc70__79).2.2.2 (by decide) (by decide) k) ?_
            show OGo p e below _ (s₁.setTop (mkF m 84 #[.val (.ref a1), .val (.ref a2)] []))
            refine OGo.to (fun _ k => XS.iconst X0.here hx rfl (hb hby d7_84) k) ?_
            show OGo p e below _ (s₁.setTop (mkF m 85 #[.val (.ref a1), .val (.ref a2)] [(.int (1 : Int32))]))
            refine OGo.ret (Q := Q7 Z a1 a2 k1 k2 nn o1 o2 h0 n0) X0 (some (.int (1 : Int32))) (fun h => by rw [Bd.returns] at h; cases h) Bd.notSynchronized (fun fs hr => retN X0 hx (t := .boolean) (z := (1 : Int32)) Bd.returns (by simp) (hb hby d7_85) hr) ?_ (by decide) (by decide)
            show Q7 Z a1 a2 k1 k2 nn o1 o2 h0 n0 _ s₁.heap _
            rw [e0]
            exact ⟨rfl, N0, rfl⟩
        ·  -- pc 53: no
          refine OGo.to (fun _ k => XS.icmpYes X0.here hx rfl (pc0 := 53) (pc' := 67) rfl (hb hby d7_53) rfl (flt hc53__72).2.2.2 (by decide) (by decide) k) ?_
          show OGo p e below _ (s₁.setTop (mkF m 67 #[.val (.ref a1), .val (.ref a2)] []))
          refine OGo.to (fun _ k => XS.aloadN X0.here hx rfl (hb hby d7_67) rfl rfl k) ?_
          show OGo p e below _ (s₁.setTop (mkF m 68 #[.val (.ref a1), .val (.ref a2)] [(.ref a1)]))
          have Vq_85 := V1
          obtain ⟨cl_85, Ar_85, q_85, S_85, M_85, Hs_85, G_85⟩ := Vq_85
          refine OGo.to (fun _ k => X0.arraylength hx (by rw [e0]; exact Ar_85.1) (State.isArrayOf_alike hZ.alike Ar_85.2.1) (g := (mkF m 68 #[.val (.ref a1), .val (.ref a2)] [(.ref a1)])) rfl rfl (hb hby d7_68) _ k) ?_
          rw [len_of S_85 M_85]
          show OGo p e below _ (s₁.setTop (mkF m 69 #[.val (.ref a1), .val (.ref a2)] [(.int nn)]))
          refine OGo.to (fun _ k => XS.iconst X0.here hx rfl (hb hby d7_69) k) ?_
          show OGo p e below _ (s₁.setTop (mkF m 70 #[.val (.ref a1), .val (.ref a2)] [(.int (4 : Int32)), (.int nn)]))
          by_cases hc70__86 : (4 : Int32) < nn
          ·  -- pc 70: yes
            refine OGo.to (fun _ k => XS.icmpNo X0.here hx rfl (hb hby d7_70) rfl (tlt hc70__86).2.2.2 k) ?_
            show OGo p e below _ (s₁.setTop (mkF m 73 #[.val (.ref a1), .val (.ref a2)] []))
            refine OGo.to (fun _ k => XS.aloadN X0.here hx rfl (hb hby d7_73) rfl rfl k) ?_
            show OGo p e below _ (s₁.setTop (mkF m 74 #[.val (.ref a1), .val (.ref a2)] [(.ref a1)]))
            refine OGo.to (fun _ k => XS.iconst X0.here hx rfl (hb hby d7_74) k) ?_
            show OGo p e below _ (s₁.setTop (mkF m 75 #[.val (.ref a1), .val (.ref a2)] [(.int (4 : Int32)), (.ref a1)]))
            have Vq_87 := V1
            obtain ⟨cl_87, Ar_87, q_87, S_87, M_87, Hs_87, G_87⟩ := Vq_87
            have hin_88 : ¬ ((4 : Int32) < 0 ∨ cl_87.slots.size ≤ ((4 : Int32)).toNatClampNeg) := inb_of S_87 ⟨by decide, hc70__86⟩
            have hat_88 : cl_87.slots[((4 : Int32)).toNatClampNeg]? = some (.int (o1.getD 4 (0 : Int32))) := Hs_87.at hin_88 (own_getD o1 4)
            refine OGo.to (fun _ k => X0.iaload hx (j := (4 : Int32)) (v := (.int (o1.getD 4 (0 : Int32)))) (by rw [e0]; exact Ar_87.1) (State.isArrayOf_alike hZ.alike Ar_87.2.1) Ar_87.2.2 hin_88 hat_88 (g := (mkF m 75 #[.val (.ref a1), .val (.ref a2)] [(.int (4 : Int32)), (.ref a1)])) rfl rfl (hb hby d7_75) _ k) ?_
            show OGo p e below _ (s₁.setTop (mkF m 76 #[.val (.ref a1), .val (.ref a2)] [(.int (o1.getD 4 (0 : Int32)))]))
            refine OGo.to (fun _ k => XS.aloadN X0.here hx rfl (hb hby d7_76) rfl rfl k) ?_
            show OGo p e below _ (s₁.setTop (mkF m 77 #[.val (.ref a1), .val (.ref a2)] [(.ref a2), (.int (o1.getD 4 (0 : Int32)))]))
            refine OGo.to (fun _ k => XS.iconst X0.here hx rfl (hb hby d7_77) k) ?_
            show OGo p e below _ (s₁.setTop (mkF m 78 #[.val (.ref a1), .val (.ref a2)] [(.int (4 : Int32)), (.ref a2), (.int (o1.getD 4 (0 : Int32)))]))
            have Vq_89 := V2
            obtain ⟨cl_89, Ar_89, q_89, S_89, M_89, Hs_89, G_89⟩ := Vq_89
            have hin_90 : ¬ ((4 : Int32) < 0 ∨ cl_89.slots.size ≤ ((4 : Int32)).toNatClampNeg) := inb_of S_89 ⟨by decide, hc70__86⟩
            have hat_90 : cl_89.slots[((4 : Int32)).toNatClampNeg]? = some (.int (o2.getD 4 (0 : Int32))) := Hs_89.at hin_90 (own_getD o2 4)
            refine OGo.to (fun _ k => X0.iaload hx (j := (4 : Int32)) (v := (.int (o2.getD 4 (0 : Int32)))) (by rw [e0]; exact Ar_89.1) (State.isArrayOf_alike hZ.alike Ar_89.2.1) Ar_89.2.2 hin_90 hat_90 (g := (mkF m 78 #[.val (.ref a1), .val (.ref a2)] [(.int (4 : Int32)), (.ref a2), (.int (o1.getD 4 (0 : Int32)))])) rfl rfl (hb hby d7_78) _ k) ?_
            show OGo p e below _ (s₁.setTop (mkF m 79 #[.val (.ref a1), .val (.ref a2)] [(.int (o2.getD 4 (0 : Int32))), (.int (o1.getD 4 (0 : Int32)))]))
            have hc79__91 : (o1.getD 4 (0 : Int32)) = (o2.getD 4 (0 : Int32)) := by rw [heq]
            refine OGo.to (fun _ k => XS.icmpYes X0.here hx rfl (pc0 := 79) (pc' := 84) rfl (hb hby d7_79) rfl (teq hc79__91).1 (by decide) (by decide) k) ?_
            show OGo p e below _ (s₁.setTop (mkF m 84 #[.val (.ref a1), .val (.ref a2)] []))
            refine OGo.to (fun _ k => XS.iconst X0.here hx rfl (hb hby d7_84) k) ?_
            show OGo p e below _ (s₁.setTop (mkF m 85 #[.val (.ref a1), .val (.ref a2)] [(.int (1 : Int32))]))
            refine OGo.ret (Q := Q7 Z a1 a2 k1 k2 nn o1 o2 h0 n0) X0 (some (.int (1 : Int32))) (fun h => by rw [Bd.returns] at h; cases h) Bd.notSynchronized (fun fs hr => retN X0 hx (t := .boolean) (z := (1 : Int32)) Bd.returns (by simp) (hb hby d7_85) hr) ?_ (by decide) (by decide)
            show Q7 Z a1 a2 k1 k2 nn o1 o2 h0 n0 _ s₁.heap _
            rw [e0]
            exact ⟨rfl, N0, rfl⟩
          ·  -- pc 70: no
            refine OGo.to (fun _ k => XS.icmpYes X0.here hx rfl (pc0 := 70) (pc' := 84) rfl (hb hby d7_70) rfl (flt hc70__86).2.2.2 (by decide) (by decide) k) ?_
            show OGo p e below _ (s₁.setTop (mkF m 84 #[.val (.ref a1), .val (.ref a2)] []))
            refine OGo.to (fun _ k => XS.iconst X0.here hx rfl (hb hby d7_84) k) ?_
            show OGo p e below _ (s₁.setTop (mkF m 85 #[.val (.ref a1), .val (.ref a2)] [(.int (1 : Int32))]))
            refine OGo.ret (Q := Q7 Z a1 a2 k1 k2 nn o1 o2 h0 n0) X0 (some (.int (1 : Int32))) (fun h => by rw [Bd.returns] at h; cases h) Bd.notSynchronized (fun fs hr => retN X0 hx (t := .boolean) (z := (1 : Int32)) Bd.returns (by simp) (hb hby d7_85) hr) ?_ (by decide) (by decide)
            show Q7 Z a1 a2 k1 k2 nn o1 o2 h0 n0 _ s₁.heap _
            rw [e0]
            exact ⟨rfl, N0, rfl⟩
      ·  -- pc 36: no
        refine OGo.to (fun _ k => XS.icmpYes X0.here hx rfl (pc0 := 36) (pc' := 50) rfl (hb hby d7_36) rfl (flt hc36__65).2.2.2 (by decide) (by decide) k) ?_
        show OGo p e below _ (s₁.setTop (mkF m 50 #[.val (.ref a1), .val (.ref a2)] []))
        refine OGo.to (fun _ k => XS.aloadN X0.here hx rfl (hb hby d7_50) rfl rfl k) ?_
        show OGo p e below _ (s₁.setTop (mkF m 51 #[.val (.ref a1), .val (.ref a2)] [(.ref a1)]))
        have Vq_92 := V1
        obtain ⟨cl_92, Ar_92, q_92, S_92, M_92, Hs_92, G_92⟩ := Vq_92
        refine OGo.to (fun _ k => X0.arraylength hx (by rw [e0]; exact Ar_92.1) (State.isArrayOf_alike hZ.alike Ar_92.2.1) (g := (mkF m 51 #[.val (.ref a1), .val (.ref a2)] [(.ref a1)])) rfl rfl (hb hby d7_51) _ k) ?_
        rw [len_of S_92 M_92]
        show OGo p e below _ (s₁.setTop (mkF m 52 #[.val (.ref a1), .val (.ref a2)] [(.int nn)]))
        refine OGo.to (fun _ k => XS.iconst X0.here hx rfl (hb hby d7_52) k) ?_
        show OGo p e below _ (s₁.setTop (mkF m 53 #[.val (.ref a1), .val (.ref a2)] [(.int (3 : Int32)), (.int nn)]))
        by_cases hc53__93 : (3 : Int32) < nn
        ·  -- pc 53: yes
          refine OGo.to (fun _ k => XS.icmpNo X0.here hx rfl (hb hby d7_53) rfl (tlt hc53__93).2.2.2 k) ?_
          show OGo p e below _ (s₁.setTop (mkF m 56 #[.val (.ref a1), .val (.ref a2)] []))
          refine OGo.to (fun _ k => XS.aloadN X0.here hx rfl (hb hby d7_56) rfl rfl k) ?_
          show OGo p e below _ (s₁.setTop (mkF m 57 #[.val (.ref a1), .val (.ref a2)] [(.ref a1)]))
          refine OGo.to (fun _ k => XS.iconst X0.here hx rfl (hb hby d7_57) k) ?_
          show OGo p e below _ (s₁.setTop (mkF m 58 #[.val (.ref a1), .val (.ref a2)] [(.int (3 : Int32)), (.ref a1)]))
          have Vq_94 := V1
          obtain ⟨cl_94, Ar_94, q_94, S_94, M_94, Hs_94, G_94⟩ := Vq_94
          have hin_95 : ¬ ((3 : Int32) < 0 ∨ cl_94.slots.size ≤ ((3 : Int32)).toNatClampNeg) := inb_of S_94 ⟨by decide, hc53__93⟩
          have hat_95 : cl_94.slots[((3 : Int32)).toNatClampNeg]? = some (.int (o1.getD 3 (0 : Int32))) := Hs_94.at hin_95 (own_getD o1 3)
          refine OGo.to (fun _ k => X0.iaload hx (j := (3 : Int32)) (v := (.int (o1.getD 3 (0 : Int32)))) (by rw [e0]; exact Ar_94.1) (State.isArrayOf_alike hZ.alike Ar_94.2.1) Ar_94.2.2 hin_95 hat_95 (g := (mkF m 58 #[.val (.ref a1), .val (.ref a2)] [(.int (3 : Int32)), (.ref a1)])) rfl rfl (hb hby d7_58) _ k) ?_
          show OGo p e below _ (s₁.setTop (mkF m 59 #[.val (.ref a1), .val (.ref a2)] [(.int (o1.getD 3 (0 : Int32)))]))
          refine OGo.to (fun _ k => XS.aloadN X0.here hx rfl (hb hby d7_59) rfl rfl k) ?_
          show OGo p e below _ (s₁.setTop (mkF m 60 #[.val (.ref a1), .val (.ref a2)] [(.ref a2), (.int (o1.getD 3 (0 : Int32)))]))
          refine OGo.to (fun _ k => XS.iconst X0.here hx rfl (hb hby d7_60) k) ?_
          show OGo p e below _ (s₁.setTop (mkF m 61 #[.val (.ref a1), .val (.ref a2)] [(.int (3 : Int32)), (.ref a2), (.int (o1.getD 3 (0 : Int32)))]))
          have Vq_96 := V2
          obtain ⟨cl_96, Ar_96, q_96, S_96, M_96, Hs_96, G_96⟩ := Vq_96
          have hin_97 : ¬ ((3 : Int32) < 0 ∨ cl_96.slots.size ≤ ((3 : Int32)).toNatClampNeg) := inb_of S_96 ⟨by decide, hc53__93⟩
          have hat_97 : cl_96.slots[((3 : Int32)).toNatClampNeg]? = some (.int (o2.getD 3 (0 : Int32))) := Hs_96.at hin_97 (own_getD o2 3)
          refine OGo.to (fun _ k => X0.iaload hx (j := (3 : Int32)) (v := (.int (o2.getD 3 (0 : Int32)))) (by rw [e0]; exact Ar_96.1) (State.isArrayOf_alike hZ.alike Ar_96.2.1) Ar_96.2.2 hin_97 hat_97 (g := (mkF m 61 #[.val (.ref a1), .val (.ref a2)] [(.int (3 : Int32)), (.ref a2), (.int (o1.getD 3 (0 : Int32)))])) rfl rfl (hb hby d7_61) _ k) ?_
          show OGo p e below _ (s₁.setTop (mkF m 62 #[.val (.ref a1), .val (.ref a2)] [(.int (o2.getD 3 (0 : Int32))), (.int (o1.getD 3 (0 : Int32)))]))
          have hc62__98 : (o1.getD 3 (0 : Int32)) = (o2.getD 3 (0 : Int32)) := by rw [heq]
          refine OGo.to (fun _ k => XS.icmpYes X0.here hx rfl (pc0 := 62) (pc' := 67) rfl (hb hby d7_62) rfl (teq hc62__98).1 (by decide) (by decide) k) ?_
          show OGo p e below _ (s₁.setTop (mkF m 67 #[.val (.ref a1), .val (.ref a2)] []))
          refine OGo.to (fun _ k => XS.aloadN X0.here hx rfl (hb hby d7_67) rfl rfl k) ?_
          show OGo p e below _ (s₁.setTop (mkF m 68 #[.val (.ref a1), .val (.ref a2)] [(.ref a1)]))
          have Vq_99 := V1
          obtain ⟨cl_99, Ar_99, q_99, S_99, M_99, Hs_99, G_99⟩ := Vq_99
          refine OGo.to (fun _ k => X0.arraylength hx (by rw [e0]; exact Ar_99.1) (State.isArrayOf_alike hZ.alike Ar_99.2.1) (g := (mkF m 68 #[.val (.ref a1), .val (.ref a2)] [(.ref a1)])) rfl rfl (hb hby d7_68) _ k) ?_
          rw [len_of S_99 M_99]
          show OGo p e below _ (s₁.setTop (mkF m 69 #[.val (.ref a1), .val (.ref a2)] [(.int nn)]))
          refine OGo.to (fun _ k => XS.iconst X0.here hx rfl (hb hby d7_69) k) ?_
          show OGo p e below _ (s₁.setTop (mkF m 70 #[.val (.ref a1), .val (.ref a2)] [(.int (4 : Int32)), (.int nn)]))
          by_cases hc70__100 : (4 : Int32) < nn
          ·  -- pc 70: yes
            refine OGo.to (fun _ k => XS.icmpNo X0.here hx rfl (hb hby d7_70) rfl (tlt hc70__100).2.2.2 k) ?_
            show OGo p e below _ (s₁.setTop (mkF m 73 #[.val (.ref a1), .val (.ref a2)] []))
            refine OGo.to (fun _ k => XS.aloadN X0.here hx rfl (hb hby d7_73) rfl rfl k) ?_
            show OGo p e below _ (s₁.setTop (mkF m 74 #[.val (.ref a1), .val (.ref a2)] [(.ref a1)]))
            refine OGo.to (fun _ k => XS.iconst X0.here hx rfl (hb hby d7_74) k) ?_
            show OGo p e below _ (s₁.setTop (mkF m 75 #[.val (.ref a1), .val (.ref a2)] [(.int (4 : Int32)), (.ref a1)]))
            have Vq_101 := V1
            obtain ⟨cl_101, Ar_101, q_101, S_101, M_101, Hs_101, G_101⟩ := Vq_101
            have hin_102 : ¬ ((4 : Int32) < 0 ∨ cl_101.slots.size ≤ ((4 : Int32)).toNatClampNeg) := inb_of S_101 ⟨by decide, hc70__100⟩
            have hat_102 : cl_101.slots[((4 : Int32)).toNatClampNeg]? = some (.int (o1.getD 4 (0 : Int32))) := Hs_101.at hin_102 (own_getD o1 4)
            refine OGo.to (fun _ k => X0.iaload hx (j := (4 : Int32)) (v := (.int (o1.getD 4 (0 : Int32)))) (by rw [e0]; exact Ar_101.1) (State.isArrayOf_alike hZ.alike Ar_101.2.1) Ar_101.2.2 hin_102 hat_102 (g := (mkF m 75 #[.val (.ref a1), .val (.ref a2)] [(.int (4 : Int32)), (.ref a1)])) rfl rfl (hb hby d7_75) _ k) ?_
            show OGo p e below _ (s₁.setTop (mkF m 76 #[.val (.ref a1), .val (.ref a2)] [(.int (o1.getD 4 (0 : Int32)))]))
            refine OGo.to (fun _ k => XS.aloadN X0.here hx rfl (hb hby d7_76) rfl rfl k) ?_
            show OGo p e below _ (s₁.setTop (mkF m 77 #[.val (.ref a1), .val (.ref a2)] [(.ref a2), (.int (o1.getD 4 (0 : Int32)))]))
            refine OGo.to (fun _ k => XS.iconst X0.here hx rfl (hb hby d7_77) k) ?_
            show OGo p e below _ (s₁.setTop (mkF m 78 #[.val (.ref a1), .val (.ref a2)] [(.int (4 : Int32)), (.ref a2), (.int (o1.getD 4 (0 : Int32)))]))
            have Vq_103 := V2
            obtain ⟨cl_103, Ar_103, q_103, S_103, M_103, Hs_103, G_103⟩ := Vq_103
            have hin_104 : ¬ ((4 : Int32) < 0 ∨ cl_103.slots.size ≤ ((4 : Int32)).toNatClampNeg) := inb_of S_103 ⟨by decide, hc70__100⟩
            have hat_104 : cl_103.slots[((4 : Int32)).toNatClampNeg]? = some (.int (o2.getD 4 (0 : Int32))) := Hs_103.at hin_104 (own_getD o2 4)
            refine OGo.to (fun _ k => X0.iaload hx (j := (4 : Int32)) (v := (.int (o2.getD 4 (0 : Int32)))) (by rw [e0]; exact Ar_103.1) (State.isArrayOf_alike hZ.alike Ar_103.2.1) Ar_103.2.2 hin_104 hat_104 (g := (mkF m 78 #[.val (.ref a1), .val (.ref a2)] [(.int (4 : Int32)), (.ref a2), (.int (o1.getD 4 (0 : Int32)))])) rfl rfl (hb hby d7_78) _ k) ?_
            show OGo p e below _ (s₁.setTop (mkF m 79 #[.val (.ref a1), .val (.ref a2)] [(.int (o2.getD 4 (0 : Int32))), (.int (o1.getD 4 (0 : Int32)))]))
            have hc79__105 : (o1.getD 4 (0 : Int32)) = (o2.getD 4 (0 : Int32)) := by rw [heq]
            refine OGo.to (fun _ k => XS.icmpYes X0.here hx rfl (pc0 := 79) (pc' := 84) rfl (hb hby d7_79) rfl (teq hc79__105).1 (by decide) (by decide) k) ?_
            show OGo p e below _ (s₁.setTop (mkF m 84 #[.val (.ref a1), .val (.ref a2)] []))
            refine OGo.to (fun _ k => XS.iconst X0.here hx rfl (hb hby d7_84) k) ?_
            show OGo p e below _ (s₁.setTop (mkF m 85 #[.val (.ref a1), .val (.ref a2)] [(.int (1 : Int32))]))
            refine OGo.ret (Q := Q7 Z a1 a2 k1 k2 nn o1 o2 h0 n0) X0 (some (.int (1 : Int32))) (fun h => by rw [Bd.returns] at h; cases h) Bd.notSynchronized (fun fs hr => retN X0 hx (t := .boolean) (z := (1 : Int32)) Bd.returns (by simp) (hb hby d7_85) hr) ?_ (by decide) (by decide)
            show Q7 Z a1 a2 k1 k2 nn o1 o2 h0 n0 _ s₁.heap _
            rw [e0]
            exact ⟨rfl, N0, rfl⟩
          ·  -- pc 70: no
            refine OGo.to (fun _ k => XS.icmpYes X0.here hx rfl (pc0 := 70) (pc' := 84) rfl (hb hby d7_70) rfl (flt hc70__100).2.2.2 (by decide) (by decide) k) ?_
            show OGo p e below _ (s₁.setTop (mkF m 84 #[.val (.ref a1), .val (.ref a2)] []))
            refine OGo.to (fun _ k => XS.iconst X0.here hx rfl (hb hby d7_84) k) ?_
            show OGo p e below _ (s₁.setTop (mkF m 85 #[.val (.ref a1), .val (.ref a2)] [(.int (1 : Int32))]))
            refine OGo.ret (Q := Q7 Z a1 a2 k1 k2 nn o1 o2 h0 n0) X0 (some (.int (1 : Int32))) (fun h => by rw [Bd.returns] at h; cases h) Bd.notSynchronized (fun fs hr => retN X0 hx (t := .boolean) (z := (1 : Int32)) Bd.returns (by simp) (hb hby d7_85) hr) ?_ (by decide) (by decide)
            show Q7 Z a1 a2 k1 k2 nn o1 o2 h0 n0 _ s₁.heap _
            rw [e0]
            exact ⟨rfl, N0, rfl⟩
        ·  -- pc 53: no
          refine OGo.to (fun _ k => XS.icmpYes X0.here hx rfl (pc0 := 53) (pc' := 67) rfl (hb hby d7_53) rfl (flt hc53__93).2.2.2 (by decide) (by decide) k) ?_
          show OGo p e below _ (s₁.setTop (mkF m 67 #[.val (.ref a1), .val (.ref a2)] []))
          refine OGo.to (fun _ k => XS.aloadN X0.here hx rfl (hb hby d7_67) rfl rfl k) ?_
          show OGo p e below _ (s₁.setTop (mkF m 68 #[.val (.ref a1), .val (.ref a2)] [(.ref a1)]))
          have Vq_106 := V1
          obtain ⟨cl_106, Ar_106, q_106, S_106, M_106, Hs_106, G_106⟩ := Vq_106
          refine OGo.to (fun _ k => X0.arraylength hx (by rw [e0]; exact Ar_106.1) (State.isArrayOf_alike hZ.alike Ar_106.2.1) (g := (mkF m 68 #[.val (.ref a1), .val (.ref a2)] [(.ref a1)])) rfl rfl (hb hby d7_68) _ k) ?_
          rw [len_of S_106 M_106]
          show OGo p e below _ (s₁.setTop (mkF m 69 #[.val (.ref a1), .val (.ref a2)] [(.int nn)]))
          refine OGo.to (fun _ k => XS.iconst X0.here hx rfl (hb hby d7_69) k) ?_
          show OGo p e below _ (s₁.setTop (mkF m 70 #[.val (.ref a1), .val (.ref a2)] [(.int (4 : Int32)), (.int nn)]))
          by_cases hc70__107 : (4 : Int32) < nn
          ·  -- pc 70: yes
            refine OGo.to (fun _ k => XS.icmpNo X0.here hx rfl (hb hby d7_70) rfl (tlt hc70__107).2.2.2 k) ?_
            show OGo p e below _ (s₁.setTop (mkF m 73 #[.val (.ref a1), .val (.ref a2)] []))
            refine OGo.to (fun _ k => XS.aloadN X0.here hx rfl (hb hby d7_73) rfl rfl k) ?_
            show OGo p e below _ (s₁.setTop (mkF m 74 #[.val (.ref a1), .val (.ref a2)] [(.ref a1)]))
            refine OGo.to (fun _ k => XS.iconst X0.here hx rfl (hb hby d7_74) k) ?_
            show OGo p e below _ (s₁.setTop (mkF m 75 #[.val (.ref a1), .val (.ref a2)] [(.int (4 : Int32)), (.ref a1)]))
            have Vq_108 := V1
            obtain ⟨cl_108, Ar_108, q_108, S_108, M_108, Hs_108, G_108⟩ := Vq_108
            have hin_109 : ¬ ((4 : Int32) < 0 ∨ cl_108.slots.size ≤ ((4 : Int32)).toNatClampNeg) := inb_of S_108 ⟨by decide, hc70__107⟩
            have hat_109 : cl_108.slots[((4 : Int32)).toNatClampNeg]? = some (.int (o1.getD 4 (0 : Int32))) := Hs_108.at hin_109 (own_getD o1 4)
            refine OGo.to (fun _ k => X0.iaload hx (j := (4 : Int32)) (v := (.int (o1.getD 4 (0 : Int32)))) (by rw [e0]; exact Ar_108.1) (State.isArrayOf_alike hZ.alike Ar_108.2.1) Ar_108.2.2 hin_109 hat_109 (g := (mkF m 75 #[.val (.ref a1), .val (.ref a2)] [(.int (4 : Int32)), (.ref a1)])) rfl rfl (hb hby d7_75) _ k) ?_
            show OGo p e below _ (s₁.setTop (mkF m 76 #[.val (.ref a1), .val (.ref a2)] [(.int (o1.getD 4 (0 : Int32)))]))
            refine OGo.to (fun _ k => XS.aloadN X0.here hx rfl (hb hby d7_76) rfl rfl k) ?_
            show OGo p e below _ (s₁.setTop (mkF m 77 #[.val (.ref a1), .val (.ref a2)] [(.ref a2), (.int (o1.getD 4 (0 : Int32)))]))
            refine OGo.to (fun _ k => XS.iconst X0.here hx rfl (hb hby d7_77) k) ?_
            show OGo p e below _ (s₁.setTop (mkF m 78 #[.val (.ref a1), .val (.ref a2)] [(.int (4 : Int32)), (.ref a2), (.int (o1.getD 4 (0 : Int32)))]))
            have Vq_110 := V2
            obtain ⟨cl_110, Ar_110, q_110, S_110, M_110, Hs_110, G_110⟩ := Vq_110
            have hin_111 : ¬ ((4 : Int32) < 0 ∨ cl_110.slots.size ≤ ((4 : Int32)).toNatClampNeg) := inb_of S_110 ⟨by decide, hc70__107⟩
            have hat_111 : cl_110.slots[((4 : Int32)).toNatClampNeg]? = some (.int (o2.getD 4 (0 : Int32))) := Hs_110.at hin_111 (own_getD o2 4)
            refine OGo.to (fun _ k => X0.iaload hx (j := (4 : Int32)) (v := (.int (o2.getD 4 (0 : Int32)))) (by rw [e0]; exact Ar_110.1) (State.isArrayOf_alike hZ.alike Ar_110.2.1) Ar_110.2.2 hin_111 hat_111 (g := (mkF m 78 #[.val (.ref a1), .val (.ref a2)] [(.int (4 : Int32)), (.ref a2), (.int (o1.getD 4 (0 : Int32)))])) rfl rfl (hb hby d7_78) _ k) ?_
            show OGo p e below _ (s₁.setTop (mkF m 79 #[.val (.ref a1), .val (.ref a2)] [(.int (o2.getD 4 (0 : Int32))), (.int (o1.getD 4 (0 : Int32)))]))
            have hc79__112 : (o1.getD 4 (0 : Int32)) = (o2.getD 4 (0 : Int32)) := by rw [heq]
            refine OGo.to (fun _ k => XS.icmpYes X0.here hx rfl (pc0 := 79) (pc' := 84) rfl (hb hby d7_79) rfl (teq hc79__112).1 (by decide) (by decide) k) ?_
            show OGo p e below _ (s₁.setTop (mkF m 84 #[.val (.ref a1), .val (.ref a2)] []))
            refine OGo.to (fun _ k => XS.iconst X0.here hx rfl (hb hby d7_84) k) ?_
            show OGo p e below _ (s₁.setTop (mkF m 85 #[.val (.ref a1), .val (.ref a2)] [(.int (1 : Int32))]))
            refine OGo.ret (Q := Q7 Z a1 a2 k1 k2 nn o1 o2 h0 n0) X0 (some (.int (1 : Int32))) (fun h => by rw [Bd.returns] at h; cases h) Bd.notSynchronized (fun fs hr => retN X0 hx (t := .boolean) (z := (1 : Int32)) Bd.returns (by simp) (hb hby d7_85) hr) ?_ (by decide) (by decide)
            show Q7 Z a1 a2 k1 k2 nn o1 o2 h0 n0 _ s₁.heap _
            rw [e0]
            exact ⟨rfl, N0, rfl⟩
          ·  -- pc 70: no
            refine OGo.to (fun _ k => XS.icmpYes X0.here hx rfl (pc0 := 70) (pc' := 84) rfl (hb hby d7_70) rfl (flt hc70__107).2.2.2 (by decide) (by decide) k) ?_
            show OGo p e below _ (s₁.setTop (mkF m 84 #[.val (.ref a1), .val (.ref a2)] []))
            refine OGo.to (fun _ k => XS.iconst X0.here hx rfl (hb hby d7_84) k) ?_
            show OGo p e below _ (s₁.setTop (mkF m 85 #[.val (.ref a1), .val (.ref a2)] [(.int (1 : Int32))]))
            refine OGo.ret (Q := Q7 Z a1 a2 k1 k2 nn o1 o2 h0 n0) X0 (some (.int (1 : Int32))) (fun h => by rw [Bd.returns] at h; cases h) Bd.notSynchronized (fun fs hr => retN X0 hx (t := .boolean) (z := (1 : Int32)) Bd.returns (by simp) (hb hby d7_85) hr) ?_ (by decide) (by decide)
            show Q7 Z a1 a2 k1 k2 nn o1 o2 h0 n0 _ s₁.heap _
            rw [e0]
            exact ⟨rfl, N0, rfl⟩
  ·  -- pc 2: no
    refine OGo.to (fun _ k => XS.ifYes X0.here hx rfl (pc0 := 2) (pc' := 16) rfl (hb hby d7_2) rfl ((if0 _ _).trans (flt hc2__2).2.2.2) (by decide) (by decide) k) ?_
    show OGo p e below _ (s₁.setTop (mkF m 16 #[.val (.ref a1), .val (.ref a2)] []))
    refine OGo.to (fun _ k => XS.aloadN X0.here hx rfl (hb hby d7_16) rfl rfl k) ?_
    show OGo p e below _ (s₁.setTop (mkF m 17 #[.val (.ref a1), .val (.ref a2)] [(.ref a1)]))
    have Vq_113 := V1
    obtain ⟨cl_113, Ar_113, q_113, S_113, M_113, Hs_113, G_113⟩ := Vq_113
    refine OGo.to (fun _ k => X0.arraylength hx (by rw [e0]; exact Ar_113.1) (State.isArrayOf_alike hZ.alike Ar_113.2.1) (g := (mkF m 17 #[.val (.ref a1), .val (.ref a2)] [(.ref a1)])) rfl rfl (hb hby d7_17) _ k) ?_
    rw [len_of S_113 M_113]
    show OGo p e below _ (s₁.setTop (mkF m 18 #[.val (.ref a1), .val (.ref a2)] [(.int nn)]))
    refine OGo.to (fun _ k => XS.iconst X0.here hx rfl (hb hby d7_18) k) ?_
    show OGo p e below _ (s₁.setTop (mkF m 19 #[.val (.ref a1), .val (.ref a2)] [(.int (1 : Int32)), (.int nn)]))
    by_cases hc19__114 : (1 : Int32) < nn
    ·  -- pc 19: yes
      refine OGo.to (fun _ k => XS.icmpNo X0.here hx rfl (hb hby d7_19) rfl (tlt hc19__114).2.2.2 k) ?_
      show OGo p e below _ (s₁.setTop (mkF m 22 #[.val (.ref a1), .val (.ref a2)] []))
      refine OGo.to (fun _ k => XS.aloadN X0.here hx rfl (hb hby d7_22) rfl rfl k) ?_
      show OGo p e below _ (s₁.setTop (mkF m 23 #[.val (.ref a1), .val (.ref a2)] [(.ref a1)]))
      refine OGo.to (fun _ k => XS.iconst X0.here hx rfl (hb hby d7_23) k) ?_
      show OGo p e below _ (s₁.setTop (mkF m 24 #[.val (.ref a1), .val (.ref a2)] [(.int (1 : Int32)), (.ref a1)]))
      have Vq_115 := V1
      obtain ⟨cl_115, Ar_115, q_115, S_115, M_115, Hs_115, G_115⟩ := Vq_115
      have hin_116 : ¬ ((1 : Int32) < 0 ∨ cl_115.slots.size ≤ ((1 : Int32)).toNatClampNeg) := inb_of S_115 ⟨by decide, hc19__114⟩
      have hat_116 : cl_115.slots[((1 : Int32)).toNatClampNeg]? = some (.int (o1.getD 1 (0 : Int32))) := Hs_115.at hin_116 (own_getD o1 1)
      refine OGo.to (fun _ k => X0.iaload hx (j := (1 : Int32)) (v := (.int (o1.getD 1 (0 : Int32)))) (by rw [e0]; exact Ar_115.1) (State.isArrayOf_alike hZ.alike Ar_115.2.1) Ar_115.2.2 hin_116 hat_116 (g := (mkF m 24 #[.val (.ref a1), .val (.ref a2)] [(.int (1 : Int32)), (.ref a1)])) rfl rfl (hb hby d7_24) _ k) ?_
      show OGo p e below _ (s₁.setTop (mkF m 25 #[.val (.ref a1), .val (.ref a2)] [(.int (o1.getD 1 (0 : Int32)))]))
      refine OGo.to (fun _ k => XS.aloadN X0.here hx rfl (hb hby d7_25) rfl rfl k) ?_
      show OGo p e below _ (s₁.setTop (mkF m 26 #[.val (.ref a1), .val (.ref a2)] [(.ref a2), (.int (o1.getD 1 (0 : Int32)))]))
      refine OGo.to (fun _ k => XS.iconst X0.here hx rfl (hb hby d7_26) k) ?_
      show OGo p e below _ (s₁.setTop (mkF m 27 #[.val (.ref a1), .val (.ref a2)] [(.int (1 : Int32)), (.ref a2), (.int (o1.getD 1 (0 : Int32)))]))
      have Vq_117 := V2
      obtain ⟨cl_117, Ar_117, q_117, S_117, M_117, Hs_117, G_117⟩ := Vq_117
      have hin_118 : ¬ ((1 : Int32) < 0 ∨ cl_117.slots.size ≤ ((1 : Int32)).toNatClampNeg) := inb_of S_117 ⟨by decide, hc19__114⟩
      have hat_118 : cl_117.slots[((1 : Int32)).toNatClampNeg]? = some (.int (o2.getD 1 (0 : Int32))) := Hs_117.at hin_118 (own_getD o2 1)
      refine OGo.to (fun _ k => X0.iaload hx (j := (1 : Int32)) (v := (.int (o2.getD 1 (0 : Int32)))) (by rw [e0]; exact Ar_117.1) (State.isArrayOf_alike hZ.alike Ar_117.2.1) Ar_117.2.2 hin_118 hat_118 (g := (mkF m 27 #[.val (.ref a1), .val (.ref a2)] [(.int (1 : Int32)), (.ref a2), (.int (o1.getD 1 (0 : Int32)))])) rfl rfl (hb hby d7_27) _ k) ?_
      show OGo p e below _ (s₁.setTop (mkF m 28 #[.val (.ref a1), .val (.ref a2)] [(.int (o2.getD 1 (0 : Int32))), (.int (o1.getD 1 (0 : Int32)))]))
      have hc28__119 : (o1.getD 1 (0 : Int32)) = (o2.getD 1 (0 : Int32)) := by rw [heq]
      refine OGo.to (fun _ k => XS.icmpYes X0.here hx rfl (pc0 := 28) (pc' := 33) rfl (hb hby d7_28) rfl (teq hc28__119).1 (by decide) (by decide) k) ?_
      show OGo p e below _ (s₁.setTop (mkF m 33 #[.val (.ref a1), .val (.ref a2)] []))
      refine OGo.to (fun _ k => XS.aloadN X0.here hx rfl (hb hby d7_33) rfl rfl k) ?_
      show OGo p e below _ (s₁.setTop (mkF m 34 #[.val (.ref a1), .val (.ref a2)] [(.ref a1)]))
      have Vq_120 := V1
      obtain ⟨cl_120, Ar_120, q_120, S_120, M_120, Hs_120, G_120⟩ := Vq_120
      refine OGo.to (fun _ k => X0.arraylength hx (by rw [e0]; exact Ar_120.1) (State.isArrayOf_alike hZ.alike Ar_120.2.1) (g := (mkF m 34 #[.val (.ref a1), .val (.ref a2)] [(.ref a1)])) rfl rfl (hb hby d7_34) _ k) ?_
      rw [len_of S_120 M_120]
      show OGo p e below _ (s₁.setTop (mkF m 35 #[.val (.ref a1), .val (.ref a2)] [(.int nn)]))
      refine OGo.to (fun _ k => XS.iconst X0.here hx rfl (hb hby d7_35) k) ?_
      show OGo p e below _ (s₁.setTop (mkF m 36 #[.val (.ref a1), .val (.ref a2)] [(.int (2 : Int32)), (.int nn)]))
      by_cases hc36__121 : (2 : Int32) < nn
      ·  -- pc 36: yes
        refine OGo.to (fun _ k => XS.icmpNo X0.here hx rfl (hb hby d7_36) rfl (tlt hc36__121).2.2.2 k) ?_
        show OGo p e below _ (s₁.setTop (mkF m 39 #[.val (.ref a1), .val (.ref a2)] []))
        refine OGo.to (fun _ k => XS.aloadN X0.here hx rfl (hb hby d7_39) rfl rfl k) ?_
        show OGo p e below _ (s₁.setTop (mkF m 40 #[.val (.ref a1), .val (.ref a2)] [(.ref a1)]))
        refine OGo.to (fun _ k => XS.iconst X0.here hx rfl (hb hby d7_40) k) ?_
        show OGo p e below _ (s₁.setTop (mkF m 41 #[.val (.ref a1), .val (.ref a2)] [(.int (2 : Int32)), (.ref a1)]))
        have Vq_122 := V1
        obtain ⟨cl_122, Ar_122, q_122, S_122, M_122, Hs_122, G_122⟩ := Vq_122
        have hin_123 : ¬ ((2 : Int32) < 0 ∨ cl_122.slots.size ≤ ((2 : Int32)).toNatClampNeg) := inb_of S_122 ⟨by decide, hc36__121⟩
        have hat_123 : cl_122.slots[((2 : Int32)).toNatClampNeg]? = some (.int (o1.getD 2 (0 : Int32))) := Hs_122.at hin_123 (own_getD o1 2)
        refine OGo.to (fun _ k => X0.iaload hx (j := (2 : Int32)) (v := (.int (o1.getD 2 (0 : Int32)))) (by rw [e0]; exact Ar_122.1) (State.isArrayOf_alike hZ.alike Ar_122.2.1) Ar_122.2.2 hin_123 hat_123 (g := (mkF m 41 #[.val (.ref a1), .val (.ref a2)] [(.int (2 : Int32)), (.ref a1)])) rfl rfl (hb hby d7_41) _ k) ?_
        show OGo p e below _ (s₁.setTop (mkF m 42 #[.val (.ref a1), .val (.ref a2)] [(.int (o1.getD 2 (0 : Int32)))]))
        refine OGo.to (fun _ k => XS.aloadN X0.here hx rfl (hb hby d7_42) rfl rfl k) ?_
        show OGo p e below _ (s₁.setTop (mkF m 43 #[.val (.ref a1), .val (.ref a2)] [(.ref a2), (.int (o1.getD 2 (0 : Int32)))]))
        refine OGo.to (fun _ k => XS.iconst X0.here hx rfl (hb hby d7_43) k) ?_
        show OGo p e below _ (s₁.setTop (mkF m 44 #[.val (.ref a1), .val (.ref a2)] [(.int (2 : Int32)), (.ref a2), (.int (o1.getD 2 (0 : Int32)))]))
        have Vq_124 := V2
        obtain ⟨cl_124, Ar_124, q_124, S_124, M_124, Hs_124, G_124⟩ := Vq_124
        have hin_125 : ¬ ((2 : Int32) < 0 ∨ cl_124.slots.size ≤ ((2 : Int32)).toNatClampNeg) := inb_of S_124 ⟨by decide, hc36__121⟩
        have hat_125 : cl_124.slots[((2 : Int32)).toNatClampNeg]? = some (.int (o2.getD 2 (0 : Int32))) := Hs_124.at hin_125 (own_getD o2 2)
        refine OGo.to (fun _ k => X0.iaload hx (j := (2 : Int32)) (v := (.int (o2.getD 2 (0 : Int32)))) (by rw [e0]; exact Ar_124.1) (State.isArrayOf_alike hZ.alike Ar_124.2.1) Ar_124.2.2 hin_125 hat_125 (g := (mkF m 44 #[.val (.ref a1), .val (.ref a2)] [(.int (2 : Int32)), (.ref a2), (.int (o1.getD 2 (0 : Int32)))])) rfl rfl (hb hby d7_44) _ k) ?_
        show OGo p e below _ (s₁.setTop (mkF m 45 #[.val (.ref a1), .val (.ref a2)] [(.int (o2.getD 2 (0 : Int32))), (.int (o1.getD 2 (0 : Int32)))]))
        have hc45__126 : (o1.getD 2 (0 : Int32)) = (o2.getD 2 (0 : Int32)) := by rw [heq]
        refine OGo.to (fun _ k => XS.icmpYes X0.here hx rfl (pc0 := 45) (pc' := 50) rfl (hb hby d7_45) rfl (teq hc45__126).1 (by decide) (by decide) k) ?_
        show OGo p e below _ (s₁.setTop (mkF m 50 #[.val (.ref a1), .val (.ref a2)] []))
        refine OGo.to (fun _ k => XS.aloadN X0.here hx rfl (hb hby d7_50) rfl rfl k) ?_
        show OGo p e below _ (s₁.setTop (mkF m 51 #[.val (.ref a1), .val (.ref a2)] [(.ref a1)]))
        have Vq_127 := V1
        obtain ⟨cl_127, Ar_127, q_127, S_127, M_127, Hs_127, G_127⟩ := Vq_127
        refine OGo.to (fun _ k => X0.arraylength hx (by rw [e0]; exact Ar_127.1) (State.isArrayOf_alike hZ.alike Ar_127.2.1) (g := (mkF m 51 #[.val (.ref a1), .val (.ref a2)] [(.ref a1)])) rfl rfl (hb hby d7_51) _ k) ?_
        rw [len_of S_127 M_127]
        show OGo p e below _ (s₁.setTop (mkF m 52 #[.val (.ref a1), .val (.ref a2)] [(.int nn)]))
        refine OGo.to (fun _ k => XS.iconst X0.here hx rfl (hb hby d7_52) k) ?_
        show OGo p e below _ (s₁.setTop (mkF m 53 #[.val (.ref a1), .val (.ref a2)] [(.int (3 : Int32)), (.int nn)]))
        by_cases hc53__128 : (3 : Int32) < nn
        ·  -- pc 53: yes
          refine OGo.to (fun _ k => XS.icmpNo X0.here hx rfl (hb hby d7_53) rfl (tlt hc53__128).2.2.2 k) ?_
          show OGo p e below _ (s₁.setTop (mkF m 56 #[.val (.ref a1), .val (.ref a2)] []))
          refine OGo.to (fun _ k => XS.aloadN X0.here hx rfl (hb hby d7_56) rfl rfl k) ?_
          show OGo p e below _ (s₁.setTop (mkF m 57 #[.val (.ref a1), .val (.ref a2)] [(.ref a1)]))
          refine OGo.to (fun _ k => XS.iconst X0.here hx rfl (hb hby d7_57) k) ?_
          show OGo p e below _ (s₁.setTop (mkF m 58 #[.val (.ref a1), .val (.ref a2)] [(.int (3 : Int32)), (.ref a1)]))
          have Vq_129 := V1
          obtain ⟨cl_129, Ar_129, q_129, S_129, M_129, Hs_129, G_129⟩ := Vq_129
          have hin_130 : ¬ ((3 : Int32) < 0 ∨ cl_129.slots.size ≤ ((3 : Int32)).toNatClampNeg) := inb_of S_129 ⟨by decide, hc53__128⟩
          have hat_130 : cl_129.slots[((3 : Int32)).toNatClampNeg]? = some (.int (o1.getD 3 (0 : Int32))) := Hs_129.at hin_130 (own_getD o1 3)
          refine OGo.to (fun _ k => X0.iaload hx (j := (3 : Int32)) (v := (.int (o1.getD 3 (0 : Int32)))) (by rw [e0]; exact Ar_129.1) (State.isArrayOf_alike hZ.alike Ar_129.2.1) Ar_129.2.2 hin_130 hat_130 (g := (mkF m 58 #[.val (.ref a1), .val (.ref a2)] [(.int (3 : Int32)), (.ref a1)])) rfl rfl (hb hby d7_58) _ k) ?_
          show OGo p e below _ (s₁.setTop (mkF m 59 #[.val (.ref a1), .val (.ref a2)] [(.int (o1.getD 3 (0 : Int32)))]))
          refine OGo.to (fun _ k => XS.aloadN X0.here hx rfl (hb hby d7_59) rfl rfl k) ?_
          show OGo p e below _ (s₁.setTop (mkF m 60 #[.val (.ref a1), .val (.ref a2)] [(.ref a2), (.int (o1.getD 3 (0 : Int32)))]))
          refine OGo.to (fun _ k => XS.iconst X0.here hx rfl (hb hby d7_60) k) ?_
          show OGo p e below _ (s₁.setTop (mkF m 61 #[.val (.ref a1), .val (.ref a2)] [(.int (3 : Int32)), (.ref a2), (.int (o1.getD 3 (0 : Int32)))]))
          have Vq_131 := V2
          obtain ⟨cl_131, Ar_131, q_131, S_131, M_131, Hs_131, G_131⟩ := Vq_131
          have hin_132 : ¬ ((3 : Int32) < 0 ∨ cl_131.slots.size ≤ ((3 : Int32)).toNatClampNeg) := inb_of S_131 ⟨by decide, hc53__128⟩
          have hat_132 : cl_131.slots[((3 : Int32)).toNatClampNeg]? = some (.int (o2.getD 3 (0 : Int32))) := Hs_131.at hin_132 (own_getD o2 3)
          refine OGo.to (fun _ k => X0.iaload hx (j := (3 : Int32)) (v := (.int (o2.getD 3 (0 : Int32)))) (by rw [e0]; exact Ar_131.1) (State.isArrayOf_alike hZ.alike Ar_131.2.1) Ar_131.2.2 hin_132 hat_132 (g := (mkF m 61 #[.val (.ref a1), .val (.ref a2)] [(.int (3 : Int32)), (.ref a2), (.int (o1.getD 3 (0 : Int32)))])) rfl rfl (hb hby d7_61) _ k) ?_
          show OGo p e below _ (s₁.setTop (mkF m 62 #[.val (.ref a1), .val (.ref a2)] [(.int (o2.getD 3 (0 : Int32))), (.int (o1.getD 3 (0 : Int32)))]))
          have hc62__133 : (o1.getD 3 (0 : Int32)) = (o2.getD 3 (0 : Int32)) := by rw [heq]
          refine OGo.to (fun _ k => XS.icmpYes X0.here hx rfl (pc0 := 62) (pc' := 67) rfl (hb hby d7_62) rfl (teq hc62__133).1 (by decide) (by decide) k) ?_
          show OGo p e below _ (s₁.setTop (mkF m 67 #[.val (.ref a1), .val (.ref a2)] []))
          refine OGo.to (fun _ k => XS.aloadN X0.here hx rfl (hb hby d7_67) rfl rfl k) ?_
          show OGo p e below _ (s₁.setTop (mkF m 68 #[.val (.ref a1), .val (.ref a2)] [(.ref a1)]))
          have Vq_134 := V1
          obtain ⟨cl_134, Ar_134, q_134, S_134, M_134, Hs_134, G_134⟩ := Vq_134
          refine OGo.to (fun _ k => X0.arraylength hx (by rw [e0]; exact Ar_134.1) (State.isArrayOf_alike hZ.alike Ar_134.2.1) (g := (mkF m 68 #[.val (.ref a1), .val (.ref a2)] [(.ref a1)])) rfl rfl (hb hby d7_68) _ k) ?_
          rw [len_of S_134 M_134]
          show OGo p e below _ (s₁.setTop (mkF m 69 #[.val (.ref a1), .val (.ref a2)] [(.int nn)]))
          refine OGo.to (fun _ k => XS.iconst X0.here hx rfl (hb hby d7_69) k) ?_
          show OGo p e below _ (s₁.setTop (mkF m 70 #[.val (.ref a1), .val (.ref a2)] [(.int (4 : Int32)), (.int nn)]))
          by_cases hc70__135 : (4 : Int32) < nn
          ·  -- pc 70: yes
            refine OGo.to (fun _ k => XS.icmpNo X0.here hx rfl (hb hby d7_70) rfl (tlt hc70__135).2.2.2 k) ?_
            show OGo p e below _ (s₁.setTop (mkF m 73 #[.val (.ref a1), .val (.ref a2)] []))
            refine OGo.to (fun _ k => XS.aloadN X0.here hx rfl (hb hby d7_73) rfl rfl k) ?_
            show OGo p e below _ (s₁.setTop (mkF m 74 #[.val (.ref a1), .val (.ref a2)] [(.ref a1)]))
            refine OGo.to (fun _ k => XS.iconst X0.here hx rfl (hb hby d7_74) k) ?_
            show OGo p e below _ (s₁.setTop (mkF m 75 #[.val (.ref a1), .val (.ref a2)] [(.int (4 : Int32)), (.ref a1)]))
            have Vq_136 := V1
            obtain ⟨cl_136, Ar_136, q_136, S_136, M_136, Hs_136, G_136⟩ := Vq_136
            have hin_137 : ¬ ((4 : Int32) < 0 ∨ cl_136.slots.size ≤ ((4 : Int32)).toNatClampNeg) := inb_of S_136 ⟨by decide, hc70__135⟩
            have hat_137 : cl_136.slots[((4 : Int32)).toNatClampNeg]? = some (.int (o1.getD 4 (0 : Int32))) := Hs_136.at hin_137 (own_getD o1 4)
            refine OGo.to (fun _ k => X0.iaload hx (j := (4 : Int32)) (v := (.int (o1.getD 4 (0 : Int32)))) (by rw [e0]; exact Ar_136.1) (State.isArrayOf_alike hZ.alike Ar_136.2.1) Ar_136.2.2 hin_137 hat_137 (g := (mkF m 75 #[.val (.ref a1), .val (.ref a2)] [(.int (4 : Int32)), (.ref a1)])) rfl rfl (hb hby d7_75) _ k) ?_
            show OGo p e below _ (s₁.setTop (mkF m 76 #[.val (.ref a1), .val (.ref a2)] [(.int (o1.getD 4 (0 : Int32)))]))
            refine OGo.to (fun _ k => XS.aloadN X0.here hx rfl (hb hby d7_76) rfl rfl k) ?_
            show OGo p e below _ (s₁.setTop (mkF m 77 #[.val (.ref a1), .val (.ref a2)] [(.ref a2), (.int (o1.getD 4 (0 : Int32)))]))
            refine OGo.to (fun _ k => XS.iconst X0.here hx rfl (hb hby d7_77) k) ?_
            show OGo p e below _ (s₁.setTop (mkF m 78 #[.val (.ref a1), .val (.ref a2)] [(.int (4 : Int32)), (.ref a2), (.int (o1.getD 4 (0 : Int32)))]))
            have Vq_138 := V2
            obtain ⟨cl_138, Ar_138, q_138, S_138, M_138, Hs_138, G_138⟩ := Vq_138
            have hin_139 : ¬ ((4 : Int32) < 0 ∨ cl_138.slots.size ≤ ((4 : Int32)).toNatClampNeg) := inb_of S_138 ⟨by decide, hc70__135⟩
            have hat_139 : cl_138.slots[((4 : Int32)).toNatClampNeg]? = some (.int (o2.getD 4 (0 : Int32))) := Hs_138.at hin_139 (own_getD o2 4)
            refine OGo.to (fun _ k => X0.iaload hx (j := (4 : Int32)) (v := (.int (o2.getD 4 (0 : Int32)))) (by rw [e0]; exact Ar_138.1) (State.isArrayOf_alike hZ.alike Ar_138.2.1) Ar_138.2.2 hin_139 hat_139 (g := (mkF m 78 #[.val (.ref a1), .val (.ref a2)] [(.int (4 : Int32)), (.ref a2), (.int (o1.getD 4 (0 : Int32)))])) rfl rfl (hb hby d7_78) _ k) ?_
            show OGo p e below _ (s₁.setTop (mkF m 79 #[.val (.ref a1), .val (.ref a2)] [(.int (o2.getD 4 (0 : Int32))), (.int (o1.getD 4 (0 : Int32)))]))
            have hc79__140 : (o1.getD 4 (0 : Int32)) = (o2.getD 4 (0 : Int32)) := by rw [heq]
            refine OGo.to (fun _ k => XS.icmpYes X0.here hx rfl (pc0 := 79) (pc' := 84) rfl (hb hby d7_79) rfl (teq hc79__140).1 (by decide) (by decide) k) ?_
            show OGo p e below _ (s₁.setTop (mkF m 84 #[.val (.ref a1), .val (.ref a2)] []))
            refine OGo.to (fun _ k => XS.iconst X0.here hx rfl (hb hby d7_84) k) ?_
            show OGo p e below _ (s₁.setTop (mkF m 85 #[.val (.ref a1), .val (.ref a2)] [(.int (1 : Int32))]))
            refine OGo.ret (Q := Q7 Z a1 a2 k1 k2 nn o1 o2 h0 n0) X0 (some (.int (1 : Int32))) (fun h => by rw [Bd.returns] at h; cases h) Bd.notSynchronized (fun fs hr => retN X0 hx (t := .boolean) (z := (1 : Int32)) Bd.returns (by simp) (hb hby d7_85) hr) ?_ (by decide) (by decide)
            show Q7 Z a1 a2 k1 k2 nn o1 o2 h0 n0 _ s₁.heap _
            rw [e0]
            exact ⟨rfl, N0, rfl⟩
          ·  -- pc 70: no
            refine OGo.to (fun _ k => XS.icmpYes X0.here hx rfl (pc0 := 70) (pc' := 84) rfl (hb hby d7_70) rfl (flt hc70__135).2.2.2 (by decide) (by decide) k) ?_
            show OGo p e below _ (s₁.setTop (mkF m 84 #[.val (.ref a1), .val (.ref a2)] []))
            refine OGo.to (fun _ k => XS.iconst X0.here hx rfl (hb hby d7_84) k) ?_
            show OGo p e below _ (s₁.setTop (mkF m 85 #[.val (.ref a1), .val (.ref a2)] [(.int (1 : Int32))]))
            refine OGo.ret (Q := Q7 Z a1 a2 k1 k2 nn o1 o2 h0 n0) X0 (some (.int (1 : Int32))) (fun h => by rw [Bd.returns] at h; cases h) Bd.notSynchronized (fun fs hr => retN X0 hx (t := .boolean) (z := (1 : Int32)) Bd.returns (by simp) (hb hby d7_85) hr) ?_ (by decide) (by decide)
            show Q7 Z a1 a2 k1 k2 nn o1 o2 h0 n0 _ s₁.heap _
            rw [e0]
            exact ⟨rfl, N0, rfl⟩
        ·  -- pc 53: no
          refine OGo.to (fun _ k => XS.icmpYes X0.here hx rfl (pc0 := 53) (pc' := 67) rfl (hb hby d7_53) rfl (flt hc53__128).2.2.2 (by decide) (by decide) k) ?_
          show OGo p e below _ (s₁.setTop (mkF m 67 #[.val (.ref a1), .val (.ref a2)] []))
          refine OGo.to (fun _ k => XS.aloadN X0.here hx rfl (hb hby d7_67) rfl rfl k) ?_
          show OGo p e below _ (s₁.setTop (mkF m 68 #[.val (.ref a1), .val (.ref a2)] [(.ref a1)]))
          have Vq_141 := V1
          obtain ⟨cl_141, Ar_141, q_141, S_141, M_141, Hs_141, G_141⟩ := Vq_141
          refine OGo.to (fun _ k => X0.arraylength hx (by rw [e0]; exact Ar_141.1) (State.isArrayOf_alike hZ.alike Ar_141.2.1) (g := (mkF m 68 #[.val (.ref a1), .val (.ref a2)] [(.ref a1)])) rfl rfl (hb hby d7_68) _ k) ?_
          rw [len_of S_141 M_141]
          show OGo p e below _ (s₁.setTop (mkF m 69 #[.val (.ref a1), .val (.ref a2)] [(.int nn)]))
          refine OGo.to (fun _ k => XS.iconst X0.here hx rfl (hb hby d7_69) k) ?_
          show OGo p e below _ (s₁.setTop (mkF m 70 #[.val (.ref a1), .val (.ref a2)] [(.int (4 : Int32)), (.int nn)]))
          by_cases hc70__142 : (4 : Int32) < nn
          ·  -- pc 70: yes
            refine OGo.to (fun _ k => XS.icmpNo X0.here hx rfl (hb hby d7_70) rfl (tlt hc70__142).2.2.2 k) ?_
            show OGo p e below _ (s₁.setTop (mkF m 73 #[.val (.ref a1), .val (.ref a2)] []))
            refine OGo.to (fun _ k => XS.aloadN X0.here hx rfl (hb hby d7_73) rfl rfl k) ?_
            show OGo p e below _ (s₁.setTop (mkF m 74 #[.val (.ref a1), .val (.ref a2)] [(.ref a1)]))
            refine OGo.to (fun _ k => XS.iconst X0.here hx rfl (hb hby d7_74) k) ?_
            show OGo p e below _ (s₁.setTop (mkF m 75 #[.val (.ref a1), .val (.ref a2)] [(.int (4 : Int32)), (.ref a1)]))
            have Vq_143 := V1
            obtain ⟨cl_143, Ar_143, q_143, S_143, M_143, Hs_143, G_143⟩ := Vq_143
            have hin_144 : ¬ ((4 : Int32) < 0 ∨ cl_143.slots.size ≤ ((4 : Int32)).toNatClampNeg) := inb_of S_143 ⟨by decide, hc70__142⟩
            have hat_144 : cl_143.slots[((4 : Int32)).toNatClampNeg]? = some (.int (o1.getD 4 (0 : Int32))) := Hs_143.at hin_144 (own_getD o1 4)
            refine OGo.to (fun _ k => X0.iaload hx (j := (4 : Int32)) (v := (.int (o1.getD 4 (0 : Int32)))) (by rw [e0]; exact Ar_143.1) (State.isArrayOf_alike hZ.alike Ar_143.2.1) Ar_143.2.2 hin_144 hat_144 (g := (mkF m 75 #[.val (.ref a1), .val (.ref a2)] [(.int (4 : Int32)), (.ref a1)])) rfl rfl (hb hby d7_75) _ k) ?_
            show OGo p e below _ (s₁.setTop (mkF m 76 #[.val (.ref a1), .val (.ref a2)] [(.int (o1.getD 4 (0 : Int32)))]))
            refine OGo.to (fun _ k => XS.aloadN X0.here hx rfl (hb hby d7_76) rfl rfl k) ?_
            show OGo p e below _ (s₁.setTop (mkF m 77 #[.val (.ref a1), .val (.ref a2)] [(.ref a2), (.int (o1.getD 4 (0 : Int32)))]))
            refine OGo.to (fun _ k => XS.iconst X0.here hx rfl (hb hby d7_77) k) ?_
            show OGo p e below _ (s₁.setTop (mkF m 78 #[.val (.ref a1), .val (.ref a2)] [(.int (4 : Int32)), (.ref a2), (.int (o1.getD 4 (0 : Int32)))]))
            have Vq_145 := V2
            obtain ⟨cl_145, Ar_145, q_145, S_145, M_145, Hs_145, G_145⟩ := Vq_145
            have hin_146 : ¬ ((4 : Int32) < 0 ∨ cl_145.slots.size ≤ ((4 : Int32)).toNatClampNeg) := inb_of S_145 ⟨by decide, hc70__142⟩
            have hat_146 : cl_145.slots[((4 : Int32)).toNatClampNeg]? = some (.int (o2.getD 4 (0 : Int32))) := Hs_145.at hin_146 (own_getD o2 4)
            refine OGo.to (fun _ k => X0.iaload hx (j := (4 : Int32)) (v := (.int (o2.getD 4 (0 : Int32)))) (by rw [e0]; exact Ar_145.1) (State.isArrayOf_alike hZ.alike Ar_145.2.1) Ar_145.2.2 hin_146 hat_146 (g := (mkF m 78 #[.val (.ref a1), .val (.ref a2)] [(.int (4 : Int32)), (.ref a2), (.int (o1.getD 4 (0 : Int32)))])) rfl rfl (hb hby d7_78) _ k) ?_
            show OGo p e below _ (s₁.setTop (mkF m 79 #[.val (.ref a1), .val (.ref a2)] [(.int (o2.getD 4 (0 : Int32))), (.int (o1.getD 4 (0 : Int32)))]))
            have hc79__147 : (o1.getD 4 (0 : Int32)) = (o2.getD 4 (0 : Int32)) := by rw [heq]
            refine OGo.to (fun _ k => XS.icmpYes X0.here hx rfl (pc0 := 79) (pc' := 84) rfl (hb hby d7_79) rfl (teq hc79__147).1 (by decide) (by decide) k) ?_
            show OGo p e below _ (s₁.setTop (mkF m 84 #[.val (.ref a1), .val (.ref a2)] []))
            refine OGo.to (fun _ k => XS.iconst X0.here hx rfl (hb hby d7_84) k) ?_
            show OGo p e below _ (s₁.setTop (mkF m 85 #[.val (.ref a1), .val (.ref a2)] [(.int (1 : Int32))]))
            refine OGo.ret (Q := Q7 Z a1 a2 k1 k2 nn o1 o2 h0 n0) X0 (some (.int (1 : Int32))) (fun h => by rw [Bd.returns] at h; cases h) Bd.notSynchronized (fun fs hr => retN X0 hx (t := .boolean) (z := (1 : Int32)) Bd.returns (by simp) (hb hby d7_85) hr) ?_ (by decide) (by decide)
            show Q7 Z a1 a2 k1 k2 nn o1 o2 h0 n0 _ s₁.heap _
            rw [e0]
            exact ⟨rfl, N0, rfl⟩
          ·  -- pc 70: no
            refine OGo.to (fun _ k => XS.icmpYes X0.here hx rfl (pc0 := 70) (pc' := 84) rfl (hb hby d7_70) rfl (flt hc70__142).2.2.2 (by decide) (by decide) k) ?_
            show OGo p e below _ (s₁.setTop (mkF m 84 #[.val (.ref a1), .val (.ref a2)] []))
            refine OGo.to (fun _ k => XS.iconst X0.here hx rfl (hb hby d7_84) k) ?_
            show OGo p e below _ (s₁.setTop (mkF m 85 #[.val (.ref a1), .val (.ref a2)] [(.int (1 : Int32))]))
            refine OGo.ret (Q := Q7 Z a1 a2 k1 k2 nn o1 o2 h0 n0) X0 (some (.int (1 : Int32))) (fun h => by rw [Bd.returns] at h; cases h) Bd.notSynchronized (fun fs hr => retN X0 hx (t := .boolean) (z := (1 : Int32)) Bd.returns (by simp) (hb hby d7_85) hr) ?_ (by decide) (by decide)
            show Q7 Z a1 a2 k1 k2 nn o1 o2 h0 n0 _ s₁.heap _
            rw [e0]
            exact ⟨rfl, N0, rfl⟩
      ·  -- pc 36: no
        refine OGo.to (fun _ k => XS.icmpYes X0.here hx rfl (pc0 := 36) (pc' := 50) rfl (hb hby d7_36) rfl (flt hc36__121).2.2.2 (by decide) (by decide) k) ?_
        show OGo p e below _ (s₁.setTop (mkF m 50 #[.val (.ref a1), .val (.ref a2)] []))
        refine OGo.to (fun _ k => XS.aloadN X0.here hx rfl (hb hby d7_50) rfl rfl k) ?_
        show OGo p e below _ (s₁.setTop (mkF m 51 #[.val (.ref a1), .val (.ref a2)] [(.ref a1)]))
        have Vq_148 := V1
        obtain ⟨cl_148, Ar_148, q_148, S_148, M_148, Hs_148, G_148⟩ := Vq_148
        refine OGo.to (fun _ k => X0.arraylength hx (by rw [e0]; exact Ar_148.1) (State.isArrayOf_alike hZ.alike Ar_148.2.1) (g := (mkF m 51 #[.val (.ref a1), .val (.ref a2)] [(.ref a1)])) rfl rfl (hb hby d7_51) _ k) ?_
        rw [len_of S_148 M_148]
        show OGo p e below _ (s₁.setTop (mkF m 52 #[.val (.ref a1), .val (.ref a2)] [(.int nn)]))
        refine OGo.to (fun _ k => XS.iconst X0.here hx rfl (hb hby d7_52) k) ?_
        show OGo p e below _ (s₁.setTop (mkF m 53 #[.val (.ref a1), .val (.ref a2)] [(.int (3 : Int32)), (.int nn)]))
        by_cases hc53__149 : (3 : Int32) < nn
        ·  -- pc 53: yes
          refine OGo.to (fun _ k => XS.icmpNo X0.here hx rfl (hb hby d7_53) rfl (tlt hc53__149).2.2.2 k) ?_
          show OGo p e below _ (s₁.setTop (mkF m 56 #[.val (.ref a1), .val (.ref a2)] []))
          refine OGo.to (fun _ k => XS.aloadN X0.here hx rfl (hb hby d7_56) rfl rfl k) ?_
          show OGo p e below _ (s₁.setTop (mkF m 57 #[.val (.ref a1), .val (.ref a2)] [(.ref a1)]))
          refine OGo.to (fun _ k => XS.iconst X0.here hx rfl (hb hby d7_57) k) ?_
          show OGo p e below _ (s₁.setTop (mkF m 58 #[.val (.ref a1), .val (.ref a2)] [(.int (3 : Int32)), (.ref a1)]))
          have Vq_150 := V1
          obtain ⟨cl_150, Ar_150, q_150, S_150, M_150, Hs_150, G_150⟩ := Vq_150
          have hin_151 : ¬ ((3 : Int32) < 0 ∨ cl_150.slots.size ≤ ((3 : Int32)).toNatClampNeg) := inb_of S_150 ⟨by decide, hc53__149⟩
          have hat_151 : cl_150.slots[((3 : Int32)).toNatClampNeg]? = some (.int (o1.getD 3 (0 : Int32))) := Hs_150.at hin_151 (own_getD o1 3)
          refine OGo.to (fun _ k => X0.iaload hx (j := (3 : Int32)) (v := (.int (o1.getD 3 (0 : Int32)))) (by rw [e0]; exact Ar_150.1) (State.isArrayOf_alike hZ.alike Ar_150.2.1) Ar_150.2.2 hin_151 hat_151 (g := (mkF m 58 #[.val (.ref a1), .val (.ref a2)] [(.int (3 : Int32)), (.ref a1)])) rfl rfl (hb hby d7_58) _ k) ?_
          show OGo p e below _ (s₁.setTop (mkF m 59 #[.val (.ref a1), .val (.ref a2)] [(.int (o1.getD 3 (0 : Int32)))]))
          refine OGo.to (fun _ k => XS.aloadN X0.here hx rfl (hb hby d7_59) rfl rfl k) ?_
          show OGo p e below _ (s₁.setTop (mkF m 60 #[.val (.ref a1), .val (.ref a2)] [(.ref a2), (.int (o1.getD 3 (0 : Int32)))]))
          refine OGo.to (fun _ k => XS.iconst X0.here hx rfl (hb hby d7_60) k) ?_
          show OGo p e below _ (s₁.setTop (mkF m 61 #[.val (.ref a1), .val (.ref a2)] [(.int (3 : Int32)), (.ref a2), (.int (o1.getD 3 (0 : Int32)))]))
          have Vq_152 := V2
          obtain ⟨cl_152, Ar_152, q_152, S_152, M_152, Hs_152, G_152⟩ := Vq_152
          have hin_153 : ¬ ((3 : Int32) < 0 ∨ cl_152.slots.size ≤ ((3 : Int32)).toNatClampNeg) := inb_of S_152 ⟨by decide, hc53__149⟩
          have hat_153 : cl_152.slots[((3 : Int32)).toNatClampNeg]? = some (.int (o2.getD 3 (0 : Int32))) := Hs_152.at hin_153 (own_getD o2 3)
          refine OGo.to (fun _ k => X0.iaload hx (j := (3 : Int32)) (v := (.int (o2.getD 3 (0 : Int32)))) (by rw [e0]; exact Ar_152.1) (State.isArrayOf_alike hZ.alike Ar_152.2.1) Ar_152.2.2 hin_153 hat_153 (g := (mkF m 61 #[.val (.ref a1), .val (.ref a2)] [(.int (3 : Int32)), (.ref a2), (.int (o1.getD 3 (0 : Int32)))])) rfl rfl (hb hby d7_61) _ k) ?_
          show OGo p e below _ (s₁.setTop (mkF m 62 #[.val (.ref a1), .val (.ref a2)] [(.int (o2.getD 3 (0 : Int32))), (.int (o1.getD 3 (0 : Int32)))]))
          have hc62__154 : (o1.getD 3 (0 : Int32)) = (o2.getD 3 (0 : Int32)) := by rw [heq]
          refine OGo.to (fun _ k => XS.icmpYes X0.here hx rfl (pc0 := 62) (pc' := 67) rfl (hb hby d7_62) rfl (teq hc62__154).1 (by decide) (by decide) k) ?_
          show OGo p e below _ (s₁.setTop (mkF m 67 #[.val (.ref a1), .val (.ref a2)] []))
          refine OGo.to (fun _ k => XS.aloadN X0.here hx rfl (hb hby d7_67) rfl rfl k) ?_
          show OGo p e below _ (s₁.setTop (mkF m 68 #[.val (.ref a1), .val (.ref a2)] [(.ref a1)]))
          have Vq_155 := V1
          obtain ⟨cl_155, Ar_155, q_155, S_155, M_155, Hs_155, G_155⟩ := Vq_155
          refine OGo.to (fun _ k => X0.arraylength hx (by rw [e0]; exact Ar_155.1) (State.isArrayOf_alike hZ.alike Ar_155.2.1) (g := (mkF m 68 #[.val (.ref a1), .val (.ref a2)] [(.ref a1)])) rfl rfl (hb hby d7_68) _ k) ?_
          rw [len_of S_155 M_155]
          show OGo p e below _ (s₁.setTop (mkF m 69 #[.val (.ref a1), .val (.ref a2)] [(.int nn)]))
          refine OGo.to (fun _ k => XS.iconst X0.here hx rfl (hb hby d7_69) k) ?_
          show OGo p e below _ (s₁.setTop (mkF m 70 #[.val (.ref a1), .val (.ref a2)] [(.int (4 : Int32)), (.int nn)]))
          by_cases hc70__156 : (4 : Int32) < nn
          ·  -- pc 70: yes
            refine OGo.to (fun _ k => XS.icmpNo X0.here hx rfl (hb hby d7_70) rfl (tlt hc70__156).2.2.2 k) ?_
            show OGo p e below _ (s₁.setTop (mkF m 73 #[.val (.ref a1), .val (.ref a2)] []))
            refine OGo.to (fun _ k => XS.aloadN X0.here hx rfl (hb hby d7_73) rfl rfl k) ?_
            show OGo p e below _ (s₁.setTop (mkF m 74 #[.val (.ref a1), .val (.ref a2)] [(.ref a1)]))
            refine OGo.to (fun _ k => XS.iconst X0.here hx rfl (hb hby d7_74) k) ?_
            show OGo p e below _ (s₁.setTop (mkF m 75 #[.val (.ref a1), .val (.ref a2)] [(.int (4 : Int32)), (.ref a1)]))
            have Vq_157 := V1
            obtain ⟨cl_157, Ar_157, q_157, S_157, M_157, Hs_157, G_157⟩ := Vq_157
            have hin_158 : ¬ ((4 : Int32) < 0 ∨ cl_157.slots.size ≤ ((4 : Int32)).toNatClampNeg) := inb_of S_157 ⟨by decide, hc70__156⟩
            have hat_158 : cl_157.slots[((4 : Int32)).toNatClampNeg]? = some (.int (o1.getD 4 (0 : Int32))) := Hs_157.at hin_158 (own_getD o1 4)
            refine OGo.to (fun _ k => X0.iaload hx (j := (4 : Int32)) (v := (.int (o1.getD 4 (0 : Int32)))) (by rw [e0]; exact Ar_157.1) (State.isArrayOf_alike hZ.alike Ar_157.2.1) Ar_157.2.2 hin_158 hat_158 (g := (mkF m 75 #[.val (.ref a1), .val (.ref a2)] [(.int (4 : Int32)), (.ref a1)])) rfl rfl (hb hby d7_75) _ k) ?_
            show OGo p e below _ (s₁.setTop (mkF m 76 #[.val (.ref a1), .val (.ref a2)] [(.int (o1.getD 4 (0 : Int32)))]))
            refine OGo.to (fun _ k => XS.aloadN X0.here hx rfl (hb hby d7_76) rfl rfl k) ?_
            show OGo p e below _ (s₁.setTop (mkF m 77 #[.val (.ref a1), .val (.ref a2)] [(.ref a2), (.int (o1.getD 4 (0 : Int32)))]))
            refine OGo.to (fun _ k => XS.iconst X0.here hx rfl (hb hby d7_77) k) ?_
            show OGo p e below _ (s₁.setTop (mkF m 78 #[.val (.ref a1), .val (.ref a2)] [(.int (4 : Int32)), (.ref a2), (.int (o1.getD 4 (0 : Int32)))]))
            have Vq_159 := V2
            obtain ⟨cl_159, Ar_159, q_159, S_159, M_159, Hs_159, G_159⟩ := Vq_159
            have hin_160 : ¬ ((4 : Int32) < 0 ∨ cl_159.slots.size ≤ ((4 : Int32)).toNatClampNeg) := inb_of S_159 ⟨by decide, hc70__156⟩
            have hat_160 : cl_159.slots[((4 : Int32)).toNatClampNeg]? = some (.int (o2.getD 4 (0 : Int32))) := Hs_159.at hin_160 (own_getD o2 4)
            refine OGo.to (fun _ k => X0.iaload hx (j := (4 : Int32)) (v := (.int (o2.getD 4 (0 : Int32)))) (by rw [e0]; exact Ar_159.1) (State.isArrayOf_alike hZ.alike Ar_159.2.1) Ar_159.2.2 hin_160 hat_160 (g := (mkF m 78 #[.val (.ref a1), .val (.ref a2)] [(.int (4 : Int32)), (.ref a2), (.int (o1.getD 4 (0 : Int32)))])) rfl rfl (hb hby d7_78) _ k) ?_
            show OGo p e below _ (s₁.setTop (mkF m 79 #[.val (.ref a1), .val (.ref a2)] [(.int (o2.getD 4 (0 : Int32))), (.int (o1.getD 4 (0 : Int32)))]))
            have hc79__161 : (o1.getD 4 (0 : Int32)) = (o2.getD 4 (0 : Int32)) := by rw [heq]
            refine OGo.to (fun _ k => XS.icmpYes X0.here hx rfl (pc0 := 79) (pc' := 84) rfl (hb hby d7_79) rfl (teq hc79__161).1 (by decide) (by decide) k) ?_
            show OGo p e below _ (s₁.setTop (mkF m 84 #[.val (.ref a1), .val (.ref a2)] []))
            refine OGo.to (fun _ k => XS.iconst X0.here hx rfl (hb hby d7_84) k) ?_
            show OGo p e below _ (s₁.setTop (mkF m 85 #[.val (.ref a1), .val (.ref a2)] [(.int (1 : Int32))]))
            refine OGo.ret (Q := Q7 Z a1 a2 k1 k2 nn o1 o2 h0 n0) X0 (some (.int (1 : Int32))) (fun h => by rw [Bd.returns] at h; cases h) Bd.notSynchronized (fun fs hr => retN X0 hx (t := .boolean) (z := (1 : Int32)) Bd.returns (by simp) (hb hby d7_85) hr) ?_ (by decide) (by decide)
            show Q7 Z a1 a2 k1 k2 nn o1 o2 h0 n0 _ s₁.heap _
            rw [e0]
            exact ⟨rfl, N0, rfl⟩
          ·  -- pc 70: no
            refine OGo.to (fun _ k => XS.icmpYes X0.here hx rfl (pc0 := 70) (pc' := 84) rfl (hb hby d7_70) rfl (flt hc70__156).2.2.2 (by decide) (by decide) k) ?_
            show OGo p e below _ (s₁.setTop (mkF m 84 #[.val (.ref a1), .val (.ref a2)] []))
            refine OGo.to (fun _ k => XS.iconst X0.here hx rfl (hb hby d7_84) k) ?_
            show OGo p e below _ (s₁.setTop (mkF m 85 #[.val (.ref a1), .val (.ref a2)] [(.int (1 : Int32))]))
            refine OGo.ret (Q := Q7 Z a1 a2 k1 k2 nn o1 o2 h0 n0) X0 (some (.int (1 : Int32))) (fun h => by rw [Bd.returns] at h; cases h) Bd.notSynchronized (fun fs hr => retN X0 hx (t := .boolean) (z := (1 : Int32)) Bd.returns (by simp) (hb hby d7_85) hr) ?_ (by decide) (by decide)
            show Q7 Z a1 a2 k1 k2 nn o1 o2 h0 n0 _ s₁.heap _
            rw [e0]
            exact ⟨rfl, N0, rfl⟩
        ·  -- pc 53: no
          refine OGo.to (fun _ k => XS.icmpYes X0.here hx rfl (pc0 := 53) (pc' := 67) rfl (hb hby d7_53) rfl (flt hc53__149).2.2.2 (by decide) (by decide) k) ?_
          show OGo p e below _ (s₁.setTop (mkF m 67 #[.val (.ref a1), .val (.ref a2)] []))
          refine OGo.to (fun _ k => XS.aloadN X0.here hx rfl (hb hby d7_67) rfl rfl k) ?_
          show OGo p e below _ (s₁.setTop (mkF m 68 #[.val (.ref a1), .val (.ref a2)] [(.ref a1)]))
          have Vq_162 := V1
          obtain ⟨cl_162, Ar_162, q_162, S_162, M_162, Hs_162, G_162⟩ := Vq_162
          refine OGo.to (fun _ k => X0.arraylength hx (by rw [e0]; exact Ar_162.1) (State.isArrayOf_alike hZ.alike Ar_162.2.1) (g := (mkF m 68 #[.val (.ref a1), .val (.ref a2)] [(.ref a1)])) rfl rfl (hb hby d7_68) _ k) ?_
          rw [len_of S_162 M_162]
          show OGo p e below _ (s₁.setTop (mkF m 69 #[.val (.ref a1), .val (.ref a2)] [(.int nn)]))
          refine OGo.to (fun _ k => XS.iconst X0.here hx rfl (hb hby d7_69) k) ?_
          show OGo p e below _ (s₁.setTop (mkF m 70 #[.val (.ref a1), .val (.ref a2)] [(.int (4 : Int32)), (.int nn)]))
          by_cases hc70__163 : (4 : Int32) < nn
          ·  -- pc 70: yes
            refine OGo.to (fun _ k => XS.icmpNo X0.here hx rfl (hb hby d7_70) rfl (tlt hc70__163).2.2.2 k) ?_
            show OGo p e below _ (s₁.setTop (mkF m 73 #[.val (.ref a1), .val (.ref a2)] []))
            refine OGo.to (fun _ k => XS.aloadN X0.here hx rfl (hb hby d7_73) rfl rfl k) ?_
            show OGo p e below _ (s₁.setTop (mkF m 74 #[.val (.ref a1), .val (.ref a2)] [(.ref a1)]))
            refine OGo.to (fun _ k => XS.iconst X0.here hx rfl (hb hby d7_74) k) ?_
            show OGo p e below _ (s₁.setTop (mkF m 75 #[.val (.ref a1), .val (.ref a2)] [(.int (4 : Int32)), (.ref a1)]))
            have Vq_164 := V1
            obtain ⟨cl_164, Ar_164, q_164, S_164, M_164, Hs_164, G_164⟩ := Vq_164
            have hin_165 : ¬ ((4 : Int32) < 0 ∨ cl_164.slots.size ≤ ((4 : Int32)).toNatClampNeg) := inb_of S_164 ⟨by decide, hc70__163⟩
            have hat_165 : cl_164.slots[((4 : Int32)).toNatClampNeg]? = some (.int (o1.getD 4 (0 : Int32))) := Hs_164.at hin_165 (own_getD o1 4)
            refine OGo.to (fun _ k => X0.iaload hx (j := (4 : Int32)) (v := (.int (o1.getD 4 (0 : Int32)))) (by rw [e0]; exact Ar_164.1) (State.isArrayOf_alike hZ.alike Ar_164.2.1) Ar_164.2.2 hin_165 hat_165 (g := (mkF m 75 #[.val (.ref a1), .val (.ref a2)] [(.int (4 : Int32)), (.ref a1)])) rfl rfl (hb hby d7_75) _ k) ?_
            show OGo p e below _ (s₁.setTop (mkF m 76 #[.val (.ref a1), .val (.ref a2)] [(.int (o1.getD 4 (0 : Int32)))]))
            refine OGo.to (fun _ k => XS.aloadN X0.here hx rfl (hb hby d7_76) rfl rfl k) ?_
            show OGo p e below _ (s₁.setTop (mkF m 77 #[.val (.ref a1), .val (.ref a2)] [(.ref a2), (.int (o1.getD 4 (0 : Int32)))]))
            refine OGo.to (fun _ k => XS.iconst X0.here hx rfl (hb hby d7_77) k) ?_
            show OGo p e below _ (s₁.setTop (mkF m 78 #[.val (.ref a1), .val (.ref a2)] [(.int (4 : Int32)), (.ref a2), (.int (o1.getD 4 (0 : Int32)))]))
            have Vq_166 := V2
            obtain ⟨cl_166, Ar_166, q_166, S_166, M_166, Hs_166, G_166⟩ := Vq_166
            have hin_167 : ¬ ((4 : Int32) < 0 ∨ cl_166.slots.size ≤ ((4 : Int32)).toNatClampNeg) := inb_of S_166 ⟨by decide, hc70__163⟩
            have hat_167 : cl_166.slots[((4 : Int32)).toNatClampNeg]? = some (.int (o2.getD 4 (0 : Int32))) := Hs_166.at hin_167 (own_getD o2 4)
            refine OGo.to (fun _ k => X0.iaload hx (j := (4 : Int32)) (v := (.int (o2.getD 4 (0 : Int32)))) (by rw [e0]; exact Ar_166.1) (State.isArrayOf_alike hZ.alike Ar_166.2.1) Ar_166.2.2 hin_167 hat_167 (g := (mkF m 78 #[.val (.ref a1), .val (.ref a2)] [(.int (4 : Int32)), (.ref a2), (.int (o1.getD 4 (0 : Int32)))])) rfl rfl (hb hby d7_78) _ k) ?_
            show OGo p e below _ (s₁.setTop (mkF m 79 #[.val (.ref a1), .val (.ref a2)] [(.int (o2.getD 4 (0 : Int32))), (.int (o1.getD 4 (0 : Int32)))]))
            have hc79__168 : (o1.getD 4 (0 : Int32)) = (o2.getD 4 (0 : Int32)) := by rw [heq]
            refine OGo.to (fun _ k => XS.icmpYes X0.here hx rfl (pc0 := 79) (pc' := 84) rfl (hb hby d7_79) rfl (teq hc79__168).1 (by decide) (by decide) k) ?_
            show OGo p e below _ (s₁.setTop (mkF m 84 #[.val (.ref a1), .val (.ref a2)] []))
            refine OGo.to (fun _ k => XS.iconst X0.here hx rfl (hb hby d7_84) k) ?_
            show OGo p e below _ (s₁.setTop (mkF m 85 #[.val (.ref a1), .val (.ref a2)] [(.int (1 : Int32))]))
            refine OGo.ret (Q := Q7 Z a1 a2 k1 k2 nn o1 o2 h0 n0) X0 (some (.int (1 : Int32))) (fun h => by rw [Bd.returns] at h; cases h) Bd.notSynchronized (fun fs hr => retN X0 hx (t := .boolean) (z := (1 : Int32)) Bd.returns (by simp) (hb hby d7_85) hr) ?_ (by decide) (by decide)
            show Q7 Z a1 a2 k1 k2 nn o1 o2 h0 n0 _ s₁.heap _
            rw [e0]
            exact ⟨rfl, N0, rfl⟩
          ·  -- pc 70: no
            refine OGo.to (fun _ k => XS.icmpYes X0.here hx rfl (pc0 := 70) (pc' := 84) rfl (hb hby d7_70) rfl (flt hc70__163).2.2.2 (by decide) (by decide) k) ?_
            show OGo p e below _ (s₁.setTop (mkF m 84 #[.val (.ref a1), .val (.ref a2)] []))
            refine OGo.to (fun _ k => XS.iconst X0.here hx rfl (hb hby d7_84) k) ?_
            show OGo p e below _ (s₁.setTop (mkF m 85 #[.val (.ref a1), .val (.ref a2)] [(.int (1 : Int32))]))
            refine OGo.ret (Q := Q7 Z a1 a2 k1 k2 nn o1 o2 h0 n0) X0 (some (.int (1 : Int32))) (fun h => by rw [Bd.returns] at h; cases h) Bd.notSynchronized (fun fs hr => retN X0 hx (t := .boolean) (z := (1 : Int32)) Bd.returns (by simp) (hb hby d7_85) hr) ?_ (by decide) (by decide)
            show Q7 Z a1 a2 k1 k2 nn o1 o2 h0 n0 _ s₁.heap _
            rw [e0]
            exact ⟨rfl, N0, rfl⟩
    ·  -- pc 19: no
      refine OGo.to (fun _ k => XS.icmpYes X0.here hx rfl (pc0 := 19) (pc' := 33) rfl (hb hby d7_19) rfl (flt hc19__114).2.2.2 (by decide) (by decide) k) ?_
      show OGo p e below _ (s₁.setTop (mkF m 33 #[.val (.ref a1), .val (.ref a2)] []))
      refine OGo.to (fun _ k => XS.aloadN X0.here hx rfl (hb hby d7_33) rfl rfl k) ?_
      show OGo p e below _ (s₁.setTop (mkF m 34 #[.val (.ref a1), .val (.ref a2)] [(.ref a1)]))
      have Vq_169 := V1
      obtain ⟨cl_169, Ar_169, q_169, S_169, M_169, Hs_169, G_169⟩ := Vq_169
      refine OGo.to (fun _ k => X0.arraylength hx (by rw [e0]; exact Ar_169.1) (State.isArrayOf_alike hZ.alike Ar_169.2.1) (g := (mkF m 34 #[.val (.ref a1), .val (.ref a2)] [(.ref a1)])) rfl rfl (hb hby d7_34) _ k) ?_
      rw [len_of S_169 M_169]
      show OGo p e below _ (s₁.setTop (mkF m 35 #[.val (.ref a1), .val (.ref a2)] [(.int nn)]))
      refine OGo.to (fun _ k => XS.iconst X0.here hx rfl (hb hby d7_35) k) ?_
      show OGo p e below _ (s₁.setTop (mkF m 36 #[.val (.ref a1), .val (.ref a2)] [(.int (2 : Int32)), (.int nn)]))
      by_cases hc36__170 : (2 : Int32) < nn
      ·  -- pc 36: yes
        refine OGo.to (fun _ k => XS.icmpNo X0.here hx rfl (hb hby d7_36) rfl (tlt hc36__170).2.2.2 k) ?_
        show OGo p e below _ (s₁.setTop (mkF m 39 #[.val (.ref a1), .val (.ref a2)] []))
        refine OGo.to (fun _ k => XS.aloadN X0.here hx rfl (hb hby d7_39) rfl rfl k) ?_
        show OGo p e below _ (s₁.setTop (mkF m 40 #[.val (.ref a1), .val (.ref a2)] [(.ref a1)]))
        refine OGo.to (fun _ k => XS.iconst X0.here hx rfl (hb hby d7_40) k) ?_
        show OGo p e below _ (s₁.setTop (mkF m 41 #[.val (.ref a1), .val (.ref a2)] [(.int (2 : Int32)), (.ref a1)]))
        have Vq_171 := V1
        obtain ⟨cl_171, Ar_171, q_171, S_171, M_171, Hs_171, G_171⟩ := Vq_171
        have hin_172 : ¬ ((2 : Int32) < 0 ∨ cl_171.slots.size ≤ ((2 : Int32)).toNatClampNeg) := inb_of S_171 ⟨by decide, hc36__170⟩
        have hat_172 : cl_171.slots[((2 : Int32)).toNatClampNeg]? = some (.int (o1.getD 2 (0 : Int32))) := Hs_171.at hin_172 (own_getD o1 2)
        refine OGo.to (fun _ k => X0.iaload hx (j := (2 : Int32)) (v := (.int (o1.getD 2 (0 : Int32)))) (by rw [e0]; exact Ar_171.1) (State.isArrayOf_alike hZ.alike Ar_171.2.1) Ar_171.2.2 hin_172 hat_172 (g := (mkF m 41 #[.val (.ref a1), .val (.ref a2)] [(.int (2 : Int32)), (.ref a1)])) rfl rfl (hb hby d7_41) _ k) ?_
        show OGo p e below _ (s₁.setTop (mkF m 42 #[.val (.ref a1), .val (.ref a2)] [(.int (o1.getD 2 (0 : Int32)))]))
        refine OGo.to (fun _ k => XS.aloadN X0.here hx rfl (hb hby d7_42) rfl rfl k) ?_
        show OGo p e below _ (s₁.setTop (mkF m 43 #[.val (.ref a1), .val (.ref a2)] [(.ref a2), (.int (o1.getD 2 (0 : Int32)))]))
        refine OGo.to (fun _ k => XS.iconst X0.here hx rfl (hb hby d7_43) k) ?_
        show OGo p e below _ (s₁.setTop (mkF m 44 #[.val (.ref a1), .val (.ref a2)] [(.int (2 : Int32)), (.ref a2), (.int (o1.getD 2 (0 : Int32)))]))
        have Vq_173 := V2
        obtain ⟨cl_173, Ar_173, q_173, S_173, M_173, Hs_173, G_173⟩ := Vq_173
        have hin_174 : ¬ ((2 : Int32) < 0 ∨ cl_173.slots.size ≤ ((2 : Int32)).toNatClampNeg) := inb_of S_173 ⟨by decide, hc36__170⟩
        have hat_174 : cl_173.slots[((2 : Int32)).toNatClampNeg]? = some (.int (o2.getD 2 (0 : Int32))) := Hs_173.at hin_174 (own_getD o2 2)
        refine OGo.to (fun _ k => X0.iaload hx (j := (2 : Int32)) (v := (.int (o2.getD 2 (0 : Int32)))) (by rw [e0]; exact Ar_173.1) (State.isArrayOf_alike hZ.alike Ar_173.2.1) Ar_173.2.2 hin_174 hat_174 (g := (mkF m 44 #[.val (.ref a1), .val (.ref a2)] [(.int (2 : Int32)), (.ref a2), (.int (o1.getD 2 (0 : Int32)))])) rfl rfl (hb hby d7_44) _ k) ?_
        show OGo p e below _ (s₁.setTop (mkF m 45 #[.val (.ref a1), .val (.ref a2)] [(.int (o2.getD 2 (0 : Int32))), (.int (o1.getD 2 (0 : Int32)))]))
        have hc45__175 : (o1.getD 2 (0 : Int32)) = (o2.getD 2 (0 : Int32)) := by rw [heq]
        refine OGo.to (fun _ k => XS.icmpYes X0.here hx rfl (pc0 := 45) (pc' := 50) rfl (hb hby d7_45) rfl (teq hc45__175).1 (by decide) (by decide) k) ?_
        show OGo p e below _ (s₁.setTop (mkF m 50 #[.val (.ref a1), .val (.ref a2)] []))
        refine OGo.to (fun _ k => XS.aloadN X0.here hx rfl (hb hby d7_50) rfl rfl k) ?_
        show OGo p e below _ (s₁.setTop (mkF m 51 #[.val (.ref a1), .val (.ref a2)] [(.ref a1)]))
        have Vq_176 := V1
        obtain ⟨cl_176, Ar_176, q_176, S_176, M_176, Hs_176, G_176⟩ := Vq_176
        refine OGo.to (fun _ k => X0.arraylength hx (by rw [e0]; exact Ar_176.1) (State.isArrayOf_alike hZ.alike Ar_176.2.1) (g := (mkF m 51 #[.val (.ref a1), .val (.ref a2)] [(.ref a1)])) rfl rfl (hb hby d7_51) _ k) ?_
        rw [len_of S_176 M_176]
        show OGo p e below _ (s₁.setTop (mkF m 52 #[.val (.ref a1), .val (.ref a2)] [(.int nn)]))
        refine OGo.to (fun _ k => XS.iconst X0.here hx rfl (hb hby d7_52) k) ?_
        show OGo p e below _ (s₁.setTop (mkF m 53 #[.val (.ref a1), .val (.ref a2)] [(.int (3 : Int32)), (.int nn)]))
        by_cases hc53__177 : (3 : Int32) < nn
        ·  -- pc 53: yes
          refine OGo.to (fun _ k => XS.icmpNo X0.here hx rfl (hb hby d7_53) rfl (tlt hc53__177).2.2.2 k) ?_
          show OGo p e below _ (s₁.setTop (mkF m 56 #[.val (.ref a1), .val (.ref a2)] []))
          refine OGo.to (fun _ k => XS.aloadN X0.here hx rfl (hb hby d7_56) rfl rfl k) ?_
          show OGo p e below _ (s₁.setTop (mkF m 57 #[.val (.ref a1), .val (.ref a2)] [(.ref a1)]))
          refine OGo.to (fun _ k => XS.iconst X0.here hx rfl (hb hby d7_57) k) ?_
          show OGo p e below _ (s₁.setTop (mkF m 58 #[.val (.ref a1), .val (.ref a2)] [(.int (3 : Int32)), (.ref a1)]))
          have Vq_178 := V1
          obtain ⟨cl_178, Ar_178, q_178, S_178, M_178, Hs_178, G_178⟩ := Vq_178
          have hin_179 : ¬ ((3 : Int32) < 0 ∨ cl_178.slots.size ≤ ((3 : Int32)).toNatClampNeg) := inb_of S_178 ⟨by decide, hc53__177⟩
          have hat_179 : cl_178.slots[((3 : Int32)).toNatClampNeg]? = some (.int (o1.getD 3 (0 : Int32))) := Hs_178.at hin_179 (own_getD o1 3)
          refine OGo.to (fun _ k => X0.iaload hx (j := (3 : Int32)) (v := (.int (o1.getD 3 (0 : Int32)))) (by rw [e0]; exact Ar_178.1) (State.isArrayOf_alike hZ.alike Ar_178.2.1) Ar_178.2.2 hin_179 hat_179 (g := (mkF m 58 #[.val (.ref a1), .val (.ref a2)] [(.int (3 : Int32)), (.ref a1)])) rfl rfl (hb hby d7_58) _ k) ?_
          show OGo p e below _ (s₁.setTop (mkF m 59 #[.val (.ref a1), .val (.ref a2)] [(.int (o1.getD 3 (0 : Int32)))]))
          refine OGo.to (fun _ k => XS.aloadN X0.here hx rfl (hb hby d7_59) rfl rfl k) ?_
          show OGo p e below _ (s₁.setTop (mkF m 60 #[.val (.ref a1), .val (.ref a2)] [(.ref a2), (.int (o1.getD 3 (0 : Int32)))]))
          refine OGo.to (fun _ k => XS.iconst X0.here hx rfl (hb hby d7_60) k) ?_
          show OGo p e below _ (s₁.setTop (mkF m 61 #[.val (.ref a1), .val (.ref a2)] [(.int (3 : Int32)), (.ref a2), (.int (o1.getD 3 (0 : Int32)))]))
          have Vq_180 := V2
          obtain ⟨cl_180, Ar_180, q_180, S_180, M_180, Hs_180, G_180⟩ := Vq_180
          have hin_181 : ¬ ((3 : Int32) < 0 ∨ cl_180.slots.size ≤ ((3 : Int32)).toNatClampNeg) := inb_of S_180 ⟨by decide, hc53__177⟩
          have hat_181 : cl_180.slots[((3 : Int32)).toNatClampNeg]? = some (.int (o2.getD 3 (0 : Int32))) := Hs_180.at hin_181 (own_getD o2 3)
          refine OGo.to (fun _ k => X0.iaload hx (j := (3 : Int32)) (v := (.int (o2.getD 3 (0 : Int32)))) (by rw [e0]; exact Ar_180.1) (State.isArrayOf_alike hZ.alike Ar_180.2.1) Ar_180.2.2 hin_181 hat_181 (g := (mkF m 61 #[.val (.ref a1), .val (.ref a2)] [(.int (3 : Int32)), (.ref a2), (.int (o1.getD 3 (0 : Int32)))])) rfl rfl (hb hby d7_61) _ k) ?_
          show OGo p e below _ (s₁.setTop (mkF m 62 #[.val (.ref a1), .val (.ref a2)] [(.int (o2.getD 3 (0 : Int32))), (.int (o1.getD 3 (0 : Int32)))]))
          have hc62__182 : (o1.getD 3 (0 : Int32)) = (o2.getD 3 (0 : Int32)) := by rw [heq]
          refine OGo.to (fun _ k => XS.icmpYes X0.here hx rfl (pc0 := 62) (pc' := 67) rfl (hb hby d7_62) rfl (teq hc62__182).1 (by decide) (by decide) k) ?_
          show OGo p e below _ (s₁.setTop (mkF m 67 #[.val (.ref a1), .val (.ref a2)] []))
          refine OGo.to (fun _ k => XS.aloadN X0.here hx rfl (hb hby d7_67) rfl rfl k) ?_
          show OGo p e below _ (s₁.setTop (mkF m 68 #[.val (.ref a1), .val (.ref a2)] [(.ref a1)]))
          have Vq_183 := V1
          obtain ⟨cl_183, Ar_183, q_183, S_183, M_183, Hs_183, G_183⟩ := Vq_183
          refine OGo.to (fun _ k => X0.arraylength hx (by rw [e0]; exact Ar_183.1) (State.isArrayOf_alike hZ.alike Ar_183.2.1) (g := (mkF m 68 #[.val (.ref a1), .val (.ref a2)] [(.ref a1)])) rfl rfl (hb hby d7_68) _ k) ?_
          rw [len_of S_183 M_183]
          show OGo p e below _ (s₁.setTop (mkF m 69 #[.val (.ref a1), .val (.ref a2)] [(.int nn)]))
          refine OGo.to (fun _ k => XS.iconst X0.here hx rfl (hb hby d7_69) k) ?_
          show OGo p e below _ (s₁.setTop (mkF m 70 #[.val (.ref a1), .val (.ref a2)] [(.int (4 : Int32)), (.int nn)]))
          by_cases hc70__184 : (4 : Int32) < nn
          ·  -- pc 70: yes
            refine OGo.to (fun _ k => XS.icmpNo X0.here hx rfl (hb hby d7_70) rfl (tlt hc70__184).2.2.2 k) ?_
            show OGo p e below _ (s₁.setTop (mkF m 73 #[.val (.ref a1), .val (.ref a2)] []))
            refine OGo.to (fun _ k => XS.aloadN X0.here hx rfl (hb hby d7_73) rfl rfl k) ?_
            show OGo p e below _ (s₁.setTop (mkF m 74 #[.val (.ref a1), .val (.ref a2)] [(.ref a1)]))
            refine OGo.to (fun _ k => XS.iconst X0.here hx rfl (hb hby d7_74) k) ?_
            show OGo p e below _ (s₁.setTop (mkF m 75 #[.val (.ref a1), .val (.ref a2)] [(.int (4 : Int32)), (.ref a1)]))
            have Vq_185 := V1
            obtain ⟨cl_185, Ar_185, q_185, S_185, M_185, Hs_185, G_185⟩ := Vq_185
            have hin_186 : ¬ ((4 : Int32) < 0 ∨ cl_185.slots.size ≤ ((4 : Int32)).toNatClampNeg) := inb_of S_185 ⟨by decide, hc70__184⟩
            have hat_186 : cl_185.slots[((4 : Int32)).toNatClampNeg]? = some (.int (o1.getD 4 (0 : Int32))) := Hs_185.at hin_186 (own_getD o1 4)
            refine OGo.to (fun _ k => X0.iaload hx (j := (4 : Int32)) (v := (.int (o1.getD 4 (0 : Int32)))) (by rw [e0]; exact Ar_185.1) (State.isArrayOf_alike hZ.alike Ar_185.2.1) Ar_185.2.2 hin_186 hat_186 (g := (mkF m 75 #[.val (.ref a1), .val (.ref a2)] [(.int (4 : Int32)), (.ref a1)])) rfl rfl (hb hby d7_75) _ k) ?_
            show OGo p e below _ (s₁.setTop (mkF m 76 #[.val (.ref a1), .val (.ref a2)] [(.int (o1.getD 4 (0 : Int32)))]))
            refine OGo.to (fun _ k => XS.aloadN X0.here hx rfl (hb hby d7_76) rfl rfl k) ?_
            show OGo p e below _ (s₁.setTop (mkF m 77 #[.val (.ref a1), .val (.ref a2)] [(.ref a2), (.int (o1.getD 4 (0 : Int32)))]))
            refine OGo.to (fun _ k => XS.iconst X0.here hx rfl (hb hby d7_77) k) ?_
            show OGo p e below _ (s₁.setTop (mkF m 78 #[.val (.ref a1), .val (.ref a2)] [(.int (4 : Int32)), (.ref a2), (.int (o1.getD 4 (0 : Int32)))]))
            have Vq_187 := V2
            obtain ⟨cl_187, Ar_187, q_187, S_187, M_187, Hs_187, G_187⟩ := Vq_187
            have hin_188 : ¬ ((4 : Int32) < 0 ∨ cl_187.slots.size ≤ ((4 : Int32)).toNatClampNeg) := inb_of S_187 ⟨by decide, hc70__184⟩
            have hat_188 : cl_187.slots[((4 : Int32)).toNatClampNeg]? = some (.int (o2.getD 4 (0 : Int32))) := Hs_187.at hin_188 (own_getD o2 4)
            refine OGo.to (fun _ k => X0.iaload hx (j := (4 : Int32)) (v := (.int (o2.getD 4 (0 : Int32)))) (by rw [e0]; exact Ar_187.1) (State.isArrayOf_alike hZ.alike Ar_187.2.1) Ar_187.2.2 hin_188 hat_188 (g := (mkF m 78 #[.val (.ref a1), .val (.ref a2)] [(.int (4 : Int32)), (.ref a2), (.int (o1.getD 4 (0 : Int32)))])) rfl rfl (hb hby d7_78) _ k) ?_
            show OGo p e below _ (s₁.setTop (mkF m 79 #[.val (.ref a1), .val (.ref a2)] [(.int (o2.getD 4 (0 : Int32))), (.int (o1.getD 4 (0 : Int32)))]))
            have hc79__189 : (o1.getD 4 (0 : Int32)) = (o2.getD 4 (0 : Int32)) := by rw [heq]
            refine OGo.to (fun _ k => XS.icmpYes X0.here hx rfl (pc0 := 79) (pc' := 84) rfl (hb hby d7_79) rfl (teq hc79__189).1 (by decide) (by decide) k) ?_
            show OGo p e below _ (s₁.setTop (mkF m 84 #[.val (.ref a1), .val (.ref a2)] []))
            refine OGo.to (fun _ k => XS.iconst X0.here hx rfl (hb hby d7_84) k) ?_
            show OGo p e below _ (s₁.setTop (mkF m 85 #[.val (.ref a1), .val (.ref a2)] [(.int (1 : Int32))]))
            refine OGo.ret (Q := Q7 Z a1 a2 k1 k2 nn o1 o2 h0 n0) X0 (some (.int (1 : Int32))) (fun h => by rw [Bd.returns] at h; cases h) Bd.notSynchronized (fun fs hr => retN X0 hx (t := .boolean) (z := (1 : Int32)) Bd.returns (by simp) (hb hby d7_85) hr) ?_ (by decide) (by decide)
            show Q7 Z a1 a2 k1 k2 nn o1 o2 h0 n0 _ s₁.heap _
            rw [e0]
            exact ⟨rfl, N0, rfl⟩
          ·  -- pc 70: no
            refine OGo.to (fun _ k => XS.icmpYes X0.here hx rfl (pc0 := 70) (pc' := 84) rfl (hb hby d7_70) rfl (flt hc70__184).2.2.2 (by decide) (by decide) k) ?_
            show OGo p e below _ (s₁.setTop (mkF m 84 #[.val (.ref a1), .val (.ref a2)] []))
            refine OGo.to (fun _ k => XS.iconst X0.here hx rfl (hb hby d7_84) k) ?_
            show OGo p e below _ (s₁.setTop (mkF m 85 #[.val (.ref a1), .val (.ref a2)] [(.int (1 : Int32))]))
            refine OGo.ret (Q := Q7 Z a1 a2 k1 k2 nn o1 o2 h0 n0) X0 (some (.int (1 : Int32))) (fun h => by rw [Bd.returns] at h; cases h) Bd.notSynchronized (fun fs hr => retN X0 hx (t := .boolean) (z := (1 : Int32)) Bd.returns (by simp) (hb hby d7_85) hr) ?_ (by decide) (by decide)
            show Q7 Z a1 a2 k1 k2 nn o1 o2 h0 n0 _ s₁.heap _
            rw [e0]
            exact ⟨rfl, N0, rfl⟩
        ·  -- pc 53: no
          refine OGo.to (fun _ k => XS.icmpYes X0.here hx rfl (pc0 := 53) (pc' := 67) rfl (hb hby d7_53) rfl (flt hc53__177).2.2.2 (by decide) (by decide) k) ?_
          show OGo p e below _ (s₁.setTop (mkF m 67 #[.val (.ref a1), .val (.ref a2)] []))
          refine OGo.to (fun _ k => XS.aloadN X0.here hx rfl (hb hby d7_67) rfl rfl k) ?_
          show OGo p e below _ (s₁.setTop (mkF m 68 #[.val (.ref a1), .val (.ref a2)] [(.ref a1)]))
          have Vq_190 := V1
          obtain ⟨cl_190, Ar_190, q_190, S_190, M_190, Hs_190, G_190⟩ := Vq_190
          refine OGo.to (fun _ k => X0.arraylength hx (by rw [e0]; exact Ar_190.1) (State.isArrayOf_alike hZ.alike Ar_190.2.1) (g := (mkF m 68 #[.val (.ref a1), .val (.ref a2)] [(.ref a1)])) rfl rfl (hb hby d7_68) _ k) ?_
          rw [len_of S_190 M_190]
          show OGo p e below _ (s₁.setTop (mkF m 69 #[.val (.ref a1), .val (.ref a2)] [(.int nn)]))
          refine OGo.to (fun _ k => XS.iconst X0.here hx rfl (hb hby d7_69) k) ?_
          show OGo p e below _ (s₁.setTop (mkF m 70 #[.val (.ref a1), .val (.ref a2)] [(.int (4 : Int32)), (.int nn)]))
          by_cases hc70__191 : (4 : Int32) < nn
          ·  -- pc 70: yes
            refine OGo.to (fun _ k => XS.icmpNo X0.here hx rfl (hb hby d7_70) rfl (tlt hc70__191).2.2.2 k) ?_
            show OGo p e below _ (s₁.setTop (mkF m 73 #[.val (.ref a1), .val (.ref a2)] []))
            refine OGo.to (fun _ k => XS.aloadN X0.here hx rfl (hb hby d7_73) rfl rfl k) ?_
            show OGo p e below _ (s₁.setTop (mkF m 74 #[.val (.ref a1), .val (.ref a2)] [(.ref a1)]))
            refine OGo.to (fun _ k => XS.iconst X0.here hx rfl (hb hby d7_74) k) ?_
            show OGo p e below _ (s₁.setTop (mkF m 75 #[.val (.ref a1), .val (.ref a2)] [(.int (4 : Int32)), (.ref a1)]))
            have Vq_192 := V1
            obtain ⟨cl_192, Ar_192, q_192, S_192, M_192, Hs_192, G_192⟩ := Vq_192
            have hin_193 : ¬ ((4 : Int32) < 0 ∨ cl_192.slots.size ≤ ((4 : Int32)).toNatClampNeg) := inb_of S_192 ⟨by decide, hc70__191⟩
            have hat_193 : cl_192.slots[((4 : Int32)).toNatClampNeg]? = some (.int (o1.getD 4 (0 : Int32))) := Hs_192.at hin_193 (own_getD o1 4)
            refine OGo.to (fun _ k => X0.iaload hx (j := (4 : Int32)) (v := (.int (o1.getD 4 (0 : Int32)))) (by rw [e0]; exact Ar_192.1) (State.isArrayOf_alike hZ.alike Ar_192.2.1) Ar_192.2.2 hin_193 hat_193 (g := (mkF m 75 #[.val (.ref a1), .val (.ref a2)] [(.int (4 : Int32)), (.ref a1)])) rfl rfl (hb hby d7_75) _ k) ?_
            show OGo p e below _ (s₁.setTop (mkF m 76 #[.val (.ref a1), .val (.ref a2)] [(.int (o1.getD 4 (0 : Int32)))]))
            refine OGo.to (fun _ k => XS.aloadN X0.here hx rfl (hb hby d7_76) rfl rfl k) ?_
            show OGo p e below _ (s₁.setTop (mkF m 77 #[.val (.ref a1), .val (.ref a2)] [(.ref a2), (.int (o1.getD 4 (0 : Int32)))]))
            refine OGo.to (fun _ k => XS.iconst X0.here hx rfl (hb hby d7_77) k) ?_
            show OGo p e below _ (s₁.setTop (mkF m 78 #[.val (.ref a1), .val (.ref a2)] [(.int (4 : Int32)), (.ref a2), (.int (o1.getD 4 (0 : Int32)))]))
            have Vq_194 := V2
            obtain ⟨cl_194, Ar_194, q_194, S_194, M_194, Hs_194, G_194⟩ := Vq_194
            have hin_195 : ¬ ((4 : Int32) < 0 ∨ cl_194.slots.size ≤ ((4 : Int32)).toNatClampNeg) := inb_of S_194 ⟨by decide, hc70__191⟩
            have hat_195 : cl_194.slots[((4 : Int32)).toNatClampNeg]? = some (.int (o2.getD 4 (0 : Int32))) := Hs_194.at hin_195 (own_getD o2 4)
            refine OGo.to (fun _ k => X0.iaload hx (j := (4 : Int32)) (v := (.int (o2.getD 4 (0 : Int32)))) (by rw [e0]; exact Ar_194.1) (State.isArrayOf_alike hZ.alike Ar_194.2.1) Ar_194.2.2 hin_195 hat_195 (g := (mkF m 78 #[.val (.ref a1), .val (.ref a2)] [(.int (4 : Int32)), (.ref a2), (.int (o1.getD 4 (0 : Int32)))])) rfl rfl (hb hby d7_78) _ k) ?_
            show OGo p e below _ (s₁.setTop (mkF m 79 #[.val (.ref a1), .val (.ref a2)] [(.int (o2.getD 4 (0 : Int32))), (.int (o1.getD 4 (0 : Int32)))]))
            have hc79__196 : (o1.getD 4 (0 : Int32)) = (o2.getD 4 (0 : Int32)) := by rw [heq]
            refine OGo.to (fun _ k => XS.icmpYes X0.here hx rfl (pc0 := 79) (pc' := 84) rfl (hb hby d7_79) rfl (teq hc79__196).1 (by decide) (by decide) k) ?_
            show OGo p e below _ (s₁.setTop (mkF m 84 #[.val (.ref a1), .val (.ref a2)] []))
            refine OGo.to (fun _ k => XS.iconst X0.here hx rfl (hb hby d7_84) k) ?_
            show OGo p e below _ (s₁.setTop (mkF m 85 #[.val (.ref a1), .val (.ref a2)] [(.int (1 : Int32))]))
            refine OGo.ret (Q := Q7 Z a1 a2 k1 k2 nn o1 o2 h0 n0) X0 (some (.int (1 : Int32))) (fun h => by rw [Bd.returns] at h; cases h) Bd.notSynchronized (fun fs hr => retN X0 hx (t := .boolean) (z := (1 : Int32)) Bd.returns (by simp) (hb hby d7_85) hr) ?_ (by decide) (by decide)
            show Q7 Z a1 a2 k1 k2 nn o1 o2 h0 n0 _ s₁.heap _
            rw [e0]
            exact ⟨rfl, N0, rfl⟩
          ·  -- pc 70: no
            refine OGo.to (fun _ k => XS.icmpYes X0.here hx rfl (pc0 := 70) (pc' := 84) rfl (hb hby d7_70) rfl (flt hc70__191).2.2.2 (by decide) (by decide) k) ?_
            show OGo p e below _ (s₁.setTop (mkF m 84 #[.val (.ref a1), .val (.ref a2)] []))
            refine OGo.to (fun _ k => XS.iconst X0.here hx rfl (hb hby d7_84) k) ?_
            show OGo p e below _ (s₁.setTop (mkF m 85 #[.val (.ref a1), .val (.ref a2)] [(.int (1 : Int32))]))
            refine OGo.ret (Q := Q7 Z a1 a2 k1 k2 nn o1 o2 h0 n0) X0 (some (.int (1 : Int32))) (fun h => by rw [Bd.returns] at h; cases h) Bd.notSynchronized (fun fs hr => retN X0 hx (t := .boolean) (z := (1 : Int32)) Bd.returns (by simp) (hb hby d7_85) hr) ?_ (by decide) (by decide)
            show Q7 Z a1 a2 k1 k2 nn o1 o2 h0 n0 _ s₁.heap _
            rw [e0]
            exact ⟨rfl, N0, rfl⟩
      ·  -- pc 36: no
        refine OGo.to (fun _ k => XS.icmpYes X0.here hx rfl (pc0 := 36) (pc' := 50) rfl (hb hby d7_36) rfl (flt hc36__170).2.2.2 (by decide) (by decide) k) ?_
        show OGo p e below _ (s₁.setTop (mkF m 50 #[.val (.ref a1), .val (.ref a2)] []))
        refine OGo.to (fun _ k => XS.aloadN X0.here hx rfl (hb hby d7_50) rfl rfl k) ?_
        show OGo p e below _ (s₁.setTop (mkF m 51 #[.val (.ref a1), .val (.ref a2)] [(.ref a1)]))
        have Vq_197 := V1
        obtain ⟨cl_197, Ar_197, q_197, S_197, M_197, Hs_197, G_197⟩ := Vq_197
        refine OGo.to (fun _ k => X0.arraylength hx (by rw [e0]; exact Ar_197.1) (State.isArrayOf_alike hZ.alike Ar_197.2.1) (g := (mkF m 51 #[.val (.ref a1), .val (.ref a2)] [(.ref a1)])) rfl rfl (hb hby d7_51) _ k) ?_
        rw [len_of S_197 M_197]
        show OGo p e below _ (s₁.setTop (mkF m 52 #[.val (.ref a1), .val (.ref a2)] [(.int nn)]))
        refine OGo.to (fun _ k => XS.iconst X0.here hx rfl (hb hby d7_52) k) ?_
        show OGo p e below _ (s₁.setTop (mkF m 53 #[.val (.ref a1), .val (.ref a2)] [(.int (3 : Int32)), (.int nn)]))
        by_cases hc53__198 : (3 : Int32) < nn
        ·  -- pc 53: yes
          refine OGo.to (fun _ k => XS.icmpNo X0.here hx rfl (hb hby d7_53) rfl (tlt hc53__198).2.2.2 k) ?_
          show OGo p e below _ (s₁.setTop (mkF m 56 #[.val (.ref a1), .val (.ref a2)] []))
          refine OGo.to (fun _ k => XS.aloadN X0.here hx rfl (hb hby d7_56) rfl rfl k) ?_
          show OGo p e below _ (s₁.setTop (mkF m 57 #[.val (.ref a1), .val (.ref a2)] [(.ref a1)]))
          refine OGo.to (fun _ k => XS.iconst X0.here hx rfl (hb hby d7_57) k) ?_
          show OGo p e below _ (s₁.setTop (mkF m 58 #[.val (.ref a1), .val (.ref a2)] [(.int (3 : Int32)), (.ref a1)]))
          have Vq_199 := V1
          obtain ⟨cl_199, Ar_199, q_199, S_199, M_199, Hs_199, G_199⟩ := Vq_199
          have hin_200 : ¬ ((3 : Int32) < 0 ∨ cl_199.slots.size ≤ ((3 : Int32)).toNatClampNeg) := inb_of S_199 ⟨by decide, hc53__198⟩
          have hat_200 : cl_199.slots[((3 : Int32)).toNatClampNeg]? = some (.int (o1.getD 3 (0 : Int32))) := Hs_199.at hin_200 (own_getD o1 3)
          refine OGo.to (fun _ k => X0.iaload hx (j := (3 : Int32)) (v := (.int (o1.getD 3 (0 : Int32)))) (by rw [e0]; exact Ar_199.1) (State.isArrayOf_alike hZ.alike Ar_199.2.1) Ar_199.2.2 hin_200 hat_200 (g := (mkF m 58 #[.val (.ref a1), .val (.ref a2)] [(.int (3 : Int32)), (.ref a1)])) rfl rfl (hb hby d7_58) _ k) ?_
          show OGo p e below _ (s₁.setTop (mkF m 59 #[.val (.ref a1), .val (.ref a2)] [(.int (o1.getD 3 (0 : Int32)))]))
          refine OGo.to (fun _ k => XS.aloadN X0.here hx rfl (hb hby d7_59) rfl rfl k) ?_
          show OGo p e below _ (s₁.setTop (mkF m 60 #[.val (.ref a1), .val (.ref a2)] [(.ref a2), (.int (o1.getD 3 (0 : Int32)))]))
          refine OGo.to (fun _ k => XS.iconst X0.here hx rfl (hb hby d7_60) k) ?_
          show OGo p e below _ (s₁.setTop (mkF m 61 #[.val (.ref a1), .val (.ref a2)] [(.int (3 : Int32)), (.ref a2), (.int (o1.getD 3 (0 : Int32)))]))
          have Vq_201 := V2
          obtain ⟨cl_201, Ar_201, q_201, S_201, M_201, Hs_201, G_201⟩ := Vq_201
          have hin_202 : ¬ ((3 : Int32) < 0 ∨ cl_201.slots.size ≤ ((3 : Int32)).toNatClampNeg) := inb_of S_201 ⟨by decide, hc53__198⟩
          have hat_202 : cl_201.slots[((3 : Int32)).toNatClampNeg]? = some (.int (o2.getD 3 (0 : Int32))) := Hs_201.at hin_202 (own_getD o2 3)
          refine OGo.to (fun _ k => X0.iaload hx (j := (3 : Int32)) (v := (.int (o2.getD 3 (0 : Int32)))) (by rw [e0]; exact Ar_201.1) (State.isArrayOf_alike hZ.alike Ar_201.2.1) Ar_201.2.2 hin_202 hat_202 (g := (mkF m 61 #[.val (.ref a1), .val (.ref a2)] [(.int (3 : Int32)), (.ref a2), (.int (o1.getD 3 (0 : Int32)))])) rfl rfl (hb hby d7_61) _ k) ?_
          show OGo p e below _ (s₁.setTop (mkF m 62 #[.val (.ref a1), .val (.ref a2)] [(.int (o2.getD 3 (0 : Int32))), (.int (o1.getD 3 (0 : Int32)))]))
          have hc62__203 : (o1.getD 3 (0 : Int32)) = (o2.getD 3 (0 : Int32)) := by rw [heq]
          refine OGo.to (fun _ k => XS.icmpYes X0.here hx rfl (pc0 := 62) (pc' := 67) rfl (hb hby d7_62) rfl (teq hc62__203).1 (by decide) (by decide) k) ?_
          show OGo p e below _ (s₁.setTop (mkF m 67 #[.val (.ref a1), .val (.ref a2)] []))
          refine OGo.to (fun _ k => XS.aloadN X0.here hx rfl (hb hby d7_67) rfl rfl k) ?_
          show OGo p e below _ (s₁.setTop (mkF m 68 #[.val (.ref a1), .val (.ref a2)] [(.ref a1)]))
          have Vq_204 := V1
          obtain ⟨cl_204, Ar_204, q_204, S_204, M_204, Hs_204, G_204⟩ := Vq_204
          refine OGo.to (fun _ k => X0.arraylength hx (by rw [e0]; exact Ar_204.1) (State.isArrayOf_alike hZ.alike Ar_204.2.1) (g := (mkF m 68 #[.val (.ref a1), .val (.ref a2)] [(.ref a1)])) rfl rfl (hb hby d7_68) _ k) ?_
          rw [len_of S_204 M_204]
          show OGo p e below _ (s₁.setTop (mkF m 69 #[.val (.ref a1), .val (.ref a2)] [(.int nn)]))
          refine OGo.to (fun _ k => XS.iconst X0.here hx rfl (hb hby d7_69) k) ?_
          show OGo p e below _ (s₁.setTop (mkF m 70 #[.val (.ref a1), .val (.ref a2)] [(.int (4 : Int32)), (.int nn)]))
          by_cases hc70__205 : (4 : Int32) < nn
          ·  -- pc 70: yes
            refine OGo.to (fun _ k => XS.icmpNo X0.here hx rfl (hb hby d7_70) rfl (tlt hc70__205).2.2.2 k) ?_
            show OGo p e below _ (s₁.setTop (mkF m 73 #[.val (.ref a1), .val (.ref a2)] []))
            refine OGo.to (fun _ k => XS.aloadN X0.here hx rfl (hb hby d7_73) rfl rfl k) ?_
            show OGo p e below _ (s₁.setTop (mkF m 74 #[.val (.ref a1), .val (.ref a2)] [(.ref a1)]))
            refine OGo.to (fun _ k => XS.iconst X0.here hx rfl (hb hby d7_74) k) ?_
            show OGo p e below _ (s₁.setTop (mkF m 75 #[.val (.ref a1), .val (.ref a2)] [(.int (4 : Int32)), (.ref a1)]))
            have Vq_206 := V1
            obtain ⟨cl_206, Ar_206, q_206, S_206, M_206, Hs_206, G_206⟩ := Vq_206
            have hin_207 : ¬ ((4 : Int32) < 0 ∨ cl_206.slots.size ≤ ((4 : Int32)).toNatClampNeg) := inb_of S_206 ⟨by decide, hc70__205⟩
            have hat_207 : cl_206.slots[((4 : Int32)).toNatClampNeg]? = some (.int (o1.getD 4 (0 : Int32))) := Hs_206.at hin_207 (own_getD o1 4)
            refine OGo.to (fun _ k => X0.iaload hx (j := (4 : Int32)) (v := (.int (o1.getD 4 (0 : Int32)))) (by rw [e0]; exact Ar_206.1) (State.isArrayOf_alike hZ.alike Ar_206.2.1) Ar_206.2.2 hin_207 hat_207 (g := (mkF m 75 #[.val (.ref a1), .val (.ref a2)] [(.int (4 : Int32)), (.ref a1)])) rfl rfl (hb hby d7_75) _ k) ?_
            show OGo p e below _ (s₁.setTop (mkF m 76 #[.val (.ref a1), .val (.ref a2)] [(.int (o1.getD 4 (0 : Int32)))]))
            refine OGo.to (fun _ k => XS.aloadN X0.here hx rfl (hb hby d7_76) rfl rfl k) ?_
            show OGo p e below _ (s₁.setTop (mkF m 77 #[.val (.ref a1), .val (.ref a2)] [(.ref a2), (.int (o1.getD 4 (0 : Int32)))]))
            refine OGo.to (fun _ k => XS.iconst X0.here hx rfl (hb hby d7_77) k) ?_
            show OGo p e below _ (s₁.setTop (mkF m 78 #[.val (.ref a1), .val (.ref a2)] [(.int (4 : Int32)), (.ref a2), (.int (o1.getD 4 (0 : Int32)))]))
            have Vq_208 := V2
            obtain ⟨cl_208, Ar_208, q_208, S_208, M_208, Hs_208, G_208⟩ := Vq_208
            have hin_209 : ¬ ((4 : Int32) < 0 ∨ cl_208.slots.size ≤ ((4 : Int32)).toNatClampNeg) := inb_of S_208 ⟨by decide, hc70__205⟩
            have hat_209 : cl_208.slots[((4 : Int32)).toNatClampNeg]? = some (.int (o2.getD 4 (0 : Int32))) := Hs_208.at hin_209 (own_getD o2 4)
            refine OGo.to (fun _ k => X0.iaload hx (j := (4 : Int32)) (v := (.int (o2.getD 4 (0 : Int32)))) (by rw [e0]; exact Ar_208.1) (State.isArrayOf_alike hZ.alike Ar_208.2.1) Ar_208.2.2 hin_209 hat_209 (g := (mkF m 78 #[.val (.ref a1), .val (.ref a2)] [(.int (4 : Int32)), (.ref a2), (.int (o1.getD 4 (0 : Int32)))])) rfl rfl (hb hby d7_78) _ k) ?_
            show OGo p e below _ (s₁.setTop (mkF m 79 #[.val (.ref a1), .val (.ref a2)] [(.int (o2.getD 4 (0 : Int32))), (.int (o1.getD 4 (0 : Int32)))]))
            have hc79__210 : (o1.getD 4 (0 : Int32)) = (o2.getD 4 (0 : Int32)) := by rw [heq]
            refine OGo.to (fun _ k => XS.icmpYes X0.here hx rfl (pc0 := 79) (pc' := 84) rfl (hb hby d7_79) rfl (teq hc79__210).1 (by decide) (by decide) k) ?_
            show OGo p e below _ (s₁.setTop (mkF m 84 #[.val (.ref a1), .val (.ref a2)] []))
            refine OGo.to (fun _ k => XS.iconst X0.here hx rfl (hb hby d7_84) k) ?_
            show OGo p e below _ (s₁.setTop (mkF m 85 #[.val (.ref a1), .val (.ref a2)] [(.int (1 : Int32))]))
            refine OGo.ret (Q := Q7 Z a1 a2 k1 k2 nn o1 o2 h0 n0) X0 (some (.int (1 : Int32))) (fun h => by rw [Bd.returns] at h; cases h) Bd.notSynchronized (fun fs hr => retN X0 hx (t := .boolean) (z := (1 : Int32)) Bd.returns (by simp) (hb hby d7_85) hr) ?_ (by decide) (by decide)
            show Q7 Z a1 a2 k1 k2 nn o1 o2 h0 n0 _ s₁.heap _
            rw [e0]
            exact ⟨rfl, N0, rfl⟩
          ·  -- pc 70: no
            refine OGo.to (fun _ k => XS.icmpYes X0.here hx rfl (pc0 := 70) (pc' := 84) rfl (hb hby d7_70) rfl (flt hc70__205).2.2.2 (by decide) (by decide) k) ?_
            show OGo p e below _ (s₁.setTop (mkF m 84 #[.val (.ref a1), .val (.ref a2)] []))
            refine OGo.to (fun _ k => XS.iconst X0.here hx rfl (hb hby d7_84) k) ?_
            show OGo p e below _ (s₁.setTop (mkF m 85 #[.val (.ref a1), .val (.ref a2)] [(.int (1 : Int32))]))
            refine OGo.ret (Q := Q7 Z a1 a2 k1 k2 nn o1 o2 h0 n0) X0 (some (.int (1 : Int32))) (fun h => by rw [Bd.returns] at h; cases h) Bd.notSynchronized (fun fs hr => retN X0 hx (t := .boolean) (z := (1 : Int32)) Bd.returns (by simp) (hb hby d7_85) hr) ?_ (by decide) (by decide)
            show Q7 Z a1 a2 k1 k2 nn o1 o2 h0 n0 _ s₁.heap _
            rw [e0]
            exact ⟨rfl, N0, rfl⟩
        ·  -- pc 53: no
          refine OGo.to (fun _ k => XS.icmpYes X0.here hx rfl (pc0 := 53) (pc' := 67) rfl (hb hby d7_53) rfl (flt hc53__198).2.2.2 (by decide) (by decide) k) ?_
          show OGo p e below _ (s₁.setTop (mkF m 67 #[.val (.ref a1), .val (.ref a2)] []))
          refine OGo.to (fun _ k => XS.aloadN X0.here hx rfl (hb hby d7_67) rfl rfl k) ?_
          show OGo p e below _ (s₁.setTop (mkF m 68 #[.val (.ref a1), .val (.ref a2)] [(.ref a1)]))
          have Vq_211 := V1
          obtain ⟨cl_211, Ar_211, q_211, S_211, M_211, Hs_211, G_211⟩ := Vq_211
          refine OGo.to (fun _ k => X0.arraylength hx (by rw [e0]; exact Ar_211.1) (State.isArrayOf_alike hZ.alike Ar_211.2.1) (g := (mkF m 68 #[.val (.ref a1), .val (.ref a2)] [(.ref a1)])) rfl rfl (hb hby d7_68) _ k) ?_
          rw [len_of S_211 M_211]
          show OGo p e below _ (s₁.setTop (mkF m 69 #[.val (.ref a1), .val (.ref a2)] [(.int nn)]))
          refine OGo.to (fun _ k => XS.iconst X0.here hx rfl (hb hby d7_69) k) ?_
          show OGo p e below _ (s₁.setTop (mkF m 70 #[.val (.ref a1), .val (.ref a2)] [(.int (4 : Int32)), (.int nn)]))
          by_cases hc70__212 : (4 : Int32) < nn
          ·  -- pc 70: yes
            refine OGo.to (fun _ k => XS.icmpNo X0.here hx rfl (hb hby d7_70) rfl (tlt hc70__212).2.2.2 k) ?_
            show OGo p e below _ (s₁.setTop (mkF m 73 #[.val (.ref a1), .val (.ref a2)] []))
            refine OGo.to (fun _ k => XS.aloadN X0.here hx rfl (hb hby d7_73) rfl rfl k) ?_
            show OGo p e below _ (s₁.setTop (mkF m 74 #[.val (.ref a1), .val (.ref a2)] [(.ref a1)]))
            refine OGo.to (fun _ k => XS.iconst X0.here hx rfl (hb hby d7_74) k) ?_
            show OGo p e below _ (s₁.setTop (mkF m 75 #[.val (.ref a1), .val (.ref a2)] [(.int (4 : Int32)), (.ref a1)]))
            have Vq_213 := V1
            obtain ⟨cl_213, Ar_213, q_213, S_213, M_213, Hs_213, G_213⟩ := Vq_213
            have hin_214 : ¬ ((4 : Int32) < 0 ∨ cl_213.slots.size ≤ ((4 : Int32)).toNatClampNeg) := inb_of S_213 ⟨by decide, hc70__212⟩
            have hat_214 : cl_213.slots[((4 : Int32)).toNatClampNeg]? = some (.int (o1.getD 4 (0 : Int32))) := Hs_213.at hin_214 (own_getD o1 4)
            refine OGo.to (fun _ k => X0.iaload hx (j := (4 : Int32)) (v := (.int (o1.getD 4 (0 : Int32)))) (by rw [e0]; exact Ar_213.1) (State.isArrayOf_alike hZ.alike Ar_213.2.1) Ar_213.2.2 hin_214 hat_214 (g := (mkF m 75 #[.val (.ref a1), .val (.ref a2)] [(.int (4 : Int32)), (.ref a1)])) rfl rfl (hb hby d7_75) _ k) ?_
            show OGo p e below _ (s₁.setTop (mkF m 76 #[.val (.ref a1), .val (.ref a2)] [(.int (o1.getD 4 (0 : Int32)))]))
            refine OGo.to (fun _ k => XS.aloadN X0.here hx rfl (hb hby d7_76) rfl rfl k) ?_
            show OGo p e below _ (s₁.setTop (mkF m 77 #[.val (.ref a1), .val (.ref a2)] [(.ref a2), (.int (o1.getD 4 (0 : Int32)))]))
            refine OGo.to (fun _ k => XS.iconst X0.here hx rfl (hb hby d7_77) k) ?_
            show OGo p e below _ (s₁.setTop (mkF m 78 #[.val (.ref a1), .val (.ref a2)] [(.int (4 : Int32)), (.ref a2), (.int (o1.getD 4 (0 : Int32)))]))
            have Vq_215 := V2
            obtain ⟨cl_215, Ar_215, q_215, S_215, M_215, Hs_215, G_215⟩ := Vq_215
            have hin_216 : ¬ ((4 : Int32) < 0 ∨ cl_215.slots.size ≤ ((4 : Int32)).toNatClampNeg) := inb_of S_215 ⟨by decide, hc70__212⟩
            have hat_216 : cl_215.slots[((4 : Int32)).toNatClampNeg]? = some (.int (o2.getD 4 (0 : Int32))) := Hs_215.at hin_216 (own_getD o2 4)
            refine OGo.to (fun _ k => X0.iaload hx (j := (4 : Int32)) (v := (.int (o2.getD 4 (0 : Int32)))) (by rw [e0]; exact Ar_215.1) (State.isArrayOf_alike hZ.alike Ar_215.2.1) Ar_215.2.2 hin_216 hat_216 (g := (mkF m 78 #[.val (.ref a1), .val (.ref a2)] [(.int (4 : Int32)), (.ref a2), (.int (o1.getD 4 (0 : Int32)))])) rfl rfl (hb hby d7_78) _ k) ?_
            show OGo p e below _ (s₁.setTop (mkF m 79 #[.val (.ref a1), .val (.ref a2)] [(.int (o2.getD 4 (0 : Int32))), (.int (o1.getD 4 (0 : Int32)))]))
            have hc79__217 : (o1.getD 4 (0 : Int32)) = (o2.getD 4 (0 : Int32)) := by rw [heq]
            refine OGo.to (fun _ k => XS.icmpYes X0.here hx rfl (pc0 := 79) (pc' := 84) rfl (hb hby d7_79) rfl (teq hc79__217).1 (by decide) (by decide) k) ?_
            show OGo p e below _ (s₁.setTop (mkF m 84 #[.val (.ref a1), .val (.ref a2)] []))
            refine OGo.to (fun _ k => XS.iconst X0.here hx rfl (hb hby d7_84) k) ?_
            show OGo p e below _ (s₁.setTop (mkF m 85 #[.val (.ref a1), .val (.ref a2)] [(.int (1 : Int32))]))
            refine OGo.ret (Q := Q7 Z a1 a2 k1 k2 nn o1 o2 h0 n0) X0 (some (.int (1 : Int32))) (fun h => by rw [Bd.returns] at h; cases h) Bd.notSynchronized (fun fs hr => retN X0 hx (t := .boolean) (z := (1 : Int32)) Bd.returns (by simp) (hb hby d7_85) hr) ?_ (by decide) (by decide)
            show Q7 Z a1 a2 k1 k2 nn o1 o2 h0 n0 _ s₁.heap _
            rw [e0]
            exact ⟨rfl, N0, rfl⟩
          ·  -- pc 70: no
            refine OGo.to (fun _ k => XS.icmpYes X0.here hx rfl (pc0 := 70) (pc' := 84) rfl (hb hby d7_70) rfl (flt hc70__212).2.2.2 (by decide) (by decide) k) ?_
            show OGo p e below _ (s₁.setTop (mkF m 84 #[.val (.ref a1), .val (.ref a2)] []))
            refine OGo.to (fun _ k => XS.iconst X0.here hx rfl (hb hby d7_84) k) ?_
            show OGo p e below _ (s₁.setTop (mkF m 85 #[.val (.ref a1), .val (.ref a2)] [(.int (1 : Int32))]))
            refine OGo.ret (Q := Q7 Z a1 a2 k1 k2 nn o1 o2 h0 n0) X0 (some (.int (1 : Int32))) (fun h => by rw [Bd.returns] at h; cases h) Bd.notSynchronized (fun fs hr => retN X0 hx (t := .boolean) (z := (1 : Int32)) Bd.returns (by simp) (hb hby d7_85) hr) ?_ (by decide) (by decide)
            show Q7 Z a1 a2 k1 k2 nn o1 o2 h0 n0 _ s₁.heap _
            rw [e0]
            exact ⟨rfl, N0, rfl⟩
theorem d6_0 : decode prog_38_method_7_code 0 = .ok (.aload_n 1, 1) := by decide +kernel
theorem d6_1 : decode prog_38_method_7_code 1 = .ok (.arraylength, 1) := by decide +kernel
theorem d6_2 : decode prog_38_method_7_code 2 = .ok (.newarray .int, 2) := by decide +kernel
theorem d6_4 : decode prog_38_method_7_code 4 = .ok (.astore_n 2, 1) := by decide +kernel
theorem d6_5 : decode prog_38_method_7_code 5 = .ok (.iconst 0, 1) := by decide +kernel
theorem d6_6 : decode prog_38_method_7_code 6 = .ok (.istore_n 3, 1) := by decide +kernel
theorem d6_7 : decode prog_38_method_7_code 7 = .ok (.iconst 0, 1) := by decide +kernel
theorem d6_8 : decode prog_38_method_7_code 8 = .ok (.istore 4, 2) := by decide +kernel
theorem d6_10 : decode prog_38_method_7_code 10 = .ok (.iload 4, 2) := by decide +kernel
theorem d6_12 : decode prog_38_method_7_code 12 = .ok (.aload_n 1, 1) := by decide +kernel
theorem d6_13 : decode prog_38_method_7_code 13 = .ok (.arraylength, 1) := by decide +kernel
theorem d6_14 : decode prog_38_method_7_code 14 = .ok (.if_icmp .ge 56, 3) := by decide +kernel
theorem d6_17 : decode prog_38_method_7_code 17 = .ok (.iload_n 3, 1) := by decide +kernel
theorem d6_18 : decode prog_38_method_7_code 18 = .ok (.aload_n 0, 1) := by decide +kernel
theorem d6_19 : decode prog_38_method_7_code 19 = .ok (.arraylength, 1) := by decide +kernel
theorem d6_20 : decode prog_38_method_7_code 20 = .ok (.if_icmp .ge 19, 3) := by decide +kernel
theorem d6_23 : decode prog_38_method_7_code 23 = .ok (.aload_n 0, 1) := by decide +kernel
theorem d6_24 : decode prog_38_method_7_code 24 = .ok (.iload_n 3, 1) := by decide +kernel
theorem d6_25 : decode prog_38_method_7_code 25 = .ok (.iaload, 1) := by decide +kernel
theorem d6_26 : decode prog_38_method_7_code 26 = .ok (.aload_n 1, 1) := by decide +kernel
theorem d6_27 : decode prog_38_method_7_code 27 = .ok (.iload 4, 2) := by decide +kernel
theorem d6_29 : decode prog_38_method_7_code 29 = .ok (.iaload, 1) := by decide +kernel
theorem d6_30 : decode prog_38_method_7_code 30 = .ok (.if_icmp .ge 9, 3) := by decide +kernel
theorem d6_33 : decode prog_38_method_7_code 33 = .ok (.iinc 3 1, 3) := by decide +kernel
theorem d6_36 : decode prog_38_method_7_code 36 = .ok (.goto (-19), 3) := by decide +kernel
theorem d6_39 : decode prog_38_method_7_code 39 = .ok (.aload_n 2, 1) := by decide +kernel
theorem d6_40 : decode prog_38_method_7_code 40 = .ok (.iload 4, 2) := by decide +kernel
theorem d6_42 : decode prog_38_method_7_code 42 = .ok (.iload_n 3, 1) := by decide +kernel
theorem d6_43 : decode prog_38_method_7_code 43 = .ok (.aload_n 0, 1) := by decide +kernel
theorem d6_44 : decode prog_38_method_7_code 44 = .ok (.arraylength, 1) := by decide +kernel
theorem d6_45 : decode prog_38_method_7_code 45 = .ok (.if_icmp .ge 17, 3) := by decide +kernel
theorem d6_48 : decode prog_38_method_7_code 48 = .ok (.aload_n 0, 1) := by decide +kernel
theorem d6_49 : decode prog_38_method_7_code 49 = .ok (.iload_n 3, 1) := by decide +kernel
theorem d6_50 : decode prog_38_method_7_code 50 = .ok (.iaload, 1) := by decide +kernel
theorem d6_51 : decode prog_38_method_7_code 51 = .ok (.aload_n 1, 1) := by decide +kernel
theorem d6_52 : decode prog_38_method_7_code 52 = .ok (.iload 4, 2) := by decide +kernel
theorem d6_54 : decode prog_38_method_7_code 54 = .ok (.iaload, 1) := by decide +kernel
theorem d6_55 : decode prog_38_method_7_code 55 = .ok (.if_icmp .ne 7, 3) := by decide +kernel
theorem d6_58 : decode prog_38_method_7_code 58 = .ok (.iload_n 3, 1) := by decide +kernel
theorem d6_59 : decode prog_38_method_7_code 59 = .ok (.goto 4, 3) := by decide +kernel
theorem d6_62 : decode prog_38_method_7_code 62 = .ok (.iconst (-1), 1) := by decide +kernel
theorem d6_63 : decode prog_38_method_7_code 63 = .ok (.iastore, 1) := by decide +kernel
theorem d6_64 : decode prog_38_method_7_code 64 = .ok (.iinc 4 1, 3) := by decide +kernel
theorem d6_67 : decode prog_38_method_7_code 67 = .ok (.goto (-57), 3) := by decide +kernel
theorem d6_70 : decode prog_38_method_7_code 70 = .ok (.aload_n 2, 1) := by decide +kernel
theorem d6_71 : decode prog_38_method_7_code 71 = .ok (.areturn, 1) := by decide +kernel
theorem ef_ent (m : MethodId) (x0 : Addr) (x1 : Addr) : entryFrame m #[(.ref x0), (.ref x1)] 5 = mkF m 0 #[.val (.ref x0), .val (.ref x1), .unset, .unset, .unset] [] := by first | (simp [entryFrame, mkF, argsToLocals, Value.category]; done) | rfl
def Qent (Z : State) (a1 : Addr) (a2 : Addr) (k1 : ClassId) (k2 : ClassId) (hs : List Int32) (ds : List Int32) (h0 : Heap) (n0 : Nat) (v : Option Value) (h : Heap) (L : List Loc) : Prop := ∃ (b : Addr), ∃ (kb : ClassId), v = some (.ref b) ∧ Fr n0 L ∧ Keep h0 h [] ∧ n0 ≤ b ∧ h0.size ≤ b ∧ Arv Z h b kb .int (own_i ds.length) ((own_ent hs ds 0).map Value.int) (.int (0 : Int32))
set_option maxRecDepth 65536 in
set_option maxHeartbeats 40000000 in
theorem rment (l : Launch) (Z : State) (a0 : Array Value) (hw : ∀ d ∈ tables_1, d.before a0 Z = true) (ws : List Jvm.Cond) (a1 : Addr) (a2 : Addr) (k1 : ClassId) (k2 : ClassId) (hs : List Int32) (ds : List Int32) (h0 : Heap) (n0 : Nat) (Z0 : n0 ≤ h0.size) (V1 : Arv Z h0 a1 k1 .int (own_i hs.length) (hs.map Value.int) (.int (0 : Int32))) (V2 : Arv Z h0 a2 k2 .int (own_i ds.length) (ds.map Value.int) (.int (0 : Int32))) (hl1 : hs.length ≤ 5) (hl2 : ds.length ≤ 5) :
    MetFree l (⟨"com/example/cogram/cogram/index/Postings", "entries", "([I[I)[I"⟩ : MethodName) (head1 (Jvm.Cond.code (⟨"com/example/cogram/cogram/index/Postings", "entries", "([I[I)[I"⟩ : MethodName) prog_38_method_7_code 5 (some (.array .int)) :: ws) ({ frames := 0, cells := 1, slots := 5, locals := 0 } : Room)) (fun a U => a = #[(.ref a1), (.ref a2)] ∧ Z.Warmed39 U.vm ∧ U.heap = h0) (fun _ _ _ _ _ => True) (fun _ U o U' => ∃ v L, o = .returned v ∧ Qent Z a1 a2 k1 k2 hs ds h0 n0 v U'.heap L ∧ FrameEnd U o U' L ({ frames := 0, cells := 1, slots := 5, locals := 0 } : Room).cells ({ frames := 0, cells := 1, slots := 5, locals := 0 } : Room).slots) := by
  refine MetFree.of_bodySF (plainFor_of_name pn_1) hisR ?_
  intro p e s m args below meth c s₁ Bd hml0 hP hK
  obtain ⟨rfl, hZ, hh⟩ := hP
  have hx := Bd.exec
  have hby := Bd.bytes
  have hml : c.maxLocals = 5 := hml0
  have hown : s.vm.findClass "com/example/cogram/cogram/index/Postings" = some m.cls := findClass_of_methodNamed Bd.named
  have hnm := (name_of_methodNamed Bd.named Bd.method).1
  have X0 : Stand p l e ({ frames := 0, cells := 1, slots := 5, locals := 0 } : Room) s m #[(.ref a1), (.ref a2)] below meth c s₁ [] 0 0 := Stand.of_body Bd
  have e0 : s₁.heap = h0 := by rw [← hh, Bd.state]; rfl
  have N0 := Fr.nil n0
  show OGo p e below (fun s₂ o => ∃ v L, o = .returned v ∧ Qent Z a1 a2 k1 k2 hs ds h0 n0 v s₂.heap L ∧ FrameEnd s o s₂ L ({ frames := 0, cells := 1, slots := 5, locals := 0 } : Room).cells ({ frames := 0, cells := 1, slots := 5, locals := 0 } : Room).slots) _
  refine OGo.to (fun _ k => castTop (ef_ent m a1 a2) k) ?_
  refine OGo.to (fun _ k => XS.aloadN X0.here hx rfl (hb hby d6_0) rfl rfl k) ?_
  show OGo p e below _ (s₁.setTop (mkF m 1 #[.val (.ref a1), .val (.ref a2), .unset, .unset, .unset] [(.ref a2)]))
  have Vq_1 := V2
  obtain ⟨cl_1, Ar_1, q_1, S_1, M_1, Hs_1, G_1⟩ := Vq_1
  refine OGo.to (fun _ k => X0.arraylength hx (by rw [e0]; exact Ar_1.1) (State.isArrayOf_alike hZ.alike Ar_1.2.1) (g := (mkF m 1 #[.val (.ref a1), .val (.ref a2), .unset, .unset, .unset] [(.ref a2)])) rfl rfl (hb hby d6_1) _ k) ?_
  rw [len_of S_1 M_1]
  show OGo p e below _ (s₁.setTop (mkF m 2 #[.val (.ref a1), .val (.ref a2), .unset, .unset, .unset] [(.int (own_i ds.length))]))
  obtain ⟨T_2, h_2, k_2, X_2, e_2, E_2, A_2, st_2⟩ := newP X0 hx hZ (hw _ (List.mem_of_getElem? (i := 15) rfl)) e0 (g := (mkF m 2 #[.val (.ref a1), .val (.ref a2), .unset, .unset, .unset] [(.int (own_i ds.length))])) rfl (hb hby d6_2) rfl (own_inn _ (by omega)) (cap := 5) (by rw [own_clamp _ (by omega)]; exact hl2) (by decide) (by decide) (by decide)
  obtain ⟨b_2, g_2⟩ : ∃ z, z = h0.size := ⟨_, rfl⟩
  rw [← g_2] at A_2 st_2
  have g_b_2 : n0 ≤ b_2 := Nat.le_trans Z0 (Nat.le_of_eq g_2.symm)
  have sz_b_2 : h0.size ≤ b_2 := Nat.le_trans (Keep.refl h0 []).1 (Nat.le_of_eq g_2.symm)
  refine OGo.to st_2 ?_
  have ne_a1_b_2 : a1 ≠ b_2 := Nat.ne_of_lt (Nat.lt_of_lt_of_le V1.lt (Nat.le_of_eq g_2.symm))
  have ne_a2_b_2 : a2 ≠ b_2 := Nat.ne_of_lt (Nat.lt_of_lt_of_le V2.lt (Nat.le_of_eq g_2.symm))
  have z_3 : n0 ≤ h_2.size := Nat.le_trans Z0 E_2.1
  have K_4 : Keep h0 h_2 [] := (Keep.refl h0 []).ext E_2
  have V_2 : Arv Z h_2 b_2 k_2 .int (own_i ds.length) [] (.int (0 : Int32)) := Arv.new A_2 (own_inn _ (by omega))
  show OGo p e below _ (T_2.setTop (mkF m 4 #[.val (.ref a1), .val (.ref a2), .unset, .unset, .unset] [(.ref b_2)]))
  refine OGo.to (fun _ k => XS.astoreN X_2.here hx rfl (hb hby d6_4) rfl rfl (l' := #[.val (.ref a1), .val (.ref a2), .val (.ref b_2), .unset, .unset]) rfl k) ?_
  show OGo p e below _ (T_2.setTop (mkF m 5 #[.val (.ref a1), .val (.ref a2), .val (.ref b_2), .unset, .unset] []))
  refine OGo.to (fun _ k => XS.iconst X_2.here hx rfl (hb hby d6_5) k) ?_
  show OGo p e below _ (T_2.setTop (mkF m 6 #[.val (.ref a1), .val (.ref a2), .val (.ref b_2), .unset, .unset] [(.int (0 : Int32))]))
  refine OGo.to (fun _ k => XS.istoreN X_2.here hx rfl (hb hby d6_6) rfl (l' := #[.val (.ref a1), .val (.ref a2), .val (.ref b_2), .val (.int (0 : Int32)), .unset]) rfl k) ?_
  show OGo p e below _ (T_2.setTop (mkF m 7 #[.val (.ref a1), .val (.ref a2), .val (.ref b_2), .val (.int (0 : Int32)), .unset] []))
  refine OGo.to (fun _ k => XS.iconst X_2.here hx rfl (hb hby d6_7) k) ?_
  show OGo p e below _ (T_2.setTop (mkF m 8 #[.val (.ref a1), .val (.ref a2), .val (.ref b_2), .val (.int (0 : Int32)), .unset] [(.int (0 : Int32))]))
  refine OGo.to (fun _ k => XS.istore X_2.here hx rfl (hb hby d6_8) rfl (l' := #[.val (.ref a1), .val (.ref a2), .val (.ref b_2), .val (.int (0 : Int32)), .val (.int (0 : Int32))]) rfl k) ?_
  show OGo p e below _ (T_2.setTop (mkF m 10 #[.val (.ref a1), .val (.ref a2), .val (.ref b_2), .val (.int (0 : Int32)), .val (.int (0 : Int32))] []))
  have outer : ∀ (kk i j : Nat) (outs : List Int32) (T : State) (locs : List Loc) (h : Heap), Stand p l e ({ frames := 0, cells := 1, slots := 5, locals := 0 } : Room) s m #[(.ref a1), (.ref a2)] below meth c T locs 1 5 → T.heap = h → Fr n0 locs → n0 ≤ h.size → Keep h0 h [] → Arv Z h b_2 k_2 .int (own_i ds.length) (outs.map Value.int) (.int (0 : Int32)) → i + kk = ds.length → outs.length = i → outs ++ own_ent hs (ds.drop i) j = own_ent hs ds 0 → j ≤ hs.length → OGo p e below (fun s₂ o => ∃ v L, o = .returned v ∧ Qent Z a1 a2 k1 k2 hs ds h0 n0 v s₂.heap L ∧ FrameEnd s o s₂ L ({ frames := 0, cells := 1, slots := 5, locals := 0 } : Room).cells ({ frames := 0, cells := 1, slots := 5, locals := 0 } : Room).slots) (T.setTop (mkF m 10 #[.val (.ref a1), .val (.ref a2), .val (.ref b_2), .val (.int (own_i j)), .val (.int (own_i i))] [])) := by
    intro kk
    induction kk with
    | zero =>
      intro i j outs T locs h X eT N zn Kh V hi ho hres hjl
      have V1h := V1.keep Kh List.not_mem_nil
      have V2h := V2.keep Kh List.not_mem_nil
      show OGo p e below _ (T.setTop (mkF m 10 #[.val (.ref a1), .val (.ref a2), .val (.ref b_2), .val (.int (own_i j)), .val (.int (own_i i))] []))
      refine OGo.to (fun _ k => XS.iload X.here hx rfl (hb hby d6_10) rfl k) ?_
      show OGo p e below _ (T.setTop (mkF m 12 #[.val (.ref a1), .val (.ref a2), .val (.ref b_2), .val (.int (own_i j)), .val (.int (own_i i))] [(.int (own_i i))]))
      refine OGo.to (fun _ k => XS.aloadN X.here hx rfl (hb hby d6_12) rfl rfl k) ?_
      show OGo p e below _ (T.setTop (mkF m 13 #[.val (.ref a1), .val (.ref a2), .val (.ref b_2), .val (.int (own_i j)), .val (.int (own_i i))] [(.ref a2), (.int (own_i i))]))
      have Vq_5 := V2h
      obtain ⟨cl_5, Ar_5, q_5, S_5, M_5, Hs_5, G_5⟩ := Vq_5
      refine OGo.to (fun _ k => X.arraylength hx (by rw [eT]; exact Ar_5.1) (State.isArrayOf_alike hZ.alike Ar_5.2.1) (g := (mkF m 13 #[.val (.ref a1), .val (.ref a2), .val (.ref b_2), .val (.int (own_i j)), .val (.int (own_i i))] [(.ref a2), (.int (own_i i))])) rfl rfl (hb hby d6_13) _ k) ?_
      rw [len_of S_5 M_5]
      show OGo p e below _ (T.setTop (mkF m 14 #[.val (.ref a1), .val (.ref a2), .val (.ref b_2), .val (.int (own_i j)), .val (.int (own_i i))] [(.int (own_i ds.length)), (.int (own_i i))]))
      have hc14__6 : ¬ ((own_i i) < (own_i ds.length)) := own_nil (by omega)
      refine OGo.to (fun _ k => XS.icmpYes X.here hx rfl (pc0 := 14) (pc' := 70) rfl (hb hby d6_14) rfl (flt hc14__6).2.1 (by decide) (by decide) k) ?_
      show OGo p e below _ (T.setTop (mkF m 70 #[.val (.ref a1), .val (.ref a2), .val (.ref b_2), .val (.int (own_i j)), .val (.int (own_i i))] []))
      refine OGo.to (fun _ k => XS.aloadN X.here hx rfl (hb hby d6_70) rfl rfl k) ?_
      show OGo p e below _ (T.setTop (mkF m 71 #[.val (.ref a1), .val (.ref a2), .val (.ref b_2), .val (.int (own_i j)), .val (.int (own_i i))] [(.ref b_2)]))
      refine OGo.ret (Q := Qent Z a1 a2 k1 k2 hs ds h0 n0) X (some (.ref b_2)) (fun h => by rw [Bd.returns] at h; cases h) Bd.notSynchronized (fun fs hr => own_retA X hx Bd.returns rfl rfl (hb hby d6_71) hr) ?_ (by decide) (by decide)
      have hfin : outs = own_ent hs ds 0 := by rw [← hres, List.drop_of_length_le (by omega)]; simp [own_ent]
      show Qent Z a1 a2 k1 k2 hs ds h0 n0 _ T.heap _
      rw [eT]
      exact ⟨b_2, k_2, rfl, N, Kh, g_b_2, sz_b_2, (own_castV V hfin)⟩
    | succ kk ih =>
      intro i j outs T locs h X eT N zn Kh V hi ho hres hjl
      have V1h := V1.keep Kh List.not_mem_nil
      have V2h := V2.keep Kh List.not_mem_nil
      show OGo p e below _ (T.setTop (mkF m 10 #[.val (.ref a1), .val (.ref a2), .val (.ref b_2), .val (.int (own_i j)), .val (.int (own_i i))] []))
      refine OGo.to (fun _ k => XS.iload X.here hx rfl (hb hby d6_10) rfl k) ?_
      show OGo p e below _ (T.setTop (mkF m 12 #[.val (.ref a1), .val (.ref a2), .val (.ref b_2), .val (.int (own_i j)), .val (.int (own_i i))] [(.int (own_i i))]))
      refine OGo.to (fun _ k => XS.aloadN X.here hx rfl (hb hby d6_12) rfl rfl k) ?_
      show OGo p e below _ (T.setTop (mkF m 13 #[.val (.ref a1), .val (.ref a2), .val (.ref b_2), .val (.int (own_i j)), .val (.int (own_i i))] [(.ref a2), (.int (own_i i))]))
      have Vq_7 := V2h
      obtain ⟨cl_7, Ar_7, q_7, S_7, M_7, Hs_7, G_7⟩ := Vq_7
      refine OGo.to (fun _ k => X.arraylength hx (by rw [eT]; exact Ar_7.1) (State.isArrayOf_alike hZ.alike Ar_7.2.1) (g := (mkF m 13 #[.val (.ref a1), .val (.ref a2), .val (.ref b_2), .val (.int (own_i j)), .val (.int (own_i i))] [(.ref a2), (.int (own_i i))])) rfl rfl (hb hby d6_13) _ k) ?_
      rw [len_of S_7 M_7]
      show OGo p e below _ (T.setTop (mkF m 14 #[.val (.ref a1), .val (.ref a2), .val (.ref b_2), .val (.int (own_i j)), .val (.int (own_i i))] [(.int (own_i ds.length)), (.int (own_i i))]))
      have hc14__8 : (own_i i) < (own_i ds.length) := own_il (by omega) (by omega)
      refine OGo.to (fun _ k => XS.icmpNo X.here hx rfl (hb hby d6_14) rfl (tlt hc14__8).2.1 k) ?_
      show OGo p e below _ (T.setTop (mkF m 17 #[.val (.ref a1), .val (.ref a2), .val (.ref b_2), .val (.int (own_i j)), .val (.int (own_i i))] []))
      have hi2 : i < ds.length := by omega
      have inner : ∀ (f jj : Nat), hs.length ≤ jj + f → jj ≤ hs.length → ∀ t, Steps p.tables e below (T.setTop (mkF m 39 #[.val (.ref a1), .val (.ref a2), .val (.ref b_2), .val (.int (own_i (own_adv hs (ds.getD i (0 : Int32)) f jj))), .val (.int (own_i i))] [])) t → Steps p.tables e below (T.setTop (mkF m 17 #[.val (.ref a1), .val (.ref a2), .val (.ref b_2), .val (.int (own_i jj)), .val (.int (own_i i))] [])) t := by
        intro f
        induction f with
        | zero =>
          intro jj hjj hjj2 t k
          show Steps p.tables e below (T.setTop (mkF m 17 #[.val (.ref a1), .val (.ref a2), .val (.ref b_2), .val (.int (own_i jj)), .val (.int (own_i i))] [])) _
          refine XS.iloadN X.here hx rfl (hb hby d6_17) rfl ?_
          show Steps p.tables e below (T.setTop (mkF m 18 #[.val (.ref a1), .val (.ref a2), .val (.ref b_2), .val (.int (own_i jj)), .val (.int (own_i i))] [(.int (own_i jj))])) _
          refine XS.aloadN X.here hx rfl (hb hby d6_18) rfl rfl ?_
          show Steps p.tables e below (T.setTop (mkF m 19 #[.val (.ref a1), .val (.ref a2), .val (.ref b_2), .val (.int (own_i jj)), .val (.int (own_i i))] [(.ref a1), (.int (own_i jj))])) _
          have Vq_9 := V1h
          obtain ⟨cl_9, Ar_9, q_9, S_9, M_9, Hs_9, G_9⟩ := Vq_9
          refine X.arraylength hx (by rw [eT]; exact Ar_9.1) (State.isArrayOf_alike hZ.alike Ar_9.2.1) (g := (mkF m 19 #[.val (.ref a1), .val (.ref a2), .val (.ref b_2), .val (.int (own_i jj)), .val (.int (own_i i))] [(.ref a1), (.int (own_i jj))])) rfl rfl (hb hby d6_19) _ ?_
          rw [len_of S_9 M_9]
          show Steps p.tables e below (T.setTop (mkF m 20 #[.val (.ref a1), .val (.ref a2), .val (.ref b_2), .val (.int (own_i jj)), .val (.int (own_i i))] [(.int (own_i hs.length)), (.int (own_i jj))])) _
          have hc20__10 : ¬ ((own_i jj) < (own_i hs.length)) := own_nil (by omega)
          refine XS.icmpYes X.here hx rfl (pc0 := 20) (pc' := 39) rfl (hb hby d6_20) rfl (flt hc20__10).2.1 (by decide) (by decide) ?_
          show Steps p.tables e below (T.setTop (mkF m 39 #[.val (.ref a1), .val (.ref a2), .val (.ref b_2), .val (.int (own_i jj)), .val (.int (own_i i))] [])) _
          exact k
        | succ f ihf =>
          intro jj hjj hjj2 t k
          show Steps p.tables e below (T.setTop (mkF m 17 #[.val (.ref a1), .val (.ref a2), .val (.ref b_2), .val (.int (own_i jj)), .val (.int (own_i i))] [])) _
          refine XS.iloadN X.here hx rfl (hb hby d6_17) rfl ?_
          show Steps p.tables e below (T.setTop (mkF m 18 #[.val (.ref a1), .val (.ref a2), .val (.ref b_2), .val (.int (own_i jj)), .val (.int (own_i i))] [(.int (own_i jj))])) _
          refine XS.aloadN X.here hx rfl (hb hby d6_18) rfl rfl ?_
          show Steps p.tables e below (T.setTop (mkF m 19 #[.val (.ref a1), .val (.ref a2), .val (.ref b_2), .val (.int (own_i jj)), .val (.int (own_i i))] [(.ref a1), (.int (own_i jj))])) _
          have Vq_11 := V1h
          obtain ⟨cl_11, Ar_11, q_11, S_11, M_11, Hs_11, G_11⟩ := Vq_11
          refine X.arraylength hx (by rw [eT]; exact Ar_11.1) (State.isArrayOf_alike hZ.alike Ar_11.2.1) (g := (mkF m 19 #[.val (.ref a1), .val (.ref a2), .val (.ref b_2), .val (.int (own_i jj)), .val (.int (own_i i))] [(.ref a1), (.int (own_i jj))])) rfl rfl (hb hby d6_19) _ ?_
          rw [len_of S_11 M_11]
          show Steps p.tables e below (T.setTop (mkF m 20 #[.val (.ref a1), .val (.ref a2), .val (.ref b_2), .val (.int (own_i jj)), .val (.int (own_i i))] [(.int (own_i hs.length)), (.int (own_i jj))])) _
          by_cases hc20__12 : (own_i jj) < (own_i hs.length)
          ·  -- pc 20: yes
            refine XS.icmpNo X.here hx rfl (hb hby d6_20) rfl (tlt hc20__12).2.1 ?_
            show Steps p.tables e below (T.setTop (mkF m 23 #[.val (.ref a1), .val (.ref a2), .val (.ref b_2), .val (.int (own_i jj)), .val (.int (own_i i))] [])) _
            refine XS.aloadN X.here hx rfl (hb hby d6_23) rfl rfl ?_
            show Steps p.tables e below (T.setTop (mkF m 24 #[.val (.ref a1), .val (.ref a2), .val (.ref b_2), .val (.int (own_i jj)), .val (.int (own_i i))] [(.ref a1)])) _
            refine XS.iloadN X.here hx rfl (hb hby d6_24) rfl ?_
            show Steps p.tables e below (T.setTop (mkF m 25 #[.val (.ref a1), .val (.ref a2), .val (.ref b_2), .val (.int (own_i jj)), .val (.int (own_i i))] [(.int (own_i jj)), (.ref a1)])) _
            have Vq_13 := V1h
            obtain ⟨cl_13, Ar_13, q_13, S_13, M_13, Hs_13, G_13⟩ := Vq_13
            have hin_14 : ¬ ((own_i jj) < 0 ∨ cl_13.slots.size ≤ ((own_i jj)).toNatClampNeg) := inb_of S_13 ⟨own_inn _ (by omega), own_il (by omega) (own_il' (by omega) hc20__12)⟩
            have hat_14 : cl_13.slots[((own_i jj)).toNatClampNeg]? = some (.int (hs.getD jj (0 : Int32))) := Hs_13.at hin_14 ((congrArg (fun z => (hs.map Value.int).getD z (.int (0 : Int32))) (own_clamp jj (by omega))).trans (own_getD hs jj))
            refine X.iaload hx (j := (own_i jj)) (v := (.int (hs.getD jj (0 : Int32)))) (by rw [eT]; exact Ar_13.1) (State.isArrayOf_alike hZ.alike Ar_13.2.1) Ar_13.2.2 hin_14 hat_14 (g := (mkF m 25 #[.val (.ref a1), .val (.ref a2), .val (.ref b_2), .val (.int (own_i jj)), .val (.int (own_i i))] [(.int (own_i jj)), (.ref a1)])) rfl rfl (hb hby d6_25) _ ?_
            show Steps p.tables e below (T.setTop (mkF m 26 #[.val (.ref a1), .val (.ref a2), .val (.ref b_2), .val (.int (own_i jj)), .val (.int (own_i i))] [(.int (hs.getD jj (0 : Int32)))])) _
            refine XS.aloadN X.here hx rfl (hb hby d6_26) rfl rfl ?_
            show Steps p.tables e below (T.setTop (mkF m 27 #[.val (.ref a1), .val (.ref a2), .val (.ref b_2), .val (.int (own_i jj)), .val (.int (own_i i))] [(.ref a2), (.int (hs.getD jj (0 : Int32)))])) _
            refine XS.iload X.here hx rfl (hb hby d6_27) rfl ?_
            show Steps p.tables e below (T.setTop (mkF m 29 #[.val (.ref a1), .val (.ref a2), .val (.ref b_2), .val (.int (own_i jj)), .val (.int (own_i i))] [(.int (own_i i)), (.ref a2), (.int (hs.getD jj (0 : Int32)))])) _
            have Vq_15 := V2h
            obtain ⟨cl_15, Ar_15, q_15, S_15, M_15, Hs_15, G_15⟩ := Vq_15
            have hin_16 : ¬ ((own_i i) < 0 ∨ cl_15.slots.size ≤ ((own_i i)).toNatClampNeg) := inb_of S_15 ⟨own_inn _ (by omega), own_il (by omega) hi2⟩
            have hat_16 : cl_15.slots[((own_i i)).toNatClampNeg]? = some (.int (ds.getD i (0 : Int32))) := Hs_15.at hin_16 ((congrArg (fun z => (ds.map Value.int).getD z (.int (0 : Int32))) (own_clamp i (by omega))).trans (own_getD ds i))
            refine X.iaload hx (j := (own_i i)) (v := (.int (ds.getD i (0 : Int32)))) (by rw [eT]; exact Ar_15.1) (State.isArrayOf_alike hZ.alike Ar_15.2.1) Ar_15.2.2 hin_16 hat_16 (g := (mkF m 29 #[.val (.ref a1), .val (.ref a2), .val (.ref b_2), .val (.int (own_i jj)), .val (.int (own_i i))] [(.int (own_i i)), (.ref a2), (.int (hs.getD jj (0 : Int32)))])) rfl rfl (hb hby d6_29) _ ?_
            show Steps p.tables e below (T.setTop (mkF m 30 #[.val (.ref a1), .val (.ref a2), .val (.ref b_2), .val (.int (own_i jj)), .val (.int (own_i i))] [(.int (ds.getD i (0 : Int32))), (.int (hs.getD jj (0 : Int32)))])) _
            by_cases hc30__17 : (hs.getD jj (0 : Int32)) < (ds.getD i (0 : Int32))
            ·  -- pc 30: yes
              refine XS.icmpNo X.here hx rfl (hb hby d6_30) rfl (tlt hc30__17).2.1 ?_
              show Steps p.tables e below (T.setTop (mkF m 33 #[.val (.ref a1), .val (.ref a2), .val (.ref b_2), .val (.int (own_i jj)), .val (.int (own_i i))] [])) _
              refine XS.iinc X.here hx rfl (hb hby d6_33) rfl (l' := #[.val (.ref a1), .val (.ref a2), .val (.ref b_2), .val (.int ((own_i jj) + (1 : Int32))), .val (.int (own_i i))]) rfl ?_
              show Steps p.tables e below (T.setTop (mkF m 36 #[.val (.ref a1), .val (.ref a2), .val (.ref b_2), .val (.int ((own_i jj) + (1 : Int32))), .val (.int (own_i i))] [])) _
              refine XS.goto X.here hx rfl (pc0 := 36) (pc' := 17) rfl (hb hby d6_36) (by decide) (by decide) ?_
              show Steps p.tables e below (T.setTop (mkF m 17 #[.val (.ref a1), .val (.ref a2), .val (.ref b_2), .val (.int ((own_i jj) + (1 : Int32))), .val (.int (own_i i))] [])) _
              have hjl2 := own_il' (by omega) hc20__12
              rw [own_succ jj]
              rw [own_adv3 hjl2 hc30__17] at k
              exact ihf (jj + 1) (by omega) (by omega) t k
            ·  -- pc 30: no
              refine XS.icmpYes X.here hx rfl (pc0 := 30) (pc' := 39) rfl (hb hby d6_30) rfl (flt hc30__17).2.1 (by decide) (by decide) ?_
              show Steps p.tables e below (T.setTop (mkF m 39 #[.val (.ref a1), .val (.ref a2), .val (.ref b_2), .val (.int (own_i jj)), .val (.int (own_i i))] [])) _
              rw [own_adv2 hc30__17] at k
              exact k
          ·  -- pc 20: no
            refine XS.icmpYes X.here hx rfl (pc0 := 20) (pc' := 39) rfl (hb hby d6_20) rfl (flt hc20__12).2.1 (by decide) (by decide) ?_
            show Steps p.tables e below (T.setTop (mkF m 39 #[.val (.ref a1), .val (.ref a2), .val (.ref b_2), .val (.int (own_i jj)), .val (.int (own_i i))] [])) _
            rw [own_adv1 (own_ilt' (by omega) hc20__12)] at k
            exact k
      obtain ⟨j2, hj2⟩ : ∃ z, z = own_adv hs (ds.getD i (0 : Int32)) hs.length j := ⟨_, rfl⟩
      have inn := inner hs.length j (by omega) hjl
      rw [← hj2] at inn
      have hj3 : j2 ≤ hs.length := by rw [hj2]; exact own_advLe _ _ _ _ hjl
      refine OGo.to inn ?_
      show OGo p e below _ (T.setTop (mkF m 39 #[.val (.ref a1), .val (.ref a2), .val (.ref b_2), .val (.int (own_i j2)), .val (.int (own_i i))] []))
      refine OGo.to (fun _ k => XS.aloadN X.here hx rfl (hb hby d6_39) rfl rfl k) ?_
      show OGo p e below _ (T.setTop (mkF m 40 #[.val (.ref a1), .val (.ref a2), .val (.ref b_2), .val (.int (own_i j2)), .val (.int (own_i i))] [(.ref b_2)]))
      refine OGo.to (fun _ k => XS.iload X.here hx rfl (hb hby d6_40) rfl k) ?_
      show OGo p e below _ (T.setTop (mkF m 42 #[.val (.ref a1), .val (.ref a2), .val (.ref b_2), .val (.int (own_i j2)), .val (.int (own_i i))] [(.int (own_i i)), (.ref b_2)]))
      refine OGo.to (fun _ k => XS.iloadN X.here hx rfl (hb hby d6_42) rfl k) ?_
      show OGo p e below _ (T.setTop (mkF m 43 #[.val (.ref a1), .val (.ref a2), .val (.ref b_2), .val (.int (own_i j2)), .val (.int (own_i i))] [(.int (own_i j2)), (.int (own_i i)), (.ref b_2)]))
      refine OGo.to (fun _ k => XS.aloadN X.here hx rfl (hb hby d6_43) rfl rfl k) ?_
      show OGo p e below _ (T.setTop (mkF m 44 #[.val (.ref a1), .val (.ref a2), .val (.ref b_2), .val (.int (own_i j2)), .val (.int (own_i i))] [(.ref a1), (.int (own_i j2)), (.int (own_i i)), (.ref b_2)]))
      have Vq_18 := V1h
      obtain ⟨cl_18, Ar_18, q_18, S_18, M_18, Hs_18, G_18⟩ := Vq_18
      refine OGo.to (fun _ k => X.arraylength hx (by rw [eT]; exact Ar_18.1) (State.isArrayOf_alike hZ.alike Ar_18.2.1) (g := (mkF m 44 #[.val (.ref a1), .val (.ref a2), .val (.ref b_2), .val (.int (own_i j2)), .val (.int (own_i i))] [(.ref a1), (.int (own_i j2)), (.int (own_i i)), (.ref b_2)])) rfl rfl (hb hby d6_44) _ k) ?_
      rw [len_of S_18 M_18]
      show OGo p e below _ (T.setTop (mkF m 45 #[.val (.ref a1), .val (.ref a2), .val (.ref b_2), .val (.int (own_i j2)), .val (.int (own_i i))] [(.int (own_i hs.length)), (.int (own_i j2)), (.int (own_i i)), (.ref b_2)]))
      obtain ⟨r, hv_r⟩ : ∃ z : Int32, z = (if (own_i j2) < (own_i hs.length) then (if (hs.getD j2 (0 : Int32)) = (ds.getD i (0 : Int32)) then (own_i j2) else (-1 : Int32)) else (-1 : Int32)) := ⟨_, rfl⟩
      refine OGo.to (S' := T.setTop (mkF m 63 #[.val (.ref a1), .val (.ref a2), .val (.ref b_2), .val (.int (own_i j2)), .val (.int (own_i i))] [(.int r), (.int (own_i i)), (.ref b_2)])) (fun _ k => ?_) ?_
      ·
        show Steps p.tables e below (T.setTop (mkF m 45 #[.val (.ref a1), .val (.ref a2), .val (.ref b_2), .val (.int (own_i j2)), .val (.int (own_i i))] [(.int (own_i hs.length)), (.int (own_i j2)), (.int (own_i i)), (.ref b_2)])) _
        by_cases hc45__20 : (own_i j2) < (own_i hs.length)
        ·  -- pc 45: yes
          refine XS.icmpNo X.here hx rfl (hb hby d6_45) rfl (tlt hc45__20).2.1 ?_
          show Steps p.tables e below (T.setTop (mkF m 48 #[.val (.ref a1), .val (.ref a2), .val (.ref b_2), .val (.int (own_i j2)), .val (.int (own_i i))] [(.int (own_i i)), (.ref b_2)])) _
          refine XS.aloadN X.here hx rfl (hb hby d6_48) rfl rfl ?_
          show Steps p.tables e below (T.setTop (mkF m 49 #[.val (.ref a1), .val (.ref a2), .val (.ref b_2), .val (.int (own_i j2)), .val (.int (own_i i))] [(.ref a1), (.int (own_i i)), (.ref b_2)])) _
          refine XS.iloadN X.here hx rfl (hb hby d6_49) rfl ?_
          show Steps p.tables e below (T.setTop (mkF m 50 #[.val (.ref a1), .val (.ref a2), .val (.ref b_2), .val (.int (own_i j2)), .val (.int (own_i i))] [(.int (own_i j2)), (.ref a1), (.int (own_i i)), (.ref b_2)])) _
          have Vq_21 := V1h
          obtain ⟨cl_21, Ar_21, q_21, S_21, M_21, Hs_21, G_21⟩ := Vq_21
          have hin_22 : ¬ ((own_i j2) < 0 ∨ cl_21.slots.size ≤ ((own_i j2)).toNatClampNeg) := inb_of S_21 ⟨own_inn _ (by omega), own_il (by omega) (own_il' (by omega) hc45__20)⟩
          have hat_22 : cl_21.slots[((own_i j2)).toNatClampNeg]? = some (.int (hs.getD j2 (0 : Int32))) := Hs_21.at hin_22 ((congrArg (fun z => (hs.map Value.int).getD z (.int (0 : Int32))) (own_clamp j2 (by omega))).trans (own_getD hs j2))
          refine X.iaload hx (j := (own_i j2)) (v := (.int (hs.getD j2 (0 : Int32)))) (by rw [eT]; exact Ar_21.1) (State.isArrayOf_alike hZ.alike Ar_21.2.1) Ar_21.2.2 hin_22 hat_22 (g := (mkF m 50 #[.val (.ref a1), .val (.ref a2), .val (.ref b_2), .val (.int (own_i j2)), .val (.int (own_i i))] [(.int (own_i j2)), (.ref a1), (.int (own_i i)), (.ref b_2)])) rfl rfl (hb hby d6_50) _ ?_
          show Steps p.tables e below (T.setTop (mkF m 51 #[.val (.ref a1), .val (.ref a2), .val (.ref b_2), .val (.int (own_i j2)), .val (.int (own_i i))] [(.int (hs.getD j2 (0 : Int32))), (.int (own_i i)), (.ref b_2)])) _
          refine XS.aloadN X.here hx rfl (hb hby d6_51) rfl rfl ?_
          show Steps p.tables e below (T.setTop (mkF m 52 #[.val (.ref a1), .val (.ref a2), .val (.ref b_2), .val (.int (own_i j2)), .val (.int (own_i i))] [(.ref a2), (.int (hs.getD j2 (0 : Int32))), (.int (own_i i)), (.ref b_2)])) _
          refine XS.iload X.here hx rfl (hb hby d6_52) rfl ?_
          show Steps p.tables e below (T.setTop (mkF m 54 #[.val (.ref a1), .val (.ref a2), .val (.ref b_2), .val (.int (own_i j2)), .val (.int (own_i i))] [(.int (own_i i)), (.ref a2), (.int (hs.getD j2 (0 : Int32))), (.int (own_i i)), (.ref b_2)])) _
          have Vq_23 := V2h
          obtain ⟨cl_23, Ar_23, q_23, S_23, M_23, Hs_23, G_23⟩ := Vq_23
          have hin_24 : ¬ ((own_i i) < 0 ∨ cl_23.slots.size ≤ ((own_i i)).toNatClampNeg) := inb_of S_23 ⟨own_inn _ (by omega), own_il (by omega) hi2⟩
          have hat_24 : cl_23.slots[((own_i i)).toNatClampNeg]? = some (.int (ds.getD i (0 : Int32))) := Hs_23.at hin_24 ((congrArg (fun z => (ds.map Value.int).getD z (.int (0 : Int32))) (own_clamp i (by omega))).trans (own_getD ds i))
          refine X.iaload hx (j := (own_i i)) (v := (.int (ds.getD i (0 : Int32)))) (by rw [eT]; exact Ar_23.1) (State.isArrayOf_alike hZ.alike Ar_23.2.1) Ar_23.2.2 hin_24 hat_24 (g := (mkF m 54 #[.val (.ref a1), .val (.ref a2), .val (.ref b_2), .val (.int (own_i j2)), .val (.int (own_i i))] [(.int (own_i i)), (.ref a2), (.int (hs.getD j2 (0 : Int32))), (.int (own_i i)), (.ref b_2)])) rfl rfl (hb hby d6_54) _ ?_
          show Steps p.tables e below (T.setTop (mkF m 55 #[.val (.ref a1), .val (.ref a2), .val (.ref b_2), .val (.int (own_i j2)), .val (.int (own_i i))] [(.int (ds.getD i (0 : Int32))), (.int (hs.getD j2 (0 : Int32))), (.int (own_i i)), (.ref b_2)])) _
          by_cases hc55__25 : (hs.getD j2 (0 : Int32)) = (ds.getD i (0 : Int32))
          ·  -- pc 55: yes
            refine XS.icmpNo X.here hx rfl (hb hby d6_55) rfl (teq hc55__25).2 ?_
            show Steps p.tables e below (T.setTop (mkF m 58 #[.val (.ref a1), .val (.ref a2), .val (.ref b_2), .val (.int (own_i j2)), .val (.int (own_i i))] [(.int (own_i i)), (.ref b_2)])) _
            refine XS.iloadN X.here hx rfl (hb hby d6_58) rfl ?_
            show Steps p.tables e below (T.setTop (mkF m 59 #[.val (.ref a1), .val (.ref a2), .val (.ref b_2), .val (.int (own_i j2)), .val (.int (own_i i))] [(.int (own_i j2)), (.int (own_i i)), (.ref b_2)])) _
            refine XS.goto X.here hx rfl (pc0 := 59) (pc' := 63) rfl (hb hby d6_59) (by decide) (by decide) ?_
            show Steps p.tables e below (T.setTop (mkF m 63 #[.val (.ref a1), .val (.ref a2), .val (.ref b_2), .val (.int (own_i j2)), .val (.int (own_i i))] [(.int (own_i j2)), (.int (own_i i)), (.ref b_2)])) _
            have hw_r := hv_r
            rw [if_pos hc45__20, if_pos hc55__25] at hw_r
            subst hw_r
            exact k
          ·  -- pc 55: no
            refine XS.icmpYes X.here hx rfl (pc0 := 55) (pc' := 62) rfl (hb hby d6_55) rfl (feq hc55__25).2 (by decide) (by decide) ?_
            show Steps p.tables e below (T.setTop (mkF m 62 #[.val (.ref a1), .val (.ref a2), .val (.ref b_2), .val (.int (own_i j2)), .val (.int (own_i i))] [(.int (own_i i)), (.ref b_2)])) _
            refine XS.iconst X.here hx rfl (hb hby d6_62) ?_
            show Steps p.tables e below (T.setTop (mkF m 63 #[.val (.ref a1), .val (.ref a2), .val (.ref b_2), .val (.int (own_i j2)), .val (.int (own_i i))] [(.int (-1 : Int32)), (.int (own_i i)), (.ref b_2)])) _
            have hw_r := hv_r
            rw [if_pos hc45__20, if_neg hc55__25] at hw_r
            subst hw_r
            exact k
        ·  -- pc 45: no
          refine XS.icmpYes X.here hx rfl (pc0 := 45) (pc' := 62) rfl (hb hby d6_45) rfl (flt hc45__20).2.1 (by decide) (by decide) ?_
          show Steps p.tables e below (T.setTop (mkF m 62 #[.val (.ref a1), .val (.ref a2), .val (.ref b_2), .val (.int (own_i j2)), .val (.int (own_i i))] [(.int (own_i i)), (.ref b_2)])) _
          refine XS.iconst X.here hx rfl (hb hby d6_62) ?_
          show Steps p.tables e below (T.setTop (mkF m 63 #[.val (.ref a1), .val (.ref a2), .val (.ref b_2), .val (.int (own_i j2)), .val (.int (own_i i))] [(.int (-1 : Int32)), (.int (own_i i)), (.ref b_2)])) _
          have hw_r := hv_r
          rw [if_neg hc45__20] at hw_r
          subst hw_r
          exact k
      show OGo p e below _ (T.setTop (mkF m 63 #[.val (.ref a1), .val (.ref a2), .val (.ref b_2), .val (.int (own_i j2)), .val (.int (own_i i))] [(.int r), (.int (own_i i)), (.ref b_2)]))
      have Vp_26 : Arv Z h b_2 k_2 .int (own_i ds.length) (outs.map Value.int ++ List.replicate 1 (.int (0 : Int32))) (.int (0 : Int32)) := V.pad (pad_rep (outs.map Value.int) (.int (0 : Int32)) 1)
      have Vq_27 := Vp_26
      obtain ⟨cl_27, Ar_27, q_27, S_27, M_27, Hs_27, G_27⟩ := Vq_27
      have hin_28 : ¬ ((own_i i) < 0 ∨ cl_27.slots.size ≤ ((own_i i)).toNatClampNeg) := inb_of S_27 ⟨own_inn _ (by omega), own_il (by omega) (by omega)⟩
      obtain ⟨T_28, h_28, X_28, e_28, W_28, st_28⟩ := stI X hx hZ eT Ar_27 (j := (own_i i)) hin_28 (g := (mkF m 63 #[.val (.ref a1), .val (.ref a2), .val (.ref b_2), .val (.int (own_i j2)), .val (.int (own_i i))] [(.int r), (.int (own_i i)), (.ref b_2)])) rfl rfl (hb hby d6_63)
      refine OGo.to st_28 ?_
      have V_28 : Arv Z h_28 b_2 k_2 .int (own_i ds.length) ((outs ++ [r]).map Value.int) (.int (0 : Int32)) := (by have q := Arv.set Ar_27 q_27 S_27 M_27 Hs_27 G_27 rfl W_28 i (own_clamp _ (by omega)) (by simp; omega); rwa [← ho, own_setlast] at q)
      have N_28 := Fr.snoc X_28 N g_b_2
      have z_29 : n0 ≤ h_28.size := Nat.le_trans zn (Keep.of_wr W_28).1
      have K_30 : Keep h0 h_28 [] := Kh.wr W_28 (Or.inr sz_b_2)
      show OGo p e below _ (T_28.setTop (mkF m 64 #[.val (.ref a1), .val (.ref a2), .val (.ref b_2), .val (.int (own_i j2)), .val (.int (own_i i))] []))
      refine OGo.to (fun _ k => XS.iinc X_28.here hx rfl (hb hby d6_64) rfl (l' := #[.val (.ref a1), .val (.ref a2), .val (.ref b_2), .val (.int (own_i j2)), .val (.int ((own_i i) + (1 : Int32)))]) rfl k) ?_
      show OGo p e below _ (T_28.setTop (mkF m 67 #[.val (.ref a1), .val (.ref a2), .val (.ref b_2), .val (.int (own_i j2)), .val (.int ((own_i i) + (1 : Int32)))] []))
      rw [own_succ i]
      refine OGo.to (S' := T_28.setTop (mkF m 10 #[.val (.ref a1), .val (.ref a2), .val (.ref b_2), .val (.int (own_i j2)), .val (.int (own_i (i + 1)))] [])) (fun _ k => XS.goto X_28.here hx rfl (pc0 := 67) (pc' := 10) rfl (hb hby d6_67) (by decide) (by decide) k) ?_
      exact ih (i + 1) j2 (outs ++ [r]) _ _ _ X_28 e_28 N_28 z_29 K_30 V_28 (by omega) (by simp [ho]) (by rw [hv_r, hj2]; exact own_entStep hi2 hres) hj3
  exact outer ds.length 0 0 [] T_2 _ _ X_2 e_2 N0 z_3 K_4 V_2 (Nat.zero_add _) rfl (by simp) (Nat.zero_le _)
theorem ef_0 (m : MethodId) (x0 : Int32) (x1 : Int32) (x2 : Int32) (x3 : Int32) : entryFrame m #[(.int x0), (.int x1), (.int x2), (.int x3)] maxLocals = mkF m 0 #[.val (.int x0), .val (.int x1), .val (.int x2), .val (.int x3), .unset, .unset, .unset, .unset, .unset, .unset, .unset, .unset, .unset, .unset, .unset, .unset, .unset, .unset, .unset, .unset, .unset] [] := by first | (simp [entryFrame, mkF, argsToLocals, Value.category, maxLocals]; done) | rfl
def Q0 (Z : State) (p1 : Int32) (p2 : Int32) (p3 : Int32) (p4 : Int32) (h0 : Heap) (n0 : Nat) (v : Option Value) (h : Heap) (L : List Loc) : Prop := v = some (.int (1 : Int32)) ∧ Fr n0 L
set_option maxRecDepth 65536 in
set_option maxHeartbeats 40000000 in
theorem rm0 (l : Launch) (Z : State) (a0 : Array Value) (hw : ∀ d ∈ tables_1, d.before a0 Z = true) (ws : List Jvm.Cond) (p1 : Int32) (p2 : Int32) (p3 : Int32) (p4 : Int32) (h0 : Heap) (n0 : Nat) (Z0 : n0 ≤ h0.size) :
    MetFree l x (head1 (Jvm.Cond.code x code maxLocals ret :: ws) room_1) (fun a U => a = #[(.int p1), (.int p2), (.int p3), (.int p4)] ∧ Z.Warmed39 U.vm ∧ U.heap = h0) (fun _ _ _ _ _ => True) (fun _ U o U' => ∃ v L, o = .returned v ∧ Q0 Z p1 p2 p3 p4 h0 n0 v U'.heap L ∧ FrameEnd U o U' L room_1.cells room_1.slots) := by
  refine MetFree.of_bodySF (plainFor_of_name pn_0) hisR ?_
  intro p e s m args below meth c s₁ Bd hml0 hP hK
  obtain ⟨rfl, hZ, hh⟩ := hP
  have hx := Bd.exec
  have hby := Bd.bytes
  have hml : c.maxLocals = 21 := hml0
  have hown : s.vm.findClass "com/example/cogram/cogram/index/PostingsEntriesPinLaw" = some m.cls := findClass_of_methodNamed Bd.named
  have hnm := (name_of_methodNamed Bd.named Bd.method).1
  have X0 : Stand p l e room_1 s m #[(.int p1), (.int p2), (.int p3), (.int p4)] below meth c s₁ [] 0 0 := Stand.of_body Bd
  have e0 : s₁.heap = h0 := by rw [← hh, Bd.state]; rfl
  have N0 := Fr.nil n0
  show OGo p e below (fun s₂ o => ∃ v L, o = .returned v ∧ Q0 Z p1 p2 p3 p4 h0 n0 v s₂.heap L ∧ FrameEnd s o s₂ L room_1.cells room_1.slots) _
  refine OGo.to (fun _ k => castTop (ef_0 m p1 p2 p3 p4) k) ?_
  refine OGo.to (fun _ k => XS.iloadN X0.here hx rfl (hb hby at_0) rfl k) ?_
  show OGo p e below _ (s₁.setTop (mkF m 1 #[.val (.int p1), .val (.int p2), .val (.int p3), .val (.int p4), .unset, .unset, .unset, .unset, .unset, .unset, .unset, .unset, .unset, .unset, .unset, .unset, .unset, .unset, .unset, .unset, .unset] [(.int p2)]))
  refine OGo.to (fun _ k => XS.sipush X0.here hx rfl (hb hby at_1) k) ?_
  show OGo p e below _ (s₁.setTop (mkF m 4 #[.val (.int p1), .val (.int p2), .val (.int p3), .val (.int p4), .unset, .unset, .unset, .unset, .unset, .unset, .unset, .unset, .unset, .unset, .unset, .unset, .unset, .unset, .unset, .unset, .unset] [(.int (255 : Int32)), (.int p2)]))
  refine OGo.to (fun _ k => XS.iand X0.here hx rfl (hb hby at_4) rfl k) ?_
  show OGo p e below _ (s₁.setTop (mkF m 5 #[.val (.int p1), .val (.int p2), .val (.int p3), .val (.int p4), .unset, .unset, .unset, .unset, .unset, .unset, .unset, .unset, .unset, .unset, .unset, .unset, .unset, .unset, .unset, .unset, .unset] [(.int (p2 &&& (255 : Int32)))]))
  refine OGo.to (fun _ k => XS.iconst X0.here hx rfl (hb hby at_5) k) ?_
  show OGo p e below _ (s₁.setTop (mkF m 6 #[.val (.int p1), .val (.int p2), .val (.int p3), .val (.int p4), .unset, .unset, .unset, .unset, .unset, .unset, .unset, .unset, .unset, .unset, .unset, .unset, .unset, .unset, .unset, .unset, .unset] [(.int (1 : Int32)), (.int (p2 &&& (255 : Int32)))]))
  refine OGo.to (fun _ k => XS.iadd X0.here hx rfl (hb hby at_6) rfl k) ?_
  show OGo p e below _ (s₁.setTop (mkF m 7 #[.val (.int p1), .val (.int p2), .val (.int p3), .val (.int p4), .unset, .unset, .unset, .unset, .unset, .unset, .unset, .unset, .unset, .unset, .unset, .unset, .unset, .unset, .unset, .unset, .unset] [(.int ((p2 &&& (255 : Int32)) + (1 : Int32)))]))
  obtain ⟨g1, hv_g1⟩ : ∃ z : Int32, z = ((p2 &&& (255 : Int32)) + (1 : Int32)) := ⟨_, rfl⟩
  rw [← hv_g1]
  refine OGo.to (fun _ k => XS.istore X0.here hx rfl (hb hby at_7) rfl (l' := #[.val (.int p1), .val (.int p2), .val (.int p3), .val (.int p4), .val (.int g1), .unset, .unset, .unset, .unset, .unset, .unset, .unset, .unset, .unset, .unset, .unset, .unset, .unset, .unset, .unset, .unset]) rfl k) ?_
  show OGo p e below _ (s₁.setTop (mkF m 9 #[.val (.int p1), .val (.int p2), .val (.int p3), .val (.int p4), .val (.int g1), .unset, .unset, .unset, .unset, .unset, .unset, .unset, .unset, .unset, .unset, .unset, .unset, .unset, .unset, .unset, .unset] []))
  refine OGo.to (fun _ k => XS.iloadN X0.here hx rfl (hb hby at_9) rfl k) ?_
  show OGo p e below _ (s₁.setTop (mkF m 10 #[.val (.int p1), .val (.int p2), .val (.int p3), .val (.int p4), .val (.int g1), .unset, .unset, .unset, .unset, .unset, .unset, .unset, .unset, .unset, .unset, .unset, .unset, .unset, .unset, .unset, .unset] [(.int p2)]))
  refine OGo.to (fun _ k => XS.bipush X0.here hx rfl (hb hby at_10) k) ?_
  show OGo p e below _ (s₁.setTop (mkF m 12 #[.val (.int p1), .val (.int p2), .val (.int p3), .val (.int p4), .val (.int g1), .unset, .unset, .unset, .unset, .unset, .unset, .unset, .unset, .unset, .unset, .unset, .unset, .unset, .unset, .unset, .unset] [(.int (8 : Int32)), (.int p2)]))
  refine OGo.to (fun _ k => XS.iushr X0.here hx rfl (hb hby at_12) rfl k) ?_
  show OGo p e below _ (s₁.setTop (mkF m 13 #[.val (.int p1), .val (.int p2), .val (.int p3), .val (.int p4), .val (.int g1), .unset, .unset, .unset, .unset, .unset, .unset, .unset, .unset, .unset, .unset, .unset, .unset, .unset, .unset, .unset, .unset] [(.int ((p2.toUInt32 >>> ((8 : Int32) &&& 31).toUInt32).toInt32))]))
  refine OGo.to (fun _ k => XS.sipush X0.here hx rfl (hb hby at_13) k) ?_
  show OGo p e below _ (s₁.setTop (mkF m 16 #[.val (.int p1), .val (.int p2), .val (.int p3), .val (.int p4), .val (.int g1), .unset, .unset, .unset, .unset, .unset, .unset, .unset, .unset, .unset, .unset, .unset, .unset, .unset, .unset, .unset, .unset] [(.int (255 : Int32)), (.int ((p2.toUInt32 >>> ((8 : Int32) &&& 31).toUInt32).toInt32))]))
  refine OGo.to (fun _ k => XS.iand X0.here hx rfl (hb hby at_16) rfl k) ?_
  show OGo p e below _ (s₁.setTop (mkF m 17 #[.val (.int p1), .val (.int p2), .val (.int p3), .val (.int p4), .val (.int g1), .unset, .unset, .unset, .unset, .unset, .unset, .unset, .unset, .unset, .unset, .unset, .unset, .unset, .unset, .unset, .unset] [(.int (((p2.toUInt32 >>> ((8 : Int32) &&& 31).toUInt32).toInt32) &&& (255 : Int32)))]))
  refine OGo.to (fun _ k => XS.iconst X0.here hx rfl (hb hby at_17) k) ?_
  show OGo p e below _ (s₁.setTop (mkF m 18 #[.val (.int p1), .val (.int p2), .val (.int p3), .val (.int p4), .val (.int g1), .unset, .unset, .unset, .unset, .unset, .unset, .unset, .unset, .unset, .unset, .unset, .unset, .unset, .unset, .unset, .unset] [(.int (1 : Int32)), (.int (((p2.toUInt32 >>> ((8 : Int32) &&& 31).toUInt32).toInt32) &&& (255 : Int32)))]))
  refine OGo.to (fun _ k => XS.iadd X0.here hx rfl (hb hby at_18) rfl k) ?_
  show OGo p e below _ (s₁.setTop (mkF m 19 #[.val (.int p1), .val (.int p2), .val (.int p3), .val (.int p4), .val (.int g1), .unset, .unset, .unset, .unset, .unset, .unset, .unset, .unset, .unset, .unset, .unset, .unset, .unset, .unset, .unset, .unset] [(.int ((((p2.toUInt32 >>> ((8 : Int32) &&& 31).toUInt32).toInt32) &&& (255 : Int32)) + (1 : Int32)))]))
  obtain ⟨g2, hv_g2⟩ : ∃ z : Int32, z = ((((p2.toUInt32 >>> ((8 : Int32) &&& 31).toUInt32).toInt32) &&& (255 : Int32)) + (1 : Int32)) := ⟨_, rfl⟩
  rw [← hv_g2]
  refine OGo.to (fun _ k => XS.istore X0.here hx rfl (hb hby at_19) rfl (l' := #[.val (.int p1), .val (.int p2), .val (.int p3), .val (.int p4), .val (.int g1), .val (.int g2), .unset, .unset, .unset, .unset, .unset, .unset, .unset, .unset, .unset, .unset, .unset, .unset, .unset, .unset, .unset]) rfl k) ?_
  show OGo p e below _ (s₁.setTop (mkF m 21 #[.val (.int p1), .val (.int p2), .val (.int p3), .val (.int p4), .val (.int g1), .val (.int g2), .unset, .unset, .unset, .unset, .unset, .unset, .unset, .unset, .unset, .unset, .unset, .unset, .unset, .unset, .unset] []))
  refine OGo.to (fun _ k => XS.iloadN X0.here hx rfl (hb hby at_21) rfl k) ?_
  show OGo p e below _ (s₁.setTop (mkF m 22 #[.val (.int p1), .val (.int p2), .val (.int p3), .val (.int p4), .val (.int g1), .val (.int g2), .unset, .unset, .unset, .unset, .unset, .unset, .unset, .unset, .unset, .unset, .unset, .unset, .unset, .unset, .unset] [(.int p2)]))
  refine OGo.to (fun _ k => XS.bipush X0.here hx rfl (hb hby at_22) k) ?_
  show OGo p e below _ (s₁.setTop (mkF m 24 #[.val (.int p1), .val (.int p2), .val (.int p3), .val (.int p4), .val (.int g1), .val (.int g2), .unset, .unset, .unset, .unset, .unset, .unset, .unset, .unset, .unset, .unset, .unset, .unset, .unset, .unset, .unset] [(.int (16 : Int32)), (.int p2)]))
  refine OGo.to (fun _ k => XS.iushr X0.here hx rfl (hb hby at_24) rfl k) ?_
  show OGo p e below _ (s₁.setTop (mkF m 25 #[.val (.int p1), .val (.int p2), .val (.int p3), .val (.int p4), .val (.int g1), .val (.int g2), .unset, .unset, .unset, .unset, .unset, .unset, .unset, .unset, .unset, .unset, .unset, .unset, .unset, .unset, .unset] [(.int ((p2.toUInt32 >>> ((16 : Int32) &&& 31).toUInt32).toInt32))]))
  refine OGo.to (fun _ k => XS.sipush X0.here hx rfl (hb hby at_25) k) ?_
  show OGo p e below _ (s₁.setTop (mkF m 28 #[.val (.int p1), .val (.int p2), .val (.int p3), .val (.int p4), .val (.int g1), .val (.int g2), .unset, .unset, .unset, .unset, .unset, .unset, .unset, .unset, .unset, .unset, .unset, .unset, .unset, .unset, .unset] [(.int (255 : Int32)), (.int ((p2.toUInt32 >>> ((16 : Int32) &&& 31).toUInt32).toInt32))]))
  refine OGo.to (fun _ k => XS.iand X0.here hx rfl (hb hby at_28) rfl k) ?_
  show OGo p e below _ (s₁.setTop (mkF m 29 #[.val (.int p1), .val (.int p2), .val (.int p3), .val (.int p4), .val (.int g1), .val (.int g2), .unset, .unset, .unset, .unset, .unset, .unset, .unset, .unset, .unset, .unset, .unset, .unset, .unset, .unset, .unset] [(.int (((p2.toUInt32 >>> ((16 : Int32) &&& 31).toUInt32).toInt32) &&& (255 : Int32)))]))
  refine OGo.to (fun _ k => XS.iconst X0.here hx rfl (hb hby at_29) k) ?_
  show OGo p e below _ (s₁.setTop (mkF m 30 #[.val (.int p1), .val (.int p2), .val (.int p3), .val (.int p4), .val (.int g1), .val (.int g2), .unset, .unset, .unset, .unset, .unset, .unset, .unset, .unset, .unset, .unset, .unset, .unset, .unset, .unset, .unset] [(.int (1 : Int32)), (.int (((p2.toUInt32 >>> ((16 : Int32) &&& 31).toUInt32).toInt32) &&& (255 : Int32)))]))
  refine OGo.to (fun _ k => XS.iadd X0.here hx rfl (hb hby at_30) rfl k) ?_
  show OGo p e below _ (s₁.setTop (mkF m 31 #[.val (.int p1), .val (.int p2), .val (.int p3), .val (.int p4), .val (.int g1), .val (.int g2), .unset, .unset, .unset, .unset, .unset, .unset, .unset, .unset, .unset, .unset, .unset, .unset, .unset, .unset, .unset] [(.int ((((p2.toUInt32 >>> ((16 : Int32) &&& 31).toUInt32).toInt32) &&& (255 : Int32)) + (1 : Int32)))]))
  obtain ⟨g3, hv_g3⟩ : ∃ z : Int32, z = ((((p2.toUInt32 >>> ((16 : Int32) &&& 31).toUInt32).toInt32) &&& (255 : Int32)) + (1 : Int32)) := ⟨_, rfl⟩
  rw [← hv_g3]
  refine OGo.to (fun _ k => XS.istore X0.here hx rfl (hb hby at_31) rfl (l' := #[.val (.int p1), .val (.int p2), .val (.int p3), .val (.int p4), .val (.int g1), .val (.int g2), .val (.int g3), .unset, .unset, .unset, .unset, .unset, .unset, .unset, .unset, .unset, .unset, .unset, .unset, .unset, .unset]) rfl k) ?_
  show OGo p e below _ (s₁.setTop (mkF m 33 #[.val (.int p1), .val (.int p2), .val (.int p3), .val (.int p4), .val (.int g1), .val (.int g2), .val (.int g3), .unset, .unset, .unset, .unset, .unset, .unset, .unset, .unset, .unset, .unset, .unset, .unset, .unset, .unset] []))
  refine OGo.to (fun _ k => XS.iloadN X0.here hx rfl (hb hby at_33) rfl k) ?_
  show OGo p e below _ (s₁.setTop (mkF m 34 #[.val (.int p1), .val (.int p2), .val (.int p3), .val (.int p4), .val (.int g1), .val (.int g2), .val (.int g3), .unset, .unset, .unset, .unset, .unset, .unset, .unset, .unset, .unset, .unset, .unset, .unset, .unset, .unset] [(.int p2)]))
  refine OGo.to (fun _ k => XS.bipush X0.here hx rfl (hb hby at_34) k) ?_
  show OGo p e below _ (s₁.setTop (mkF m 36 #[.val (.int p1), .val (.int p2), .val (.int p3), .val (.int p4), .val (.int g1), .val (.int g2), .val (.int g3), .unset, .unset, .unset, .unset, .unset, .unset, .unset, .unset, .unset, .unset, .unset, .unset, .unset, .unset] [(.int (24 : Int32)), (.int p2)]))
  refine OGo.to (fun _ k => XS.iushr X0.here hx rfl (hb hby at_36) rfl k) ?_
  show OGo p e below _ (s₁.setTop (mkF m 37 #[.val (.int p1), .val (.int p2), .val (.int p3), .val (.int p4), .val (.int g1), .val (.int g2), .val (.int g3), .unset, .unset, .unset, .unset, .unset, .unset, .unset, .unset, .unset, .unset, .unset, .unset, .unset, .unset] [(.int ((p2.toUInt32 >>> ((24 : Int32) &&& 31).toUInt32).toInt32))]))
  refine OGo.to (fun _ k => XS.sipush X0.here hx rfl (hb hby at_37) k) ?_
  show OGo p e below _ (s₁.setTop (mkF m 40 #[.val (.int p1), .val (.int p2), .val (.int p3), .val (.int p4), .val (.int g1), .val (.int g2), .val (.int g3), .unset, .unset, .unset, .unset, .unset, .unset, .unset, .unset, .unset, .unset, .unset, .unset, .unset, .unset] [(.int (255 : Int32)), (.int ((p2.toUInt32 >>> ((24 : Int32) &&& 31).toUInt32).toInt32))]))
  refine OGo.to (fun _ k => XS.iand X0.here hx rfl (hb hby at_40) rfl k) ?_
  show OGo p e below _ (s₁.setTop (mkF m 41 #[.val (.int p1), .val (.int p2), .val (.int p3), .val (.int p4), .val (.int g1), .val (.int g2), .val (.int g3), .unset, .unset, .unset, .unset, .unset, .unset, .unset, .unset, .unset, .unset, .unset, .unset, .unset, .unset] [(.int (((p2.toUInt32 >>> ((24 : Int32) &&& 31).toUInt32).toInt32) &&& (255 : Int32)))]))
  refine OGo.to (fun _ k => XS.iconst X0.here hx rfl (hb hby at_41) k) ?_
  show OGo p e below _ (s₁.setTop (mkF m 42 #[.val (.int p1), .val (.int p2), .val (.int p3), .val (.int p4), .val (.int g1), .val (.int g2), .val (.int g3), .unset, .unset, .unset, .unset, .unset, .unset, .unset, .unset, .unset, .unset, .unset, .unset, .unset, .unset] [(.int (1 : Int32)), (.int (((p2.toUInt32 >>> ((24 : Int32) &&& 31).toUInt32).toInt32) &&& (255 : Int32)))]))
  refine OGo.to (fun _ k => XS.iadd X0.here hx rfl (hb hby at_42) rfl k) ?_
  show OGo p e below _ (s₁.setTop (mkF m 43 #[.val (.int p1), .val (.int p2), .val (.int p3), .val (.int p4), .val (.int g1), .val (.int g2), .val (.int g3), .unset, .unset, .unset, .unset, .unset, .unset, .unset, .unset, .unset, .unset, .unset, .unset, .unset, .unset] [(.int ((((p2.toUInt32 >>> ((24 : Int32) &&& 31).toUInt32).toInt32) &&& (255 : Int32)) + (1 : Int32)))]))
  obtain ⟨g4, hv_g4⟩ : ∃ z : Int32, z = ((((p2.toUInt32 >>> ((24 : Int32) &&& 31).toUInt32).toInt32) &&& (255 : Int32)) + (1 : Int32)) := ⟨_, rfl⟩
  rw [← hv_g4]
  refine OGo.to (fun _ k => XS.istore X0.here hx rfl (hb hby at_43) rfl (l' := #[.val (.int p1), .val (.int p2), .val (.int p3), .val (.int p4), .val (.int g1), .val (.int g2), .val (.int g3), .val (.int g4), .unset, .unset, .unset, .unset, .unset, .unset, .unset, .unset, .unset, .unset, .unset, .unset, .unset]) rfl k) ?_
  show OGo p e below _ (s₁.setTop (mkF m 45 #[.val (.int p1), .val (.int p2), .val (.int p3), .val (.int p4), .val (.int g1), .val (.int g2), .val (.int g3), .val (.int g4), .unset, .unset, .unset, .unset, .unset, .unset, .unset, .unset, .unset, .unset, .unset, .unset, .unset] []))
  refine OGo.to (fun _ k => XS.iload X0.here hx rfl (hb hby at_45) rfl k) ?_
  show OGo p e below _ (s₁.setTop (mkF m 47 #[.val (.int p1), .val (.int p2), .val (.int p3), .val (.int p4), .val (.int g1), .val (.int g2), .val (.int g3), .val (.int g4), .unset, .unset, .unset, .unset, .unset, .unset, .unset, .unset, .unset, .unset, .unset, .unset, .unset] [(.int g1)]))
  refine OGo.to (fun _ k => XS.iload X0.here hx rfl (hb hby at_47) rfl k) ?_
  show OGo p e below _ (s₁.setTop (mkF m 49 #[.val (.int p1), .val (.int p2), .val (.int p3), .val (.int p4), .val (.int g1), .val (.int g2), .val (.int g3), .val (.int g4), .unset, .unset, .unset, .unset, .unset, .unset, .unset, .unset, .unset, .unset, .unset, .unset, .unset] [(.int g2), (.int g1)]))
  refine OGo.to (fun _ k => XS.iadd X0.here hx rfl (hb hby at_49) rfl k) ?_
  show OGo p e below _ (s₁.setTop (mkF m 50 #[.val (.int p1), .val (.int p2), .val (.int p3), .val (.int p4), .val (.int g1), .val (.int g2), .val (.int g3), .val (.int g4), .unset, .unset, .unset, .unset, .unset, .unset, .unset, .unset, .unset, .unset, .unset, .unset, .unset] [(.int (g1 + g2))]))
  refine OGo.to (fun _ k => XS.iload X0.here hx rfl (hb hby at_50) rfl k) ?_
  show OGo p e below _ (s₁.setTop (mkF m 52 #[.val (.int p1), .val (.int p2), .val (.int p3), .val (.int p4), .val (.int g1), .val (.int g2), .val (.int g3), .val (.int g4), .unset, .unset, .unset, .unset, .unset, .unset, .unset, .unset, .unset, .unset, .unset, .unset, .unset] [(.int g3), (.int (g1 + g2))]))
  refine OGo.to (fun _ k => XS.iadd X0.here hx rfl (hb hby at_52) rfl k) ?_
  show OGo p e below _ (s₁.setTop (mkF m 53 #[.val (.int p1), .val (.int p2), .val (.int p3), .val (.int p4), .val (.int g1), .val (.int g2), .val (.int g3), .val (.int g4), .unset, .unset, .unset, .unset, .unset, .unset, .unset, .unset, .unset, .unset, .unset, .unset, .unset] [(.int ((g1 + g2) + g3))]))
  refine OGo.to (fun _ k => XS.iload X0.here hx rfl (hb hby at_53) rfl k) ?_
  show OGo p e below _ (s₁.setTop (mkF m 55 #[.val (.int p1), .val (.int p2), .val (.int p3), .val (.int p4), .val (.int g1), .val (.int g2), .val (.int g3), .val (.int g4), .unset, .unset, .unset, .unset, .unset, .unset, .unset, .unset, .unset, .unset, .unset, .unset, .unset] [(.int g4), (.int ((g1 + g2) + g3))]))
  refine OGo.to (fun _ k => XS.iadd X0.here hx rfl (hb hby at_55) rfl k) ?_
  show OGo p e below _ (s₁.setTop (mkF m 56 #[.val (.int p1), .val (.int p2), .val (.int p3), .val (.int p4), .val (.int g1), .val (.int g2), .val (.int g3), .val (.int g4), .unset, .unset, .unset, .unset, .unset, .unset, .unset, .unset, .unset, .unset, .unset, .unset, .unset] [(.int (((g1 + g2) + g3) + g4))]))
  obtain ⟨tot, hv_tot⟩ : ∃ z : Int32, z = (((g1 + g2) + g3) + g4) := ⟨_, rfl⟩
  rw [← hv_tot]
  refine OGo.to (fun _ k => XS.istore X0.here hx rfl (hb hby at_56) rfl (l' := #[.val (.int p1), .val (.int p2), .val (.int p3), .val (.int p4), .val (.int g1), .val (.int g2), .val (.int g3), .val (.int g4), .val (.int tot), .unset, .unset, .unset, .unset, .unset, .unset, .unset, .unset, .unset, .unset, .unset, .unset]) rfl k) ?_
  show OGo p e below _ (s₁.setTop (mkF m 58 #[.val (.int p1), .val (.int p2), .val (.int p3), .val (.int p4), .val (.int g1), .val (.int g2), .val (.int g3), .val (.int g4), .val (.int tot), .unset, .unset, .unset, .unset, .unset, .unset, .unset, .unset, .unset, .unset, .unset, .unset] []))
  refine OGo.to (fun _ k => XS.iloadN X0.here hx rfl (hb hby at_58) rfl k) ?_
  show OGo p e below _ (s₁.setTop (mkF m 59 #[.val (.int p1), .val (.int p2), .val (.int p3), .val (.int p4), .val (.int g1), .val (.int g2), .val (.int g3), .val (.int g4), .val (.int tot), .unset, .unset, .unset, .unset, .unset, .unset, .unset, .unset, .unset, .unset, .unset, .unset] [(.int p1)]))
  refine OGo.to (fun _ k => X0.ldcInt hx hown (mvT hZ (hw _ (List.mem_of_getElem? (i := 0) rfl))) (g := (mkF m 59 #[.val (.int p1), .val (.int p2), .val (.int p3), .val (.int p4), .val (.int g1), .val (.int g2), .val (.int g3), .val (.int g4), .val (.int tot), .unset, .unset, .unset, .unset, .unset, .unset, .unset, .unset, .unset, .unset, .unset, .unset] [(.int p1)])) rfl (hb hby at_59) _ k) ?_
  show OGo p e below _ (s₁.setTop (mkF m 61 #[.val (.int p1), .val (.int p2), .val (.int p3), .val (.int p4), .val (.int g1), .val (.int g2), .val (.int g3), .val (.int g4), .val (.int tot), .unset, .unset, .unset, .unset, .unset, .unset, .unset, .unset, .unset, .unset, .unset, .unset] [(.int (2147483647 : Int32)), (.int p1)]))
  refine OGo.to (fun _ k => XS.iload X0.here hx rfl (hb hby at_61) rfl k) ?_
  show OGo p e below _ (s₁.setTop (mkF m 63 #[.val (.int p1), .val (.int p2), .val (.int p3), .val (.int p4), .val (.int g1), .val (.int g2), .val (.int g3), .val (.int g4), .val (.int tot), .unset, .unset, .unset, .unset, .unset, .unset, .unset, .unset, .unset, .unset, .unset, .unset] [(.int tot), (.int (2147483647 : Int32)), (.int p1)]))
  refine OGo.to (fun _ k => XS.isub X0.here hx rfl (hb hby at_63) rfl k) ?_
  show OGo p e below _ (s₁.setTop (mkF m 64 #[.val (.int p1), .val (.int p2), .val (.int p3), .val (.int p4), .val (.int g1), .val (.int g2), .val (.int g3), .val (.int g4), .val (.int tot), .unset, .unset, .unset, .unset, .unset, .unset, .unset, .unset, .unset, .unset, .unset, .unset] [(.int ((2147483647 : Int32) - tot)), (.int p1)]))
  obtain ⟨_, T_1, Lc_1, X_1, hQ_1, st_1⟩ := own_un X0 (Q := Q1 Z p1 ((2147483647 : Int32) - tot) h0 n0) (rc := 0) (rs := 0) (W := fun v B => ∀ target, Steps p.tables e below (B.setTop { (mkF m 64 #[.val (.int p1), .val (.int p2), .val (.int p3), .val (.int p4), .val (.int g1), .val (.int g2), .val (.int g3), .val (.int g4), .val (.int tot), .unset, .unset, .unset, .unset, .unset, .unset, .unset, .unset, .unset, .unset, .unset, .unset] [(.int ((2147483647 : Int32) - tot)), (.int p1)]) with pc := 67, stack := v.toList ++ [] }) target → Steps p.tables e below (s₁.setTop (mkF m 64 #[.val (.int p1), .val (.int p2), .val (.int p3), .val (.int p4), .val (.int g1), .val (.int g2), .val (.int g3), .val (.int g4), .val (.int tot), .unset, .unset, .unset, .unset, .unset, .unset, .unset, .unset, .unset, .unset, .unset, .unset] [(.int ((2147483647 : Int32) - tot)), (.int p1)])) target) <| Jvm.LawKit.callS X0 hx (y := (⟨"java/lang/Math", "min", "(II)I"⟩ : MethodName)) hown (mvT hZ (hw _ (List.mem_of_getElem? (i := 1) rfl))) (mvT hZ (hw _ (List.mem_of_getElem? (i := 2) rfl))) (mvT hZ (hw _ (List.mem_of_getElem? (i := 3) rfl))) (mvT hZ (hw _ (List.mem_of_getElem? (i := 4) rfl))) (by decide) (backOf (W := 0) (rm1 l Z a0 hw [] p1 ((2147483647 : Int32) - tot) h0 n0 Z0 ) hZ (hw _ (List.mem_of_getElem? (i := 4) rfl)) (hw _ (List.mem_of_getElem? (i := 3) rfl)) (by decide) (by decide)) (g := (mkF m 64 #[.val (.int p1), .val (.int p2), .val (.int p3), .val (.int p4), .val (.int g1), .val (.int g2), .val (.int g3), .val (.int g4), .val (.int tot), .unset, .unset, .unset, .unset, .unset, .unset, .unset, .unset, .unset, .unset, .unset, .unset] [(.int ((2147483647 : Int32) - tot)), (.int p1)])) rfl (by rw [hml]; rfl) (argsL := [(.int p1), (.int ((2147483647 : Int32) - tot))]) (rest := []) (lenOf pd_0 rfl) rfl (by show 2 * 0 + _ ≤ _; exact Nat.le_of_eq rfl) (hb hby at_64) (fun _ _ => ⟨rfl, e0, (by decide : 0 + 0 ≤ _), (by decide : 0 + 0 ≤ _)⟩)
  obtain ⟨rfl, N_1q, e_1⟩ := hQ_1
  have N_1 := Fr.app N0 N_1q
  refine OGo.to st_1 ?_
  show OGo p e below _ (T_1.setTop (mkF m 67 #[.val (.int p1), .val (.int p2), .val (.int p3), .val (.int p4), .val (.int g1), .val (.int g2), .val (.int g3), .val (.int g4), .val (.int tot), .unset, .unset, .unset, .unset, .unset, .unset, .unset, .unset, .unset, .unset, .unset, .unset] [(.int (own_min p1 ((2147483647 : Int32) - tot)))]))
  obtain ⟨v0, hv_v0⟩ : ∃ z : Int32, z = (own_min p1 ((2147483647 : Int32) - tot)) := ⟨_, rfl⟩
  rw [← hv_v0]
  refine OGo.to (fun _ k => XS.istore X_1.here hx rfl (hb hby at_67) rfl (l' := #[.val (.int p1), .val (.int p2), .val (.int p3), .val (.int p4), .val (.int g1), .val (.int g2), .val (.int g3), .val (.int g4), .val (.int tot), .val (.int v0), .unset, .unset, .unset, .unset, .unset, .unset, .unset, .unset, .unset, .unset, .unset]) rfl k) ?_
  show OGo p e below _ (T_1.setTop (mkF m 69 #[.val (.int p1), .val (.int p2), .val (.int p3), .val (.int p4), .val (.int g1), .val (.int g2), .val (.int g3), .val (.int g4), .val (.int tot), .val (.int v0), .unset, .unset, .unset, .unset, .unset, .unset, .unset, .unset, .unset, .unset, .unset] []))
  refine OGo.to (fun _ k => XS.iload X_1.here hx rfl (hb hby at_69) rfl k) ?_
  show OGo p e below _ (T_1.setTop (mkF m 71 #[.val (.int p1), .val (.int p2), .val (.int p3), .val (.int p4), .val (.int g1), .val (.int g2), .val (.int g3), .val (.int g4), .val (.int tot), .val (.int v0), .unset, .unset, .unset, .unset, .unset, .unset, .unset, .unset, .unset, .unset, .unset] [(.int v0)]))
  refine OGo.to (fun _ k => XS.iload X_1.here hx rfl (hb hby at_71) rfl k) ?_
  show OGo p e below _ (T_1.setTop (mkF m 73 #[.val (.int p1), .val (.int p2), .val (.int p3), .val (.int p4), .val (.int g1), .val (.int g2), .val (.int g3), .val (.int g4), .val (.int tot), .val (.int v0), .unset, .unset, .unset, .unset, .unset, .unset, .unset, .unset, .unset, .unset, .unset] [(.int g1), (.int v0)]))
  refine OGo.to (fun _ k => XS.iadd X_1.here hx rfl (hb hby at_73) rfl k) ?_
  show OGo p e below _ (T_1.setTop (mkF m 74 #[.val (.int p1), .val (.int p2), .val (.int p3), .val (.int p4), .val (.int g1), .val (.int g2), .val (.int g3), .val (.int g4), .val (.int tot), .val (.int v0), .unset, .unset, .unset, .unset, .unset, .unset, .unset, .unset, .unset, .unset, .unset] [(.int (v0 + g1))]))
  obtain ⟨v1, hv_v1⟩ : ∃ z : Int32, z = (v0 + g1) := ⟨_, rfl⟩
  rw [← hv_v1]
  refine OGo.to (fun _ k => XS.istore X_1.here hx rfl (hb hby at_74) rfl (l' := #[.val (.int p1), .val (.int p2), .val (.int p3), .val (.int p4), .val (.int g1), .val (.int g2), .val (.int g3), .val (.int g4), .val (.int tot), .val (.int v0), .val (.int v1), .unset, .unset, .unset, .unset, .unset, .unset, .unset, .unset, .unset, .unset]) rfl k) ?_
  show OGo p e below _ (T_1.setTop (mkF m 76 #[.val (.int p1), .val (.int p2), .val (.int p3), .val (.int p4), .val (.int g1), .val (.int g2), .val (.int g3), .val (.int g4), .val (.int tot), .val (.int v0), .val (.int v1), .unset, .unset, .unset, .unset, .unset, .unset, .unset, .unset, .unset, .unset] []))
  refine OGo.to (fun _ k => XS.iload X_1.here hx rfl (hb hby at_76) rfl k) ?_
  show OGo p e below _ (T_1.setTop (mkF m 78 #[.val (.int p1), .val (.int p2), .val (.int p3), .val (.int p4), .val (.int g1), .val (.int g2), .val (.int g3), .val (.int g4), .val (.int tot), .val (.int v0), .val (.int v1), .unset, .unset, .unset, .unset, .unset, .unset, .unset, .unset, .unset, .unset] [(.int v1)]))
  refine OGo.to (fun _ k => XS.iload X_1.here hx rfl (hb hby at_78) rfl k) ?_
  show OGo p e below _ (T_1.setTop (mkF m 80 #[.val (.int p1), .val (.int p2), .val (.int p3), .val (.int p4), .val (.int g1), .val (.int g2), .val (.int g3), .val (.int g4), .val (.int tot), .val (.int v0), .val (.int v1), .unset, .unset, .unset, .unset, .unset, .unset, .unset, .unset, .unset, .unset] [(.int g2), (.int v1)]))
  refine OGo.to (fun _ k => XS.iadd X_1.here hx rfl (hb hby at_80) rfl k) ?_
  show OGo p e below _ (T_1.setTop (mkF m 81 #[.val (.int p1), .val (.int p2), .val (.int p3), .val (.int p4), .val (.int g1), .val (.int g2), .val (.int g3), .val (.int g4), .val (.int tot), .val (.int v0), .val (.int v1), .unset, .unset, .unset, .unset, .unset, .unset, .unset, .unset, .unset, .unset] [(.int (v1 + g2))]))
  obtain ⟨v2, hv_v2⟩ : ∃ z : Int32, z = (v1 + g2) := ⟨_, rfl⟩
  rw [← hv_v2]
  refine OGo.to (fun _ k => XS.istore X_1.here hx rfl (hb hby at_81) rfl (l' := #[.val (.int p1), .val (.int p2), .val (.int p3), .val (.int p4), .val (.int g1), .val (.int g2), .val (.int g3), .val (.int g4), .val (.int tot), .val (.int v0), .val (.int v1), .val (.int v2), .unset, .unset, .unset, .unset, .unset, .unset, .unset, .unset, .unset]) rfl k) ?_
  show OGo p e below _ (T_1.setTop (mkF m 83 #[.val (.int p1), .val (.int p2), .val (.int p3), .val (.int p4), .val (.int g1), .val (.int g2), .val (.int g3), .val (.int g4), .val (.int tot), .val (.int v0), .val (.int v1), .val (.int v2), .unset, .unset, .unset, .unset, .unset, .unset, .unset, .unset, .unset] []))
  refine OGo.to (fun _ k => XS.iload X_1.here hx rfl (hb hby at_83) rfl k) ?_
  show OGo p e below _ (T_1.setTop (mkF m 85 #[.val (.int p1), .val (.int p2), .val (.int p3), .val (.int p4), .val (.int g1), .val (.int g2), .val (.int g3), .val (.int g4), .val (.int tot), .val (.int v0), .val (.int v1), .val (.int v2), .unset, .unset, .unset, .unset, .unset, .unset, .unset, .unset, .unset] [(.int v2)]))
  refine OGo.to (fun _ k => XS.iload X_1.here hx rfl (hb hby at_85) rfl k) ?_
  show OGo p e below _ (T_1.setTop (mkF m 87 #[.val (.int p1), .val (.int p2), .val (.int p3), .val (.int p4), .val (.int g1), .val (.int g2), .val (.int g3), .val (.int g4), .val (.int tot), .val (.int v0), .val (.int v1), .val (.int v2), .unset, .unset, .unset, .unset, .unset, .unset, .unset, .unset, .unset] [(.int g3), (.int v2)]))
  refine OGo.to (fun _ k => XS.iadd X_1.here hx rfl (hb hby at_87) rfl k) ?_
  show OGo p e below _ (T_1.setTop (mkF m 88 #[.val (.int p1), .val (.int p2), .val (.int p3), .val (.int p4), .val (.int g1), .val (.int g2), .val (.int g3), .val (.int g4), .val (.int tot), .val (.int v0), .val (.int v1), .val (.int v2), .unset, .unset, .unset, .unset, .unset, .unset, .unset, .unset, .unset] [(.int (v2 + g3))]))
  obtain ⟨v3, hv_v3⟩ : ∃ z : Int32, z = (v2 + g3) := ⟨_, rfl⟩
  rw [← hv_v3]
  refine OGo.to (fun _ k => XS.istore X_1.here hx rfl (hb hby at_88) rfl (l' := #[.val (.int p1), .val (.int p2), .val (.int p3), .val (.int p4), .val (.int g1), .val (.int g2), .val (.int g3), .val (.int g4), .val (.int tot), .val (.int v0), .val (.int v1), .val (.int v2), .val (.int v3), .unset, .unset, .unset, .unset, .unset, .unset, .unset, .unset]) rfl k) ?_
  show OGo p e below _ (T_1.setTop (mkF m 90 #[.val (.int p1), .val (.int p2), .val (.int p3), .val (.int p4), .val (.int g1), .val (.int g2), .val (.int g3), .val (.int g4), .val (.int tot), .val (.int v0), .val (.int v1), .val (.int v2), .val (.int v3), .unset, .unset, .unset, .unset, .unset, .unset, .unset, .unset] []))
  refine OGo.to (fun _ k => XS.iload X_1.here hx rfl (hb hby at_90) rfl k) ?_
  show OGo p e below _ (T_1.setTop (mkF m 92 #[.val (.int p1), .val (.int p2), .val (.int p3), .val (.int p4), .val (.int g1), .val (.int g2), .val (.int g3), .val (.int g4), .val (.int tot), .val (.int v0), .val (.int v1), .val (.int v2), .val (.int v3), .unset, .unset, .unset, .unset, .unset, .unset, .unset, .unset] [(.int v3)]))
  refine OGo.to (fun _ k => XS.iload X_1.here hx rfl (hb hby at_92) rfl k) ?_
  show OGo p e below _ (T_1.setTop (mkF m 94 #[.val (.int p1), .val (.int p2), .val (.int p3), .val (.int p4), .val (.int g1), .val (.int g2), .val (.int g3), .val (.int g4), .val (.int tot), .val (.int v0), .val (.int v1), .val (.int v2), .val (.int v3), .unset, .unset, .unset, .unset, .unset, .unset, .unset, .unset] [(.int g4), (.int v3)]))
  refine OGo.to (fun _ k => XS.iadd X_1.here hx rfl (hb hby at_94) rfl k) ?_
  show OGo p e below _ (T_1.setTop (mkF m 95 #[.val (.int p1), .val (.int p2), .val (.int p3), .val (.int p4), .val (.int g1), .val (.int g2), .val (.int g3), .val (.int g4), .val (.int tot), .val (.int v0), .val (.int v1), .val (.int v2), .val (.int v3), .unset, .unset, .unset, .unset, .unset, .unset, .unset, .unset] [(.int (v3 + g4))]))
  obtain ⟨v4, hv_v4⟩ : ∃ z : Int32, z = (v3 + g4) := ⟨_, rfl⟩
  rw [← hv_v4]
  refine OGo.to (fun _ k => XS.istore X_1.here hx rfl (hb hby at_95) rfl (l' := #[.val (.int p1), .val (.int p2), .val (.int p3), .val (.int p4), .val (.int g1), .val (.int g2), .val (.int g3), .val (.int g4), .val (.int tot), .val (.int v0), .val (.int v1), .val (.int v2), .val (.int v3), .val (.int v4), .unset, .unset, .unset, .unset, .unset, .unset, .unset]) rfl k) ?_
  show OGo p e below _ (T_1.setTop (mkF m 97 #[.val (.int p1), .val (.int p2), .val (.int p3), .val (.int p4), .val (.int g1), .val (.int g2), .val (.int g3), .val (.int g4), .val (.int tot), .val (.int v0), .val (.int v1), .val (.int v2), .val (.int v3), .val (.int v4), .unset, .unset, .unset, .unset, .unset, .unset, .unset] []))
  have hlt : own_inc v0 v1 v2 v3 v4 := own_order (by rw [hv_g1]; exact own_g _) (by rw [hv_g2]; exact own_g _) (by rw [hv_g3]; exact own_g _) (by rw [hv_g4]; exact own_g _) hv_tot hv_v0 hv_v1 hv_v2 hv_v3 hv_v4
  refine OGo.to (fun _ k => XS.iloadN X_1.here hx rfl (hb hby at_97) rfl k) ?_
  show OGo p e below _ (T_1.setTop (mkF m 98 #[.val (.int p1), .val (.int p2), .val (.int p3), .val (.int p4), .val (.int g1), .val (.int g2), .val (.int g3), .val (.int g4), .val (.int tot), .val (.int v0), .val (.int v1), .val (.int v2), .val (.int v3), .val (.int v4), .unset, .unset, .unset, .unset, .unset, .unset, .unset] [(.int p3)]))
  refine OGo.to (fun _ k => XS.bipush X_1.here hx rfl (hb hby at_98) k) ?_
  show OGo p e below _ (T_1.setTop (mkF m 100 #[.val (.int p1), .val (.int p2), .val (.int p3), .val (.int p4), .val (.int g1), .val (.int g2), .val (.int g3), .val (.int g4), .val (.int tot), .val (.int v0), .val (.int v1), .val (.int v2), .val (.int v3), .val (.int v4), .unset, .unset, .unset, .unset, .unset, .unset, .unset] [(.int (31 : Int32)), (.int p3)]))
  refine OGo.to (fun _ k => XS.iand X_1.here hx rfl (hb hby at_100) rfl k) ?_
  show OGo p e below _ (T_1.setTop (mkF m 101 #[.val (.int p1), .val (.int p2), .val (.int p3), .val (.int p4), .val (.int g1), .val (.int g2), .val (.int g3), .val (.int g4), .val (.int tot), .val (.int v0), .val (.int v1), .val (.int v2), .val (.int v3), .val (.int v4), .unset, .unset, .unset, .unset, .unset, .unset, .unset] [(.int (p3 &&& (31 : Int32)))]))
  obtain ⟨hm, hv_hm⟩ : ∃ z : Int32, z = (p3 &&& (31 : Int32)) := ⟨_, rfl⟩
  rw [← hv_hm]
  refine OGo.to (fun _ k => XS.istore X_1.here hx rfl (hb hby at_101) rfl (l' := #[.val (.int p1), .val (.int p2), .val (.int p3), .val (.int p4), .val (.int g1), .val (.int g2), .val (.int g3), .val (.int g4), .val (.int tot), .val (.int v0), .val (.int v1), .val (.int v2), .val (.int v3), .val (.int v4), .val (.int hm), .unset, .unset, .unset, .unset, .unset, .unset]) rfl k) ?_
  show OGo p e below _ (T_1.setTop (mkF m 103 #[.val (.int p1), .val (.int p2), .val (.int p3), .val (.int p4), .val (.int g1), .val (.int g2), .val (.int g3), .val (.int g4), .val (.int tot), .val (.int v0), .val (.int v1), .val (.int v2), .val (.int v3), .val (.int v4), .val (.int hm), .unset, .unset, .unset, .unset, .unset, .unset] []))
  refine OGo.to (fun _ k => XS.iloadN X_1.here hx rfl (hb hby at_103) rfl k) ?_
  show OGo p e below _ (T_1.setTop (mkF m 104 #[.val (.int p1), .val (.int p2), .val (.int p3), .val (.int p4), .val (.int g1), .val (.int g2), .val (.int g3), .val (.int g4), .val (.int tot), .val (.int v0), .val (.int v1), .val (.int v2), .val (.int v3), .val (.int v4), .val (.int hm), .unset, .unset, .unset, .unset, .unset, .unset] [(.int p4)]))
  refine OGo.to (fun _ k => XS.bipush X_1.here hx rfl (hb hby at_104) k) ?_
  show OGo p e below _ (T_1.setTop (mkF m 106 #[.val (.int p1), .val (.int p2), .val (.int p3), .val (.int p4), .val (.int g1), .val (.int g2), .val (.int g3), .val (.int g4), .val (.int tot), .val (.int v0), .val (.int v1), .val (.int v2), .val (.int v3), .val (.int v4), .val (.int hm), .unset, .unset, .unset, .unset, .unset, .unset] [(.int (31 : Int32)), (.int p4)]))
  refine OGo.to (fun _ k => XS.iand X_1.here hx rfl (hb hby at_106) rfl k) ?_
  show OGo p e below _ (T_1.setTop (mkF m 107 #[.val (.int p1), .val (.int p2), .val (.int p3), .val (.int p4), .val (.int g1), .val (.int g2), .val (.int g3), .val (.int g4), .val (.int tot), .val (.int v0), .val (.int v1), .val (.int v2), .val (.int v3), .val (.int v4), .val (.int hm), .unset, .unset, .unset, .unset, .unset, .unset] [(.int (p4 &&& (31 : Int32)))]))
  obtain ⟨dm, hv_dm⟩ : ∃ z : Int32, z = (p4 &&& (31 : Int32)) := ⟨_, rfl⟩
  rw [← hv_dm]
  refine OGo.to (fun _ k => XS.istore X_1.here hx rfl (hb hby at_107) rfl (l' := #[.val (.int p1), .val (.int p2), .val (.int p3), .val (.int p4), .val (.int g1), .val (.int g2), .val (.int g3), .val (.int g4), .val (.int tot), .val (.int v0), .val (.int v1), .val (.int v2), .val (.int v3), .val (.int v4), .val (.int hm), .val (.int dm), .unset, .unset, .unset, .unset, .unset]) rfl k) ?_
  show OGo p e below _ (T_1.setTop (mkF m 109 #[.val (.int p1), .val (.int p2), .val (.int p3), .val (.int p4), .val (.int g1), .val (.int g2), .val (.int g3), .val (.int g4), .val (.int tot), .val (.int v0), .val (.int v1), .val (.int v2), .val (.int v3), .val (.int v4), .val (.int hm), .val (.int dm), .unset, .unset, .unset, .unset, .unset] []))
  have hhm := own_m31 p3
  rw [← hv_hm] at hhm
  have hdm := own_m31 p4
  rw [← hv_dm] at hdm
  refine OGo.to (fun _ k => XS.iload X_1.here hx rfl (hb hby at_109) rfl k) ?_
  show OGo p e below _ (T_1.setTop (mkF m 111 #[.val (.int p1), .val (.int p2), .val (.int p3), .val (.int p4), .val (.int g1), .val (.int g2), .val (.int g3), .val (.int g4), .val (.int tot), .val (.int v0), .val (.int v1), .val (.int v2), .val (.int v3), .val (.int v4), .val (.int hm), .val (.int dm), .unset, .unset, .unset, .unset, .unset] [(.int hm)]))
  refine OGo.to (fun _ k => XS.iload X_1.here hx rfl (hb hby at_111) rfl k) ?_
  show OGo p e below _ (T_1.setTop (mkF m 113 #[.val (.int p1), .val (.int p2), .val (.int p3), .val (.int p4), .val (.int g1), .val (.int g2), .val (.int g3), .val (.int g4), .val (.int tot), .val (.int v0), .val (.int v1), .val (.int v2), .val (.int v3), .val (.int v4), .val (.int hm), .val (.int dm), .unset, .unset, .unset, .unset, .unset] [(.int v0), (.int hm)]))
  refine OGo.to (fun _ k => XS.iload X_1.here hx rfl (hb hby at_113) rfl k) ?_
  show OGo p e below _ (T_1.setTop (mkF m 115 #[.val (.int p1), .val (.int p2), .val (.int p3), .val (.int p4), .val (.int g1), .val (.int g2), .val (.int g3), .val (.int g4), .val (.int tot), .val (.int v0), .val (.int v1), .val (.int v2), .val (.int v3), .val (.int v4), .val (.int hm), .val (.int dm), .unset, .unset, .unset, .unset, .unset] [(.int v1), (.int v0), (.int hm)]))
  refine OGo.to (fun _ k => XS.iload X_1.here hx rfl (hb hby at_115) rfl k) ?_
  show OGo p e below _ (T_1.setTop (mkF m 117 #[.val (.int p1), .val (.int p2), .val (.int p3), .val (.int p4), .val (.int g1), .val (.int g2), .val (.int g3), .val (.int g4), .val (.int tot), .val (.int v0), .val (.int v1), .val (.int v2), .val (.int v3), .val (.int v4), .val (.int hm), .val (.int dm), .unset, .unset, .unset, .unset, .unset] [(.int v2), (.int v1), (.int v0), (.int hm)]))
  refine OGo.to (fun _ k => XS.iload X_1.here hx rfl (hb hby at_117) rfl k) ?_
  show OGo p e below _ (T_1.setTop (mkF m 119 #[.val (.int p1), .val (.int p2), .val (.int p3), .val (.int p4), .val (.int g1), .val (.int g2), .val (.int g3), .val (.int g4), .val (.int tot), .val (.int v0), .val (.int v1), .val (.int v2), .val (.int v3), .val (.int v4), .val (.int hm), .val (.int dm), .unset, .unset, .unset, .unset, .unset] [(.int v3), (.int v2), (.int v1), (.int v0), (.int hm)]))
  refine OGo.to (fun _ k => XS.iload X_1.here hx rfl (hb hby at_119) rfl k) ?_
  show OGo p e below _ (T_1.setTop (mkF m 121 #[.val (.int p1), .val (.int p2), .val (.int p3), .val (.int p4), .val (.int g1), .val (.int g2), .val (.int g3), .val (.int g4), .val (.int tot), .val (.int v0), .val (.int v1), .val (.int v2), .val (.int v3), .val (.int v4), .val (.int hm), .val (.int dm), .unset, .unset, .unset, .unset, .unset] [(.int v4), (.int v3), (.int v2), (.int v1), (.int v0), (.int hm)]))
  obtain ⟨_, T_2, Lc_2, X_2, hQ_2, st_2⟩ := own_un X_1 (Q := Q2 Z hm v0 v1 v2 v3 v4 h0 n0) (rc := 1) (rs := 5) (W := fun v B => ∀ target, Steps p.tables e below (B.setTop { (mkF m 121 #[.val (.int p1), .val (.int p2), .val (.int p3), .val (.int p4), .val (.int g1), .val (.int g2), .val (.int g3), .val (.int g4), .val (.int tot), .val (.int v0), .val (.int v1), .val (.int v2), .val (.int v3), .val (.int v4), .val (.int hm), .val (.int dm), .unset, .unset, .unset, .unset, .unset] [(.int v4), (.int v3), (.int v2), (.int v1), (.int v0), (.int hm)]) with pc := 124, stack := v.toList ++ [] }) target → Steps p.tables e below (T_1.setTop (mkF m 121 #[.val (.int p1), .val (.int p2), .val (.int p3), .val (.int p4), .val (.int g1), .val (.int g2), .val (.int g3), .val (.int g4), .val (.int tot), .val (.int v0), .val (.int v1), .val (.int v2), .val (.int v3), .val (.int v4), .val (.int hm), .val (.int dm), .unset, .unset, .unset, .unset, .unset] [(.int v4), (.int v3), (.int v2), (.int v1), (.int v0), (.int hm)])) target) <| Jvm.LawKit.callS X_1 hx (y := (⟨"com/example/cogram/cogram/index/PostingsEntriesPinLaw", "subset", "(IIIIII)[I"⟩ : MethodName)) hown (mvT hZ (hw _ (List.mem_of_getElem? (i := 5) rfl))) (mvT hZ (hw _ (List.mem_of_getElem? (i := 6) rfl))) (mvT hZ (hw _ (List.mem_of_getElem? (i := 7) rfl))) (mvT hZ (hw _ (List.mem_of_getElem? (i := 8) rfl))) (by decide) (backOf (W := 0) (rm2 l Z a0 hw [] hm v0 v1 v2 v3 v4 h0 n0 Z0 ) hZ (hw _ (List.mem_of_getElem? (i := 8) rfl)) (hw _ (List.mem_of_getElem? (i := 7) rfl)) (by decide) (by decide)) (g := (mkF m 121 #[.val (.int p1), .val (.int p2), .val (.int p3), .val (.int p4), .val (.int g1), .val (.int g2), .val (.int g3), .val (.int g4), .val (.int tot), .val (.int v0), .val (.int v1), .val (.int v2), .val (.int v3), .val (.int v4), .val (.int hm), .val (.int dm), .unset, .unset, .unset, .unset, .unset] [(.int v4), (.int v3), (.int v2), (.int v1), (.int v0), (.int hm)])) rfl (by rw [hml]; rfl) (argsL := [(.int hm), (.int v0), (.int v1), (.int v2), (.int v3), (.int v4)]) (rest := []) (lenOf pd_2 rfl) rfl (by show 2 * 0 + _ ≤ _; exact Nat.le_of_eq rfl) (hb hby at_121) (fun _ _ => ⟨rfl, e_1, (by decide : 0 + 1 ≤ _), (by decide : 0 + 5 ≤ _)⟩)
  obtain ⟨b__2, kb__2, rfl, N_2q, K_2, gq_b__2, sq_b__2, p_2_0⟩ := hQ_2
  have N_2 := Fr.app N_1 N_2q
  refine OGo.to st_2 ?_
  have z_3 : n0 ≤ T_2.heap.size := Nat.le_trans Z0 K_2.1
  show OGo p e below _ (T_2.setTop (mkF m 124 #[.val (.int p1), .val (.int p2), .val (.int p3), .val (.int p4), .val (.int g1), .val (.int g2), .val (.int g3), .val (.int g4), .val (.int tot), .val (.int v0), .val (.int v1), .val (.int v2), .val (.int v3), .val (.int v4), .val (.int hm), .val (.int dm), .unset, .unset, .unset, .unset, .unset] [(.ref b__2)]))
  refine OGo.to (fun _ k => XS.astore X_2.here hx rfl (hb hby at_124) rfl rfl (l' := #[.val (.int p1), .val (.int p2), .val (.int p3), .val (.int p4), .val (.int g1), .val (.int g2), .val (.int g3), .val (.int g4), .val (.int tot), .val (.int v0), .val (.int v1), .val (.int v2), .val (.int v3), .val (.int v4), .val (.int hm), .val (.int dm), .val (.ref b__2), .unset, .unset, .unset, .unset]) rfl k) ?_
  show OGo p e below _ (T_2.setTop (mkF m 126 #[.val (.int p1), .val (.int p2), .val (.int p3), .val (.int p4), .val (.int g1), .val (.int g2), .val (.int g3), .val (.int g4), .val (.int tot), .val (.int v0), .val (.int v1), .val (.int v2), .val (.int v3), .val (.int v4), .val (.int hm), .val (.int dm), .val (.ref b__2), .unset, .unset, .unset, .unset] []))
  refine OGo.to (fun _ k => XS.iload X_2.here hx rfl (hb hby at_126) rfl k) ?_
  show OGo p e below _ (T_2.setTop (mkF m 128 #[.val (.int p1), .val (.int p2), .val (.int p3), .val (.int p4), .val (.int g1), .val (.int g2), .val (.int g3), .val (.int g4), .val (.int tot), .val (.int v0), .val (.int v1), .val (.int v2), .val (.int v3), .val (.int v4), .val (.int hm), .val (.int dm), .val (.ref b__2), .unset, .unset, .unset, .unset] [(.int dm)]))
  refine OGo.to (fun _ k => XS.iload X_2.here hx rfl (hb hby at_128) rfl k) ?_
  show OGo p e below _ (T_2.setTop (mkF m 130 #[.val (.int p1), .val (.int p2), .val (.int p3), .val (.int p4), .val (.int g1), .val (.int g2), .val (.int g3), .val (.int g4), .val (.int tot), .val (.int v0), .val (.int v1), .val (.int v2), .val (.int v3), .val (.int v4), .val (.int hm), .val (.int dm), .val (.ref b__2), .unset, .unset, .unset, .unset] [(.int v0), (.int dm)]))
  refine OGo.to (fun _ k => XS.iload X_2.here hx rfl (hb hby at_130) rfl k) ?_
  show OGo p e below _ (T_2.setTop (mkF m 132 #[.val (.int p1), .val (.int p2), .val (.int p3), .val (.int p4), .val (.int g1), .val (.int g2), .val (.int g3), .val (.int g4), .val (.int tot), .val (.int v0), .val (.int v1), .val (.int v2), .val (.int v3), .val (.int v4), .val (.int hm), .val (.int dm), .val (.ref b__2), .unset, .unset, .unset, .unset] [(.int v1), (.int v0), (.int dm)]))
  refine OGo.to (fun _ k => XS.iload X_2.here hx rfl (hb hby at_132) rfl k) ?_
  show OGo p e below _ (T_2.setTop (mkF m 134 #[.val (.int p1), .val (.int p2), .val (.int p3), .val (.int p4), .val (.int g1), .val (.int g2), .val (.int g3), .val (.int g4), .val (.int tot), .val (.int v0), .val (.int v1), .val (.int v2), .val (.int v3), .val (.int v4), .val (.int hm), .val (.int dm), .val (.ref b__2), .unset, .unset, .unset, .unset] [(.int v2), (.int v1), (.int v0), (.int dm)]))
  refine OGo.to (fun _ k => XS.iload X_2.here hx rfl (hb hby at_134) rfl k) ?_
  show OGo p e below _ (T_2.setTop (mkF m 136 #[.val (.int p1), .val (.int p2), .val (.int p3), .val (.int p4), .val (.int g1), .val (.int g2), .val (.int g3), .val (.int g4), .val (.int tot), .val (.int v0), .val (.int v1), .val (.int v2), .val (.int v3), .val (.int v4), .val (.int hm), .val (.int dm), .val (.ref b__2), .unset, .unset, .unset, .unset] [(.int v3), (.int v2), (.int v1), (.int v0), (.int dm)]))
  refine OGo.to (fun _ k => XS.iload X_2.here hx rfl (hb hby at_136) rfl k) ?_
  show OGo p e below _ (T_2.setTop (mkF m 138 #[.val (.int p1), .val (.int p2), .val (.int p3), .val (.int p4), .val (.int g1), .val (.int g2), .val (.int g3), .val (.int g4), .val (.int tot), .val (.int v0), .val (.int v1), .val (.int v2), .val (.int v3), .val (.int v4), .val (.int hm), .val (.int dm), .val (.ref b__2), .unset, .unset, .unset, .unset] [(.int v4), (.int v3), (.int v2), (.int v1), (.int v0), (.int dm)]))
  obtain ⟨_, T_4, Lc_4, X_4, hQ_4, st_4⟩ := own_un X_2 (Q := Q2 Z dm v0 v1 v2 v3 v4 T_2.heap n0) (rc := 1) (rs := 5) (W := fun v B => ∀ target, Steps p.tables e below (B.setTop { (mkF m 138 #[.val (.int p1), .val (.int p2), .val (.int p3), .val (.int p4), .val (.int g1), .val (.int g2), .val (.int g3), .val (.int g4), .val (.int tot), .val (.int v0), .val (.int v1), .val (.int v2), .val (.int v3), .val (.int v4), .val (.int hm), .val (.int dm), .val (.ref b__2), .unset, .unset, .unset, .unset] [(.int v4), (.int v3), (.int v2), (.int v1), (.int v0), (.int dm)]) with pc := 141, stack := v.toList ++ [] }) target → Steps p.tables e below (T_2.setTop (mkF m 138 #[.val (.int p1), .val (.int p2), .val (.int p3), .val (.int p4), .val (.int g1), .val (.int g2), .val (.int g3), .val (.int g4), .val (.int tot), .val (.int v0), .val (.int v1), .val (.int v2), .val (.int v3), .val (.int v4), .val (.int hm), .val (.int dm), .val (.ref b__2), .unset, .unset, .unset, .unset] [(.int v4), (.int v3), (.int v2), (.int v1), (.int v0), (.int dm)])) target) <| Jvm.LawKit.callS X_2 hx (y := (⟨"com/example/cogram/cogram/index/PostingsEntriesPinLaw", "subset", "(IIIIII)[I"⟩ : MethodName)) hown (mvT hZ (hw _ (List.mem_of_getElem? (i := 5) rfl))) (mvT hZ (hw _ (List.mem_of_getElem? (i := 6) rfl))) (mvT hZ (hw _ (List.mem_of_getElem? (i := 7) rfl))) (mvT hZ (hw _ (List.mem_of_getElem? (i := 8) rfl))) (by decide) (backOf (W := 0) (rm2 l Z a0 hw [] dm v0 v1 v2 v3 v4 T_2.heap n0 z_3 ) hZ (hw _ (List.mem_of_getElem? (i := 8) rfl)) (hw _ (List.mem_of_getElem? (i := 7) rfl)) (by decide) (by decide)) (g := (mkF m 138 #[.val (.int p1), .val (.int p2), .val (.int p3), .val (.int p4), .val (.int g1), .val (.int g2), .val (.int g3), .val (.int g4), .val (.int tot), .val (.int v0), .val (.int v1), .val (.int v2), .val (.int v3), .val (.int v4), .val (.int hm), .val (.int dm), .val (.ref b__2), .unset, .unset, .unset, .unset] [(.int v4), (.int v3), (.int v2), (.int v1), (.int v0), (.int dm)])) rfl (by rw [hml]; rfl) (argsL := [(.int dm), (.int v0), (.int v1), (.int v2), (.int v3), (.int v4)]) (rest := []) (lenOf pd_2 rfl) rfl (by show 2 * 0 + _ ≤ _; exact Nat.le_of_eq rfl) (hb hby at_138) (fun _ _ => ⟨rfl, (rfl : T_2.heap = T_2.heap), (by decide : 1 + 1 ≤ _), (by decide : 5 + 5 ≤ _)⟩)
  obtain ⟨b__4, kb__4, rfl, N_4q, K_4, gq_b__4, sq_b__4, p_4_0⟩ := hQ_4
  have N_4 := Fr.app N_2 N_4q
  refine OGo.to st_4 ?_
  have ne_b__2_b__4 : b__2 ≠ b__4 := Nat.ne_of_lt (Nat.lt_of_lt_of_le p_2_0.lt sq_b__4)
  have z_5 : n0 ≤ T_4.heap.size := Nat.le_trans z_3 K_4.1
  show OGo p e below _ (T_4.setTop (mkF m 141 #[.val (.int p1), .val (.int p2), .val (.int p3), .val (.int p4), .val (.int g1), .val (.int g2), .val (.int g3), .val (.int g4), .val (.int tot), .val (.int v0), .val (.int v1), .val (.int v2), .val (.int v3), .val (.int v4), .val (.int hm), .val (.int dm), .val (.ref b__2), .unset, .unset, .unset, .unset] [(.ref b__4)]))
  refine OGo.to (fun _ k => XS.astore X_4.here hx rfl (hb hby at_141) rfl rfl (l' := #[.val (.int p1), .val (.int p2), .val (.int p3), .val (.int p4), .val (.int g1), .val (.int g2), .val (.int g3), .val (.int g4), .val (.int tot), .val (.int v0), .val (.int v1), .val (.int v2), .val (.int v3), .val (.int v4), .val (.int hm), .val (.int dm), .val (.ref b__2), .val (.ref b__4), .unset, .unset, .unset]) rfl k) ?_
  show OGo p e below _ (T_4.setTop (mkF m 143 #[.val (.int p1), .val (.int p2), .val (.int p3), .val (.int p4), .val (.int g1), .val (.int g2), .val (.int g3), .val (.int g4), .val (.int tot), .val (.int v0), .val (.int v1), .val (.int v2), .val (.int v3), .val (.int v4), .val (.int hm), .val (.int dm), .val (.ref b__2), .val (.ref b__4), .unset, .unset, .unset] []))
  refine OGo.to (fun _ k => XS.aload X_4.here hx rfl (hb hby at_143) rfl rfl k) ?_
  show OGo p e below _ (T_4.setTop (mkF m 145 #[.val (.int p1), .val (.int p2), .val (.int p3), .val (.int p4), .val (.int g1), .val (.int g2), .val (.int g3), .val (.int g4), .val (.int tot), .val (.int v0), .val (.int v1), .val (.int v2), .val (.int v3), .val (.int v4), .val (.int hm), .val (.int dm), .val (.ref b__2), .val (.ref b__4), .unset, .unset, .unset] [(.ref b__4)]))
  have Vq_6 := p_4_0
  obtain ⟨cl_6, Ar_6, q_6, S_6, M_6, Hs_6, G_6⟩ := Vq_6
  refine OGo.to (fun _ k => X_4.arraylength hx (by rw [(rfl : T_4.heap = T_4.heap)]; exact Ar_6.1) (State.isArrayOf_alike hZ.alike Ar_6.2.1) (g := (mkF m 145 #[.val (.int p1), .val (.int p2), .val (.int p3), .val (.int p4), .val (.int g1), .val (.int g2), .val (.int g3), .val (.int g4), .val (.int tot), .val (.int v0), .val (.int v1), .val (.int v2), .val (.int v3), .val (.int v4), .val (.int hm), .val (.int dm), .val (.ref b__2), .val (.ref b__4), .unset, .unset, .unset] [(.ref b__4)])) rfl rfl (hb hby at_145) _ k) ?_
  rw [len_of S_6 M_6]
  show OGo p e below _ (T_4.setTop (mkF m 146 #[.val (.int p1), .val (.int p2), .val (.int p3), .val (.int p4), .val (.int g1), .val (.int g2), .val (.int g3), .val (.int g4), .val (.int tot), .val (.int v0), .val (.int v1), .val (.int v2), .val (.int v3), .val (.int v4), .val (.int hm), .val (.int dm), .val (.ref b__2), .val (.ref b__4), .unset, .unset, .unset] [(.int (own_i (own_sel dm v0 v1 v2 v3 v4).length))]))
  have f_8 : Arv Z T_4.heap b__2 kb__2 .int (own_i (own_sel hm v0 v1 v2 v3 v4).length) ((own_sel hm v0 v1 v2 v3 v4).map Value.int) (.int (0 : Int32)) := (p_2_0.keep K_4 (List.not_mem_nil))
  obtain ⟨T_7, h_7, k_7, X_7, e_7, E_7, A_7, st_7⟩ := newP X_4 hx hZ (hw _ (List.mem_of_getElem? (i := 15) rfl)) (rfl : T_4.heap = T_4.heap) (g := (mkF m 146 #[.val (.int p1), .val (.int p2), .val (.int p3), .val (.int p4), .val (.int g1), .val (.int g2), .val (.int g3), .val (.int g4), .val (.int tot), .val (.int v0), .val (.int v1), .val (.int v2), .val (.int v3), .val (.int v4), .val (.int hm), .val (.int dm), .val (.ref b__2), .val (.ref b__4), .unset, .unset, .unset] [(.int (own_i (own_sel dm v0 v1 v2 v3 v4).length))])) rfl (hb hby at_146) rfl (own_inn _ (Nat.lt_of_le_of_lt (own_selLen _ _ _ _ _ _) (by decide))) (cap := 5) (by rw [own_clamp _ (Nat.lt_of_le_of_lt (own_selLen _ _ _ _ _ _) (by decide))]; exact own_selLen _ _ _ _ _ _) (by decide) (by decide) (by decide)
  obtain ⟨b_7, g_7⟩ : ∃ z, z = T_4.heap.size := ⟨_, rfl⟩
  rw [← g_7] at A_7 st_7
  have g_b_7 : n0 ≤ b_7 := Nat.le_trans z_5 (Nat.le_of_eq g_7.symm)
  refine OGo.to st_7 ?_
  have ne_b__2_b_7 : b__2 ≠ b_7 := Nat.ne_of_lt (Nat.lt_of_lt_of_le f_8.lt (Nat.le_of_eq g_7.symm))
  have ne_b__4_b_7 : b__4 ≠ b_7 := Nat.ne_of_lt (Nat.lt_of_lt_of_le p_4_0.lt (Nat.le_of_eq g_7.symm))
  have z_9 : n0 ≤ h_7.size := Nat.le_trans z_5 E_7.1
  have V_7 : Arv Z h_7 b_7 k_7 .int (own_i (own_sel dm v0 v1 v2 v3 v4).length) [] (.int (0 : Int32)) := Arv.new A_7 (own_inn _ (Nat.lt_of_le_of_lt (own_selLen _ _ _ _ _ _) (by decide)))
  show OGo p e below _ (T_7.setTop (mkF m 148 #[.val (.int p1), .val (.int p2), .val (.int p3), .val (.int p4), .val (.int g1), .val (.int g2), .val (.int g3), .val (.int g4), .val (.int tot), .val (.int v0), .val (.int v1), .val (.int v2), .val (.int v3), .val (.int v4), .val (.int hm), .val (.int dm), .val (.ref b__2), .val (.ref b__4), .unset, .unset, .unset] [(.ref b_7)]))
  refine OGo.to (fun _ k => XS.astore X_7.here hx rfl (hb hby at_148) rfl rfl (l' := #[.val (.int p1), .val (.int p2), .val (.int p3), .val (.int p4), .val (.int g1), .val (.int g2), .val (.int g3), .val (.int g4), .val (.int tot), .val (.int v0), .val (.int v1), .val (.int v2), .val (.int v3), .val (.int v4), .val (.int hm), .val (.int dm), .val (.ref b__2), .val (.ref b__4), .val (.ref b_7), .unset, .unset]) rfl k) ?_
  show OGo p e below _ (T_7.setTop (mkF m 150 #[.val (.int p1), .val (.int p2), .val (.int p3), .val (.int p4), .val (.int g1), .val (.int g2), .val (.int g3), .val (.int g4), .val (.int tot), .val (.int v0), .val (.int v1), .val (.int v2), .val (.int v3), .val (.int v4), .val (.int hm), .val (.int dm), .val (.ref b__2), .val (.ref b__4), .val (.ref b_7), .unset, .unset] []))
  refine OGo.to (fun _ k => XS.iconst X_7.here hx rfl (hb hby at_150) k) ?_
  show OGo p e below _ (T_7.setTop (mkF m 151 #[.val (.int p1), .val (.int p2), .val (.int p3), .val (.int p4), .val (.int g1), .val (.int g2), .val (.int g3), .val (.int g4), .val (.int tot), .val (.int v0), .val (.int v1), .val (.int v2), .val (.int v3), .val (.int v4), .val (.int hm), .val (.int dm), .val (.ref b__2), .val (.ref b__4), .val (.ref b_7), .unset, .unset] [(.int (0 : Int32))]))
  refine OGo.to (fun _ k => XS.istore X_7.here hx rfl (hb hby at_151) rfl (l' := #[.val (.int p1), .val (.int p2), .val (.int p3), .val (.int p4), .val (.int g1), .val (.int g2), .val (.int g3), .val (.int g4), .val (.int tot), .val (.int v0), .val (.int v1), .val (.int v2), .val (.int v3), .val (.int v4), .val (.int hm), .val (.int dm), .val (.ref b__2), .val (.ref b__4), .val (.ref b_7), .val (.int (0 : Int32)), .unset]) rfl k) ?_
  show OGo p e below _ (T_7.setTop (mkF m 153 #[.val (.int p1), .val (.int p2), .val (.int p3), .val (.int p4), .val (.int g1), .val (.int g2), .val (.int g3), .val (.int g4), .val (.int tot), .val (.int v0), .val (.int v1), .val (.int v2), .val (.int v3), .val (.int v4), .val (.int hm), .val (.int dm), .val (.ref b__2), .val (.ref b__4), .val (.ref b_7), .val (.int (0 : Int32)), .unset] []))
  refine OGo.to (fun _ k => XS.aload X_7.here hx rfl (hb hby at_153) rfl rfl k) ?_
  show OGo p e below _ (T_7.setTop (mkF m 155 #[.val (.int p1), .val (.int p2), .val (.int p3), .val (.int p4), .val (.int g1), .val (.int g2), .val (.int g3), .val (.int g4), .val (.int tot), .val (.int v0), .val (.int v1), .val (.int v2), .val (.int v3), .val (.int v4), .val (.int hm), .val (.int dm), .val (.ref b__2), .val (.ref b__4), .val (.ref b_7), .val (.int (0 : Int32)), .unset] [(.ref b_7)]))
  refine OGo.to (fun _ k => XS.iload X_7.here hx rfl (hb hby at_155) rfl k) ?_
  show OGo p e below _ (T_7.setTop (mkF m 157 #[.val (.int p1), .val (.int p2), .val (.int p3), .val (.int p4), .val (.int g1), .val (.int g2), .val (.int g3), .val (.int g4), .val (.int tot), .val (.int v0), .val (.int v1), .val (.int v2), .val (.int v3), .val (.int v4), .val (.int hm), .val (.int dm), .val (.ref b__2), .val (.ref b__4), .val (.ref b_7), .val (.int (0 : Int32)), .unset] [(.int (0 : Int32)), (.ref b_7)]))
  refine OGo.to (fun _ k => XS.iload X_7.here hx rfl (hb hby at_157) rfl k) ?_
  show OGo p e below _ (T_7.setTop (mkF m 159 #[.val (.int p1), .val (.int p2), .val (.int p3), .val (.int p4), .val (.int g1), .val (.int g2), .val (.int g3), .val (.int g4), .val (.int tot), .val (.int v0), .val (.int v1), .val (.int v2), .val (.int v3), .val (.int v4), .val (.int hm), .val (.int dm), .val (.ref b__2), .val (.ref b__4), .val (.ref b_7), .val (.int (0 : Int32)), .unset] [(.int dm), (.int (0 : Int32)), (.ref b_7)]))
  refine OGo.to (fun _ k => XS.iload X_7.here hx rfl (hb hby at_159) rfl k) ?_
  show OGo p e below _ (T_7.setTop (mkF m 161 #[.val (.int p1), .val (.int p2), .val (.int p3), .val (.int p4), .val (.int g1), .val (.int g2), .val (.int g3), .val (.int g4), .val (.int tot), .val (.int v0), .val (.int v1), .val (.int v2), .val (.int v3), .val (.int v4), .val (.int hm), .val (.int dm), .val (.ref b__2), .val (.ref b__4), .val (.ref b_7), .val (.int (0 : Int32)), .unset] [(.int hm), (.int dm), (.int (0 : Int32)), (.ref b_7)]))
  refine OGo.to (fun _ k => XS.iconst X_7.here hx rfl (hb hby at_161) k) ?_
  show OGo p e below _ (T_7.setTop (mkF m 162 #[.val (.int p1), .val (.int p2), .val (.int p3), .val (.int p4), .val (.int g1), .val (.int g2), .val (.int g3), .val (.int g4), .val (.int tot), .val (.int v0), .val (.int v1), .val (.int v2), .val (.int v3), .val (.int v4), .val (.int hm), .val (.int dm), .val (.ref b__2), .val (.ref b__4), .val (.ref b_7), .val (.int (0 : Int32)), .unset] [(.int (0 : Int32)), (.int hm), (.int dm), (.int (0 : Int32)), (.ref b_7)]))
  obtain ⟨_, T_10, Lc_10, X_10, hQ_10, st_10⟩ := own_un X_7 (Q := Qput0 Z b_7 (0 : Int32) dm hm k_7 (own_i (own_sel dm v0 v1 v2 v3 v4).length) ([] : List Int32) h_7 n0) (rc := 0) (rs := 0) (W := fun v B => ∀ target, Steps p.tables e below (B.setTop { (mkF m 162 #[.val (.int p1), .val (.int p2), .val (.int p3), .val (.int p4), .val (.int g1), .val (.int g2), .val (.int g3), .val (.int g4), .val (.int tot), .val (.int v0), .val (.int v1), .val (.int v2), .val (.int v3), .val (.int v4), .val (.int hm), .val (.int dm), .val (.ref b__2), .val (.ref b__4), .val (.ref b_7), .val (.int (0 : Int32)), .unset] [(.int (0 : Int32)), (.int hm), (.int dm), (.int (0 : Int32)), (.ref b_7)]) with pc := 165, stack := v.toList ++ [] }) target → Steps p.tables e below (T_7.setTop (mkF m 162 #[.val (.int p1), .val (.int p2), .val (.int p3), .val (.int p4), .val (.int g1), .val (.int g2), .val (.int g3), .val (.int g4), .val (.int tot), .val (.int v0), .val (.int v1), .val (.int v2), .val (.int v3), .val (.int v4), .val (.int hm), .val (.int dm), .val (.ref b__2), .val (.ref b__4), .val (.ref b_7), .val (.int (0 : Int32)), .unset] [(.int (0 : Int32)), (.int hm), (.int dm), (.int (0 : Int32)), (.ref b_7)])) target) <| Jvm.LawKit.callS X_7 hx (y := (⟨"com/example/cogram/cogram/index/PostingsEntriesPinLaw", "put", "([IIIII)I"⟩ : MethodName)) hown (mvT hZ (hw _ (List.mem_of_getElem? (i := 16) rfl))) (mvT hZ (hw _ (List.mem_of_getElem? (i := 17) rfl))) (mvT hZ (hw _ (List.mem_of_getElem? (i := 7) rfl))) (mvT hZ (hw _ (List.mem_of_getElem? (i := 18) rfl))) (by decide) (backOf (W := 0) (rmput0 l Z a0 hw [] b_7 (0 : Int32) dm hm k_7 (own_i (own_sel dm v0 v1 v2 v3 v4).length) ([] : List Int32) h_7 n0 z_9 V_7 rfl (own_hin0 hdm hhm) (own_chl0 hdm hhm) g_b_7) hZ (hw _ (List.mem_of_getElem? (i := 18) rfl)) (hw _ (List.mem_of_getElem? (i := 7) rfl)) (by decide) (by decide)) (g := (mkF m 162 #[.val (.int p1), .val (.int p2), .val (.int p3), .val (.int p4), .val (.int g1), .val (.int g2), .val (.int g3), .val (.int g4), .val (.int tot), .val (.int v0), .val (.int v1), .val (.int v2), .val (.int v3), .val (.int v4), .val (.int hm), .val (.int dm), .val (.ref b__2), .val (.ref b__4), .val (.ref b_7), .val (.int (0 : Int32)), .unset] [(.int (0 : Int32)), (.int hm), (.int dm), (.int (0 : Int32)), (.ref b_7)])) rfl (by rw [hml]; rfl) (argsL := [(.ref b_7), (.int (0 : Int32)), (.int dm), (.int hm), (.int (0 : Int32))]) (rest := []) (lenOf pd_3 rfl) rfl (by show 2 * 0 + _ ≤ _; exact Nat.le_of_eq rfl) (hb hby at_162) (fun _ _ => ⟨rfl, e_7, (by decide : 3 + 0 ≤ _), (by decide : 15 + 0 ≤ _)⟩)
  obtain ⟨rfl, N_10q, K_10, p_10_0⟩ := hQ_10
  have N_10 := Fr.app N_4 N_10q
  refine OGo.to st_10 ?_
  have z_11 : n0 ≤ T_10.heap.size := Nat.le_trans z_9 K_10.1
  show OGo p e below _ (T_10.setTop (mkF m 165 #[.val (.int p1), .val (.int p2), .val (.int p3), .val (.int p4), .val (.int g1), .val (.int g2), .val (.int g3), .val (.int g4), .val (.int tot), .val (.int v0), .val (.int v1), .val (.int v2), .val (.int v3), .val (.int v4), .val (.int hm), .val (.int dm), .val (.ref b__2), .val (.ref b__4), .val (.ref b_7), .val (.int (0 : Int32)), .unset] [(.int (own_i (own_put ([] : List Int32) dm hm (0 : Int32)).length))]))
  refine OGo.to (fun _ k => XS.istore X_10.here hx rfl (hb hby at_165) rfl (l' := #[.val (.int p1), .val (.int p2), .val (.int p3), .val (.int p4), .val (.int g1), .val (.int g2), .val (.int g3), .val (.int g4), .val (.int tot), .val (.int v0), .val (.int v1), .val (.int v2), .val (.int v3), .val (.int v4), .val (.int hm), .val (.int dm), .val (.ref b__2), .val (.ref b__4), .val (.ref b_7), .val (.int (own_i (own_put ([] : List Int32) dm hm (0 : Int32)).length)), .unset]) rfl k) ?_
  show OGo p e below _ (T_10.setTop (mkF m 167 #[.val (.int p1), .val (.int p2), .val (.int p3), .val (.int p4), .val (.int g1), .val (.int g2), .val (.int g3), .val (.int g4), .val (.int tot), .val (.int v0), .val (.int v1), .val (.int v2), .val (.int v3), .val (.int v4), .val (.int hm), .val (.int dm), .val (.ref b__2), .val (.ref b__4), .val (.ref b_7), .val (.int (own_i (own_put ([] : List Int32) dm hm (0 : Int32)).length)), .unset] []))
  refine OGo.to (fun _ k => XS.aload X_10.here hx rfl (hb hby at_167) rfl rfl k) ?_
  show OGo p e below _ (T_10.setTop (mkF m 169 #[.val (.int p1), .val (.int p2), .val (.int p3), .val (.int p4), .val (.int g1), .val (.int g2), .val (.int g3), .val (.int g4), .val (.int tot), .val (.int v0), .val (.int v1), .val (.int v2), .val (.int v3), .val (.int v4), .val (.int hm), .val (.int dm), .val (.ref b__2), .val (.ref b__4), .val (.ref b_7), .val (.int (own_i (own_put ([] : List Int32) dm hm (0 : Int32)).length)), .unset] [(.ref b_7)]))
  refine OGo.to (fun _ k => XS.iload X_10.here hx rfl (hb hby at_169) rfl k) ?_
  show OGo p e below _ (T_10.setTop (mkF m 171 #[.val (.int p1), .val (.int p2), .val (.int p3), .val (.int p4), .val (.int g1), .val (.int g2), .val (.int g3), .val (.int g4), .val (.int tot), .val (.int v0), .val (.int v1), .val (.int v2), .val (.int v3), .val (.int v4), .val (.int hm), .val (.int dm), .val (.ref b__2), .val (.ref b__4), .val (.ref b_7), .val (.int (own_i (own_put ([] : List Int32) dm hm (0 : Int32)).length)), .unset] [(.int (own_i (own_put ([] : List Int32) dm hm (0 : Int32)).length)), (.ref b_7)]))
  refine OGo.to (fun _ k => XS.iload X_10.here hx rfl (hb hby at_171) rfl k) ?_
  show OGo p e below _ (T_10.setTop (mkF m 173 #[.val (.int p1), .val (.int p2), .val (.int p3), .val (.int p4), .val (.int g1), .val (.int g2), .val (.int g3), .val (.int g4), .val (.int tot), .val (.int v0), .val (.int v1), .val (.int v2), .val (.int v3), .val (.int v4), .val (.int hm), .val (.int dm), .val (.ref b__2), .val (.ref b__4), .val (.ref b_7), .val (.int (own_i (own_put ([] : List Int32) dm hm (0 : Int32)).length)), .unset] [(.int dm), (.int (own_i (own_put ([] : List Int32) dm hm (0 : Int32)).length)), (.ref b_7)]))
  refine OGo.to (fun _ k => XS.iload X_10.here hx rfl (hb hby at_173) rfl k) ?_
  show OGo p e below _ (T_10.setTop (mkF m 175 #[.val (.int p1), .val (.int p2), .val (.int p3), .val (.int p4), .val (.int g1), .val (.int g2), .val (.int g3), .val (.int g4), .val (.int tot), .val (.int v0), .val (.int v1), .val (.int v2), .val (.int v3), .val (.int v4), .val (.int hm), .val (.int dm), .val (.ref b__2), .val (.ref b__4), .val (.ref b_7), .val (.int (own_i (own_put ([] : List Int32) dm hm (0 : Int32)).length)), .unset] [(.int hm), (.int dm), (.int (own_i (own_put ([] : List Int32) dm hm (0 : Int32)).length)), (.ref b_7)]))
  refine OGo.to (fun _ k => XS.iconst X_10.here hx rfl (hb hby at_175) k) ?_
  show OGo p e below _ (T_10.setTop (mkF m 176 #[.val (.int p1), .val (.int p2), .val (.int p3), .val (.int p4), .val (.int g1), .val (.int g2), .val (.int g3), .val (.int g4), .val (.int tot), .val (.int v0), .val (.int v1), .val (.int v2), .val (.int v3), .val (.int v4), .val (.int hm), .val (.int dm), .val (.ref b__2), .val (.ref b__4), .val (.ref b_7), .val (.int (own_i (own_put ([] : List Int32) dm hm (0 : Int32)).length)), .unset] [(.int (1 : Int32)), (.int hm), (.int dm), (.int (own_i (own_put ([] : List Int32) dm hm (0 : Int32)).length)), (.ref b_7)]))
  obtain ⟨_, T_12, Lc_12, X_12, hQ_12, st_12⟩ := own_un X_10 (Q := Qput1 Z b_7 (own_i (own_put ([] : List Int32) dm hm (0 : Int32)).length) dm hm k_7 (own_i (own_sel dm v0 v1 v2 v3 v4).length) (own_put ([] : List Int32) dm hm (0 : Int32)) T_10.heap n0) (rc := 0) (rs := 0) (W := fun v B => ∀ target, Steps p.tables e below (B.setTop { (mkF m 176 #[.val (.int p1), .val (.int p2), .val (.int p3), .val (.int p4), .val (.int g1), .val (.int g2), .val (.int g3), .val (.int g4), .val (.int tot), .val (.int v0), .val (.int v1), .val (.int v2), .val (.int v3), .val (.int v4), .val (.int hm), .val (.int dm), .val (.ref b__2), .val (.ref b__4), .val (.ref b_7), .val (.int (own_i (own_put ([] : List Int32) dm hm (0 : Int32)).length)), .unset] [(.int (1 : Int32)), (.int hm), (.int dm), (.int (own_i (own_put ([] : List Int32) dm hm (0 : Int32)).length)), (.ref b_7)]) with pc := 179, stack := v.toList ++ [] }) target → Steps p.tables e below (T_10.setTop (mkF m 176 #[.val (.int p1), .val (.int p2), .val (.int p3), .val (.int p4), .val (.int g1), .val (.int g2), .val (.int g3), .val (.int g4), .val (.int tot), .val (.int v0), .val (.int v1), .val (.int v2), .val (.int v3), .val (.int v4), .val (.int hm), .val (.int dm), .val (.ref b__2), .val (.ref b__4), .val (.ref b_7), .val (.int (own_i (own_put ([] : List Int32) dm hm (0 : Int32)).length)), .unset] [(.int (1 : Int32)), (.int hm), (.int dm), (.int (own_i (own_put ([] : List Int32) dm hm (0 : Int32)).length)), (.ref b_7)])) target) <| Jvm.LawKit.callS X_10 hx (y := (⟨"com/example/cogram/cogram/index/PostingsEntriesPinLaw", "put", "([IIIII)I"⟩ : MethodName)) hown (mvT hZ (hw _ (List.mem_of_getElem? (i := 16) rfl))) (mvT hZ (hw _ (List.mem_of_getElem? (i := 17) rfl))) (mvT hZ (hw _ (List.mem_of_getElem? (i := 7) rfl))) (mvT hZ (hw _ (List.mem_of_getElem? (i := 18) rfl))) (by decide) (backOf (W := 0) (rmput1 l Z a0 hw [] b_7 (own_i (own_put ([] : List Int32) dm hm (0 : Int32)).length) dm hm k_7 (own_i (own_sel dm v0 v1 v2 v3 v4).length) (own_put ([] : List Int32) dm hm (0 : Int32)) T_10.heap n0 z_11 p_10_0 rfl (own_hin1 hdm hhm) (own_chl1 hdm hhm) g_b_7) hZ (hw _ (List.mem_of_getElem? (i := 18) rfl)) (hw _ (List.mem_of_getElem? (i := 7) rfl)) (by decide) (by decide)) (g := (mkF m 176 #[.val (.int p1), .val (.int p2), .val (.int p3), .val (.int p4), .val (.int g1), .val (.int g2), .val (.int g3), .val (.int g4), .val (.int tot), .val (.int v0), .val (.int v1), .val (.int v2), .val (.int v3), .val (.int v4), .val (.int hm), .val (.int dm), .val (.ref b__2), .val (.ref b__4), .val (.ref b_7), .val (.int (own_i (own_put ([] : List Int32) dm hm (0 : Int32)).length)), .unset] [(.int (1 : Int32)), (.int hm), (.int dm), (.int (own_i (own_put ([] : List Int32) dm hm (0 : Int32)).length)), (.ref b_7)])) rfl (by rw [hml]; rfl) (argsL := [(.ref b_7), (.int (own_i (own_put ([] : List Int32) dm hm (0 : Int32)).length)), (.int dm), (.int hm), (.int (1 : Int32))]) (rest := []) (lenOf pd_3 rfl) rfl (by show 2 * 0 + _ ≤ _; exact Nat.le_of_eq rfl) (hb hby at_176) (fun _ _ => ⟨rfl, (rfl : T_10.heap = T_10.heap), (by decide : 3 + 0 ≤ _), (by decide : 15 + 0 ≤ _)⟩)
  obtain ⟨rfl, N_12q, K_12, p_12_0⟩ := hQ_12
  have N_12 := Fr.app N_10 N_12q
  refine OGo.to st_12 ?_
  have z_13 : n0 ≤ T_12.heap.size := Nat.le_trans z_11 K_12.1
  show OGo p e below _ (T_12.setTop (mkF m 179 #[.val (.int p1), .val (.int p2), .val (.int p3), .val (.int p4), .val (.int g1), .val (.int g2), .val (.int g3), .val (.int g4), .val (.int tot), .val (.int v0), .val (.int v1), .val (.int v2), .val (.int v3), .val (.int v4), .val (.int hm), .val (.int dm), .val (.ref b__2), .val (.ref b__4), .val (.ref b_7), .val (.int (own_i (own_put ([] : List Int32) dm hm (0 : Int32)).length)), .unset] [(.int (own_i (own_put (own_put ([] : List Int32) dm hm (0 : Int32)) dm hm (1 : Int32)).length))]))
  refine OGo.to (fun _ k => XS.istore X_12.here hx rfl (hb hby at_179) rfl (l' := #[.val (.int p1), .val (.int p2), .val (.int p3), .val (.int p4), .val (.int g1), .val (.int g2), .val (.int g3), .val (.int g4), .val (.int tot), .val (.int v0), .val (.int v1), .val (.int v2), .val (.int v3), .val (.int v4), .val (.int hm), .val (.int dm), .val (.ref b__2), .val (.ref b__4), .val (.ref b_7), .val (.int (own_i (own_put (own_put ([] : List Int32) dm hm (0 : Int32)) dm hm (1 : Int32)).length)), .unset]) rfl k) ?_
  show OGo p e below _ (T_12.setTop (mkF m 181 #[.val (.int p1), .val (.int p2), .val (.int p3), .val (.int p4), .val (.int g1), .val (.int g2), .val (.int g3), .val (.int g4), .val (.int tot), .val (.int v0), .val (.int v1), .val (.int v2), .val (.int v3), .val (.int v4), .val (.int hm), .val (.int dm), .val (.ref b__2), .val (.ref b__4), .val (.ref b_7), .val (.int (own_i (own_put (own_put ([] : List Int32) dm hm (0 : Int32)) dm hm (1 : Int32)).length)), .unset] []))
  refine OGo.to (fun _ k => XS.aload X_12.here hx rfl (hb hby at_181) rfl rfl k) ?_
  show OGo p e below _ (T_12.setTop (mkF m 183 #[.val (.int p1), .val (.int p2), .val (.int p3), .val (.int p4), .val (.int g1), .val (.int g2), .val (.int g3), .val (.int g4), .val (.int tot), .val (.int v0), .val (.int v1), .val (.int v2), .val (.int v3), .val (.int v4), .val (.int hm), .val (.int dm), .val (.ref b__2), .val (.ref b__4), .val (.ref b_7), .val (.int (own_i (own_put (own_put ([] : List Int32) dm hm (0 : Int32)) dm hm (1 : Int32)).length)), .unset] [(.ref b_7)]))
  refine OGo.to (fun _ k => XS.iload X_12.here hx rfl (hb hby at_183) rfl k) ?_
  show OGo p e below _ (T_12.setTop (mkF m 185 #[.val (.int p1), .val (.int p2), .val (.int p3), .val (.int p4), .val (.int g1), .val (.int g2), .val (.int g3), .val (.int g4), .val (.int tot), .val (.int v0), .val (.int v1), .val (.int v2), .val (.int v3), .val (.int v4), .val (.int hm), .val (.int dm), .val (.ref b__2), .val (.ref b__4), .val (.ref b_7), .val (.int (own_i (own_put (own_put ([] : List Int32) dm hm (0 : Int32)) dm hm (1 : Int32)).length)), .unset] [(.int (own_i (own_put (own_put ([] : List Int32) dm hm (0 : Int32)) dm hm (1 : Int32)).length)), (.ref b_7)]))
  refine OGo.to (fun _ k => XS.iload X_12.here hx rfl (hb hby at_185) rfl k) ?_
  show OGo p e below _ (T_12.setTop (mkF m 187 #[.val (.int p1), .val (.int p2), .val (.int p3), .val (.int p4), .val (.int g1), .val (.int g2), .val (.int g3), .val (.int g4), .val (.int tot), .val (.int v0), .val (.int v1), .val (.int v2), .val (.int v3), .val (.int v4), .val (.int hm), .val (.int dm), .val (.ref b__2), .val (.ref b__4), .val (.ref b_7), .val (.int (own_i (own_put (own_put ([] : List Int32) dm hm (0 : Int32)) dm hm (1 : Int32)).length)), .unset] [(.int dm), (.int (own_i (own_put (own_put ([] : List Int32) dm hm (0 : Int32)) dm hm (1 : Int32)).length)), (.ref b_7)]))
  refine OGo.to (fun _ k => XS.iload X_12.here hx rfl (hb hby at_187) rfl k) ?_
  show OGo p e below _ (T_12.setTop (mkF m 189 #[.val (.int p1), .val (.int p2), .val (.int p3), .val (.int p4), .val (.int g1), .val (.int g2), .val (.int g3), .val (.int g4), .val (.int tot), .val (.int v0), .val (.int v1), .val (.int v2), .val (.int v3), .val (.int v4), .val (.int hm), .val (.int dm), .val (.ref b__2), .val (.ref b__4), .val (.ref b_7), .val (.int (own_i (own_put (own_put ([] : List Int32) dm hm (0 : Int32)) dm hm (1 : Int32)).length)), .unset] [(.int hm), (.int dm), (.int (own_i (own_put (own_put ([] : List Int32) dm hm (0 : Int32)) dm hm (1 : Int32)).length)), (.ref b_7)]))
  refine OGo.to (fun _ k => XS.iconst X_12.here hx rfl (hb hby at_189) k) ?_
  show OGo p e below _ (T_12.setTop (mkF m 190 #[.val (.int p1), .val (.int p2), .val (.int p3), .val (.int p4), .val (.int g1), .val (.int g2), .val (.int g3), .val (.int g4), .val (.int tot), .val (.int v0), .val (.int v1), .val (.int v2), .val (.int v3), .val (.int v4), .val (.int hm), .val (.int dm), .val (.ref b__2), .val (.ref b__4), .val (.ref b_7), .val (.int (own_i (own_put (own_put ([] : List Int32) dm hm (0 : Int32)) dm hm (1 : Int32)).length)), .unset] [(.int (2 : Int32)), (.int hm), (.int dm), (.int (own_i (own_put (own_put ([] : List Int32) dm hm (0 : Int32)) dm hm (1 : Int32)).length)), (.ref b_7)]))
  obtain ⟨_, T_14, Lc_14, X_14, hQ_14, st_14⟩ := own_un X_12 (Q := Qput2 Z b_7 (own_i (own_put (own_put ([] : List Int32) dm hm (0 : Int32)) dm hm (1 : Int32)).length) dm hm k_7 (own_i (own_sel dm v0 v1 v2 v3 v4).length) (own_put (own_put ([] : List Int32) dm hm (0 : Int32)) dm hm (1 : Int32)) T_12.heap n0) (rc := 0) (rs := 0) (W := fun v B => ∀ target, Steps p.tables e below (B.setTop { (mkF m 190 #[.val (.int p1), .val (.int p2), .val (.int p3), .val (.int p4), .val (.int g1), .val (.int g2), .val (.int g3), .val (.int g4), .val (.int tot), .val (.int v0), .val (.int v1), .val (.int v2), .val (.int v3), .val (.int v4), .val (.int hm), .val (.int dm), .val (.ref b__2), .val (.ref b__4), .val (.ref b_7), .val (.int (own_i (own_put (own_put ([] : List Int32) dm hm (0 : Int32)) dm hm (1 : Int32)).length)), .unset] [(.int (2 : Int32)), (.int hm), (.int dm), (.int (own_i (own_put (own_put ([] : List Int32) dm hm (0 : Int32)) dm hm (1 : Int32)).length)), (.ref b_7)]) with pc := 193, stack := v.toList ++ [] }) target → Steps p.tables e below (T_12.setTop (mkF m 190 #[.val (.int p1), .val (.int p2), .val (.int p3), .val (.int p4), .val (.int g1), .val (.int g2), .val (.int g3), .val (.int g4), .val (.int tot), .val (.int v0), .val (.int v1), .val (.int v2), .val (.int v3), .val (.int v4), .val (.int hm), .val (.int dm), .val (.ref b__2), .val (.ref b__4), .val (.ref b_7), .val (.int (own_i (own_put (own_put ([] : List Int32) dm hm (0 : Int32)) dm hm (1 : Int32)).length)), .unset] [(.int (2 : Int32)), (.int hm), (.int dm), (.int (own_i (own_put (own_put ([] : List Int32) dm hm (0 : Int32)) dm hm (1 : Int32)).length)), (.ref b_7)])) target) <| Jvm.LawKit.callS X_12 hx (y := (⟨"com/example/cogram/cogram/index/PostingsEntriesPinLaw", "put", "([IIIII)I"⟩ : MethodName)) hown (mvT hZ (hw _ (List.mem_of_getElem? (i := 16) rfl))) (mvT hZ (hw _ (List.mem_of_getElem? (i := 17) rfl))) (mvT hZ (hw _ (List.mem_of_getElem? (i := 7) rfl))) (mvT hZ (hw _ (List.mem_of_getElem? (i := 18) rfl))) (by decide) (backOf (W := 0) (rmput2 l Z a0 hw [] b_7 (own_i (own_put (own_put ([] : List Int32) dm hm (0 : Int32)) dm hm (1 : Int32)).length) dm hm k_7 (own_i (own_sel dm v0 v1 v2 v3 v4).length) (own_put (own_put ([] : List Int32) dm hm (0 : Int32)) dm hm (1 : Int32)) T_12.heap n0 z_13 p_12_0 rfl (own_hin2 hdm hhm) (own_chl2 hdm hhm) g_b_7) hZ (hw _ (List.mem_of_getElem? (i := 18) rfl)) (hw _ (List.mem_of_getElem? (i := 7) rfl)) (by decide) (by decide)) (g := (mkF m 190 #[.val (.int p1), .val (.int p2), .val (.int p3), .val (.int p4), .val (.int g1), .val (.int g2), .val (.int g3), .val (.int g4), .val (.int tot), .val (.int v0), .val (.int v1), .val (.int v2), .val (.int v3), .val (.int v4), .val (.int hm), .val (.int dm), .val (.ref b__2), .val (.ref b__4), .val (.ref b_7), .val (.int (own_i (own_put (own_put ([] : List Int32) dm hm (0 : Int32)) dm hm (1 : Int32)).length)), .unset] [(.int (2 : Int32)), (.int hm), (.int dm), (.int (own_i (own_put (own_put ([] : List Int32) dm hm (0 : Int32)) dm hm (1 : Int32)).length)), (.ref b_7)])) rfl (by rw [hml]; rfl) (argsL := [(.ref b_7), (.int (own_i (own_put (own_put ([] : List Int32) dm hm (0 : Int32)) dm hm (1 : Int32)).length)), (.int dm), (.int hm), (.int (2 : Int32))]) (rest := []) (lenOf pd_3 rfl) rfl (by show 2 * 0 + _ ≤ _; exact Nat.le_of_eq rfl) (hb hby at_190) (fun _ _ => ⟨rfl, (rfl : T_12.heap = T_12.heap), (by decide : 3 + 0 ≤ _), (by decide : 15 + 0 ≤ _)⟩)
  obtain ⟨rfl, N_14q, K_14, p_14_0⟩ := hQ_14
  have N_14 := Fr.app N_12 N_14q
  refine OGo.to st_14 ?_
  have z_15 : n0 ≤ T_14.heap.size := Nat.le_trans z_13 K_14.1
  show OGo p e below _ (T_14.setTop (mkF m 193 #[.val (.int p1), .val (.int p2), .val (.int p3), .val (.int p4), .val (.int g1), .val (.int g2), .val (.int g3), .val (.int g4), .val (.int tot), .val (.int v0), .val (.int v1), .val (.int v2), .val (.int v3), .val (.int v4), .val (.int hm), .val (.int dm), .val (.ref b__2), .val (.ref b__4), .val (.ref b_7), .val (.int (own_i (own_put (own_put ([] : List Int32) dm hm (0 : Int32)) dm hm (1 : Int32)).length)), .unset] [(.int (own_i (own_put (own_put (own_put ([] : List Int32) dm hm (0 : Int32)) dm hm (1 : Int32)) dm hm (2 : Int32)).length))]))
  refine OGo.to (fun _ k => XS.istore X_14.here hx rfl (hb hby at_193) rfl (l' := #[.val (.int p1), .val (.int p2), .val (.int p3), .val (.int p4), .val (.int g1), .val (.int g2), .val (.int g3), .val (.int g4), .val (.int tot), .val (.int v0), .val (.int v1), .val (.int v2), .val (.int v3), .val (.int v4), .val (.int hm), .val (.int dm), .val (.ref b__2), .val (.ref b__4), .val (.ref b_7), .val (.int (own_i (own_put (own_put (own_put ([] : List Int32) dm hm (0 : Int32)) dm hm (1 : Int32)) dm hm (2 : Int32)).length)), .unset]) rfl k) ?_
  show OGo p e below _ (T_14.setTop (mkF m 195 #[.val (.int p1), .val (.int p2), .val (.int p3), .val (.int p4), .val (.int g1), .val (.int g2), .val (.int g3), .val (.int g4), .val (.int tot), .val (.int v0), .val (.int v1), .val (.int v2), .val (.int v3), .val (.int v4), .val (.int hm), .val (.int dm), .val (.ref b__2), .val (.ref b__4), .val (.ref b_7), .val (.int (own_i (own_put (own_put (own_put ([] : List Int32) dm hm (0 : Int32)) dm hm (1 : Int32)) dm hm (2 : Int32)).length)), .unset] []))
  refine OGo.to (fun _ k => XS.aload X_14.here hx rfl (hb hby at_195) rfl rfl k) ?_
  show OGo p e below _ (T_14.setTop (mkF m 197 #[.val (.int p1), .val (.int p2), .val (.int p3), .val (.int p4), .val (.int g1), .val (.int g2), .val (.int g3), .val (.int g4), .val (.int tot), .val (.int v0), .val (.int v1), .val (.int v2), .val (.int v3), .val (.int v4), .val (.int hm), .val (.int dm), .val (.ref b__2), .val (.ref b__4), .val (.ref b_7), .val (.int (own_i (own_put (own_put (own_put ([] : List Int32) dm hm (0 : Int32)) dm hm (1 : Int32)) dm hm (2 : Int32)).length)), .unset] [(.ref b_7)]))
  refine OGo.to (fun _ k => XS.iload X_14.here hx rfl (hb hby at_197) rfl k) ?_
  show OGo p e below _ (T_14.setTop (mkF m 199 #[.val (.int p1), .val (.int p2), .val (.int p3), .val (.int p4), .val (.int g1), .val (.int g2), .val (.int g3), .val (.int g4), .val (.int tot), .val (.int v0), .val (.int v1), .val (.int v2), .val (.int v3), .val (.int v4), .val (.int hm), .val (.int dm), .val (.ref b__2), .val (.ref b__4), .val (.ref b_7), .val (.int (own_i (own_put (own_put (own_put ([] : List Int32) dm hm (0 : Int32)) dm hm (1 : Int32)) dm hm (2 : Int32)).length)), .unset] [(.int (own_i (own_put (own_put (own_put ([] : List Int32) dm hm (0 : Int32)) dm hm (1 : Int32)) dm hm (2 : Int32)).length)), (.ref b_7)]))
  refine OGo.to (fun _ k => XS.iload X_14.here hx rfl (hb hby at_199) rfl k) ?_
  show OGo p e below _ (T_14.setTop (mkF m 201 #[.val (.int p1), .val (.int p2), .val (.int p3), .val (.int p4), .val (.int g1), .val (.int g2), .val (.int g3), .val (.int g4), .val (.int tot), .val (.int v0), .val (.int v1), .val (.int v2), .val (.int v3), .val (.int v4), .val (.int hm), .val (.int dm), .val (.ref b__2), .val (.ref b__4), .val (.ref b_7), .val (.int (own_i (own_put (own_put (own_put ([] : List Int32) dm hm (0 : Int32)) dm hm (1 : Int32)) dm hm (2 : Int32)).length)), .unset] [(.int dm), (.int (own_i (own_put (own_put (own_put ([] : List Int32) dm hm (0 : Int32)) dm hm (1 : Int32)) dm hm (2 : Int32)).length)), (.ref b_7)]))
  refine OGo.to (fun _ k => XS.iload X_14.here hx rfl (hb hby at_201) rfl k) ?_
  show OGo p e below _ (T_14.setTop (mkF m 203 #[.val (.int p1), .val (.int p2), .val (.int p3), .val (.int p4), .val (.int g1), .val (.int g2), .val (.int g3), .val (.int g4), .val (.int tot), .val (.int v0), .val (.int v1), .val (.int v2), .val (.int v3), .val (.int v4), .val (.int hm), .val (.int dm), .val (.ref b__2), .val (.ref b__4), .val (.ref b_7), .val (.int (own_i (own_put (own_put (own_put ([] : List Int32) dm hm (0 : Int32)) dm hm (1 : Int32)) dm hm (2 : Int32)).length)), .unset] [(.int hm), (.int dm), (.int (own_i (own_put (own_put (own_put ([] : List Int32) dm hm (0 : Int32)) dm hm (1 : Int32)) dm hm (2 : Int32)).length)), (.ref b_7)]))
  refine OGo.to (fun _ k => XS.iconst X_14.here hx rfl (hb hby at_203) k) ?_
  show OGo p e below _ (T_14.setTop (mkF m 204 #[.val (.int p1), .val (.int p2), .val (.int p3), .val (.int p4), .val (.int g1), .val (.int g2), .val (.int g3), .val (.int g4), .val (.int tot), .val (.int v0), .val (.int v1), .val (.int v2), .val (.int v3), .val (.int v4), .val (.int hm), .val (.int dm), .val (.ref b__2), .val (.ref b__4), .val (.ref b_7), .val (.int (own_i (own_put (own_put (own_put ([] : List Int32) dm hm (0 : Int32)) dm hm (1 : Int32)) dm hm (2 : Int32)).length)), .unset] [(.int (3 : Int32)), (.int hm), (.int dm), (.int (own_i (own_put (own_put (own_put ([] : List Int32) dm hm (0 : Int32)) dm hm (1 : Int32)) dm hm (2 : Int32)).length)), (.ref b_7)]))
  obtain ⟨_, T_16, Lc_16, X_16, hQ_16, st_16⟩ := own_un X_14 (Q := Qput3 Z b_7 (own_i (own_put (own_put (own_put ([] : List Int32) dm hm (0 : Int32)) dm hm (1 : Int32)) dm hm (2 : Int32)).length) dm hm k_7 (own_i (own_sel dm v0 v1 v2 v3 v4).length) (own_put (own_put (own_put ([] : List Int32) dm hm (0 : Int32)) dm hm (1 : Int32)) dm hm (2 : Int32)) T_14.heap n0) (rc := 0) (rs := 0) (W := fun v B => ∀ target, Steps p.tables e below (B.setTop { (mkF m 204 #[.val (.int p1), .val (.int p2), .val (.int p3), .val (.int p4), .val (.int g1), .val (.int g2), .val (.int g3), .val (.int g4), .val (.int tot), .val (.int v0), .val (.int v1), .val (.int v2), .val (.int v3), .val (.int v4), .val (.int hm), .val (.int dm), .val (.ref b__2), .val (.ref b__4), .val (.ref b_7), .val (.int (own_i (own_put (own_put (own_put ([] : List Int32) dm hm (0 : Int32)) dm hm (1 : Int32)) dm hm (2 : Int32)).length)), .unset] [(.int (3 : Int32)), (.int hm), (.int dm), (.int (own_i (own_put (own_put (own_put ([] : List Int32) dm hm (0 : Int32)) dm hm (1 : Int32)) dm hm (2 : Int32)).length)), (.ref b_7)]) with pc := 207, stack := v.toList ++ [] }) target → Steps p.tables e below (T_14.setTop (mkF m 204 #[.val (.int p1), .val (.int p2), .val (.int p3), .val (.int p4), .val (.int g1), .val (.int g2), .val (.int g3), .val (.int g4), .val (.int tot), .val (.int v0), .val (.int v1), .val (.int v2), .val (.int v3), .val (.int v4), .val (.int hm), .val (.int dm), .val (.ref b__2), .val (.ref b__4), .val (.ref b_7), .val (.int (own_i (own_put (own_put (own_put ([] : List Int32) dm hm (0 : Int32)) dm hm (1 : Int32)) dm hm (2 : Int32)).length)), .unset] [(.int (3 : Int32)), (.int hm), (.int dm), (.int (own_i (own_put (own_put (own_put ([] : List Int32) dm hm (0 : Int32)) dm hm (1 : Int32)) dm hm (2 : Int32)).length)), (.ref b_7)])) target) <| Jvm.LawKit.callS X_14 hx (y := (⟨"com/example/cogram/cogram/index/PostingsEntriesPinLaw", "put", "([IIIII)I"⟩ : MethodName)) hown (mvT hZ (hw _ (List.mem_of_getElem? (i := 16) rfl))) (mvT hZ (hw _ (List.mem_of_getElem? (i := 17) rfl))) (mvT hZ (hw _ (List.mem_of_getElem? (i := 7) rfl))) (mvT hZ (hw _ (List.mem_of_getElem? (i := 18) rfl))) (by decide) (backOf (W := 0) (rmput3 l Z a0 hw [] b_7 (own_i (own_put (own_put (own_put ([] : List Int32) dm hm (0 : Int32)) dm hm (1 : Int32)) dm hm (2 : Int32)).length) dm hm k_7 (own_i (own_sel dm v0 v1 v2 v3 v4).length) (own_put (own_put (own_put ([] : List Int32) dm hm (0 : Int32)) dm hm (1 : Int32)) dm hm (2 : Int32)) T_14.heap n0 z_15 p_14_0 rfl (own_hin3 hdm hhm) (own_chl3 hdm hhm) g_b_7) hZ (hw _ (List.mem_of_getElem? (i := 18) rfl)) (hw _ (List.mem_of_getElem? (i := 7) rfl)) (by decide) (by decide)) (g := (mkF m 204 #[.val (.int p1), .val (.int p2), .val (.int p3), .val (.int p4), .val (.int g1), .val (.int g2), .val (.int g3), .val (.int g4), .val (.int tot), .val (.int v0), .val (.int v1), .val (.int v2), .val (.int v3), .val (.int v4), .val (.int hm), .val (.int dm), .val (.ref b__2), .val (.ref b__4), .val (.ref b_7), .val (.int (own_i (own_put (own_put (own_put ([] : List Int32) dm hm (0 : Int32)) dm hm (1 : Int32)) dm hm (2 : Int32)).length)), .unset] [(.int (3 : Int32)), (.int hm), (.int dm), (.int (own_i (own_put (own_put (own_put ([] : List Int32) dm hm (0 : Int32)) dm hm (1 : Int32)) dm hm (2 : Int32)).length)), (.ref b_7)])) rfl (by rw [hml]; rfl) (argsL := [(.ref b_7), (.int (own_i (own_put (own_put (own_put ([] : List Int32) dm hm (0 : Int32)) dm hm (1 : Int32)) dm hm (2 : Int32)).length)), (.int dm), (.int hm), (.int (3 : Int32))]) (rest := []) (lenOf pd_3 rfl) rfl (by show 2 * 0 + _ ≤ _; exact Nat.le_of_eq rfl) (hb hby at_204) (fun _ _ => ⟨rfl, (rfl : T_14.heap = T_14.heap), (by decide : 3 + 0 ≤ _), (by decide : 15 + 0 ≤ _)⟩)
  obtain ⟨rfl, N_16q, K_16, p_16_0⟩ := hQ_16
  have N_16 := Fr.app N_14 N_16q
  refine OGo.to st_16 ?_
  have z_17 : n0 ≤ T_16.heap.size := Nat.le_trans z_15 K_16.1
  show OGo p e below _ (T_16.setTop (mkF m 207 #[.val (.int p1), .val (.int p2), .val (.int p3), .val (.int p4), .val (.int g1), .val (.int g2), .val (.int g3), .val (.int g4), .val (.int tot), .val (.int v0), .val (.int v1), .val (.int v2), .val (.int v3), .val (.int v4), .val (.int hm), .val (.int dm), .val (.ref b__2), .val (.ref b__4), .val (.ref b_7), .val (.int (own_i (own_put (own_put (own_put ([] : List Int32) dm hm (0 : Int32)) dm hm (1 : Int32)) dm hm (2 : Int32)).length)), .unset] [(.int (own_i (own_put (own_put (own_put (own_put ([] : List Int32) dm hm (0 : Int32)) dm hm (1 : Int32)) dm hm (2 : Int32)) dm hm (3 : Int32)).length))]))
  refine OGo.to (fun _ k => XS.istore X_16.here hx rfl (hb hby at_207) rfl (l' := #[.val (.int p1), .val (.int p2), .val (.int p3), .val (.int p4), .val (.int g1), .val (.int g2), .val (.int g3), .val (.int g4), .val (.int tot), .val (.int v0), .val (.int v1), .val (.int v2), .val (.int v3), .val (.int v4), .val (.int hm), .val (.int dm), .val (.ref b__2), .val (.ref b__4), .val (.ref b_7), .val (.int (own_i (own_put (own_put (own_put (own_put ([] : List Int32) dm hm (0 : Int32)) dm hm (1 : Int32)) dm hm (2 : Int32)) dm hm (3 : Int32)).length)), .unset]) rfl k) ?_
  show OGo p e below _ (T_16.setTop (mkF m 209 #[.val (.int p1), .val (.int p2), .val (.int p3), .val (.int p4), .val (.int g1), .val (.int g2), .val (.int g3), .val (.int g4), .val (.int tot), .val (.int v0), .val (.int v1), .val (.int v2), .val (.int v3), .val (.int v4), .val (.int hm), .val (.int dm), .val (.ref b__2), .val (.ref b__4), .val (.ref b_7), .val (.int (own_i (own_put (own_put (own_put (own_put ([] : List Int32) dm hm (0 : Int32)) dm hm (1 : Int32)) dm hm (2 : Int32)) dm hm (3 : Int32)).length)), .unset] []))
  refine OGo.to (fun _ k => XS.aload X_16.here hx rfl (hb hby at_209) rfl rfl k) ?_
  show OGo p e below _ (T_16.setTop (mkF m 211 #[.val (.int p1), .val (.int p2), .val (.int p3), .val (.int p4), .val (.int g1), .val (.int g2), .val (.int g3), .val (.int g4), .val (.int tot), .val (.int v0), .val (.int v1), .val (.int v2), .val (.int v3), .val (.int v4), .val (.int hm), .val (.int dm), .val (.ref b__2), .val (.ref b__4), .val (.ref b_7), .val (.int (own_i (own_put (own_put (own_put (own_put ([] : List Int32) dm hm (0 : Int32)) dm hm (1 : Int32)) dm hm (2 : Int32)) dm hm (3 : Int32)).length)), .unset] [(.ref b_7)]))
  refine OGo.to (fun _ k => XS.iload X_16.here hx rfl (hb hby at_211) rfl k) ?_
  show OGo p e below _ (T_16.setTop (mkF m 213 #[.val (.int p1), .val (.int p2), .val (.int p3), .val (.int p4), .val (.int g1), .val (.int g2), .val (.int g3), .val (.int g4), .val (.int tot), .val (.int v0), .val (.int v1), .val (.int v2), .val (.int v3), .val (.int v4), .val (.int hm), .val (.int dm), .val (.ref b__2), .val (.ref b__4), .val (.ref b_7), .val (.int (own_i (own_put (own_put (own_put (own_put ([] : List Int32) dm hm (0 : Int32)) dm hm (1 : Int32)) dm hm (2 : Int32)) dm hm (3 : Int32)).length)), .unset] [(.int (own_i (own_put (own_put (own_put (own_put ([] : List Int32) dm hm (0 : Int32)) dm hm (1 : Int32)) dm hm (2 : Int32)) dm hm (3 : Int32)).length)), (.ref b_7)]))
  refine OGo.to (fun _ k => XS.iload X_16.here hx rfl (hb hby at_213) rfl k) ?_
  show OGo p e below _ (T_16.setTop (mkF m 215 #[.val (.int p1), .val (.int p2), .val (.int p3), .val (.int p4), .val (.int g1), .val (.int g2), .val (.int g3), .val (.int g4), .val (.int tot), .val (.int v0), .val (.int v1), .val (.int v2), .val (.int v3), .val (.int v4), .val (.int hm), .val (.int dm), .val (.ref b__2), .val (.ref b__4), .val (.ref b_7), .val (.int (own_i (own_put (own_put (own_put (own_put ([] : List Int32) dm hm (0 : Int32)) dm hm (1 : Int32)) dm hm (2 : Int32)) dm hm (3 : Int32)).length)), .unset] [(.int dm), (.int (own_i (own_put (own_put (own_put (own_put ([] : List Int32) dm hm (0 : Int32)) dm hm (1 : Int32)) dm hm (2 : Int32)) dm hm (3 : Int32)).length)), (.ref b_7)]))
  refine OGo.to (fun _ k => XS.iload X_16.here hx rfl (hb hby at_215) rfl k) ?_
  show OGo p e below _ (T_16.setTop (mkF m 217 #[.val (.int p1), .val (.int p2), .val (.int p3), .val (.int p4), .val (.int g1), .val (.int g2), .val (.int g3), .val (.int g4), .val (.int tot), .val (.int v0), .val (.int v1), .val (.int v2), .val (.int v3), .val (.int v4), .val (.int hm), .val (.int dm), .val (.ref b__2), .val (.ref b__4), .val (.ref b_7), .val (.int (own_i (own_put (own_put (own_put (own_put ([] : List Int32) dm hm (0 : Int32)) dm hm (1 : Int32)) dm hm (2 : Int32)) dm hm (3 : Int32)).length)), .unset] [(.int hm), (.int dm), (.int (own_i (own_put (own_put (own_put (own_put ([] : List Int32) dm hm (0 : Int32)) dm hm (1 : Int32)) dm hm (2 : Int32)) dm hm (3 : Int32)).length)), (.ref b_7)]))
  refine OGo.to (fun _ k => XS.iconst X_16.here hx rfl (hb hby at_217) k) ?_
  show OGo p e below _ (T_16.setTop (mkF m 218 #[.val (.int p1), .val (.int p2), .val (.int p3), .val (.int p4), .val (.int g1), .val (.int g2), .val (.int g3), .val (.int g4), .val (.int tot), .val (.int v0), .val (.int v1), .val (.int v2), .val (.int v3), .val (.int v4), .val (.int hm), .val (.int dm), .val (.ref b__2), .val (.ref b__4), .val (.ref b_7), .val (.int (own_i (own_put (own_put (own_put (own_put ([] : List Int32) dm hm (0 : Int32)) dm hm (1 : Int32)) dm hm (2 : Int32)) dm hm (3 : Int32)).length)), .unset] [(.int (4 : Int32)), (.int hm), (.int dm), (.int (own_i (own_put (own_put (own_put (own_put ([] : List Int32) dm hm (0 : Int32)) dm hm (1 : Int32)) dm hm (2 : Int32)) dm hm (3 : Int32)).length)), (.ref b_7)]))
  obtain ⟨_, T_18, Lc_18, X_18, hQ_18, st_18⟩ := own_un X_16 (Q := Qput4 Z b_7 (own_i (own_put (own_put (own_put (own_put ([] : List Int32) dm hm (0 : Int32)) dm hm (1 : Int32)) dm hm (2 : Int32)) dm hm (3 : Int32)).length) dm hm k_7 (own_i (own_sel dm v0 v1 v2 v3 v4).length) (own_put (own_put (own_put (own_put ([] : List Int32) dm hm (0 : Int32)) dm hm (1 : Int32)) dm hm (2 : Int32)) dm hm (3 : Int32)) T_16.heap n0) (rc := 0) (rs := 0) (W := fun v B => ∀ target, Steps p.tables e below (B.setTop { (mkF m 218 #[.val (.int p1), .val (.int p2), .val (.int p3), .val (.int p4), .val (.int g1), .val (.int g2), .val (.int g3), .val (.int g4), .val (.int tot), .val (.int v0), .val (.int v1), .val (.int v2), .val (.int v3), .val (.int v4), .val (.int hm), .val (.int dm), .val (.ref b__2), .val (.ref b__4), .val (.ref b_7), .val (.int (own_i (own_put (own_put (own_put (own_put ([] : List Int32) dm hm (0 : Int32)) dm hm (1 : Int32)) dm hm (2 : Int32)) dm hm (3 : Int32)).length)), .unset] [(.int (4 : Int32)), (.int hm), (.int dm), (.int (own_i (own_put (own_put (own_put (own_put ([] : List Int32) dm hm (0 : Int32)) dm hm (1 : Int32)) dm hm (2 : Int32)) dm hm (3 : Int32)).length)), (.ref b_7)]) with pc := 221, stack := v.toList ++ [] }) target → Steps p.tables e below (T_16.setTop (mkF m 218 #[.val (.int p1), .val (.int p2), .val (.int p3), .val (.int p4), .val (.int g1), .val (.int g2), .val (.int g3), .val (.int g4), .val (.int tot), .val (.int v0), .val (.int v1), .val (.int v2), .val (.int v3), .val (.int v4), .val (.int hm), .val (.int dm), .val (.ref b__2), .val (.ref b__4), .val (.ref b_7), .val (.int (own_i (own_put (own_put (own_put (own_put ([] : List Int32) dm hm (0 : Int32)) dm hm (1 : Int32)) dm hm (2 : Int32)) dm hm (3 : Int32)).length)), .unset] [(.int (4 : Int32)), (.int hm), (.int dm), (.int (own_i (own_put (own_put (own_put (own_put ([] : List Int32) dm hm (0 : Int32)) dm hm (1 : Int32)) dm hm (2 : Int32)) dm hm (3 : Int32)).length)), (.ref b_7)])) target) <| Jvm.LawKit.callS X_16 hx (y := (⟨"com/example/cogram/cogram/index/PostingsEntriesPinLaw", "put", "([IIIII)I"⟩ : MethodName)) hown (mvT hZ (hw _ (List.mem_of_getElem? (i := 16) rfl))) (mvT hZ (hw _ (List.mem_of_getElem? (i := 17) rfl))) (mvT hZ (hw _ (List.mem_of_getElem? (i := 7) rfl))) (mvT hZ (hw _ (List.mem_of_getElem? (i := 18) rfl))) (by decide) (backOf (W := 0) (rmput4 l Z a0 hw [] b_7 (own_i (own_put (own_put (own_put (own_put ([] : List Int32) dm hm (0 : Int32)) dm hm (1 : Int32)) dm hm (2 : Int32)) dm hm (3 : Int32)).length) dm hm k_7 (own_i (own_sel dm v0 v1 v2 v3 v4).length) (own_put (own_put (own_put (own_put ([] : List Int32) dm hm (0 : Int32)) dm hm (1 : Int32)) dm hm (2 : Int32)) dm hm (3 : Int32)) T_16.heap n0 z_17 p_16_0 rfl (own_hin4 hdm hhm) (own_chl4 hdm hhm) g_b_7) hZ (hw _ (List.mem_of_getElem? (i := 18) rfl)) (hw _ (List.mem_of_getElem? (i := 7) rfl)) (by decide) (by decide)) (g := (mkF m 218 #[.val (.int p1), .val (.int p2), .val (.int p3), .val (.int p4), .val (.int g1), .val (.int g2), .val (.int g3), .val (.int g4), .val (.int tot), .val (.int v0), .val (.int v1), .val (.int v2), .val (.int v3), .val (.int v4), .val (.int hm), .val (.int dm), .val (.ref b__2), .val (.ref b__4), .val (.ref b_7), .val (.int (own_i (own_put (own_put (own_put (own_put ([] : List Int32) dm hm (0 : Int32)) dm hm (1 : Int32)) dm hm (2 : Int32)) dm hm (3 : Int32)).length)), .unset] [(.int (4 : Int32)), (.int hm), (.int dm), (.int (own_i (own_put (own_put (own_put (own_put ([] : List Int32) dm hm (0 : Int32)) dm hm (1 : Int32)) dm hm (2 : Int32)) dm hm (3 : Int32)).length)), (.ref b_7)])) rfl (by rw [hml]; rfl) (argsL := [(.ref b_7), (.int (own_i (own_put (own_put (own_put (own_put ([] : List Int32) dm hm (0 : Int32)) dm hm (1 : Int32)) dm hm (2 : Int32)) dm hm (3 : Int32)).length)), (.int dm), (.int hm), (.int (4 : Int32))]) (rest := []) (lenOf pd_3 rfl) rfl (by show 2 * 0 + _ ≤ _; exact Nat.le_of_eq rfl) (hb hby at_218) (fun _ _ => ⟨rfl, (rfl : T_16.heap = T_16.heap), (by decide : 3 + 0 ≤ _), (by decide : 15 + 0 ≤ _)⟩)
  obtain ⟨rfl, N_18q, K_18, p_18_0⟩ := hQ_18
  have N_18 := Fr.app N_16 N_18q
  refine OGo.to st_18 ?_
  have z_19 : n0 ≤ T_18.heap.size := Nat.le_trans z_17 K_18.1
  show OGo p e below _ (T_18.setTop (mkF m 221 #[.val (.int p1), .val (.int p2), .val (.int p3), .val (.int p4), .val (.int g1), .val (.int g2), .val (.int g3), .val (.int g4), .val (.int tot), .val (.int v0), .val (.int v1), .val (.int v2), .val (.int v3), .val (.int v4), .val (.int hm), .val (.int dm), .val (.ref b__2), .val (.ref b__4), .val (.ref b_7), .val (.int (own_i (own_put (own_put (own_put (own_put ([] : List Int32) dm hm (0 : Int32)) dm hm (1 : Int32)) dm hm (2 : Int32)) dm hm (3 : Int32)).length)), .unset] [(.int (own_i (own_put (own_put (own_put (own_put (own_put ([] : List Int32) dm hm (0 : Int32)) dm hm (1 : Int32)) dm hm (2 : Int32)) dm hm (3 : Int32)) dm hm (4 : Int32)).length))]))
  refine OGo.to (fun _ k => XS.istore X_18.here hx rfl (hb hby at_221) rfl (l' := #[.val (.int p1), .val (.int p2), .val (.int p3), .val (.int p4), .val (.int g1), .val (.int g2), .val (.int g3), .val (.int g4), .val (.int tot), .val (.int v0), .val (.int v1), .val (.int v2), .val (.int v3), .val (.int v4), .val (.int hm), .val (.int dm), .val (.ref b__2), .val (.ref b__4), .val (.ref b_7), .val (.int (own_i (own_put (own_put (own_put (own_put (own_put ([] : List Int32) dm hm (0 : Int32)) dm hm (1 : Int32)) dm hm (2 : Int32)) dm hm (3 : Int32)) dm hm (4 : Int32)).length)), .unset]) rfl k) ?_
  show OGo p e below _ (T_18.setTop (mkF m 223 #[.val (.int p1), .val (.int p2), .val (.int p3), .val (.int p4), .val (.int g1), .val (.int g2), .val (.int g3), .val (.int g4), .val (.int tot), .val (.int v0), .val (.int v1), .val (.int v2), .val (.int v3), .val (.int v4), .val (.int hm), .val (.int dm), .val (.ref b__2), .val (.ref b__4), .val (.ref b_7), .val (.int (own_i (own_put (own_put (own_put (own_put (own_put ([] : List Int32) dm hm (0 : Int32)) dm hm (1 : Int32)) dm hm (2 : Int32)) dm hm (3 : Int32)) dm hm (4 : Int32)).length)), .unset] []))
  refine OGo.to (fun _ k => XS.aload X_18.here hx rfl (hb hby at_223) rfl rfl k) ?_
  show OGo p e below _ (T_18.setTop (mkF m 225 #[.val (.int p1), .val (.int p2), .val (.int p3), .val (.int p4), .val (.int g1), .val (.int g2), .val (.int g3), .val (.int g4), .val (.int tot), .val (.int v0), .val (.int v1), .val (.int v2), .val (.int v3), .val (.int v4), .val (.int hm), .val (.int dm), .val (.ref b__2), .val (.ref b__4), .val (.ref b_7), .val (.int (own_i (own_put (own_put (own_put (own_put (own_put ([] : List Int32) dm hm (0 : Int32)) dm hm (1 : Int32)) dm hm (2 : Int32)) dm hm (3 : Int32)) dm hm (4 : Int32)).length)), .unset] [(.ref b__2)]))
  refine OGo.to (fun _ k => XS.aload X_18.here hx rfl (hb hby at_225) rfl rfl k) ?_
  show OGo p e below _ (T_18.setTop (mkF m 227 #[.val (.int p1), .val (.int p2), .val (.int p3), .val (.int p4), .val (.int g1), .val (.int g2), .val (.int g3), .val (.int g4), .val (.int tot), .val (.int v0), .val (.int v1), .val (.int v2), .val (.int v3), .val (.int v4), .val (.int hm), .val (.int dm), .val (.ref b__2), .val (.ref b__4), .val (.ref b_7), .val (.int (own_i (own_put (own_put (own_put (own_put (own_put ([] : List Int32) dm hm (0 : Int32)) dm hm (1 : Int32)) dm hm (2 : Int32)) dm hm (3 : Int32)) dm hm (4 : Int32)).length)), .unset] [(.ref b__4), (.ref b__2)]))
  have f_21 : Arv Z T_18.heap b__2 kb__2 .int (own_i (own_sel hm v0 v1 v2 v3 v4).length) ((own_sel hm v0 v1 v2 v3 v4).map Value.int) (.int (0 : Int32)) := ((((((f_8.ext E_7).keep K_10 (fun q => ne_b__2_b_7 (List.mem_singleton.mp q))).keep K_12 (fun q => ne_b__2_b_7 (List.mem_singleton.mp q))).keep K_14 (fun q => ne_b__2_b_7 (List.mem_singleton.mp q))).keep K_16 (fun q => ne_b__2_b_7 (List.mem_singleton.mp q))).keep K_18 (fun q => ne_b__2_b_7 (List.mem_singleton.mp q)))
  have f_22 : Arv Z T_18.heap b__4 kb__4 .int (own_i (own_sel dm v0 v1 v2 v3 v4).length) ((own_sel dm v0 v1 v2 v3 v4).map Value.int) (.int (0 : Int32)) := ((((((p_4_0.ext E_7).keep K_10 (fun q => ne_b__4_b_7 (List.mem_singleton.mp q))).keep K_12 (fun q => ne_b__4_b_7 (List.mem_singleton.mp q))).keep K_14 (fun q => ne_b__4_b_7 (List.mem_singleton.mp q))).keep K_16 (fun q => ne_b__4_b_7 (List.mem_singleton.mp q))).keep K_18 (fun q => ne_b__4_b_7 (List.mem_singleton.mp q)))
  obtain ⟨_, T_20, Lc_20, X_20, hQ_20, st_20⟩ := own_un X_18 (Q := Qent Z b__2 b__4 kb__2 kb__4 (own_sel hm v0 v1 v2 v3 v4) (own_sel dm v0 v1 v2 v3 v4) T_18.heap n0) (rc := 1) (rs := 5) (W := fun v B => ∀ target, Steps p.tables e below (B.setTop { (mkF m 227 #[.val (.int p1), .val (.int p2), .val (.int p3), .val (.int p4), .val (.int g1), .val (.int g2), .val (.int g3), .val (.int g4), .val (.int tot), .val (.int v0), .val (.int v1), .val (.int v2), .val (.int v3), .val (.int v4), .val (.int hm), .val (.int dm), .val (.ref b__2), .val (.ref b__4), .val (.ref b_7), .val (.int (own_i (own_put (own_put (own_put (own_put (own_put ([] : List Int32) dm hm (0 : Int32)) dm hm (1 : Int32)) dm hm (2 : Int32)) dm hm (3 : Int32)) dm hm (4 : Int32)).length)), .unset] [(.ref b__4), (.ref b__2)]) with pc := 230, stack := v.toList ++ [] }) target → Steps p.tables e below (T_18.setTop (mkF m 227 #[.val (.int p1), .val (.int p2), .val (.int p3), .val (.int p4), .val (.int g1), .val (.int g2), .val (.int g3), .val (.int g4), .val (.int tot), .val (.int v0), .val (.int v1), .val (.int v2), .val (.int v3), .val (.int v4), .val (.int hm), .val (.int dm), .val (.ref b__2), .val (.ref b__4), .val (.ref b_7), .val (.int (own_i (own_put (own_put (own_put (own_put (own_put ([] : List Int32) dm hm (0 : Int32)) dm hm (1 : Int32)) dm hm (2 : Int32)) dm hm (3 : Int32)) dm hm (4 : Int32)).length)), .unset] [(.ref b__4), (.ref b__2)])) target) <| Jvm.LawKit.callS X_18 hx (y := (⟨"com/example/cogram/cogram/index/Postings", "entries", "([I[I)[I"⟩ : MethodName)) hown (mvT hZ (hw _ (List.mem_of_getElem? (i := 19) rfl))) (mvT hZ (hw _ (List.mem_of_getElem? (i := 20) rfl))) (mvT hZ (hw _ (List.mem_of_getElem? (i := 21) rfl))) (mvT hZ (hw _ (List.mem_of_getElem? (i := 22) rfl))) (by decide) (backOf (W := 0) (rment l Z a0 hw [] b__2 b__4 kb__2 kb__4 (own_sel hm v0 v1 v2 v3 v4) (own_sel dm v0 v1 v2 v3 v4) T_18.heap n0 z_19 f_21 f_22 (own_selLen _ _ _ _ _ _) (own_selLen _ _ _ _ _ _)) hZ (hw _ (List.mem_of_getElem? (i := 22) rfl)) (hw _ (List.mem_of_getElem? (i := 21) rfl)) (by decide) (by decide)) (g := (mkF m 227 #[.val (.int p1), .val (.int p2), .val (.int p3), .val (.int p4), .val (.int g1), .val (.int g2), .val (.int g3), .val (.int g4), .val (.int tot), .val (.int v0), .val (.int v1), .val (.int v2), .val (.int v3), .val (.int v4), .val (.int hm), .val (.int dm), .val (.ref b__2), .val (.ref b__4), .val (.ref b_7), .val (.int (own_i (own_put (own_put (own_put (own_put (own_put ([] : List Int32) dm hm (0 : Int32)) dm hm (1 : Int32)) dm hm (2 : Int32)) dm hm (3 : Int32)) dm hm (4 : Int32)).length)), .unset] [(.ref b__4), (.ref b__2)])) rfl (by rw [hml]; rfl) (argsL := [(.ref b__2), (.ref b__4)]) (rest := []) (lenOf pd_4 rfl) rfl (by show 2 * 0 + _ ≤ _; exact Nat.le_of_eq rfl) (hb hby at_227) (fun _ _ => ⟨rfl, (rfl : T_18.heap = T_18.heap), (by decide : 3 + 1 ≤ _), (by decide : 15 + 5 ≤ _)⟩)
  obtain ⟨b__20, kb__20, rfl, N_20q, K_20, gq_b__20, sq_b__20, p_20_0⟩ := hQ_20
  have N_20 := Fr.app N_18 N_20q
  refine OGo.to st_20 ?_
  have ne_b__2_b__20 : b__2 ≠ b__20 := Nat.ne_of_lt (Nat.lt_of_lt_of_le f_21.lt sq_b__20)
  have ne_b__4_b__20 : b__4 ≠ b__20 := Nat.ne_of_lt (Nat.lt_of_lt_of_le f_22.lt sq_b__20)
  have ne_b_7_b__20 : b_7 ≠ b__20 := Nat.ne_of_lt (Nat.lt_of_lt_of_le p_18_0.lt sq_b__20)
  have z_23 : n0 ≤ T_20.heap.size := Nat.le_trans z_19 K_20.1
  show OGo p e below _ (T_20.setTop (mkF m 230 #[.val (.int p1), .val (.int p2), .val (.int p3), .val (.int p4), .val (.int g1), .val (.int g2), .val (.int g3), .val (.int g4), .val (.int tot), .val (.int v0), .val (.int v1), .val (.int v2), .val (.int v3), .val (.int v4), .val (.int hm), .val (.int dm), .val (.ref b__2), .val (.ref b__4), .val (.ref b_7), .val (.int (own_i (own_put (own_put (own_put (own_put (own_put ([] : List Int32) dm hm (0 : Int32)) dm hm (1 : Int32)) dm hm (2 : Int32)) dm hm (3 : Int32)) dm hm (4 : Int32)).length)), .unset] [(.ref b__20)]))
  refine OGo.to (fun _ k => XS.astore X_20.here hx rfl (hb hby at_230) rfl rfl (l' := #[.val (.int p1), .val (.int p2), .val (.int p3), .val (.int p4), .val (.int g1), .val (.int g2), .val (.int g3), .val (.int g4), .val (.int tot), .val (.int v0), .val (.int v1), .val (.int v2), .val (.int v3), .val (.int v4), .val (.int hm), .val (.int dm), .val (.ref b__2), .val (.ref b__4), .val (.ref b_7), .val (.int (own_i (own_put (own_put (own_put (own_put (own_put ([] : List Int32) dm hm (0 : Int32)) dm hm (1 : Int32)) dm hm (2 : Int32)) dm hm (3 : Int32)) dm hm (4 : Int32)).length)), .val (.ref b__20)]) rfl k) ?_
  show OGo p e below _ (T_20.setTop (mkF m 232 #[.val (.int p1), .val (.int p2), .val (.int p3), .val (.int p4), .val (.int g1), .val (.int g2), .val (.int g3), .val (.int g4), .val (.int tot), .val (.int v0), .val (.int v1), .val (.int v2), .val (.int v3), .val (.int v4), .val (.int hm), .val (.int dm), .val (.ref b__2), .val (.ref b__4), .val (.ref b_7), .val (.int (own_i (own_put (own_put (own_put (own_put (own_put ([] : List Int32) dm hm (0 : Int32)) dm hm (1 : Int32)) dm hm (2 : Int32)) dm hm (3 : Int32)) dm hm (4 : Int32)).length)), .val (.ref b__20)] []))
  refine OGo.to (fun _ k => XS.aload X_20.here hx rfl (hb hby at_232) rfl rfl k) ?_
  show OGo p e below _ (T_20.setTop (mkF m 234 #[.val (.int p1), .val (.int p2), .val (.int p3), .val (.int p4), .val (.int g1), .val (.int g2), .val (.int g3), .val (.int g4), .val (.int tot), .val (.int v0), .val (.int v1), .val (.int v2), .val (.int v3), .val (.int v4), .val (.int hm), .val (.int dm), .val (.ref b__2), .val (.ref b__4), .val (.ref b_7), .val (.int (own_i (own_put (own_put (own_put (own_put (own_put ([] : List Int32) dm hm (0 : Int32)) dm hm (1 : Int32)) dm hm (2 : Int32)) dm hm (3 : Int32)) dm hm (4 : Int32)).length)), .val (.ref b__20)] [(.ref b__20)]))
  refine OGo.to (fun _ k => XS.ifnullNo X_20.here hx rfl (hb hby at_234) rfl k) ?_
  show OGo p e below _ (T_20.setTop (mkF m 237 #[.val (.int p1), .val (.int p2), .val (.int p3), .val (.int p4), .val (.int g1), .val (.int g2), .val (.int g3), .val (.int g4), .val (.int tot), .val (.int v0), .val (.int v1), .val (.int v2), .val (.int v3), .val (.int v4), .val (.int hm), .val (.int dm), .val (.ref b__2), .val (.ref b__4), .val (.ref b_7), .val (.int (own_i (own_put (own_put (own_put (own_put (own_put ([] : List Int32) dm hm (0 : Int32)) dm hm (1 : Int32)) dm hm (2 : Int32)) dm hm (3 : Int32)) dm hm (4 : Int32)).length)), .val (.ref b__20)] []))
  refine OGo.to (fun _ k => XS.aload X_20.here hx rfl (hb hby at_237) rfl rfl k) ?_
  show OGo p e below _ (T_20.setTop (mkF m 239 #[.val (.int p1), .val (.int p2), .val (.int p3), .val (.int p4), .val (.int g1), .val (.int g2), .val (.int g3), .val (.int g4), .val (.int tot), .val (.int v0), .val (.int v1), .val (.int v2), .val (.int v3), .val (.int v4), .val (.int hm), .val (.int dm), .val (.ref b__2), .val (.ref b__4), .val (.ref b_7), .val (.int (own_i (own_put (own_put (own_put (own_put (own_put ([] : List Int32) dm hm (0 : Int32)) dm hm (1 : Int32)) dm hm (2 : Int32)) dm hm (3 : Int32)) dm hm (4 : Int32)).length)), .val (.ref b__20)] [(.ref b__20)]))
  have Vq_24 := p_20_0
  obtain ⟨cl_24, Ar_24, q_24, S_24, M_24, Hs_24, G_24⟩ := Vq_24
  refine OGo.to (fun _ k => X_20.arraylength hx (by rw [(rfl : T_20.heap = T_20.heap)]; exact Ar_24.1) (State.isArrayOf_alike hZ.alike Ar_24.2.1) (g := (mkF m 239 #[.val (.int p1), .val (.int p2), .val (.int p3), .val (.int p4), .val (.int g1), .val (.int g2), .val (.int g3), .val (.int g4), .val (.int tot), .val (.int v0), .val (.int v1), .val (.int v2), .val (.int v3), .val (.int v4), .val (.int hm), .val (.int dm), .val (.ref b__2), .val (.ref b__4), .val (.ref b_7), .val (.int (own_i (own_put (own_put (own_put (own_put (own_put ([] : List Int32) dm hm (0 : Int32)) dm hm (1 : Int32)) dm hm (2 : Int32)) dm hm (3 : Int32)) dm hm (4 : Int32)).length)), .val (.ref b__20)] [(.ref b__20)])) rfl rfl (hb hby at_239) _ k) ?_
  rw [len_of S_24 M_24]
  show OGo p e below _ (T_20.setTop (mkF m 240 #[.val (.int p1), .val (.int p2), .val (.int p3), .val (.int p4), .val (.int g1), .val (.int g2), .val (.int g3), .val (.int g4), .val (.int tot), .val (.int v0), .val (.int v1), .val (.int v2), .val (.int v3), .val (.int v4), .val (.int hm), .val (.int dm), .val (.ref b__2), .val (.ref b__4), .val (.ref b_7), .val (.int (own_i (own_put (own_put (own_put (own_put (own_put ([] : List Int32) dm hm (0 : Int32)) dm hm (1 : Int32)) dm hm (2 : Int32)) dm hm (3 : Int32)) dm hm (4 : Int32)).length)), .val (.ref b__20)] [(.int (own_i (own_sel dm v0 v1 v2 v3 v4).length))]))
  refine OGo.to (fun _ k => XS.aload X_20.here hx rfl (hb hby at_240) rfl rfl k) ?_
  show OGo p e below _ (T_20.setTop (mkF m 242 #[.val (.int p1), .val (.int p2), .val (.int p3), .val (.int p4), .val (.int g1), .val (.int g2), .val (.int g3), .val (.int g4), .val (.int tot), .val (.int v0), .val (.int v1), .val (.int v2), .val (.int v3), .val (.int v4), .val (.int hm), .val (.int dm), .val (.ref b__2), .val (.ref b__4), .val (.ref b_7), .val (.int (own_i (own_put (own_put (own_put (own_put (own_put ([] : List Int32) dm hm (0 : Int32)) dm hm (1 : Int32)) dm hm (2 : Int32)) dm hm (3 : Int32)) dm hm (4 : Int32)).length)), .val (.ref b__20)] [(.ref b_7), (.int (own_i (own_sel dm v0 v1 v2 v3 v4).length))]))
  have f_25 : Arv Z T_20.heap b_7 k_7 .int (own_i (own_sel dm v0 v1 v2 v3 v4).length) ((own_put (own_put (own_put (own_put (own_put ([] : List Int32) dm hm (0 : Int32)) dm hm (1 : Int32)) dm hm (2 : Int32)) dm hm (3 : Int32)) dm hm (4 : Int32)).map Value.int) (.int (0 : Int32)) := (p_18_0.keep K_20 (List.not_mem_nil))
  have Vq_26 := f_25
  obtain ⟨cl_26, Ar_26, q_26, S_26, M_26, Hs_26, G_26⟩ := Vq_26
  refine OGo.to (fun _ k => X_20.arraylength hx (by rw [(rfl : T_20.heap = T_20.heap)]; exact Ar_26.1) (State.isArrayOf_alike hZ.alike Ar_26.2.1) (g := (mkF m 242 #[.val (.int p1), .val (.int p2), .val (.int p3), .val (.int p4), .val (.int g1), .val (.int g2), .val (.int g3), .val (.int g4), .val (.int tot), .val (.int v0), .val (.int v1), .val (.int v2), .val (.int v3), .val (.int v4), .val (.int hm), .val (.int dm), .val (.ref b__2), .val (.ref b__4), .val (.ref b_7), .val (.int (own_i (own_put (own_put (own_put (own_put (own_put ([] : List Int32) dm hm (0 : Int32)) dm hm (1 : Int32)) dm hm (2 : Int32)) dm hm (3 : Int32)) dm hm (4 : Int32)).length)), .val (.ref b__20)] [(.ref b_7), (.int (own_i (own_sel dm v0 v1 v2 v3 v4).length))])) rfl rfl (hb hby at_242) _ k) ?_
  rw [len_of S_26 M_26]
  show OGo p e below _ (T_20.setTop (mkF m 243 #[.val (.int p1), .val (.int p2), .val (.int p3), .val (.int p4), .val (.int g1), .val (.int g2), .val (.int g3), .val (.int g4), .val (.int tot), .val (.int v0), .val (.int v1), .val (.int v2), .val (.int v3), .val (.int v4), .val (.int hm), .val (.int dm), .val (.ref b__2), .val (.ref b__4), .val (.ref b_7), .val (.int (own_i (own_put (own_put (own_put (own_put (own_put ([] : List Int32) dm hm (0 : Int32)) dm hm (1 : Int32)) dm hm (2 : Int32)) dm hm (3 : Int32)) dm hm (4 : Int32)).length)), .val (.ref b__20)] [(.int (own_i (own_sel dm v0 v1 v2 v3 v4).length)), (.int (own_i (own_sel dm v0 v1 v2 v3 v4).length))]))
  have hc243__27 : (own_i (own_sel dm v0 v1 v2 v3 v4).length) = (own_i (own_sel dm v0 v1 v2 v3 v4).length) := rfl
  refine OGo.to (fun _ k => XS.icmpYes X_20.here hx rfl (pc0 := 243) (pc' := 248) rfl (hb hby at_243) rfl (teq hc243__27).1 (by decide) (by decide) k) ?_
  show OGo p e below _ (T_20.setTop (mkF m 248 #[.val (.int p1), .val (.int p2), .val (.int p3), .val (.int p4), .val (.int g1), .val (.int g2), .val (.int g3), .val (.int g4), .val (.int tot), .val (.int v0), .val (.int v1), .val (.int v2), .val (.int v3), .val (.int v4), .val (.int hm), .val (.int dm), .val (.ref b__2), .val (.ref b__4), .val (.ref b_7), .val (.int (own_i (own_put (own_put (own_put (own_put (own_put ([] : List Int32) dm hm (0 : Int32)) dm hm (1 : Int32)) dm hm (2 : Int32)) dm hm (3 : Int32)) dm hm (4 : Int32)).length)), .val (.ref b__20)] []))
  refine OGo.to (fun _ k => XS.aload X_20.here hx rfl (hb hby at_248) rfl rfl k) ?_
  show OGo p e below _ (T_20.setTop (mkF m 250 #[.val (.int p1), .val (.int p2), .val (.int p3), .val (.int p4), .val (.int g1), .val (.int g2), .val (.int g3), .val (.int g4), .val (.int tot), .val (.int v0), .val (.int v1), .val (.int v2), .val (.int v3), .val (.int v4), .val (.int hm), .val (.int dm), .val (.ref b__2), .val (.ref b__4), .val (.ref b_7), .val (.int (own_i (own_put (own_put (own_put (own_put (own_put ([] : List Int32) dm hm (0 : Int32)) dm hm (1 : Int32)) dm hm (2 : Int32)) dm hm (3 : Int32)) dm hm (4 : Int32)).length)), .val (.ref b__20)] [(.ref b__20)]))
  refine OGo.to (fun _ k => XS.aload X_20.here hx rfl (hb hby at_250) rfl rfl k) ?_
  show OGo p e below _ (T_20.setTop (mkF m 252 #[.val (.int p1), .val (.int p2), .val (.int p3), .val (.int p4), .val (.int g1), .val (.int g2), .val (.int g3), .val (.int g4), .val (.int tot), .val (.int v0), .val (.int v1), .val (.int v2), .val (.int v3), .val (.int v4), .val (.int hm), .val (.int dm), .val (.ref b__2), .val (.ref b__4), .val (.ref b_7), .val (.int (own_i (own_put (own_put (own_put (own_put (own_put ([] : List Int32) dm hm (0 : Int32)) dm hm (1 : Int32)) dm hm (2 : Int32)) dm hm (3 : Int32)) dm hm (4 : Int32)).length)), .val (.ref b__20)] [(.ref b_7), (.ref b__20)]))
  obtain ⟨_, T_28, Lc_28, X_28, hQ_28, st_28⟩ := own_un X_20 (Q := Q7 Z b__20 b_7 kb__20 k_7 (own_i (own_sel dm v0 v1 v2 v3 v4).length) (own_ent (own_sel hm v0 v1 v2 v3 v4) (own_sel dm v0 v1 v2 v3 v4) 0) (own_put (own_put (own_put (own_put (own_put ([] : List Int32) dm hm (0 : Int32)) dm hm (1 : Int32)) dm hm (2 : Int32)) dm hm (3 : Int32)) dm hm (4 : Int32)) T_20.heap n0) (rc := 0) (rs := 0) (W := fun v B => ∀ target, Steps p.tables e below (B.setTop { (mkF m 252 #[.val (.int p1), .val (.int p2), .val (.int p3), .val (.int p4), .val (.int g1), .val (.int g2), .val (.int g3), .val (.int g4), .val (.int tot), .val (.int v0), .val (.int v1), .val (.int v2), .val (.int v3), .val (.int v4), .val (.int hm), .val (.int dm), .val (.ref b__2), .val (.ref b__4), .val (.ref b_7), .val (.int (own_i (own_put (own_put (own_put (own_put (own_put ([] : List Int32) dm hm (0 : Int32)) dm hm (1 : Int32)) dm hm (2 : Int32)) dm hm (3 : Int32)) dm hm (4 : Int32)).length)), .val (.ref b__20)] [(.ref b_7), (.ref b__20)]) with pc := 255, stack := v.toList ++ [] }) target → Steps p.tables e below (T_20.setTop (mkF m 252 #[.val (.int p1), .val (.int p2), .val (.int p3), .val (.int p4), .val (.int g1), .val (.int g2), .val (.int g3), .val (.int g4), .val (.int tot), .val (.int v0), .val (.int v1), .val (.int v2), .val (.int v3), .val (.int v4), .val (.int hm), .val (.int dm), .val (.ref b__2), .val (.ref b__4), .val (.ref b_7), .val (.int (own_i (own_put (own_put (own_put (own_put (own_put ([] : List Int32) dm hm (0 : Int32)) dm hm (1 : Int32)) dm hm (2 : Int32)) dm hm (3 : Int32)) dm hm (4 : Int32)).length)), .val (.ref b__20)] [(.ref b_7), (.ref b__20)])) target) <| Jvm.LawKit.callS X_20 hx (y := (⟨"com/example/cogram/cogram/index/PostingsEntriesPinLaw", "same", "([I[I)Z"⟩ : MethodName)) hown (mvT hZ (hw _ (List.mem_of_getElem? (i := 23) rfl))) (mvT hZ (hw _ (List.mem_of_getElem? (i := 24) rfl))) (mvT hZ (hw _ (List.mem_of_getElem? (i := 7) rfl))) (mvT hZ (hw _ (List.mem_of_getElem? (i := 25) rfl))) (by decide) (backOf (W := 0) (rm7 l Z a0 hw [] b__20 b_7 kb__20 k_7 (own_i (own_sel dm v0 v1 v2 v3 v4).length) (own_ent (own_sel hm v0 v1 v2 v3 v4) (own_sel dm v0 v1 v2 v3 v4) 0) (own_put (own_put (own_put (own_put (own_put ([] : List Int32) dm hm (0 : Int32)) dm hm (1 : Int32)) dm hm (2 : Int32)) dm hm (3 : Int32)) dm hm (4 : Int32)) T_20.heap n0 z_23 p_20_0 f_25 (own_main hdm hhm hlt).symm) hZ (hw _ (List.mem_of_getElem? (i := 25) rfl)) (hw _ (List.mem_of_getElem? (i := 7) rfl)) (by decide) (by decide)) (g := (mkF m 252 #[.val (.int p1), .val (.int p2), .val (.int p3), .val (.int p4), .val (.int g1), .val (.int g2), .val (.int g3), .val (.int g4), .val (.int tot), .val (.int v0), .val (.int v1), .val (.int v2), .val (.int v3), .val (.int v4), .val (.int hm), .val (.int dm), .val (.ref b__2), .val (.ref b__4), .val (.ref b_7), .val (.int (own_i (own_put (own_put (own_put (own_put (own_put ([] : List Int32) dm hm (0 : Int32)) dm hm (1 : Int32)) dm hm (2 : Int32)) dm hm (3 : Int32)) dm hm (4 : Int32)).length)), .val (.ref b__20)] [(.ref b_7), (.ref b__20)])) rfl (by rw [hml]; rfl) (argsL := [(.ref b__20), (.ref b_7)]) (rest := []) (lenOf pd_5 rfl) rfl (by show 2 * 0 + _ ≤ _; exact Nat.le_of_eq rfl) (hb hby at_252) (fun _ _ => ⟨rfl, (rfl : T_20.heap = T_20.heap), (by decide : 4 + 0 ≤ _), (by decide : 20 + 0 ≤ _)⟩)
  obtain ⟨rfl, N_28q, e_28⟩ := hQ_28
  have N_28 := Fr.app N_20 N_28q
  refine OGo.to st_28 ?_
  show OGo p e below _ (T_28.setTop (mkF m 255 #[.val (.int p1), .val (.int p2), .val (.int p3), .val (.int p4), .val (.int g1), .val (.int g2), .val (.int g3), .val (.int g4), .val (.int tot), .val (.int v0), .val (.int v1), .val (.int v2), .val (.int v3), .val (.int v4), .val (.int hm), .val (.int dm), .val (.ref b__2), .val (.ref b__4), .val (.ref b_7), .val (.int (own_i (own_put (own_put (own_put (own_put (own_put ([] : List Int32) dm hm (0 : Int32)) dm hm (1 : Int32)) dm hm (2 : Int32)) dm hm (3 : Int32)) dm hm (4 : Int32)).length)), .val (.ref b__20)] [(.int (1 : Int32))]))
  refine OGo.ret (Q := Q0 Z p1 p2 p3 p4 h0 n0) X_28 (some (.int (1 : Int32))) (fun h => by rw [Bd.returns] at h; cases h) Bd.notSynchronized (fun fs hr => retN X_28 hx (t := .boolean) (z := (1 : Int32)) Bd.returns (by simp) (hb hby at_255) hr) ?_ (by decide) (by decide)
  show Q0 Z p1 p2 p3 p4 h0 n0 _ T_28.heap _
  rw [e_28]
  exact ⟨rfl, N_28⟩
set_option maxRecDepth 65536 in
set_option maxHeartbeats 40000000 in
theorem comes_1 {Post : Tables → Env → Array Value → State → Outcome → State → Prop} (hpost : ∀ tb e args s v u, (limb_1_1.after args s (.returned v) u = true ∧ limb_1_2.after args s (.returned v) u = true ∧ True) → FrameEnd s (.returned v) u (Jvm.fieldLocs frame_1_writes args s ++ Jvm.arrayLocs frame_1_arrays args s ++ Jvm.staticLocs frame_1_statics s) 16 128 → Post tb e args s (.returned v) u) :
    ArmFor flags0 classFile x code maxLocals ret World_1 tables_1 room_1 Calls_1 rest_1 Pre_1 Post := by
  intro l hfl _ _ p e ha hc hk s m args below hf hA hF happ hP
  obtain ⟨hcalls, hrest, hpre⟩ := hP
  obtain ⟨-, -, -, hnamed, -, -, -, hat⟩ := (Spec.applies_iff hf).mp happ
  obtain ⟨hg, hn⟩ := and_e (Cond.before_iff.mp (show (Jvm.Cond.and given_1 narrow_1).before args s = true from hpre))
  obtain ⟨g1, g2⟩ := and_e hg
  obtain ⟨g3, g4⟩ := and_e g2
  obtain ⟨g5, g6⟩ := and_e g4
  obtain ⟨g7, g8⟩ := and_e g6
  obtain ⟨w0, w1, w2, w3, rfl⟩ : ∃ w0 w1 w2 w3 : Value, args = #[w0, w1, w2, w3] := by
    have hs : args.size = 4 := by simpa [Cond.value, given_1] using g1
    obtain ⟨L⟩ := args
    match L, hs with
    | [w0, w1, w2, w3], _ => exact ⟨w0, w1, w2, w3, rfl⟩
  have hw := fun d (hd : d ∈ tables_1) => atoms_spec (ws := Jvm.Cond.code x code maxLocals ret :: tables_1) hat d (List.mem_cons_of_mem _ hd)
  have hfit : Fit s := fun {y c} hc i hi => by
    obtain ⟨ha, rfl⟩ := Array.getElem?_eq_some_iff.mp hc
    have q := List.all_eq_true.mp ((Array.all_eq_true_iff_forall_mem.mp hF) _ (Array.getElem_mem ha)) i (List.mem_range.mpr hi)
    simpa [Array.getElem?_eq_getElem hi] using q
  obtain ⟨i0, ei0⟩ := is_v g3
  obtain rfl : w0 = (.int i0) := Option.some.inj ei0
  obtain ⟨i1, ei1⟩ := is_v g5
  obtain rfl : w1 = (.int i1) := Option.some.inj ei1
  obtain ⟨i2, ei2⟩ := is_v g7
  obtain rfl : w2 = (.int i2) := Option.some.inj ei2
  obtain ⟨i3, ei3⟩ := is_v g8
  obtain rfl : w3 = (.int i3) := Option.some.inj ei3
  obtain ⟨n, o, h1, h2, h3, _, L, rfl, ⟨rfl, N⟩, hq⟩ := rm0 l s _ hw tables_1 i0 i1 i2 i3 s.heap s.heap.size (Nat.le_refl _)  p e ha hc hk s m _ below hf ((Spec.applies_iff_loose hf).mp happ).1 ⟨rfl, State.Warmed39.refl s, rfl⟩ trivial
  refine ⟨n, _, h1, h2, h3, hpost _ _ _ _ _ _ ⟨Cond.after_iff.mpr rfl, Cond.after_iff.mpr (eq_i res_at (Term.int_eval (1)) rfl), trivial⟩ ⟨hq.1, hq.2.1, (hq.2.2.sift fun y hy => Or.inr (N y hy)).mono (by decide) (by decide)⟩⟩
theorem main_1_1 : Claimed_1_1 := comes_1 fun _ _ _ _ _ _ h hF => ⟨h.1, hF⟩
theorem main_1_2 : Claimed_1_2 := comes_1 fun _ _ _ _ _ _ h hF => ⟨h.2.1, hF⟩
end Jvm.Pilot.@@N@@
namespace Jvm.Pilot.@@N@@
open Jvm Jvm.ClassFile Sem Op Lib Jvm.Free Jvm.Stand Jvm.Pilot.@@N@@.Jvm.D
/-! MADE BY PROGRAM (witnessworld.py) out of the Statement's table words and the real class files: 10 classes; the members and pool entries that the words name. The judged class is class 1, her method 1. -/
namespace start1
open Jvm.ClassFile
def u (s : String) : CpInfo := .utf8 (stringToUtf16 s)
/-- a pool by its gaps: so many unusable entries, then the entry; so many at the end -/
def gap : Nat → List CpInfo → List CpInfo
  | 0, r => r
  | n + 1, r => .unusable :: gap n r
def poolList (es : List (Nat × CpInfo)) (last : Nat) : List CpInfo := es.foldr (fun e r => gap e.1 (e.2 :: r)) (gap last [])
def pool (es : List (Nat × CpInfo)) (last : Nat) : Array CpInfo := ⟨poolList es last⟩
def fileOf (pool : Array CpInfo) (this : Nat) (attrs : Array Attribute := #[]) (ms : Array MethodInfo := #[]) (fl : Nat := 33) (sup : Nat := 0) (ifs : Array Nat := #[]) (fds : Array FieldInfo := #[]) : ClassFile where
  minorVersion := 0
  majorVersion := 65
  constantPool := pool
  accessFlags := fl
  thisClass := this
  superClass := sup
  interfaces := ifs
  fields := fds
  methods := ms
  attributes := attrs
def plain (name : String) (sup : Option ClassId) : Class where
  name := name
  kind := .ordinary
  loader := none
  accessFlags := 33
  super := sup
  interfaces := #[]
  cf := none
  fields := #[]
  methods := #[]
  instanceTypes := #[]
  staticTypes := #[]
  resolved := #[]
  callSites := []
  init := .initialized
  statics := none
  mirror := none

def pool0 : Array CpInfo := pool [(5, u "<init>"), (0, u "()V"), (1, .class_ 10), (1, u "java/lang/Object")] 113

def k0m0 : Method := { name := "<init>", desc := "()V", sig := { parameters := [], returnType := none }, accessFlags := 1, code := none }
/-- java/lang/Object -/
def k0 : Class := { plain "java/lang/Object" none with
  accessFlags := 33
  interfaces := #[]
  cf := some (fileOf pool0 8 #[] #[{ accessFlags := 1, nameIndex := 5, descriptorIndex := 6, attributes := #[] }] 33 0 #[] #[])
  fields := #[]
  methods := #[k0m0]
  instanceTypes := #[]
  staticTypes := #[]
  resolved := Array.replicate 124 none
  statics := none }

def pool1 : Array CpInfo := pool [(2, .class_ 4), (1, u "java/lang/Object"), (0, u "<init>"), (0, u "()V"), (2, .integer 2147483647), (0, .methodref 11 12), (0, .class_ 13), (0, .nameAndType 14 15), (0, u "java/lang/Math"), (0, u "min"), (0, u "(II)I"), (0, .methodref 17 18), (0, .class_ 19), (0, .nameAndType 20 21), (0, u "com/example/cogram/cogram/index/PostingsEntriesPinLaw"), (0, u "subset"), (0, u "(IIIIII)[I"), (0, .methodref 17 23), (0, .nameAndType 24 25), (0, u "put"), (0, u "([IIIII)I"), (0, .methodref 27 28), (0, .class_ 29), (0, .nameAndType 30 31), (0, u "com/example/cogram/cogram/index/Postings"), (0, u "entries"), (0, u "([I[I)[I"), (0, .methodref 17 33), (0, .nameAndType 34 35), (0, u "same"), (0, u "([I[I)Z"), (0, .methodref 17 37), (0, .nameAndType 38 15), (0, u "bit"), (0, .methodref 17 40), (0, .nameAndType 41 42), (0, u "count"), (0, u "(I)I"), (2, u "law"), (0, u "(IIII)Z")] 5

def k1m0 : Method := { name := "<init>", desc := "()V", sig := { parameters := [], returnType := none }, accessFlags := 1, code := none }
def k1c1 : Code := { maxStack := 6, maxLocals := 21, code := code, exceptionTable := #[], attributes := #[] }
def k1m1 : Method := { name := "law", desc := "(IIII)Z", sig := { parameters := [.int, .int, .int, .int], returnType := some .boolean }, accessFlags := 9, code := some k1c1 }
def k1c2 : Code := { maxStack := 2, maxLocals := 2, code := method_3_code, exceptionTable := #[], attributes := #[] }
def k1m2 : Method := { name := "bit", desc := "(II)I", sig := { parameters := [.int, .int], returnType := some .int }, accessFlags := 10, code := some k1c2 }
def k1c3 : Code := { maxStack := 3, maxLocals := 1, code := method_4_code, exceptionTable := #[], attributes := #[] }
def k1m3 : Method := { name := "count", desc := "(I)I", sig := { parameters := [.int], returnType := some .int }, accessFlags := 10, code := some k1c3 }
def k1c4 : Code := { maxStack := 3, maxLocals := 8, code := method_5_code, exceptionTable := #[], attributes := #[] }
def k1m4 : Method := { name := "subset", desc := "(IIIIII)[I", sig := { parameters := [.int, .int, .int, .int, .int, .int], returnType := some (.array .int) }, accessFlags := 10, code := some k1c4 }
def k1c5 : Code := { maxStack := 5, maxLocals := 5, code := method_6_code, exceptionTable := #[], attributes := #[] }
def k1m5 : Method := { name := "put", desc := "([IIIII)I", sig := { parameters := [(.array .int), .int, .int, .int, .int], returnType := some .int }, accessFlags := 10, code := some k1c5 }
def k1c6 : Code := { maxStack := 3, maxLocals := 2, code := method_7_code, exceptionTable := #[], attributes := #[] }
def k1m6 : Method := { name := "same", desc := "([I[I)Z", sig := { parameters := [(.array .int), (.array .int)], returnType := some .boolean }, accessFlags := 10, code := some k1c6 }
/-- com/example/cogram/cogram/index/PostingsEntriesPinLaw -/
def k1 : Class := { plain "com/example/cogram/cogram/index/PostingsEntriesPinLaw" (some 0) with
  accessFlags := 49
  interfaces := #[]
  cf := some (fileOf pool1 17 #[] #[{ accessFlags := 1, nameIndex := 5, descriptorIndex := 6, attributes := #[] }, { accessFlags := 9, nameIndex := 45, descriptorIndex := 46, attributes := #[] }, { accessFlags := 10, nameIndex := 38, descriptorIndex := 15, attributes := #[] }, { accessFlags := 10, nameIndex := 41, descriptorIndex := 42, attributes := #[] }, { accessFlags := 10, nameIndex := 20, descriptorIndex := 21, attributes := #[] }, { accessFlags := 10, nameIndex := 24, descriptorIndex := 25, attributes := #[] }, { accessFlags := 10, nameIndex := 34, descriptorIndex := 35, attributes := #[] }] 49 2 #[] #[])
  fields := #[]
  methods := #[k1m0, k1m1, k1m2, k1m3, k1m4, k1m5, k1m6]
  instanceTypes := #[]
  staticTypes := #[]
  resolved := Array.replicate 52 none
  statics := none }

def pool2 : Array CpInfo := pool [(1, .class_ 2), (0, u "java/lang/Math"), (1, .class_ 6), (1, u "java/lang/Object"), (0, u "<init>"), (0, u "()V"), (89, .class_ 100), (1, u "java/lang/Math$RandomNumberGeneratorHolder"), (71, u "negativeZeroFloatBits"), (0, u "J"), (2, u "negativeZeroDoubleBits"), (24, u "min"), (43, u "$assertionsDisabled"), (0, u "Z"), (88, u "(II)I"), (2, u "twoToTheDoubleScaleDown"), (0, u "D"), (4, u "twoToTheDoubleScaleUp"), (9, u "E"), (3, u "PI"), (2, u "TAU"), (2, u "DEGREES_TO_RADIANS"), (0, u "RADIANS_TO_DEGREES")] 94

def k2m0 : Method := { name := "<init>", desc := "()V", sig := { parameters := [], returnType := none }, accessFlags := 2, code := none }
def k2c1 : Code := { maxStack := 2, maxLocals := 2, code := jdk_29_method_69_code, exceptionTable := #[], attributes := #[] }
def k2m1 : Method := { name := "min", desc := "(II)I", sig := { parameters := [.int, .int], returnType := some .int }, accessFlags := 9, code := some k2c1 }
/-- java/lang/Math -/
def k2 : Class := { plain "java/lang/Math" (some 0) with
  accessFlags := 49
  interfaces := #[]
  cf := some (fileOf pool2 1 #[.nestMembers #[98]] #[{ accessFlags := 2, nameIndex := 7, descriptorIndex := 8, attributes := #[] }, { accessFlags := 9, nameIndex := 201, descriptorIndex := 335, attributes := #[] }] 49 4 #[] #[{ accessFlags := 25, nameIndex := 354, descriptorIndex := 339, attributes := #[] }, { accessFlags := 25, nameIndex := 358, descriptorIndex := 339, attributes := #[] }, { accessFlags := 25, nameIndex := 361, descriptorIndex := 339, attributes := #[] }, { accessFlags := 26, nameIndex := 364, descriptorIndex := 339, attributes := #[] }, { accessFlags := 26, nameIndex := 365, descriptorIndex := 339, attributes := #[] }, { accessFlags := 26, nameIndex := 172, descriptorIndex := 173, attributes := #[] }, { accessFlags := 26, nameIndex := 176, descriptorIndex := 173, attributes := #[] }, { accessFlags := 8, nameIndex := 344, descriptorIndex := 339, attributes := #[] }, { accessFlags := 8, nameIndex := 338, descriptorIndex := 339, attributes := #[] }, { accessFlags := 4120, nameIndex := 245, descriptorIndex := 246, attributes := #[] }])
  fields := #[{ name := "E", type := .double, accessFlags := 25, slot := 0, constantValue := 0 }, { name := "PI", type := .double, accessFlags := 25, slot := 1, constantValue := 0 }, { name := "TAU", type := .double, accessFlags := 25, slot := 2, constantValue := 0 }, { name := "DEGREES_TO_RADIANS", type := .double, accessFlags := 26, slot := 3, constantValue := 0 }, { name := "RADIANS_TO_DEGREES", type := .double, accessFlags := 26, slot := 4, constantValue := 0 }, { name := "negativeZeroFloatBits", type := .long, accessFlags := 26, slot := 5, constantValue := 0 }, { name := "negativeZeroDoubleBits", type := .long, accessFlags := 26, slot := 6, constantValue := 0 }, { name := "twoToTheDoubleScaleUp", type := .double, accessFlags := 8, slot := 7, constantValue := 0 }, { name := "twoToTheDoubleScaleDown", type := .double, accessFlags := 8, slot := 8, constantValue := 0 }, { name := "$assertionsDisabled", type := .boolean, accessFlags := 4120, slot := 9, constantValue := 0 }]
  methods := #[k2m0, k2m1]
  instanceTypes := #[]
  staticTypes := #[.double, .double, .double, .double, .double, .long, .long, .double, .double, .boolean]
  resolved := Array.replicate 460 none
  statics := none }

def pool3 : Array CpInfo := pool [(2, .class_ 4), (1, u "java/lang/Object"), (3, .class_ 10), (1, u "com/example/cogram/cogram/index/Postings"), (0, u "docs"), (0, u "[I"), (2, u "ends"), (2, u "positions"), (12, u "entries"), (0, u "([I[I)[I"), (5, u "EMPTY"), (0, u "Lcom/example/cogram/cogram/index/Postings;")] 15

def k3c0 : Code := { maxStack := 5, maxLocals := 5, code := prog_38_method_7_code, exceptionTable := #[], attributes := #[] }
def k3m0 : Method := { name := "entries", desc := "([I[I)[I", sig := { parameters := [(.array .int), (.array .int)], returnType := some (.array .int) }, accessFlags := 9, code := some k3c0 }
/-- com/example/cogram/cogram/index/Postings -/
def k3 : Class := { plain "com/example/cogram/cogram/index/Postings" (some 0) with
  accessFlags := 33
  interfaces := #[]
  cf := some (fileOf pool3 8 #[] #[{ accessFlags := 9, nameIndex := 31, descriptorIndex := 32, attributes := #[] }] 33 2 #[] #[{ accessFlags := 25, nameIndex := 38, descriptorIndex := 39, attributes := #[] }, { accessFlags := 18, nameIndex := 11, descriptorIndex := 12, attributes := #[] }, { accessFlags := 18, nameIndex := 15, descriptorIndex := 12, attributes := #[] }, { accessFlags := 18, nameIndex := 18, descriptorIndex := 12, attributes := #[] }])
  fields := #[{ name := "EMPTY", type := (.object "com/example/cogram/cogram/index/Postings"), accessFlags := 25, slot := 0, constantValue := 0 }, { name := "docs", type := (.array .int), accessFlags := 18, slot := 0, constantValue := 0 }, { name := "ends", type := (.array .int), accessFlags := 18, slot := 1, constantValue := 0 }, { name := "positions", type := (.array .int), accessFlags := 18, slot := 2, constantValue := 0 }]
  methods := #[k3m0]
  instanceTypes := #[(.array .int), (.array .int), (.array .int)]
  staticTypes := #[(.object "com/example/cogram/cogram/index/Postings")]
  resolved := Array.replicate 55 none
  statics := none }

def pool4 : Array CpInfo := pool [(1, u "java/lang/Cloneable"), (0, .class_ 1), (0, u "java/lang/Object"), (0, .class_ 3)] 3

/-- java/lang/Cloneable -/
def k4 : Class := { plain "java/lang/Cloneable" (some 0) with
  accessFlags := 1537
  interfaces := #[]
  cf := some (fileOf pool4 2 #[] #[] 1537 4 #[] #[])
  fields := #[]
  methods := #[]
  instanceTypes := #[]
  staticTypes := #[]
  resolved := Array.replicate 8 none
  statics := none }

def pool5 : Array CpInfo := pool [(1, u "java/io/Serializable"), (0, .class_ 1), (0, u "java/lang/Object"), (0, .class_ 3)] 3

/-- java/io/Serializable -/
def k5 : Class := { plain "java/io/Serializable" (some 0) with
  accessFlags := 1537
  interfaces := #[]
  cf := some (fileOf pool5 2 #[] #[] 1537 4 #[] #[])
  fields := #[]
  methods := #[]
  instanceTypes := #[]
  staticTypes := #[]
  resolved := Array.replicate 8 none
  statics := none }

/-- the primitive byte -/
def k6 : Class := { plain "byte" none with kind := .primitive 'B', accessFlags := 0x411 }
/-- [B -/
def k7 : Class := { plain "[B" (some 0) with kind := .array 6 .byte, interfaces := #[4, 5], accessFlags := 1041 }

/-- the primitive int -/
def k8 : Class := { plain "int" none with kind := .primitive 'I', accessFlags := 0x411 }
/-- [I -/
def k9 : Class := { plain "[I" (some 0) with kind := .array 8 .int, interfaces := #[4, 5], accessFlags := 1041 }

def heap : Heap := #[]
def classes : Array Class := #[k0, k1, k2, k3, k4, k5, k6, k7, k8, k9]
def interned : List (Array UInt16 × Addr) := []
def slotsUsed : Nat := 0
def theMethod : MethodId := ⟨1, 1⟩
def args0 : Array Value := #[.int 5, .int 7, .int 9, .int 3]
def aboutOver (below : List Frame) : State where
  vm := { classes := classes, interned := interned.toArray }
  heap := heap
  slotsUsed := slotsUsed
  threads := #[{ frames := .invoking theMethod args0 :: below }]
def below0 : List Frame := [.native { method := ⟨0, 0⟩, args := #[] }]
def about1 : State := aboutOver below0
def p0 : Program := .bare "" "" ""
def e0 : Env := launch0.env 0 0 0
theorem w_frames : about1.frames = Frame.invoking theMethod args0 :: below0 := rfl
set_option maxRecDepth 65536 in
theorem w_args : argsFit about1.vm theMethod args0 = true := by decide +kernel
set_option maxRecDepth 65536 in
theorem w_heap : heapFits about1 = true := by decide +kernel
set_option maxRecDepth 65536 in
theorem w_runnable : about1.curStatus? = some .runnable := by decide +kernel
set_option maxRecDepth 65536 in
theorem w_alone : about1.alone = true := by decide +kernel
set_option maxRecDepth 65536 in
theorem w_named : about1.methodNamed? x = some theMethod := by decide +kernel
set_option maxRecDepth 65536 in
theorem w_hears : about1.hears theMethod below0 = true := by decide +kernel
set_option maxRecDepth 65536 in
theorem w_ripe : about1.ripe theMethod args0 below0 = true := by decide +kernel
theorem w_running : about1.status = .running := rfl
set_option maxRecDepth 65536 in
theorem w_room : about1.hasRoom e0.platform room_1 = true :=
  launch0.hasRoom_least _ room_1 (by decide +kernel) (by decide +kernel) (by decide +kernel) (by decide +kernel) (by decide +kernel) (by decide +kernel)
theorem allAtoms_all (ts : List Jvm.Cond) (a : Array Jvm.Value) (st : Jvm.State) : (allAtoms ts).before a st = ts.all (fun c => c.before a st) := by
  induction ts with
  | nil => rfl
  | cons c t ih =>
    show (Jvm.Cond.and c (allAtoms t)).before a st = _
    rw [Jvm.Cond.before_and, ih, List.all_cons]
def words1 : List Jvm.Cond := Jvm.Cond.code x code maxLocals ret :: tables_1
/-- a 'code' word, met by the world's own term for the bytes: nothing is compared byte by byte -/
theorem code_word {y : MethodName} {bytes : ByteArray} {mx : Nat} {rt : Option FieldType} {a : Array Value} {s : State} {m : MethodId} {meth : Method} {c : Code} (h1 : s.methodNamed? y = some m) (h2 : s.vm.method? m = some meth) (h3 : meth.code = some c) (h4 : c.code = bytes)
    (h5 : (c.maxLocals == mx && c.exceptionTable.isEmpty && decide (c.maxStack ≤ mostOperands) && decide (meth.sig.returnType = rt) && !meth.locks && decide (parseMethodDescriptor y.desc = some meth.sig)) = true) : (Jvm.Cond.code y bytes mx rt).before a s = true := by
  simp only [Bool.and_eq_true, beq_iff_eq, Bool.not_eq_true', decide_eq_true_eq] at h5
  obtain ⟨⟨⟨⟨⟨g1, g2⟩, g3⟩, g4⟩, g5⟩, g6⟩ := h5
  simp [Cond.before, Cond.holds, Cond.value, h1, h2, h3, h4, g1, g2, g3, g4, g5, g6]
def isCode : Jvm.Cond → Bool
  | .code _ _ _ _ => true
  | _ => false
theorem all_split {L : List Jvm.Cond} {P : Jvm.Cond → Bool} (h1 : L.all (fun c => isCode c || P c) = true) (h2 : ∀ c ∈ L.filter isCode, P c = true) : L.all P = true := by
  refine List.all_eq_true.mpr fun c hc => ?_
  have h := List.all_eq_true.mp h1 c hc
  rcases Bool.eq_false_or_eq_true (isCode c) with hi | hi
  · exact h2 c (List.mem_filter.mpr ⟨hc, hi⟩)
  · simpa [hi] using h
set_option maxRecDepth 65536 in
theorem w_c0 : (Jvm.Cond.code x code maxLocals ret).before args0 about1 = true := code_word (m := ⟨1, 1⟩) (meth := k1m1) (c := k1c1) (by decide +kernel) rfl rfl rfl (by decide +kernel)
set_option maxRecDepth 65536 in
theorem w_c1 : (Jvm.Cond.code ({ cls := "java/lang/Math", name := "min", desc := "(II)I" } : Jvm.MethodName) jdk_29_method_69_code (2 : Nat) (Option.some Jvm.ClassFile.FieldType.int)).before args0 about1 = true := code_word (m := ⟨2, 1⟩) (meth := k2m1) (c := k2c1) (by decide +kernel) rfl rfl rfl (by decide +kernel)
set_option maxRecDepth 65536 in
theorem w_c2 : (Jvm.Cond.code ({ cls := "com/example/cogram/cogram/index/PostingsEntriesPinLaw", name := "subset", desc := "(IIIIII)[I" } : Jvm.MethodName) method_5_code (8 : Nat) (Option.some (Jvm.ClassFile.FieldType.array Jvm.ClassFile.FieldType.int))).before args0 about1 = true := code_word (m := ⟨1, 4⟩) (meth := k1m4) (c := k1c4) (by decide +kernel) rfl rfl rfl (by decide +kernel)
set_option maxRecDepth 65536 in
theorem w_c3 : (Jvm.Cond.code ({ cls := "com/example/cogram/cogram/index/PostingsEntriesPinLaw", name := "count", desc := "(I)I" } : Jvm.MethodName) method_4_code (1 : Nat) (Option.some Jvm.ClassFile.FieldType.int)).before args0 about1 = true := code_word (m := ⟨1, 3⟩) (meth := k1m3) (c := k1c3) (by decide +kernel) rfl rfl rfl (by decide +kernel)
set_option maxRecDepth 65536 in
theorem w_c4 : (Jvm.Cond.code ({ cls := "com/example/cogram/cogram/index/PostingsEntriesPinLaw", name := "bit", desc := "(II)I" } : Jvm.MethodName) method_3_code (2 : Nat) (Option.some Jvm.ClassFile.FieldType.int)).before args0 about1 = true := code_word (m := ⟨1, 2⟩) (meth := k1m2) (c := k1c2) (by decide +kernel) rfl rfl rfl (by decide +kernel)
set_option maxRecDepth 65536 in
theorem w_c5 : (Jvm.Cond.code ({ cls := "com/example/cogram/cogram/index/PostingsEntriesPinLaw", name := "put", desc := "([IIIII)I" } : Jvm.MethodName) method_6_code (5 : Nat) (Option.some Jvm.ClassFile.FieldType.int)).before args0 about1 = true := code_word (m := ⟨1, 5⟩) (meth := k1m5) (c := k1c5) (by decide +kernel) rfl rfl rfl (by decide +kernel)
set_option maxRecDepth 65536 in
theorem w_c6 : (Jvm.Cond.code ({ cls := "com/example/cogram/cogram/index/Postings", name := "entries", desc := "([I[I)[I" } : Jvm.MethodName) prog_38_method_7_code (5 : Nat) (Option.some (Jvm.ClassFile.FieldType.array Jvm.ClassFile.FieldType.int))).before args0 about1 = true := code_word (m := ⟨3, 0⟩) (meth := k3m0) (c := k3c0) (by decide +kernel) rfl rfl rfl (by decide +kernel)
set_option maxRecDepth 65536 in
theorem w_c7 : (Jvm.Cond.code ({ cls := "com/example/cogram/cogram/index/PostingsEntriesPinLaw", name := "same", desc := "([I[I)Z" } : Jvm.MethodName) method_7_code (2 : Nat) (Option.some Jvm.ClassFile.FieldType.boolean)).before args0 about1 = true := code_word (m := ⟨1, 6⟩) (meth := k1m6) (c := k1c6) (by decide +kernel) rfl rfl rfl (by decide +kernel)
def codes1 : List Jvm.Cond := [Jvm.Cond.code x code maxLocals ret, Jvm.Cond.code ({ cls := "java/lang/Math", name := "min", desc := "(II)I" } : Jvm.MethodName) jdk_29_method_69_code (2 : Nat) (Option.some Jvm.ClassFile.FieldType.int), Jvm.Cond.code ({ cls := "com/example/cogram/cogram/index/PostingsEntriesPinLaw", name := "subset", desc := "(IIIIII)[I" } : Jvm.MethodName) method_5_code (8 : Nat) (Option.some (Jvm.ClassFile.FieldType.array Jvm.ClassFile.FieldType.int)), Jvm.Cond.code ({ cls := "com/example/cogram/cogram/index/PostingsEntriesPinLaw", name := "count", desc := "(I)I" } : Jvm.MethodName) method_4_code (1 : Nat) (Option.some Jvm.ClassFile.FieldType.int), Jvm.Cond.code ({ cls := "com/example/cogram/cogram/index/PostingsEntriesPinLaw", name := "bit", desc := "(II)I" } : Jvm.MethodName) method_3_code (2 : Nat) (Option.some Jvm.ClassFile.FieldType.int), Jvm.Cond.code ({ cls := "com/example/cogram/cogram/index/PostingsEntriesPinLaw", name := "put", desc := "([IIIII)I" } : Jvm.MethodName) method_6_code (5 : Nat) (Option.some Jvm.ClassFile.FieldType.int), Jvm.Cond.code ({ cls := "com/example/cogram/cogram/index/Postings", name := "entries", desc := "([I[I)[I" } : Jvm.MethodName) prog_38_method_7_code (5 : Nat) (Option.some (Jvm.ClassFile.FieldType.array Jvm.ClassFile.FieldType.int)), Jvm.Cond.code ({ cls := "com/example/cogram/cogram/index/PostingsEntriesPinLaw", name := "same", desc := "([I[I)Z" } : Jvm.MethodName) method_7_code (2 : Nat) (Option.some Jvm.ClassFile.FieldType.boolean)]
set_option maxRecDepth 65536 in
theorem codes_eq : words1.filter isCode = codes1 := rfl
theorem w_codes : ∀ c ∈ words1.filter isCode, c.before args0 about1 = true := by
  rw [codes_eq]
  intro c hc
  simp only [codes1, List.mem_cons, List.not_mem_nil, or_false] at hc
  rcases hc with rfl | rfl | rfl | rfl | rfl | rfl | rfl | rfl
  · exact w_c0
  · exact w_c1
  · exact w_c2
  · exact w_c3
  · exact w_c4
  · exact w_c5
  · exact w_c6
  · exact w_c7
set_option maxRecDepth 65536 in
theorem w_t1 : (words1.take 24).all (fun c => isCode c || c.before args0 about1) = true := by decide +kernel
set_option maxRecDepth 65536 in
theorem w_t2 : (words1.drop 24).all (fun c => isCode c || c.before args0 about1) = true := by decide +kernel
theorem w_tables : (allAtoms (Jvm.Cond.code x code maxLocals ret :: tables_1)).before args0 about1 = true := by
  rw [allAtoms_all]
  show words1.all (fun c => c.before args0 about1) = true
  refine all_split ?_ w_codes
  rw [← List.take_append_drop 24 words1, List.all_append, w_t1, w_t2]
  rfl
set_option maxRecDepth 65536 in
theorem w_case : (Jvm.Cond.and given_1 narrow_1).before args0 about1 = true := by decide +kernel
theorem w_applies : (headSpec (Jvm.Cond.code x code maxLocals ret :: tables_1) room_1).applies x e0.platform about1 = true :=
  (Spec.applies_iff w_frames).mpr ⟨w_running, w_runnable, w_alone, w_named, w_hears, w_ripe, w_room, w_tables⟩
theorem atStart : AtStart classFile x code maxLocals ret World_1 tables_1 room_1 Calls_1 rest_1 Pre_1 launch0 p0 e0 about1 theMethod args0 below0 :=
  ⟨lists_1, trivial, launch0.admits_env _ _ _, launch0.least_env, fairChoices_fair.cas, fairChoices_fair.clock, w_frames, w_args, w_heap, w_applies, trivial, trivial, w_case⟩
end start1
theorem witness_1 : WitnessClaimed_1 := ⟨start1.p0, start1.e0, start1.about1, start1.theMethod, start1.args0, start1.below0, start1.atStart⟩
end Jvm.Pilot.@@N@@
