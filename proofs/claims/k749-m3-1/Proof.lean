import JvmDerived
import JvmDerived.Pilot.@@N@@Statement
import JvmDerived.Pilot.@@N@@Code
set_option linter.unusedVariables false
set_option linter.unusedSimpArgs false
namespace Jvm.Pilot.@@N@@
open Jvm Jvm.ClassFile Sem Op Lib Jvm.Free Jvm.Stand Jvm.LawKit Jvm.RoadKit Bundle Jvm.Pilot.@@N@@.Jvm.D
section Own
variable {p : Program} {l : Launch} {e : Env} {R : Room} {s : State} {m : MethodId} {args : Array Value} {below : List Frame} {meth : Method} {c : Code} {T : State} {locs : List Loc} {cells slots : Nat} {Z : State} {a0 : Array Value} {h : Heap}
/-- from the state A the body ends as Q says, with at most C cells and S slots made -/
def own_E (p : Program) (e : Env) (below : List Frame) (s : State) (Q : Option Value → Heap → List Loc → Prop) (C S : Nat) (A : State) : Prop :=
  ∃ s₂ o, Steps p.tables e below A s₂ ∧ s₂.status = .running ∧ Ended s₂ below o ∧ ∃ v L, o = .returned v ∧ Q v s₂.heap L ∧ FrameEnd s o s₂ L C S
theorem own_pre {Q : Option Value → Heap → List Loc → Prop} {C S : Nat} {A B : State} (h : own_E p e below s Q C S B) (k : ∀ t, Steps p.tables e below B t → Steps p.tables e below A t) : own_E p e below s Q C S A := by
  obtain ⟨s₂, o, h1, h2⟩ := h
  exact ⟨s₂, o, k _ h1, h2⟩
theorem own_out {Q : Option Value → Heap → List Loc → Prop} {C S : Nat} {A : State} (X : Stand p l e R s m args below meth c T locs cells slots) (hk : meth.locks = false) {v : Option Value} (hv : meth.sig.returnType = none → v = none)
    (st : ∀ fs, (∀ (f : JFrame) (acts : List Action), f.method = m → f.locked = none → f.entered = [] → (doReturn e (T.setTop f) acts v).1 = T.setFrames fs) → Steps p.tables e below A (T.setFrames fs))
    (hQ : Q v T.heap locs) (hc : cells ≤ C) (hs : slots ≤ S) : own_E p e below s Q C S A := by
  obtain ⟨fs, hr, hrun, hended, hW, hsame⟩ := X.leave (v := v) hv hk
  exact ⟨_, _, st fs hr, hrun, hended, _, _, rfl, hQ, ⟨_, rfl⟩, hW, hsame.mono hc hs⟩
theorem own_retN {Q : Option Value → Heap → List Loc → Prop} {C S : Nat} (X : Stand p l e R s m args below meth c T locs cells slots) (hx : p.tables.exec = Jvm.exec) (hk : meth.locks = false) {t : FieldType} {pc : Nat} {Ls : Array Slot} {z z' : Int32} {rest : List Value} (hret : meth.sig.returnType = some t) (ht : t = .boolean ∨ t = .byte ∨ t = .char ∨ t = .short) (hd : decode c.code pc = .ok (.ireturn, 1)) (hn : nar t z = z')
    (hQ : Q (some (.int z')) T.heap locs) (hc : cells ≤ C) (hs : slots ≤ S) : own_E p e below s Q C S (T.setTop (mkF m pc Ls (.int z :: rest))) := by
  subst hn
  exact own_out X hk (fun h => by rw [hret] at h; cases h) (fun fs hr => retN X hx hret ht hd hr) hQ hc hs
theorem own_retI {Q : Option Value → Heap → List Loc → Prop} {C S : Nat} (X : Stand p l e R s m args below meth c T locs cells slots) (hx : p.tables.exec = Jvm.exec) (hk : meth.locks = false) {pc : Nat} {Ls : Array Slot} {z : Int32} {rest : List Value} (hret : meth.sig.returnType = some .int) (hd : decode c.code pc = .ok (.ireturn, 1))
    (hQ : Q (some (.int z)) T.heap locs) (hc : cells ≤ C) (hs : slots ≤ S) : own_E p e below s Q C S (T.setTop (mkF m pc Ls (.int z :: rest))) :=
  own_out X hk (fun h => by rw [hret] at h; cases h) (fun fs hr => retOut X hx hret rfl (Or.inl ⟨rfl, Or.inl rfl, z, rfl⟩) hd hr) hQ hc hs
theorem own_retJ {Q : Option Value → Heap → List Loc → Prop} {C S : Nat} (X : Stand p l e R s m args below meth c T locs cells slots) (hx : p.tables.exec = Jvm.exec) (hk : meth.locks = false) {pc : Nat} {Ls : Array Slot} {z : Int64} {rest : List Value} (hret : meth.sig.returnType = some .long) (hd : decode c.code pc = .ok (.lreturn, 1))
    (hQ : Q (some (.long z)) T.heap locs) (hc : cells ≤ C) (hs : slots ≤ S) : own_E p e below s Q C S (T.setTop (mkF m pc Ls (.long z :: rest))) :=
  own_out X hk (fun h => by rw [hret] at h; cases h) (fun fs hr => retOut X hx hret rfl (Or.inr (Or.inl ⟨rfl, rfl, z, rfl⟩)) hd hr) hQ hc hs
theorem own_nar_ref {t : FieldType} {w : Value} (hw : w.isRef = true) (ht : t.isReference = true) : narrow t w = w := by
  rcases ref_cases hw with rfl | ⟨z, rfl⟩ <;> cases t <;> first | rfl | (cases ht; done)
theorem own_fit_ref {t : FieldType} {w : Value} (hw : w.isRef = true) (ht : t.isReference = true) : fits t w = true := by
  rcases ref_cases hw with rfl | ⟨z, rfl⟩ <;> cases t <;> first | rfl | (cases ht; done)
theorem own_retA {Q : Option Value → Heap → List Loc → Prop} {C S : Nat} (X : Stand p l e R s m args below meth c T locs cells slots) (hx : p.tables.exec = Jvm.exec) (hk : meth.locks = false) {t : FieldType} {pc : Nat} {Ls : Array Slot} {w : Value} {rest : List Value} (hret : meth.sig.returnType = some t) (ht : t.isReference = true) (hw : w.isRef = true) (hd : decode c.code pc = .ok (.areturn, 1))
    (hQ : Q (some w) T.heap locs) (hc : cells ≤ C) (hs : slots ≤ S) : own_E p e below s Q C S (T.setTop (mkF m pc Ls (w :: rest))) :=
  own_out X hk (fun h => by rw [hret] at h; cases h) (fun fs hr => retOut X hx hret (own_nar_ref hw ht) (Or.inr (Or.inr (Or.inr (Or.inr ⟨rfl, ht, hw⟩)))) hd hr) hQ hc hs
theorem own_retV {Q : Option Value → Heap → List Loc → Prop} {C S : Nat} (X : Stand p l e R s m args below meth c T locs cells slots) (hx : p.tables.exec = Jvm.exec) (hk : meth.locks = false) {pc : Nat} {Ls : Array Slot} (hret : meth.sig.returnType = none) (hd : decode c.code pc = .ok (.return_, 1))
    (hQ : Q none T.heap locs) (hc : cells ≤ C) (hs : slots ≤ S) : own_E p e below s Q C S (T.setTop (mkF m pc Ls [])) :=
  own_out X hk (fun _ => rfl) (fun fs hr => X.returnOut hx hret hd hr) hQ hc hs
theorem own_lrem {g : JFrame} {target : State} (X : Stand p l e R s m args below meth c T locs cells slots) (hx : p.tables.exec = Jvm.exec) (hg : g.method = m) {x y : Int64} {rest : List Value} (hd : decode c.code g.pc = .ok (.lrem, 1)) (hs : g.stack = .long y :: .long x :: rest) (hy : y ≠ 0)
    (hr : Steps p.tables e below (T.setTop { g with pc := g.pc + 1, stack := .long (x % y) :: rest }) target) : Steps p.tables e below (T.setTop g) target :=
  XS.lrem X.here hx hg hd hs hy (by rw [lrem_mod]; exact hr)
end Own
section OwnArr
variable {Z : State} {h h' : Heap} {a b : Addr} {ty : FieldType} {n : Nat} {g : Nat → Value} {ws : List Addr} {sl : Nat} {v : Value}
/-- in heap h the array at b, of the kind ty, has n places; the place i holds g i -/
def own_FA (Z : State) (h : Heap) (b : Addr) (ty : FieldType) (n : Nat) (g : Nat → Value) : Prop := n < 2 ^ 31 ∧ ∃ c : Cell, Arr Z h b c ty ∧ c.slots.size = n ∧ ∀ i, i < n → c.slots[i]? = some (g i)
theorem own_FA.lt (F : own_FA Z h b ty n g) : b < h.size := by obtain ⟨_, c, A, -⟩ := F; exact A.lt
theorem own_FA.ext (F : own_FA Z h b ty n g) (E : Ext h h') : own_FA Z h' b ty n g := by obtain ⟨q, c, A, r⟩ := F; exact ⟨q, c, A.ext E, r⟩
theorem own_FA.other (F : own_FA Z h b ty n g) (W : Wr h h' a sl v) (q : b ≠ a) : own_FA Z h' b ty n g := by obtain ⟨q', c, A, r⟩ := F; exact ⟨q', c, A.other W q, r⟩
theorem own_FA.keep (F : own_FA Z h b ty n g) (K : Keep h h' ws) (q : b ∉ ws) : own_FA Z h' b ty n g := by obtain ⟨q', c, A, r⟩ := F; exact ⟨q', c, ⟨K.2.1 _ _ A.1 q, A.2⟩, r⟩
theorem own_FA.set (F : own_FA Z h b ty n g) (W : Wr h h' b sl v) : own_FA Z h' b ty n (fun i => if i = sl then v else g i) := by
  obtain ⟨q, c, A, S, H⟩ := F
  have A' := A.same W
  obtain ⟨cell, h1, h2, h3, -⟩ := W
  cases A.1.symm.trans h1
  refine ⟨q, _, A', by rw [sz_set]; exact S, fun i hi => ?_⟩
  by_cases e : i = sl
  · subst e; simp [Cell.setSlot, S, hi]
  · simp only [Cell.setSlot, e, if_false]
    rw [Array.getElem?_setIfInBounds_ne (Ne.symm e)]; exact H i hi
theorem own_FA.new {k : ClassId} {z : Int32} (A : Arr Z h b (newA k ty z) ty) (q : ¬ z < 0) : own_FA Z h b ty z.toNatClampNeg (fun _ => defaultValue ty) := by
  refine ⟨(back32 q).2, _, A, sz_new _ _ _, fun i hi => by simp [newA, hi]⟩
theorem own_FA.eq {g' : Nat → Value} (F : own_FA Z h b ty n g) (e : ∀ i, i < n → g i = g' i) : own_FA Z h b ty n g' := by obtain ⟨q, c, A, S, H⟩ := F; exact ⟨q, c, A, S, fun i hi => by rw [← e i hi]; exact H i hi⟩
def own_up {α : Type} (f : Nat → α) (j : Nat) (x : α) : Nat → α := fun i => if i = j then x else f i
theorem own_FA.setJ {f : Nat → Int64} {x : Int64} (F : own_FA Z h b ty n (fun i => .long (f i))) (W : Wr h h' b sl (.long x)) : own_FA Z h' b ty n (fun i => .long (own_up f sl x i)) :=
  (F.set W).eq fun i _ => by by_cases e : i = sl <;> simp [own_up, e]
theorem own_FA.setI {f : Nat → Int32} {x : Int32} (F : own_FA Z h b ty n (fun i => .int (f i))) (W : Wr h h' b sl (.int x)) : own_FA Z h' b ty n (fun i => .int (own_up f sl x i)) :=
  (F.set W).eq fun i _ => by by_cases e : i = sl <;> simp [own_up, e]
theorem own_hin {c : Cell} {j : Int32} {i : Nat} (S : c.slots.size = n) (cl : j.toNatClampNeg = i) (hn : ¬ j < 0) (hi : i < n) : ¬ (j < 0 ∨ c.slots.size ≤ j.toNatClampNeg) := by
  rw [S, cl]; exact fun q => q.elim hn fun q => absurd hi (Nat.not_lt.mpr q)
theorem own_hat {c : Cell} {j : Int32} {i : Nat} (H : ∀ i, i < n → c.slots[i]? = some (g i)) (cl : j.toNatClampNeg = i) (hi : i < n) : c.slots[j.toNatClampNeg]? = some (g i) := by
  rw [cl]; exact H i hi
theorem own_i1 {i : Nat} (hi : i < 2 ^ 31) : (Int32.ofNat i).toInt = (i : Int) := toInt_of rfl hi
theorem own_ic {i : Nat} (hi : i < 2 ^ 31) : (Int32.ofNat i).toNatClampNeg = i := clamp_of rfl hi
theorem own_in0 {i : Nat} (hi : i < 2 ^ 31) : ¬ (Int32.ofNat i) < 0 := by rw [Int32.lt_iff_toInt_lt, own_i1 hi]; simp only [Int32.reduceToInt]; omega
theorem own_selfsel {s : State} {args : Array Value} {y z : MethodName} (hz : z.cls = y.cls) (nf : NotFace s z) (hzi : (Cond.instanceMethod z).before args s = true) (hpriv : s.PrivateAt y) (hinst : (Cond.instanceMethod y).before args s = true) (hy : y.cls ≠ "java/lang/invoke/MethodHandle" ∧ y.cls ≠ "java/lang/invoke/VarHandle") : (Cond.selects y.cls y y).before args s = true := by
  obtain ⟨mk, methM, hnamed, -⟩ := Cond.instanceMethod_spec hzi
  obtain ⟨k, hk, hni⟩ := nf mk hnamed
  have hc := findClass_of_methodNamed hnamed
  rw [hz] at hc
  exact selects_self_of_private hc hk hni hpriv hinst hy
end OwnArr

def own_j (x : Int64) : Int32 := (((x.toUInt64 >>> ((6 : Int32) &&& 0x3f).toInt64.toUInt64).toInt64).toInt32)
def own_ji (x : Int64) : Nat := (own_j x).toNatClampNeg
def own_m (x : Int64) : Int64 := ((1 : Int64) <<< ((x.toInt32) &&& 0x3f).toInt64)
def own_b (f : Nat → Int64) (x : Int64) : Int64 := f (own_ji x) &&& own_m x
def own_L (x : Int64) : Int64 := (((x + (63 : Int64)).toUInt64 >>> ((6 : Int32) &&& 0x3f).toInt64.toUInt64).toInt64)
def own_N (x : Int64) : Nat := (own_L x).toInt32.toNatClampNeg
def own_r (f : Nat → Int64) (x : Int64) : Int32 := if own_b f x = (0 : Int64) then 1 else 0
def own_asz (f : Nat → Int64) (x sz : Int64) : Int64 := if own_b f x = (0 : Int64) then sz + 1 else sz
def own_add (f : Nat → Int64) (x : Int64) : Nat → Int64 := if own_b f x = (0 : Int64) then own_up f (own_ji x) (f (own_ji x) ||| own_m x) else f
def own_rsz (f : Nat → Int64) (x sz : Int64) : Int64 := if own_b f x = (0 : Int64) then sz else sz - 1
def own_rem (f : Nat → Int64) (x : Int64) : Nat → Int64 := if own_b f x = (0 : Int64) then f else own_up f (own_ji x) (f (own_ji x) &&& (own_m x ^^^ (-1 : Int64)))
def own_c (f : Nat → Int64) (x : Int64) : Int32 := if own_b f x = (0 : Int64) then 0 else 1

theorem own_pg {x pg : Int64} (h : ((1 : Int64) + (x &&& (4095 : Int64))) = pg) : 1 ≤ pg.toInt ∧ pg.toInt ≤ 4096 := by
  have r := c_maskL x 4095 12 (by decide) (by decide)
  have q := c_ladd 1 (x &&& 4095)
  have g := rng64 pg
  rw [h] at q
  simp only [Int64.reduceToInt] at q
  omega
theorem own_pgnz {pg : Int64} (h : 1 ≤ pg.toInt ∧ pg.toInt ≤ 4096) : pg ≠ 0 := fun q => by rw [q] at h; exact absurd h.1 (by decide)
theorem own_rm {pg a x : Int64} (h : 1 ≤ pg.toInt ∧ pg.toInt ≤ 4096) (hx : ((a &&& (9223372036854775807 : Int64)) % pg) = x) : 0 ≤ x.toInt ∧ x.toInt < pg.toInt := by
  have r := c_maskL a 9223372036854775807 63 (by decide) (by decide)
  have e : x.toInt = (a &&& (9223372036854775807 : Int64)).toInt.tmod pg.toInt := by rw [← hx]; exact Int64.toInt_mod ..
  have q0 : 0 ≤ (a &&& (9223372036854775807 : Int64)).toInt := by omega
  rw [e]
  exact ⟨Int.tmod_nonneg _ q0, Int.tmod_lt_of_pos _ (by omega)⟩
theorem own_sm {pg x : Int64} (h : 1 ≤ pg.toInt ∧ pg.toInt ≤ 4096) (r : 0 ≤ x.toInt ∧ x.toInt < pg.toInt) : 0 ≤ x.toInt ∧ x.toInt < 4096 := by omega
theorem own_jI {x : Int64} (h : 0 ≤ x.toInt ∧ x.toInt < 4096) : (own_j x).toInt = x.toInt / 64 := by
  have r := c_lushr x 6 6 (by decide) (by decide)
  have q := c_l2i ((x.toUInt64 >>> ((6 : Int32) &&& 0x3f).toInt64.toUInt64).toInt64)
  have g := rng32 (own_j x)
  unfold own_j at *
  omega
theorem own_jneg {pg x : Int64} (h : 1 ≤ pg.toInt ∧ pg.toInt ≤ 4096) (r : 0 ≤ x.toInt ∧ x.toInt < pg.toInt) : ¬ own_j x < 0 := by
  rw [Int32.lt_iff_toInt_lt, own_jI (own_sm h r)]; simp only [Int32.reduceToInt]; omega
theorem own_jN {x : Int64} (h : 0 ≤ x.toInt ∧ x.toInt < 4096) : own_ji x = x.toInt.toNat / 64 := by
  have r := own_jI h
  unfold own_ji Int32.toNatClampNeg
  rw [r]; omega
theorem own_LI {pg : Int64} (h : 1 ≤ pg.toInt ∧ pg.toInt ≤ 4096) : (own_L pg).toInt = (pg.toInt + 63) / 64 ∧ (own_L pg).toInt32.toInt = (pg.toInt + 63) / 64 := by
  have a := c_ladd pg 63
  have g := rng64 (pg + 63)
  simp only [Int64.reduceToInt] at a
  have r := c_lushr (pg + 63) 6 6 (by decide) (by decide)
  have q := c_l2i (own_L pg)
  have g2 := rng32 ((own_L pg).toInt32)
  unfold own_L at *
  omega
theorem own_fitL (pg : Int64) (h : 1 ≤ pg.toInt ∧ pg.toInt ≤ 4096) : (((own_L pg).toInt32).toInt64) = (own_L pg) := by
  have r := own_LI h
  refine Int64.toInt_inj.mp ?_
  rw [c_i2l]; omega
theorem own_negL (pg : Int64) (h : 1 ≤ pg.toInt ∧ pg.toInt ≤ 4096) : ¬ ((own_L pg).toInt32) < 0 := by
  have r := own_LI h
  rw [Int32.lt_iff_toInt_lt]; simp only [Int32.reduceToInt]; omega
theorem own_NN {pg : Int64} (h : 1 ≤ pg.toInt ∧ pg.toInt ≤ 4096) : own_N pg = (pg.toInt.toNat + 63) / 64 := by
  have r := own_LI h
  unfold own_N Int32.toNatClampNeg
  rw [r.2]; omega
theorem own_capL (pg : Int64) (h : 1 ≤ pg.toInt ∧ pg.toInt ≤ 4096) : ((own_L pg).toInt32).toNatClampNeg ≤ 64 := by
  have r := own_NN h
  unfold own_N at r
  rw [r]; omega
theorem own_jlt {pg x : Int64} (h : 1 ≤ pg.toInt ∧ pg.toInt ≤ 4096) (r : 0 ≤ x.toInt ∧ x.toInt < pg.toInt) : own_ji x < own_N pg := by
  rw [own_jN (own_sm h r), own_NN h]; omega
theorem own_mB {x : Int64} (h : 0 ≤ x.toInt ∧ x.toInt < 4096) : (own_m x).toBitVec = BitVec.twoPow 64 (x.toInt.toNat % 64) := by
  have q := c_l2i x
  have g := rng32 x.toInt32
  have hk : x.toInt32.toBitVec.toNat % 64 = x.toInt.toNat % 64 := by
    have e : x.toInt32.toInt = x.toInt := by omega
    have e2 : (x.toInt32.toBitVec.toNat : Int) = x.toInt := by
      have t : x.toInt32.toInt = x.toInt32.toBitVec.toInt := rfl
      have u := BitVec.toInt_eq_toNat_bmod x.toInt32.toBitVec
      have lt := x.toInt32.toBitVec.isLt
      rw [t, u] at e
      rw [Int.bmod_def] at e
      split at e <;> omega
    omega
  obtain ⟨s1, s2⟩ := sm64 x.toInt32 _ hk
  unfold own_m
  refine BitVec.eq_of_toNat_eq ?_
  rw [Int64.toBitVec_shiftLeft, s1, BitVec.shiftLeft_eq', smod64 _ s2]
  rfl
theorem own_bz (f : Nat → Int64) {x : Int64} (h : 0 ≤ x.toInt ∧ x.toInt < 4096) : own_b f x = 0 ↔ (f (own_ji x)).toBitVec.getLsbD (x.toInt.toNat % 64) = false := by
  unfold own_b
  rw [← Int64.toBitVec_inj, Int64.toBitVec_and, own_mB h, BitVec.and_twoPow]
  have k : x.toInt.toNat % 64 < 64 := Nat.mod_lt _ (by decide)
  generalize x.toInt.toNat % 64 = kx at k ⊢
  cases (f (own_ji x)).toBitVec.getLsbD kx
  · simp
  · simp only [if_true]
    refine iff_of_false (fun q => ?_) (by decide)
    have := congrArg (fun z => z.getLsbD kx) q
    rw [show (Int64.toBitVec 0) = 0#64 from rfl] at this
    simp only [BitVec.getLsbD_twoPow, BitVec.getLsbD_zero] at this
    simp [k] at this
theorem own_same {x y : Int64} (hx : 0 ≤ x.toInt ∧ x.toInt < 4096) (hy : 0 ≤ y.toInt ∧ y.toInt < 4096) : (own_ji y = own_ji x ∧ x.toInt.toNat % 64 = y.toInt.toNat % 64) ↔ x = y := by
  rw [own_jN hx, own_jN hy, ← Int64.toInt_inj]; omega
theorem own_has_add {f : Nat → Int64} (x y : Int64) (hx : 0 ≤ x.toInt ∧ x.toInt < 4096) (hy : 0 ≤ y.toInt ∧ y.toInt < 4096) : own_b (own_add f x) y = 0 ↔ (own_b f y = 0 ∧ x ≠ y) := by
  have S := own_same hx hy
  have k : x.toInt.toNat % 64 < 64 := Nat.mod_lt _ (by decide)
  unfold own_add
  by_cases hb : own_b f x = 0
  · rw [if_pos hb, own_bz _ hy, own_bz _ hy]
    unfold own_up
    have mB := own_mB hx
    generalize x.toInt.toNat % 64 = kx at k S mB ⊢
    generalize y.toInt.toNat % 64 = ky at S ⊢
    by_cases e : own_ji y = own_ji x
    · rw [if_pos e, Int64.toBitVec_or, BitVec.getLsbD_or, mB, BitVec.getLsbD_twoPow, e]
      by_cases e2 : kx = ky
      · have := S.mp ⟨e, e2⟩; subst e2; simp [this, k]
      · have : x ≠ y := fun q => e2 (S.mpr q).2
        simp [this, e2]
    · have : x ≠ y := fun q => e (S.mpr q).1
      rw [if_neg e]; simp [this]
  · rw [if_neg hb]
    constructor
    · intro q; exact ⟨q, fun e => hb (by rw [e]; exact q)⟩
    · exact fun q => q.1
theorem own_has_rem {f : Nat → Int64} (x y : Int64) (hx : 0 ≤ x.toInt ∧ x.toInt < 4096) (hy : 0 ≤ y.toInt ∧ y.toInt < 4096) : own_b (own_rem f x) y = 0 ↔ (own_b f y = 0 ∨ x = y) := by
  have S := own_same hx hy
  have k : x.toInt.toNat % 64 < 64 := Nat.mod_lt _ (by decide)
  have k2 : y.toInt.toNat % 64 < 64 := Nat.mod_lt _ (by decide)
  have m1 : (-1 : Int64).toBitVec = BitVec.allOnes 64 := by decide
  unfold own_rem
  by_cases hb : own_b f x = 0
  · rw [if_pos hb]
    constructor
    · exact Or.inl
    · rintro (q | rfl)
      · exact q
      · exact hb
  · rw [if_neg hb, own_bz _ hy, own_bz _ hy]
    unfold own_up
    have mB := own_mB hx
    generalize x.toInt.toNat % 64 = kx at k S mB ⊢
    generalize y.toInt.toNat % 64 = ky at k2 S ⊢
    by_cases e : own_ji y = own_ji x
    · rw [if_pos e, Int64.toBitVec_and, BitVec.getLsbD_and, Int64.toBitVec_xor, BitVec.getLsbD_xor, mB, BitVec.getLsbD_twoPow, m1, BitVec.getLsbD_allOnes, e]
      by_cases e2 : kx = ky
      · have := S.mp ⟨e, e2⟩; subst e2; simp [this, k2]
      · have : x ≠ y := fun q => e2 (S.mpr q).2
        simp [this, e2, k2]
    · have : x ≠ y := fun q => e (S.mpr q).1
      rw [if_neg e]; simp [this]
theorem own_b0 (x : Int64) : own_b (fun _ => 0) x = 0 := by unfold own_b; simp

theorem d3_0 : decode jdk_29_method_43_code 0 = .ok (.lload_n 0, 1) := by decide +kernel
theorem d3_1 : decode jdk_29_method_43_code 1 = .ok (.l2i, 1) := by decide +kernel
theorem d3_2 : decode jdk_29_method_43_code 2 = .ok (.i2l, 1) := by decide +kernel
theorem d3_3 : decode jdk_29_method_43_code 3 = .ok (.lload_n 0, 1) := by decide +kernel
theorem d3_4 : decode jdk_29_method_43_code 4 = .ok (.lcmp, 1) := by decide +kernel
theorem d3_5 : decode jdk_29_method_43_code 5 = .ok (.ifCond .eq 13, 3) := by decide +kernel
theorem d3_18 : decode jdk_29_method_43_code 18 = .ok (.lload_n 0, 1) := by decide +kernel
theorem d3_19 : decode jdk_29_method_43_code 19 = .ok (.l2i, 1) := by decide +kernel
theorem d3_20 : decode jdk_29_method_43_code 20 = .ok (.ireturn, 1) := by decide +kernel
set_option maxHeartbeats 4000000 in
theorem ef_3 (m : MethodId) (x0 : Int64) : entryFrame m #[(.long x0)] 2 = mkF m 0 #[.val (.long x0), .second] [] := by first | (simp [entryFrame, mkF, argsToLocals, Value.category]; done) | rfl
def Q3 (Z : State) (x0 : Int64) (h0 : Heap) (n0 : Nat) (v : Option Value) (h : Heap) (L : List Loc) : Prop := v = some (.int (x0.toInt32)) ∧ Fr n0 L ∧ h = h0
set_option maxRecDepth 65536 in
set_option maxHeartbeats 40000000 in
theorem rm3 (l : Launch) (Z : State) (a0 : Array Value) (hw : ∀ d ∈ tables_1, d.before a0 Z = true) (ws : List Jvm.Cond) (x0 : Int64) (h0 : Heap) (n0 : Nat) (Z0 : n0 ≤ h0.size) (hfit : ((x0.toInt32).toInt64) = x0) :
    MetFree l (⟨"java/lang/Math", "toIntExact", "(J)I"⟩ : MethodName) (head1 (Jvm.Cond.code (⟨"java/lang/Math", "toIntExact", "(J)I"⟩ : MethodName) jdk_29_method_43_code 2 (some .int) :: ws) ({ frames := 0, cells := 0, slots := 0, locals := 0 } : Room)) (fun a U => a = #[(.long x0)] ∧ Z.Warmed39 U.vm ∧ U.heap = h0) (fun _ _ _ _ _ => True) (fun _ U o U' => ∃ v L, o = .returned v ∧ Q3 Z x0 h0 n0 v U'.heap L ∧ FrameEnd U o U' L ({ frames := 0, cells := 0, slots := 0, locals := 0 } : Room).cells ({ frames := 0, cells := 0, slots := 0, locals := 0 } : Room).slots) := by
  refine MetFree.of_bodySF (Jvm.Free.JP.mathPlain rfl (by decide +kernel)) hisR ?_
  intro p e s m args below meth c s₁ Bd hml0 hP hK
  obtain ⟨rfl, hZ, hh⟩ := hP
  have hx := Bd.exec
  have hby := Bd.bytes
  have hml : c.maxLocals = 2 := hml0
  have hown : s.vm.findClass "java/lang/Math" = some m.cls := findClass_of_methodNamed Bd.named
  have hnm := (name_of_methodNamed Bd.named Bd.method).1
  have hlk : meth.locks = false := BodyLoose.notSynchronized Bd
  have X0 : Stand p l e ({ frames := 0, cells := 0, slots := 0, locals := 0 } : Room) s m #[(.long x0)] below meth c s₁ [] 0 0 := Stand.of_body Bd
  have e0 : s₁.heap = h0 := by rw [← hh, Bd.state]; rfl
  have N0 := Fr.nil n0
  show own_E p e below s (Q3 Z x0 h0 n0) 0 0 (s₁.setTop (entryFrame m #[(.long x0)] 2))
  refine own_pre (B := s₁.setTop (mkF m 0 #[.val (.long x0), .second] [])) ?_ (fun t k => castTop (ef_3 m x0) k)
  refine own_pre (B := s₁.setTop (mkF m 1 #[.val (.long x0), .second] [(.long x0)])) ?_ fun t k => XS.lloadN X0.here hx rfl (hb hby d3_0) rfl  k
  refine own_pre (B := s₁.setTop (mkF m 2 #[.val (.long x0), .second] [(.int (x0.toInt32))])) ?_ fun t k => XS.l2i X0.here hx rfl (hb hby d3_1) rfl k
  refine own_pre (B := s₁.setTop (mkF m 3 #[.val (.long x0), .second] [(.long ((x0.toInt32).toInt64))])) ?_ fun t k => XS.i2l X0.here hx rfl (hb hby d3_2) rfl k
  refine own_pre (B := s₁.setTop (mkF m 4 #[.val (.long x0), .second] [(.long x0), (.long ((x0.toInt32).toInt64))])) ?_ fun t k => XS.lloadN X0.here hx rfl (hb hby d3_3) rfl  k
  refine own_pre (B := s₁.setTop (mkF m 5 #[.val (.long x0), .second] [(.int (lcmpW ((x0.toInt32).toInt64) x0))])) ?_ fun t k => XS.lcmp X0.here hx rfl (hb hby d3_4) rfl k
  refine own_pre (B := s₁.setTop (mkF m 18 #[.val (.long x0), .second] [])) ?_ fun t k => XS.ifYes X0.here hx rfl (pc0 := 5) (pc' := 18) rfl (hb hby d3_5) rfl ((if0 _ _).trans (teq ((lw_eq ((x0.toInt32).toInt64) x0).mpr hfit)).1) (by decide) (by decide) k
  refine own_pre (B := s₁.setTop (mkF m 19 #[.val (.long x0), .second] [(.long x0)])) ?_ fun t k => XS.lloadN X0.here hx rfl (hb hby d3_18) rfl  k
  refine own_pre (B := s₁.setTop (mkF m 20 #[.val (.long x0), .second] [(.int (x0.toInt32))])) ?_ fun t k => XS.l2i X0.here hx rfl (hb hby d3_19) rfl k
  refine own_retI X0 hx hlk Bd.returns (hb hby d3_20) ?_ (by decide) (by decide)
  rw [e0]
  exact ⟨rfl, N0, rfl⟩
theorem d1_0 : decode prog_70_method_1_code 0 = .ok (.aload_n 0, 1) := by decide +kernel
theorem d1_1 : decode prog_70_method_1_code 1 = .ok (.invokespecial 1, 3) := by decide +kernel
theorem d1_4 : decode prog_70_method_1_code 4 = .ok (.aload_n 0, 1) := by decide +kernel
theorem d1_5 : decode prog_70_method_1_code 5 = .ok (.lload_n 1, 1) := by decide +kernel
theorem d1_6 : decode prog_70_method_1_code 6 = .ok (.ldc2_w 7, 3) := by decide +kernel
theorem d1_9 : decode prog_70_method_1_code 9 = .ok (.ladd, 1) := by decide +kernel
theorem d1_10 : decode prog_70_method_1_code 10 = .ok (.bipush 6, 2) := by decide +kernel
theorem d1_12 : decode prog_70_method_1_code 12 = .ok (.lushr, 1) := by decide +kernel
theorem d1_13 : decode prog_70_method_1_code 13 = .ok (.invokestatic 9, 3) := by decide +kernel
theorem pd__J_I : parseMethodDescriptor "(J)I" = some ⟨[.long], some .int⟩ := by decide +kernel
theorem d1_16 : decode prog_70_method_1_code 16 = .ok (.newarray .long, 2) := by decide +kernel
theorem d1_18 : decode prog_70_method_1_code 18 = .ok (.putfield 15, 3) := by decide +kernel
theorem d1_21 : decode prog_70_method_1_code 21 = .ok (.return_, 1) := by decide +kernel
theorem pn_com_example_leafchain_leafchain_PageSet : plainName "com/example/leafchain/leafchain/PageSet" = true := by first | (simp [plainName, overriddenIn]; done) | decide +kernel
set_option maxHeartbeats 4000000 in
theorem ef_1 (m : MethodId) (x0 : Addr) (x1 : Int64) : entryFrame m #[(.ref x0), (.long x1)] 3 = mkF m 0 #[.val (.ref x0), .val (.long x1), .second] [] := by first | (simp [entryFrame, mkF, argsToLocals, Value.category]; done) | rfl
def Q1 (Z : State) (x0 : Addr) (x1 : Int64) (h0 : Heap) (n0 : Nat) (v : Option Value) (h : Heap) (L : List Loc) : Prop := v = none ∧ Fr n0 L ∧ Keep h0 h [x0] ∧ Exa Z h x0 "com/example/leafchain/leafchain/PageSet" ∧ ∃ b, (n0 ≤ b ∧ b ≠ x0) ∧ Fld Z h x0 "com/example/leafchain/leafchain/PageSet" "words" "[J" (.ref b) ∧ Fld Z h x0 "com/example/leafchain/leafchain/PageSet" "size" "J" (.long (0 : Int64)) ∧ own_FA Z h b .long (own_N x1) (fun i => .long ((fun _ => 0) i))
set_option maxRecDepth 65536 in
set_option maxHeartbeats 40000000 in
theorem rm1 (l : Launch) (Z : State) (a0 : Array Value) (hw : ∀ d ∈ tables_1, d.before a0 Z = true) (ws : List Jvm.Cond) (x0 : Addr) (x1 : Int64) (h0 : Heap) (n0 : Nat) (Z0 : n0 ≤ h0.size) (E_x0 : Exa Z h0 x0 "com/example/leafchain/leafchain/PageSet") (F_w : Fld Z h0 x0 "com/example/leafchain/leafchain/PageSet" "words" "[J" .null) (F_z : Fld Z h0 x0 "com/example/leafchain/leafchain/PageSet" "size" "J" (.long (0 : Int64))) (g_x0 : n0 ≤ x0) (hfit : (((own_L x1).toInt32).toInt64) = (own_L x1)) (hneg : ¬ ((own_L x1).toInt32) < 0) (hcap : ((own_L x1).toInt32).toNatClampNeg ≤ 64) :
    MetFree l (⟨"com/example/leafchain/leafchain/PageSet", "<init>", "(J)V"⟩ : MethodName) (head1 (Jvm.Cond.code (⟨"com/example/leafchain/leafchain/PageSet", "<init>", "(J)V"⟩ : MethodName) prog_70_method_1_code 3 none :: ws) ({ frames := 1, cells := 1, slots := 64, locals := 17 } : Room)) (fun a U => a = #[(.ref x0), (.long x1)] ∧ Z.Warmed39 U.vm ∧ U.heap = h0) (fun _ _ _ _ _ => True) (fun _ U o U' => ∃ v L, o = .returned v ∧ Q1 Z x0 x1 h0 n0 v U'.heap L ∧ FrameEnd U o U' L ({ frames := 1, cells := 1, slots := 64, locals := 17 } : Room).cells ({ frames := 1, cells := 1, slots := 64, locals := 17 } : Room).slots) := by
  refine MetFree.of_bodySF (plainFor_of_name pn_com_example_leafchain_leafchain_PageSet) hisR ?_
  intro p e s m args below meth c s₁ Bd hml0 hP hK
  obtain ⟨rfl, hZ, hh⟩ := hP
  have hx := Bd.exec
  have hby := Bd.bytes
  have hml : c.maxLocals = 3 := hml0
  have hown : s.vm.findClass "com/example/leafchain/leafchain/PageSet" = some m.cls := findClass_of_methodNamed Bd.named
  have hnm := (name_of_methodNamed Bd.named Bd.method).1
  have hlk : meth.locks = false := BodyLoose.notSynchronized Bd
  have X0 : Stand p l e ({ frames := 1, cells := 1, slots := 64, locals := 17 } : Room) s m #[(.ref x0), (.long x1)] below meth c s₁ [] 0 0 := Stand.of_body Bd
  have e0 : s₁.heap = h0 := by rw [← hh, Bd.state]; rfl
  have N0 := Fr.nil n0
  show own_E p e below s (Q1 Z x0 x1 h0 n0) 1 64 (s₁.setTop (entryFrame m #[(.ref x0), (.long x1)] 3))
  refine own_pre (B := s₁.setTop (mkF m 0 #[.val (.ref x0), .val (.long x1), .second] [])) ?_ (fun t k => castTop (ef_1 m x0 x1) k)
  refine own_pre (B := s₁.setTop (mkF m 1 #[.val (.ref x0), .val (.long x1), .second] [(.ref x0)])) ?_ fun t k => XS.aloadN X0.here hx rfl (hb hby d1_0) rfl rfl k
  obtain ⟨T1, X1, e1, st1⟩ := initO X0 hx hZ hown (hw _ (List.mem_of_getElem? (i := 8) rfl)) (hw _ (List.mem_of_getElem? (i := 9) rfl)) (hw _ (List.mem_of_getElem? (i := 10) rfl)) e0 (g := (mkF m 1 #[.val (.ref x0), .val (.long x1), .second] [(.ref x0)])) rfl (by rw [hml]; rfl) rfl (hb hby d1_1) (by decide) (W := 0) (by show 2 * 0 + _ ≤ _; exact Nat.le_of_eq rfl) (by decide)
  refine own_pre (B := T1.setTop (mkF m 4 #[.val (.ref x0), .val (.long x1), .second] [])) ?_ st1
  refine own_pre (B := T1.setTop (mkF m 5 #[.val (.ref x0), .val (.long x1), .second] [(.ref x0)])) ?_ fun t k => XS.aloadN X1.here hx rfl (hb hby d1_4) rfl rfl k
  refine own_pre (B := T1.setTop (mkF m 6 #[.val (.ref x0), .val (.long x1), .second] [(.long x1), (.ref x0)])) ?_ fun t k => XS.lloadN X1.here hx rfl (hb hby d1_5) rfl  k
  refine own_pre (B := T1.setTop (mkF m 9 #[.val (.ref x0), .val (.long x1), .second] [(.long (63 : Int64)), (.long x1), (.ref x0)])) ?_ (X1.ldc2Long hx hown (mvT hZ (hw _ (List.mem_of_getElem? (i := 11) rfl))) (g := (mkF m 6 #[.val (.ref x0), .val (.long x1), .second] [(.long x1), (.ref x0)])) rfl (hb hby d1_6))
  refine own_pre (B := T1.setTop (mkF m 10 #[.val (.ref x0), .val (.long x1), .second] [(.long (x1 + (63 : Int64))), (.ref x0)])) ?_ fun t k => XS.ladd X1.here hx rfl (hb hby d1_9) rfl k
  refine own_pre (B := T1.setTop (mkF m 12 #[.val (.ref x0), .val (.long x1), .second] [(.int (6 : Int32)), (.long (x1 + (63 : Int64))), (.ref x0)])) ?_ fun t k => XS.bipush X1.here hx rfl (hb hby d1_10) k
  refine own_pre (B := T1.setTop (mkF m 13 #[.val (.ref x0), .val (.long x1), .second] [(.long (((x1 + (63 : Int64)).toUInt64 >>> ((6 : Int32) &&& 0x3f).toInt64.toUInt64).toInt64)), (.ref x0)])) ?_ fun t k => XS.lushr X1.here hx rfl (hb hby d1_12) rfl k
  show own_E p e below s (Q1 Z x0 x1 h0 n0) 1 64 (T1.setTop (mkF m 13 #[.val (.ref x0), .val (.long x1), .second] [(.long (own_L x1)), (.ref x0)]))
  obtain ⟨_, _, ⟨T2, L2, k2, n2⟩, -, X2, ⟨Lc2, hQ2, l2, y2, z2⟩, st2⟩ := Jvm.LawKit.callS X1 hx (y := (⟨"java/lang/Math", "toIntExact", "(J)I"⟩ : MethodName)) hown (mvT hZ (hw _ (List.mem_of_getElem? (i := 12) rfl))) (mvT hZ (hw _ (List.mem_of_getElem? (i := 13) rfl))) (mvT hZ (hw _ (List.mem_of_getElem? (i := 14) rfl))) (mvT hZ (hw _ (List.mem_of_getElem? (i := 15) rfl))) (by decide) (backOf (W := 1) (rm3 l Z a0 hw [] (own_L x1) h0 n0 Z0 hfit) hZ (hw _ (List.mem_of_getElem? (i := 15) rfl)) (hw _ (List.mem_of_getElem? (i := 14) rfl)) (by decide) (by decide)) (g := (mkF m 13 #[.val (.ref x0), .val (.long x1), .second] [(.long (own_L x1)), (.ref x0)])) rfl (by rw [hml]; rfl) (argsL := [(.long (own_L x1))]) (rest := [(.ref x0)]) (lenOf pd__J_I rfl) rfl (by show 2 * 0 + _ ≤ _; exact Nat.le_of_eq rfl) (hb hby d1_13) (fun _ _ => ⟨rfl, e1, (by decide : 0 + 0 ≤ _), (by decide : 0 + 0 ≤ _)⟩)
  dsimp only [Pt.U, Pt.locs, Pt.cells, Pt.slots] at X2 l2 y2 z2 st2 hQ2
  subst l2 y2 z2
  obtain ⟨rfl, Nq2, e2⟩ := hQ2
  have N2 := Fr.app N0 Nq2
  refine own_pre (B := T2.setTop (mkF m 16 #[.val (.ref x0), .val (.long x1), .second] [(.int ((own_L x1).toInt32)), (.ref x0)])) ?_ st2
  obtain ⟨T3, h3, k3, X3, e3, E3, A3, st3⟩ := newP X2 hx hZ (hw _ (List.mem_of_getElem? (i := 16) rfl)) e2 (g := (mkF m 16 #[.val (.ref x0), .val (.long x1), .second] [(.int ((own_L x1).toInt32)), (.ref x0)])) rfl (hb hby d1_16) rfl hneg (cap := 64) hcap (by decide) (by decide) (by decide)
  obtain ⟨b3, g3⟩ : ∃ z, z = h0.size := ⟨_, rfl⟩
  rw [← g3] at A3 st3
  have ne4 : x0 ≠ b3 := Nat.ne_of_lt (Nat.lt_of_lt_of_le E_x0.lt (Nat.le_of_eq g3.symm))
  have Z3 : n0 ≤ h3.size := Nat.le_trans Z0 E3.1
  have gz3 : n0 ≤ b3 := Nat.le_trans Z0 (Nat.le_of_eq g3.symm)
  have sz3 : h0.size ≤ b3 := Nat.le_trans (Keep.refl h0 [x0]).1 (Nat.le_of_eq g3.symm)
  have K3 := (Keep.refl h0 [x0]).ext E3
  have V3 : own_FA Z h3 b3 .long (((own_L x1).toInt32)).toNatClampNeg (fun i => .long ((fun _ => 0) i)) := own_FA.new A3 hneg
  refine own_pre (B := T3.setTop (mkF m 18 #[.val (.ref x0), .val (.long x1), .second] [(.ref b3), (.ref x0)])) ?_ st3
  have f5 := (E_x0.ext E3)
  have f6 := (F_w.ext E3)
  obtain ⟨T7, h7, X7, e7, W7, st7⟩ := putF X3 hx hZ hown (host := "") (Or.inl (hw _ (List.mem_of_getElem? (i := 17) rfl))) Via.refl e3 f6 f5 (Or.inr ⟨(hw _ (List.mem_of_getElem? (i := 18) rfl)), rfl, hnm⟩) (hw _ (List.mem_of_getElem? (i := 3) rfl)) (ty := (.array .long)) (by decide) rfl rfl (g := (mkF m 18 #[.val (.ref x0), .val (.long x1), .second] [(.ref b3), (.ref x0)])) rfl rfl (hb hby d1_18)
  have f8 := f6.same W7
  have N7 := Fr.snoc X7 N2 g_x0
  have Z7 : n0 ≤ h7.size := Nat.le_trans Z3 (Keep.of_wr W7).1
  have K7 := K3.wr W7 (Or.inl (by simp))
  refine own_pre (B := T7.setTop (mkF m 21 #[.val (.ref x0), .val (.long x1), .second] [])) ?_ st7
  have f9 := (f5.wr W7)
  have f10 := ((F_z.ext E3).other W7 (Or.inr (slot_ne (Or.inl (hw _ (List.mem_of_getElem? (i := 25) rfl))) (Or.inr (hw _ (List.mem_of_getElem? (i := 18) rfl))) (by decide) (t := .long) (t' := (.array .long)) (by decide) (by decide))))
  have f11 := (V3.other W7 (Ne.symm ne4))
  refine own_retV X7 hx hlk Bd.returns (hb hby d1_21) ?_ (by decide) (by decide)
  rw [e7]
  exact ⟨rfl, N7, K7, f9, b3, ⟨gz3, (Ne.symm ne4)⟩, f8, f10, f11⟩
theorem d4_0 : decode prog_70_method_2_code 0 = .ok (.lload_n 1, 1) := by decide +kernel
theorem d4_1 : decode prog_70_method_2_code 1 = .ok (.bipush 6, 2) := by decide +kernel
theorem d4_3 : decode prog_70_method_2_code 3 = .ok (.lushr, 1) := by decide +kernel
theorem d4_4 : decode prog_70_method_2_code 4 = .ok (.l2i, 1) := by decide +kernel
theorem d4_5 : decode prog_70_method_2_code 5 = .ok (.istore_n 3, 1) := by decide +kernel
theorem d4_6 : decode prog_70_method_2_code 6 = .ok (.lconst 1, 1) := by decide +kernel
theorem d4_7 : decode prog_70_method_2_code 7 = .ok (.lload_n 1, 1) := by decide +kernel
theorem d4_8 : decode prog_70_method_2_code 8 = .ok (.l2i, 1) := by decide +kernel
theorem d4_9 : decode prog_70_method_2_code 9 = .ok (.lshl, 1) := by decide +kernel
theorem d4_10 : decode prog_70_method_2_code 10 = .ok (.lstore 4, 2) := by decide +kernel
theorem d4_12 : decode prog_70_method_2_code 12 = .ok (.aload_n 0, 1) := by decide +kernel
theorem d4_13 : decode prog_70_method_2_code 13 = .ok (.getfield 15, 3) := by decide +kernel
theorem d4_16 : decode prog_70_method_2_code 16 = .ok (.iload_n 3, 1) := by decide +kernel
theorem d4_17 : decode prog_70_method_2_code 17 = .ok (.laload, 1) := by decide +kernel
theorem d4_18 : decode prog_70_method_2_code 18 = .ok (.lload 4, 2) := by decide +kernel
theorem d4_20 : decode prog_70_method_2_code 20 = .ok (.land, 1) := by decide +kernel
theorem d4_21 : decode prog_70_method_2_code 21 = .ok (.lconst 0, 1) := by decide +kernel
theorem d4_22 : decode prog_70_method_2_code 22 = .ok (.lcmp, 1) := by decide +kernel
theorem d4_23 : decode prog_70_method_2_code 23 = .ok (.ifCond .eq 5, 3) := by decide +kernel
theorem d4_28 : decode prog_70_method_2_code 28 = .ok (.aload_n 0, 1) := by decide +kernel
theorem d4_29 : decode prog_70_method_2_code 29 = .ok (.getfield 15, 3) := by decide +kernel
theorem d4_32 : decode prog_70_method_2_code 32 = .ok (.iload_n 3, 1) := by decide +kernel
theorem d4_33 : decode prog_70_method_2_code 33 = .ok (.dup2, 1) := by decide +kernel
theorem d4_34 : decode prog_70_method_2_code 34 = .ok (.laload, 1) := by decide +kernel
theorem d4_35 : decode prog_70_method_2_code 35 = .ok (.lload 4, 2) := by decide +kernel
theorem d4_37 : decode prog_70_method_2_code 37 = .ok (.lor, 1) := by decide +kernel
theorem d4_38 : decode prog_70_method_2_code 38 = .ok (.lastore, 1) := by decide +kernel
theorem d4_39 : decode prog_70_method_2_code 39 = .ok (.aload_n 0, 1) := by decide +kernel
theorem d4_40 : decode prog_70_method_2_code 40 = .ok (.dup, 1) := by decide +kernel
theorem d4_41 : decode prog_70_method_2_code 41 = .ok (.getfield 21, 3) := by decide +kernel
theorem d4_44 : decode prog_70_method_2_code 44 = .ok (.lconst 1, 1) := by decide +kernel
theorem d4_45 : decode prog_70_method_2_code 45 = .ok (.ladd, 1) := by decide +kernel
theorem d4_46 : decode prog_70_method_2_code 46 = .ok (.putfield 21, 3) := by decide +kernel
theorem d4_49 : decode prog_70_method_2_code 49 = .ok (.iconst 1, 1) := by decide +kernel
theorem d4_50 : decode prog_70_method_2_code 50 = .ok (.ireturn, 1) := by decide +kernel
theorem d4_26 : decode prog_70_method_2_code 26 = .ok (.iconst 0, 1) := by decide +kernel
theorem d4_27 : decode prog_70_method_2_code 27 = .ok (.ireturn, 1) := by decide +kernel
set_option maxHeartbeats 4000000 in
theorem ef_4 (m : MethodId) (x0 : Addr) (x1 : Int64) : entryFrame m #[(.ref x0), (.long x1)] 6 = mkF m 0 #[.val (.ref x0), .val (.long x1), .second, .unset, .unset, .unset] [] := by first | (simp [entryFrame, mkF, argsToLocals, Value.category]; done) | rfl
def Q4 (Z : State) (x0 : Addr) (x1 : Int64) (b : Addr) (sz : Int64) (nn : Nat) (f : Nat → Int64) (h0 : Heap) (n0 : Nat) (v : Option Value) (h : Heap) (L : List Loc) : Prop := v = some (.int (own_r f x1)) ∧ Fr n0 L ∧ Keep h0 h [x0, b] ∧ Exa Z h x0 "com/example/leafchain/leafchain/PageSet" ∧ Fld Z h x0 "com/example/leafchain/leafchain/PageSet" "words" "[J" (.ref b) ∧ Fld Z h x0 "com/example/leafchain/leafchain/PageSet" "size" "J" (.long (own_asz f x1 sz)) ∧ own_FA Z h b .long nn (fun i => .long (own_add f x1 i))
set_option maxRecDepth 65536 in
set_option maxHeartbeats 40000000 in
theorem rm4 (l : Launch) (Z : State) (a0 : Array Value) (hw : ∀ d ∈ tables_1, d.before a0 Z = true) (ws : List Jvm.Cond) (x0 : Addr) (x1 : Int64) (b : Addr) (sz : Int64) (nn : Nat) (f : Nat → Int64) (h0 : Heap) (n0 : Nat) (Z0 : n0 ≤ h0.size) (E_x0 : Exa Z h0 x0 "com/example/leafchain/leafchain/PageSet") (F_w : Fld Z h0 x0 "com/example/leafchain/leafchain/PageSet" "words" "[J" (.ref b)) (F_z : Fld Z h0 x0 "com/example/leafchain/leafchain/PageSet" "size" "J" (.long sz)) (A_b : own_FA Z h0 b .long nn (fun i => .long (f i))) (ne_b : b ≠ x0) (g_x0 : n0 ≤ x0) (g_b : n0 ≤ b) (hj : ¬ own_j x1 < 0) (hi : own_ji x1 < nn) :
    MetFree l (⟨"com/example/leafchain/leafchain/PageSet", "add", "(J)Z"⟩ : MethodName) (head1 (Jvm.Cond.code (⟨"com/example/leafchain/leafchain/PageSet", "add", "(J)Z"⟩ : MethodName) prog_70_method_2_code 6 (some .boolean) :: ws) ({ frames := 0, cells := 0, slots := 0, locals := 0 } : Room)) (fun a U => a = #[(.ref x0), (.long x1)] ∧ Z.Warmed39 U.vm ∧ U.heap = h0) (fun _ _ _ _ _ => True) (fun _ U o U' => ∃ v L, o = .returned v ∧ Q4 Z x0 x1 b sz nn f h0 n0 v U'.heap L ∧ FrameEnd U o U' L ({ frames := 0, cells := 0, slots := 0, locals := 0 } : Room).cells ({ frames := 0, cells := 0, slots := 0, locals := 0 } : Room).slots) := by
  refine MetFree.of_bodySF (plainFor_of_name pn_com_example_leafchain_leafchain_PageSet) hisR ?_
  intro p e s m args below meth c s₁ Bd hml0 hP hK
  obtain ⟨rfl, hZ, hh⟩ := hP
  have hx := Bd.exec
  have hby := Bd.bytes
  have hml : c.maxLocals = 6 := hml0
  have hown : s.vm.findClass "com/example/leafchain/leafchain/PageSet" = some m.cls := findClass_of_methodNamed Bd.named
  have hnm := (name_of_methodNamed Bd.named Bd.method).1
  have hlk : meth.locks = false := BodyLoose.notSynchronized Bd
  have X0 : Stand p l e ({ frames := 0, cells := 0, slots := 0, locals := 0 } : Room) s m #[(.ref x0), (.long x1)] below meth c s₁ [] 0 0 := Stand.of_body Bd
  have e0 : s₁.heap = h0 := by rw [← hh, Bd.state]; rfl
  have N0 := Fr.nil n0
  show own_E p e below s (Q4 Z x0 x1 b sz nn f h0 n0) 0 0 (s₁.setTop (entryFrame m #[(.ref x0), (.long x1)] 6))
  refine own_pre (B := s₁.setTop (mkF m 0 #[.val (.ref x0), .val (.long x1), .second, .unset, .unset, .unset] [])) ?_ (fun t k => castTop (ef_4 m x0 x1) k)
  refine own_pre (B := s₁.setTop (mkF m 1 #[.val (.ref x0), .val (.long x1), .second, .unset, .unset, .unset] [(.long x1)])) ?_ fun t k => XS.lloadN X0.here hx rfl (hb hby d4_0) rfl  k
  refine own_pre (B := s₁.setTop (mkF m 3 #[.val (.ref x0), .val (.long x1), .second, .unset, .unset, .unset] [(.int (6 : Int32)), (.long x1)])) ?_ fun t k => XS.bipush X0.here hx rfl (hb hby d4_1) k
  refine own_pre (B := s₁.setTop (mkF m 4 #[.val (.ref x0), .val (.long x1), .second, .unset, .unset, .unset] [(.long ((x1.toUInt64 >>> ((6 : Int32) &&& 0x3f).toInt64.toUInt64).toInt64))])) ?_ fun t k => XS.lushr X0.here hx rfl (hb hby d4_3) rfl k
  refine own_pre (B := s₁.setTop (mkF m 5 #[.val (.ref x0), .val (.long x1), .second, .unset, .unset, .unset] [(.int (((x1.toUInt64 >>> ((6 : Int32) &&& 0x3f).toInt64.toUInt64).toInt64).toInt32))])) ?_ fun t k => XS.l2i X0.here hx rfl (hb hby d4_4) rfl k
  refine own_pre (B := s₁.setTop (mkF m 6 #[.val (.ref x0), .val (.long x1), .second, .val (.int (((x1.toUInt64 >>> ((6 : Int32) &&& 0x3f).toInt64.toUInt64).toInt64).toInt32)), .unset, .unset] [])) ?_ fun t k => XS.istoreN X0.here hx rfl (hb hby d4_5) rfl  (l' := #[.val (.ref x0), .val (.long x1), .second, .val (.int (((x1.toUInt64 >>> ((6 : Int32) &&& 0x3f).toInt64.toUInt64).toInt64).toInt32)), .unset, .unset]) rfl k
  show own_E p e below s (Q4 Z x0 x1 b sz nn f h0 n0) 0 0 (s₁.setTop (mkF m 6 #[.val (.ref x0), .val (.long x1), .second, .val (.int (own_j x1)), .unset, .unset] []))
  refine own_pre (B := s₁.setTop (mkF m 7 #[.val (.ref x0), .val (.long x1), .second, .val (.int (own_j x1)), .unset, .unset] [(.long (1 : Int64))])) ?_ fun t k => XS.lconst X0.here hx rfl (hb hby d4_6) k
  refine own_pre (B := s₁.setTop (mkF m 8 #[.val (.ref x0), .val (.long x1), .second, .val (.int (own_j x1)), .unset, .unset] [(.long x1), (.long (1 : Int64))])) ?_ fun t k => XS.lloadN X0.here hx rfl (hb hby d4_7) rfl  k
  refine own_pre (B := s₁.setTop (mkF m 9 #[.val (.ref x0), .val (.long x1), .second, .val (.int (own_j x1)), .unset, .unset] [(.int (x1.toInt32)), (.long (1 : Int64))])) ?_ fun t k => XS.l2i X0.here hx rfl (hb hby d4_8) rfl k
  refine own_pre (B := s₁.setTop (mkF m 10 #[.val (.ref x0), .val (.long x1), .second, .val (.int (own_j x1)), .unset, .unset] [(.long ((1 : Int64) <<< ((x1.toInt32) &&& 0x3f).toInt64))])) ?_ fun t k => XS.lshl X0.here hx rfl (hb hby d4_9) rfl k
  refine own_pre (B := s₁.setTop (mkF m 12 #[.val (.ref x0), .val (.long x1), .second, .val (.int (own_j x1)), .val (.long ((1 : Int64) <<< ((x1.toInt32) &&& 0x3f).toInt64)), .second] [])) ?_ fun t k => XS.lstore X0.here hx rfl (hb hby d4_10) rfl  (l' := #[.val (.ref x0), .val (.long x1), .second, .val (.int (own_j x1)), .val (.long ((1 : Int64) <<< ((x1.toInt32) &&& 0x3f).toInt64)), .second]) rfl k
  show own_E p e below s (Q4 Z x0 x1 b sz nn f h0 n0) 0 0 (s₁.setTop (mkF m 12 #[.val (.ref x0), .val (.long x1), .second, .val (.int (own_j x1)), .val (.long (own_m x1)), .second] []))
  refine own_pre (B := s₁.setTop (mkF m 13 #[.val (.ref x0), .val (.long x1), .second, .val (.int (own_j x1)), .val (.long (own_m x1)), .second] [(.ref x0)])) ?_ fun t k => XS.aloadN X0.here hx rfl (hb hby d4_12) rfl rfl k
  obtain ⟨T1, X1, e1, st1⟩ := getF X0 hx hZ hown (host := "") (Or.inl (hw _ (List.mem_of_getElem? (i := 17) rfl))) Via.refl e0 F_w (g := (mkF m 13 #[.val (.ref x0), .val (.long x1), .second, .val (.int (own_j x1)), .val (.long (own_m x1)), .second] [(.ref x0)])) rfl rfl (hb hby d4_13)
  refine own_pre (B := T1.setTop (mkF m 16 #[.val (.ref x0), .val (.long x1), .second, .val (.int (own_j x1)), .val (.long (own_m x1)), .second] [(.ref b)])) ?_ st1
  refine own_pre (B := T1.setTop (mkF m 17 #[.val (.ref x0), .val (.long x1), .second, .val (.int (own_j x1)), .val (.long (own_m x1)), .second] [(.int (own_j x1)), (.ref b)])) ?_ fun t k => XS.iloadN X1.here hx rfl (hb hby d4_16) rfl  k
  obtain ⟨Ln2, cl2, Ar2, S2, Hh2⟩ := id A_b
  have hin2 := own_hin (j := (own_j x1)) (i := (own_ji x1)) S2 rfl hj hi
  have hat2 : cl2.slots[((own_j x1)).toNatClampNeg]? = some (.long (f (own_ji x1))) := own_hat (j := (own_j x1)) (i := (own_ji x1)) Hh2 rfl hi
  refine own_pre (B := T1.setTop (mkF m 18 #[.val (.ref x0), .val (.long x1), .second, .val (.int (own_j x1)), .val (.long (own_m x1)), .second] [(.long (f (own_ji x1)))])) ?_ fun t k => X1.laload hx (j := (own_j x1)) (v := (.long (f (own_ji x1)))) (by rw [e1]; exact Ar2.1) (State.isArrayOf_alike hZ.alike Ar2.2.1) Ar2.2.2 hin2 hat2 (g := (mkF m 17 #[.val (.ref x0), .val (.long x1), .second, .val (.int (own_j x1)), .val (.long (own_m x1)), .second] [(.int (own_j x1)), (.ref b)])) rfl rfl (hb hby d4_17) t k
  refine own_pre (B := T1.setTop (mkF m 20 #[.val (.ref x0), .val (.long x1), .second, .val (.int (own_j x1)), .val (.long (own_m x1)), .second] [(.long (own_m x1)), (.long (f (own_ji x1)))])) ?_ fun t k => XS.lload X1.here hx rfl (hb hby d4_18) rfl  k
  refine own_pre (B := T1.setTop (mkF m 21 #[.val (.ref x0), .val (.long x1), .second, .val (.int (own_j x1)), .val (.long (own_m x1)), .second] [(.long ((f (own_ji x1)) &&& (own_m x1)))])) ?_ fun t k => XS.land X1.here hx rfl (hb hby d4_20) rfl k
  show own_E p e below s (Q4 Z x0 x1 b sz nn f h0 n0) 0 0 (T1.setTop (mkF m 21 #[.val (.ref x0), .val (.long x1), .second, .val (.int (own_j x1)), .val (.long (own_m x1)), .second] [(.long (own_b f x1))]))
  refine own_pre (B := T1.setTop (mkF m 22 #[.val (.ref x0), .val (.long x1), .second, .val (.int (own_j x1)), .val (.long (own_m x1)), .second] [(.long (0 : Int64)), (.long (own_b f x1))])) ?_ fun t k => XS.lconst X1.here hx rfl (hb hby d4_21) k
  refine own_pre (B := T1.setTop (mkF m 23 #[.val (.ref x0), .val (.long x1), .second, .val (.int (own_j x1)), .val (.long (own_m x1)), .second] [(.int (lcmpW (own_b f x1) (0 : Int64)))])) ?_ fun t k => XS.lcmp X1.here hx rfl (hb hby d4_22) rfl k
  by_cases h23_3 : (own_b f x1) = (0 : Int64)
  · skip
    refine own_pre (B := T1.setTop (mkF m 28 #[.val (.ref x0), .val (.long x1), .second, .val (.int (own_j x1)), .val (.long (own_m x1)), .second] [])) ?_ fun t k => XS.ifYes X1.here hx rfl (pc0 := 23) (pc' := 28) rfl (hb hby d4_23) rfl ((if0 _ _).trans (teq ((lw_eq (own_b f x1) (0 : Int64)).mpr h23_3)).1) (by decide) (by decide) k
    refine own_pre (B := T1.setTop (mkF m 29 #[.val (.ref x0), .val (.long x1), .second, .val (.int (own_j x1)), .val (.long (own_m x1)), .second] [(.ref x0)])) ?_ fun t k => XS.aloadN X1.here hx rfl (hb hby d4_28) rfl rfl k
    obtain ⟨T4, X4, e4, st4⟩ := getF X1 hx hZ hown (host := "") (Or.inl (hw _ (List.mem_of_getElem? (i := 17) rfl))) Via.refl e1 F_w (g := (mkF m 29 #[.val (.ref x0), .val (.long x1), .second, .val (.int (own_j x1)), .val (.long (own_m x1)), .second] [(.ref x0)])) rfl rfl (hb hby d4_29)
    refine own_pre (B := T4.setTop (mkF m 32 #[.val (.ref x0), .val (.long x1), .second, .val (.int (own_j x1)), .val (.long (own_m x1)), .second] [(.ref b)])) ?_ st4
    refine own_pre (B := T4.setTop (mkF m 33 #[.val (.ref x0), .val (.long x1), .second, .val (.int (own_j x1)), .val (.long (own_m x1)), .second] [(.int (own_j x1)), (.ref b)])) ?_ fun t k => XS.iloadN X4.here hx rfl (hb hby d4_32) rfl  k
    refine own_pre (B := T4.setTop (mkF m 34 #[.val (.ref x0), .val (.long x1), .second, .val (.int (own_j x1)), .val (.long (own_m x1)), .second] [(.int (own_j x1)), (.ref b), (.int (own_j x1)), (.ref b)])) ?_ (fun t k => by
        jvm_step X4.here [X4.here.top, hx, (hb hby d4_33), Value.category]
        exact k)
    obtain ⟨Ln5, cl5, Ar5, S5, Hh5⟩ := id A_b
    have hin5 := own_hin (j := (own_j x1)) (i := (own_ji x1)) S5 rfl hj hi
    have hat5 : cl5.slots[((own_j x1)).toNatClampNeg]? = some (.long (f (own_ji x1))) := own_hat (j := (own_j x1)) (i := (own_ji x1)) Hh5 rfl hi
    refine own_pre (B := T4.setTop (mkF m 35 #[.val (.ref x0), .val (.long x1), .second, .val (.int (own_j x1)), .val (.long (own_m x1)), .second] [(.long (f (own_ji x1))), (.int (own_j x1)), (.ref b)])) ?_ fun t k => X4.laload hx (j := (own_j x1)) (v := (.long (f (own_ji x1)))) (by rw [e4]; exact Ar5.1) (State.isArrayOf_alike hZ.alike Ar5.2.1) Ar5.2.2 hin5 hat5 (g := (mkF m 34 #[.val (.ref x0), .val (.long x1), .second, .val (.int (own_j x1)), .val (.long (own_m x1)), .second] [(.int (own_j x1)), (.ref b), (.int (own_j x1)), (.ref b)])) rfl rfl (hb hby d4_34) t k
    refine own_pre (B := T4.setTop (mkF m 37 #[.val (.ref x0), .val (.long x1), .second, .val (.int (own_j x1)), .val (.long (own_m x1)), .second] [(.long (own_m x1)), (.long (f (own_ji x1))), (.int (own_j x1)), (.ref b)])) ?_ fun t k => XS.lload X4.here hx rfl (hb hby d4_35) rfl  k
    refine own_pre (B := T4.setTop (mkF m 38 #[.val (.ref x0), .val (.long x1), .second, .val (.int (own_j x1)), .val (.long (own_m x1)), .second] [(.long ((f (own_ji x1)) ||| (own_m x1))), (.int (own_j x1)), (.ref b)])) ?_ fun t k => XS.lor X4.here hx rfl (hb hby d4_37) rfl k
    obtain ⟨Ln6, cl6, Ar6, S6, Hh6⟩ := id A_b
    have hin6 := own_hin (j := (own_j x1)) (i := (own_ji x1)) S6 rfl hj hi
    obtain ⟨T6, h6, X6, e6, W6, st6⟩ := stJ X4 hx hZ e4 Ar6 (j := (own_j x1)) hin6 (g := (mkF m 38 #[.val (.ref x0), .val (.long x1), .second, .val (.int (own_j x1)), .val (.long (own_m x1)), .second] [(.long ((f (own_ji x1)) ||| (own_m x1))), (.int (own_j x1)), (.ref b)])) rfl rfl (hb hby d4_38)
    have A6 : own_FA Z h6 b .long nn (fun zz => .long ((own_up f (own_ji x1) ((f (own_ji x1)) ||| (own_m x1))) zz)) := by have q := own_FA.setJ A_b W6; rw [show ((own_j x1)).toNatClampNeg = (own_ji x1) from rfl] at q; exact q
    have N6 := Fr.snoc X6 N0 g_b
    have Z6 : n0 ≤ h6.size := Nat.le_trans Z0 (Keep.of_wr W6).1
    have K6 := (Keep.refl h0 [x0, b]).wr W6 (Or.inl (by simp))
    refine own_pre (B := T6.setTop (mkF m 39 #[.val (.ref x0), .val (.long x1), .second, .val (.int (own_j x1)), .val (.long (own_m x1)), .second] [])) ?_ st6
    refine own_pre (B := T6.setTop (mkF m 40 #[.val (.ref x0), .val (.long x1), .second, .val (.int (own_j x1)), .val (.long (own_m x1)), .second] [(.ref x0)])) ?_ fun t k => XS.aloadN X6.here hx rfl (hb hby d4_39) rfl rfl k
    refine own_pre (B := T6.setTop (mkF m 41 #[.val (.ref x0), .val (.long x1), .second, .val (.int (own_j x1)), .val (.long (own_m x1)), .second] [(.ref x0), (.ref x0)])) ?_ fun t k => XS.dup X6.here hx rfl (hb hby d4_40) rfl rfl k
    have f7 := (F_z.other W6 (Or.inl (Ne.symm ne_b)))
    obtain ⟨T8, X8, e8, st8⟩ := getF X6 hx hZ hown (host := "") (Or.inl (hw _ (List.mem_of_getElem? (i := 24) rfl))) Via.refl e6 f7 (g := (mkF m 41 #[.val (.ref x0), .val (.long x1), .second, .val (.int (own_j x1)), .val (.long (own_m x1)), .second] [(.ref x0), (.ref x0)])) rfl rfl (hb hby d4_41)
    refine own_pre (B := T8.setTop (mkF m 44 #[.val (.ref x0), .val (.long x1), .second, .val (.int (own_j x1)), .val (.long (own_m x1)), .second] [(.long sz), (.ref x0)])) ?_ st8
    refine own_pre (B := T8.setTop (mkF m 45 #[.val (.ref x0), .val (.long x1), .second, .val (.int (own_j x1)), .val (.long (own_m x1)), .second] [(.long (1 : Int64)), (.long sz), (.ref x0)])) ?_ fun t k => XS.lconst X8.here hx rfl (hb hby d4_44) k
    refine own_pre (B := T8.setTop (mkF m 46 #[.val (.ref x0), .val (.long x1), .second, .val (.int (own_j x1)), .val (.long (own_m x1)), .second] [(.long (sz + (1 : Int64))), (.ref x0)])) ?_ fun t k => XS.ladd X8.here hx rfl (hb hby d4_45) rfl k
    have f9 := (E_x0.wr W6)
    obtain ⟨T10, h10, X10, e10, W10, st10⟩ := putF X8 hx hZ hown (host := "") (Or.inl (hw _ (List.mem_of_getElem? (i := 24) rfl))) Via.refl e8 f7 f9 (Or.inl (hw _ (List.mem_of_getElem? (i := 25) rfl))) (hw _ (List.mem_of_getElem? (i := 3) rfl)) (ty := .long) (by decide) rfl rfl (g := (mkF m 46 #[.val (.ref x0), .val (.long x1), .second, .val (.int (own_j x1)), .val (.long (own_m x1)), .second] [(.long (sz + (1 : Int64))), (.ref x0)])) rfl rfl (hb hby d4_46)
    have f11 := f7.same W10
    have N10 := Fr.snoc X10 N6 g_x0
    have Z10 : n0 ≤ h10.size := Nat.le_trans Z6 (Keep.of_wr W10).1
    have K10 := K6.wr W10 (Or.inl (by simp))
    refine own_pre (B := T10.setTop (mkF m 49 #[.val (.ref x0), .val (.long x1), .second, .val (.int (own_j x1)), .val (.long (own_m x1)), .second] [])) ?_ st10
    refine own_pre (B := T10.setTop (mkF m 50 #[.val (.ref x0), .val (.long x1), .second, .val (.int (own_j x1)), .val (.long (own_m x1)), .second] [(.int (1 : Int32))])) ?_ fun t k => XS.iconst X10.here hx rfl (hb hby d4_49) k
    have f12 := (A6.other W10 ne_b)
    have f13 := (f9.wr W10)
    have f14 := ((F_w.other W6 (Or.inl (Ne.symm ne_b))).other W10 (Or.inr (slot_ne (Or.inr (hw _ (List.mem_of_getElem? (i := 18) rfl))) (Or.inl (hw _ (List.mem_of_getElem? (i := 25) rfl))) (by decide) (t := (.array .long)) (t' := .long) (by decide) (by decide))))
    refine own_retN X10 hx hlk (t := .boolean) (z' := (1 : Int32)) Bd.returns (by simp) (hb hby d4_50) (by decide) ?_ (by decide) (by decide)
    rw [e10]
    refine ⟨by rw [own_r, if_pos h23_3], N10, K10, f13, f14, ?_, ?_⟩
    · rw [own_asz, if_pos h23_3]; exact f11
    · rw [own_add, if_pos h23_3]; exact f12
  · skip
    refine own_pre (B := T1.setTop (mkF m 26 #[.val (.ref x0), .val (.long x1), .second, .val (.int (own_j x1)), .val (.long (own_m x1)), .second] [])) ?_ fun t k => XS.ifNo X1.here hx rfl (hb hby d4_23) rfl ((if0 _ _).trans (feq (fun q => h23_3 ((lw_eq (own_b f x1) (0 : Int64)).mp q))).1) k
    refine own_pre (B := T1.setTop (mkF m 27 #[.val (.ref x0), .val (.long x1), .second, .val (.int (own_j x1)), .val (.long (own_m x1)), .second] [(.int (0 : Int32))])) ?_ fun t k => XS.iconst X1.here hx rfl (hb hby d4_26) k
    refine own_retN X1 hx hlk (t := .boolean) (z' := (0 : Int32)) Bd.returns (by simp) (hb hby d4_27) (by decide) ?_ (by decide) (by decide)
    rw [e1]
    refine ⟨by rw [own_r, if_neg h23_3], N0, (Keep.refl h0 [x0, b]), E_x0, F_w, ?_, ?_⟩
    · rw [own_asz, if_neg h23_3]; exact F_z
    · rw [own_add, if_neg h23_3]; exact A_b
theorem d6_0 : decode prog_70_method_5_code 0 = .ok (.aload_n 0, 1) := by decide +kernel
theorem d6_1 : decode prog_70_method_5_code 1 = .ok (.getfield 15, 3) := by decide +kernel
theorem d6_4 : decode prog_70_method_5_code 4 = .ok (.lload_n 1, 1) := by decide +kernel
theorem d6_5 : decode prog_70_method_5_code 5 = .ok (.bipush 6, 2) := by decide +kernel
theorem d6_7 : decode prog_70_method_5_code 7 = .ok (.lushr, 1) := by decide +kernel
theorem d6_8 : decode prog_70_method_5_code 8 = .ok (.l2i, 1) := by decide +kernel
theorem d6_9 : decode prog_70_method_5_code 9 = .ok (.laload, 1) := by decide +kernel
theorem d6_10 : decode prog_70_method_5_code 10 = .ok (.lconst 1, 1) := by decide +kernel
theorem d6_11 : decode prog_70_method_5_code 11 = .ok (.lload_n 1, 1) := by decide +kernel
theorem d6_12 : decode prog_70_method_5_code 12 = .ok (.l2i, 1) := by decide +kernel
theorem d6_13 : decode prog_70_method_5_code 13 = .ok (.lshl, 1) := by decide +kernel
theorem d6_14 : decode prog_70_method_5_code 14 = .ok (.land, 1) := by decide +kernel
theorem d6_15 : decode prog_70_method_5_code 15 = .ok (.lconst 0, 1) := by decide +kernel
theorem d6_16 : decode prog_70_method_5_code 16 = .ok (.lcmp, 1) := by decide +kernel
theorem d6_17 : decode prog_70_method_5_code 17 = .ok (.ifCond .eq 7, 3) := by decide +kernel
theorem d6_24 : decode prog_70_method_5_code 24 = .ok (.iconst 0, 1) := by decide +kernel
theorem d6_25 : decode prog_70_method_5_code 25 = .ok (.ireturn, 1) := by decide +kernel
theorem d6_20 : decode prog_70_method_5_code 20 = .ok (.iconst 1, 1) := by decide +kernel
theorem d6_21 : decode prog_70_method_5_code 21 = .ok (.goto 4, 3) := by decide +kernel
set_option maxHeartbeats 4000000 in
theorem ef_6 (m : MethodId) (x0 : Addr) (x1 : Int64) : entryFrame m #[(.ref x0), (.long x1)] 3 = mkF m 0 #[.val (.ref x0), .val (.long x1), .second] [] := by first | (simp [entryFrame, mkF, argsToLocals, Value.category]; done) | rfl
def Q6 (Z : State) (x0 : Addr) (x1 : Int64) (b : Addr) (nn : Nat) (f : Nat → Int64) (h0 : Heap) (n0 : Nat) (v : Option Value) (h : Heap) (L : List Loc) : Prop := v = some (.int (own_c f x1)) ∧ Fr n0 L ∧ h = h0
set_option maxRecDepth 65536 in
set_option maxHeartbeats 40000000 in
theorem rm6 (l : Launch) (Z : State) (a0 : Array Value) (hw : ∀ d ∈ tables_1, d.before a0 Z = true) (ws : List Jvm.Cond) (x0 : Addr) (x1 : Int64) (b : Addr) (nn : Nat) (f : Nat → Int64) (h0 : Heap) (n0 : Nat) (Z0 : n0 ≤ h0.size) (F_w : Fld Z h0 x0 "com/example/leafchain/leafchain/PageSet" "words" "[J" (.ref b)) (A_b : own_FA Z h0 b .long nn (fun i => .long (f i))) (hj : ¬ own_j x1 < 0) (hi : own_ji x1 < nn) :
    MetFree l (⟨"com/example/leafchain/leafchain/PageSet", "contains", "(J)Z"⟩ : MethodName) (head1 (Jvm.Cond.code (⟨"com/example/leafchain/leafchain/PageSet", "contains", "(J)Z"⟩ : MethodName) prog_70_method_5_code 3 (some .boolean) :: ws) ({ frames := 0, cells := 0, slots := 0, locals := 0 } : Room)) (fun a U => a = #[(.ref x0), (.long x1)] ∧ Z.Warmed39 U.vm ∧ U.heap = h0) (fun _ _ _ _ _ => True) (fun _ U o U' => ∃ v L, o = .returned v ∧ Q6 Z x0 x1 b nn f h0 n0 v U'.heap L ∧ FrameEnd U o U' L ({ frames := 0, cells := 0, slots := 0, locals := 0 } : Room).cells ({ frames := 0, cells := 0, slots := 0, locals := 0 } : Room).slots) := by
  refine MetFree.of_bodySF (plainFor_of_name pn_com_example_leafchain_leafchain_PageSet) hisR ?_
  intro p e s m args below meth c s₁ Bd hml0 hP hK
  obtain ⟨rfl, hZ, hh⟩ := hP
  have hx := Bd.exec
  have hby := Bd.bytes
  have hml : c.maxLocals = 3 := hml0
  have hown : s.vm.findClass "com/example/leafchain/leafchain/PageSet" = some m.cls := findClass_of_methodNamed Bd.named
  have hnm := (name_of_methodNamed Bd.named Bd.method).1
  have hlk : meth.locks = false := BodyLoose.notSynchronized Bd
  have X0 : Stand p l e ({ frames := 0, cells := 0, slots := 0, locals := 0 } : Room) s m #[(.ref x0), (.long x1)] below meth c s₁ [] 0 0 := Stand.of_body Bd
  have e0 : s₁.heap = h0 := by rw [← hh, Bd.state]; rfl
  have N0 := Fr.nil n0
  show own_E p e below s (Q6 Z x0 x1 b nn f h0 n0) 0 0 (s₁.setTop (entryFrame m #[(.ref x0), (.long x1)] 3))
  refine own_pre (B := s₁.setTop (mkF m 0 #[.val (.ref x0), .val (.long x1), .second] [])) ?_ (fun t k => castTop (ef_6 m x0 x1) k)
  refine own_pre (B := s₁.setTop (mkF m 1 #[.val (.ref x0), .val (.long x1), .second] [(.ref x0)])) ?_ fun t k => XS.aloadN X0.here hx rfl (hb hby d6_0) rfl rfl k
  obtain ⟨T1, X1, e1, st1⟩ := getF X0 hx hZ hown (host := "") (Or.inl (hw _ (List.mem_of_getElem? (i := 17) rfl))) Via.refl e0 F_w (g := (mkF m 1 #[.val (.ref x0), .val (.long x1), .second] [(.ref x0)])) rfl rfl (hb hby d6_1)
  refine own_pre (B := T1.setTop (mkF m 4 #[.val (.ref x0), .val (.long x1), .second] [(.ref b)])) ?_ st1
  refine own_pre (B := T1.setTop (mkF m 5 #[.val (.ref x0), .val (.long x1), .second] [(.long x1), (.ref b)])) ?_ fun t k => XS.lloadN X1.here hx rfl (hb hby d6_4) rfl  k
  refine own_pre (B := T1.setTop (mkF m 7 #[.val (.ref x0), .val (.long x1), .second] [(.int (6 : Int32)), (.long x1), (.ref b)])) ?_ fun t k => XS.bipush X1.here hx rfl (hb hby d6_5) k
  refine own_pre (B := T1.setTop (mkF m 8 #[.val (.ref x0), .val (.long x1), .second] [(.long ((x1.toUInt64 >>> ((6 : Int32) &&& 0x3f).toInt64.toUInt64).toInt64)), (.ref b)])) ?_ fun t k => XS.lushr X1.here hx rfl (hb hby d6_7) rfl k
  refine own_pre (B := T1.setTop (mkF m 9 #[.val (.ref x0), .val (.long x1), .second] [(.int (((x1.toUInt64 >>> ((6 : Int32) &&& 0x3f).toInt64.toUInt64).toInt64).toInt32)), (.ref b)])) ?_ fun t k => XS.l2i X1.here hx rfl (hb hby d6_8) rfl k
  show own_E p e below s (Q6 Z x0 x1 b nn f h0 n0) 0 0 (T1.setTop (mkF m 9 #[.val (.ref x0), .val (.long x1), .second] [(.int (own_j x1)), (.ref b)]))
  obtain ⟨Ln2, cl2, Ar2, S2, Hh2⟩ := id A_b
  have hin2 := own_hin (j := (own_j x1)) (i := (own_ji x1)) S2 rfl hj hi
  have hat2 : cl2.slots[((own_j x1)).toNatClampNeg]? = some (.long (f (own_ji x1))) := own_hat (j := (own_j x1)) (i := (own_ji x1)) Hh2 rfl hi
  refine own_pre (B := T1.setTop (mkF m 10 #[.val (.ref x0), .val (.long x1), .second] [(.long (f (own_ji x1)))])) ?_ fun t k => X1.laload hx (j := (own_j x1)) (v := (.long (f (own_ji x1)))) (by rw [e1]; exact Ar2.1) (State.isArrayOf_alike hZ.alike Ar2.2.1) Ar2.2.2 hin2 hat2 (g := (mkF m 9 #[.val (.ref x0), .val (.long x1), .second] [(.int (own_j x1)), (.ref b)])) rfl rfl (hb hby d6_9) t k
  refine own_pre (B := T1.setTop (mkF m 11 #[.val (.ref x0), .val (.long x1), .second] [(.long (1 : Int64)), (.long (f (own_ji x1)))])) ?_ fun t k => XS.lconst X1.here hx rfl (hb hby d6_10) k
  refine own_pre (B := T1.setTop (mkF m 12 #[.val (.ref x0), .val (.long x1), .second] [(.long x1), (.long (1 : Int64)), (.long (f (own_ji x1)))])) ?_ fun t k => XS.lloadN X1.here hx rfl (hb hby d6_11) rfl  k
  refine own_pre (B := T1.setTop (mkF m 13 #[.val (.ref x0), .val (.long x1), .second] [(.int (x1.toInt32)), (.long (1 : Int64)), (.long (f (own_ji x1)))])) ?_ fun t k => XS.l2i X1.here hx rfl (hb hby d6_12) rfl k
  refine own_pre (B := T1.setTop (mkF m 14 #[.val (.ref x0), .val (.long x1), .second] [(.long ((1 : Int64) <<< ((x1.toInt32) &&& 0x3f).toInt64)), (.long (f (own_ji x1)))])) ?_ fun t k => XS.lshl X1.here hx rfl (hb hby d6_13) rfl k
  refine own_pre (B := T1.setTop (mkF m 15 #[.val (.ref x0), .val (.long x1), .second] [(.long ((f (own_ji x1)) &&& ((1 : Int64) <<< ((x1.toInt32) &&& 0x3f).toInt64)))])) ?_ fun t k => XS.land X1.here hx rfl (hb hby d6_14) rfl k
  show own_E p e below s (Q6 Z x0 x1 b nn f h0 n0) 0 0 (T1.setTop (mkF m 15 #[.val (.ref x0), .val (.long x1), .second] [(.long (own_b f x1))]))
  refine own_pre (B := T1.setTop (mkF m 16 #[.val (.ref x0), .val (.long x1), .second] [(.long (0 : Int64)), (.long (own_b f x1))])) ?_ fun t k => XS.lconst X1.here hx rfl (hb hby d6_15) k
  refine own_pre (B := T1.setTop (mkF m 17 #[.val (.ref x0), .val (.long x1), .second] [(.int (lcmpW (own_b f x1) (0 : Int64)))])) ?_ fun t k => XS.lcmp X1.here hx rfl (hb hby d6_16) rfl k
  by_cases h17_3 : (own_b f x1) = (0 : Int64)
  · skip
    refine own_pre (B := T1.setTop (mkF m 24 #[.val (.ref x0), .val (.long x1), .second] [])) ?_ fun t k => XS.ifYes X1.here hx rfl (pc0 := 17) (pc' := 24) rfl (hb hby d6_17) rfl ((if0 _ _).trans (teq ((lw_eq (own_b f x1) (0 : Int64)).mpr h17_3)).1) (by decide) (by decide) k
    refine own_pre (B := T1.setTop (mkF m 25 #[.val (.ref x0), .val (.long x1), .second] [(.int (0 : Int32))])) ?_ fun t k => XS.iconst X1.here hx rfl (hb hby d6_24) k
    refine own_retN X1 hx hlk (t := .boolean) (z' := (0 : Int32)) Bd.returns (by simp) (hb hby d6_25) (by decide) ?_ (by decide) (by decide)
    rw [e1]
    exact ⟨by rw [own_c, if_pos h17_3], N0, rfl⟩
  · skip
    refine own_pre (B := T1.setTop (mkF m 20 #[.val (.ref x0), .val (.long x1), .second] [])) ?_ fun t k => XS.ifNo X1.here hx rfl (hb hby d6_17) rfl ((if0 _ _).trans (feq (fun q => h17_3 ((lw_eq (own_b f x1) (0 : Int64)).mp q))).1) k
    refine own_pre (B := T1.setTop (mkF m 21 #[.val (.ref x0), .val (.long x1), .second] [(.int (1 : Int32))])) ?_ fun t k => XS.iconst X1.here hx rfl (hb hby d6_20) k
    refine own_pre (B := T1.setTop (mkF m 25 #[.val (.ref x0), .val (.long x1), .second] [(.int (1 : Int32))])) ?_ fun t k => XS.goto X1.here hx rfl (pc0 := 21) (pc' := 25) rfl (hb hby d6_21) (by decide) (by decide) k
    refine own_retN X1 hx hlk (t := .boolean) (z' := (1 : Int32)) Bd.returns (by simp) (hb hby d6_25) (by decide) ?_ (by decide) (by decide)
    rw [e1]
    exact ⟨by rw [own_c, if_neg h17_3], N0, rfl⟩
theorem d5_0 : decode prog_70_method_6_code 0 = .ok (.aload_n 0, 1) := by decide +kernel
theorem d5_1 : decode prog_70_method_6_code 1 = .ok (.getfield 21, 3) := by decide +kernel
theorem d5_4 : decode prog_70_method_6_code 4 = .ok (.lreturn, 1) := by decide +kernel
set_option maxHeartbeats 4000000 in
theorem ef_5 (m : MethodId) (x0 : Addr) : entryFrame m #[(.ref x0)] 1 = mkF m 0 #[.val (.ref x0)] [] := by first | (simp [entryFrame, mkF, argsToLocals, Value.category]; done) | rfl
def Q5 (Z : State) (x0 : Addr) (sz : Int64) (h0 : Heap) (n0 : Nat) (v : Option Value) (h : Heap) (L : List Loc) : Prop := v = some (.long sz) ∧ Fr n0 L ∧ h = h0
set_option maxRecDepth 65536 in
set_option maxHeartbeats 40000000 in
theorem rm5 (l : Launch) (Z : State) (a0 : Array Value) (hw : ∀ d ∈ tables_1, d.before a0 Z = true) (ws : List Jvm.Cond) (x0 : Addr) (sz : Int64) (h0 : Heap) (n0 : Nat) (Z0 : n0 ≤ h0.size) (F_z : Fld Z h0 x0 "com/example/leafchain/leafchain/PageSet" "size" "J" (.long sz)) :
    MetFree l (⟨"com/example/leafchain/leafchain/PageSet", "size", "()J"⟩ : MethodName) (head1 (Jvm.Cond.code (⟨"com/example/leafchain/leafchain/PageSet", "size", "()J"⟩ : MethodName) prog_70_method_6_code 1 (some .long) :: ws) ({ frames := 0, cells := 0, slots := 0, locals := 0 } : Room)) (fun a U => a = #[(.ref x0)] ∧ Z.Warmed39 U.vm ∧ U.heap = h0) (fun _ _ _ _ _ => True) (fun _ U o U' => ∃ v L, o = .returned v ∧ Q5 Z x0 sz h0 n0 v U'.heap L ∧ FrameEnd U o U' L ({ frames := 0, cells := 0, slots := 0, locals := 0 } : Room).cells ({ frames := 0, cells := 0, slots := 0, locals := 0 } : Room).slots) := by
  refine MetFree.of_bodySF (plainFor_of_name pn_com_example_leafchain_leafchain_PageSet) hisR ?_
  intro p e s m args below meth c s₁ Bd hml0 hP hK
  obtain ⟨rfl, hZ, hh⟩ := hP
  have hx := Bd.exec
  have hby := Bd.bytes
  have hml : c.maxLocals = 1 := hml0
  have hown : s.vm.findClass "com/example/leafchain/leafchain/PageSet" = some m.cls := findClass_of_methodNamed Bd.named
  have hnm := (name_of_methodNamed Bd.named Bd.method).1
  have hlk : meth.locks = false := BodyLoose.notSynchronized Bd
  have X0 : Stand p l e ({ frames := 0, cells := 0, slots := 0, locals := 0 } : Room) s m #[(.ref x0)] below meth c s₁ [] 0 0 := Stand.of_body Bd
  have e0 : s₁.heap = h0 := by rw [← hh, Bd.state]; rfl
  have N0 := Fr.nil n0
  show own_E p e below s (Q5 Z x0 sz h0 n0) 0 0 (s₁.setTop (entryFrame m #[(.ref x0)] 1))
  refine own_pre (B := s₁.setTop (mkF m 0 #[.val (.ref x0)] [])) ?_ (fun t k => castTop (ef_5 m x0) k)
  refine own_pre (B := s₁.setTop (mkF m 1 #[.val (.ref x0)] [(.ref x0)])) ?_ fun t k => XS.aloadN X0.here hx rfl (hb hby d5_0) rfl rfl k
  obtain ⟨T1, X1, e1, st1⟩ := getF X0 hx hZ hown (host := "") (Or.inl (hw _ (List.mem_of_getElem? (i := 24) rfl))) Via.refl e0 F_z (g := (mkF m 1 #[.val (.ref x0)] [(.ref x0)])) rfl rfl (hb hby d5_1)
  refine own_pre (B := T1.setTop (mkF m 4 #[.val (.ref x0)] [(.long sz)])) ?_ st1
  refine own_retJ X1 hx hlk Bd.returns (hb hby d5_4) ?_ (by decide) (by decide)
  rw [e1]
  exact ⟨rfl, N0, rfl⟩
theorem pd__J_V : parseMethodDescriptor "(J)V" = some ⟨[.long], none⟩ := by decide +kernel
theorem pd__J_Z : parseMethodDescriptor "(J)Z" = some ⟨[.long], some .boolean⟩ := by decide +kernel
theorem pd___J : parseMethodDescriptor "()J" = some ⟨[], some .long⟩ := by decide +kernel
set_option maxRecDepth 65536 in
set_option maxHeartbeats 40000000 in
theorem own_fin1 (x0 : Int64) (x1 : Int64) (x2 : Int64) (x3 : Int64) (pg : Int64) (hmpg : ((1 : Int64) + (x0 &&& (4095 : Int64))) = pg) (xa : Int64) (hmxa : ((x1 &&& (9223372036854775807 : Int64)) % pg) = xa) (ya : Int64) (hmya : ((x2 &&& (9223372036854775807 : Int64)) % pg) = ya) (za : Int64) (hmza : ((x3 &&& (9223372036854775807 : Int64)) % pg) = za) (hpg : 1 ≤ pg.toInt ∧ pg.toInt ≤ 4096) (rxa : 0 ≤ xa.toInt ∧ xa.toInt < pg.toInt) (rya : 0 ≤ ya.toInt ∧ ya.toInt < pg.toInt) (rza : 0 ≤ za.toInt ∧ za.toInt < pg.toInt) (j13_s0 : Int32) (hvj13_s0 : j13_s0 = (if xa = ya then (1 : Int32) else (0 : Int32))) (j16_s0 : Int64) (hvj16_s0 : j16_s0 = (if j13_s0 = (0 : Int32) then (2 : Int64) else (1 : Int64))) (j19_s0 : Int32) (hvj19_s0 : j19_s0 = (if za = xa then (1 : Int32) else (if za = ya then (1 : Int32) else (0 : Int32)))) : ¬ ((own_r (fun _ => 0) xa) = (0 : Int32)) := by
  have sx := own_sm hpg rxa
  have sy := own_sm hpg rya
  have sz := own_sm hpg rza
  have z1 := own_b0 xa
  have z2 := own_b0 ya
  have z3 := own_b0 za
  have a1 := own_has_add (f := fun _ => 0) xa ya sx sy
  have a2 := own_has_add (f := fun _ => 0) xa xa sx sx
  have a9 := own_has_add (f := fun _ => 0) xa za sx sz
  have a3 := own_has_add (f := own_add (fun _ => 0) xa) ya xa sy sx
  have a4 := own_has_add (f := own_add (fun _ => 0) xa) ya ya sy sy
  have a8 := own_has_add (f := own_add (fun _ => 0) xa) ya za sy sz
  have a5 := own_has_add (f := own_add (own_add (fun _ => 0) xa) ya) xa xa sx sx
  have a6 := own_has_add (f := own_add (own_add (fun _ => 0) xa) ya) xa ya sx sy
  have a7 := own_has_add (f := own_add (own_add (fun _ => 0) xa) ya) xa za sx sz
  clear hmpg hmxa hmya hmza
  simp only [own_r, own_asz, own_c, hvj19_s0, hvj16_s0, hvj13_s0, a1, a2, a3, a4, a5, a6, a7, a8, a9, z1, z2, z3, true_and, ne_eq, not_true_eq_false, and_false, if_true, if_false]
  all_goals
    clear a1 a2 a3 a4 a5 a6 a7 a8 a9 z1 z2 z3
    by_cases q1 : xa = ya
    · subst q1
      by_cases q2 : xa = za
      · subst q2; simp
      · simp [q2, Ne.symm q2]
    · by_cases q2 : xa = za
      · subst q2; simp [q1, Ne.symm q1]
      · by_cases q3 : ya = za
        · subst q3; simp [q1, Ne.symm q1]
        · simp [q1, q2, q3, Ne.symm q1, Ne.symm q2, Ne.symm q3]
set_option maxRecDepth 65536 in
set_option maxHeartbeats 40000000 in
theorem own_fin2 (x0 : Int64) (x1 : Int64) (x2 : Int64) (x3 : Int64) (pg : Int64) (hmpg : ((1 : Int64) + (x0 &&& (4095 : Int64))) = pg) (xa : Int64) (hmxa : ((x1 &&& (9223372036854775807 : Int64)) % pg) = xa) (ya : Int64) (hmya : ((x2 &&& (9223372036854775807 : Int64)) % pg) = ya) (za : Int64) (hmza : ((x3 &&& (9223372036854775807 : Int64)) % pg) = za) (hpg : 1 ≤ pg.toInt ∧ pg.toInt ≤ 4096) (rxa : 0 ≤ xa.toInt ∧ xa.toInt < pg.toInt) (rya : 0 ≤ ya.toInt ∧ ya.toInt < pg.toInt) (rza : 0 ≤ za.toInt ∧ za.toInt < pg.toInt) (j13_s0 : Int32) (hvj13_s0 : j13_s0 = (if xa = ya then (1 : Int32) else (0 : Int32))) (j16_s0 : Int64) (hvj16_s0 : j16_s0 = (if j13_s0 = (0 : Int32) then (2 : Int64) else (1 : Int64))) (j19_s0 : Int32) (hvj19_s0 : j19_s0 = (if za = xa then (1 : Int32) else (if za = ya then (1 : Int32) else (0 : Int32)))) : (own_asz (fun _ => 0) xa (0 : Int64)) = (1 : Int64) := by
  have sx := own_sm hpg rxa
  have sy := own_sm hpg rya
  have sz := own_sm hpg rza
  have z1 := own_b0 xa
  have z2 := own_b0 ya
  have z3 := own_b0 za
  have a1 := own_has_add (f := fun _ => 0) xa ya sx sy
  have a2 := own_has_add (f := fun _ => 0) xa xa sx sx
  have a9 := own_has_add (f := fun _ => 0) xa za sx sz
  have a3 := own_has_add (f := own_add (fun _ => 0) xa) ya xa sy sx
  have a4 := own_has_add (f := own_add (fun _ => 0) xa) ya ya sy sy
  have a8 := own_has_add (f := own_add (fun _ => 0) xa) ya za sy sz
  have a5 := own_has_add (f := own_add (own_add (fun _ => 0) xa) ya) xa xa sx sx
  have a6 := own_has_add (f := own_add (own_add (fun _ => 0) xa) ya) xa ya sx sy
  have a7 := own_has_add (f := own_add (own_add (fun _ => 0) xa) ya) xa za sx sz
  clear hmpg hmxa hmya hmza
  simp only [own_r, own_asz, own_c, hvj19_s0, hvj16_s0, hvj13_s0, a1, a2, a3, a4, a5, a6, a7, a8, a9, z1, z2, z3, true_and, ne_eq, not_true_eq_false, and_false, if_true, if_false]
  all_goals
    clear a1 a2 a3 a4 a5 a6 a7 a8 a9 z1 z2 z3
    by_cases q1 : xa = ya
    · subst q1
      by_cases q2 : xa = za
      · subst q2; simp
      · simp [q2, Ne.symm q2]
    · by_cases q2 : xa = za
      · subst q2; simp [q1, Ne.symm q1]
      · by_cases q3 : ya = za
        · subst q3; simp [q1, Ne.symm q1]
        · simp [q1, q2, q3, Ne.symm q1, Ne.symm q2, Ne.symm q3]
set_option maxRecDepth 65536 in
set_option maxHeartbeats 40000000 in
theorem own_fin3 (x0 : Int64) (x1 : Int64) (x2 : Int64) (x3 : Int64) (pg : Int64) (hmpg : ((1 : Int64) + (x0 &&& (4095 : Int64))) = pg) (xa : Int64) (hmxa : ((x1 &&& (9223372036854775807 : Int64)) % pg) = xa) (ya : Int64) (hmya : ((x2 &&& (9223372036854775807 : Int64)) % pg) = ya) (za : Int64) (hmza : ((x3 &&& (9223372036854775807 : Int64)) % pg) = za) (hpg : 1 ≤ pg.toInt ∧ pg.toInt ≤ 4096) (rxa : 0 ≤ xa.toInt ∧ xa.toInt < pg.toInt) (rya : 0 ≤ ya.toInt ∧ ya.toInt < pg.toInt) (rza : 0 ≤ za.toInt ∧ za.toInt < pg.toInt) (j13_s0 : Int32) (hvj13_s0 : j13_s0 = (if xa = ya then (1 : Int32) else (0 : Int32))) (j16_s0 : Int64) (hvj16_s0 : j16_s0 = (if j13_s0 = (0 : Int32) then (2 : Int64) else (1 : Int64))) (j19_s0 : Int32) (hvj19_s0 : j19_s0 = (if za = xa then (1 : Int32) else (if za = ya then (1 : Int32) else (0 : Int32)))) (j22_s0 : Int32) (hvj22_s0 : j22_s0 = (if j13_s0 = (0 : Int32) then (1 : Int32) else (0 : Int32))) : (own_r (own_add (fun _ => 0) xa) ya) = j22_s0 := by
  have sx := own_sm hpg rxa
  have sy := own_sm hpg rya
  have sz := own_sm hpg rza
  have z1 := own_b0 xa
  have z2 := own_b0 ya
  have z3 := own_b0 za
  have a1 := own_has_add (f := fun _ => 0) xa ya sx sy
  have a2 := own_has_add (f := fun _ => 0) xa xa sx sx
  have a9 := own_has_add (f := fun _ => 0) xa za sx sz
  have a3 := own_has_add (f := own_add (fun _ => 0) xa) ya xa sy sx
  have a4 := own_has_add (f := own_add (fun _ => 0) xa) ya ya sy sy
  have a8 := own_has_add (f := own_add (fun _ => 0) xa) ya za sy sz
  have a5 := own_has_add (f := own_add (own_add (fun _ => 0) xa) ya) xa xa sx sx
  have a6 := own_has_add (f := own_add (own_add (fun _ => 0) xa) ya) xa ya sx sy
  have a7 := own_has_add (f := own_add (own_add (fun _ => 0) xa) ya) xa za sx sz
  clear hmpg hmxa hmya hmza
  simp only [own_r, own_asz, own_c, hvj22_s0, hvj19_s0, hvj16_s0, hvj13_s0, a1, a2, a3, a4, a5, a6, a7, a8, a9, z1, z2, z3, true_and, ne_eq, not_true_eq_false, and_false, if_true, if_false]
  all_goals
    clear a1 a2 a3 a4 a5 a6 a7 a8 a9 z1 z2 z3
    by_cases q1 : xa = ya
    · subst q1
      by_cases q2 : xa = za
      · subst q2; simp
      · simp [q2, Ne.symm q2]
    · by_cases q2 : xa = za
      · subst q2; simp [q1, Ne.symm q1]
      · by_cases q3 : ya = za
        · subst q3; simp [q1, Ne.symm q1]
        · simp [q1, q2, q3, Ne.symm q1, Ne.symm q2, Ne.symm q3]
set_option maxRecDepth 65536 in
set_option maxHeartbeats 40000000 in
theorem own_fin4 (x0 : Int64) (x1 : Int64) (x2 : Int64) (x3 : Int64) (pg : Int64) (hmpg : ((1 : Int64) + (x0 &&& (4095 : Int64))) = pg) (xa : Int64) (hmxa : ((x1 &&& (9223372036854775807 : Int64)) % pg) = xa) (ya : Int64) (hmya : ((x2 &&& (9223372036854775807 : Int64)) % pg) = ya) (za : Int64) (hmza : ((x3 &&& (9223372036854775807 : Int64)) % pg) = za) (hpg : 1 ≤ pg.toInt ∧ pg.toInt ≤ 4096) (rxa : 0 ≤ xa.toInt ∧ xa.toInt < pg.toInt) (rya : 0 ≤ ya.toInt ∧ ya.toInt < pg.toInt) (rza : 0 ≤ za.toInt ∧ za.toInt < pg.toInt) (j13_s0 : Int32) (hvj13_s0 : j13_s0 = (if xa = ya then (1 : Int32) else (0 : Int32))) (j16_s0 : Int64) (hvj16_s0 : j16_s0 = (if j13_s0 = (0 : Int32) then (2 : Int64) else (1 : Int64))) (j19_s0 : Int32) (hvj19_s0 : j19_s0 = (if za = xa then (1 : Int32) else (if za = ya then (1 : Int32) else (0 : Int32)))) (j22_s0 : Int32) (hvj22_s0 : j22_s0 = (if j13_s0 = (0 : Int32) then (1 : Int32) else (0 : Int32))) : (own_asz (own_add (fun _ => 0) xa) ya (own_asz (fun _ => 0) xa (0 : Int64))) = j16_s0 := by
  have sx := own_sm hpg rxa
  have sy := own_sm hpg rya
  have sz := own_sm hpg rza
  have z1 := own_b0 xa
  have z2 := own_b0 ya
  have z3 := own_b0 za
  have a1 := own_has_add (f := fun _ => 0) xa ya sx sy
  have a2 := own_has_add (f := fun _ => 0) xa xa sx sx
  have a9 := own_has_add (f := fun _ => 0) xa za sx sz
  have a3 := own_has_add (f := own_add (fun _ => 0) xa) ya xa sy sx
  have a4 := own_has_add (f := own_add (fun _ => 0) xa) ya ya sy sy
  have a8 := own_has_add (f := own_add (fun _ => 0) xa) ya za sy sz
  have a5 := own_has_add (f := own_add (own_add (fun _ => 0) xa) ya) xa xa sx sx
  have a6 := own_has_add (f := own_add (own_add (fun _ => 0) xa) ya) xa ya sx sy
  have a7 := own_has_add (f := own_add (own_add (fun _ => 0) xa) ya) xa za sx sz
  clear hmpg hmxa hmya hmza
  simp only [own_r, own_asz, own_c, hvj22_s0, hvj19_s0, hvj16_s0, hvj13_s0, a1, a2, a3, a4, a5, a6, a7, a8, a9, z1, z2, z3, true_and, ne_eq, not_true_eq_false, and_false, if_true, if_false]
  all_goals
    clear a1 a2 a3 a4 a5 a6 a7 a8 a9 z1 z2 z3
    by_cases q1 : xa = ya
    · subst q1
      by_cases q2 : xa = za
      · subst q2; simp
      · simp [q2, Ne.symm q2]
    · by_cases q2 : xa = za
      · subst q2; simp [q1, Ne.symm q1]
      · by_cases q3 : ya = za
        · subst q3; simp [q1, Ne.symm q1]
        · simp [q1, q2, q3, Ne.symm q1, Ne.symm q2, Ne.symm q3]
set_option maxRecDepth 65536 in
set_option maxHeartbeats 40000000 in
theorem own_fin5 (x0 : Int64) (x1 : Int64) (x2 : Int64) (x3 : Int64) (pg : Int64) (hmpg : ((1 : Int64) + (x0 &&& (4095 : Int64))) = pg) (xa : Int64) (hmxa : ((x1 &&& (9223372036854775807 : Int64)) % pg) = xa) (ya : Int64) (hmya : ((x2 &&& (9223372036854775807 : Int64)) % pg) = ya) (za : Int64) (hmza : ((x3 &&& (9223372036854775807 : Int64)) % pg) = za) (hpg : 1 ≤ pg.toInt ∧ pg.toInt ≤ 4096) (rxa : 0 ≤ xa.toInt ∧ xa.toInt < pg.toInt) (rya : 0 ≤ ya.toInt ∧ ya.toInt < pg.toInt) (rza : 0 ≤ za.toInt ∧ za.toInt < pg.toInt) (j13_s0 : Int32) (hvj13_s0 : j13_s0 = (if xa = ya then (1 : Int32) else (0 : Int32))) (j16_s0 : Int64) (hvj16_s0 : j16_s0 = (if j13_s0 = (0 : Int32) then (2 : Int64) else (1 : Int64))) (j19_s0 : Int32) (hvj19_s0 : j19_s0 = (if za = xa then (1 : Int32) else (if za = ya then (1 : Int32) else (0 : Int32)))) (j22_s0 : Int32) (hvj22_s0 : j22_s0 = (if j13_s0 = (0 : Int32) then (1 : Int32) else (0 : Int32))) : (own_r (own_add (own_add (fun _ => 0) xa) ya) xa) = (0 : Int32) := by
  have sx := own_sm hpg rxa
  have sy := own_sm hpg rya
  have sz := own_sm hpg rza
  have z1 := own_b0 xa
  have z2 := own_b0 ya
  have z3 := own_b0 za
  have a1 := own_has_add (f := fun _ => 0) xa ya sx sy
  have a2 := own_has_add (f := fun _ => 0) xa xa sx sx
  have a9 := own_has_add (f := fun _ => 0) xa za sx sz
  have a3 := own_has_add (f := own_add (fun _ => 0) xa) ya xa sy sx
  have a4 := own_has_add (f := own_add (fun _ => 0) xa) ya ya sy sy
  have a8 := own_has_add (f := own_add (fun _ => 0) xa) ya za sy sz
  have a5 := own_has_add (f := own_add (own_add (fun _ => 0) xa) ya) xa xa sx sx
  have a6 := own_has_add (f := own_add (own_add (fun _ => 0) xa) ya) xa ya sx sy
  have a7 := own_has_add (f := own_add (own_add (fun _ => 0) xa) ya) xa za sx sz
  clear hmpg hmxa hmya hmza
  simp only [own_r, own_asz, own_c, hvj22_s0, hvj19_s0, hvj16_s0, hvj13_s0, a1, a2, a3, a4, a5, a6, a7, a8, a9, z1, z2, z3, true_and, ne_eq, not_true_eq_false, and_false, if_true, if_false]
  all_goals
    clear a1 a2 a3 a4 a5 a6 a7 a8 a9 z1 z2 z3
    by_cases q1 : xa = ya
    · subst q1
      by_cases q2 : xa = za
      · subst q2; simp
      · simp [q2, Ne.symm q2]
    · by_cases q2 : xa = za
      · subst q2; simp [q1, Ne.symm q1]
      · by_cases q3 : ya = za
        · subst q3; simp [q1, Ne.symm q1]
        · simp [q1, q2, q3, Ne.symm q1, Ne.symm q2, Ne.symm q3]
set_option maxRecDepth 65536 in
set_option maxHeartbeats 40000000 in
theorem own_fin6 (x0 : Int64) (x1 : Int64) (x2 : Int64) (x3 : Int64) (pg : Int64) (hmpg : ((1 : Int64) + (x0 &&& (4095 : Int64))) = pg) (xa : Int64) (hmxa : ((x1 &&& (9223372036854775807 : Int64)) % pg) = xa) (ya : Int64) (hmya : ((x2 &&& (9223372036854775807 : Int64)) % pg) = ya) (za : Int64) (hmza : ((x3 &&& (9223372036854775807 : Int64)) % pg) = za) (hpg : 1 ≤ pg.toInt ∧ pg.toInt ≤ 4096) (rxa : 0 ≤ xa.toInt ∧ xa.toInt < pg.toInt) (rya : 0 ≤ ya.toInt ∧ ya.toInt < pg.toInt) (rza : 0 ≤ za.toInt ∧ za.toInt < pg.toInt) (j13_s0 : Int32) (hvj13_s0 : j13_s0 = (if xa = ya then (1 : Int32) else (0 : Int32))) (j16_s0 : Int64) (hvj16_s0 : j16_s0 = (if j13_s0 = (0 : Int32) then (2 : Int64) else (1 : Int64))) (j19_s0 : Int32) (hvj19_s0 : j19_s0 = (if za = xa then (1 : Int32) else (if za = ya then (1 : Int32) else (0 : Int32)))) (j22_s0 : Int32) (hvj22_s0 : j22_s0 = (if j13_s0 = (0 : Int32) then (1 : Int32) else (0 : Int32))) : (own_asz (own_add (own_add (fun _ => 0) xa) ya) xa (own_asz (own_add (fun _ => 0) xa) ya (own_asz (fun _ => 0) xa (0 : Int64)))) = j16_s0 := by
  have sx := own_sm hpg rxa
  have sy := own_sm hpg rya
  have sz := own_sm hpg rza
  have z1 := own_b0 xa
  have z2 := own_b0 ya
  have z3 := own_b0 za
  have a1 := own_has_add (f := fun _ => 0) xa ya sx sy
  have a2 := own_has_add (f := fun _ => 0) xa xa sx sx
  have a9 := own_has_add (f := fun _ => 0) xa za sx sz
  have a3 := own_has_add (f := own_add (fun _ => 0) xa) ya xa sy sx
  have a4 := own_has_add (f := own_add (fun _ => 0) xa) ya ya sy sy
  have a8 := own_has_add (f := own_add (fun _ => 0) xa) ya za sy sz
  have a5 := own_has_add (f := own_add (own_add (fun _ => 0) xa) ya) xa xa sx sx
  have a6 := own_has_add (f := own_add (own_add (fun _ => 0) xa) ya) xa ya sx sy
  have a7 := own_has_add (f := own_add (own_add (fun _ => 0) xa) ya) xa za sx sz
  clear hmpg hmxa hmya hmza
  simp only [own_r, own_asz, own_c, hvj22_s0, hvj19_s0, hvj16_s0, hvj13_s0, a1, a2, a3, a4, a5, a6, a7, a8, a9, z1, z2, z3, true_and, ne_eq, not_true_eq_false, and_false, if_true, if_false]
  all_goals
    clear a1 a2 a3 a4 a5 a6 a7 a8 a9 z1 z2 z3
    by_cases q1 : xa = ya
    · subst q1
      by_cases q2 : xa = za
      · subst q2; simp
      · simp [q2, Ne.symm q2]
    · by_cases q2 : xa = za
      · subst q2; simp [q1, Ne.symm q1]
      · by_cases q3 : ya = za
        · subst q3; simp [q1, Ne.symm q1]
        · simp [q1, q2, q3, Ne.symm q1, Ne.symm q2, Ne.symm q3]
set_option maxRecDepth 65536 in
set_option maxHeartbeats 40000000 in
theorem own_fin7 (x0 : Int64) (x1 : Int64) (x2 : Int64) (x3 : Int64) (pg : Int64) (hmpg : ((1 : Int64) + (x0 &&& (4095 : Int64))) = pg) (xa : Int64) (hmxa : ((x1 &&& (9223372036854775807 : Int64)) % pg) = xa) (ya : Int64) (hmya : ((x2 &&& (9223372036854775807 : Int64)) % pg) = ya) (za : Int64) (hmza : ((x3 &&& (9223372036854775807 : Int64)) % pg) = za) (hpg : 1 ≤ pg.toInt ∧ pg.toInt ≤ 4096) (rxa : 0 ≤ xa.toInt ∧ xa.toInt < pg.toInt) (rya : 0 ≤ ya.toInt ∧ ya.toInt < pg.toInt) (rza : 0 ≤ za.toInt ∧ za.toInt < pg.toInt) (j13_s0 : Int32) (hvj13_s0 : j13_s0 = (if xa = ya then (1 : Int32) else (0 : Int32))) (j16_s0 : Int64) (hvj16_s0 : j16_s0 = (if j13_s0 = (0 : Int32) then (2 : Int64) else (1 : Int64))) (j19_s0 : Int32) (hvj19_s0 : j19_s0 = (if za = xa then (1 : Int32) else (if za = ya then (1 : Int32) else (0 : Int32)))) (j22_s0 : Int32) (hvj22_s0 : j22_s0 = (if j13_s0 = (0 : Int32) then (1 : Int32) else (0 : Int32))) : ¬ ((own_c (own_add (own_add (own_add (fun _ => 0) xa) ya) xa) xa) = (0 : Int32)) := by
  have sx := own_sm hpg rxa
  have sy := own_sm hpg rya
  have sz := own_sm hpg rza
  have z1 := own_b0 xa
  have z2 := own_b0 ya
  have z3 := own_b0 za
  have a1 := own_has_add (f := fun _ => 0) xa ya sx sy
  have a2 := own_has_add (f := fun _ => 0) xa xa sx sx
  have a9 := own_has_add (f := fun _ => 0) xa za sx sz
  have a3 := own_has_add (f := own_add (fun _ => 0) xa) ya xa sy sx
  have a4 := own_has_add (f := own_add (fun _ => 0) xa) ya ya sy sy
  have a8 := own_has_add (f := own_add (fun _ => 0) xa) ya za sy sz
  have a5 := own_has_add (f := own_add (own_add (fun _ => 0) xa) ya) xa xa sx sx
  have a6 := own_has_add (f := own_add (own_add (fun _ => 0) xa) ya) xa ya sx sy
  have a7 := own_has_add (f := own_add (own_add (fun _ => 0) xa) ya) xa za sx sz
  clear hmpg hmxa hmya hmza
  simp only [own_r, own_asz, own_c, hvj22_s0, hvj19_s0, hvj16_s0, hvj13_s0, a1, a2, a3, a4, a5, a6, a7, a8, a9, z1, z2, z3, true_and, ne_eq, not_true_eq_false, and_false, if_true, if_false]
  all_goals
    clear a1 a2 a3 a4 a5 a6 a7 a8 a9 z1 z2 z3
    by_cases q1 : xa = ya
    · subst q1
      by_cases q2 : xa = za
      · subst q2; simp
      · simp [q2, Ne.symm q2]
    · by_cases q2 : xa = za
      · subst q2; simp [q1, Ne.symm q1]
      · by_cases q3 : ya = za
        · subst q3; simp [q1, Ne.symm q1]
        · simp [q1, q2, q3, Ne.symm q1, Ne.symm q2, Ne.symm q3]
set_option maxRecDepth 65536 in
set_option maxHeartbeats 40000000 in
theorem own_fin8 (x0 : Int64) (x1 : Int64) (x2 : Int64) (x3 : Int64) (pg : Int64) (hmpg : ((1 : Int64) + (x0 &&& (4095 : Int64))) = pg) (xa : Int64) (hmxa : ((x1 &&& (9223372036854775807 : Int64)) % pg) = xa) (ya : Int64) (hmya : ((x2 &&& (9223372036854775807 : Int64)) % pg) = ya) (za : Int64) (hmza : ((x3 &&& (9223372036854775807 : Int64)) % pg) = za) (hpg : 1 ≤ pg.toInt ∧ pg.toInt ≤ 4096) (rxa : 0 ≤ xa.toInt ∧ xa.toInt < pg.toInt) (rya : 0 ≤ ya.toInt ∧ ya.toInt < pg.toInt) (rza : 0 ≤ za.toInt ∧ za.toInt < pg.toInt) (j13_s0 : Int32) (hvj13_s0 : j13_s0 = (if xa = ya then (1 : Int32) else (0 : Int32))) (j16_s0 : Int64) (hvj16_s0 : j16_s0 = (if j13_s0 = (0 : Int32) then (2 : Int64) else (1 : Int64))) (j19_s0 : Int32) (hvj19_s0 : j19_s0 = (if za = xa then (1 : Int32) else (if za = ya then (1 : Int32) else (0 : Int32)))) (j22_s0 : Int32) (hvj22_s0 : j22_s0 = (if j13_s0 = (0 : Int32) then (1 : Int32) else (0 : Int32))) : ¬ ((own_c (own_add (own_add (own_add (fun _ => 0) xa) ya) xa) ya) = (0 : Int32)) := by
  have sx := own_sm hpg rxa
  have sy := own_sm hpg rya
  have sz := own_sm hpg rza
  have z1 := own_b0 xa
  have z2 := own_b0 ya
  have z3 := own_b0 za
  have a1 := own_has_add (f := fun _ => 0) xa ya sx sy
  have a2 := own_has_add (f := fun _ => 0) xa xa sx sx
  have a9 := own_has_add (f := fun _ => 0) xa za sx sz
  have a3 := own_has_add (f := own_add (fun _ => 0) xa) ya xa sy sx
  have a4 := own_has_add (f := own_add (fun _ => 0) xa) ya ya sy sy
  have a8 := own_has_add (f := own_add (fun _ => 0) xa) ya za sy sz
  have a5 := own_has_add (f := own_add (own_add (fun _ => 0) xa) ya) xa xa sx sx
  have a6 := own_has_add (f := own_add (own_add (fun _ => 0) xa) ya) xa ya sx sy
  have a7 := own_has_add (f := own_add (own_add (fun _ => 0) xa) ya) xa za sx sz
  clear hmpg hmxa hmya hmza
  simp only [own_r, own_asz, own_c, hvj22_s0, hvj19_s0, hvj16_s0, hvj13_s0, a1, a2, a3, a4, a5, a6, a7, a8, a9, z1, z2, z3, true_and, ne_eq, not_true_eq_false, and_false, if_true, if_false]
  all_goals
    clear a1 a2 a3 a4 a5 a6 a7 a8 a9 z1 z2 z3
    by_cases q1 : xa = ya
    · subst q1
      by_cases q2 : xa = za
      · subst q2; simp
      · simp [q2, Ne.symm q2]
    · by_cases q2 : xa = za
      · subst q2; simp [q1, Ne.symm q1]
      · by_cases q3 : ya = za
        · subst q3; simp [q1, Ne.symm q1]
        · simp [q1, q2, q3, Ne.symm q1, Ne.symm q2, Ne.symm q3]
set_option maxRecDepth 65536 in
set_option maxHeartbeats 40000000 in
theorem own_fin9 (x0 : Int64) (x1 : Int64) (x2 : Int64) (x3 : Int64) (pg : Int64) (hmpg : ((1 : Int64) + (x0 &&& (4095 : Int64))) = pg) (xa : Int64) (hmxa : ((x1 &&& (9223372036854775807 : Int64)) % pg) = xa) (ya : Int64) (hmya : ((x2 &&& (9223372036854775807 : Int64)) % pg) = ya) (za : Int64) (hmza : ((x3 &&& (9223372036854775807 : Int64)) % pg) = za) (hpg : 1 ≤ pg.toInt ∧ pg.toInt ≤ 4096) (rxa : 0 ≤ xa.toInt ∧ xa.toInt < pg.toInt) (rya : 0 ≤ ya.toInt ∧ ya.toInt < pg.toInt) (rza : 0 ≤ za.toInt ∧ za.toInt < pg.toInt) (j13_s0 : Int32) (hvj13_s0 : j13_s0 = (if xa = ya then (1 : Int32) else (0 : Int32))) (j16_s0 : Int64) (hvj16_s0 : j16_s0 = (if j13_s0 = (0 : Int32) then (2 : Int64) else (1 : Int64))) (j19_s0 : Int32) (hvj19_s0 : j19_s0 = (if za = xa then (1 : Int32) else (if za = ya then (1 : Int32) else (0 : Int32)))) (j22_s0 : Int32) (hvj22_s0 : j22_s0 = (if j13_s0 = (0 : Int32) then (1 : Int32) else (0 : Int32))) : (own_c (own_add (own_add (own_add (fun _ => 0) xa) ya) xa) za) = j19_s0 := by
  have sx := own_sm hpg rxa
  have sy := own_sm hpg rya
  have sz := own_sm hpg rza
  have z1 := own_b0 xa
  have z2 := own_b0 ya
  have z3 := own_b0 za
  have a1 := own_has_add (f := fun _ => 0) xa ya sx sy
  have a2 := own_has_add (f := fun _ => 0) xa xa sx sx
  have a9 := own_has_add (f := fun _ => 0) xa za sx sz
  have a3 := own_has_add (f := own_add (fun _ => 0) xa) ya xa sy sx
  have a4 := own_has_add (f := own_add (fun _ => 0) xa) ya ya sy sy
  have a8 := own_has_add (f := own_add (fun _ => 0) xa) ya za sy sz
  have a5 := own_has_add (f := own_add (own_add (fun _ => 0) xa) ya) xa xa sx sx
  have a6 := own_has_add (f := own_add (own_add (fun _ => 0) xa) ya) xa ya sx sy
  have a7 := own_has_add (f := own_add (own_add (fun _ => 0) xa) ya) xa za sx sz
  clear hmpg hmxa hmya hmza
  simp only [own_r, own_asz, own_c, hvj22_s0, hvj19_s0, hvj16_s0, hvj13_s0, a1, a2, a3, a4, a5, a6, a7, a8, a9, z1, z2, z3, true_and, ne_eq, not_true_eq_false, and_false, if_true, if_false]
  all_goals
    clear a1 a2 a3 a4 a5 a6 a7 a8 a9 z1 z2 z3
    by_cases q1 : xa = ya
    · subst q1
      by_cases q2 : xa = za
      · subst q2; simp
      · simp [q2, Ne.symm q2]
    · by_cases q2 : xa = za
      · subst q2; simp [q1, Ne.symm q1]
      · by_cases q3 : ya = za
        · subst q3; simp [q1, Ne.symm q1]
        · simp [q1, q2, q3, Ne.symm q1, Ne.symm q2, Ne.symm q3]
theorem pn_com_example_leafchain_leafchain_PageSetAddPinLaw : plainName "com/example/leafchain/leafchain/PageSetAddPinLaw" = true := by first | (simp [plainName, overriddenIn]; done) | decide +kernel
set_option maxHeartbeats 4000000 in
theorem ef_0 (m : MethodId) (x0 : Int64) (x1 : Int64) (x2 : Int64) (x3 : Int64) : entryFrame m #[(.long x0), (.long x1), (.long x2), (.long x3)] maxLocals = mkF m 0 #[.val (.long x0), .second, .val (.long x1), .second, .val (.long x2), .second, .val (.long x3), .second, .unset, .unset, .unset, .unset, .unset, .unset, .unset, .unset, .unset, .unset, .unset, .unset, .unset, .unset, .unset, .unset, .unset, .unset, .unset, .unset, .unset, .unset, .unset, .unset, .unset] [] := by first | (simp [entryFrame, mkF, argsToLocals, Value.category, maxLocals]; done) | rfl
def Q0 (Z : State) (x0 : Int64) (x1 : Int64) (x2 : Int64) (x3 : Int64) (h0 : Heap) (n0 : Nat) (v : Option Value) (h : Heap) (L : List Loc) : Prop := v = some (.int 1) ∧ Fr n0 L
set_option maxRecDepth 65536 in
set_option maxHeartbeats 40000000 in
theorem rm0 (l : Launch) (Z : State) (a0 : Array Value) (hw : ∀ d ∈ tables_1, d.before a0 Z = true) (ws : List Jvm.Cond) (x0 : Int64) (x1 : Int64) (x2 : Int64) (x3 : Int64) (h0 : Heap) (n0 : Nat) (Z0 : n0 ≤ h0.size) :
    MetFree l x (head1 (Jvm.Cond.code x code maxLocals ret :: ws) room_1) (fun a U => a = #[(.long x0), (.long x1), (.long x2), (.long x3)] ∧ Z.Warmed39 U.vm ∧ U.heap = h0) (fun _ _ _ _ _ => True) (fun _ U o U' => ∃ v L, o = .returned v ∧ Q0 Z x0 x1 x2 x3 h0 n0 v U'.heap L ∧ FrameEnd U o U' L 16 256) := by
  refine MetFree.of_bodySF (plainFor_of_name pn_com_example_leafchain_leafchain_PageSetAddPinLaw) hisR ?_
  intro p e s m args below meth c s₁ Bd hml0 hP hK
  obtain ⟨rfl, hZ, hh⟩ := hP
  have hx := Bd.exec
  have hby := Bd.bytes
  have hml : c.maxLocals = 33 := hml0
  have hown : s.vm.findClass "com/example/leafchain/leafchain/PageSetAddPinLaw" = some m.cls := findClass_of_methodNamed Bd.named
  have hnm := (name_of_methodNamed Bd.named Bd.method).1
  have hlk : meth.locks = false := BodyLoose.notSynchronized Bd
  have X0 : Stand p l e room_1 s m #[(.long x0), (.long x1), (.long x2), (.long x3)] below meth c s₁ [] 0 0 := Stand.of_body Bd
  have e0 : s₁.heap = h0 := by rw [← hh, Bd.state]; rfl
  have N0 := Fr.nil n0
  show own_E p e below s (Q0 Z x0 x1 x2 x3 h0 n0) 16 256 (s₁.setTop (entryFrame m #[(.long x0), (.long x1), (.long x2), (.long x3)] maxLocals))
  refine own_pre (B := s₁.setTop (mkF m 0 #[.val (.long x0), .second, .val (.long x1), .second, .val (.long x2), .second, .val (.long x3), .second, .unset, .unset, .unset, .unset, .unset, .unset, .unset, .unset, .unset, .unset, .unset, .unset, .unset, .unset, .unset, .unset, .unset, .unset, .unset, .unset, .unset, .unset, .unset, .unset, .unset] [])) ?_ (fun t k => castTop (ef_0 m x0 x1 x2 x3) k)
  refine own_pre (B := s₁.setTop (mkF m 1 #[.val (.long x0), .second, .val (.long x1), .second, .val (.long x2), .second, .val (.long x3), .second, .unset, .unset, .unset, .unset, .unset, .unset, .unset, .unset, .unset, .unset, .unset, .unset, .unset, .unset, .unset, .unset, .unset, .unset, .unset, .unset, .unset, .unset, .unset, .unset, .unset] [(.long (1 : Int64))])) ?_ fun t k => XS.lconst X0.here hx rfl (hb hby at_0) k
  refine own_pre (B := s₁.setTop (mkF m 2 #[.val (.long x0), .second, .val (.long x1), .second, .val (.long x2), .second, .val (.long x3), .second, .unset, .unset, .unset, .unset, .unset, .unset, .unset, .unset, .unset, .unset, .unset, .unset, .unset, .unset, .unset, .unset, .unset, .unset, .unset, .unset, .unset, .unset, .unset, .unset, .unset] [(.long x0), (.long (1 : Int64))])) ?_ fun t k => XS.lloadN X0.here hx rfl (hb hby at_1) rfl  k
  refine own_pre (B := s₁.setTop (mkF m 5 #[.val (.long x0), .second, .val (.long x1), .second, .val (.long x2), .second, .val (.long x3), .second, .unset, .unset, .unset, .unset, .unset, .unset, .unset, .unset, .unset, .unset, .unset, .unset, .unset, .unset, .unset, .unset, .unset, .unset, .unset, .unset, .unset, .unset, .unset, .unset, .unset] [(.long (4095 : Int64)), (.long x0), (.long (1 : Int64))])) ?_ (X0.ldc2Long hx hown (mvT hZ (hw _ (List.mem_of_getElem? (i := 0) rfl))) (g := (mkF m 2 #[.val (.long x0), .second, .val (.long x1), .second, .val (.long x2), .second, .val (.long x3), .second, .unset, .unset, .unset, .unset, .unset, .unset, .unset, .unset, .unset, .unset, .unset, .unset, .unset, .unset, .unset, .unset, .unset, .unset, .unset, .unset, .unset, .unset, .unset, .unset, .unset] [(.long x0), (.long (1 : Int64))])) rfl (hb hby at_2))
  refine own_pre (B := s₁.setTop (mkF m 6 #[.val (.long x0), .second, .val (.long x1), .second, .val (.long x2), .second, .val (.long x3), .second, .unset, .unset, .unset, .unset, .unset, .unset, .unset, .unset, .unset, .unset, .unset, .unset, .unset, .unset, .unset, .unset, .unset, .unset, .unset, .unset, .unset, .unset, .unset, .unset, .unset] [(.long (x0 &&& (4095 : Int64))), (.long (1 : Int64))])) ?_ fun t k => XS.land X0.here hx rfl (hb hby at_5) rfl k
  refine own_pre (B := s₁.setTop (mkF m 7 #[.val (.long x0), .second, .val (.long x1), .second, .val (.long x2), .second, .val (.long x3), .second, .unset, .unset, .unset, .unset, .unset, .unset, .unset, .unset, .unset, .unset, .unset, .unset, .unset, .unset, .unset, .unset, .unset, .unset, .unset, .unset, .unset, .unset, .unset, .unset, .unset] [(.long ((1 : Int64) + (x0 &&& (4095 : Int64))))])) ?_ fun t k => XS.ladd X0.here hx rfl (hb hby at_6) rfl k
  refine own_pre (B := s₁.setTop (mkF m 9 #[.val (.long x0), .second, .val (.long x1), .second, .val (.long x2), .second, .val (.long x3), .second, .val (.long ((1 : Int64) + (x0 &&& (4095 : Int64)))), .second, .unset, .unset, .unset, .unset, .unset, .unset, .unset, .unset, .unset, .unset, .unset, .unset, .unset, .unset, .unset, .unset, .unset, .unset, .unset, .unset, .unset, .unset, .unset] [])) ?_ fun t k => XS.lstore X0.here hx rfl (hb hby at_7) rfl  (l' := #[.val (.long x0), .second, .val (.long x1), .second, .val (.long x2), .second, .val (.long x3), .second, .val (.long ((1 : Int64) + (x0 &&& (4095 : Int64)))), .second, .unset, .unset, .unset, .unset, .unset, .unset, .unset, .unset, .unset, .unset, .unset, .unset, .unset, .unset, .unset, .unset, .unset, .unset, .unset, .unset, .unset, .unset, .unset]) rfl k
  refine own_pre (B := s₁.setTop (mkF m 10 #[.val (.long x0), .second, .val (.long x1), .second, .val (.long x2), .second, .val (.long x3), .second, .val (.long ((1 : Int64) + (x0 &&& (4095 : Int64)))), .second, .unset, .unset, .unset, .unset, .unset, .unset, .unset, .unset, .unset, .unset, .unset, .unset, .unset, .unset, .unset, .unset, .unset, .unset, .unset, .unset, .unset, .unset, .unset] [(.long x1)])) ?_ fun t k => XS.lloadN X0.here hx rfl (hb hby at_9) rfl  k
  refine own_pre (B := s₁.setTop (mkF m 13 #[.val (.long x0), .second, .val (.long x1), .second, .val (.long x2), .second, .val (.long x3), .second, .val (.long ((1 : Int64) + (x0 &&& (4095 : Int64)))), .second, .unset, .unset, .unset, .unset, .unset, .unset, .unset, .unset, .unset, .unset, .unset, .unset, .unset, .unset, .unset, .unset, .unset, .unset, .unset, .unset, .unset, .unset, .unset] [(.long (9223372036854775807 : Int64)), (.long x1)])) ?_ (X0.ldc2Long hx hown (mvT hZ (hw _ (List.mem_of_getElem? (i := 1) rfl))) (g := (mkF m 10 #[.val (.long x0), .second, .val (.long x1), .second, .val (.long x2), .second, .val (.long x3), .second, .val (.long ((1 : Int64) + (x0 &&& (4095 : Int64)))), .second, .unset, .unset, .unset, .unset, .unset, .unset, .unset, .unset, .unset, .unset, .unset, .unset, .unset, .unset, .unset, .unset, .unset, .unset, .unset, .unset, .unset, .unset, .unset] [(.long x1)])) rfl (hb hby at_10))
  refine own_pre (B := s₁.setTop (mkF m 14 #[.val (.long x0), .second, .val (.long x1), .second, .val (.long x2), .second, .val (.long x3), .second, .val (.long ((1 : Int64) + (x0 &&& (4095 : Int64)))), .second, .unset, .unset, .unset, .unset, .unset, .unset, .unset, .unset, .unset, .unset, .unset, .unset, .unset, .unset, .unset, .unset, .unset, .unset, .unset, .unset, .unset, .unset, .unset] [(.long (x1 &&& (9223372036854775807 : Int64)))])) ?_ fun t k => XS.land X0.here hx rfl (hb hby at_13) rfl k
  refine own_pre (B := s₁.setTop (mkF m 16 #[.val (.long x0), .second, .val (.long x1), .second, .val (.long x2), .second, .val (.long x3), .second, .val (.long ((1 : Int64) + (x0 &&& (4095 : Int64)))), .second, .unset, .unset, .unset, .unset, .unset, .unset, .unset, .unset, .unset, .unset, .unset, .unset, .unset, .unset, .unset, .unset, .unset, .unset, .unset, .unset, .unset, .unset, .unset] [(.long ((1 : Int64) + (x0 &&& (4095 : Int64)))), (.long (x1 &&& (9223372036854775807 : Int64)))])) ?_ fun t k => XS.lload X0.here hx rfl (hb hby at_14) rfl  k
  refine own_pre (B := s₁.setTop (mkF m 17 #[.val (.long x0), .second, .val (.long x1), .second, .val (.long x2), .second, .val (.long x3), .second, .val (.long ((1 : Int64) + (x0 &&& (4095 : Int64)))), .second, .unset, .unset, .unset, .unset, .unset, .unset, .unset, .unset, .unset, .unset, .unset, .unset, .unset, .unset, .unset, .unset, .unset, .unset, .unset, .unset, .unset, .unset, .unset] [(.long ((x1 &&& (9223372036854775807 : Int64)) % ((1 : Int64) + (x0 &&& (4095 : Int64)))))])) ?_ fun t k => own_lrem X0 hx rfl (hb hby at_16) rfl (own_pgnz (own_pg rfl)) k
  refine own_pre (B := s₁.setTop (mkF m 19 #[.val (.long x0), .second, .val (.long x1), .second, .val (.long x2), .second, .val (.long x3), .second, .val (.long ((1 : Int64) + (x0 &&& (4095 : Int64)))), .second, .val (.long ((x1 &&& (9223372036854775807 : Int64)) % ((1 : Int64) + (x0 &&& (4095 : Int64))))), .second, .unset, .unset, .unset, .unset, .unset, .unset, .unset, .unset, .unset, .unset, .unset, .unset, .unset, .unset, .unset, .unset, .unset, .unset, .unset, .unset, .unset] [])) ?_ fun t k => XS.lstore X0.here hx rfl (hb hby at_17) rfl  (l' := #[.val (.long x0), .second, .val (.long x1), .second, .val (.long x2), .second, .val (.long x3), .second, .val (.long ((1 : Int64) + (x0 &&& (4095 : Int64)))), .second, .val (.long ((x1 &&& (9223372036854775807 : Int64)) % ((1 : Int64) + (x0 &&& (4095 : Int64))))), .second, .unset, .unset, .unset, .unset, .unset, .unset, .unset, .unset, .unset, .unset, .unset, .unset, .unset, .unset, .unset, .unset, .unset, .unset, .unset, .unset, .unset]) rfl k
  refine own_pre (B := s₁.setTop (mkF m 21 #[.val (.long x0), .second, .val (.long x1), .second, .val (.long x2), .second, .val (.long x3), .second, .val (.long ((1 : Int64) + (x0 &&& (4095 : Int64)))), .second, .val (.long ((x1 &&& (9223372036854775807 : Int64)) % ((1 : Int64) + (x0 &&& (4095 : Int64))))), .second, .unset, .unset, .unset, .unset, .unset, .unset, .unset, .unset, .unset, .unset, .unset, .unset, .unset, .unset, .unset, .unset, .unset, .unset, .unset, .unset, .unset] [(.long x2)])) ?_ fun t k => XS.lload X0.here hx rfl (hb hby at_19) rfl  k
  refine own_pre (B := s₁.setTop (mkF m 24 #[.val (.long x0), .second, .val (.long x1), .second, .val (.long x2), .second, .val (.long x3), .second, .val (.long ((1 : Int64) + (x0 &&& (4095 : Int64)))), .second, .val (.long ((x1 &&& (9223372036854775807 : Int64)) % ((1 : Int64) + (x0 &&& (4095 : Int64))))), .second, .unset, .unset, .unset, .unset, .unset, .unset, .unset, .unset, .unset, .unset, .unset, .unset, .unset, .unset, .unset, .unset, .unset, .unset, .unset, .unset, .unset] [(.long (9223372036854775807 : Int64)), (.long x2)])) ?_ (X0.ldc2Long hx hown (mvT hZ (hw _ (List.mem_of_getElem? (i := 1) rfl))) (g := (mkF m 21 #[.val (.long x0), .second, .val (.long x1), .second, .val (.long x2), .second, .val (.long x3), .second, .val (.long ((1 : Int64) + (x0 &&& (4095 : Int64)))), .second, .val (.long ((x1 &&& (9223372036854775807 : Int64)) % ((1 : Int64) + (x0 &&& (4095 : Int64))))), .second, .unset, .unset, .unset, .unset, .unset, .unset, .unset, .unset, .unset, .unset, .unset, .unset, .unset, .unset, .unset, .unset, .unset, .unset, .unset, .unset, .unset] [(.long x2)])) rfl (hb hby at_21))
  refine own_pre (B := s₁.setTop (mkF m 25 #[.val (.long x0), .second, .val (.long x1), .second, .val (.long x2), .second, .val (.long x3), .second, .val (.long ((1 : Int64) + (x0 &&& (4095 : Int64)))), .second, .val (.long ((x1 &&& (9223372036854775807 : Int64)) % ((1 : Int64) + (x0 &&& (4095 : Int64))))), .second, .unset, .unset, .unset, .unset, .unset, .unset, .unset, .unset, .unset, .unset, .unset, .unset, .unset, .unset, .unset, .unset, .unset, .unset, .unset, .unset, .unset] [(.long (x2 &&& (9223372036854775807 : Int64)))])) ?_ fun t k => XS.land X0.here hx rfl (hb hby at_24) rfl k
  refine own_pre (B := s₁.setTop (mkF m 27 #[.val (.long x0), .second, .val (.long x1), .second, .val (.long x2), .second, .val (.long x3), .second, .val (.long ((1 : Int64) + (x0 &&& (4095 : Int64)))), .second, .val (.long ((x1 &&& (9223372036854775807 : Int64)) % ((1 : Int64) + (x0 &&& (4095 : Int64))))), .second, .unset, .unset, .unset, .unset, .unset, .unset, .unset, .unset, .unset, .unset, .unset, .unset, .unset, .unset, .unset, .unset, .unset, .unset, .unset, .unset, .unset] [(.long ((1 : Int64) + (x0 &&& (4095 : Int64)))), (.long (x2 &&& (9223372036854775807 : Int64)))])) ?_ fun t k => XS.lload X0.here hx rfl (hb hby at_25) rfl  k
  refine own_pre (B := s₁.setTop (mkF m 28 #[.val (.long x0), .second, .val (.long x1), .second, .val (.long x2), .second, .val (.long x3), .second, .val (.long ((1 : Int64) + (x0 &&& (4095 : Int64)))), .second, .val (.long ((x1 &&& (9223372036854775807 : Int64)) % ((1 : Int64) + (x0 &&& (4095 : Int64))))), .second, .unset, .unset, .unset, .unset, .unset, .unset, .unset, .unset, .unset, .unset, .unset, .unset, .unset, .unset, .unset, .unset, .unset, .unset, .unset, .unset, .unset] [(.long ((x2 &&& (9223372036854775807 : Int64)) % ((1 : Int64) + (x0 &&& (4095 : Int64)))))])) ?_ fun t k => own_lrem X0 hx rfl (hb hby at_27) rfl (own_pgnz (own_pg rfl)) k
  refine own_pre (B := s₁.setTop (mkF m 30 #[.val (.long x0), .second, .val (.long x1), .second, .val (.long x2), .second, .val (.long x3), .second, .val (.long ((1 : Int64) + (x0 &&& (4095 : Int64)))), .second, .val (.long ((x1 &&& (9223372036854775807 : Int64)) % ((1 : Int64) + (x0 &&& (4095 : Int64))))), .second, .val (.long ((x2 &&& (9223372036854775807 : Int64)) % ((1 : Int64) + (x0 &&& (4095 : Int64))))), .second, .unset, .unset, .unset, .unset, .unset, .unset, .unset, .unset, .unset, .unset, .unset, .unset, .unset, .unset, .unset, .unset, .unset, .unset, .unset] [])) ?_ fun t k => XS.lstore X0.here hx rfl (hb hby at_28) rfl  (l' := #[.val (.long x0), .second, .val (.long x1), .second, .val (.long x2), .second, .val (.long x3), .second, .val (.long ((1 : Int64) + (x0 &&& (4095 : Int64)))), .second, .val (.long ((x1 &&& (9223372036854775807 : Int64)) % ((1 : Int64) + (x0 &&& (4095 : Int64))))), .second, .val (.long ((x2 &&& (9223372036854775807 : Int64)) % ((1 : Int64) + (x0 &&& (4095 : Int64))))), .second, .unset, .unset, .unset, .unset, .unset, .unset, .unset, .unset, .unset, .unset, .unset, .unset, .unset, .unset, .unset, .unset, .unset, .unset, .unset]) rfl k
  refine own_pre (B := s₁.setTop (mkF m 32 #[.val (.long x0), .second, .val (.long x1), .second, .val (.long x2), .second, .val (.long x3), .second, .val (.long ((1 : Int64) + (x0 &&& (4095 : Int64)))), .second, .val (.long ((x1 &&& (9223372036854775807 : Int64)) % ((1 : Int64) + (x0 &&& (4095 : Int64))))), .second, .val (.long ((x2 &&& (9223372036854775807 : Int64)) % ((1 : Int64) + (x0 &&& (4095 : Int64))))), .second, .unset, .unset, .unset, .unset, .unset, .unset, .unset, .unset, .unset, .unset, .unset, .unset, .unset, .unset, .unset, .unset, .unset, .unset, .unset] [(.long x3)])) ?_ fun t k => XS.lload X0.here hx rfl (hb hby at_30) rfl  k
  refine own_pre (B := s₁.setTop (mkF m 35 #[.val (.long x0), .second, .val (.long x1), .second, .val (.long x2), .second, .val (.long x3), .second, .val (.long ((1 : Int64) + (x0 &&& (4095 : Int64)))), .second, .val (.long ((x1 &&& (9223372036854775807 : Int64)) % ((1 : Int64) + (x0 &&& (4095 : Int64))))), .second, .val (.long ((x2 &&& (9223372036854775807 : Int64)) % ((1 : Int64) + (x0 &&& (4095 : Int64))))), .second, .unset, .unset, .unset, .unset, .unset, .unset, .unset, .unset, .unset, .unset, .unset, .unset, .unset, .unset, .unset, .unset, .unset, .unset, .unset] [(.long (9223372036854775807 : Int64)), (.long x3)])) ?_ (X0.ldc2Long hx hown (mvT hZ (hw _ (List.mem_of_getElem? (i := 1) rfl))) (g := (mkF m 32 #[.val (.long x0), .second, .val (.long x1), .second, .val (.long x2), .second, .val (.long x3), .second, .val (.long ((1 : Int64) + (x0 &&& (4095 : Int64)))), .second, .val (.long ((x1 &&& (9223372036854775807 : Int64)) % ((1 : Int64) + (x0 &&& (4095 : Int64))))), .second, .val (.long ((x2 &&& (9223372036854775807 : Int64)) % ((1 : Int64) + (x0 &&& (4095 : Int64))))), .second, .unset, .unset, .unset, .unset, .unset, .unset, .unset, .unset, .unset, .unset, .unset, .unset, .unset, .unset, .unset, .unset, .unset, .unset, .unset] [(.long x3)])) rfl (hb hby at_32))
  refine own_pre (B := s₁.setTop (mkF m 36 #[.val (.long x0), .second, .val (.long x1), .second, .val (.long x2), .second, .val (.long x3), .second, .val (.long ((1 : Int64) + (x0 &&& (4095 : Int64)))), .second, .val (.long ((x1 &&& (9223372036854775807 : Int64)) % ((1 : Int64) + (x0 &&& (4095 : Int64))))), .second, .val (.long ((x2 &&& (9223372036854775807 : Int64)) % ((1 : Int64) + (x0 &&& (4095 : Int64))))), .second, .unset, .unset, .unset, .unset, .unset, .unset, .unset, .unset, .unset, .unset, .unset, .unset, .unset, .unset, .unset, .unset, .unset, .unset, .unset] [(.long (x3 &&& (9223372036854775807 : Int64)))])) ?_ fun t k => XS.land X0.here hx rfl (hb hby at_35) rfl k
  refine own_pre (B := s₁.setTop (mkF m 38 #[.val (.long x0), .second, .val (.long x1), .second, .val (.long x2), .second, .val (.long x3), .second, .val (.long ((1 : Int64) + (x0 &&& (4095 : Int64)))), .second, .val (.long ((x1 &&& (9223372036854775807 : Int64)) % ((1 : Int64) + (x0 &&& (4095 : Int64))))), .second, .val (.long ((x2 &&& (9223372036854775807 : Int64)) % ((1 : Int64) + (x0 &&& (4095 : Int64))))), .second, .unset, .unset, .unset, .unset, .unset, .unset, .unset, .unset, .unset, .unset, .unset, .unset, .unset, .unset, .unset, .unset, .unset, .unset, .unset] [(.long ((1 : Int64) + (x0 &&& (4095 : Int64)))), (.long (x3 &&& (9223372036854775807 : Int64)))])) ?_ fun t k => XS.lload X0.here hx rfl (hb hby at_36) rfl  k
  refine own_pre (B := s₁.setTop (mkF m 39 #[.val (.long x0), .second, .val (.long x1), .second, .val (.long x2), .second, .val (.long x3), .second, .val (.long ((1 : Int64) + (x0 &&& (4095 : Int64)))), .second, .val (.long ((x1 &&& (9223372036854775807 : Int64)) % ((1 : Int64) + (x0 &&& (4095 : Int64))))), .second, .val (.long ((x2 &&& (9223372036854775807 : Int64)) % ((1 : Int64) + (x0 &&& (4095 : Int64))))), .second, .unset, .unset, .unset, .unset, .unset, .unset, .unset, .unset, .unset, .unset, .unset, .unset, .unset, .unset, .unset, .unset, .unset, .unset, .unset] [(.long ((x3 &&& (9223372036854775807 : Int64)) % ((1 : Int64) + (x0 &&& (4095 : Int64)))))])) ?_ fun t k => own_lrem X0 hx rfl (hb hby at_38) rfl (own_pgnz (own_pg rfl)) k
  refine own_pre (B := s₁.setTop (mkF m 41 #[.val (.long x0), .second, .val (.long x1), .second, .val (.long x2), .second, .val (.long x3), .second, .val (.long ((1 : Int64) + (x0 &&& (4095 : Int64)))), .second, .val (.long ((x1 &&& (9223372036854775807 : Int64)) % ((1 : Int64) + (x0 &&& (4095 : Int64))))), .second, .val (.long ((x2 &&& (9223372036854775807 : Int64)) % ((1 : Int64) + (x0 &&& (4095 : Int64))))), .second, .val (.long ((x3 &&& (9223372036854775807 : Int64)) % ((1 : Int64) + (x0 &&& (4095 : Int64))))), .second, .unset, .unset, .unset, .unset, .unset, .unset, .unset, .unset, .unset, .unset, .unset, .unset, .unset, .unset, .unset, .unset, .unset] [])) ?_ fun t k => XS.lstore X0.here hx rfl (hb hby at_39) rfl  (l' := #[.val (.long x0), .second, .val (.long x1), .second, .val (.long x2), .second, .val (.long x3), .second, .val (.long ((1 : Int64) + (x0 &&& (4095 : Int64)))), .second, .val (.long ((x1 &&& (9223372036854775807 : Int64)) % ((1 : Int64) + (x0 &&& (4095 : Int64))))), .second, .val (.long ((x2 &&& (9223372036854775807 : Int64)) % ((1 : Int64) + (x0 &&& (4095 : Int64))))), .second, .val (.long ((x3 &&& (9223372036854775807 : Int64)) % ((1 : Int64) + (x0 &&& (4095 : Int64))))), .second, .unset, .unset, .unset, .unset, .unset, .unset, .unset, .unset, .unset, .unset, .unset, .unset, .unset, .unset, .unset, .unset, .unset]) rfl k
  generalize hmpg : ((1 : Int64) + (x0 &&& (4095 : Int64))) = pg
  generalize hmxa : ((x1 &&& (9223372036854775807 : Int64)) % pg) = xa
  generalize hmya : ((x2 &&& (9223372036854775807 : Int64)) % pg) = ya
  generalize hmza : ((x3 &&& (9223372036854775807 : Int64)) % pg) = za
  have hpg := own_pg hmpg
  have rxa := own_rm hpg hmxa
  have hjxa := own_jneg hpg rxa
  have hixa := own_jlt hpg rxa
  have rya := own_rm hpg hmya
  have hjya := own_jneg hpg rya
  have hiya := own_jlt hpg rya
  have rza := own_rm hpg hmza
  have hjza := own_jneg hpg rza
  have hiza := own_jlt hpg rza
  obtain ⟨T1, h1, X1, e1, E1, A1, D1, -, st1⟩ := newO X0 hx hZ hown (hw _ (List.mem_of_getElem? (i := 2) rfl)) (hw _ (List.mem_of_getElem? (i := 3) rfl)) (hw _ (List.mem_of_getElem? (i := 4) rfl)) e0 (g := (mkF m 41 #[.val (.long x0), .second, .val (.long x1), .second, .val (.long x2), .second, .val (.long x3), .second, .val (.long pg), .second, .val (.long xa), .second, .val (.long ya), .second, .val (.long za), .second, .unset, .unset, .unset, .unset, .unset, .unset, .unset, .unset, .unset, .unset, .unset, .unset, .unset, .unset, .unset, .unset, .unset] [])) rfl (hb hby at_41) (by decide) (by decide)
  obtain ⟨b1, g1⟩ : ∃ z, z = h0.size := ⟨_, rfl⟩
  rw [← g1] at A1 D1 st1
  have Z1 : n0 ≤ h1.size := Nat.le_trans Z0 E1.1
  have gz1 : n0 ≤ b1 := Nat.le_trans Z0 (Nat.le_of_eq g1.symm)
  have F1_words : Fld Z h1 b1 "com/example/leafchain/leafchain/PageSet" "words" "[J" .null := D1 (Or.inr (hw _ (List.mem_of_getElem? (i := 18) rfl))) (ty := (.array .long)) (by decide)
  have F1_size : Fld Z h1 b1 "com/example/leafchain/leafchain/PageSet" "size" "J" (.long (0 : Int64)) := D1 (Or.inl (hw _ (List.mem_of_getElem? (i := 25) rfl))) (ty := .long) (by decide)
  refine own_pre (B := T1.setTop (mkF m 44 #[.val (.long x0), .second, .val (.long x1), .second, .val (.long x2), .second, .val (.long x3), .second, .val (.long pg), .second, .val (.long xa), .second, .val (.long ya), .second, .val (.long za), .second, .unset, .unset, .unset, .unset, .unset, .unset, .unset, .unset, .unset, .unset, .unset, .unset, .unset, .unset, .unset, .unset, .unset] [(.ref b1)])) ?_ st1
  refine own_pre (B := T1.setTop (mkF m 45 #[.val (.long x0), .second, .val (.long x1), .second, .val (.long x2), .second, .val (.long x3), .second, .val (.long pg), .second, .val (.long xa), .second, .val (.long ya), .second, .val (.long za), .second, .unset, .unset, .unset, .unset, .unset, .unset, .unset, .unset, .unset, .unset, .unset, .unset, .unset, .unset, .unset, .unset, .unset] [(.ref b1), (.ref b1)])) ?_ fun t k => XS.dup X1.here hx rfl (hb hby at_44) rfl rfl k
  refine own_pre (B := T1.setTop (mkF m 47 #[.val (.long x0), .second, .val (.long x1), .second, .val (.long x2), .second, .val (.long x3), .second, .val (.long pg), .second, .val (.long xa), .second, .val (.long ya), .second, .val (.long za), .second, .unset, .unset, .unset, .unset, .unset, .unset, .unset, .unset, .unset, .unset, .unset, .unset, .unset, .unset, .unset, .unset, .unset] [(.long pg), (.ref b1), (.ref b1)])) ?_ fun t k => XS.lload X1.here hx rfl (hb hby at_45) rfl  k
  obtain ⟨_, _, ⟨T2, L2, k2, n2⟩, -, X2, ⟨Lc2, hQ2, l2, y2, z2⟩, st2⟩ := X1.specialBack hx (y := (⟨"com/example/leafchain/leafchain/PageSet", "<init>", "(J)V"⟩ : MethodName)) rfl hown (mvT hZ (hw _ (List.mem_of_getElem? (i := 5) rfl))) (mvT hZ (hw _ (List.mem_of_getElem? (i := 6) rfl))) (mvT hZ (hw _ (List.mem_of_getElem? (i := 7) rfl))) (by decide) (backOf (W := 1) (rm1 l Z a0 hw [] b1 pg h1 n0 Z1 A1 F1_words F1_size gz1 (own_fitL pg hpg) (own_negL pg hpg) (own_capL pg hpg)) hZ (hw _ (List.mem_of_getElem? (i := 7) rfl)) (hw _ (List.mem_of_getElem? (i := 4) rfl)) (by decide) (by decide)) (g := (mkF m 47 #[.val (.long x0), .second, .val (.long x1), .second, .val (.long x2), .second, .val (.long x3), .second, .val (.long pg), .second, .val (.long xa), .second, .val (.long ya), .second, .val (.long za), .second, .unset, .unset, .unset, .unset, .unset, .unset, .unset, .unset, .unset, .unset, .unset, .unset, .unset, .unset, .unset, .unset, .unset] [(.long pg), (.ref b1), (.ref b1)])) rfl (by rw [hml]; rfl) (Steps.refl _) (a := b1) (argsL := [(.long pg)]) (rest := [(.ref b1)]) (lenOf pd__J_V rfl) rfl (by show 2 * 0 + _ ≤ _; exact Nat.le_of_eq rfl) (hb hby at_47) (fun _ _ => ⟨rfl, e1, (by decide : 1 + 1 ≤ _), (by decide : 2 + 64 ≤ _)⟩)
  dsimp only [Pt.U, Pt.locs, Pt.cells, Pt.slots] at X2 l2 y2 z2 st2 hQ2
  subst l2 y2 z2
  obtain ⟨rfl, Nq2, K2, E2, bw, gb, Fw2, Fz2, Aw2⟩ := hQ2
  have N2 := Fr.app N0 Nq2
  have Z2 := Nat.le_trans Z1 K2.1
  have nebw : bw ≠ b1 := gb.2
  have gbw := gb.1
  refine own_pre (B := T2.setTop (mkF m 50 #[.val (.long x0), .second, .val (.long x1), .second, .val (.long x2), .second, .val (.long x3), .second, .val (.long pg), .second, .val (.long xa), .second, .val (.long ya), .second, .val (.long za), .second, .unset, .unset, .unset, .unset, .unset, .unset, .unset, .unset, .unset, .unset, .unset, .unset, .unset, .unset, .unset, .unset, .unset] [(.ref b1)])) ?_ (fun t k => st2.trans k)
  refine own_pre (B := T2.setTop (mkF m 52 #[.val (.long x0), .second, .val (.long x1), .second, .val (.long x2), .second, .val (.long x3), .second, .val (.long pg), .second, .val (.long xa), .second, .val (.long ya), .second, .val (.long za), .second, .val (.ref b1), .unset, .unset, .unset, .unset, .unset, .unset, .unset, .unset, .unset, .unset, .unset, .unset, .unset, .unset, .unset, .unset] [])) ?_ fun t k => XS.astore X2.here hx rfl (hb hby at_50) rfl rfl (l' := #[.val (.long x0), .second, .val (.long x1), .second, .val (.long x2), .second, .val (.long x3), .second, .val (.long pg), .second, .val (.long xa), .second, .val (.long ya), .second, .val (.long za), .second, .val (.ref b1), .unset, .unset, .unset, .unset, .unset, .unset, .unset, .unset, .unset, .unset, .unset, .unset, .unset, .unset, .unset, .unset]) rfl k
  refine own_pre (B := T2.setTop (mkF m 54 #[.val (.long x0), .second, .val (.long x1), .second, .val (.long x2), .second, .val (.long x3), .second, .val (.long pg), .second, .val (.long xa), .second, .val (.long ya), .second, .val (.long za), .second, .val (.ref b1), .unset, .unset, .unset, .unset, .unset, .unset, .unset, .unset, .unset, .unset, .unset, .unset, .unset, .unset, .unset, .unset] [(.ref b1)])) ?_ fun t k => XS.aload X2.here hx rfl (hb hby at_52) rfl rfl k
  refine own_pre (B := T2.setTop (mkF m 56 #[.val (.long x0), .second, .val (.long x1), .second, .val (.long x2), .second, .val (.long x3), .second, .val (.long pg), .second, .val (.long xa), .second, .val (.long ya), .second, .val (.long za), .second, .val (.ref b1), .unset, .unset, .unset, .unset, .unset, .unset, .unset, .unset, .unset, .unset, .unset, .unset, .unset, .unset, .unset, .unset] [(.long xa), (.ref b1)])) ?_ fun t k => XS.lload X2.here hx rfl (hb hby at_54) rfl  k
  obtain ⟨cq3, kq3, q3a, q3b, q3c⟩ := isOf hZ rfl E2
  obtain ⟨_, _, ⟨T3, L3, k3, n3⟩, -, X3, ⟨Lc3, hQ3, l3, y3, z3⟩, st3⟩ := X2.virtualBack hx (y := (⟨"com/example/leafchain/leafchain/PageSet", "add", "(J)Z"⟩ : MethodName)) (z := (⟨"com/example/leafchain/leafchain/PageSet", "add", "(J)Z"⟩ : MethodName)) hown (mvT hZ (hw _ (List.mem_of_getElem? (i := 19) rfl))) (mvT hZ (hw _ (List.mem_of_getElem? (i := 20) rfl))) (notFace_of_selects (args := #[]) (mvT hZ (hw _ (List.mem_of_getElem? (i := 22) rfl)))) (mvT hZ (hw _ (List.mem_of_getElem? (i := 22) rfl))) (mvT hZ (hw _ (List.mem_of_getElem? (i := 21) rfl))) (by decide) (backOf (W := 0) (rm4 l Z a0 hw [] b1 xa bw (0 : Int64) (own_N pg) (fun _ => 0) T2.heap n0 Z2 E2 Fw2 Fz2 Aw2 nebw gz1 gbw hjxa hixa) hZ (hw _ (List.mem_of_getElem? (i := 23) rfl)) (hw _ (List.mem_of_getElem? (i := 4) rfl)) (by decide) (by decide)) q3a q3c (g := (mkF m 56 #[.val (.long x0), .second, .val (.long x1), .second, .val (.long x2), .second, .val (.long x3), .second, .val (.long pg), .second, .val (.long xa), .second, .val (.long ya), .second, .val (.long za), .second, .val (.ref b1), .unset, .unset, .unset, .unset, .unset, .unset, .unset, .unset, .unset, .unset, .unset, .unset, .unset, .unset, .unset, .unset] [(.long xa), (.ref b1)])) rfl (by rw [hml]; rfl) (Steps.refl _) (argsL := [(.long xa)]) (rest := []) (lenOf pd__J_Z rfl) rfl (by show 2 * 0 + _ ≤ _; exact Nat.le_of_eq rfl) (hb hby at_56) (fun _ _ => ⟨rfl, rfl, (by decide : 2 + 0 ≤ _), (by decide : 66 + 0 ≤ _)⟩)
  dsimp only [Pt.U, Pt.locs, Pt.cells, Pt.slots] at X3 l3 y3 z3 st3 hQ3
  subst l3 y3 z3
  obtain ⟨rfl, Nq3, K3, E3, Fw3, Fz3, Aw3⟩ := hQ3
  have N3 := Fr.app N2 Nq3
  have Z3 := Nat.le_trans Z2 K3.1
  refine own_pre (B := T3.setTop (mkF m 59 #[.val (.long x0), .second, .val (.long x1), .second, .val (.long x2), .second, .val (.long x3), .second, .val (.long pg), .second, .val (.long xa), .second, .val (.long ya), .second, .val (.long za), .second, .val (.ref b1), .unset, .unset, .unset, .unset, .unset, .unset, .unset, .unset, .unset, .unset, .unset, .unset, .unset, .unset, .unset, .unset] [(.int (own_r (fun _ => 0) xa))])) ?_ (fun t k => st3.trans k)
  refine own_pre (B := T3.setTop (mkF m 61 #[.val (.long x0), .second, .val (.long x1), .second, .val (.long x2), .second, .val (.long x3), .second, .val (.long pg), .second, .val (.long xa), .second, .val (.long ya), .second, .val (.long za), .second, .val (.ref b1), .val (.int (own_r (fun _ => 0) xa)), .unset, .unset, .unset, .unset, .unset, .unset, .unset, .unset, .unset, .unset, .unset, .unset, .unset, .unset, .unset] [])) ?_ fun t k => XS.istore X3.here hx rfl (hb hby at_59) rfl  (l' := #[.val (.long x0), .second, .val (.long x1), .second, .val (.long x2), .second, .val (.long x3), .second, .val (.long pg), .second, .val (.long xa), .second, .val (.long ya), .second, .val (.long za), .second, .val (.ref b1), .val (.int (own_r (fun _ => 0) xa)), .unset, .unset, .unset, .unset, .unset, .unset, .unset, .unset, .unset, .unset, .unset, .unset, .unset, .unset, .unset]) rfl k
  refine own_pre (B := T3.setTop (mkF m 63 #[.val (.long x0), .second, .val (.long x1), .second, .val (.long x2), .second, .val (.long x3), .second, .val (.long pg), .second, .val (.long xa), .second, .val (.long ya), .second, .val (.long za), .second, .val (.ref b1), .val (.int (own_r (fun _ => 0) xa)), .unset, .unset, .unset, .unset, .unset, .unset, .unset, .unset, .unset, .unset, .unset, .unset, .unset, .unset, .unset] [(.ref b1)])) ?_ fun t k => XS.aload X3.here hx rfl (hb hby at_61) rfl rfl k
  obtain ⟨cq4, kq4, q4a, q4b, q4c⟩ := isOf hZ rfl E3
  obtain ⟨_, _, ⟨T4, L4, k4, n4⟩, -, X4, ⟨Lc4, hQ4, l4, y4, z4⟩, st4⟩ := X3.virtualBack hx (y := (⟨"com/example/leafchain/leafchain/PageSet", "size", "()J"⟩ : MethodName)) (z := (⟨"com/example/leafchain/leafchain/PageSet", "size", "()J"⟩ : MethodName)) hown (mvT hZ (hw _ (List.mem_of_getElem? (i := 26) rfl))) (mvT hZ (hw _ (List.mem_of_getElem? (i := 27) rfl))) (notFace_of_selects (args := #[]) (mvT hZ (hw _ (List.mem_of_getElem? (i := 29) rfl)))) (mvT hZ (hw _ (List.mem_of_getElem? (i := 29) rfl))) (mvT hZ (hw _ (List.mem_of_getElem? (i := 28) rfl))) (by decide) (backOf (W := 0) (rm5 l Z a0 hw [] b1 (own_asz (fun _ => 0) xa (0 : Int64)) T3.heap n0 Z3 Fz3) hZ (hw _ (List.mem_of_getElem? (i := 30) rfl)) (hw _ (List.mem_of_getElem? (i := 4) rfl)) (by decide) (by decide)) q4a q4c (g := (mkF m 63 #[.val (.long x0), .second, .val (.long x1), .second, .val (.long x2), .second, .val (.long x3), .second, .val (.long pg), .second, .val (.long xa), .second, .val (.long ya), .second, .val (.long za), .second, .val (.ref b1), .val (.int (own_r (fun _ => 0) xa)), .unset, .unset, .unset, .unset, .unset, .unset, .unset, .unset, .unset, .unset, .unset, .unset, .unset, .unset, .unset] [(.ref b1)])) rfl (by rw [hml]; rfl) (Steps.refl _) (argsL := []) (rest := []) (lenOf pd___J rfl) rfl (by show 2 * 0 + _ ≤ _; exact Nat.le_of_eq rfl) (hb hby at_63) (fun _ _ => ⟨rfl, rfl, (by decide : 2 + 0 ≤ _), (by decide : 66 + 0 ≤ _)⟩)
  dsimp only [Pt.U, Pt.locs, Pt.cells, Pt.slots] at X4 l4 y4 z4 st4 hQ4
  subst l4 y4 z4
  obtain ⟨rfl, Nq4, e4⟩ := hQ4
  have N4 := Fr.app N3 Nq4
  refine own_pre (B := T4.setTop (mkF m 66 #[.val (.long x0), .second, .val (.long x1), .second, .val (.long x2), .second, .val (.long x3), .second, .val (.long pg), .second, .val (.long xa), .second, .val (.long ya), .second, .val (.long za), .second, .val (.ref b1), .val (.int (own_r (fun _ => 0) xa)), .unset, .unset, .unset, .unset, .unset, .unset, .unset, .unset, .unset, .unset, .unset, .unset, .unset, .unset, .unset] [(.long (own_asz (fun _ => 0) xa (0 : Int64)))])) ?_ (fun t k => st4.trans k)
  refine own_pre (B := T4.setTop (mkF m 68 #[.val (.long x0), .second, .val (.long x1), .second, .val (.long x2), .second, .val (.long x3), .second, .val (.long pg), .second, .val (.long xa), .second, .val (.long ya), .second, .val (.long za), .second, .val (.ref b1), .val (.int (own_r (fun _ => 0) xa)), .val (.long (own_asz (fun _ => 0) xa (0 : Int64))), .second, .unset, .unset, .unset, .unset, .unset, .unset, .unset, .unset, .unset, .unset, .unset, .unset, .unset] [])) ?_ fun t k => XS.lstore X4.here hx rfl (hb hby at_66) rfl  (l' := #[.val (.long x0), .second, .val (.long x1), .second, .val (.long x2), .second, .val (.long x3), .second, .val (.long pg), .second, .val (.long xa), .second, .val (.long ya), .second, .val (.long za), .second, .val (.ref b1), .val (.int (own_r (fun _ => 0) xa)), .val (.long (own_asz (fun _ => 0) xa (0 : Int64))), .second, .unset, .unset, .unset, .unset, .unset, .unset, .unset, .unset, .unset, .unset, .unset, .unset, .unset]) rfl k
  refine own_pre (B := T4.setTop (mkF m 70 #[.val (.long x0), .second, .val (.long x1), .second, .val (.long x2), .second, .val (.long x3), .second, .val (.long pg), .second, .val (.long xa), .second, .val (.long ya), .second, .val (.long za), .second, .val (.ref b1), .val (.int (own_r (fun _ => 0) xa)), .val (.long (own_asz (fun _ => 0) xa (0 : Int64))), .second, .unset, .unset, .unset, .unset, .unset, .unset, .unset, .unset, .unset, .unset, .unset, .unset, .unset] [(.ref b1)])) ?_ fun t k => XS.aload X4.here hx rfl (hb hby at_68) rfl rfl k
  refine own_pre (B := T4.setTop (mkF m 72 #[.val (.long x0), .second, .val (.long x1), .second, .val (.long x2), .second, .val (.long x3), .second, .val (.long pg), .second, .val (.long xa), .second, .val (.long ya), .second, .val (.long za), .second, .val (.ref b1), .val (.int (own_r (fun _ => 0) xa)), .val (.long (own_asz (fun _ => 0) xa (0 : Int64))), .second, .unset, .unset, .unset, .unset, .unset, .unset, .unset, .unset, .unset, .unset, .unset, .unset, .unset] [(.long ya), (.ref b1)])) ?_ fun t k => XS.lload X4.here hx rfl (hb hby at_70) rfl  k
  obtain ⟨cq5, kq5, q5a, q5b, q5c⟩ := isOf hZ e4 E3
  obtain ⟨_, _, ⟨T5, L5, k5, n5⟩, -, X5, ⟨Lc5, hQ5, l5, y5, z5⟩, st5⟩ := X4.virtualBack hx (y := (⟨"com/example/leafchain/leafchain/PageSet", "add", "(J)Z"⟩ : MethodName)) (z := (⟨"com/example/leafchain/leafchain/PageSet", "add", "(J)Z"⟩ : MethodName)) hown (mvT hZ (hw _ (List.mem_of_getElem? (i := 19) rfl))) (mvT hZ (hw _ (List.mem_of_getElem? (i := 20) rfl))) (notFace_of_selects (args := #[]) (mvT hZ (hw _ (List.mem_of_getElem? (i := 22) rfl)))) (mvT hZ (hw _ (List.mem_of_getElem? (i := 22) rfl))) (mvT hZ (hw _ (List.mem_of_getElem? (i := 21) rfl))) (by decide) (backOf (W := 0) (rm4 l Z a0 hw [] b1 ya bw (own_asz (fun _ => 0) xa (0 : Int64)) (own_N pg) (own_add (fun _ => 0) xa) T3.heap n0 Z3 E3 Fw3 Fz3 Aw3 nebw gz1 gbw hjya hiya) hZ (hw _ (List.mem_of_getElem? (i := 23) rfl)) (hw _ (List.mem_of_getElem? (i := 4) rfl)) (by decide) (by decide)) q5a q5c (g := (mkF m 72 #[.val (.long x0), .second, .val (.long x1), .second, .val (.long x2), .second, .val (.long x3), .second, .val (.long pg), .second, .val (.long xa), .second, .val (.long ya), .second, .val (.long za), .second, .val (.ref b1), .val (.int (own_r (fun _ => 0) xa)), .val (.long (own_asz (fun _ => 0) xa (0 : Int64))), .second, .unset, .unset, .unset, .unset, .unset, .unset, .unset, .unset, .unset, .unset, .unset, .unset, .unset] [(.long ya), (.ref b1)])) rfl (by rw [hml]; rfl) (Steps.refl _) (argsL := [(.long ya)]) (rest := []) (lenOf pd__J_Z rfl) rfl (by show 2 * 0 + _ ≤ _; exact Nat.le_of_eq rfl) (hb hby at_72) (fun _ _ => ⟨rfl, e4, (by decide : 2 + 0 ≤ _), (by decide : 66 + 0 ≤ _)⟩)
  dsimp only [Pt.U, Pt.locs, Pt.cells, Pt.slots] at X5 l5 y5 z5 st5 hQ5
  subst l5 y5 z5
  obtain ⟨rfl, Nq5, K5, E5, Fw5, Fz5, Aw5⟩ := hQ5
  have N5 := Fr.app N4 Nq5
  have Z5 := Nat.le_trans Z3 K5.1
  refine own_pre (B := T5.setTop (mkF m 75 #[.val (.long x0), .second, .val (.long x1), .second, .val (.long x2), .second, .val (.long x3), .second, .val (.long pg), .second, .val (.long xa), .second, .val (.long ya), .second, .val (.long za), .second, .val (.ref b1), .val (.int (own_r (fun _ => 0) xa)), .val (.long (own_asz (fun _ => 0) xa (0 : Int64))), .second, .unset, .unset, .unset, .unset, .unset, .unset, .unset, .unset, .unset, .unset, .unset, .unset, .unset] [(.int (own_r (own_add (fun _ => 0) xa) ya))])) ?_ (fun t k => st5.trans k)
  refine own_pre (B := T5.setTop (mkF m 77 #[.val (.long x0), .second, .val (.long x1), .second, .val (.long x2), .second, .val (.long x3), .second, .val (.long pg), .second, .val (.long xa), .second, .val (.long ya), .second, .val (.long za), .second, .val (.ref b1), .val (.int (own_r (fun _ => 0) xa)), .val (.long (own_asz (fun _ => 0) xa (0 : Int64))), .second, .val (.int (own_r (own_add (fun _ => 0) xa) ya)), .unset, .unset, .unset, .unset, .unset, .unset, .unset, .unset, .unset, .unset, .unset, .unset] [])) ?_ fun t k => XS.istore X5.here hx rfl (hb hby at_75) rfl  (l' := #[.val (.long x0), .second, .val (.long x1), .second, .val (.long x2), .second, .val (.long x3), .second, .val (.long pg), .second, .val (.long xa), .second, .val (.long ya), .second, .val (.long za), .second, .val (.ref b1), .val (.int (own_r (fun _ => 0) xa)), .val (.long (own_asz (fun _ => 0) xa (0 : Int64))), .second, .val (.int (own_r (own_add (fun _ => 0) xa) ya)), .unset, .unset, .unset, .unset, .unset, .unset, .unset, .unset, .unset, .unset, .unset, .unset]) rfl k
  refine own_pre (B := T5.setTop (mkF m 79 #[.val (.long x0), .second, .val (.long x1), .second, .val (.long x2), .second, .val (.long x3), .second, .val (.long pg), .second, .val (.long xa), .second, .val (.long ya), .second, .val (.long za), .second, .val (.ref b1), .val (.int (own_r (fun _ => 0) xa)), .val (.long (own_asz (fun _ => 0) xa (0 : Int64))), .second, .val (.int (own_r (own_add (fun _ => 0) xa) ya)), .unset, .unset, .unset, .unset, .unset, .unset, .unset, .unset, .unset, .unset, .unset, .unset] [(.ref b1)])) ?_ fun t k => XS.aload X5.here hx rfl (hb hby at_77) rfl rfl k
  obtain ⟨cq6, kq6, q6a, q6b, q6c⟩ := isOf hZ rfl E5
  obtain ⟨_, _, ⟨T6, L6, k6, n6⟩, -, X6, ⟨Lc6, hQ6, l6, y6, z6⟩, st6⟩ := X5.virtualBack hx (y := (⟨"com/example/leafchain/leafchain/PageSet", "size", "()J"⟩ : MethodName)) (z := (⟨"com/example/leafchain/leafchain/PageSet", "size", "()J"⟩ : MethodName)) hown (mvT hZ (hw _ (List.mem_of_getElem? (i := 26) rfl))) (mvT hZ (hw _ (List.mem_of_getElem? (i := 27) rfl))) (notFace_of_selects (args := #[]) (mvT hZ (hw _ (List.mem_of_getElem? (i := 29) rfl)))) (mvT hZ (hw _ (List.mem_of_getElem? (i := 29) rfl))) (mvT hZ (hw _ (List.mem_of_getElem? (i := 28) rfl))) (by decide) (backOf (W := 0) (rm5 l Z a0 hw [] b1 (own_asz (own_add (fun _ => 0) xa) ya (own_asz (fun _ => 0) xa (0 : Int64))) T5.heap n0 Z5 Fz5) hZ (hw _ (List.mem_of_getElem? (i := 30) rfl)) (hw _ (List.mem_of_getElem? (i := 4) rfl)) (by decide) (by decide)) q6a q6c (g := (mkF m 79 #[.val (.long x0), .second, .val (.long x1), .second, .val (.long x2), .second, .val (.long x3), .second, .val (.long pg), .second, .val (.long xa), .second, .val (.long ya), .second, .val (.long za), .second, .val (.ref b1), .val (.int (own_r (fun _ => 0) xa)), .val (.long (own_asz (fun _ => 0) xa (0 : Int64))), .second, .val (.int (own_r (own_add (fun _ => 0) xa) ya)), .unset, .unset, .unset, .unset, .unset, .unset, .unset, .unset, .unset, .unset, .unset, .unset] [(.ref b1)])) rfl (by rw [hml]; rfl) (Steps.refl _) (argsL := []) (rest := []) (lenOf pd___J rfl) rfl (by show 2 * 0 + _ ≤ _; exact Nat.le_of_eq rfl) (hb hby at_79) (fun _ _ => ⟨rfl, rfl, (by decide : 2 + 0 ≤ _), (by decide : 66 + 0 ≤ _)⟩)
  dsimp only [Pt.U, Pt.locs, Pt.cells, Pt.slots] at X6 l6 y6 z6 st6 hQ6
  subst l6 y6 z6
  obtain ⟨rfl, Nq6, e6⟩ := hQ6
  have N6 := Fr.app N5 Nq6
  refine own_pre (B := T6.setTop (mkF m 82 #[.val (.long x0), .second, .val (.long x1), .second, .val (.long x2), .second, .val (.long x3), .second, .val (.long pg), .second, .val (.long xa), .second, .val (.long ya), .second, .val (.long za), .second, .val (.ref b1), .val (.int (own_r (fun _ => 0) xa)), .val (.long (own_asz (fun _ => 0) xa (0 : Int64))), .second, .val (.int (own_r (own_add (fun _ => 0) xa) ya)), .unset, .unset, .unset, .unset, .unset, .unset, .unset, .unset, .unset, .unset, .unset, .unset] [(.long (own_asz (own_add (fun _ => 0) xa) ya (own_asz (fun _ => 0) xa (0 : Int64))))])) ?_ (fun t k => st6.trans k)
  refine own_pre (B := T6.setTop (mkF m 84 #[.val (.long x0), .second, .val (.long x1), .second, .val (.long x2), .second, .val (.long x3), .second, .val (.long pg), .second, .val (.long xa), .second, .val (.long ya), .second, .val (.long za), .second, .val (.ref b1), .val (.int (own_r (fun _ => 0) xa)), .val (.long (own_asz (fun _ => 0) xa (0 : Int64))), .second, .val (.int (own_r (own_add (fun _ => 0) xa) ya)), .val (.long (own_asz (own_add (fun _ => 0) xa) ya (own_asz (fun _ => 0) xa (0 : Int64)))), .second, .unset, .unset, .unset, .unset, .unset, .unset, .unset, .unset, .unset, .unset] [])) ?_ fun t k => XS.lstore X6.here hx rfl (hb hby at_82) rfl  (l' := #[.val (.long x0), .second, .val (.long x1), .second, .val (.long x2), .second, .val (.long x3), .second, .val (.long pg), .second, .val (.long xa), .second, .val (.long ya), .second, .val (.long za), .second, .val (.ref b1), .val (.int (own_r (fun _ => 0) xa)), .val (.long (own_asz (fun _ => 0) xa (0 : Int64))), .second, .val (.int (own_r (own_add (fun _ => 0) xa) ya)), .val (.long (own_asz (own_add (fun _ => 0) xa) ya (own_asz (fun _ => 0) xa (0 : Int64)))), .second, .unset, .unset, .unset, .unset, .unset, .unset, .unset, .unset, .unset, .unset]) rfl k
  refine own_pre (B := T6.setTop (mkF m 86 #[.val (.long x0), .second, .val (.long x1), .second, .val (.long x2), .second, .val (.long x3), .second, .val (.long pg), .second, .val (.long xa), .second, .val (.long ya), .second, .val (.long za), .second, .val (.ref b1), .val (.int (own_r (fun _ => 0) xa)), .val (.long (own_asz (fun _ => 0) xa (0 : Int64))), .second, .val (.int (own_r (own_add (fun _ => 0) xa) ya)), .val (.long (own_asz (own_add (fun _ => 0) xa) ya (own_asz (fun _ => 0) xa (0 : Int64)))), .second, .unset, .unset, .unset, .unset, .unset, .unset, .unset, .unset, .unset, .unset] [(.ref b1)])) ?_ fun t k => XS.aload X6.here hx rfl (hb hby at_84) rfl rfl k
  refine own_pre (B := T6.setTop (mkF m 88 #[.val (.long x0), .second, .val (.long x1), .second, .val (.long x2), .second, .val (.long x3), .second, .val (.long pg), .second, .val (.long xa), .second, .val (.long ya), .second, .val (.long za), .second, .val (.ref b1), .val (.int (own_r (fun _ => 0) xa)), .val (.long (own_asz (fun _ => 0) xa (0 : Int64))), .second, .val (.int (own_r (own_add (fun _ => 0) xa) ya)), .val (.long (own_asz (own_add (fun _ => 0) xa) ya (own_asz (fun _ => 0) xa (0 : Int64)))), .second, .unset, .unset, .unset, .unset, .unset, .unset, .unset, .unset, .unset, .unset] [(.long xa), (.ref b1)])) ?_ fun t k => XS.lload X6.here hx rfl (hb hby at_86) rfl  k
  obtain ⟨cq7, kq7, q7a, q7b, q7c⟩ := isOf hZ e6 E5
  obtain ⟨_, _, ⟨T7, L7, k7, n7⟩, -, X7, ⟨Lc7, hQ7, l7, y7, z7⟩, st7⟩ := X6.virtualBack hx (y := (⟨"com/example/leafchain/leafchain/PageSet", "add", "(J)Z"⟩ : MethodName)) (z := (⟨"com/example/leafchain/leafchain/PageSet", "add", "(J)Z"⟩ : MethodName)) hown (mvT hZ (hw _ (List.mem_of_getElem? (i := 19) rfl))) (mvT hZ (hw _ (List.mem_of_getElem? (i := 20) rfl))) (notFace_of_selects (args := #[]) (mvT hZ (hw _ (List.mem_of_getElem? (i := 22) rfl)))) (mvT hZ (hw _ (List.mem_of_getElem? (i := 22) rfl))) (mvT hZ (hw _ (List.mem_of_getElem? (i := 21) rfl))) (by decide) (backOf (W := 0) (rm4 l Z a0 hw [] b1 xa bw (own_asz (own_add (fun _ => 0) xa) ya (own_asz (fun _ => 0) xa (0 : Int64))) (own_N pg) (own_add (own_add (fun _ => 0) xa) ya) T5.heap n0 Z5 E5 Fw5 Fz5 Aw5 nebw gz1 gbw hjxa hixa) hZ (hw _ (List.mem_of_getElem? (i := 23) rfl)) (hw _ (List.mem_of_getElem? (i := 4) rfl)) (by decide) (by decide)) q7a q7c (g := (mkF m 88 #[.val (.long x0), .second, .val (.long x1), .second, .val (.long x2), .second, .val (.long x3), .second, .val (.long pg), .second, .val (.long xa), .second, .val (.long ya), .second, .val (.long za), .second, .val (.ref b1), .val (.int (own_r (fun _ => 0) xa)), .val (.long (own_asz (fun _ => 0) xa (0 : Int64))), .second, .val (.int (own_r (own_add (fun _ => 0) xa) ya)), .val (.long (own_asz (own_add (fun _ => 0) xa) ya (own_asz (fun _ => 0) xa (0 : Int64)))), .second, .unset, .unset, .unset, .unset, .unset, .unset, .unset, .unset, .unset, .unset] [(.long xa), (.ref b1)])) rfl (by rw [hml]; rfl) (Steps.refl _) (argsL := [(.long xa)]) (rest := []) (lenOf pd__J_Z rfl) rfl (by show 2 * 0 + _ ≤ _; exact Nat.le_of_eq rfl) (hb hby at_88) (fun _ _ => ⟨rfl, e6, (by decide : 2 + 0 ≤ _), (by decide : 66 + 0 ≤ _)⟩)
  dsimp only [Pt.U, Pt.locs, Pt.cells, Pt.slots] at X7 l7 y7 z7 st7 hQ7
  subst l7 y7 z7
  obtain ⟨rfl, Nq7, K7, E7, Fw7, Fz7, Aw7⟩ := hQ7
  have N7 := Fr.app N6 Nq7
  have Z7 := Nat.le_trans Z5 K7.1
  refine own_pre (B := T7.setTop (mkF m 91 #[.val (.long x0), .second, .val (.long x1), .second, .val (.long x2), .second, .val (.long x3), .second, .val (.long pg), .second, .val (.long xa), .second, .val (.long ya), .second, .val (.long za), .second, .val (.ref b1), .val (.int (own_r (fun _ => 0) xa)), .val (.long (own_asz (fun _ => 0) xa (0 : Int64))), .second, .val (.int (own_r (own_add (fun _ => 0) xa) ya)), .val (.long (own_asz (own_add (fun _ => 0) xa) ya (own_asz (fun _ => 0) xa (0 : Int64)))), .second, .unset, .unset, .unset, .unset, .unset, .unset, .unset, .unset, .unset, .unset] [(.int (own_r (own_add (own_add (fun _ => 0) xa) ya) xa))])) ?_ (fun t k => st7.trans k)
  refine own_pre (B := T7.setTop (mkF m 93 #[.val (.long x0), .second, .val (.long x1), .second, .val (.long x2), .second, .val (.long x3), .second, .val (.long pg), .second, .val (.long xa), .second, .val (.long ya), .second, .val (.long za), .second, .val (.ref b1), .val (.int (own_r (fun _ => 0) xa)), .val (.long (own_asz (fun _ => 0) xa (0 : Int64))), .second, .val (.int (own_r (own_add (fun _ => 0) xa) ya)), .val (.long (own_asz (own_add (fun _ => 0) xa) ya (own_asz (fun _ => 0) xa (0 : Int64)))), .second, .val (.int (own_r (own_add (own_add (fun _ => 0) xa) ya) xa)), .unset, .unset, .unset, .unset, .unset, .unset, .unset, .unset, .unset] [])) ?_ fun t k => XS.istore X7.here hx rfl (hb hby at_91) rfl  (l' := #[.val (.long x0), .second, .val (.long x1), .second, .val (.long x2), .second, .val (.long x3), .second, .val (.long pg), .second, .val (.long xa), .second, .val (.long ya), .second, .val (.long za), .second, .val (.ref b1), .val (.int (own_r (fun _ => 0) xa)), .val (.long (own_asz (fun _ => 0) xa (0 : Int64))), .second, .val (.int (own_r (own_add (fun _ => 0) xa) ya)), .val (.long (own_asz (own_add (fun _ => 0) xa) ya (own_asz (fun _ => 0) xa (0 : Int64)))), .second, .val (.int (own_r (own_add (own_add (fun _ => 0) xa) ya) xa)), .unset, .unset, .unset, .unset, .unset, .unset, .unset, .unset, .unset]) rfl k
  refine own_pre (B := T7.setTop (mkF m 95 #[.val (.long x0), .second, .val (.long x1), .second, .val (.long x2), .second, .val (.long x3), .second, .val (.long pg), .second, .val (.long xa), .second, .val (.long ya), .second, .val (.long za), .second, .val (.ref b1), .val (.int (own_r (fun _ => 0) xa)), .val (.long (own_asz (fun _ => 0) xa (0 : Int64))), .second, .val (.int (own_r (own_add (fun _ => 0) xa) ya)), .val (.long (own_asz (own_add (fun _ => 0) xa) ya (own_asz (fun _ => 0) xa (0 : Int64)))), .second, .val (.int (own_r (own_add (own_add (fun _ => 0) xa) ya) xa)), .unset, .unset, .unset, .unset, .unset, .unset, .unset, .unset, .unset] [(.ref b1)])) ?_ fun t k => XS.aload X7.here hx rfl (hb hby at_93) rfl rfl k
  obtain ⟨cq8, kq8, q8a, q8b, q8c⟩ := isOf hZ rfl E7
  obtain ⟨_, _, ⟨T8, L8, k8, n8⟩, -, X8, ⟨Lc8, hQ8, l8, y8, z8⟩, st8⟩ := X7.virtualBack hx (y := (⟨"com/example/leafchain/leafchain/PageSet", "size", "()J"⟩ : MethodName)) (z := (⟨"com/example/leafchain/leafchain/PageSet", "size", "()J"⟩ : MethodName)) hown (mvT hZ (hw _ (List.mem_of_getElem? (i := 26) rfl))) (mvT hZ (hw _ (List.mem_of_getElem? (i := 27) rfl))) (notFace_of_selects (args := #[]) (mvT hZ (hw _ (List.mem_of_getElem? (i := 29) rfl)))) (mvT hZ (hw _ (List.mem_of_getElem? (i := 29) rfl))) (mvT hZ (hw _ (List.mem_of_getElem? (i := 28) rfl))) (by decide) (backOf (W := 0) (rm5 l Z a0 hw [] b1 (own_asz (own_add (own_add (fun _ => 0) xa) ya) xa (own_asz (own_add (fun _ => 0) xa) ya (own_asz (fun _ => 0) xa (0 : Int64)))) T7.heap n0 Z7 Fz7) hZ (hw _ (List.mem_of_getElem? (i := 30) rfl)) (hw _ (List.mem_of_getElem? (i := 4) rfl)) (by decide) (by decide)) q8a q8c (g := (mkF m 95 #[.val (.long x0), .second, .val (.long x1), .second, .val (.long x2), .second, .val (.long x3), .second, .val (.long pg), .second, .val (.long xa), .second, .val (.long ya), .second, .val (.long za), .second, .val (.ref b1), .val (.int (own_r (fun _ => 0) xa)), .val (.long (own_asz (fun _ => 0) xa (0 : Int64))), .second, .val (.int (own_r (own_add (fun _ => 0) xa) ya)), .val (.long (own_asz (own_add (fun _ => 0) xa) ya (own_asz (fun _ => 0) xa (0 : Int64)))), .second, .val (.int (own_r (own_add (own_add (fun _ => 0) xa) ya) xa)), .unset, .unset, .unset, .unset, .unset, .unset, .unset, .unset, .unset] [(.ref b1)])) rfl (by rw [hml]; rfl) (Steps.refl _) (argsL := []) (rest := []) (lenOf pd___J rfl) rfl (by show 2 * 0 + _ ≤ _; exact Nat.le_of_eq rfl) (hb hby at_95) (fun _ _ => ⟨rfl, rfl, (by decide : 2 + 0 ≤ _), (by decide : 66 + 0 ≤ _)⟩)
  dsimp only [Pt.U, Pt.locs, Pt.cells, Pt.slots] at X8 l8 y8 z8 st8 hQ8
  subst l8 y8 z8
  obtain ⟨rfl, Nq8, e8⟩ := hQ8
  have N8 := Fr.app N7 Nq8
  refine own_pre (B := T8.setTop (mkF m 98 #[.val (.long x0), .second, .val (.long x1), .second, .val (.long x2), .second, .val (.long x3), .second, .val (.long pg), .second, .val (.long xa), .second, .val (.long ya), .second, .val (.long za), .second, .val (.ref b1), .val (.int (own_r (fun _ => 0) xa)), .val (.long (own_asz (fun _ => 0) xa (0 : Int64))), .second, .val (.int (own_r (own_add (fun _ => 0) xa) ya)), .val (.long (own_asz (own_add (fun _ => 0) xa) ya (own_asz (fun _ => 0) xa (0 : Int64)))), .second, .val (.int (own_r (own_add (own_add (fun _ => 0) xa) ya) xa)), .unset, .unset, .unset, .unset, .unset, .unset, .unset, .unset, .unset] [(.long (own_asz (own_add (own_add (fun _ => 0) xa) ya) xa (own_asz (own_add (fun _ => 0) xa) ya (own_asz (fun _ => 0) xa (0 : Int64)))))])) ?_ (fun t k => st8.trans k)
  refine own_pre (B := T8.setTop (mkF m 100 #[.val (.long x0), .second, .val (.long x1), .second, .val (.long x2), .second, .val (.long x3), .second, .val (.long pg), .second, .val (.long xa), .second, .val (.long ya), .second, .val (.long za), .second, .val (.ref b1), .val (.int (own_r (fun _ => 0) xa)), .val (.long (own_asz (fun _ => 0) xa (0 : Int64))), .second, .val (.int (own_r (own_add (fun _ => 0) xa) ya)), .val (.long (own_asz (own_add (fun _ => 0) xa) ya (own_asz (fun _ => 0) xa (0 : Int64)))), .second, .val (.int (own_r (own_add (own_add (fun _ => 0) xa) ya) xa)), .val (.long (own_asz (own_add (own_add (fun _ => 0) xa) ya) xa (own_asz (own_add (fun _ => 0) xa) ya (own_asz (fun _ => 0) xa (0 : Int64))))), .second, .unset, .unset, .unset, .unset, .unset, .unset, .unset] [])) ?_ fun t k => XS.lstore X8.here hx rfl (hb hby at_98) rfl  (l' := #[.val (.long x0), .second, .val (.long x1), .second, .val (.long x2), .second, .val (.long x3), .second, .val (.long pg), .second, .val (.long xa), .second, .val (.long ya), .second, .val (.long za), .second, .val (.ref b1), .val (.int (own_r (fun _ => 0) xa)), .val (.long (own_asz (fun _ => 0) xa (0 : Int64))), .second, .val (.int (own_r (own_add (fun _ => 0) xa) ya)), .val (.long (own_asz (own_add (fun _ => 0) xa) ya (own_asz (fun _ => 0) xa (0 : Int64)))), .second, .val (.int (own_r (own_add (own_add (fun _ => 0) xa) ya) xa)), .val (.long (own_asz (own_add (own_add (fun _ => 0) xa) ya) xa (own_asz (own_add (fun _ => 0) xa) ya (own_asz (fun _ => 0) xa (0 : Int64))))), .second, .unset, .unset, .unset, .unset, .unset, .unset, .unset]) rfl k
  refine own_pre (B := T8.setTop (mkF m 102 #[.val (.long x0), .second, .val (.long x1), .second, .val (.long x2), .second, .val (.long x3), .second, .val (.long pg), .second, .val (.long xa), .second, .val (.long ya), .second, .val (.long za), .second, .val (.ref b1), .val (.int (own_r (fun _ => 0) xa)), .val (.long (own_asz (fun _ => 0) xa (0 : Int64))), .second, .val (.int (own_r (own_add (fun _ => 0) xa) ya)), .val (.long (own_asz (own_add (fun _ => 0) xa) ya (own_asz (fun _ => 0) xa (0 : Int64)))), .second, .val (.int (own_r (own_add (own_add (fun _ => 0) xa) ya) xa)), .val (.long (own_asz (own_add (own_add (fun _ => 0) xa) ya) xa (own_asz (own_add (fun _ => 0) xa) ya (own_asz (fun _ => 0) xa (0 : Int64))))), .second, .unset, .unset, .unset, .unset, .unset, .unset, .unset] [(.ref b1)])) ?_ fun t k => XS.aload X8.here hx rfl (hb hby at_100) rfl rfl k
  refine own_pre (B := T8.setTop (mkF m 104 #[.val (.long x0), .second, .val (.long x1), .second, .val (.long x2), .second, .val (.long x3), .second, .val (.long pg), .second, .val (.long xa), .second, .val (.long ya), .second, .val (.long za), .second, .val (.ref b1), .val (.int (own_r (fun _ => 0) xa)), .val (.long (own_asz (fun _ => 0) xa (0 : Int64))), .second, .val (.int (own_r (own_add (fun _ => 0) xa) ya)), .val (.long (own_asz (own_add (fun _ => 0) xa) ya (own_asz (fun _ => 0) xa (0 : Int64)))), .second, .val (.int (own_r (own_add (own_add (fun _ => 0) xa) ya) xa)), .val (.long (own_asz (own_add (own_add (fun _ => 0) xa) ya) xa (own_asz (own_add (fun _ => 0) xa) ya (own_asz (fun _ => 0) xa (0 : Int64))))), .second, .unset, .unset, .unset, .unset, .unset, .unset, .unset] [(.long xa), (.ref b1)])) ?_ fun t k => XS.lload X8.here hx rfl (hb hby at_102) rfl  k
  obtain ⟨cq9, kq9, q9a, q9b, q9c⟩ := isOf hZ e8 E7
  obtain ⟨_, _, ⟨T9, L9, k9, n9⟩, -, X9, ⟨Lc9, hQ9, l9, y9, z9⟩, st9⟩ := X8.virtualBack hx (y := (⟨"com/example/leafchain/leafchain/PageSet", "contains", "(J)Z"⟩ : MethodName)) (z := (⟨"com/example/leafchain/leafchain/PageSet", "contains", "(J)Z"⟩ : MethodName)) hown (mvT hZ (hw _ (List.mem_of_getElem? (i := 31) rfl))) (mvT hZ (hw _ (List.mem_of_getElem? (i := 32) rfl))) (notFace_of_selects (args := #[]) (mvT hZ (hw _ (List.mem_of_getElem? (i := 34) rfl)))) (mvT hZ (hw _ (List.mem_of_getElem? (i := 34) rfl))) (mvT hZ (hw _ (List.mem_of_getElem? (i := 33) rfl))) (by decide) (backOf (W := 0) (rm6 l Z a0 hw [] b1 xa bw (own_N pg) (own_add (own_add (own_add (fun _ => 0) xa) ya) xa) T7.heap n0 Z7 Fw7 Aw7 hjxa hixa) hZ (hw _ (List.mem_of_getElem? (i := 35) rfl)) (hw _ (List.mem_of_getElem? (i := 4) rfl)) (by decide) (by decide)) q9a q9c (g := (mkF m 104 #[.val (.long x0), .second, .val (.long x1), .second, .val (.long x2), .second, .val (.long x3), .second, .val (.long pg), .second, .val (.long xa), .second, .val (.long ya), .second, .val (.long za), .second, .val (.ref b1), .val (.int (own_r (fun _ => 0) xa)), .val (.long (own_asz (fun _ => 0) xa (0 : Int64))), .second, .val (.int (own_r (own_add (fun _ => 0) xa) ya)), .val (.long (own_asz (own_add (fun _ => 0) xa) ya (own_asz (fun _ => 0) xa (0 : Int64)))), .second, .val (.int (own_r (own_add (own_add (fun _ => 0) xa) ya) xa)), .val (.long (own_asz (own_add (own_add (fun _ => 0) xa) ya) xa (own_asz (own_add (fun _ => 0) xa) ya (own_asz (fun _ => 0) xa (0 : Int64))))), .second, .unset, .unset, .unset, .unset, .unset, .unset, .unset] [(.long xa), (.ref b1)])) rfl (by rw [hml]; rfl) (Steps.refl _) (argsL := [(.long xa)]) (rest := []) (lenOf pd__J_Z rfl) rfl (by show 2 * 0 + _ ≤ _; exact Nat.le_of_eq rfl) (hb hby at_104) (fun _ _ => ⟨rfl, e8, (by decide : 2 + 0 ≤ _), (by decide : 66 + 0 ≤ _)⟩)
  dsimp only [Pt.U, Pt.locs, Pt.cells, Pt.slots] at X9 l9 y9 z9 st9 hQ9
  subst l9 y9 z9
  obtain ⟨rfl, Nq9, e9⟩ := hQ9
  have N9 := Fr.app N8 Nq9
  refine own_pre (B := T9.setTop (mkF m 107 #[.val (.long x0), .second, .val (.long x1), .second, .val (.long x2), .second, .val (.long x3), .second, .val (.long pg), .second, .val (.long xa), .second, .val (.long ya), .second, .val (.long za), .second, .val (.ref b1), .val (.int (own_r (fun _ => 0) xa)), .val (.long (own_asz (fun _ => 0) xa (0 : Int64))), .second, .val (.int (own_r (own_add (fun _ => 0) xa) ya)), .val (.long (own_asz (own_add (fun _ => 0) xa) ya (own_asz (fun _ => 0) xa (0 : Int64)))), .second, .val (.int (own_r (own_add (own_add (fun _ => 0) xa) ya) xa)), .val (.long (own_asz (own_add (own_add (fun _ => 0) xa) ya) xa (own_asz (own_add (fun _ => 0) xa) ya (own_asz (fun _ => 0) xa (0 : Int64))))), .second, .unset, .unset, .unset, .unset, .unset, .unset, .unset] [(.int (own_c (own_add (own_add (own_add (fun _ => 0) xa) ya) xa) xa))])) ?_ (fun t k => st9.trans k)
  refine own_pre (B := T9.setTop (mkF m 109 #[.val (.long x0), .second, .val (.long x1), .second, .val (.long x2), .second, .val (.long x3), .second, .val (.long pg), .second, .val (.long xa), .second, .val (.long ya), .second, .val (.long za), .second, .val (.ref b1), .val (.int (own_r (fun _ => 0) xa)), .val (.long (own_asz (fun _ => 0) xa (0 : Int64))), .second, .val (.int (own_r (own_add (fun _ => 0) xa) ya)), .val (.long (own_asz (own_add (fun _ => 0) xa) ya (own_asz (fun _ => 0) xa (0 : Int64)))), .second, .val (.int (own_r (own_add (own_add (fun _ => 0) xa) ya) xa)), .val (.long (own_asz (own_add (own_add (fun _ => 0) xa) ya) xa (own_asz (own_add (fun _ => 0) xa) ya (own_asz (fun _ => 0) xa (0 : Int64))))), .second, .val (.int (own_c (own_add (own_add (own_add (fun _ => 0) xa) ya) xa) xa)), .unset, .unset, .unset, .unset, .unset, .unset] [])) ?_ fun t k => XS.istore X9.here hx rfl (hb hby at_107) rfl  (l' := #[.val (.long x0), .second, .val (.long x1), .second, .val (.long x2), .second, .val (.long x3), .second, .val (.long pg), .second, .val (.long xa), .second, .val (.long ya), .second, .val (.long za), .second, .val (.ref b1), .val (.int (own_r (fun _ => 0) xa)), .val (.long (own_asz (fun _ => 0) xa (0 : Int64))), .second, .val (.int (own_r (own_add (fun _ => 0) xa) ya)), .val (.long (own_asz (own_add (fun _ => 0) xa) ya (own_asz (fun _ => 0) xa (0 : Int64)))), .second, .val (.int (own_r (own_add (own_add (fun _ => 0) xa) ya) xa)), .val (.long (own_asz (own_add (own_add (fun _ => 0) xa) ya) xa (own_asz (own_add (fun _ => 0) xa) ya (own_asz (fun _ => 0) xa (0 : Int64))))), .second, .val (.int (own_c (own_add (own_add (own_add (fun _ => 0) xa) ya) xa) xa)), .unset, .unset, .unset, .unset, .unset, .unset]) rfl k
  refine own_pre (B := T9.setTop (mkF m 111 #[.val (.long x0), .second, .val (.long x1), .second, .val (.long x2), .second, .val (.long x3), .second, .val (.long pg), .second, .val (.long xa), .second, .val (.long ya), .second, .val (.long za), .second, .val (.ref b1), .val (.int (own_r (fun _ => 0) xa)), .val (.long (own_asz (fun _ => 0) xa (0 : Int64))), .second, .val (.int (own_r (own_add (fun _ => 0) xa) ya)), .val (.long (own_asz (own_add (fun _ => 0) xa) ya (own_asz (fun _ => 0) xa (0 : Int64)))), .second, .val (.int (own_r (own_add (own_add (fun _ => 0) xa) ya) xa)), .val (.long (own_asz (own_add (own_add (fun _ => 0) xa) ya) xa (own_asz (own_add (fun _ => 0) xa) ya (own_asz (fun _ => 0) xa (0 : Int64))))), .second, .val (.int (own_c (own_add (own_add (own_add (fun _ => 0) xa) ya) xa) xa)), .unset, .unset, .unset, .unset, .unset, .unset] [(.ref b1)])) ?_ fun t k => XS.aload X9.here hx rfl (hb hby at_109) rfl rfl k
  refine own_pre (B := T9.setTop (mkF m 113 #[.val (.long x0), .second, .val (.long x1), .second, .val (.long x2), .second, .val (.long x3), .second, .val (.long pg), .second, .val (.long xa), .second, .val (.long ya), .second, .val (.long za), .second, .val (.ref b1), .val (.int (own_r (fun _ => 0) xa)), .val (.long (own_asz (fun _ => 0) xa (0 : Int64))), .second, .val (.int (own_r (own_add (fun _ => 0) xa) ya)), .val (.long (own_asz (own_add (fun _ => 0) xa) ya (own_asz (fun _ => 0) xa (0 : Int64)))), .second, .val (.int (own_r (own_add (own_add (fun _ => 0) xa) ya) xa)), .val (.long (own_asz (own_add (own_add (fun _ => 0) xa) ya) xa (own_asz (own_add (fun _ => 0) xa) ya (own_asz (fun _ => 0) xa (0 : Int64))))), .second, .val (.int (own_c (own_add (own_add (own_add (fun _ => 0) xa) ya) xa) xa)), .unset, .unset, .unset, .unset, .unset, .unset] [(.long ya), (.ref b1)])) ?_ fun t k => XS.lload X9.here hx rfl (hb hby at_111) rfl  k
  obtain ⟨cq10, kq10, q10a, q10b, q10c⟩ := isOf hZ e9 E7
  obtain ⟨_, _, ⟨T10, L10, k10, n10⟩, -, X10, ⟨Lc10, hQ10, l10, y10, z10⟩, st10⟩ := X9.virtualBack hx (y := (⟨"com/example/leafchain/leafchain/PageSet", "contains", "(J)Z"⟩ : MethodName)) (z := (⟨"com/example/leafchain/leafchain/PageSet", "contains", "(J)Z"⟩ : MethodName)) hown (mvT hZ (hw _ (List.mem_of_getElem? (i := 31) rfl))) (mvT hZ (hw _ (List.mem_of_getElem? (i := 32) rfl))) (notFace_of_selects (args := #[]) (mvT hZ (hw _ (List.mem_of_getElem? (i := 34) rfl)))) (mvT hZ (hw _ (List.mem_of_getElem? (i := 34) rfl))) (mvT hZ (hw _ (List.mem_of_getElem? (i := 33) rfl))) (by decide) (backOf (W := 0) (rm6 l Z a0 hw [] b1 ya bw (own_N pg) (own_add (own_add (own_add (fun _ => 0) xa) ya) xa) T7.heap n0 Z7 Fw7 Aw7 hjya hiya) hZ (hw _ (List.mem_of_getElem? (i := 35) rfl)) (hw _ (List.mem_of_getElem? (i := 4) rfl)) (by decide) (by decide)) q10a q10c (g := (mkF m 113 #[.val (.long x0), .second, .val (.long x1), .second, .val (.long x2), .second, .val (.long x3), .second, .val (.long pg), .second, .val (.long xa), .second, .val (.long ya), .second, .val (.long za), .second, .val (.ref b1), .val (.int (own_r (fun _ => 0) xa)), .val (.long (own_asz (fun _ => 0) xa (0 : Int64))), .second, .val (.int (own_r (own_add (fun _ => 0) xa) ya)), .val (.long (own_asz (own_add (fun _ => 0) xa) ya (own_asz (fun _ => 0) xa (0 : Int64)))), .second, .val (.int (own_r (own_add (own_add (fun _ => 0) xa) ya) xa)), .val (.long (own_asz (own_add (own_add (fun _ => 0) xa) ya) xa (own_asz (own_add (fun _ => 0) xa) ya (own_asz (fun _ => 0) xa (0 : Int64))))), .second, .val (.int (own_c (own_add (own_add (own_add (fun _ => 0) xa) ya) xa) xa)), .unset, .unset, .unset, .unset, .unset, .unset] [(.long ya), (.ref b1)])) rfl (by rw [hml]; rfl) (Steps.refl _) (argsL := [(.long ya)]) (rest := []) (lenOf pd__J_Z rfl) rfl (by show 2 * 0 + _ ≤ _; exact Nat.le_of_eq rfl) (hb hby at_113) (fun _ _ => ⟨rfl, e9, (by decide : 2 + 0 ≤ _), (by decide : 66 + 0 ≤ _)⟩)
  dsimp only [Pt.U, Pt.locs, Pt.cells, Pt.slots] at X10 l10 y10 z10 st10 hQ10
  subst l10 y10 z10
  obtain ⟨rfl, Nq10, e10⟩ := hQ10
  have N10 := Fr.app N9 Nq10
  refine own_pre (B := T10.setTop (mkF m 116 #[.val (.long x0), .second, .val (.long x1), .second, .val (.long x2), .second, .val (.long x3), .second, .val (.long pg), .second, .val (.long xa), .second, .val (.long ya), .second, .val (.long za), .second, .val (.ref b1), .val (.int (own_r (fun _ => 0) xa)), .val (.long (own_asz (fun _ => 0) xa (0 : Int64))), .second, .val (.int (own_r (own_add (fun _ => 0) xa) ya)), .val (.long (own_asz (own_add (fun _ => 0) xa) ya (own_asz (fun _ => 0) xa (0 : Int64)))), .second, .val (.int (own_r (own_add (own_add (fun _ => 0) xa) ya) xa)), .val (.long (own_asz (own_add (own_add (fun _ => 0) xa) ya) xa (own_asz (own_add (fun _ => 0) xa) ya (own_asz (fun _ => 0) xa (0 : Int64))))), .second, .val (.int (own_c (own_add (own_add (own_add (fun _ => 0) xa) ya) xa) xa)), .unset, .unset, .unset, .unset, .unset, .unset] [(.int (own_c (own_add (own_add (own_add (fun _ => 0) xa) ya) xa) ya))])) ?_ (fun t k => st10.trans k)
  refine own_pre (B := T10.setTop (mkF m 118 #[.val (.long x0), .second, .val (.long x1), .second, .val (.long x2), .second, .val (.long x3), .second, .val (.long pg), .second, .val (.long xa), .second, .val (.long ya), .second, .val (.long za), .second, .val (.ref b1), .val (.int (own_r (fun _ => 0) xa)), .val (.long (own_asz (fun _ => 0) xa (0 : Int64))), .second, .val (.int (own_r (own_add (fun _ => 0) xa) ya)), .val (.long (own_asz (own_add (fun _ => 0) xa) ya (own_asz (fun _ => 0) xa (0 : Int64)))), .second, .val (.int (own_r (own_add (own_add (fun _ => 0) xa) ya) xa)), .val (.long (own_asz (own_add (own_add (fun _ => 0) xa) ya) xa (own_asz (own_add (fun _ => 0) xa) ya (own_asz (fun _ => 0) xa (0 : Int64))))), .second, .val (.int (own_c (own_add (own_add (own_add (fun _ => 0) xa) ya) xa) xa)), .val (.int (own_c (own_add (own_add (own_add (fun _ => 0) xa) ya) xa) ya)), .unset, .unset, .unset, .unset, .unset] [])) ?_ fun t k => XS.istore X10.here hx rfl (hb hby at_116) rfl  (l' := #[.val (.long x0), .second, .val (.long x1), .second, .val (.long x2), .second, .val (.long x3), .second, .val (.long pg), .second, .val (.long xa), .second, .val (.long ya), .second, .val (.long za), .second, .val (.ref b1), .val (.int (own_r (fun _ => 0) xa)), .val (.long (own_asz (fun _ => 0) xa (0 : Int64))), .second, .val (.int (own_r (own_add (fun _ => 0) xa) ya)), .val (.long (own_asz (own_add (fun _ => 0) xa) ya (own_asz (fun _ => 0) xa (0 : Int64)))), .second, .val (.int (own_r (own_add (own_add (fun _ => 0) xa) ya) xa)), .val (.long (own_asz (own_add (own_add (fun _ => 0) xa) ya) xa (own_asz (own_add (fun _ => 0) xa) ya (own_asz (fun _ => 0) xa (0 : Int64))))), .second, .val (.int (own_c (own_add (own_add (own_add (fun _ => 0) xa) ya) xa) xa)), .val (.int (own_c (own_add (own_add (own_add (fun _ => 0) xa) ya) xa) ya)), .unset, .unset, .unset, .unset, .unset]) rfl k
  refine own_pre (B := T10.setTop (mkF m 120 #[.val (.long x0), .second, .val (.long x1), .second, .val (.long x2), .second, .val (.long x3), .second, .val (.long pg), .second, .val (.long xa), .second, .val (.long ya), .second, .val (.long za), .second, .val (.ref b1), .val (.int (own_r (fun _ => 0) xa)), .val (.long (own_asz (fun _ => 0) xa (0 : Int64))), .second, .val (.int (own_r (own_add (fun _ => 0) xa) ya)), .val (.long (own_asz (own_add (fun _ => 0) xa) ya (own_asz (fun _ => 0) xa (0 : Int64)))), .second, .val (.int (own_r (own_add (own_add (fun _ => 0) xa) ya) xa)), .val (.long (own_asz (own_add (own_add (fun _ => 0) xa) ya) xa (own_asz (own_add (fun _ => 0) xa) ya (own_asz (fun _ => 0) xa (0 : Int64))))), .second, .val (.int (own_c (own_add (own_add (own_add (fun _ => 0) xa) ya) xa) xa)), .val (.int (own_c (own_add (own_add (own_add (fun _ => 0) xa) ya) xa) ya)), .unset, .unset, .unset, .unset, .unset] [(.ref b1)])) ?_ fun t k => XS.aload X10.here hx rfl (hb hby at_118) rfl rfl k
  refine own_pre (B := T10.setTop (mkF m 122 #[.val (.long x0), .second, .val (.long x1), .second, .val (.long x2), .second, .val (.long x3), .second, .val (.long pg), .second, .val (.long xa), .second, .val (.long ya), .second, .val (.long za), .second, .val (.ref b1), .val (.int (own_r (fun _ => 0) xa)), .val (.long (own_asz (fun _ => 0) xa (0 : Int64))), .second, .val (.int (own_r (own_add (fun _ => 0) xa) ya)), .val (.long (own_asz (own_add (fun _ => 0) xa) ya (own_asz (fun _ => 0) xa (0 : Int64)))), .second, .val (.int (own_r (own_add (own_add (fun _ => 0) xa) ya) xa)), .val (.long (own_asz (own_add (own_add (fun _ => 0) xa) ya) xa (own_asz (own_add (fun _ => 0) xa) ya (own_asz (fun _ => 0) xa (0 : Int64))))), .second, .val (.int (own_c (own_add (own_add (own_add (fun _ => 0) xa) ya) xa) xa)), .val (.int (own_c (own_add (own_add (own_add (fun _ => 0) xa) ya) xa) ya)), .unset, .unset, .unset, .unset, .unset] [(.long za), (.ref b1)])) ?_ fun t k => XS.lload X10.here hx rfl (hb hby at_120) rfl  k
  obtain ⟨cq11, kq11, q11a, q11b, q11c⟩ := isOf hZ e10 E7
  obtain ⟨_, _, ⟨T11, L11, k11, n11⟩, -, X11, ⟨Lc11, hQ11, l11, y11, z11⟩, st11⟩ := X10.virtualBack hx (y := (⟨"com/example/leafchain/leafchain/PageSet", "contains", "(J)Z"⟩ : MethodName)) (z := (⟨"com/example/leafchain/leafchain/PageSet", "contains", "(J)Z"⟩ : MethodName)) hown (mvT hZ (hw _ (List.mem_of_getElem? (i := 31) rfl))) (mvT hZ (hw _ (List.mem_of_getElem? (i := 32) rfl))) (notFace_of_selects (args := #[]) (mvT hZ (hw _ (List.mem_of_getElem? (i := 34) rfl)))) (mvT hZ (hw _ (List.mem_of_getElem? (i := 34) rfl))) (mvT hZ (hw _ (List.mem_of_getElem? (i := 33) rfl))) (by decide) (backOf (W := 0) (rm6 l Z a0 hw [] b1 za bw (own_N pg) (own_add (own_add (own_add (fun _ => 0) xa) ya) xa) T7.heap n0 Z7 Fw7 Aw7 hjza hiza) hZ (hw _ (List.mem_of_getElem? (i := 35) rfl)) (hw _ (List.mem_of_getElem? (i := 4) rfl)) (by decide) (by decide)) q11a q11c (g := (mkF m 122 #[.val (.long x0), .second, .val (.long x1), .second, .val (.long x2), .second, .val (.long x3), .second, .val (.long pg), .second, .val (.long xa), .second, .val (.long ya), .second, .val (.long za), .second, .val (.ref b1), .val (.int (own_r (fun _ => 0) xa)), .val (.long (own_asz (fun _ => 0) xa (0 : Int64))), .second, .val (.int (own_r (own_add (fun _ => 0) xa) ya)), .val (.long (own_asz (own_add (fun _ => 0) xa) ya (own_asz (fun _ => 0) xa (0 : Int64)))), .second, .val (.int (own_r (own_add (own_add (fun _ => 0) xa) ya) xa)), .val (.long (own_asz (own_add (own_add (fun _ => 0) xa) ya) xa (own_asz (own_add (fun _ => 0) xa) ya (own_asz (fun _ => 0) xa (0 : Int64))))), .second, .val (.int (own_c (own_add (own_add (own_add (fun _ => 0) xa) ya) xa) xa)), .val (.int (own_c (own_add (own_add (own_add (fun _ => 0) xa) ya) xa) ya)), .unset, .unset, .unset, .unset, .unset] [(.long za), (.ref b1)])) rfl (by rw [hml]; rfl) (Steps.refl _) (argsL := [(.long za)]) (rest := []) (lenOf pd__J_Z rfl) rfl (by show 2 * 0 + _ ≤ _; exact Nat.le_of_eq rfl) (hb hby at_122) (fun _ _ => ⟨rfl, e10, (by decide : 2 + 0 ≤ _), (by decide : 66 + 0 ≤ _)⟩)
  dsimp only [Pt.U, Pt.locs, Pt.cells, Pt.slots] at X11 l11 y11 z11 st11 hQ11
  subst l11 y11 z11
  obtain ⟨rfl, Nq11, e11⟩ := hQ11
  have N11 := Fr.app N10 Nq11
  refine own_pre (B := T11.setTop (mkF m 125 #[.val (.long x0), .second, .val (.long x1), .second, .val (.long x2), .second, .val (.long x3), .second, .val (.long pg), .second, .val (.long xa), .second, .val (.long ya), .second, .val (.long za), .second, .val (.ref b1), .val (.int (own_r (fun _ => 0) xa)), .val (.long (own_asz (fun _ => 0) xa (0 : Int64))), .second, .val (.int (own_r (own_add (fun _ => 0) xa) ya)), .val (.long (own_asz (own_add (fun _ => 0) xa) ya (own_asz (fun _ => 0) xa (0 : Int64)))), .second, .val (.int (own_r (own_add (own_add (fun _ => 0) xa) ya) xa)), .val (.long (own_asz (own_add (own_add (fun _ => 0) xa) ya) xa (own_asz (own_add (fun _ => 0) xa) ya (own_asz (fun _ => 0) xa (0 : Int64))))), .second, .val (.int (own_c (own_add (own_add (own_add (fun _ => 0) xa) ya) xa) xa)), .val (.int (own_c (own_add (own_add (own_add (fun _ => 0) xa) ya) xa) ya)), .unset, .unset, .unset, .unset, .unset] [(.int (own_c (own_add (own_add (own_add (fun _ => 0) xa) ya) xa) za))])) ?_ (fun t k => st11.trans k)
  refine own_pre (B := T11.setTop (mkF m 127 #[.val (.long x0), .second, .val (.long x1), .second, .val (.long x2), .second, .val (.long x3), .second, .val (.long pg), .second, .val (.long xa), .second, .val (.long ya), .second, .val (.long za), .second, .val (.ref b1), .val (.int (own_r (fun _ => 0) xa)), .val (.long (own_asz (fun _ => 0) xa (0 : Int64))), .second, .val (.int (own_r (own_add (fun _ => 0) xa) ya)), .val (.long (own_asz (own_add (fun _ => 0) xa) ya (own_asz (fun _ => 0) xa (0 : Int64)))), .second, .val (.int (own_r (own_add (own_add (fun _ => 0) xa) ya) xa)), .val (.long (own_asz (own_add (own_add (fun _ => 0) xa) ya) xa (own_asz (own_add (fun _ => 0) xa) ya (own_asz (fun _ => 0) xa (0 : Int64))))), .second, .val (.int (own_c (own_add (own_add (own_add (fun _ => 0) xa) ya) xa) xa)), .val (.int (own_c (own_add (own_add (own_add (fun _ => 0) xa) ya) xa) ya)), .val (.int (own_c (own_add (own_add (own_add (fun _ => 0) xa) ya) xa) za)), .unset, .unset, .unset, .unset] [])) ?_ fun t k => XS.istore X11.here hx rfl (hb hby at_125) rfl  (l' := #[.val (.long x0), .second, .val (.long x1), .second, .val (.long x2), .second, .val (.long x3), .second, .val (.long pg), .second, .val (.long xa), .second, .val (.long ya), .second, .val (.long za), .second, .val (.ref b1), .val (.int (own_r (fun _ => 0) xa)), .val (.long (own_asz (fun _ => 0) xa (0 : Int64))), .second, .val (.int (own_r (own_add (fun _ => 0) xa) ya)), .val (.long (own_asz (own_add (fun _ => 0) xa) ya (own_asz (fun _ => 0) xa (0 : Int64)))), .second, .val (.int (own_r (own_add (own_add (fun _ => 0) xa) ya) xa)), .val (.long (own_asz (own_add (own_add (fun _ => 0) xa) ya) xa (own_asz (own_add (fun _ => 0) xa) ya (own_asz (fun _ => 0) xa (0 : Int64))))), .second, .val (.int (own_c (own_add (own_add (own_add (fun _ => 0) xa) ya) xa) xa)), .val (.int (own_c (own_add (own_add (own_add (fun _ => 0) xa) ya) xa) ya)), .val (.int (own_c (own_add (own_add (own_add (fun _ => 0) xa) ya) xa) za)), .unset, .unset, .unset, .unset]) rfl k
  refine own_pre (B := T11.setTop (mkF m 129 #[.val (.long x0), .second, .val (.long x1), .second, .val (.long x2), .second, .val (.long x3), .second, .val (.long pg), .second, .val (.long xa), .second, .val (.long ya), .second, .val (.long za), .second, .val (.ref b1), .val (.int (own_r (fun _ => 0) xa)), .val (.long (own_asz (fun _ => 0) xa (0 : Int64))), .second, .val (.int (own_r (own_add (fun _ => 0) xa) ya)), .val (.long (own_asz (own_add (fun _ => 0) xa) ya (own_asz (fun _ => 0) xa (0 : Int64)))), .second, .val (.int (own_r (own_add (own_add (fun _ => 0) xa) ya) xa)), .val (.long (own_asz (own_add (own_add (fun _ => 0) xa) ya) xa (own_asz (own_add (fun _ => 0) xa) ya (own_asz (fun _ => 0) xa (0 : Int64))))), .second, .val (.int (own_c (own_add (own_add (own_add (fun _ => 0) xa) ya) xa) xa)), .val (.int (own_c (own_add (own_add (own_add (fun _ => 0) xa) ya) xa) ya)), .val (.int (own_c (own_add (own_add (own_add (fun _ => 0) xa) ya) xa) za)), .unset, .unset, .unset, .unset] [(.long xa)])) ?_ fun t k => XS.lload X11.here hx rfl (hb hby at_127) rfl  k
  refine own_pre (B := T11.setTop (mkF m 131 #[.val (.long x0), .second, .val (.long x1), .second, .val (.long x2), .second, .val (.long x3), .second, .val (.long pg), .second, .val (.long xa), .second, .val (.long ya), .second, .val (.long za), .second, .val (.ref b1), .val (.int (own_r (fun _ => 0) xa)), .val (.long (own_asz (fun _ => 0) xa (0 : Int64))), .second, .val (.int (own_r (own_add (fun _ => 0) xa) ya)), .val (.long (own_asz (own_add (fun _ => 0) xa) ya (own_asz (fun _ => 0) xa (0 : Int64)))), .second, .val (.int (own_r (own_add (own_add (fun _ => 0) xa) ya) xa)), .val (.long (own_asz (own_add (own_add (fun _ => 0) xa) ya) xa (own_asz (own_add (fun _ => 0) xa) ya (own_asz (fun _ => 0) xa (0 : Int64))))), .second, .val (.int (own_c (own_add (own_add (own_add (fun _ => 0) xa) ya) xa) xa)), .val (.int (own_c (own_add (own_add (own_add (fun _ => 0) xa) ya) xa) ya)), .val (.int (own_c (own_add (own_add (own_add (fun _ => 0) xa) ya) xa) za)), .unset, .unset, .unset, .unset] [(.long ya), (.long xa)])) ?_ fun t k => XS.lload X11.here hx rfl (hb hby at_129) rfl  k
  refine own_pre (B := T11.setTop (mkF m 132 #[.val (.long x0), .second, .val (.long x1), .second, .val (.long x2), .second, .val (.long x3), .second, .val (.long pg), .second, .val (.long xa), .second, .val (.long ya), .second, .val (.long za), .second, .val (.ref b1), .val (.int (own_r (fun _ => 0) xa)), .val (.long (own_asz (fun _ => 0) xa (0 : Int64))), .second, .val (.int (own_r (own_add (fun _ => 0) xa) ya)), .val (.long (own_asz (own_add (fun _ => 0) xa) ya (own_asz (fun _ => 0) xa (0 : Int64)))), .second, .val (.int (own_r (own_add (own_add (fun _ => 0) xa) ya) xa)), .val (.long (own_asz (own_add (own_add (fun _ => 0) xa) ya) xa (own_asz (own_add (fun _ => 0) xa) ya (own_asz (fun _ => 0) xa (0 : Int64))))), .second, .val (.int (own_c (own_add (own_add (own_add (fun _ => 0) xa) ya) xa) xa)), .val (.int (own_c (own_add (own_add (own_add (fun _ => 0) xa) ya) xa) ya)), .val (.int (own_c (own_add (own_add (own_add (fun _ => 0) xa) ya) xa) za)), .unset, .unset, .unset, .unset] [(.int (lcmpW xa ya))])) ?_ fun t k => XS.lcmp X11.here hx rfl (hb hby at_131) rfl k
  have Jj13 : ∀ (T14 : State) (l14 : List Loc) (X14 : Stand p l e room_1 s m #[(.long x0), (.long x1), (.long x2), (.long x3)] below meth c T14 l14 2 66) (N14 : Fr n0 l14) (e14 : T14.heap = T7.heap) (j13_s0 : Int32) (hvj13_s0 : j13_s0 = (if xa = ya then (1 : Int32) else (0 : Int32))), own_E p e below s (Q0 Z x0 x1 x2 x3 h0 n0) 16 256 (T14.setTop (mkF m 140 #[.val (.long x0), .second, .val (.long x1), .second, .val (.long x2), .second, .val (.long x3), .second, .val (.long pg), .second, .val (.long xa), .second, .val (.long ya), .second, .val (.long za), .second, .val (.ref b1), .val (.int (own_r (fun _ => 0) xa)), .val (.long (own_asz (fun _ => 0) xa (0 : Int64))), .second, .val (.int (own_r (own_add (fun _ => 0) xa) ya)), .val (.long (own_asz (own_add (fun _ => 0) xa) ya (own_asz (fun _ => 0) xa (0 : Int64)))), .second, .val (.int (own_r (own_add (own_add (fun _ => 0) xa) ya) xa)), .val (.long (own_asz (own_add (own_add (fun _ => 0) xa) ya) xa (own_asz (own_add (fun _ => 0) xa) ya (own_asz (fun _ => 0) xa (0 : Int64))))), .second, .val (.int (own_c (own_add (own_add (own_add (fun _ => 0) xa) ya) xa) xa)), .val (.int (own_c (own_add (own_add (own_add (fun _ => 0) xa) ya) xa) ya)), .val (.int (own_c (own_add (own_add (own_add (fun _ => 0) xa) ya) xa) za)), .unset, .unset, .unset, .unset] [(.int j13_s0)])) := by
    intro T14 l14 X14 N14 e14 j13_s0 hvj13_s0
    refine own_pre (B := T14.setTop (mkF m 142 #[.val (.long x0), .second, .val (.long x1), .second, .val (.long x2), .second, .val (.long x3), .second, .val (.long pg), .second, .val (.long xa), .second, .val (.long ya), .second, .val (.long za), .second, .val (.ref b1), .val (.int (own_r (fun _ => 0) xa)), .val (.long (own_asz (fun _ => 0) xa (0 : Int64))), .second, .val (.int (own_r (own_add (fun _ => 0) xa) ya)), .val (.long (own_asz (own_add (fun _ => 0) xa) ya (own_asz (fun _ => 0) xa (0 : Int64)))), .second, .val (.int (own_r (own_add (own_add (fun _ => 0) xa) ya) xa)), .val (.long (own_asz (own_add (own_add (fun _ => 0) xa) ya) xa (own_asz (own_add (fun _ => 0) xa) ya (own_asz (fun _ => 0) xa (0 : Int64))))), .second, .val (.int (own_c (own_add (own_add (own_add (fun _ => 0) xa) ya) xa) xa)), .val (.int (own_c (own_add (own_add (own_add (fun _ => 0) xa) ya) xa) ya)), .val (.int (own_c (own_add (own_add (own_add (fun _ => 0) xa) ya) xa) za)), .val (.int j13_s0), .unset, .unset, .unset] [])) ?_ fun t k => XS.istore X14.here hx rfl (hb hby at_140) rfl  (l' := #[.val (.long x0), .second, .val (.long x1), .second, .val (.long x2), .second, .val (.long x3), .second, .val (.long pg), .second, .val (.long xa), .second, .val (.long ya), .second, .val (.long za), .second, .val (.ref b1), .val (.int (own_r (fun _ => 0) xa)), .val (.long (own_asz (fun _ => 0) xa (0 : Int64))), .second, .val (.int (own_r (own_add (fun _ => 0) xa) ya)), .val (.long (own_asz (own_add (fun _ => 0) xa) ya (own_asz (fun _ => 0) xa (0 : Int64)))), .second, .val (.int (own_r (own_add (own_add (fun _ => 0) xa) ya) xa)), .val (.long (own_asz (own_add (own_add (fun _ => 0) xa) ya) xa (own_asz (own_add (fun _ => 0) xa) ya (own_asz (fun _ => 0) xa (0 : Int64))))), .second, .val (.int (own_c (own_add (own_add (own_add (fun _ => 0) xa) ya) xa) xa)), .val (.int (own_c (own_add (own_add (own_add (fun _ => 0) xa) ya) xa) ya)), .val (.int (own_c (own_add (own_add (own_add (fun _ => 0) xa) ya) xa) za)), .val (.int j13_s0), .unset, .unset, .unset]) rfl k
    refine own_pre (B := T14.setTop (mkF m 144 #[.val (.long x0), .second, .val (.long x1), .second, .val (.long x2), .second, .val (.long x3), .second, .val (.long pg), .second, .val (.long xa), .second, .val (.long ya), .second, .val (.long za), .second, .val (.ref b1), .val (.int (own_r (fun _ => 0) xa)), .val (.long (own_asz (fun _ => 0) xa (0 : Int64))), .second, .val (.int (own_r (own_add (fun _ => 0) xa) ya)), .val (.long (own_asz (own_add (fun _ => 0) xa) ya (own_asz (fun _ => 0) xa (0 : Int64)))), .second, .val (.int (own_r (own_add (own_add (fun _ => 0) xa) ya) xa)), .val (.long (own_asz (own_add (own_add (fun _ => 0) xa) ya) xa (own_asz (own_add (fun _ => 0) xa) ya (own_asz (fun _ => 0) xa (0 : Int64))))), .second, .val (.int (own_c (own_add (own_add (own_add (fun _ => 0) xa) ya) xa) xa)), .val (.int (own_c (own_add (own_add (own_add (fun _ => 0) xa) ya) xa) ya)), .val (.int (own_c (own_add (own_add (own_add (fun _ => 0) xa) ya) xa) za)), .val (.int j13_s0), .unset, .unset, .unset] [(.int j13_s0)])) ?_ fun t k => XS.iload X14.here hx rfl (hb hby at_142) rfl  k
    have Jj16 : ∀ (T17 : State) (l17 : List Loc) (X17 : Stand p l e room_1 s m #[(.long x0), (.long x1), (.long x2), (.long x3)] below meth c T17 l17 2 66) (N17 : Fr n0 l17) (e17 : T17.heap = T7.heap) (j16_s0 : Int64) (hvj16_s0 : j16_s0 = (if j13_s0 = (0 : Int32) then (2 : Int64) else (1 : Int64))), own_E p e below s (Q0 Z x0 x1 x2 x3 h0 n0) 16 256 (T17.setTop (mkF m 154 #[.val (.long x0), .second, .val (.long x1), .second, .val (.long x2), .second, .val (.long x3), .second, .val (.long pg), .second, .val (.long xa), .second, .val (.long ya), .second, .val (.long za), .second, .val (.ref b1), .val (.int (own_r (fun _ => 0) xa)), .val (.long (own_asz (fun _ => 0) xa (0 : Int64))), .second, .val (.int (own_r (own_add (fun _ => 0) xa) ya)), .val (.long (own_asz (own_add (fun _ => 0) xa) ya (own_asz (fun _ => 0) xa (0 : Int64)))), .second, .val (.int (own_r (own_add (own_add (fun _ => 0) xa) ya) xa)), .val (.long (own_asz (own_add (own_add (fun _ => 0) xa) ya) xa (own_asz (own_add (fun _ => 0) xa) ya (own_asz (fun _ => 0) xa (0 : Int64))))), .second, .val (.int (own_c (own_add (own_add (own_add (fun _ => 0) xa) ya) xa) xa)), .val (.int (own_c (own_add (own_add (own_add (fun _ => 0) xa) ya) xa) ya)), .val (.int (own_c (own_add (own_add (own_add (fun _ => 0) xa) ya) xa) za)), .val (.int j13_s0), .unset, .unset, .unset] [(.long j16_s0)])) := by
      intro T17 l17 X17 N17 e17 j16_s0 hvj16_s0
      refine own_pre (B := T17.setTop (mkF m 156 #[.val (.long x0), .second, .val (.long x1), .second, .val (.long x2), .second, .val (.long x3), .second, .val (.long pg), .second, .val (.long xa), .second, .val (.long ya), .second, .val (.long za), .second, .val (.ref b1), .val (.int (own_r (fun _ => 0) xa)), .val (.long (own_asz (fun _ => 0) xa (0 : Int64))), .second, .val (.int (own_r (own_add (fun _ => 0) xa) ya)), .val (.long (own_asz (own_add (fun _ => 0) xa) ya (own_asz (fun _ => 0) xa (0 : Int64)))), .second, .val (.int (own_r (own_add (own_add (fun _ => 0) xa) ya) xa)), .val (.long (own_asz (own_add (own_add (fun _ => 0) xa) ya) xa (own_asz (own_add (fun _ => 0) xa) ya (own_asz (fun _ => 0) xa (0 : Int64))))), .second, .val (.int (own_c (own_add (own_add (own_add (fun _ => 0) xa) ya) xa) xa)), .val (.int (own_c (own_add (own_add (own_add (fun _ => 0) xa) ya) xa) ya)), .val (.int (own_c (own_add (own_add (own_add (fun _ => 0) xa) ya) xa) za)), .val (.int j13_s0), .val (.long j16_s0), .second, .unset] [])) ?_ fun t k => XS.lstore X17.here hx rfl (hb hby at_154) rfl  (l' := #[.val (.long x0), .second, .val (.long x1), .second, .val (.long x2), .second, .val (.long x3), .second, .val (.long pg), .second, .val (.long xa), .second, .val (.long ya), .second, .val (.long za), .second, .val (.ref b1), .val (.int (own_r (fun _ => 0) xa)), .val (.long (own_asz (fun _ => 0) xa (0 : Int64))), .second, .val (.int (own_r (own_add (fun _ => 0) xa) ya)), .val (.long (own_asz (own_add (fun _ => 0) xa) ya (own_asz (fun _ => 0) xa (0 : Int64)))), .second, .val (.int (own_r (own_add (own_add (fun _ => 0) xa) ya) xa)), .val (.long (own_asz (own_add (own_add (fun _ => 0) xa) ya) xa (own_asz (own_add (fun _ => 0) xa) ya (own_asz (fun _ => 0) xa (0 : Int64))))), .second, .val (.int (own_c (own_add (own_add (own_add (fun _ => 0) xa) ya) xa) xa)), .val (.int (own_c (own_add (own_add (own_add (fun _ => 0) xa) ya) xa) ya)), .val (.int (own_c (own_add (own_add (own_add (fun _ => 0) xa) ya) xa) za)), .val (.int j13_s0), .val (.long j16_s0), .second, .unset]) rfl k
      refine own_pre (B := T17.setTop (mkF m 158 #[.val (.long x0), .second, .val (.long x1), .second, .val (.long x2), .second, .val (.long x3), .second, .val (.long pg), .second, .val (.long xa), .second, .val (.long ya), .second, .val (.long za), .second, .val (.ref b1), .val (.int (own_r (fun _ => 0) xa)), .val (.long (own_asz (fun _ => 0) xa (0 : Int64))), .second, .val (.int (own_r (own_add (fun _ => 0) xa) ya)), .val (.long (own_asz (own_add (fun _ => 0) xa) ya (own_asz (fun _ => 0) xa (0 : Int64)))), .second, .val (.int (own_r (own_add (own_add (fun _ => 0) xa) ya) xa)), .val (.long (own_asz (own_add (own_add (fun _ => 0) xa) ya) xa (own_asz (own_add (fun _ => 0) xa) ya (own_asz (fun _ => 0) xa (0 : Int64))))), .second, .val (.int (own_c (own_add (own_add (own_add (fun _ => 0) xa) ya) xa) xa)), .val (.int (own_c (own_add (own_add (own_add (fun _ => 0) xa) ya) xa) ya)), .val (.int (own_c (own_add (own_add (own_add (fun _ => 0) xa) ya) xa) za)), .val (.int j13_s0), .val (.long j16_s0), .second, .unset] [(.long za)])) ?_ fun t k => XS.lload X17.here hx rfl (hb hby at_156) rfl  k
      refine own_pre (B := T17.setTop (mkF m 160 #[.val (.long x0), .second, .val (.long x1), .second, .val (.long x2), .second, .val (.long x3), .second, .val (.long pg), .second, .val (.long xa), .second, .val (.long ya), .second, .val (.long za), .second, .val (.ref b1), .val (.int (own_r (fun _ => 0) xa)), .val (.long (own_asz (fun _ => 0) xa (0 : Int64))), .second, .val (.int (own_r (own_add (fun _ => 0) xa) ya)), .val (.long (own_asz (own_add (fun _ => 0) xa) ya (own_asz (fun _ => 0) xa (0 : Int64)))), .second, .val (.int (own_r (own_add (own_add (fun _ => 0) xa) ya) xa)), .val (.long (own_asz (own_add (own_add (fun _ => 0) xa) ya) xa (own_asz (own_add (fun _ => 0) xa) ya (own_asz (fun _ => 0) xa (0 : Int64))))), .second, .val (.int (own_c (own_add (own_add (own_add (fun _ => 0) xa) ya) xa) xa)), .val (.int (own_c (own_add (own_add (own_add (fun _ => 0) xa) ya) xa) ya)), .val (.int (own_c (own_add (own_add (own_add (fun _ => 0) xa) ya) xa) za)), .val (.int j13_s0), .val (.long j16_s0), .second, .unset] [(.long xa), (.long za)])) ?_ fun t k => XS.lload X17.here hx rfl (hb hby at_158) rfl  k
      refine own_pre (B := T17.setTop (mkF m 161 #[.val (.long x0), .second, .val (.long x1), .second, .val (.long x2), .second, .val (.long x3), .second, .val (.long pg), .second, .val (.long xa), .second, .val (.long ya), .second, .val (.long za), .second, .val (.ref b1), .val (.int (own_r (fun _ => 0) xa)), .val (.long (own_asz (fun _ => 0) xa (0 : Int64))), .second, .val (.int (own_r (own_add (fun _ => 0) xa) ya)), .val (.long (own_asz (own_add (fun _ => 0) xa) ya (own_asz (fun _ => 0) xa (0 : Int64)))), .second, .val (.int (own_r (own_add (own_add (fun _ => 0) xa) ya) xa)), .val (.long (own_asz (own_add (own_add (fun _ => 0) xa) ya) xa (own_asz (own_add (fun _ => 0) xa) ya (own_asz (fun _ => 0) xa (0 : Int64))))), .second, .val (.int (own_c (own_add (own_add (own_add (fun _ => 0) xa) ya) xa) xa)), .val (.int (own_c (own_add (own_add (own_add (fun _ => 0) xa) ya) xa) ya)), .val (.int (own_c (own_add (own_add (own_add (fun _ => 0) xa) ya) xa) za)), .val (.int j13_s0), .val (.long j16_s0), .second, .unset] [(.int (lcmpW za xa))])) ?_ fun t k => XS.lcmp X17.here hx rfl (hb hby at_160) rfl k
      have Jj19 : ∀ (T20 : State) (l20 : List Loc) (X20 : Stand p l e room_1 s m #[(.long x0), (.long x1), (.long x2), (.long x3)] below meth c T20 l20 2 66) (N20 : Fr n0 l20) (e20 : T20.heap = T7.heap) (j19_s0 : Int32) (hvj19_s0 : j19_s0 = (if za = xa then (1 : Int32) else (if za = ya then (1 : Int32) else (0 : Int32)))), own_E p e below s (Q0 Z x0 x1 x2 x3 h0 n0) 16 256 (T20.setTop (mkF m 177 #[.val (.long x0), .second, .val (.long x1), .second, .val (.long x2), .second, .val (.long x3), .second, .val (.long pg), .second, .val (.long xa), .second, .val (.long ya), .second, .val (.long za), .second, .val (.ref b1), .val (.int (own_r (fun _ => 0) xa)), .val (.long (own_asz (fun _ => 0) xa (0 : Int64))), .second, .val (.int (own_r (own_add (fun _ => 0) xa) ya)), .val (.long (own_asz (own_add (fun _ => 0) xa) ya (own_asz (fun _ => 0) xa (0 : Int64)))), .second, .val (.int (own_r (own_add (own_add (fun _ => 0) xa) ya) xa)), .val (.long (own_asz (own_add (own_add (fun _ => 0) xa) ya) xa (own_asz (own_add (fun _ => 0) xa) ya (own_asz (fun _ => 0) xa (0 : Int64))))), .second, .val (.int (own_c (own_add (own_add (own_add (fun _ => 0) xa) ya) xa) xa)), .val (.int (own_c (own_add (own_add (own_add (fun _ => 0) xa) ya) xa) ya)), .val (.int (own_c (own_add (own_add (own_add (fun _ => 0) xa) ya) xa) za)), .val (.int j13_s0), .val (.long j16_s0), .second, .unset] [(.int j19_s0)])) := by
        intro T20 l20 X20 N20 e20 j19_s0 hvj19_s0
        refine own_pre (B := T20.setTop (mkF m 179 #[.val (.long x0), .second, .val (.long x1), .second, .val (.long x2), .second, .val (.long x3), .second, .val (.long pg), .second, .val (.long xa), .second, .val (.long ya), .second, .val (.long za), .second, .val (.ref b1), .val (.int (own_r (fun _ => 0) xa)), .val (.long (own_asz (fun _ => 0) xa (0 : Int64))), .second, .val (.int (own_r (own_add (fun _ => 0) xa) ya)), .val (.long (own_asz (own_add (fun _ => 0) xa) ya (own_asz (fun _ => 0) xa (0 : Int64)))), .second, .val (.int (own_r (own_add (own_add (fun _ => 0) xa) ya) xa)), .val (.long (own_asz (own_add (own_add (fun _ => 0) xa) ya) xa (own_asz (own_add (fun _ => 0) xa) ya (own_asz (fun _ => 0) xa (0 : Int64))))), .second, .val (.int (own_c (own_add (own_add (own_add (fun _ => 0) xa) ya) xa) xa)), .val (.int (own_c (own_add (own_add (own_add (fun _ => 0) xa) ya) xa) ya)), .val (.int (own_c (own_add (own_add (own_add (fun _ => 0) xa) ya) xa) za)), .val (.int j13_s0), .val (.long j16_s0), .second, .val (.int j19_s0)] [])) ?_ fun t k => XS.istore X20.here hx rfl (hb hby at_177) rfl  (l' := #[.val (.long x0), .second, .val (.long x1), .second, .val (.long x2), .second, .val (.long x3), .second, .val (.long pg), .second, .val (.long xa), .second, .val (.long ya), .second, .val (.long za), .second, .val (.ref b1), .val (.int (own_r (fun _ => 0) xa)), .val (.long (own_asz (fun _ => 0) xa (0 : Int64))), .second, .val (.int (own_r (own_add (fun _ => 0) xa) ya)), .val (.long (own_asz (own_add (fun _ => 0) xa) ya (own_asz (fun _ => 0) xa (0 : Int64)))), .second, .val (.int (own_r (own_add (own_add (fun _ => 0) xa) ya) xa)), .val (.long (own_asz (own_add (own_add (fun _ => 0) xa) ya) xa (own_asz (own_add (fun _ => 0) xa) ya (own_asz (fun _ => 0) xa (0 : Int64))))), .second, .val (.int (own_c (own_add (own_add (own_add (fun _ => 0) xa) ya) xa) xa)), .val (.int (own_c (own_add (own_add (own_add (fun _ => 0) xa) ya) xa) ya)), .val (.int (own_c (own_add (own_add (own_add (fun _ => 0) xa) ya) xa) za)), .val (.int j13_s0), .val (.long j16_s0), .second, .val (.int j19_s0)]) rfl k
        refine own_pre (B := T20.setTop (mkF m 181 #[.val (.long x0), .second, .val (.long x1), .second, .val (.long x2), .second, .val (.long x3), .second, .val (.long pg), .second, .val (.long xa), .second, .val (.long ya), .second, .val (.long za), .second, .val (.ref b1), .val (.int (own_r (fun _ => 0) xa)), .val (.long (own_asz (fun _ => 0) xa (0 : Int64))), .second, .val (.int (own_r (own_add (fun _ => 0) xa) ya)), .val (.long (own_asz (own_add (fun _ => 0) xa) ya (own_asz (fun _ => 0) xa (0 : Int64)))), .second, .val (.int (own_r (own_add (own_add (fun _ => 0) xa) ya) xa)), .val (.long (own_asz (own_add (own_add (fun _ => 0) xa) ya) xa (own_asz (own_add (fun _ => 0) xa) ya (own_asz (fun _ => 0) xa (0 : Int64))))), .second, .val (.int (own_c (own_add (own_add (own_add (fun _ => 0) xa) ya) xa) xa)), .val (.int (own_c (own_add (own_add (own_add (fun _ => 0) xa) ya) xa) ya)), .val (.int (own_c (own_add (own_add (own_add (fun _ => 0) xa) ya) xa) za)), .val (.int j13_s0), .val (.long j16_s0), .second, .val (.int j19_s0)] [(.int (own_r (fun _ => 0) xa))])) ?_ fun t k => XS.iload X20.here hx rfl (hb hby at_179) rfl  k
        refine own_pre (B := T20.setTop (mkF m 184 #[.val (.long x0), .second, .val (.long x1), .second, .val (.long x2), .second, .val (.long x3), .second, .val (.long pg), .second, .val (.long xa), .second, .val (.long ya), .second, .val (.long za), .second, .val (.ref b1), .val (.int (own_r (fun _ => 0) xa)), .val (.long (own_asz (fun _ => 0) xa (0 : Int64))), .second, .val (.int (own_r (own_add (fun _ => 0) xa) ya)), .val (.long (own_asz (own_add (fun _ => 0) xa) ya (own_asz (fun _ => 0) xa (0 : Int64)))), .second, .val (.int (own_r (own_add (own_add (fun _ => 0) xa) ya) xa)), .val (.long (own_asz (own_add (own_add (fun _ => 0) xa) ya) xa (own_asz (own_add (fun _ => 0) xa) ya (own_asz (fun _ => 0) xa (0 : Int64))))), .second, .val (.int (own_c (own_add (own_add (own_add (fun _ => 0) xa) ya) xa) xa)), .val (.int (own_c (own_add (own_add (own_add (fun _ => 0) xa) ya) xa) ya)), .val (.int (own_c (own_add (own_add (own_add (fun _ => 0) xa) ya) xa) za)), .val (.int j13_s0), .val (.long j16_s0), .second, .val (.int j19_s0)] [])) ?_ fun t k => XS.ifNo X20.here hx rfl (hb hby at_181) rfl ((if0 _ _).trans (feq (own_fin1 x0 x1 x2 x3 pg hmpg xa hmxa ya hmya za hmza hpg rxa rya rza j13_s0 hvj13_s0 j16_s0 hvj16_s0 j19_s0 hvj19_s0)).1) k
        refine own_pre (B := T20.setTop (mkF m 186 #[.val (.long x0), .second, .val (.long x1), .second, .val (.long x2), .second, .val (.long x3), .second, .val (.long pg), .second, .val (.long xa), .second, .val (.long ya), .second, .val (.long za), .second, .val (.ref b1), .val (.int (own_r (fun _ => 0) xa)), .val (.long (own_asz (fun _ => 0) xa (0 : Int64))), .second, .val (.int (own_r (own_add (fun _ => 0) xa) ya)), .val (.long (own_asz (own_add (fun _ => 0) xa) ya (own_asz (fun _ => 0) xa (0 : Int64)))), .second, .val (.int (own_r (own_add (own_add (fun _ => 0) xa) ya) xa)), .val (.long (own_asz (own_add (own_add (fun _ => 0) xa) ya) xa (own_asz (own_add (fun _ => 0) xa) ya (own_asz (fun _ => 0) xa (0 : Int64))))), .second, .val (.int (own_c (own_add (own_add (own_add (fun _ => 0) xa) ya) xa) xa)), .val (.int (own_c (own_add (own_add (own_add (fun _ => 0) xa) ya) xa) ya)), .val (.int (own_c (own_add (own_add (own_add (fun _ => 0) xa) ya) xa) za)), .val (.int j13_s0), .val (.long j16_s0), .second, .val (.int j19_s0)] [(.long (own_asz (fun _ => 0) xa (0 : Int64)))])) ?_ fun t k => XS.lload X20.here hx rfl (hb hby at_184) rfl  k
        refine own_pre (B := T20.setTop (mkF m 187 #[.val (.long x0), .second, .val (.long x1), .second, .val (.long x2), .second, .val (.long x3), .second, .val (.long pg), .second, .val (.long xa), .second, .val (.long ya), .second, .val (.long za), .second, .val (.ref b1), .val (.int (own_r (fun _ => 0) xa)), .val (.long (own_asz (fun _ => 0) xa (0 : Int64))), .second, .val (.int (own_r (own_add (fun _ => 0) xa) ya)), .val (.long (own_asz (own_add (fun _ => 0) xa) ya (own_asz (fun _ => 0) xa (0 : Int64)))), .second, .val (.int (own_r (own_add (own_add (fun _ => 0) xa) ya) xa)), .val (.long (own_asz (own_add (own_add (fun _ => 0) xa) ya) xa (own_asz (own_add (fun _ => 0) xa) ya (own_asz (fun _ => 0) xa (0 : Int64))))), .second, .val (.int (own_c (own_add (own_add (own_add (fun _ => 0) xa) ya) xa) xa)), .val (.int (own_c (own_add (own_add (own_add (fun _ => 0) xa) ya) xa) ya)), .val (.int (own_c (own_add (own_add (own_add (fun _ => 0) xa) ya) xa) za)), .val (.int j13_s0), .val (.long j16_s0), .second, .val (.int j19_s0)] [(.long (1 : Int64)), (.long (own_asz (fun _ => 0) xa (0 : Int64)))])) ?_ fun t k => XS.lconst X20.here hx rfl (hb hby at_186) k
        refine own_pre (B := T20.setTop (mkF m 188 #[.val (.long x0), .second, .val (.long x1), .second, .val (.long x2), .second, .val (.long x3), .second, .val (.long pg), .second, .val (.long xa), .second, .val (.long ya), .second, .val (.long za), .second, .val (.ref b1), .val (.int (own_r (fun _ => 0) xa)), .val (.long (own_asz (fun _ => 0) xa (0 : Int64))), .second, .val (.int (own_r (own_add (fun _ => 0) xa) ya)), .val (.long (own_asz (own_add (fun _ => 0) xa) ya (own_asz (fun _ => 0) xa (0 : Int64)))), .second, .val (.int (own_r (own_add (own_add (fun _ => 0) xa) ya) xa)), .val (.long (own_asz (own_add (own_add (fun _ => 0) xa) ya) xa (own_asz (own_add (fun _ => 0) xa) ya (own_asz (fun _ => 0) xa (0 : Int64))))), .second, .val (.int (own_c (own_add (own_add (own_add (fun _ => 0) xa) ya) xa) xa)), .val (.int (own_c (own_add (own_add (own_add (fun _ => 0) xa) ya) xa) ya)), .val (.int (own_c (own_add (own_add (own_add (fun _ => 0) xa) ya) xa) za)), .val (.int j13_s0), .val (.long j16_s0), .second, .val (.int j19_s0)] [(.int (lcmpW (own_asz (fun _ => 0) xa (0 : Int64)) (1 : Int64)))])) ?_ fun t k => XS.lcmp X20.here hx rfl (hb hby at_187) rfl k
        refine own_pre (B := T20.setTop (mkF m 191 #[.val (.long x0), .second, .val (.long x1), .second, .val (.long x2), .second, .val (.long x3), .second, .val (.long pg), .second, .val (.long xa), .second, .val (.long ya), .second, .val (.long za), .second, .val (.ref b1), .val (.int (own_r (fun _ => 0) xa)), .val (.long (own_asz (fun _ => 0) xa (0 : Int64))), .second, .val (.int (own_r (own_add (fun _ => 0) xa) ya)), .val (.long (own_asz (own_add (fun _ => 0) xa) ya (own_asz (fun _ => 0) xa (0 : Int64)))), .second, .val (.int (own_r (own_add (own_add (fun _ => 0) xa) ya) xa)), .val (.long (own_asz (own_add (own_add (fun _ => 0) xa) ya) xa (own_asz (own_add (fun _ => 0) xa) ya (own_asz (fun _ => 0) xa (0 : Int64))))), .second, .val (.int (own_c (own_add (own_add (own_add (fun _ => 0) xa) ya) xa) xa)), .val (.int (own_c (own_add (own_add (own_add (fun _ => 0) xa) ya) xa) ya)), .val (.int (own_c (own_add (own_add (own_add (fun _ => 0) xa) ya) xa) za)), .val (.int j13_s0), .val (.long j16_s0), .second, .val (.int j19_s0)] [])) ?_ fun t k => XS.ifNo X20.here hx rfl (hb hby at_188) rfl ((if0 _ _).trans (teq ((lw_eq (own_asz (fun _ => 0) xa (0 : Int64)) (1 : Int64)).mpr (own_fin2 x0 x1 x2 x3 pg hmpg xa hmxa ya hmya za hmza hpg rxa rya rza j13_s0 hvj13_s0 j16_s0 hvj16_s0 j19_s0 hvj19_s0))).2) k
        refine own_pre (B := T20.setTop (mkF m 193 #[.val (.long x0), .second, .val (.long x1), .second, .val (.long x2), .second, .val (.long x3), .second, .val (.long pg), .second, .val (.long xa), .second, .val (.long ya), .second, .val (.long za), .second, .val (.ref b1), .val (.int (own_r (fun _ => 0) xa)), .val (.long (own_asz (fun _ => 0) xa (0 : Int64))), .second, .val (.int (own_r (own_add (fun _ => 0) xa) ya)), .val (.long (own_asz (own_add (fun _ => 0) xa) ya (own_asz (fun _ => 0) xa (0 : Int64)))), .second, .val (.int (own_r (own_add (own_add (fun _ => 0) xa) ya) xa)), .val (.long (own_asz (own_add (own_add (fun _ => 0) xa) ya) xa (own_asz (own_add (fun _ => 0) xa) ya (own_asz (fun _ => 0) xa (0 : Int64))))), .second, .val (.int (own_c (own_add (own_add (own_add (fun _ => 0) xa) ya) xa) xa)), .val (.int (own_c (own_add (own_add (own_add (fun _ => 0) xa) ya) xa) ya)), .val (.int (own_c (own_add (own_add (own_add (fun _ => 0) xa) ya) xa) za)), .val (.int j13_s0), .val (.long j16_s0), .second, .val (.int j19_s0)] [(.int (own_r (own_add (fun _ => 0) xa) ya))])) ?_ fun t k => XS.iload X20.here hx rfl (hb hby at_191) rfl  k
        refine own_pre (B := T20.setTop (mkF m 195 #[.val (.long x0), .second, .val (.long x1), .second, .val (.long x2), .second, .val (.long x3), .second, .val (.long pg), .second, .val (.long xa), .second, .val (.long ya), .second, .val (.long za), .second, .val (.ref b1), .val (.int (own_r (fun _ => 0) xa)), .val (.long (own_asz (fun _ => 0) xa (0 : Int64))), .second, .val (.int (own_r (own_add (fun _ => 0) xa) ya)), .val (.long (own_asz (own_add (fun _ => 0) xa) ya (own_asz (fun _ => 0) xa (0 : Int64)))), .second, .val (.int (own_r (own_add (own_add (fun _ => 0) xa) ya) xa)), .val (.long (own_asz (own_add (own_add (fun _ => 0) xa) ya) xa (own_asz (own_add (fun _ => 0) xa) ya (own_asz (fun _ => 0) xa (0 : Int64))))), .second, .val (.int (own_c (own_add (own_add (own_add (fun _ => 0) xa) ya) xa) xa)), .val (.int (own_c (own_add (own_add (own_add (fun _ => 0) xa) ya) xa) ya)), .val (.int (own_c (own_add (own_add (own_add (fun _ => 0) xa) ya) xa) za)), .val (.int j13_s0), .val (.long j16_s0), .second, .val (.int j19_s0)] [(.int j13_s0), (.int (own_r (own_add (fun _ => 0) xa) ya))])) ?_ fun t k => XS.iload X20.here hx rfl (hb hby at_193) rfl  k
        have Jj22 : ∀ (T23 : State) (l23 : List Loc) (X23 : Stand p l e room_1 s m #[(.long x0), (.long x1), (.long x2), (.long x3)] below meth c T23 l23 2 66) (N23 : Fr n0 l23) (e23 : T23.heap = T7.heap) (j22_s0 : Int32) (hvj22_s0 : j22_s0 = (if j13_s0 = (0 : Int32) then (1 : Int32) else (0 : Int32))), own_E p e below s (Q0 Z x0 x1 x2 x3 h0 n0) 16 256 (T23.setTop (mkF m 203 #[.val (.long x0), .second, .val (.long x1), .second, .val (.long x2), .second, .val (.long x3), .second, .val (.long pg), .second, .val (.long xa), .second, .val (.long ya), .second, .val (.long za), .second, .val (.ref b1), .val (.int (own_r (fun _ => 0) xa)), .val (.long (own_asz (fun _ => 0) xa (0 : Int64))), .second, .val (.int (own_r (own_add (fun _ => 0) xa) ya)), .val (.long (own_asz (own_add (fun _ => 0) xa) ya (own_asz (fun _ => 0) xa (0 : Int64)))), .second, .val (.int (own_r (own_add (own_add (fun _ => 0) xa) ya) xa)), .val (.long (own_asz (own_add (own_add (fun _ => 0) xa) ya) xa (own_asz (own_add (fun _ => 0) xa) ya (own_asz (fun _ => 0) xa (0 : Int64))))), .second, .val (.int (own_c (own_add (own_add (own_add (fun _ => 0) xa) ya) xa) xa)), .val (.int (own_c (own_add (own_add (own_add (fun _ => 0) xa) ya) xa) ya)), .val (.int (own_c (own_add (own_add (own_add (fun _ => 0) xa) ya) xa) za)), .val (.int j13_s0), .val (.long j16_s0), .second, .val (.int j19_s0)] [(.int j22_s0), (.int (own_r (own_add (fun _ => 0) xa) ya))])) := by
          intro T23 l23 X23 N23 e23 j22_s0 hvj22_s0
          refine own_pre (B := T23.setTop (mkF m 206 #[.val (.long x0), .second, .val (.long x1), .second, .val (.long x2), .second, .val (.long x3), .second, .val (.long pg), .second, .val (.long xa), .second, .val (.long ya), .second, .val (.long za), .second, .val (.ref b1), .val (.int (own_r (fun _ => 0) xa)), .val (.long (own_asz (fun _ => 0) xa (0 : Int64))), .second, .val (.int (own_r (own_add (fun _ => 0) xa) ya)), .val (.long (own_asz (own_add (fun _ => 0) xa) ya (own_asz (fun _ => 0) xa (0 : Int64)))), .second, .val (.int (own_r (own_add (own_add (fun _ => 0) xa) ya) xa)), .val (.long (own_asz (own_add (own_add (fun _ => 0) xa) ya) xa (own_asz (own_add (fun _ => 0) xa) ya (own_asz (fun _ => 0) xa (0 : Int64))))), .second, .val (.int (own_c (own_add (own_add (own_add (fun _ => 0) xa) ya) xa) xa)), .val (.int (own_c (own_add (own_add (own_add (fun _ => 0) xa) ya) xa) ya)), .val (.int (own_c (own_add (own_add (own_add (fun _ => 0) xa) ya) xa) za)), .val (.int j13_s0), .val (.long j16_s0), .second, .val (.int j19_s0)] [])) ?_ fun t k => XS.icmpNo X23.here hx rfl (hb hby at_203) rfl (teq (own_fin3 x0 x1 x2 x3 pg hmpg xa hmxa ya hmya za hmza hpg rxa rya rza j13_s0 hvj13_s0 j16_s0 hvj16_s0 j19_s0 hvj19_s0 j22_s0 hvj22_s0)).2 k
          refine own_pre (B := T23.setTop (mkF m 208 #[.val (.long x0), .second, .val (.long x1), .second, .val (.long x2), .second, .val (.long x3), .second, .val (.long pg), .second, .val (.long xa), .second, .val (.long ya), .second, .val (.long za), .second, .val (.ref b1), .val (.int (own_r (fun _ => 0) xa)), .val (.long (own_asz (fun _ => 0) xa (0 : Int64))), .second, .val (.int (own_r (own_add (fun _ => 0) xa) ya)), .val (.long (own_asz (own_add (fun _ => 0) xa) ya (own_asz (fun _ => 0) xa (0 : Int64)))), .second, .val (.int (own_r (own_add (own_add (fun _ => 0) xa) ya) xa)), .val (.long (own_asz (own_add (own_add (fun _ => 0) xa) ya) xa (own_asz (own_add (fun _ => 0) xa) ya (own_asz (fun _ => 0) xa (0 : Int64))))), .second, .val (.int (own_c (own_add (own_add (own_add (fun _ => 0) xa) ya) xa) xa)), .val (.int (own_c (own_add (own_add (own_add (fun _ => 0) xa) ya) xa) ya)), .val (.int (own_c (own_add (own_add (own_add (fun _ => 0) xa) ya) xa) za)), .val (.int j13_s0), .val (.long j16_s0), .second, .val (.int j19_s0)] [(.long (own_asz (own_add (fun _ => 0) xa) ya (own_asz (fun _ => 0) xa (0 : Int64))))])) ?_ fun t k => XS.lload X23.here hx rfl (hb hby at_206) rfl  k
          refine own_pre (B := T23.setTop (mkF m 210 #[.val (.long x0), .second, .val (.long x1), .second, .val (.long x2), .second, .val (.long x3), .second, .val (.long pg), .second, .val (.long xa), .second, .val (.long ya), .second, .val (.long za), .second, .val (.ref b1), .val (.int (own_r (fun _ => 0) xa)), .val (.long (own_asz (fun _ => 0) xa (0 : Int64))), .second, .val (.int (own_r (own_add (fun _ => 0) xa) ya)), .val (.long (own_asz (own_add (fun _ => 0) xa) ya (own_asz (fun _ => 0) xa (0 : Int64)))), .second, .val (.int (own_r (own_add (own_add (fun _ => 0) xa) ya) xa)), .val (.long (own_asz (own_add (own_add (fun _ => 0) xa) ya) xa (own_asz (own_add (fun _ => 0) xa) ya (own_asz (fun _ => 0) xa (0 : Int64))))), .second, .val (.int (own_c (own_add (own_add (own_add (fun _ => 0) xa) ya) xa) xa)), .val (.int (own_c (own_add (own_add (own_add (fun _ => 0) xa) ya) xa) ya)), .val (.int (own_c (own_add (own_add (own_add (fun _ => 0) xa) ya) xa) za)), .val (.int j13_s0), .val (.long j16_s0), .second, .val (.int j19_s0)] [(.long j16_s0), (.long (own_asz (own_add (fun _ => 0) xa) ya (own_asz (fun _ => 0) xa (0 : Int64))))])) ?_ fun t k => XS.lload X23.here hx rfl (hb hby at_208) rfl  k
          refine own_pre (B := T23.setTop (mkF m 211 #[.val (.long x0), .second, .val (.long x1), .second, .val (.long x2), .second, .val (.long x3), .second, .val (.long pg), .second, .val (.long xa), .second, .val (.long ya), .second, .val (.long za), .second, .val (.ref b1), .val (.int (own_r (fun _ => 0) xa)), .val (.long (own_asz (fun _ => 0) xa (0 : Int64))), .second, .val (.int (own_r (own_add (fun _ => 0) xa) ya)), .val (.long (own_asz (own_add (fun _ => 0) xa) ya (own_asz (fun _ => 0) xa (0 : Int64)))), .second, .val (.int (own_r (own_add (own_add (fun _ => 0) xa) ya) xa)), .val (.long (own_asz (own_add (own_add (fun _ => 0) xa) ya) xa (own_asz (own_add (fun _ => 0) xa) ya (own_asz (fun _ => 0) xa (0 : Int64))))), .second, .val (.int (own_c (own_add (own_add (own_add (fun _ => 0) xa) ya) xa) xa)), .val (.int (own_c (own_add (own_add (own_add (fun _ => 0) xa) ya) xa) ya)), .val (.int (own_c (own_add (own_add (own_add (fun _ => 0) xa) ya) xa) za)), .val (.int j13_s0), .val (.long j16_s0), .second, .val (.int j19_s0)] [(.int (lcmpW (own_asz (own_add (fun _ => 0) xa) ya (own_asz (fun _ => 0) xa (0 : Int64))) j16_s0))])) ?_ fun t k => XS.lcmp X23.here hx rfl (hb hby at_210) rfl k
          refine own_pre (B := T23.setTop (mkF m 214 #[.val (.long x0), .second, .val (.long x1), .second, .val (.long x2), .second, .val (.long x3), .second, .val (.long pg), .second, .val (.long xa), .second, .val (.long ya), .second, .val (.long za), .second, .val (.ref b1), .val (.int (own_r (fun _ => 0) xa)), .val (.long (own_asz (fun _ => 0) xa (0 : Int64))), .second, .val (.int (own_r (own_add (fun _ => 0) xa) ya)), .val (.long (own_asz (own_add (fun _ => 0) xa) ya (own_asz (fun _ => 0) xa (0 : Int64)))), .second, .val (.int (own_r (own_add (own_add (fun _ => 0) xa) ya) xa)), .val (.long (own_asz (own_add (own_add (fun _ => 0) xa) ya) xa (own_asz (own_add (fun _ => 0) xa) ya (own_asz (fun _ => 0) xa (0 : Int64))))), .second, .val (.int (own_c (own_add (own_add (own_add (fun _ => 0) xa) ya) xa) xa)), .val (.int (own_c (own_add (own_add (own_add (fun _ => 0) xa) ya) xa) ya)), .val (.int (own_c (own_add (own_add (own_add (fun _ => 0) xa) ya) xa) za)), .val (.int j13_s0), .val (.long j16_s0), .second, .val (.int j19_s0)] [])) ?_ fun t k => XS.ifNo X23.here hx rfl (hb hby at_211) rfl ((if0 _ _).trans (teq ((lw_eq (own_asz (own_add (fun _ => 0) xa) ya (own_asz (fun _ => 0) xa (0 : Int64))) j16_s0).mpr (own_fin4 x0 x1 x2 x3 pg hmpg xa hmxa ya hmya za hmza hpg rxa rya rza j13_s0 hvj13_s0 j16_s0 hvj16_s0 j19_s0 hvj19_s0 j22_s0 hvj22_s0))).2) k
          refine own_pre (B := T23.setTop (mkF m 216 #[.val (.long x0), .second, .val (.long x1), .second, .val (.long x2), .second, .val (.long x3), .second, .val (.long pg), .second, .val (.long xa), .second, .val (.long ya), .second, .val (.long za), .second, .val (.ref b1), .val (.int (own_r (fun _ => 0) xa)), .val (.long (own_asz (fun _ => 0) xa (0 : Int64))), .second, .val (.int (own_r (own_add (fun _ => 0) xa) ya)), .val (.long (own_asz (own_add (fun _ => 0) xa) ya (own_asz (fun _ => 0) xa (0 : Int64)))), .second, .val (.int (own_r (own_add (own_add (fun _ => 0) xa) ya) xa)), .val (.long (own_asz (own_add (own_add (fun _ => 0) xa) ya) xa (own_asz (own_add (fun _ => 0) xa) ya (own_asz (fun _ => 0) xa (0 : Int64))))), .second, .val (.int (own_c (own_add (own_add (own_add (fun _ => 0) xa) ya) xa) xa)), .val (.int (own_c (own_add (own_add (own_add (fun _ => 0) xa) ya) xa) ya)), .val (.int (own_c (own_add (own_add (own_add (fun _ => 0) xa) ya) xa) za)), .val (.int j13_s0), .val (.long j16_s0), .second, .val (.int j19_s0)] [(.int (own_r (own_add (own_add (fun _ => 0) xa) ya) xa))])) ?_ fun t k => XS.iload X23.here hx rfl (hb hby at_214) rfl  k
          refine own_pre (B := T23.setTop (mkF m 219 #[.val (.long x0), .second, .val (.long x1), .second, .val (.long x2), .second, .val (.long x3), .second, .val (.long pg), .second, .val (.long xa), .second, .val (.long ya), .second, .val (.long za), .second, .val (.ref b1), .val (.int (own_r (fun _ => 0) xa)), .val (.long (own_asz (fun _ => 0) xa (0 : Int64))), .second, .val (.int (own_r (own_add (fun _ => 0) xa) ya)), .val (.long (own_asz (own_add (fun _ => 0) xa) ya (own_asz (fun _ => 0) xa (0 : Int64)))), .second, .val (.int (own_r (own_add (own_add (fun _ => 0) xa) ya) xa)), .val (.long (own_asz (own_add (own_add (fun _ => 0) xa) ya) xa (own_asz (own_add (fun _ => 0) xa) ya (own_asz (fun _ => 0) xa (0 : Int64))))), .second, .val (.int (own_c (own_add (own_add (own_add (fun _ => 0) xa) ya) xa) xa)), .val (.int (own_c (own_add (own_add (own_add (fun _ => 0) xa) ya) xa) ya)), .val (.int (own_c (own_add (own_add (own_add (fun _ => 0) xa) ya) xa) za)), .val (.int j13_s0), .val (.long j16_s0), .second, .val (.int j19_s0)] [])) ?_ fun t k => XS.ifNo X23.here hx rfl (hb hby at_216) rfl ((if0 _ _).trans (teq (own_fin5 x0 x1 x2 x3 pg hmpg xa hmxa ya hmya za hmza hpg rxa rya rza j13_s0 hvj13_s0 j16_s0 hvj16_s0 j19_s0 hvj19_s0 j22_s0 hvj22_s0)).2) k
          refine own_pre (B := T23.setTop (mkF m 221 #[.val (.long x0), .second, .val (.long x1), .second, .val (.long x2), .second, .val (.long x3), .second, .val (.long pg), .second, .val (.long xa), .second, .val (.long ya), .second, .val (.long za), .second, .val (.ref b1), .val (.int (own_r (fun _ => 0) xa)), .val (.long (own_asz (fun _ => 0) xa (0 : Int64))), .second, .val (.int (own_r (own_add (fun _ => 0) xa) ya)), .val (.long (own_asz (own_add (fun _ => 0) xa) ya (own_asz (fun _ => 0) xa (0 : Int64)))), .second, .val (.int (own_r (own_add (own_add (fun _ => 0) xa) ya) xa)), .val (.long (own_asz (own_add (own_add (fun _ => 0) xa) ya) xa (own_asz (own_add (fun _ => 0) xa) ya (own_asz (fun _ => 0) xa (0 : Int64))))), .second, .val (.int (own_c (own_add (own_add (own_add (fun _ => 0) xa) ya) xa) xa)), .val (.int (own_c (own_add (own_add (own_add (fun _ => 0) xa) ya) xa) ya)), .val (.int (own_c (own_add (own_add (own_add (fun _ => 0) xa) ya) xa) za)), .val (.int j13_s0), .val (.long j16_s0), .second, .val (.int j19_s0)] [(.long (own_asz (own_add (own_add (fun _ => 0) xa) ya) xa (own_asz (own_add (fun _ => 0) xa) ya (own_asz (fun _ => 0) xa (0 : Int64)))))])) ?_ fun t k => XS.lload X23.here hx rfl (hb hby at_219) rfl  k
          refine own_pre (B := T23.setTop (mkF m 223 #[.val (.long x0), .second, .val (.long x1), .second, .val (.long x2), .second, .val (.long x3), .second, .val (.long pg), .second, .val (.long xa), .second, .val (.long ya), .second, .val (.long za), .second, .val (.ref b1), .val (.int (own_r (fun _ => 0) xa)), .val (.long (own_asz (fun _ => 0) xa (0 : Int64))), .second, .val (.int (own_r (own_add (fun _ => 0) xa) ya)), .val (.long (own_asz (own_add (fun _ => 0) xa) ya (own_asz (fun _ => 0) xa (0 : Int64)))), .second, .val (.int (own_r (own_add (own_add (fun _ => 0) xa) ya) xa)), .val (.long (own_asz (own_add (own_add (fun _ => 0) xa) ya) xa (own_asz (own_add (fun _ => 0) xa) ya (own_asz (fun _ => 0) xa (0 : Int64))))), .second, .val (.int (own_c (own_add (own_add (own_add (fun _ => 0) xa) ya) xa) xa)), .val (.int (own_c (own_add (own_add (own_add (fun _ => 0) xa) ya) xa) ya)), .val (.int (own_c (own_add (own_add (own_add (fun _ => 0) xa) ya) xa) za)), .val (.int j13_s0), .val (.long j16_s0), .second, .val (.int j19_s0)] [(.long j16_s0), (.long (own_asz (own_add (own_add (fun _ => 0) xa) ya) xa (own_asz (own_add (fun _ => 0) xa) ya (own_asz (fun _ => 0) xa (0 : Int64)))))])) ?_ fun t k => XS.lload X23.here hx rfl (hb hby at_221) rfl  k
          refine own_pre (B := T23.setTop (mkF m 224 #[.val (.long x0), .second, .val (.long x1), .second, .val (.long x2), .second, .val (.long x3), .second, .val (.long pg), .second, .val (.long xa), .second, .val (.long ya), .second, .val (.long za), .second, .val (.ref b1), .val (.int (own_r (fun _ => 0) xa)), .val (.long (own_asz (fun _ => 0) xa (0 : Int64))), .second, .val (.int (own_r (own_add (fun _ => 0) xa) ya)), .val (.long (own_asz (own_add (fun _ => 0) xa) ya (own_asz (fun _ => 0) xa (0 : Int64)))), .second, .val (.int (own_r (own_add (own_add (fun _ => 0) xa) ya) xa)), .val (.long (own_asz (own_add (own_add (fun _ => 0) xa) ya) xa (own_asz (own_add (fun _ => 0) xa) ya (own_asz (fun _ => 0) xa (0 : Int64))))), .second, .val (.int (own_c (own_add (own_add (own_add (fun _ => 0) xa) ya) xa) xa)), .val (.int (own_c (own_add (own_add (own_add (fun _ => 0) xa) ya) xa) ya)), .val (.int (own_c (own_add (own_add (own_add (fun _ => 0) xa) ya) xa) za)), .val (.int j13_s0), .val (.long j16_s0), .second, .val (.int j19_s0)] [(.int (lcmpW (own_asz (own_add (own_add (fun _ => 0) xa) ya) xa (own_asz (own_add (fun _ => 0) xa) ya (own_asz (fun _ => 0) xa (0 : Int64)))) j16_s0))])) ?_ fun t k => XS.lcmp X23.here hx rfl (hb hby at_223) rfl k
          refine own_pre (B := T23.setTop (mkF m 227 #[.val (.long x0), .second, .val (.long x1), .second, .val (.long x2), .second, .val (.long x3), .second, .val (.long pg), .second, .val (.long xa), .second, .val (.long ya), .second, .val (.long za), .second, .val (.ref b1), .val (.int (own_r (fun _ => 0) xa)), .val (.long (own_asz (fun _ => 0) xa (0 : Int64))), .second, .val (.int (own_r (own_add (fun _ => 0) xa) ya)), .val (.long (own_asz (own_add (fun _ => 0) xa) ya (own_asz (fun _ => 0) xa (0 : Int64)))), .second, .val (.int (own_r (own_add (own_add (fun _ => 0) xa) ya) xa)), .val (.long (own_asz (own_add (own_add (fun _ => 0) xa) ya) xa (own_asz (own_add (fun _ => 0) xa) ya (own_asz (fun _ => 0) xa (0 : Int64))))), .second, .val (.int (own_c (own_add (own_add (own_add (fun _ => 0) xa) ya) xa) xa)), .val (.int (own_c (own_add (own_add (own_add (fun _ => 0) xa) ya) xa) ya)), .val (.int (own_c (own_add (own_add (own_add (fun _ => 0) xa) ya) xa) za)), .val (.int j13_s0), .val (.long j16_s0), .second, .val (.int j19_s0)] [])) ?_ fun t k => XS.ifNo X23.here hx rfl (hb hby at_224) rfl ((if0 _ _).trans (teq ((lw_eq (own_asz (own_add (own_add (fun _ => 0) xa) ya) xa (own_asz (own_add (fun _ => 0) xa) ya (own_asz (fun _ => 0) xa (0 : Int64)))) j16_s0).mpr (own_fin6 x0 x1 x2 x3 pg hmpg xa hmxa ya hmya za hmza hpg rxa rya rza j13_s0 hvj13_s0 j16_s0 hvj16_s0 j19_s0 hvj19_s0 j22_s0 hvj22_s0))).2) k
          refine own_pre (B := T23.setTop (mkF m 229 #[.val (.long x0), .second, .val (.long x1), .second, .val (.long x2), .second, .val (.long x3), .second, .val (.long pg), .second, .val (.long xa), .second, .val (.long ya), .second, .val (.long za), .second, .val (.ref b1), .val (.int (own_r (fun _ => 0) xa)), .val (.long (own_asz (fun _ => 0) xa (0 : Int64))), .second, .val (.int (own_r (own_add (fun _ => 0) xa) ya)), .val (.long (own_asz (own_add (fun _ => 0) xa) ya (own_asz (fun _ => 0) xa (0 : Int64)))), .second, .val (.int (own_r (own_add (own_add (fun _ => 0) xa) ya) xa)), .val (.long (own_asz (own_add (own_add (fun _ => 0) xa) ya) xa (own_asz (own_add (fun _ => 0) xa) ya (own_asz (fun _ => 0) xa (0 : Int64))))), .second, .val (.int (own_c (own_add (own_add (own_add (fun _ => 0) xa) ya) xa) xa)), .val (.int (own_c (own_add (own_add (own_add (fun _ => 0) xa) ya) xa) ya)), .val (.int (own_c (own_add (own_add (own_add (fun _ => 0) xa) ya) xa) za)), .val (.int j13_s0), .val (.long j16_s0), .second, .val (.int j19_s0)] [(.int (own_c (own_add (own_add (own_add (fun _ => 0) xa) ya) xa) xa))])) ?_ fun t k => XS.iload X23.here hx rfl (hb hby at_227) rfl  k
          refine own_pre (B := T23.setTop (mkF m 232 #[.val (.long x0), .second, .val (.long x1), .second, .val (.long x2), .second, .val (.long x3), .second, .val (.long pg), .second, .val (.long xa), .second, .val (.long ya), .second, .val (.long za), .second, .val (.ref b1), .val (.int (own_r (fun _ => 0) xa)), .val (.long (own_asz (fun _ => 0) xa (0 : Int64))), .second, .val (.int (own_r (own_add (fun _ => 0) xa) ya)), .val (.long (own_asz (own_add (fun _ => 0) xa) ya (own_asz (fun _ => 0) xa (0 : Int64)))), .second, .val (.int (own_r (own_add (own_add (fun _ => 0) xa) ya) xa)), .val (.long (own_asz (own_add (own_add (fun _ => 0) xa) ya) xa (own_asz (own_add (fun _ => 0) xa) ya (own_asz (fun _ => 0) xa (0 : Int64))))), .second, .val (.int (own_c (own_add (own_add (own_add (fun _ => 0) xa) ya) xa) xa)), .val (.int (own_c (own_add (own_add (own_add (fun _ => 0) xa) ya) xa) ya)), .val (.int (own_c (own_add (own_add (own_add (fun _ => 0) xa) ya) xa) za)), .val (.int j13_s0), .val (.long j16_s0), .second, .val (.int j19_s0)] [])) ?_ fun t k => XS.ifNo X23.here hx rfl (hb hby at_229) rfl ((if0 _ _).trans (feq (own_fin7 x0 x1 x2 x3 pg hmpg xa hmxa ya hmya za hmza hpg rxa rya rza j13_s0 hvj13_s0 j16_s0 hvj16_s0 j19_s0 hvj19_s0 j22_s0 hvj22_s0)).1) k
          refine own_pre (B := T23.setTop (mkF m 234 #[.val (.long x0), .second, .val (.long x1), .second, .val (.long x2), .second, .val (.long x3), .second, .val (.long pg), .second, .val (.long xa), .second, .val (.long ya), .second, .val (.long za), .second, .val (.ref b1), .val (.int (own_r (fun _ => 0) xa)), .val (.long (own_asz (fun _ => 0) xa (0 : Int64))), .second, .val (.int (own_r (own_add (fun _ => 0) xa) ya)), .val (.long (own_asz (own_add (fun _ => 0) xa) ya (own_asz (fun _ => 0) xa (0 : Int64)))), .second, .val (.int (own_r (own_add (own_add (fun _ => 0) xa) ya) xa)), .val (.long (own_asz (own_add (own_add (fun _ => 0) xa) ya) xa (own_asz (own_add (fun _ => 0) xa) ya (own_asz (fun _ => 0) xa (0 : Int64))))), .second, .val (.int (own_c (own_add (own_add (own_add (fun _ => 0) xa) ya) xa) xa)), .val (.int (own_c (own_add (own_add (own_add (fun _ => 0) xa) ya) xa) ya)), .val (.int (own_c (own_add (own_add (own_add (fun _ => 0) xa) ya) xa) za)), .val (.int j13_s0), .val (.long j16_s0), .second, .val (.int j19_s0)] [(.int (own_c (own_add (own_add (own_add (fun _ => 0) xa) ya) xa) ya))])) ?_ fun t k => XS.iload X23.here hx rfl (hb hby at_232) rfl  k
          refine own_pre (B := T23.setTop (mkF m 237 #[.val (.long x0), .second, .val (.long x1), .second, .val (.long x2), .second, .val (.long x3), .second, .val (.long pg), .second, .val (.long xa), .second, .val (.long ya), .second, .val (.long za), .second, .val (.ref b1), .val (.int (own_r (fun _ => 0) xa)), .val (.long (own_asz (fun _ => 0) xa (0 : Int64))), .second, .val (.int (own_r (own_add (fun _ => 0) xa) ya)), .val (.long (own_asz (own_add (fun _ => 0) xa) ya (own_asz (fun _ => 0) xa (0 : Int64)))), .second, .val (.int (own_r (own_add (own_add (fun _ => 0) xa) ya) xa)), .val (.long (own_asz (own_add (own_add (fun _ => 0) xa) ya) xa (own_asz (own_add (fun _ => 0) xa) ya (own_asz (fun _ => 0) xa (0 : Int64))))), .second, .val (.int (own_c (own_add (own_add (own_add (fun _ => 0) xa) ya) xa) xa)), .val (.int (own_c (own_add (own_add (own_add (fun _ => 0) xa) ya) xa) ya)), .val (.int (own_c (own_add (own_add (own_add (fun _ => 0) xa) ya) xa) za)), .val (.int j13_s0), .val (.long j16_s0), .second, .val (.int j19_s0)] [])) ?_ fun t k => XS.ifNo X23.here hx rfl (hb hby at_234) rfl ((if0 _ _).trans (feq (own_fin8 x0 x1 x2 x3 pg hmpg xa hmxa ya hmya za hmza hpg rxa rya rza j13_s0 hvj13_s0 j16_s0 hvj16_s0 j19_s0 hvj19_s0 j22_s0 hvj22_s0)).1) k
          refine own_pre (B := T23.setTop (mkF m 239 #[.val (.long x0), .second, .val (.long x1), .second, .val (.long x2), .second, .val (.long x3), .second, .val (.long pg), .second, .val (.long xa), .second, .val (.long ya), .second, .val (.long za), .second, .val (.ref b1), .val (.int (own_r (fun _ => 0) xa)), .val (.long (own_asz (fun _ => 0) xa (0 : Int64))), .second, .val (.int (own_r (own_add (fun _ => 0) xa) ya)), .val (.long (own_asz (own_add (fun _ => 0) xa) ya (own_asz (fun _ => 0) xa (0 : Int64)))), .second, .val (.int (own_r (own_add (own_add (fun _ => 0) xa) ya) xa)), .val (.long (own_asz (own_add (own_add (fun _ => 0) xa) ya) xa (own_asz (own_add (fun _ => 0) xa) ya (own_asz (fun _ => 0) xa (0 : Int64))))), .second, .val (.int (own_c (own_add (own_add (own_add (fun _ => 0) xa) ya) xa) xa)), .val (.int (own_c (own_add (own_add (own_add (fun _ => 0) xa) ya) xa) ya)), .val (.int (own_c (own_add (own_add (own_add (fun _ => 0) xa) ya) xa) za)), .val (.int j13_s0), .val (.long j16_s0), .second, .val (.int j19_s0)] [(.int (own_c (own_add (own_add (own_add (fun _ => 0) xa) ya) xa) za))])) ?_ fun t k => XS.iload X23.here hx rfl (hb hby at_237) rfl  k
          refine own_pre (B := T23.setTop (mkF m 241 #[.val (.long x0), .second, .val (.long x1), .second, .val (.long x2), .second, .val (.long x3), .second, .val (.long pg), .second, .val (.long xa), .second, .val (.long ya), .second, .val (.long za), .second, .val (.ref b1), .val (.int (own_r (fun _ => 0) xa)), .val (.long (own_asz (fun _ => 0) xa (0 : Int64))), .second, .val (.int (own_r (own_add (fun _ => 0) xa) ya)), .val (.long (own_asz (own_add (fun _ => 0) xa) ya (own_asz (fun _ => 0) xa (0 : Int64)))), .second, .val (.int (own_r (own_add (own_add (fun _ => 0) xa) ya) xa)), .val (.long (own_asz (own_add (own_add (fun _ => 0) xa) ya) xa (own_asz (own_add (fun _ => 0) xa) ya (own_asz (fun _ => 0) xa (0 : Int64))))), .second, .val (.int (own_c (own_add (own_add (own_add (fun _ => 0) xa) ya) xa) xa)), .val (.int (own_c (own_add (own_add (own_add (fun _ => 0) xa) ya) xa) ya)), .val (.int (own_c (own_add (own_add (own_add (fun _ => 0) xa) ya) xa) za)), .val (.int j13_s0), .val (.long j16_s0), .second, .val (.int j19_s0)] [(.int j19_s0), (.int (own_c (own_add (own_add (own_add (fun _ => 0) xa) ya) xa) za))])) ?_ fun t k => XS.iload X23.here hx rfl (hb hby at_239) rfl  k
          refine own_pre (B := T23.setTop (mkF m 244 #[.val (.long x0), .second, .val (.long x1), .second, .val (.long x2), .second, .val (.long x3), .second, .val (.long pg), .second, .val (.long xa), .second, .val (.long ya), .second, .val (.long za), .second, .val (.ref b1), .val (.int (own_r (fun _ => 0) xa)), .val (.long (own_asz (fun _ => 0) xa (0 : Int64))), .second, .val (.int (own_r (own_add (fun _ => 0) xa) ya)), .val (.long (own_asz (own_add (fun _ => 0) xa) ya (own_asz (fun _ => 0) xa (0 : Int64)))), .second, .val (.int (own_r (own_add (own_add (fun _ => 0) xa) ya) xa)), .val (.long (own_asz (own_add (own_add (fun _ => 0) xa) ya) xa (own_asz (own_add (fun _ => 0) xa) ya (own_asz (fun _ => 0) xa (0 : Int64))))), .second, .val (.int (own_c (own_add (own_add (own_add (fun _ => 0) xa) ya) xa) xa)), .val (.int (own_c (own_add (own_add (own_add (fun _ => 0) xa) ya) xa) ya)), .val (.int (own_c (own_add (own_add (own_add (fun _ => 0) xa) ya) xa) za)), .val (.int j13_s0), .val (.long j16_s0), .second, .val (.int j19_s0)] [])) ?_ fun t k => XS.icmpNo X23.here hx rfl (hb hby at_241) rfl (teq (own_fin9 x0 x1 x2 x3 pg hmpg xa hmxa ya hmya za hmza hpg rxa rya rza j13_s0 hvj13_s0 j16_s0 hvj16_s0 j19_s0 hvj19_s0 j22_s0 hvj22_s0)).2 k
          refine own_pre (B := T23.setTop (mkF m 245 #[.val (.long x0), .second, .val (.long x1), .second, .val (.long x2), .second, .val (.long x3), .second, .val (.long pg), .second, .val (.long xa), .second, .val (.long ya), .second, .val (.long za), .second, .val (.ref b1), .val (.int (own_r (fun _ => 0) xa)), .val (.long (own_asz (fun _ => 0) xa (0 : Int64))), .second, .val (.int (own_r (own_add (fun _ => 0) xa) ya)), .val (.long (own_asz (own_add (fun _ => 0) xa) ya (own_asz (fun _ => 0) xa (0 : Int64)))), .second, .val (.int (own_r (own_add (own_add (fun _ => 0) xa) ya) xa)), .val (.long (own_asz (own_add (own_add (fun _ => 0) xa) ya) xa (own_asz (own_add (fun _ => 0) xa) ya (own_asz (fun _ => 0) xa (0 : Int64))))), .second, .val (.int (own_c (own_add (own_add (own_add (fun _ => 0) xa) ya) xa) xa)), .val (.int (own_c (own_add (own_add (own_add (fun _ => 0) xa) ya) xa) ya)), .val (.int (own_c (own_add (own_add (own_add (fun _ => 0) xa) ya) xa) za)), .val (.int j13_s0), .val (.long j16_s0), .second, .val (.int j19_s0)] [(.int (1 : Int32))])) ?_ fun t k => XS.iconst X23.here hx rfl (hb hby at_244) k
          refine own_pre (B := T23.setTop (mkF m 249 #[.val (.long x0), .second, .val (.long x1), .second, .val (.long x2), .second, .val (.long x3), .second, .val (.long pg), .second, .val (.long xa), .second, .val (.long ya), .second, .val (.long za), .second, .val (.ref b1), .val (.int (own_r (fun _ => 0) xa)), .val (.long (own_asz (fun _ => 0) xa (0 : Int64))), .second, .val (.int (own_r (own_add (fun _ => 0) xa) ya)), .val (.long (own_asz (own_add (fun _ => 0) xa) ya (own_asz (fun _ => 0) xa (0 : Int64)))), .second, .val (.int (own_r (own_add (own_add (fun _ => 0) xa) ya) xa)), .val (.long (own_asz (own_add (own_add (fun _ => 0) xa) ya) xa (own_asz (own_add (fun _ => 0) xa) ya (own_asz (fun _ => 0) xa (0 : Int64))))), .second, .val (.int (own_c (own_add (own_add (own_add (fun _ => 0) xa) ya) xa) xa)), .val (.int (own_c (own_add (own_add (own_add (fun _ => 0) xa) ya) xa) ya)), .val (.int (own_c (own_add (own_add (own_add (fun _ => 0) xa) ya) xa) za)), .val (.int j13_s0), .val (.long j16_s0), .second, .val (.int j19_s0)] [(.int (1 : Int32))])) ?_ fun t k => XS.goto X23.here hx rfl (pc0 := 245) (pc' := 249) rfl (hb hby at_245) (by decide) (by decide) k
          refine own_retN X23 hx hlk (t := .boolean) (z' := (1 : Int32)) Bd.returns (by simp) (hb hby at_249) (by decide) ?_ (by decide) (by decide)
          rw [e23]
          exact ⟨rfl, N23⟩
        by_cases h195_21 : j13_s0 = (0 : Int32)
        · skip
          refine own_pre (B := T20.setTop (mkF m 198 #[.val (.long x0), .second, .val (.long x1), .second, .val (.long x2), .second, .val (.long x3), .second, .val (.long pg), .second, .val (.long xa), .second, .val (.long ya), .second, .val (.long za), .second, .val (.ref b1), .val (.int (own_r (fun _ => 0) xa)), .val (.long (own_asz (fun _ => 0) xa (0 : Int64))), .second, .val (.int (own_r (own_add (fun _ => 0) xa) ya)), .val (.long (own_asz (own_add (fun _ => 0) xa) ya (own_asz (fun _ => 0) xa (0 : Int64)))), .second, .val (.int (own_r (own_add (own_add (fun _ => 0) xa) ya) xa)), .val (.long (own_asz (own_add (own_add (fun _ => 0) xa) ya) xa (own_asz (own_add (fun _ => 0) xa) ya (own_asz (fun _ => 0) xa (0 : Int64))))), .second, .val (.int (own_c (own_add (own_add (own_add (fun _ => 0) xa) ya) xa) xa)), .val (.int (own_c (own_add (own_add (own_add (fun _ => 0) xa) ya) xa) ya)), .val (.int (own_c (own_add (own_add (own_add (fun _ => 0) xa) ya) xa) za)), .val (.int j13_s0), .val (.long j16_s0), .second, .val (.int j19_s0)] [(.int (own_r (own_add (fun _ => 0) xa) ya))])) ?_ fun t k => XS.ifNo X20.here hx rfl (hb hby at_195) rfl ((if0 _ _).trans (teq h195_21).2) k
          refine own_pre (B := T20.setTop (mkF m 199 #[.val (.long x0), .second, .val (.long x1), .second, .val (.long x2), .second, .val (.long x3), .second, .val (.long pg), .second, .val (.long xa), .second, .val (.long ya), .second, .val (.long za), .second, .val (.ref b1), .val (.int (own_r (fun _ => 0) xa)), .val (.long (own_asz (fun _ => 0) xa (0 : Int64))), .second, .val (.int (own_r (own_add (fun _ => 0) xa) ya)), .val (.long (own_asz (own_add (fun _ => 0) xa) ya (own_asz (fun _ => 0) xa (0 : Int64)))), .second, .val (.int (own_r (own_add (own_add (fun _ => 0) xa) ya) xa)), .val (.long (own_asz (own_add (own_add (fun _ => 0) xa) ya) xa (own_asz (own_add (fun _ => 0) xa) ya (own_asz (fun _ => 0) xa (0 : Int64))))), .second, .val (.int (own_c (own_add (own_add (own_add (fun _ => 0) xa) ya) xa) xa)), .val (.int (own_c (own_add (own_add (own_add (fun _ => 0) xa) ya) xa) ya)), .val (.int (own_c (own_add (own_add (own_add (fun _ => 0) xa) ya) xa) za)), .val (.int j13_s0), .val (.long j16_s0), .second, .val (.int j19_s0)] [(.int (1 : Int32)), (.int (own_r (own_add (fun _ => 0) xa) ya))])) ?_ fun t k => XS.iconst X20.here hx rfl (hb hby at_198) k
          refine own_pre (B := T20.setTop (mkF m 203 #[.val (.long x0), .second, .val (.long x1), .second, .val (.long x2), .second, .val (.long x3), .second, .val (.long pg), .second, .val (.long xa), .second, .val (.long ya), .second, .val (.long za), .second, .val (.ref b1), .val (.int (own_r (fun _ => 0) xa)), .val (.long (own_asz (fun _ => 0) xa (0 : Int64))), .second, .val (.int (own_r (own_add (fun _ => 0) xa) ya)), .val (.long (own_asz (own_add (fun _ => 0) xa) ya (own_asz (fun _ => 0) xa (0 : Int64)))), .second, .val (.int (own_r (own_add (own_add (fun _ => 0) xa) ya) xa)), .val (.long (own_asz (own_add (own_add (fun _ => 0) xa) ya) xa (own_asz (own_add (fun _ => 0) xa) ya (own_asz (fun _ => 0) xa (0 : Int64))))), .second, .val (.int (own_c (own_add (own_add (own_add (fun _ => 0) xa) ya) xa) xa)), .val (.int (own_c (own_add (own_add (own_add (fun _ => 0) xa) ya) xa) ya)), .val (.int (own_c (own_add (own_add (own_add (fun _ => 0) xa) ya) xa) za)), .val (.int j13_s0), .val (.long j16_s0), .second, .val (.int j19_s0)] [(.int (1 : Int32)), (.int (own_r (own_add (fun _ => 0) xa) ya))])) ?_ fun t k => XS.goto X20.here hx rfl (pc0 := 199) (pc' := 203) rfl (hb hby at_199) (by decide) (by decide) k
          exact Jj22 T20 _ X20 N20 e20 ((1 : Int32)) (if_pos h195_21).symm
        · skip
          refine own_pre (B := T20.setTop (mkF m 202 #[.val (.long x0), .second, .val (.long x1), .second, .val (.long x2), .second, .val (.long x3), .second, .val (.long pg), .second, .val (.long xa), .second, .val (.long ya), .second, .val (.long za), .second, .val (.ref b1), .val (.int (own_r (fun _ => 0) xa)), .val (.long (own_asz (fun _ => 0) xa (0 : Int64))), .second, .val (.int (own_r (own_add (fun _ => 0) xa) ya)), .val (.long (own_asz (own_add (fun _ => 0) xa) ya (own_asz (fun _ => 0) xa (0 : Int64)))), .second, .val (.int (own_r (own_add (own_add (fun _ => 0) xa) ya) xa)), .val (.long (own_asz (own_add (own_add (fun _ => 0) xa) ya) xa (own_asz (own_add (fun _ => 0) xa) ya (own_asz (fun _ => 0) xa (0 : Int64))))), .second, .val (.int (own_c (own_add (own_add (own_add (fun _ => 0) xa) ya) xa) xa)), .val (.int (own_c (own_add (own_add (own_add (fun _ => 0) xa) ya) xa) ya)), .val (.int (own_c (own_add (own_add (own_add (fun _ => 0) xa) ya) xa) za)), .val (.int j13_s0), .val (.long j16_s0), .second, .val (.int j19_s0)] [(.int (own_r (own_add (fun _ => 0) xa) ya))])) ?_ fun t k => XS.ifYes X20.here hx rfl (pc0 := 195) (pc' := 202) rfl (hb hby at_195) rfl ((if0 _ _).trans (feq h195_21).2) (by decide) (by decide) k
          refine own_pre (B := T20.setTop (mkF m 203 #[.val (.long x0), .second, .val (.long x1), .second, .val (.long x2), .second, .val (.long x3), .second, .val (.long pg), .second, .val (.long xa), .second, .val (.long ya), .second, .val (.long za), .second, .val (.ref b1), .val (.int (own_r (fun _ => 0) xa)), .val (.long (own_asz (fun _ => 0) xa (0 : Int64))), .second, .val (.int (own_r (own_add (fun _ => 0) xa) ya)), .val (.long (own_asz (own_add (fun _ => 0) xa) ya (own_asz (fun _ => 0) xa (0 : Int64)))), .second, .val (.int (own_r (own_add (own_add (fun _ => 0) xa) ya) xa)), .val (.long (own_asz (own_add (own_add (fun _ => 0) xa) ya) xa (own_asz (own_add (fun _ => 0) xa) ya (own_asz (fun _ => 0) xa (0 : Int64))))), .second, .val (.int (own_c (own_add (own_add (own_add (fun _ => 0) xa) ya) xa) xa)), .val (.int (own_c (own_add (own_add (own_add (fun _ => 0) xa) ya) xa) ya)), .val (.int (own_c (own_add (own_add (own_add (fun _ => 0) xa) ya) xa) za)), .val (.int j13_s0), .val (.long j16_s0), .second, .val (.int j19_s0)] [(.int (0 : Int32)), (.int (own_r (own_add (fun _ => 0) xa) ya))])) ?_ fun t k => XS.iconst X20.here hx rfl (hb hby at_202) k
          exact Jj22 T20 _ X20 N20 e20 ((0 : Int32)) (if_neg h195_21).symm
      by_cases h161_18 : za = xa
      · skip
        refine own_pre (B := T17.setTop (mkF m 172 #[.val (.long x0), .second, .val (.long x1), .second, .val (.long x2), .second, .val (.long x3), .second, .val (.long pg), .second, .val (.long xa), .second, .val (.long ya), .second, .val (.long za), .second, .val (.ref b1), .val (.int (own_r (fun _ => 0) xa)), .val (.long (own_asz (fun _ => 0) xa (0 : Int64))), .second, .val (.int (own_r (own_add (fun _ => 0) xa) ya)), .val (.long (own_asz (own_add (fun _ => 0) xa) ya (own_asz (fun _ => 0) xa (0 : Int64)))), .second, .val (.int (own_r (own_add (own_add (fun _ => 0) xa) ya) xa)), .val (.long (own_asz (own_add (own_add (fun _ => 0) xa) ya) xa (own_asz (own_add (fun _ => 0) xa) ya (own_asz (fun _ => 0) xa (0 : Int64))))), .second, .val (.int (own_c (own_add (own_add (own_add (fun _ => 0) xa) ya) xa) xa)), .val (.int (own_c (own_add (own_add (own_add (fun _ => 0) xa) ya) xa) ya)), .val (.int (own_c (own_add (own_add (own_add (fun _ => 0) xa) ya) xa) za)), .val (.int j13_s0), .val (.long j16_s0), .second, .unset] [])) ?_ fun t k => XS.ifYes X17.here hx rfl (pc0 := 161) (pc' := 172) rfl (hb hby at_161) rfl ((if0 _ _).trans (teq ((lw_eq za xa).mpr h161_18)).1) (by decide) (by decide) k
        refine own_pre (B := T17.setTop (mkF m 173 #[.val (.long x0), .second, .val (.long x1), .second, .val (.long x2), .second, .val (.long x3), .second, .val (.long pg), .second, .val (.long xa), .second, .val (.long ya), .second, .val (.long za), .second, .val (.ref b1), .val (.int (own_r (fun _ => 0) xa)), .val (.long (own_asz (fun _ => 0) xa (0 : Int64))), .second, .val (.int (own_r (own_add (fun _ => 0) xa) ya)), .val (.long (own_asz (own_add (fun _ => 0) xa) ya (own_asz (fun _ => 0) xa (0 : Int64)))), .second, .val (.int (own_r (own_add (own_add (fun _ => 0) xa) ya) xa)), .val (.long (own_asz (own_add (own_add (fun _ => 0) xa) ya) xa (own_asz (own_add (fun _ => 0) xa) ya (own_asz (fun _ => 0) xa (0 : Int64))))), .second, .val (.int (own_c (own_add (own_add (own_add (fun _ => 0) xa) ya) xa) xa)), .val (.int (own_c (own_add (own_add (own_add (fun _ => 0) xa) ya) xa) ya)), .val (.int (own_c (own_add (own_add (own_add (fun _ => 0) xa) ya) xa) za)), .val (.int j13_s0), .val (.long j16_s0), .second, .unset] [(.int (1 : Int32))])) ?_ fun t k => XS.iconst X17.here hx rfl (hb hby at_172) k
        refine own_pre (B := T17.setTop (mkF m 177 #[.val (.long x0), .second, .val (.long x1), .second, .val (.long x2), .second, .val (.long x3), .second, .val (.long pg), .second, .val (.long xa), .second, .val (.long ya), .second, .val (.long za), .second, .val (.ref b1), .val (.int (own_r (fun _ => 0) xa)), .val (.long (own_asz (fun _ => 0) xa (0 : Int64))), .second, .val (.int (own_r (own_add (fun _ => 0) xa) ya)), .val (.long (own_asz (own_add (fun _ => 0) xa) ya (own_asz (fun _ => 0) xa (0 : Int64)))), .second, .val (.int (own_r (own_add (own_add (fun _ => 0) xa) ya) xa)), .val (.long (own_asz (own_add (own_add (fun _ => 0) xa) ya) xa (own_asz (own_add (fun _ => 0) xa) ya (own_asz (fun _ => 0) xa (0 : Int64))))), .second, .val (.int (own_c (own_add (own_add (own_add (fun _ => 0) xa) ya) xa) xa)), .val (.int (own_c (own_add (own_add (own_add (fun _ => 0) xa) ya) xa) ya)), .val (.int (own_c (own_add (own_add (own_add (fun _ => 0) xa) ya) xa) za)), .val (.int j13_s0), .val (.long j16_s0), .second, .unset] [(.int (1 : Int32))])) ?_ fun t k => XS.goto X17.here hx rfl (pc0 := 173) (pc' := 177) rfl (hb hby at_173) (by decide) (by decide) k
        exact Jj19 T17 _ X17 N17 e17 ((1 : Int32)) (if_pos h161_18).symm
      · skip
        refine own_pre (B := T17.setTop (mkF m 164 #[.val (.long x0), .second, .val (.long x1), .second, .val (.long x2), .second, .val (.long x3), .second, .val (.long pg), .second, .val (.long xa), .second, .val (.long ya), .second, .val (.long za), .second, .val (.ref b1), .val (.int (own_r (fun _ => 0) xa)), .val (.long (own_asz (fun _ => 0) xa (0 : Int64))), .second, .val (.int (own_r (own_add (fun _ => 0) xa) ya)), .val (.long (own_asz (own_add (fun _ => 0) xa) ya (own_asz (fun _ => 0) xa (0 : Int64)))), .second, .val (.int (own_r (own_add (own_add (fun _ => 0) xa) ya) xa)), .val (.long (own_asz (own_add (own_add (fun _ => 0) xa) ya) xa (own_asz (own_add (fun _ => 0) xa) ya (own_asz (fun _ => 0) xa (0 : Int64))))), .second, .val (.int (own_c (own_add (own_add (own_add (fun _ => 0) xa) ya) xa) xa)), .val (.int (own_c (own_add (own_add (own_add (fun _ => 0) xa) ya) xa) ya)), .val (.int (own_c (own_add (own_add (own_add (fun _ => 0) xa) ya) xa) za)), .val (.int j13_s0), .val (.long j16_s0), .second, .unset] [])) ?_ fun t k => XS.ifNo X17.here hx rfl (hb hby at_161) rfl ((if0 _ _).trans (feq (fun q => h161_18 ((lw_eq za xa).mp q))).1) k
        refine own_pre (B := T17.setTop (mkF m 166 #[.val (.long x0), .second, .val (.long x1), .second, .val (.long x2), .second, .val (.long x3), .second, .val (.long pg), .second, .val (.long xa), .second, .val (.long ya), .second, .val (.long za), .second, .val (.ref b1), .val (.int (own_r (fun _ => 0) xa)), .val (.long (own_asz (fun _ => 0) xa (0 : Int64))), .second, .val (.int (own_r (own_add (fun _ => 0) xa) ya)), .val (.long (own_asz (own_add (fun _ => 0) xa) ya (own_asz (fun _ => 0) xa (0 : Int64)))), .second, .val (.int (own_r (own_add (own_add (fun _ => 0) xa) ya) xa)), .val (.long (own_asz (own_add (own_add (fun _ => 0) xa) ya) xa (own_asz (own_add (fun _ => 0) xa) ya (own_asz (fun _ => 0) xa (0 : Int64))))), .second, .val (.int (own_c (own_add (own_add (own_add (fun _ => 0) xa) ya) xa) xa)), .val (.int (own_c (own_add (own_add (own_add (fun _ => 0) xa) ya) xa) ya)), .val (.int (own_c (own_add (own_add (own_add (fun _ => 0) xa) ya) xa) za)), .val (.int j13_s0), .val (.long j16_s0), .second, .unset] [(.long za)])) ?_ fun t k => XS.lload X17.here hx rfl (hb hby at_164) rfl  k
        refine own_pre (B := T17.setTop (mkF m 168 #[.val (.long x0), .second, .val (.long x1), .second, .val (.long x2), .second, .val (.long x3), .second, .val (.long pg), .second, .val (.long xa), .second, .val (.long ya), .second, .val (.long za), .second, .val (.ref b1), .val (.int (own_r (fun _ => 0) xa)), .val (.long (own_asz (fun _ => 0) xa (0 : Int64))), .second, .val (.int (own_r (own_add (fun _ => 0) xa) ya)), .val (.long (own_asz (own_add (fun _ => 0) xa) ya (own_asz (fun _ => 0) xa (0 : Int64)))), .second, .val (.int (own_r (own_add (own_add (fun _ => 0) xa) ya) xa)), .val (.long (own_asz (own_add (own_add (fun _ => 0) xa) ya) xa (own_asz (own_add (fun _ => 0) xa) ya (own_asz (fun _ => 0) xa (0 : Int64))))), .second, .val (.int (own_c (own_add (own_add (own_add (fun _ => 0) xa) ya) xa) xa)), .val (.int (own_c (own_add (own_add (own_add (fun _ => 0) xa) ya) xa) ya)), .val (.int (own_c (own_add (own_add (own_add (fun _ => 0) xa) ya) xa) za)), .val (.int j13_s0), .val (.long j16_s0), .second, .unset] [(.long ya), (.long za)])) ?_ fun t k => XS.lload X17.here hx rfl (hb hby at_166) rfl  k
        refine own_pre (B := T17.setTop (mkF m 169 #[.val (.long x0), .second, .val (.long x1), .second, .val (.long x2), .second, .val (.long x3), .second, .val (.long pg), .second, .val (.long xa), .second, .val (.long ya), .second, .val (.long za), .second, .val (.ref b1), .val (.int (own_r (fun _ => 0) xa)), .val (.long (own_asz (fun _ => 0) xa (0 : Int64))), .second, .val (.int (own_r (own_add (fun _ => 0) xa) ya)), .val (.long (own_asz (own_add (fun _ => 0) xa) ya (own_asz (fun _ => 0) xa (0 : Int64)))), .second, .val (.int (own_r (own_add (own_add (fun _ => 0) xa) ya) xa)), .val (.long (own_asz (own_add (own_add (fun _ => 0) xa) ya) xa (own_asz (own_add (fun _ => 0) xa) ya (own_asz (fun _ => 0) xa (0 : Int64))))), .second, .val (.int (own_c (own_add (own_add (own_add (fun _ => 0) xa) ya) xa) xa)), .val (.int (own_c (own_add (own_add (own_add (fun _ => 0) xa) ya) xa) ya)), .val (.int (own_c (own_add (own_add (own_add (fun _ => 0) xa) ya) xa) za)), .val (.int j13_s0), .val (.long j16_s0), .second, .unset] [(.int (lcmpW za ya))])) ?_ fun t k => XS.lcmp X17.here hx rfl (hb hby at_168) rfl k
        by_cases h169_24 : za = ya
        · skip
          refine own_pre (B := T17.setTop (mkF m 172 #[.val (.long x0), .second, .val (.long x1), .second, .val (.long x2), .second, .val (.long x3), .second, .val (.long pg), .second, .val (.long xa), .second, .val (.long ya), .second, .val (.long za), .second, .val (.ref b1), .val (.int (own_r (fun _ => 0) xa)), .val (.long (own_asz (fun _ => 0) xa (0 : Int64))), .second, .val (.int (own_r (own_add (fun _ => 0) xa) ya)), .val (.long (own_asz (own_add (fun _ => 0) xa) ya (own_asz (fun _ => 0) xa (0 : Int64)))), .second, .val (.int (own_r (own_add (own_add (fun _ => 0) xa) ya) xa)), .val (.long (own_asz (own_add (own_add (fun _ => 0) xa) ya) xa (own_asz (own_add (fun _ => 0) xa) ya (own_asz (fun _ => 0) xa (0 : Int64))))), .second, .val (.int (own_c (own_add (own_add (own_add (fun _ => 0) xa) ya) xa) xa)), .val (.int (own_c (own_add (own_add (own_add (fun _ => 0) xa) ya) xa) ya)), .val (.int (own_c (own_add (own_add (own_add (fun _ => 0) xa) ya) xa) za)), .val (.int j13_s0), .val (.long j16_s0), .second, .unset] [])) ?_ fun t k => XS.ifNo X17.here hx rfl (hb hby at_169) rfl ((if0 _ _).trans (teq ((lw_eq za ya).mpr h169_24)).2) k
          refine own_pre (B := T17.setTop (mkF m 173 #[.val (.long x0), .second, .val (.long x1), .second, .val (.long x2), .second, .val (.long x3), .second, .val (.long pg), .second, .val (.long xa), .second, .val (.long ya), .second, .val (.long za), .second, .val (.ref b1), .val (.int (own_r (fun _ => 0) xa)), .val (.long (own_asz (fun _ => 0) xa (0 : Int64))), .second, .val (.int (own_r (own_add (fun _ => 0) xa) ya)), .val (.long (own_asz (own_add (fun _ => 0) xa) ya (own_asz (fun _ => 0) xa (0 : Int64)))), .second, .val (.int (own_r (own_add (own_add (fun _ => 0) xa) ya) xa)), .val (.long (own_asz (own_add (own_add (fun _ => 0) xa) ya) xa (own_asz (own_add (fun _ => 0) xa) ya (own_asz (fun _ => 0) xa (0 : Int64))))), .second, .val (.int (own_c (own_add (own_add (own_add (fun _ => 0) xa) ya) xa) xa)), .val (.int (own_c (own_add (own_add (own_add (fun _ => 0) xa) ya) xa) ya)), .val (.int (own_c (own_add (own_add (own_add (fun _ => 0) xa) ya) xa) za)), .val (.int j13_s0), .val (.long j16_s0), .second, .unset] [(.int (1 : Int32))])) ?_ fun t k => XS.iconst X17.here hx rfl (hb hby at_172) k
          refine own_pre (B := T17.setTop (mkF m 177 #[.val (.long x0), .second, .val (.long x1), .second, .val (.long x2), .second, .val (.long x3), .second, .val (.long pg), .second, .val (.long xa), .second, .val (.long ya), .second, .val (.long za), .second, .val (.ref b1), .val (.int (own_r (fun _ => 0) xa)), .val (.long (own_asz (fun _ => 0) xa (0 : Int64))), .second, .val (.int (own_r (own_add (fun _ => 0) xa) ya)), .val (.long (own_asz (own_add (fun _ => 0) xa) ya (own_asz (fun _ => 0) xa (0 : Int64)))), .second, .val (.int (own_r (own_add (own_add (fun _ => 0) xa) ya) xa)), .val (.long (own_asz (own_add (own_add (fun _ => 0) xa) ya) xa (own_asz (own_add (fun _ => 0) xa) ya (own_asz (fun _ => 0) xa (0 : Int64))))), .second, .val (.int (own_c (own_add (own_add (own_add (fun _ => 0) xa) ya) xa) xa)), .val (.int (own_c (own_add (own_add (own_add (fun _ => 0) xa) ya) xa) ya)), .val (.int (own_c (own_add (own_add (own_add (fun _ => 0) xa) ya) xa) za)), .val (.int j13_s0), .val (.long j16_s0), .second, .unset] [(.int (1 : Int32))])) ?_ fun t k => XS.goto X17.here hx rfl (pc0 := 173) (pc' := 177) rfl (hb hby at_173) (by decide) (by decide) k
          exact Jj19 T17 _ X17 N17 e17 ((1 : Int32)) ((if_neg h161_18).trans (if_pos h169_24)).symm
        · skip
          refine own_pre (B := T17.setTop (mkF m 176 #[.val (.long x0), .second, .val (.long x1), .second, .val (.long x2), .second, .val (.long x3), .second, .val (.long pg), .second, .val (.long xa), .second, .val (.long ya), .second, .val (.long za), .second, .val (.ref b1), .val (.int (own_r (fun _ => 0) xa)), .val (.long (own_asz (fun _ => 0) xa (0 : Int64))), .second, .val (.int (own_r (own_add (fun _ => 0) xa) ya)), .val (.long (own_asz (own_add (fun _ => 0) xa) ya (own_asz (fun _ => 0) xa (0 : Int64)))), .second, .val (.int (own_r (own_add (own_add (fun _ => 0) xa) ya) xa)), .val (.long (own_asz (own_add (own_add (fun _ => 0) xa) ya) xa (own_asz (own_add (fun _ => 0) xa) ya (own_asz (fun _ => 0) xa (0 : Int64))))), .second, .val (.int (own_c (own_add (own_add (own_add (fun _ => 0) xa) ya) xa) xa)), .val (.int (own_c (own_add (own_add (own_add (fun _ => 0) xa) ya) xa) ya)), .val (.int (own_c (own_add (own_add (own_add (fun _ => 0) xa) ya) xa) za)), .val (.int j13_s0), .val (.long j16_s0), .second, .unset] [])) ?_ fun t k => XS.ifYes X17.here hx rfl (pc0 := 169) (pc' := 176) rfl (hb hby at_169) rfl ((if0 _ _).trans (feq (fun q => h169_24 ((lw_eq za ya).mp q))).2) (by decide) (by decide) k
          refine own_pre (B := T17.setTop (mkF m 177 #[.val (.long x0), .second, .val (.long x1), .second, .val (.long x2), .second, .val (.long x3), .second, .val (.long pg), .second, .val (.long xa), .second, .val (.long ya), .second, .val (.long za), .second, .val (.ref b1), .val (.int (own_r (fun _ => 0) xa)), .val (.long (own_asz (fun _ => 0) xa (0 : Int64))), .second, .val (.int (own_r (own_add (fun _ => 0) xa) ya)), .val (.long (own_asz (own_add (fun _ => 0) xa) ya (own_asz (fun _ => 0) xa (0 : Int64)))), .second, .val (.int (own_r (own_add (own_add (fun _ => 0) xa) ya) xa)), .val (.long (own_asz (own_add (own_add (fun _ => 0) xa) ya) xa (own_asz (own_add (fun _ => 0) xa) ya (own_asz (fun _ => 0) xa (0 : Int64))))), .second, .val (.int (own_c (own_add (own_add (own_add (fun _ => 0) xa) ya) xa) xa)), .val (.int (own_c (own_add (own_add (own_add (fun _ => 0) xa) ya) xa) ya)), .val (.int (own_c (own_add (own_add (own_add (fun _ => 0) xa) ya) xa) za)), .val (.int j13_s0), .val (.long j16_s0), .second, .unset] [(.int (0 : Int32))])) ?_ fun t k => XS.iconst X17.here hx rfl (hb hby at_176) k
          exact Jj19 T17 _ X17 N17 e17 ((0 : Int32)) ((if_neg h161_18).trans (if_neg h169_24)).symm
    by_cases h144_15 : j13_s0 = (0 : Int32)
    · skip
      refine own_pre (B := T14.setTop (mkF m 151 #[.val (.long x0), .second, .val (.long x1), .second, .val (.long x2), .second, .val (.long x3), .second, .val (.long pg), .second, .val (.long xa), .second, .val (.long ya), .second, .val (.long za), .second, .val (.ref b1), .val (.int (own_r (fun _ => 0) xa)), .val (.long (own_asz (fun _ => 0) xa (0 : Int64))), .second, .val (.int (own_r (own_add (fun _ => 0) xa) ya)), .val (.long (own_asz (own_add (fun _ => 0) xa) ya (own_asz (fun _ => 0) xa (0 : Int64)))), .second, .val (.int (own_r (own_add (own_add (fun _ => 0) xa) ya) xa)), .val (.long (own_asz (own_add (own_add (fun _ => 0) xa) ya) xa (own_asz (own_add (fun _ => 0) xa) ya (own_asz (fun _ => 0) xa (0 : Int64))))), .second, .val (.int (own_c (own_add (own_add (own_add (fun _ => 0) xa) ya) xa) xa)), .val (.int (own_c (own_add (own_add (own_add (fun _ => 0) xa) ya) xa) ya)), .val (.int (own_c (own_add (own_add (own_add (fun _ => 0) xa) ya) xa) za)), .val (.int j13_s0), .unset, .unset, .unset] [])) ?_ fun t k => XS.ifYes X14.here hx rfl (pc0 := 144) (pc' := 151) rfl (hb hby at_144) rfl ((if0 _ _).trans (teq h144_15).1) (by decide) (by decide) k
      refine own_pre (B := T14.setTop (mkF m 154 #[.val (.long x0), .second, .val (.long x1), .second, .val (.long x2), .second, .val (.long x3), .second, .val (.long pg), .second, .val (.long xa), .second, .val (.long ya), .second, .val (.long za), .second, .val (.ref b1), .val (.int (own_r (fun _ => 0) xa)), .val (.long (own_asz (fun _ => 0) xa (0 : Int64))), .second, .val (.int (own_r (own_add (fun _ => 0) xa) ya)), .val (.long (own_asz (own_add (fun _ => 0) xa) ya (own_asz (fun _ => 0) xa (0 : Int64)))), .second, .val (.int (own_r (own_add (own_add (fun _ => 0) xa) ya) xa)), .val (.long (own_asz (own_add (own_add (fun _ => 0) xa) ya) xa (own_asz (own_add (fun _ => 0) xa) ya (own_asz (fun _ => 0) xa (0 : Int64))))), .second, .val (.int (own_c (own_add (own_add (own_add (fun _ => 0) xa) ya) xa) xa)), .val (.int (own_c (own_add (own_add (own_add (fun _ => 0) xa) ya) xa) ya)), .val (.int (own_c (own_add (own_add (own_add (fun _ => 0) xa) ya) xa) za)), .val (.int j13_s0), .unset, .unset, .unset] [(.long (2 : Int64))])) ?_ (X14.ldc2Long hx hown (mvT hZ (hw _ (List.mem_of_getElem? (i := 36) rfl))) (g := (mkF m 151 #[.val (.long x0), .second, .val (.long x1), .second, .val (.long x2), .second, .val (.long x3), .second, .val (.long pg), .second, .val (.long xa), .second, .val (.long ya), .second, .val (.long za), .second, .val (.ref b1), .val (.int (own_r (fun _ => 0) xa)), .val (.long (own_asz (fun _ => 0) xa (0 : Int64))), .second, .val (.int (own_r (own_add (fun _ => 0) xa) ya)), .val (.long (own_asz (own_add (fun _ => 0) xa) ya (own_asz (fun _ => 0) xa (0 : Int64)))), .second, .val (.int (own_r (own_add (own_add (fun _ => 0) xa) ya) xa)), .val (.long (own_asz (own_add (own_add (fun _ => 0) xa) ya) xa (own_asz (own_add (fun _ => 0) xa) ya (own_asz (fun _ => 0) xa (0 : Int64))))), .second, .val (.int (own_c (own_add (own_add (own_add (fun _ => 0) xa) ya) xa) xa)), .val (.int (own_c (own_add (own_add (own_add (fun _ => 0) xa) ya) xa) ya)), .val (.int (own_c (own_add (own_add (own_add (fun _ => 0) xa) ya) xa) za)), .val (.int j13_s0), .unset, .unset, .unset] [])) rfl (hb hby at_151))
      exact Jj16 T14 _ X14 N14 e14 ((2 : Int64)) (if_pos h144_15).symm
    · skip
      refine own_pre (B := T14.setTop (mkF m 147 #[.val (.long x0), .second, .val (.long x1), .second, .val (.long x2), .second, .val (.long x3), .second, .val (.long pg), .second, .val (.long xa), .second, .val (.long ya), .second, .val (.long za), .second, .val (.ref b1), .val (.int (own_r (fun _ => 0) xa)), .val (.long (own_asz (fun _ => 0) xa (0 : Int64))), .second, .val (.int (own_r (own_add (fun _ => 0) xa) ya)), .val (.long (own_asz (own_add (fun _ => 0) xa) ya (own_asz (fun _ => 0) xa (0 : Int64)))), .second, .val (.int (own_r (own_add (own_add (fun _ => 0) xa) ya) xa)), .val (.long (own_asz (own_add (own_add (fun _ => 0) xa) ya) xa (own_asz (own_add (fun _ => 0) xa) ya (own_asz (fun _ => 0) xa (0 : Int64))))), .second, .val (.int (own_c (own_add (own_add (own_add (fun _ => 0) xa) ya) xa) xa)), .val (.int (own_c (own_add (own_add (own_add (fun _ => 0) xa) ya) xa) ya)), .val (.int (own_c (own_add (own_add (own_add (fun _ => 0) xa) ya) xa) za)), .val (.int j13_s0), .unset, .unset, .unset] [])) ?_ fun t k => XS.ifNo X14.here hx rfl (hb hby at_144) rfl ((if0 _ _).trans (feq h144_15).1) k
      refine own_pre (B := T14.setTop (mkF m 148 #[.val (.long x0), .second, .val (.long x1), .second, .val (.long x2), .second, .val (.long x3), .second, .val (.long pg), .second, .val (.long xa), .second, .val (.long ya), .second, .val (.long za), .second, .val (.ref b1), .val (.int (own_r (fun _ => 0) xa)), .val (.long (own_asz (fun _ => 0) xa (0 : Int64))), .second, .val (.int (own_r (own_add (fun _ => 0) xa) ya)), .val (.long (own_asz (own_add (fun _ => 0) xa) ya (own_asz (fun _ => 0) xa (0 : Int64)))), .second, .val (.int (own_r (own_add (own_add (fun _ => 0) xa) ya) xa)), .val (.long (own_asz (own_add (own_add (fun _ => 0) xa) ya) xa (own_asz (own_add (fun _ => 0) xa) ya (own_asz (fun _ => 0) xa (0 : Int64))))), .second, .val (.int (own_c (own_add (own_add (own_add (fun _ => 0) xa) ya) xa) xa)), .val (.int (own_c (own_add (own_add (own_add (fun _ => 0) xa) ya) xa) ya)), .val (.int (own_c (own_add (own_add (own_add (fun _ => 0) xa) ya) xa) za)), .val (.int j13_s0), .unset, .unset, .unset] [(.long (1 : Int64))])) ?_ fun t k => XS.lconst X14.here hx rfl (hb hby at_147) k
      refine own_pre (B := T14.setTop (mkF m 154 #[.val (.long x0), .second, .val (.long x1), .second, .val (.long x2), .second, .val (.long x3), .second, .val (.long pg), .second, .val (.long xa), .second, .val (.long ya), .second, .val (.long za), .second, .val (.ref b1), .val (.int (own_r (fun _ => 0) xa)), .val (.long (own_asz (fun _ => 0) xa (0 : Int64))), .second, .val (.int (own_r (own_add (fun _ => 0) xa) ya)), .val (.long (own_asz (own_add (fun _ => 0) xa) ya (own_asz (fun _ => 0) xa (0 : Int64)))), .second, .val (.int (own_r (own_add (own_add (fun _ => 0) xa) ya) xa)), .val (.long (own_asz (own_add (own_add (fun _ => 0) xa) ya) xa (own_asz (own_add (fun _ => 0) xa) ya (own_asz (fun _ => 0) xa (0 : Int64))))), .second, .val (.int (own_c (own_add (own_add (own_add (fun _ => 0) xa) ya) xa) xa)), .val (.int (own_c (own_add (own_add (own_add (fun _ => 0) xa) ya) xa) ya)), .val (.int (own_c (own_add (own_add (own_add (fun _ => 0) xa) ya) xa) za)), .val (.int j13_s0), .unset, .unset, .unset] [(.long (1 : Int64))])) ?_ fun t k => XS.goto X14.here hx rfl (pc0 := 148) (pc' := 154) rfl (hb hby at_148) (by decide) (by decide) k
      exact Jj16 T14 _ X14 N14 e14 ((1 : Int64)) (if_neg h144_15).symm
  by_cases h132_12 : xa = ya
  · skip
    refine own_pre (B := T11.setTop (mkF m 135 #[.val (.long x0), .second, .val (.long x1), .second, .val (.long x2), .second, .val (.long x3), .second, .val (.long pg), .second, .val (.long xa), .second, .val (.long ya), .second, .val (.long za), .second, .val (.ref b1), .val (.int (own_r (fun _ => 0) xa)), .val (.long (own_asz (fun _ => 0) xa (0 : Int64))), .second, .val (.int (own_r (own_add (fun _ => 0) xa) ya)), .val (.long (own_asz (own_add (fun _ => 0) xa) ya (own_asz (fun _ => 0) xa (0 : Int64)))), .second, .val (.int (own_r (own_add (own_add (fun _ => 0) xa) ya) xa)), .val (.long (own_asz (own_add (own_add (fun _ => 0) xa) ya) xa (own_asz (own_add (fun _ => 0) xa) ya (own_asz (fun _ => 0) xa (0 : Int64))))), .second, .val (.int (own_c (own_add (own_add (own_add (fun _ => 0) xa) ya) xa) xa)), .val (.int (own_c (own_add (own_add (own_add (fun _ => 0) xa) ya) xa) ya)), .val (.int (own_c (own_add (own_add (own_add (fun _ => 0) xa) ya) xa) za)), .unset, .unset, .unset, .unset] [])) ?_ fun t k => XS.ifNo X11.here hx rfl (hb hby at_132) rfl ((if0 _ _).trans (teq ((lw_eq xa ya).mpr h132_12)).2) k
    refine own_pre (B := T11.setTop (mkF m 136 #[.val (.long x0), .second, .val (.long x1), .second, .val (.long x2), .second, .val (.long x3), .second, .val (.long pg), .second, .val (.long xa), .second, .val (.long ya), .second, .val (.long za), .second, .val (.ref b1), .val (.int (own_r (fun _ => 0) xa)), .val (.long (own_asz (fun _ => 0) xa (0 : Int64))), .second, .val (.int (own_r (own_add (fun _ => 0) xa) ya)), .val (.long (own_asz (own_add (fun _ => 0) xa) ya (own_asz (fun _ => 0) xa (0 : Int64)))), .second, .val (.int (own_r (own_add (own_add (fun _ => 0) xa) ya) xa)), .val (.long (own_asz (own_add (own_add (fun _ => 0) xa) ya) xa (own_asz (own_add (fun _ => 0) xa) ya (own_asz (fun _ => 0) xa (0 : Int64))))), .second, .val (.int (own_c (own_add (own_add (own_add (fun _ => 0) xa) ya) xa) xa)), .val (.int (own_c (own_add (own_add (own_add (fun _ => 0) xa) ya) xa) ya)), .val (.int (own_c (own_add (own_add (own_add (fun _ => 0) xa) ya) xa) za)), .unset, .unset, .unset, .unset] [(.int (1 : Int32))])) ?_ fun t k => XS.iconst X11.here hx rfl (hb hby at_135) k
    refine own_pre (B := T11.setTop (mkF m 140 #[.val (.long x0), .second, .val (.long x1), .second, .val (.long x2), .second, .val (.long x3), .second, .val (.long pg), .second, .val (.long xa), .second, .val (.long ya), .second, .val (.long za), .second, .val (.ref b1), .val (.int (own_r (fun _ => 0) xa)), .val (.long (own_asz (fun _ => 0) xa (0 : Int64))), .second, .val (.int (own_r (own_add (fun _ => 0) xa) ya)), .val (.long (own_asz (own_add (fun _ => 0) xa) ya (own_asz (fun _ => 0) xa (0 : Int64)))), .second, .val (.int (own_r (own_add (own_add (fun _ => 0) xa) ya) xa)), .val (.long (own_asz (own_add (own_add (fun _ => 0) xa) ya) xa (own_asz (own_add (fun _ => 0) xa) ya (own_asz (fun _ => 0) xa (0 : Int64))))), .second, .val (.int (own_c (own_add (own_add (own_add (fun _ => 0) xa) ya) xa) xa)), .val (.int (own_c (own_add (own_add (own_add (fun _ => 0) xa) ya) xa) ya)), .val (.int (own_c (own_add (own_add (own_add (fun _ => 0) xa) ya) xa) za)), .unset, .unset, .unset, .unset] [(.int (1 : Int32))])) ?_ fun t k => XS.goto X11.here hx rfl (pc0 := 136) (pc' := 140) rfl (hb hby at_136) (by decide) (by decide) k
    exact Jj13 T11 _ X11 N11 e11 ((1 : Int32)) (if_pos h132_12).symm
  · skip
    refine own_pre (B := T11.setTop (mkF m 139 #[.val (.long x0), .second, .val (.long x1), .second, .val (.long x2), .second, .val (.long x3), .second, .val (.long pg), .second, .val (.long xa), .second, .val (.long ya), .second, .val (.long za), .second, .val (.ref b1), .val (.int (own_r (fun _ => 0) xa)), .val (.long (own_asz (fun _ => 0) xa (0 : Int64))), .second, .val (.int (own_r (own_add (fun _ => 0) xa) ya)), .val (.long (own_asz (own_add (fun _ => 0) xa) ya (own_asz (fun _ => 0) xa (0 : Int64)))), .second, .val (.int (own_r (own_add (own_add (fun _ => 0) xa) ya) xa)), .val (.long (own_asz (own_add (own_add (fun _ => 0) xa) ya) xa (own_asz (own_add (fun _ => 0) xa) ya (own_asz (fun _ => 0) xa (0 : Int64))))), .second, .val (.int (own_c (own_add (own_add (own_add (fun _ => 0) xa) ya) xa) xa)), .val (.int (own_c (own_add (own_add (own_add (fun _ => 0) xa) ya) xa) ya)), .val (.int (own_c (own_add (own_add (own_add (fun _ => 0) xa) ya) xa) za)), .unset, .unset, .unset, .unset] [])) ?_ fun t k => XS.ifYes X11.here hx rfl (pc0 := 132) (pc' := 139) rfl (hb hby at_132) rfl ((if0 _ _).trans (feq (fun q => h132_12 ((lw_eq xa ya).mp q))).2) (by decide) (by decide) k
    refine own_pre (B := T11.setTop (mkF m 140 #[.val (.long x0), .second, .val (.long x1), .second, .val (.long x2), .second, .val (.long x3), .second, .val (.long pg), .second, .val (.long xa), .second, .val (.long ya), .second, .val (.long za), .second, .val (.ref b1), .val (.int (own_r (fun _ => 0) xa)), .val (.long (own_asz (fun _ => 0) xa (0 : Int64))), .second, .val (.int (own_r (own_add (fun _ => 0) xa) ya)), .val (.long (own_asz (own_add (fun _ => 0) xa) ya (own_asz (fun _ => 0) xa (0 : Int64)))), .second, .val (.int (own_r (own_add (own_add (fun _ => 0) xa) ya) xa)), .val (.long (own_asz (own_add (own_add (fun _ => 0) xa) ya) xa (own_asz (own_add (fun _ => 0) xa) ya (own_asz (fun _ => 0) xa (0 : Int64))))), .second, .val (.int (own_c (own_add (own_add (own_add (fun _ => 0) xa) ya) xa) xa)), .val (.int (own_c (own_add (own_add (own_add (fun _ => 0) xa) ya) xa) ya)), .val (.int (own_c (own_add (own_add (own_add (fun _ => 0) xa) ya) xa) za)), .unset, .unset, .unset, .unset] [(.int (0 : Int32))])) ?_ fun t k => XS.iconst X11.here hx rfl (hb hby at_139) k
    exact Jj13 T11 _ X11 N11 e11 ((0 : Int32)) (if_neg h132_12).symm
set_option maxRecDepth 65536 in
set_option maxHeartbeats 40000000 in
theorem comes_1 {Post : Tables → Env → Array Value → State → Outcome → State → Prop} (hpost : ∀ tb e args s v u, (limb_1_1.after args s (.returned v) u = true ∧ limb_1_2.after args s (.returned v) u = true ∧ True) → FrameEnd s (.returned v) u (Jvm.fieldLocs frame_1_writes args s ++ Jvm.arrayLocs frame_1_arrays args s ++ Jvm.staticLocs frame_1_statics s) 16 256 → Post tb e args s (.returned v) u) :
    ArmFor flags0 classFile x code maxLocals ret World_1 tables_1 room_1 Calls_1 rest_1 Pre_1 Post := by
  intro l hfl _ _ p e ha hc hk s m args below hf hA hF happ hP
  obtain ⟨hcalls, hrest, hpre⟩ := hP
  obtain ⟨-, -, -, hnamed, -, -, -, hat⟩ := (Spec.applies_iff hf).mp happ
  obtain ⟨hg, hn⟩ := and_e (Cond.before_iff.mp (show (Jvm.Cond.and given_1 narrow_1).before args s = true from hpre))
  obtain ⟨g1, g2⟩ := and_e hg
  obtain ⟨g3, g4⟩ := and_e g2
  obtain ⟨g5, g6⟩ := and_e g4
  obtain ⟨g7, g8⟩ := and_e g6
  obtain ⟨w0, w1, w2, w3, rfl⟩ : ∃ w0 w1 w2 w3 : Value, args = #[w0, w1, w2, w3] := by
    have hs : args.size = 4 := by simpa [Cond.value, given_1] using g1
    obtain ⟨L⟩ := args
    match L, hs with
    | [w0, w1, w2, w3], _ => exact ⟨w0, w1, w2, w3, rfl⟩
  have hw := fun d (hd : d ∈ tables_1) => atoms_spec (ws := Jvm.Cond.code x code maxLocals ret :: tables_1) hat d (List.mem_cons_of_mem _ hd)
  have hfit : Fit s := fun {y c} hc i hi => by
    obtain ⟨ha, rfl⟩ := Array.getElem?_eq_some_iff.mp hc
    have q := List.all_eq_true.mp ((Array.all_eq_true_iff_forall_mem.mp hF) _ (Array.getElem_mem ha)) i (List.mem_range.mpr hi)
    simpa [Array.getElem?_eq_getElem hi] using q
  obtain ⟨i0, ei0⟩ := isL_v g3
  obtain rfl : w0 = (.long i0) := Option.some.inj ei0
  obtain ⟨i1, ei1⟩ := isL_v g5
  obtain rfl : w1 = (.long i1) := Option.some.inj ei1
  obtain ⟨i2, ei2⟩ := isL_v g7
  obtain rfl : w2 = (.long i2) := Option.some.inj ei2
  obtain ⟨i3, ei3⟩ := isL_v g8
  obtain rfl : w3 = (.long i3) := Option.some.inj ei3
  obtain ⟨n, o, h1, h2, h3, _, L, rfl, ⟨rfl, N⟩, hq⟩ := rm0 l s _ hw tables_1 i0 i1 i2 i3  s.heap s.heap.size (Nat.le_refl _)  p e ha hc hk s m _ below hf ((Spec.applies_iff_loose hf).mp happ).1 ⟨rfl, State.Warmed39.refl s, rfl⟩ trivial
  refine ⟨n, _, h1, h2, h3, hpost _ _ _ _ _ _ ⟨Cond.after_iff.mpr rfl, Cond.after_iff.mpr (eq_i res_at (Term.int_eval (1)) rfl), trivial⟩ ⟨hq.1, hq.2.1, (hq.2.2.sift fun y hy => Or.inr (N y hy)).mono (by decide) (by decide)⟩⟩
theorem main_1_1 : Claimed_1_1 := comes_1 fun _ _ _ _ _ _ h hF => ⟨h.1, hF⟩
theorem main_1_2 : Claimed_1_2 := comes_1 fun _ _ _ _ _ _ h hF => ⟨h.2.1, hF⟩
end Jvm.Pilot.@@N@@
namespace Jvm.Pilot.@@N@@
open Jvm Jvm.ClassFile Sem Op Lib Jvm.Free Jvm.Stand Jvm.Pilot.@@N@@.Jvm.D
/-! MADE BY PROGRAM (witnessworld.py) out of the Statement's table words and the real class files: 12 classes; the members and pool entries that the words name. The judged class is class 1, her method 1. -/
namespace start1
open Jvm.ClassFile
def u (s : String) : CpInfo := .utf8 (stringToUtf16 s)
/-- a pool by its gaps: so many unusable entries, then the entry; so many at the end -/
def gap : Nat → List CpInfo → List CpInfo
  | 0, r => r
  | n + 1, r => .unusable :: gap n r
def poolList (es : List (Nat × CpInfo)) (last : Nat) : List CpInfo := es.foldr (fun e r => gap e.1 (e.2 :: r)) (gap last [])
def pool (es : List (Nat × CpInfo)) (last : Nat) : Array CpInfo := ⟨poolList es last⟩
def fileOf (pool : Array CpInfo) (this : Nat) (attrs : Array Attribute := #[]) (ms : Array MethodInfo := #[]) (fl : Nat := 33) (sup : Nat := 0) (ifs : Array Nat := #[]) (fds : Array FieldInfo := #[]) : ClassFile where
  minorVersion := 0
  majorVersion := 65
  constantPool := pool
  accessFlags := fl
  thisClass := this
  superClass := sup
  interfaces := ifs
  fields := fds
  methods := ms
  attributes := attrs
def plain (name : String) (sup : Option ClassId) : Class where
  name := name
  kind := .ordinary
  loader := none
  accessFlags := 33
  super := sup
  interfaces := #[]
  cf := none
  fields := #[]
  methods := #[]
  instanceTypes := #[]
  staticTypes := #[]
  resolved := #[]
  callSites := []
  init := .initialized
  statics := none
  mirror := none

def pool0 : Array CpInfo := pool [(5, u "<init>"), (0, u "()V"), (1, .class_ 10), (1, u "java/lang/Object")] 113

def k0c0 : Code := { maxStack := 0, maxLocals := 1, code := object_method_1_code, exceptionTable := #[], attributes := #[] }
def k0m0 : Method := { name := "<init>", desc := "()V", sig := { parameters := [], returnType := none }, accessFlags := 1, code := some k0c0 }
/-- java/lang/Object -/
def k0 : Class := { plain "java/lang/Object" none with
  accessFlags := 33
  interfaces := #[]
  cf := some (fileOf pool0 8 #[] #[{ accessFlags := 1, nameIndex := 5, descriptorIndex := 6, attributes := #[] }] 33 0 #[] #[])
  fields := #[]
  methods := #[k0m0]
  instanceTypes := #[]
  staticTypes := #[]
  resolved := Array.replicate 124 none
  statics := none }

def pool1 : Array CpInfo := pool [(2, .class_ 4), (1, u "java/lang/Object"), (0, u "<init>"), (0, u "()V"), (0, .long 4095), (1, .long 9223372036854775807), (1, .class_ 12), (0, u "com/example/leafchain/leafchain/PageSet"), (0, .methodref 11 14), (0, .nameAndType 5 15), (0, u "(J)V"), (0, .methodref 11 17), (0, .nameAndType 18 19), (0, u "add"), (0, u "(J)Z"), (0, .methodref 11 21), (0, .nameAndType 22 23), (0, u "size"), (0, u "()J"), (0, .methodref 11 25), (0, .nameAndType 26 19), (0, u "contains"), (0, .long 2), (1, .class_ 30), (0, u "com/example/leafchain/leafchain/PageSetAddPinLaw"), (2, u "law"), (0, u "(JJJJ)Z")] 3

def k1m0 : Method := { name := "<init>", desc := "()V", sig := { parameters := [], returnType := none }, accessFlags := 2, code := none }
def k1c1 : Code := { maxStack := 6, maxLocals := 33, code := code, exceptionTable := #[], attributes := #[] }
def k1m1 : Method := { name := "law", desc := "(JJJJ)Z", sig := { parameters := [.long, .long, .long, .long], returnType := some .boolean }, accessFlags := 9, code := some k1c1 }
/-- com/example/leafchain/leafchain/PageSetAddPinLaw -/
def k1 : Class := { plain "com/example/leafchain/leafchain/PageSetAddPinLaw" (some 0) with
  accessFlags := 49
  interfaces := #[]
  cf := some (fileOf pool1 29 #[] #[{ accessFlags := 2, nameIndex := 5, descriptorIndex := 6, attributes := #[] }, { accessFlags := 9, nameIndex := 33, descriptorIndex := 34, attributes := #[] }] 49 2 #[] #[])
  fields := #[]
  methods := #[k1m0, k1m1]
  instanceTypes := #[]
  staticTypes := #[]
  resolved := Array.replicate 38 none
  statics := none }

def pool2 : Array CpInfo := pool [(1, .methodref 2 3), (0, .class_ 4), (0, .nameAndType 5 6), (0, u "java/lang/Object"), (0, u "<init>"), (0, u "()V"), (0, .long 63), (1, .methodref 10 11), (0, .class_ 12), (0, .nameAndType 13 14), (0, u "java/lang/Math"), (0, u "toIntExact"), (0, u "(J)I"), (0, .fieldref 16 17), (0, .class_ 18), (0, .nameAndType 19 20), (0, u "com/example/leafchain/leafchain/PageSet"), (0, u "words"), (0, u "[J"), (0, .fieldref 16 22), (0, .nameAndType 23 24), (0, u "size"), (0, u "J"), (11, u "add"), (0, u "(J)Z"), (4, u "(J)V"), (23, u "contains"), (0, u "()J")] 4

def k2c0 : Code := { maxStack := 5, maxLocals := 3, code := prog_70_method_1_code, exceptionTable := #[], attributes := #[] }
def k2m0 : Method := { name := "<init>", desc := "(J)V", sig := { parameters := [.long], returnType := none }, accessFlags := 0, code := some k2c0 }
def k2c1 : Code := { maxStack := 6, maxLocals := 6, code := prog_70_method_2_code, exceptionTable := #[], attributes := #[] }
def k2m1 : Method := { name := "add", desc := "(J)Z", sig := { parameters := [.long], returnType := some .boolean }, accessFlags := 0, code := some k2c1 }
def k2c2 : Code := { maxStack := 6, maxLocals := 3, code := prog_70_method_5_code, exceptionTable := #[], attributes := #[] }
def k2m2 : Method := { name := "contains", desc := "(J)Z", sig := { parameters := [.long], returnType := some .boolean }, accessFlags := 0, code := some k2c2 }
def k2c3 : Code := { maxStack := 2, maxLocals := 1, code := prog_70_method_6_code, exceptionTable := #[], attributes := #[] }
def k2m3 : Method := { name := "size", desc := "()J", sig := { parameters := [], returnType := some .long }, accessFlags := 0, code := some k2c3 }
/-- com/example/leafchain/leafchain/PageSet -/
def k2 : Class := { plain "com/example/leafchain/leafchain/PageSet" (some 0) with
  accessFlags := 48
  interfaces := #[]
  cf := some (fileOf pool2 16 #[] #[{ accessFlags := 0, nameIndex := 5, descriptorIndex := 42, attributes := #[] }, { accessFlags := 0, nameIndex := 36, descriptorIndex := 37, attributes := #[] }, { accessFlags := 0, nameIndex := 66, descriptorIndex := 37, attributes := #[] }, { accessFlags := 0, nameIndex := 23, descriptorIndex := 67, attributes := #[] }] 48 2 #[] #[{ accessFlags := 18, nameIndex := 19, descriptorIndex := 20, attributes := #[] }, { accessFlags := 2, nameIndex := 23, descriptorIndex := 24, attributes := #[] }])
  fields := #[{ name := "words", type := (.array .long), accessFlags := 18, slot := 0, constantValue := 0 }, { name := "size", type := .long, accessFlags := 2, slot := 1, constantValue := 0 }]
  methods := #[k2m0, k2m1, k2m2, k2m3]
  instanceTypes := #[(.array .long), .long]
  staticTypes := #[]
  resolved := Array.replicate 72 none
  statics := none }

def pool3 : Array CpInfo := pool [(1, .class_ 2), (0, u "java/lang/Math"), (1, .class_ 6), (1, u "java/lang/Object"), (0, u "<init>"), (0, u "()V"), (89, .class_ 100), (1, u "java/lang/Math$RandomNumberGeneratorHolder"), (71, u "negativeZeroFloatBits"), (0, u "J"), (2, u "negativeZeroDoubleBits"), (68, u "$assertionsDisabled"), (0, u "Z"), (91, u "twoToTheDoubleScaleDown"), (0, u "D"), (4, u "twoToTheDoubleScaleUp"), (9, u "E"), (3, u "PI"), (2, u "TAU"), (2, u "DEGREES_TO_RADIANS"), (0, u "RADIANS_TO_DEGREES"), (39, u "toIntExact"), (0, u "(J)I")] 53

def k3m0 : Method := { name := "<init>", desc := "()V", sig := { parameters := [], returnType := none }, accessFlags := 2, code := none }
def k3c1 : Code := { maxStack := 4, maxLocals := 2, code := jdk_29_method_43_code, exceptionTable := #[], attributes := #[] }
def k3m1 : Method := { name := "toIntExact", desc := "(J)I", sig := { parameters := [.long], returnType := some .int }, accessFlags := 9, code := some k3c1 }
/-- java/lang/Math -/
def k3 : Class := { plain "java/lang/Math" (some 0) with
  accessFlags := 49
  interfaces := #[]
  cf := some (fileOf pool3 1 #[.nestMembers #[98]] #[{ accessFlags := 2, nameIndex := 7, descriptorIndex := 8, attributes := #[] }, { accessFlags := 9, nameIndex := 405, descriptorIndex := 406, attributes := #[] }] 49 4 #[] #[{ accessFlags := 25, nameIndex := 354, descriptorIndex := 339, attributes := #[] }, { accessFlags := 25, nameIndex := 358, descriptorIndex := 339, attributes := #[] }, { accessFlags := 25, nameIndex := 361, descriptorIndex := 339, attributes := #[] }, { accessFlags := 26, nameIndex := 364, descriptorIndex := 339, attributes := #[] }, { accessFlags := 26, nameIndex := 365, descriptorIndex := 339, attributes := #[] }, { accessFlags := 26, nameIndex := 172, descriptorIndex := 173, attributes := #[] }, { accessFlags := 26, nameIndex := 176, descriptorIndex := 173, attributes := #[] }, { accessFlags := 8, nameIndex := 344, descriptorIndex := 339, attributes := #[] }, { accessFlags := 8, nameIndex := 338, descriptorIndex := 339, attributes := #[] }, { accessFlags := 4120, nameIndex := 245, descriptorIndex := 246, attributes := #[] }])
  fields := #[{ name := "E", type := .double, accessFlags := 25, slot := 0, constantValue := 0 }, { name := "PI", type := .double, accessFlags := 25, slot := 1, constantValue := 0 }, { name := "TAU", type := .double, accessFlags := 25, slot := 2, constantValue := 0 }, { name := "DEGREES_TO_RADIANS", type := .double, accessFlags := 26, slot := 3, constantValue := 0 }, { name := "RADIANS_TO_DEGREES", type := .double, accessFlags := 26, slot := 4, constantValue := 0 }, { name := "negativeZeroFloatBits", type := .long, accessFlags := 26, slot := 5, constantValue := 0 }, { name := "negativeZeroDoubleBits", type := .long, accessFlags := 26, slot := 6, constantValue := 0 }, { name := "twoToTheDoubleScaleUp", type := .double, accessFlags := 8, slot := 7, constantValue := 0 }, { name := "twoToTheDoubleScaleDown", type := .double, accessFlags := 8, slot := 8, constantValue := 0 }, { name := "$assertionsDisabled", type := .boolean, accessFlags := 4120, slot := 9, constantValue := 0 }]
  methods := #[k3m0, k3m1]
  instanceTypes := #[]
  staticTypes := #[.double, .double, .double, .double, .double, .long, .long, .double, .double, .boolean]
  resolved := Array.replicate 460 none
  statics := none }

def pool4 : Array CpInfo := pool [(1, u "java/lang/Cloneable"), (0, .class_ 1), (0, u "java/lang/Object"), (0, .class_ 3)] 3

/-- java/lang/Cloneable -/
def k4 : Class := { plain "java/lang/Cloneable" (some 0) with
  accessFlags := 1537
  interfaces := #[]
  cf := some (fileOf pool4 2 #[] #[] 1537 4 #[] #[])
  fields := #[]
  methods := #[]
  instanceTypes := #[]
  staticTypes := #[]
  resolved := Array.replicate 8 none
  statics := none }

def pool5 : Array CpInfo := pool [(1, u "java/io/Serializable"), (0, .class_ 1), (0, u "java/lang/Object"), (0, .class_ 3)] 3

/-- java/io/Serializable -/
def k5 : Class := { plain "java/io/Serializable" (some 0) with
  accessFlags := 1537
  interfaces := #[]
  cf := some (fileOf pool5 2 #[] #[] 1537 4 #[] #[])
  fields := #[]
  methods := #[]
  instanceTypes := #[]
  staticTypes := #[]
  resolved := Array.replicate 8 none
  statics := none }

/-- the primitive byte -/
def k6 : Class := { plain "byte" none with kind := .primitive 'B', accessFlags := 0x411 }
/-- [B -/
def k7 : Class := { plain "[B" (some 0) with kind := .array 6 .byte, interfaces := #[4, 5], accessFlags := 1041 }

/-- the primitive int -/
def k8 : Class := { plain "int" none with kind := .primitive 'I', accessFlags := 0x411 }
/-- [I -/
def k9 : Class := { plain "[I" (some 0) with kind := .array 8 .int, interfaces := #[4, 5], accessFlags := 1041 }

/-- the primitive long -/
def k10 : Class := { plain "long" none with kind := .primitive 'J', accessFlags := 0x411 }
/-- [J -/
def k11 : Class := { plain "[J" (some 0) with kind := .array 10 .long, interfaces := #[4, 5], accessFlags := 1041 }

def heap : Heap := #[]
def classes : Array Class := #[k0, k1, k2, k3, k4, k5, k6, k7, k8, k9, k10, k11]
def interned : List (Array UInt16 × Addr) := []
def slotsUsed : Nat := 0
def theMethod : MethodId := ⟨1, 1⟩
def args0 : Array Value := #[.long 5, .long 6, .long 7, .long 8]
def aboutOver (below : List Frame) : State where
  vm := { classes := classes, interned := interned.toArray }
  heap := heap
  slotsUsed := slotsUsed
  threads := #[{ frames := .invoking theMethod args0 :: below }]
def below0 : List Frame := [.native { method := ⟨0, 0⟩, args := #[] }]
def about1 : State := aboutOver below0
def p0 : Program := .bare "" "" ""
def e0 : Env := launch0.env 0 0 0
theorem w_frames : about1.frames = Frame.invoking theMethod args0 :: below0 := rfl
set_option maxRecDepth 65536 in
theorem w_args : argsFit about1.vm theMethod args0 = true := by decide +kernel
set_option maxRecDepth 65536 in
theorem w_heap : heapFits about1 = true := by decide +kernel
set_option maxRecDepth 65536 in
theorem w_runnable : about1.curStatus? = some .runnable := by decide +kernel
set_option maxRecDepth 65536 in
theorem w_alone : about1.alone = true := by decide +kernel
set_option maxRecDepth 65536 in
theorem w_named : about1.methodNamed? x = some theMethod := by decide +kernel
set_option maxRecDepth 65536 in
theorem w_hears : about1.hears theMethod below0 = true := by decide +kernel
set_option maxRecDepth 65536 in
theorem w_ripe : about1.ripe theMethod args0 below0 = true := by decide +kernel
theorem w_running : about1.status = .running := rfl
set_option maxRecDepth 65536 in
theorem w_room : about1.hasRoom e0.platform room_1 = true :=
  launch0.hasRoom_least _ room_1 (by decide +kernel) (by decide +kernel) (by decide +kernel) (by decide +kernel) (by decide +kernel) (by decide +kernel)
theorem allAtoms_all (ts : List Jvm.Cond) (a : Array Jvm.Value) (st : Jvm.State) : (allAtoms ts).before a st = ts.all (fun c => c.before a st) := by
  induction ts with
  | nil => rfl
  | cons c t ih =>
    show (Jvm.Cond.and c (allAtoms t)).before a st = _
    rw [Jvm.Cond.before_and, ih, List.all_cons]
def words1 : List Jvm.Cond := Jvm.Cond.code x code maxLocals ret :: tables_1
/-- a 'code' word, met by the world's own term for the bytes: nothing is compared byte by byte -/
theorem code_word {y : MethodName} {bytes : ByteArray} {mx : Nat} {rt : Option FieldType} {a : Array Value} {s : State} {m : MethodId} {meth : Method} {c : Code} (h1 : s.methodNamed? y = some m) (h2 : s.vm.method? m = some meth) (h3 : meth.code = some c) (h4 : c.code = bytes)
    (h5 : (c.maxLocals == mx && c.exceptionTable.isEmpty && decide (c.maxStack ≤ mostOperands) && decide (meth.sig.returnType = rt) && !meth.locks && decide (parseMethodDescriptor y.desc = some meth.sig)) = true) : (Jvm.Cond.code y bytes mx rt).before a s = true := by
  simp only [Bool.and_eq_true, beq_iff_eq, Bool.not_eq_true', decide_eq_true_eq] at h5
  obtain ⟨⟨⟨⟨⟨g1, g2⟩, g3⟩, g4⟩, g5⟩, g6⟩ := h5
  simp [Cond.before, Cond.holds, Cond.value, h1, h2, h3, h4, g1, g2, g3, g4, g5, g6]
def isCode : Jvm.Cond → Bool
  | .code _ _ _ _ => true
  | _ => false
theorem all_split {L : List Jvm.Cond} {P : Jvm.Cond → Bool} (h1 : L.all (fun c => isCode c || P c) = true) (h2 : ∀ c ∈ L.filter isCode, P c = true) : L.all P = true := by
  refine List.all_eq_true.mpr fun c hc => ?_
  have h := List.all_eq_true.mp h1 c hc
  rcases Bool.eq_false_or_eq_true (isCode c) with hi | hi
  · exact h2 c (List.mem_filter.mpr ⟨hc, hi⟩)
  · simpa [hi] using h
set_option maxRecDepth 65536 in
theorem w_c0 : (Jvm.Cond.code x code maxLocals ret).before args0 about1 = true := code_word (m := ⟨1, 1⟩) (meth := k1m1) (c := k1c1) (by decide +kernel) rfl rfl rfl (by decide +kernel)
set_option maxRecDepth 65536 in
theorem w_c1 : (Jvm.Cond.code ({ cls := "com/example/leafchain/leafchain/PageSet", name := "<init>", desc := "(J)V" } : Jvm.MethodName) prog_70_method_1_code (3 : Nat) (Option.none : Option Jvm.ClassFile.FieldType)).before args0 about1 = true := code_word (m := ⟨2, 0⟩) (meth := k2m0) (c := k2c0) (by decide +kernel) rfl rfl rfl (by decide +kernel)
set_option maxRecDepth 65536 in
theorem w_c2 : (Jvm.Cond.code ({ cls := "java/lang/Object", name := "<init>", desc := "()V" } : Jvm.MethodName) object_method_1_code (1 : Nat) (Option.none : Option Jvm.ClassFile.FieldType)).before args0 about1 = true := code_word (m := ⟨0, 0⟩) (meth := k0m0) (c := k0c0) (by decide +kernel) rfl rfl rfl (by decide +kernel)
set_option maxRecDepth 65536 in
theorem w_c3 : (Jvm.Cond.code ({ cls := "java/lang/Math", name := "toIntExact", desc := "(J)I" } : Jvm.MethodName) jdk_29_method_43_code (2 : Nat) (Option.some Jvm.ClassFile.FieldType.int)).before args0 about1 = true := code_word (m := ⟨3, 1⟩) (meth := k3m1) (c := k3c1) (by decide +kernel) rfl rfl rfl (by decide +kernel)
set_option maxRecDepth 65536 in
theorem w_c4 : (Jvm.Cond.code ({ cls := "com/example/leafchain/leafchain/PageSet", name := "add", desc := "(J)Z" } : Jvm.MethodName) prog_70_method_2_code (6 : Nat) (Option.some Jvm.ClassFile.FieldType.boolean)).before args0 about1 = true := code_word (m := ⟨2, 1⟩) (meth := k2m1) (c := k2c1) (by decide +kernel) rfl rfl rfl (by decide +kernel)
set_option maxRecDepth 65536 in
theorem w_c5 : (Jvm.Cond.code ({ cls := "com/example/leafchain/leafchain/PageSet", name := "size", desc := "()J" } : Jvm.MethodName) prog_70_method_6_code (1 : Nat) (Option.some Jvm.ClassFile.FieldType.long)).before args0 about1 = true := code_word (m := ⟨2, 3⟩) (meth := k2m3) (c := k2c3) (by decide +kernel) rfl rfl rfl (by decide +kernel)
set_option maxRecDepth 65536 in
theorem w_c6 : (Jvm.Cond.code ({ cls := "com/example/leafchain/leafchain/PageSet", name := "contains", desc := "(J)Z" } : Jvm.MethodName) prog_70_method_5_code (3 : Nat) (Option.some Jvm.ClassFile.FieldType.boolean)).before args0 about1 = true := code_word (m := ⟨2, 2⟩) (meth := k2m2) (c := k2c2) (by decide +kernel) rfl rfl rfl (by decide +kernel)
def codes1 : List Jvm.Cond := [Jvm.Cond.code x code maxLocals ret, Jvm.Cond.code ({ cls := "com/example/leafchain/leafchain/PageSet", name := "<init>", desc := "(J)V" } : Jvm.MethodName) prog_70_method_1_code (3 : Nat) (Option.none : Option Jvm.ClassFile.FieldType), Jvm.Cond.code ({ cls := "java/lang/Object", name := "<init>", desc := "()V" } : Jvm.MethodName) object_method_1_code (1 : Nat) (Option.none : Option Jvm.ClassFile.FieldType), Jvm.Cond.code ({ cls := "java/lang/Math", name := "toIntExact", desc := "(J)I" } : Jvm.MethodName) jdk_29_method_43_code (2 : Nat) (Option.some Jvm.ClassFile.FieldType.int), Jvm.Cond.code ({ cls := "com/example/leafchain/leafchain/PageSet", name := "add", desc := "(J)Z" } : Jvm.MethodName) prog_70_method_2_code (6 : Nat) (Option.some Jvm.ClassFile.FieldType.boolean), Jvm.Cond.code ({ cls := "com/example/leafchain/leafchain/PageSet", name := "size", desc := "()J" } : Jvm.MethodName) prog_70_method_6_code (1 : Nat) (Option.some Jvm.ClassFile.FieldType.long), Jvm.Cond.code ({ cls := "com/example/leafchain/leafchain/PageSet", name := "contains", desc := "(J)Z" } : Jvm.MethodName) prog_70_method_5_code (3 : Nat) (Option.some Jvm.ClassFile.FieldType.boolean)]
set_option maxRecDepth 65536 in
theorem codes_eq : words1.filter isCode = codes1 := rfl
theorem w_codes : ∀ c ∈ words1.filter isCode, c.before args0 about1 = true := by
  rw [codes_eq]
  intro c hc
  simp only [codes1, List.mem_cons, List.not_mem_nil, or_false] at hc
  rcases hc with rfl | rfl | rfl | rfl | rfl | rfl | rfl
  · exact w_c0
  · exact w_c1
  · exact w_c2
  · exact w_c3
  · exact w_c4
  · exact w_c5
  · exact w_c6
set_option maxRecDepth 65536 in
theorem w_t1 : (words1.take 24).all (fun c => isCode c || c.before args0 about1) = true := by decide +kernel
set_option maxRecDepth 65536 in
theorem w_t2 : (words1.drop 24).all (fun c => isCode c || c.before args0 about1) = true := by decide +kernel
theorem w_tables : (allAtoms (Jvm.Cond.code x code maxLocals ret :: tables_1)).before args0 about1 = true := by
  rw [allAtoms_all]
  show words1.all (fun c => c.before args0 about1) = true
  refine all_split ?_ w_codes
  rw [← List.take_append_drop 24 words1, List.all_append, w_t1, w_t2]
  rfl
set_option maxRecDepth 65536 in
theorem w_case : (Jvm.Cond.and given_1 narrow_1).before args0 about1 = true := by decide +kernel
theorem w_applies : (headSpec (Jvm.Cond.code x code maxLocals ret :: tables_1) room_1).applies x e0.platform about1 = true :=
  (Spec.applies_iff w_frames).mpr ⟨w_running, w_runnable, w_alone, w_named, w_hears, w_ripe, w_room, w_tables⟩
theorem atStart : AtStart classFile x code maxLocals ret World_1 tables_1 room_1 Calls_1 rest_1 Pre_1 launch0 p0 e0 about1 theMethod args0 below0 :=
  ⟨lists_1, trivial, launch0.admits_env _ _ _, launch0.least_env, fairChoices_fair.cas, fairChoices_fair.clock, w_frames, w_args, w_heap, w_applies, trivial, trivial, w_case⟩
end start1
theorem witness_1 : WitnessClaimed_1 := ⟨start1.p0, start1.e0, start1.about1, start1.theMethod, start1.args0, start1.below0, start1.atStart⟩
end Jvm.Pilot.@@N@@
