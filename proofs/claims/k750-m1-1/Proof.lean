import JvmDerived
import JvmDerived.Pilot.@@N@@Statement
import JvmDerived.Pilot.@@N@@Code
set_option linter.unusedVariables false
set_option linter.unusedSimpArgs false
namespace Jvm.Pilot.@@N@@
open Jvm Jvm.ClassFile Sem Op Lib Jvm.Free Jvm.Stand Jvm.LawKit Jvm.RoadKit Bundle Jvm.Pilot.@@N@@.Jvm.D
section Own
variable {p : Program} {l : Launch} {e : Env} {R : Room} {s : State} {m : MethodId} {args : Array Value} {below : List Frame} {meth : Method} {c : Code} {T : State} {locs : List Loc} {cells slots : Nat} {Z : State} {a0 : Array Value} {h : Heap}
/-- from the state A the body ends as Q says, with at most C cells and S slots made -/
def own_E (p : Program) (e : Env) (below : List Frame) (s : State) (Q : Option Value → Heap → List Loc → Prop) (C S : Nat) (A : State) : Prop :=
  ∃ s₂ o, Steps p.tables e below A s₂ ∧ s₂.status = .running ∧ Ended s₂ below o ∧ ∃ v L, o = .returned v ∧ Q v s₂.heap L ∧ FrameEnd s o s₂ L C S
theorem own_pre {Q : Option Value → Heap → List Loc → Prop} {C S : Nat} {A B : State} (h : own_E p e below s Q C S B) (k : ∀ t, Steps p.tables e below B t → Steps p.tables e below A t) : own_E p e below s Q C S A := by
  obtain ⟨s₂, o, h1, h2⟩ := h
  exact ⟨s₂, o, k _ h1, h2⟩
theorem own_out {Q : Option Value → Heap → List Loc → Prop} {C S : Nat} {A : State} (X : Stand p l e R s m args below meth c T locs cells slots) (hk : meth.locks = false) {v : Option Value} (hv : meth.sig.returnType = none → v = none)
    (st : ∀ fs, (∀ (f : JFrame) (acts : List Action), f.method = m → f.locked = none → f.entered = [] → (doReturn e (T.setTop f) acts v).1 = T.setFrames fs) → Steps p.tables e below A (T.setFrames fs))
    (hQ : Q v T.heap locs) (hc : cells ≤ C) (hs : slots ≤ S) : own_E p e below s Q C S A := by
  obtain ⟨fs, hr, hrun, hended, hW, hsame⟩ := X.leave (v := v) hv hk
  exact ⟨_, _, st fs hr, hrun, hended, _, _, rfl, hQ, ⟨_, rfl⟩, hW, hsame.mono hc hs⟩
theorem own_retN {Q : Option Value → Heap → List Loc → Prop} {C S : Nat} (X : Stand p l e R s m args below meth c T locs cells slots) (hx : p.tables.exec = Jvm.exec) (hk : meth.locks = false) {t : FieldType} {pc : Nat} {Ls : Array Slot} {z z' : Int32} {rest : List Value} (hret : meth.sig.returnType = some t) (ht : t = .boolean ∨ t = .byte ∨ t = .char ∨ t = .short) (hd : decode c.code pc = .ok (.ireturn, 1)) (hn : nar t z = z')
    (hQ : Q (some (.int z')) T.heap locs) (hc : cells ≤ C) (hs : slots ≤ S) : own_E p e below s Q C S (T.setTop (mkF m pc Ls (.int z :: rest))) := by
  subst hn
  exact own_out X hk (fun h => by rw [hret] at h; cases h) (fun fs hr => retN X hx hret ht hd hr) hQ hc hs
theorem own_retI {Q : Option Value → Heap → List Loc → Prop} {C S : Nat} (X : Stand p l e R s m args below meth c T locs cells slots) (hx : p.tables.exec = Jvm.exec) (hk : meth.locks = false) {pc : Nat} {Ls : Array Slot} {z : Int32} {rest : List Value} (hret : meth.sig.returnType = some .int) (hd : decode c.code pc = .ok (.ireturn, 1))
    (hQ : Q (some (.int z)) T.heap locs) (hc : cells ≤ C) (hs : slots ≤ S) : own_E p e below s Q C S (T.setTop (mkF m pc Ls (.int z :: rest))) :=
  own_out X hk (fun h => by rw [hret] at h; cases h) (fun fs hr => retOut X hx hret rfl (Or.inl ⟨rfl, Or.inl rfl, z, rfl⟩) hd hr) hQ hc hs
theorem own_retJ {Q : Option Value → Heap → List Loc → Prop} {C S : Nat} (X : Stand p l e R s m args below meth c T locs cells slots) (hx : p.tables.exec = Jvm.exec) (hk : meth.locks = false) {pc : Nat} {Ls : Array Slot} {z : Int64} {rest : List Value} (hret : meth.sig.returnType = some .long) (hd : decode c.code pc = .ok (.lreturn, 1))
    (hQ : Q (some (.long z)) T.heap locs) (hc : cells ≤ C) (hs : slots ≤ S) : own_E p e below s Q C S (T.setTop (mkF m pc Ls (.long z :: rest))) :=
  own_out X hk (fun h => by rw [hret] at h; cases h) (fun fs hr => retOut X hx hret rfl (Or.inr (Or.inl ⟨rfl, rfl, z, rfl⟩)) hd hr) hQ hc hs
theorem own_nar_ref {t : FieldType} {w : Value} (hw : w.isRef = true) (ht : t.isReference = true) : narrow t w = w := by
  rcases ref_cases hw with rfl | ⟨z, rfl⟩ <;> cases t <;> first | rfl | (cases ht; done)
theorem own_fit_ref {t : FieldType} {w : Value} (hw : w.isRef = true) (ht : t.isReference = true) : fits t w = true := by
  rcases ref_cases hw with rfl | ⟨z, rfl⟩ <;> cases t <;> first | rfl | (cases ht; done)
theorem own_retA {Q : Option Value → Heap → List Loc → Prop} {C S : Nat} (X : Stand p l e R s m args below meth c T locs cells slots) (hx : p.tables.exec = Jvm.exec) (hk : meth.locks = false) {t : FieldType} {pc : Nat} {Ls : Array Slot} {w : Value} {rest : List Value} (hret : meth.sig.returnType = some t) (ht : t.isReference = true) (hw : w.isRef = true) (hd : decode c.code pc = .ok (.areturn, 1))
    (hQ : Q (some w) T.heap locs) (hc : cells ≤ C) (hs : slots ≤ S) : own_E p e below s Q C S (T.setTop (mkF m pc Ls (w :: rest))) :=
  own_out X hk (fun h => by rw [hret] at h; cases h) (fun fs hr => retOut X hx hret (own_nar_ref hw ht) (Or.inr (Or.inr (Or.inr (Or.inr ⟨rfl, ht, hw⟩)))) hd hr) hQ hc hs
theorem own_retV {Q : Option Value → Heap → List Loc → Prop} {C S : Nat} (X : Stand p l e R s m args below meth c T locs cells slots) (hx : p.tables.exec = Jvm.exec) (hk : meth.locks = false) {pc : Nat} {Ls : Array Slot} (hret : meth.sig.returnType = none) (hd : decode c.code pc = .ok (.return_, 1))
    (hQ : Q none T.heap locs) (hc : cells ≤ C) (hs : slots ≤ S) : own_E p e below s Q C S (T.setTop (mkF m pc Ls [])) :=
  own_out X hk (fun _ => rfl) (fun fs hr => X.returnOut hx hret hd hr) hQ hc hs
theorem own_lrem {g : JFrame} {target : State} (X : Stand p l e R s m args below meth c T locs cells slots) (hx : p.tables.exec = Jvm.exec) (hg : g.method = m) {x y : Int64} {rest : List Value} (hd : decode c.code g.pc = .ok (.lrem, 1)) (hs : g.stack = .long y :: .long x :: rest) (hy : y ≠ 0)
    (hr : Steps p.tables e below (T.setTop { g with pc := g.pc + 1, stack := .long (x % y) :: rest }) target) : Steps p.tables e below (T.setTop g) target :=
  XS.lrem X.here hx hg hd hs hy (by rw [lrem_mod]; exact hr)
end Own
section OwnArr
variable {Z : State} {h h' : Heap} {a b : Addr} {ty : FieldType} {n : Nat} {g : Nat → Value} {ws : List Addr} {sl : Nat} {v : Value}
/-- in heap h the array at b, of the kind ty, has n places; the place i holds g i -/
def own_FA (Z : State) (h : Heap) (b : Addr) (ty : FieldType) (n : Nat) (g : Nat → Value) : Prop := n < 2 ^ 31 ∧ ∃ c : Cell, Arr Z h b c ty ∧ c.slots.size = n ∧ ∀ i, i < n → c.slots[i]? = some (g i)
theorem own_FA.lt (F : own_FA Z h b ty n g) : b < h.size := by obtain ⟨_, c, A, -⟩ := F; exact A.lt
theorem own_FA.ext (F : own_FA Z h b ty n g) (E : Ext h h') : own_FA Z h' b ty n g := by obtain ⟨q, c, A, r⟩ := F; exact ⟨q, c, A.ext E, r⟩
theorem own_FA.other (F : own_FA Z h b ty n g) (W : Wr h h' a sl v) (q : b ≠ a) : own_FA Z h' b ty n g := by obtain ⟨q', c, A, r⟩ := F; exact ⟨q', c, A.other W q, r⟩
theorem own_FA.keep (F : own_FA Z h b ty n g) (K : Keep h h' ws) (q : b ∉ ws) : own_FA Z h' b ty n g := by obtain ⟨q', c, A, r⟩ := F; exact ⟨q', c, ⟨K.2.1 _ _ A.1 q, A.2⟩, r⟩
theorem own_FA.set (F : own_FA Z h b ty n g) (W : Wr h h' b sl v) : own_FA Z h' b ty n (fun i => if i = sl then v else g i) := by
  obtain ⟨q, c, A, S, H⟩ := F
  have A' := A.same W
  obtain ⟨cell, h1, h2, h3, -⟩ := W
  cases A.1.symm.trans h1
  refine ⟨q, _, A', by rw [sz_set]; exact S, fun i hi => ?_⟩
  by_cases e : i = sl
  · subst e; simp [Cell.setSlot, S, hi]
  · simp only [Cell.setSlot, e, if_false]
    rw [Array.getElem?_setIfInBounds_ne (Ne.symm e)]; exact H i hi
theorem own_FA.new {k : ClassId} {z : Int32} (A : Arr Z h b (newA k ty z) ty) (q : ¬ z < 0) : own_FA Z h b ty z.toNatClampNeg (fun _ => defaultValue ty) := by
  refine ⟨(back32 q).2, _, A, sz_new _ _ _, fun i hi => by simp [newA, hi]⟩
theorem own_FA.eq {g' : Nat → Value} (F : own_FA Z h b ty n g) (e : ∀ i, i < n → g i = g' i) : own_FA Z h b ty n g' := by obtain ⟨q, c, A, S, H⟩ := F; exact ⟨q, c, A, S, fun i hi => by rw [← e i hi]; exact H i hi⟩
def own_up {α : Type} (f : Nat → α) (j : Nat) (x : α) : Nat → α := fun i => if i = j then x else f i
theorem own_FA.setJ {f : Nat → Int64} {x : Int64} (F : own_FA Z h b ty n (fun i => .long (f i))) (W : Wr h h' b sl (.long x)) : own_FA Z h' b ty n (fun i => .long (own_up f sl x i)) :=
  (F.set W).eq fun i _ => by by_cases e : i = sl <;> simp [own_up, e]
theorem own_FA.setI {f : Nat → Int32} {x : Int32} (F : own_FA Z h b ty n (fun i => .int (f i))) (W : Wr h h' b sl (.int x)) : own_FA Z h' b ty n (fun i => .int (own_up f sl x i)) :=
  (F.set W).eq fun i _ => by by_cases e : i = sl <;> simp [own_up, e]
theorem own_hin {c : Cell} {j : Int32} {i : Nat} (S : c.slots.size = n) (cl : j.toNatClampNeg = i) (hn : ¬ j < 0) (hi : i < n) : ¬ (j < 0 ∨ c.slots.size ≤ j.toNatClampNeg) := by
  rw [S, cl]; exact fun q => q.elim hn fun q => absurd hi (Nat.not_lt.mpr q)
theorem own_hat {c : Cell} {j : Int32} {i : Nat} (H : ∀ i, i < n → c.slots[i]? = some (g i)) (cl : j.toNatClampNeg = i) (hi : i < n) : c.slots[j.toNatClampNeg]? = some (g i) := by
  rw [cl]; exact H i hi
theorem own_i1 {i : Nat} (hi : i < 2 ^ 31) : (Int32.ofNat i).toInt = (i : Int) := toInt_of rfl hi
theorem own_ic {i : Nat} (hi : i < 2 ^ 31) : (Int32.ofNat i).toNatClampNeg = i := clamp_of rfl hi
theorem own_in0 {i : Nat} (hi : i < 2 ^ 31) : ¬ (Int32.ofNat i) < 0 := by rw [Int32.lt_iff_toInt_lt, own_i1 hi]; simp only [Int32.reduceToInt]; omega
theorem own_selfsel {s : State} {args : Array Value} {y z : MethodName} (hz : z.cls = y.cls) (nf : NotFace s z) (hzi : (Cond.instanceMethod z).before args s = true) (hpriv : s.PrivateAt y) (hinst : (Cond.instanceMethod y).before args s = true) (hy : y.cls ≠ "java/lang/invoke/MethodHandle" ∧ y.cls ≠ "java/lang/invoke/VarHandle") : (Cond.selects y.cls y y).before args s = true := by
  obtain ⟨mk, methM, hnamed, -⟩ := Cond.instanceMethod_spec hzi
  obtain ⟨k, hk, hni⟩ := nf mk hnamed
  have hc := findClass_of_methodNamed hnamed
  rw [hz] at hc
  exact selects_self_of_private hc hk hni hpriv hinst hy
end OwnArr

theorem own_olt {i n : Nat} (hi : i < 2 ^ 31) (hn : n < 2 ^ 31) : Int32.ofNat i < Int32.ofNat n ↔ i < n := by
  rw [Int32.lt_iff_toInt_lt, own_i1 hi, own_i1 hn]; omega
theorem own_FA.ofArv {Z : State} {h : Heap} {a : Addr} {k : ClassId} {z : Int32} {vs : List Int64} (F : Arv Z h a k .long z (vs.map Value.long) (.long 0)) : own_FA Z h a .long z.toNatClampNeg (fun i => .long (vs.getD i 0)) := by
  obtain ⟨c, A, -, S, M, H, -⟩ := F
  refine ⟨(back32 M).2, c, A, S, fun i hi => ?_⟩
  rw [H i (by omega)]
  simp only [List.getD_eq_getElem?_getD, List.getElem?_map]
  cases vs[i]? <;> rfl
def own_xp (f g : Nat → Int64) (i : Nat) : Nat → Int64 := fun j => if j < i then f j ^^^ g j else 0
theorem own_xp_succ (f g : Nat → Int64) (i : Nat) : own_up (own_xp f g i) i (f i ^^^ g i) = own_xp f g (i + 1) := by
  funext j
  unfold own_up own_xp
  by_cases h1 : j = i
  · subst h1; simp
  · by_cases h2 : j < i
    · simp [h1, h2, Nat.lt_succ_of_lt h2]
    · simp [h1, h2, show ¬ j < i + 1 by omega]
theorem own_xp_zero (f g : Nat → Int64) : own_xp f g 0 = (fun _ => 0) := by
  funext j; simp [own_xp]
theorem d2_0 : decode method_2_code 0 = .ok (.lload_n 0, 1) := by decide +kernel
theorem d2_1 : decode method_2_code 1 = .ok (.lload_n 2, 1) := by decide +kernel
theorem d2_2 : decode method_2_code 2 = .ok (.lor, 1) := by decide +kernel
theorem d2_3 : decode method_2_code 3 = .ok (.lload_n 0, 1) := by decide +kernel
theorem d2_4 : decode method_2_code 4 = .ok (.lload_n 2, 1) := by decide +kernel
theorem d2_5 : decode method_2_code 5 = .ok (.land, 1) := by decide +kernel
theorem d2_6 : decode method_2_code 6 = .ok (.ldc2_w 7, 3) := by decide +kernel
theorem d2_9 : decode method_2_code 9 = .ok (.lxor, 1) := by decide +kernel
theorem d2_10 : decode method_2_code 10 = .ok (.land, 1) := by decide +kernel
theorem d2_11 : decode method_2_code 11 = .ok (.lreturn, 1) := by decide +kernel
def own_refx (x0 : Int64) (x1 : Int64) : Int64 := ((x0 ||| x1) &&& ((x0 &&& x1) ^^^ (-1 : Int64)))
theorem own_xr (x y : Int64) : x ^^^ y = own_refx x y := by
  unfold own_refx
  refine Int64.toBitVec_inj.mp ?_
  refine BitVec.eq_of_getLsbD_eq fun i hi => ?_
  have m1 : (-1 : Int64).toBitVec = BitVec.allOnes 64 := by decide
  simp only [Int64.toBitVec_xor, Int64.toBitVec_and, Int64.toBitVec_or, BitVec.getLsbD_xor, BitVec.getLsbD_and, BitVec.getLsbD_or, m1, BitVec.getLsbD_allOnes, hi, decide_true]
  cases x.toBitVec.getLsbD i <;> cases y.toBitVec.getLsbD i <;> rfl
theorem own_l3 {x l : Int32} (h : ((x &&& (2147483647 : Int32)) % (3 : Int32)) = l) : l = (0 : Int32) ∨ l = (1 : Int32) ∨ l = (2 : Int32) := by
  have r := c_mask x 2147483647 31 (by decide) (by decide)
  have q := (c_irem (x &&& 2147483647) 3 3 (by decide)).1 (by omega)
  rw [h] at q
  simp only [← Int32.toInt_inj, Int32.reduceToInt]
  omega
theorem pn_com_example_nimfield_nimfield_NimWordsXorPinLaw : plainName "com/example/nimfield/nimfield/NimWordsXorPinLaw" = true := by first | (simp [plainName, overriddenIn]; done) | decide +kernel
set_option maxHeartbeats 4000000 in
theorem ef_2 (m : MethodId) (x0 : Int64) (x1 : Int64) : entryFrame m #[(.long x0), (.long x1)] 4 = mkF m 0 #[.val (.long x0), .second, .val (.long x1), .second] [] := by first | (simp [entryFrame, mkF, argsToLocals, Value.category]; done) | rfl
def Q2 (Z : State) (x0 : Int64) (x1 : Int64) (h0 : Heap) (n0 : Nat) (v : Option Value) (h : Heap) (L : List Loc) : Prop := v = some (.long (own_refx x0 x1)) ∧ Fr n0 L ∧ h = h0
set_option maxRecDepth 65536 in
set_option maxHeartbeats 40000000 in
theorem rm2 (l : Launch) (Z : State) (a0 : Array Value) (hw : ∀ d ∈ tables_1, d.before a0 Z = true) (ws : List Jvm.Cond) (x0 : Int64) (x1 : Int64) (h0 : Heap) (n0 : Nat) (Z0 : n0 ≤ h0.size) :
    MetFree l (⟨"com/example/nimfield/nimfield/NimWordsXorPinLaw", "ref", "(JJ)J"⟩ : MethodName) (head1 (Jvm.Cond.code (⟨"com/example/nimfield/nimfield/NimWordsXorPinLaw", "ref", "(JJ)J"⟩ : MethodName) method_2_code 4 (some .long) :: ws) ({ frames := 0, cells := 0, slots := 0, locals := 0 } : Room)) (fun a U => a = #[(.long x0), (.long x1)] ∧ Z.Warmed39 U.vm ∧ U.heap = h0) (fun _ _ _ _ _ => True) (fun _ U o U' => ∃ v L, o = .returned v ∧ Q2 Z x0 x1 h0 n0 v U'.heap L ∧ FrameEnd U o U' L ({ frames := 0, cells := 0, slots := 0, locals := 0 } : Room).cells ({ frames := 0, cells := 0, slots := 0, locals := 0 } : Room).slots) := by
  refine MetFree.of_bodySF (plainFor_of_name pn_com_example_nimfield_nimfield_NimWordsXorPinLaw) hisR ?_
  intro p e s m args below meth c s₁ Bd hml0 hP hK
  obtain ⟨rfl, hZ, hh⟩ := hP
  have hx := Bd.exec
  have hby := Bd.bytes
  have hml : c.maxLocals = 4 := hml0
  have hown : s.vm.findClass "com/example/nimfield/nimfield/NimWordsXorPinLaw" = some m.cls := findClass_of_methodNamed Bd.named
  have hnm := (name_of_methodNamed Bd.named Bd.method).1
  have hlk : meth.locks = false := BodyLoose.notSynchronized Bd
  have X0 : Stand p l e ({ frames := 0, cells := 0, slots := 0, locals := 0 } : Room) s m #[(.long x0), (.long x1)] below meth c s₁ [] 0 0 := Stand.of_body Bd
  have e0 : s₁.heap = h0 := by rw [← hh, Bd.state]; rfl
  have N0 := Fr.nil n0
  show own_E p e below s (Q2 Z x0 x1 h0 n0) 0 0 (s₁.setTop (entryFrame m #[(.long x0), (.long x1)] 4))
  refine own_pre (B := s₁.setTop (mkF m 0 #[.val (.long x0), .second, .val (.long x1), .second] [])) ?_ (fun t k => castTop (ef_2 m x0 x1) k)
  refine own_pre (B := s₁.setTop (mkF m 1 #[.val (.long x0), .second, .val (.long x1), .second] [(.long x0)])) ?_ fun t k => XS.lloadN X0.here hx rfl (hb hby d2_0) rfl  k
  refine own_pre (B := s₁.setTop (mkF m 2 #[.val (.long x0), .second, .val (.long x1), .second] [(.long x1), (.long x0)])) ?_ fun t k => XS.lloadN X0.here hx rfl (hb hby d2_1) rfl  k
  refine own_pre (B := s₁.setTop (mkF m 3 #[.val (.long x0), .second, .val (.long x1), .second] [(.long (x0 ||| x1))])) ?_ fun t k => XS.lor X0.here hx rfl (hb hby d2_2) rfl k
  refine own_pre (B := s₁.setTop (mkF m 4 #[.val (.long x0), .second, .val (.long x1), .second] [(.long x0), (.long (x0 ||| x1))])) ?_ fun t k => XS.lloadN X0.here hx rfl (hb hby d2_3) rfl  k
  refine own_pre (B := s₁.setTop (mkF m 5 #[.val (.long x0), .second, .val (.long x1), .second] [(.long x1), (.long x0), (.long (x0 ||| x1))])) ?_ fun t k => XS.lloadN X0.here hx rfl (hb hby d2_4) rfl  k
  refine own_pre (B := s₁.setTop (mkF m 6 #[.val (.long x0), .second, .val (.long x1), .second] [(.long (x0 &&& x1)), (.long (x0 ||| x1))])) ?_ fun t k => XS.land X0.here hx rfl (hb hby d2_5) rfl k
  refine own_pre (B := s₁.setTop (mkF m 9 #[.val (.long x0), .second, .val (.long x1), .second] [(.long (-1 : Int64)), (.long (x0 &&& x1)), (.long (x0 ||| x1))])) ?_ (X0.ldc2Long hx hown (mvT hZ (hw _ (List.mem_of_getElem? (i := 10) rfl))) (g := (mkF m 6 #[.val (.long x0), .second, .val (.long x1), .second] [(.long (x0 &&& x1)), (.long (x0 ||| x1))])) rfl (hb hby d2_6))
  refine own_pre (B := s₁.setTop (mkF m 10 #[.val (.long x0), .second, .val (.long x1), .second] [(.long ((x0 &&& x1) ^^^ (-1 : Int64))), (.long (x0 ||| x1))])) ?_ fun t k => XS.lxor X0.here hx rfl (hb hby d2_9) rfl k
  refine own_pre (B := s₁.setTop (mkF m 11 #[.val (.long x0), .second, .val (.long x1), .second] [(.long ((x0 ||| x1) &&& ((x0 &&& x1) ^^^ (-1 : Int64))))])) ?_ fun t k => XS.land X0.here hx rfl (hb hby d2_10) rfl k
  refine own_retJ X0 hx hlk Bd.returns (hb hby d2_11) ?_ (by decide) (by decide)
  rw [e0]
  exact ⟨by rfl, N0, rfl⟩
theorem d1_0 : decode prog_13_method_14_code 0 = .ok (.aload_n 0, 1) := by decide +kernel
theorem d1_1 : decode prog_13_method_14_code 1 = .ok (.arraylength, 1) := by decide +kernel
theorem d1_2 : decode prog_13_method_14_code 2 = .ok (.newarray .long, 2) := by decide +kernel
theorem d1_4 : decode prog_13_method_14_code 4 = .ok (.astore_n 2, 1) := by decide +kernel
theorem d1_5 : decode prog_13_method_14_code 5 = .ok (.iconst 0, 1) := by decide +kernel
theorem d1_6 : decode prog_13_method_14_code 6 = .ok (.istore_n 3, 1) := by decide +kernel
theorem d1_7 : decode prog_13_method_14_code 7 = .ok (.iload_n 3, 1) := by decide +kernel
theorem d1_8 : decode prog_13_method_14_code 8 = .ok (.aload_n 2, 1) := by decide +kernel
theorem d1_9 : decode prog_13_method_14_code 9 = .ok (.arraylength, 1) := by decide +kernel
theorem d1_10 : decode prog_13_method_14_code 10 = .ok (.if_icmp .ge 19, 3) := by decide +kernel
theorem d1_29 : decode prog_13_method_14_code 29 = .ok (.aload_n 2, 1) := by decide +kernel
theorem d1_30 : decode prog_13_method_14_code 30 = .ok (.areturn, 1) := by decide +kernel
theorem d1_13 : decode prog_13_method_14_code 13 = .ok (.aload_n 2, 1) := by decide +kernel
theorem d1_14 : decode prog_13_method_14_code 14 = .ok (.iload_n 3, 1) := by decide +kernel
theorem d1_15 : decode prog_13_method_14_code 15 = .ok (.aload_n 0, 1) := by decide +kernel
theorem d1_16 : decode prog_13_method_14_code 16 = .ok (.iload_n 3, 1) := by decide +kernel
theorem d1_17 : decode prog_13_method_14_code 17 = .ok (.laload, 1) := by decide +kernel
theorem d1_18 : decode prog_13_method_14_code 18 = .ok (.aload_n 1, 1) := by decide +kernel
theorem d1_19 : decode prog_13_method_14_code 19 = .ok (.iload_n 3, 1) := by decide +kernel
theorem d1_20 : decode prog_13_method_14_code 20 = .ok (.laload, 1) := by decide +kernel
theorem d1_21 : decode prog_13_method_14_code 21 = .ok (.lxor, 1) := by decide +kernel
theorem d1_22 : decode prog_13_method_14_code 22 = .ok (.lastore, 1) := by decide +kernel
theorem d1_23 : decode prog_13_method_14_code 23 = .ok (.iinc 3 1, 3) := by decide +kernel
theorem d1_26 : decode prog_13_method_14_code 26 = .ok (.goto (-19), 3) := by decide +kernel
theorem pn_com_example_nimfield_nimfield_NimWords : plainName "com/example/nimfield/nimfield/NimWords" = true := by first | (simp [plainName, overriddenIn]; done) | decide +kernel
set_option maxHeartbeats 4000000 in
theorem ef_1 (m : MethodId) (x0 : Addr) (x1 : Addr) : entryFrame m #[(.ref x0), (.ref x1)] 4 = mkF m 0 #[.val (.ref x0), .val (.ref x1), .unset, .unset] [] := by first | (simp [entryFrame, mkF, argsToLocals, Value.category]; done) | rfl
def Q1 (Z : State) (x0 : Addr) (x1 : Addr) (nn : Nat) (f : Nat → Int64) (g : Nat → Int64) (h0 : Heap) (n0 : Nat) (v : Option Value) (h : Heap) (L : List Loc) : Prop := ∃ r, v = some (.ref r) ∧ Fr n0 L ∧ h0.size ≤ r ∧ Keep h0 h [] ∧ own_FA Z h r .long nn (fun i => .long (f i ^^^ g i))
set_option maxRecDepth 65536 in
set_option maxHeartbeats 40000000 in
theorem rm1 (l : Launch) (Z : State) (a0 : Array Value) (hw : ∀ d ∈ tables_1, d.before a0 Z = true) (ws : List Jvm.Cond) (x0 : Addr) (x1 : Addr) (nn : Nat) (f : Nat → Int64) (g : Nat → Int64) (h0 : Heap) (n0 : Nat) (Z0 : n0 ≤ h0.size) (A_0 : own_FA Z h0 x0 .long nn (fun i => .long (f i))) (A_1 : own_FA Z h0 x1 .long nn (fun i => .long (g i))) (hcap : nn ≤ 2) :
    MetFree l (⟨"com/example/nimfield/nimfield/NimWords", "xor", "([J[J)[J"⟩ : MethodName) (head1 (Jvm.Cond.code (⟨"com/example/nimfield/nimfield/NimWords", "xor", "([J[J)[J"⟩ : MethodName) prog_13_method_14_code 4 (some (.array .long)) :: ws) ({ frames := 0, cells := 1, slots := 2, locals := 0 } : Room)) (fun a U => a = #[(.ref x0), (.ref x1)] ∧ Z.Warmed39 U.vm ∧ U.heap = h0) (fun _ _ _ _ _ => True) (fun _ U o U' => ∃ v L, o = .returned v ∧ Q1 Z x0 x1 nn f g h0 n0 v U'.heap L ∧ FrameEnd U o U' L ({ frames := 0, cells := 1, slots := 2, locals := 0 } : Room).cells ({ frames := 0, cells := 1, slots := 2, locals := 0 } : Room).slots) := by
  refine MetFree.of_bodySF (plainFor_of_name pn_com_example_nimfield_nimfield_NimWords) hisR ?_
  intro p e s m args below meth c s₁ Bd hml0 hP hK
  obtain ⟨rfl, hZ, hh⟩ := hP
  have hx := Bd.exec
  have hby := Bd.bytes
  have hml : c.maxLocals = 4 := hml0
  have hown : s.vm.findClass "com/example/nimfield/nimfield/NimWords" = some m.cls := findClass_of_methodNamed Bd.named
  have hnm := (name_of_methodNamed Bd.named Bd.method).1
  have hlk : meth.locks = false := BodyLoose.notSynchronized Bd
  have X0 : Stand p l e ({ frames := 0, cells := 1, slots := 2, locals := 0 } : Room) s m #[(.ref x0), (.ref x1)] below meth c s₁ [] 0 0 := Stand.of_body Bd
  have e0 : s₁.heap = h0 := by rw [← hh, Bd.state]; rfl
  have N0 := Fr.nil n0
  show own_E p e below s (Q1 Z x0 x1 nn f g h0 n0) 1 2 (s₁.setTop (entryFrame m #[(.ref x0), (.ref x1)] 4))
  refine own_pre (B := s₁.setTop (mkF m 0 #[.val (.ref x0), .val (.ref x1), .unset, .unset] [])) ?_ (fun t k => castTop (ef_1 m x0 x1) k)
  refine own_pre (B := s₁.setTop (mkF m 1 #[.val (.ref x0), .val (.ref x1), .unset, .unset] [(.ref x0)])) ?_ fun t k => XS.aloadN X0.here hx rfl (hb hby d1_0) rfl rfl k
  obtain ⟨Ln1, cl1, Ar1, S1, Hh1⟩ := id A_0
  have len1 : cl1.slots.size.toInt32 = (Int32.ofNat nn) := (congrArg Nat.toInt32 S1).trans rfl
  refine own_pre (B := s₁.setTop (mkF m 2 #[.val (.ref x0), .val (.ref x1), .unset, .unset] [(.int (Int32.ofNat nn))])) ?_ (fun t k => X0.arraylength hx (by rw [e0]; exact Ar1.1) (State.isArrayOf_alike hZ.alike Ar1.2.1) (g := (mkF m 1 #[.val (.ref x0), .val (.ref x1), .unset, .unset] [(.ref x0)])) rfl rfl (hb hby d1_1) t (by rw [len1]; exact k))
  obtain ⟨T2, h2, k2, X2, e2, E2, A2, st2⟩ := newP X0 hx hZ (hw _ (List.mem_of_getElem? (i := 1) rfl)) e0 (g := (mkF m 2 #[.val (.ref x0), .val (.ref x1), .unset, .unset] [(.int (Int32.ofNat nn))])) rfl (hb hby d1_2) rfl (own_in0 (by omega)) (cap := 2) (by rw [own_ic (i := nn) (by omega)]; exact hcap) (by decide) (by decide) (by decide)
  obtain ⟨b2, g2⟩ : ∃ z, z = h0.size := ⟨_, rfl⟩
  rw [← g2] at A2 st2
  have ne3 : x0 ≠ b2 := Nat.ne_of_lt (Nat.lt_of_lt_of_le A_0.lt (Nat.le_of_eq g2.symm))
  have ne4 : x1 ≠ b2 := Nat.ne_of_lt (Nat.lt_of_lt_of_le A_1.lt (Nat.le_of_eq g2.symm))
  have Z2 : n0 ≤ h2.size := Nat.le_trans Z0 E2.1
  have gz2 : n0 ≤ b2 := Nat.le_trans Z0 (Nat.le_of_eq g2.symm)
  have sz2 : h0.size ≤ b2 := Nat.le_trans (Keep.refl h0 []).1 (Nat.le_of_eq g2.symm)
  have K2 := (Keep.refl h0 []).ext E2
  have V2 : own_FA Z h2 b2 .long ((Int32.ofNat nn)).toNatClampNeg (fun i => .long ((fun _ => 0) i)) := own_FA.new A2 (own_in0 (by omega))
  rw [own_ic (i := nn) (by omega)] at V2
  refine own_pre (B := T2.setTop (mkF m 4 #[.val (.ref x0), .val (.ref x1), .unset, .unset] [(.ref b2)])) ?_ st2
  refine own_pre (B := T2.setTop (mkF m 5 #[.val (.ref x0), .val (.ref x1), .val (.ref b2), .unset] [])) ?_ fun t k => XS.astoreN X2.here hx rfl (hb hby d1_4) rfl rfl (l' := #[.val (.ref x0), .val (.ref x1), .val (.ref b2), .unset]) rfl k
  refine own_pre (B := T2.setTop (mkF m 6 #[.val (.ref x0), .val (.ref x1), .val (.ref b2), .unset] [(.int (0 : Int32))])) ?_ fun t k => XS.iconst X2.here hx rfl (hb hby d1_5) k
  refine own_pre (B := T2.setTop (mkF m 7 #[.val (.ref x0), .val (.ref x1), .val (.ref b2), .val (.int (0 : Int32))] [])) ?_ fun t k => XS.istoreN X2.here hx rfl (hb hby d1_6) rfl  (l' := #[.val (.ref x0), .val (.ref x1), .val (.ref b2), .val (.int (0 : Int32))]) rfl k
  have loop : ∀ (k i : Nat) (hk : i + k = nn) (T1 : State) (l1 : List Loc) (hc : Heap) (X1 : Stand p l e ({ frames := 0, cells := 1, slots := 2, locals := 0 } : Room) s m #[(.ref x0), (.ref x1)] below meth c T1 l1 1 2) (N1 : Fr n0 l1) (e1 : T1.heap = hc) (Z1 : n0 ≤ hc.size) (K1 : Keep h0 hc []) (A1 : own_FA Z hc b2 .long nn (fun j => .long (own_xp f g i j))), own_E p e below s (Q1 Z x0 x1 nn f g h0 n0) 1 2 (T1.setTop (mkF m 7 #[.val (.ref x0), .val (.ref x1), .val (.ref b2), .val (.int (Int32.ofNat i))] [])) := by
    intro k
    induction k with
    | zero =>
      intro i hk T1 l1 hc X1 N1 e1 Z1 K1 A1
      refine own_pre (B := T1.setTop (mkF m 8 #[.val (.ref x0), .val (.ref x1), .val (.ref b2), .val (.int (Int32.ofNat i))] [(.int (Int32.ofNat i))])) ?_ fun t k => XS.iloadN X1.here hx rfl (hb hby d1_7) rfl  k
      refine own_pre (B := T1.setTop (mkF m 9 #[.val (.ref x0), .val (.ref x1), .val (.ref b2), .val (.int (Int32.ofNat i))] [(.ref b2), (.int (Int32.ofNat i))])) ?_ fun t k => XS.aloadN X1.here hx rfl (hb hby d1_8) rfl rfl k
      obtain ⟨Ln5, cl5, Ar5, S5, Hh5⟩ := id A1
      have len5 : cl5.slots.size.toInt32 = (Int32.ofNat nn) := (congrArg Nat.toInt32 S5).trans rfl
      refine own_pre (B := T1.setTop (mkF m 10 #[.val (.ref x0), .val (.ref x1), .val (.ref b2), .val (.int (Int32.ofNat i))] [(.int (Int32.ofNat nn)), (.int (Int32.ofNat i))])) ?_ (fun t k => X1.arraylength hx (by rw [e1]; exact Ar5.1) (State.isArrayOf_alike hZ.alike Ar5.2.1) (g := (mkF m 9 #[.val (.ref x0), .val (.ref x1), .val (.ref b2), .val (.int (Int32.ofNat i))] [(.ref b2), (.int (Int32.ofNat i))])) rfl rfl (hb hby d1_9) t (by rw [len5]; exact k))
      refine own_pre (B := T1.setTop (mkF m 29 #[.val (.ref x0), .val (.ref x1), .val (.ref b2), .val (.int (Int32.ofNat i))] [])) ?_ fun t k => XS.icmpYes X1.here hx rfl (pc0 := 10) (pc' := 29) rfl (hb hby d1_10) rfl (flt (by rw [own_olt (by omega) (by omega)]; omega)).2.1 (by decide) (by decide) k
      refine own_pre (B := T1.setTop (mkF m 30 #[.val (.ref x0), .val (.ref x1), .val (.ref b2), .val (.int (Int32.ofNat i))] [(.ref b2)])) ?_ fun t k => XS.aloadN X1.here hx rfl (hb hby d1_29) rfl rfl k
      refine own_retA X1 hx hlk (t := (.array .long)) Bd.returns rfl rfl (hb hby d1_30) ?_ (by decide) (by decide)
      rw [e1]
      exact ⟨b2, rfl, N1, sz2, K1, A1.eq fun j hj => by simp only [own_xp]; rw [if_pos (by omega)]⟩
    | succ k ih =>
      intro i hk T1 l1 hc X1 N1 e1 Z1 K1 A1
      refine own_pre (B := T1.setTop (mkF m 8 #[.val (.ref x0), .val (.ref x1), .val (.ref b2), .val (.int (Int32.ofNat i))] [(.int (Int32.ofNat i))])) ?_ fun t k => XS.iloadN X1.here hx rfl (hb hby d1_7) rfl  k
      refine own_pre (B := T1.setTop (mkF m 9 #[.val (.ref x0), .val (.ref x1), .val (.ref b2), .val (.int (Int32.ofNat i))] [(.ref b2), (.int (Int32.ofNat i))])) ?_ fun t k => XS.aloadN X1.here hx rfl (hb hby d1_8) rfl rfl k
      obtain ⟨Ln6, cl6, Ar6, S6, Hh6⟩ := id A1
      have len6 : cl6.slots.size.toInt32 = (Int32.ofNat nn) := (congrArg Nat.toInt32 S6).trans rfl
      refine own_pre (B := T1.setTop (mkF m 10 #[.val (.ref x0), .val (.ref x1), .val (.ref b2), .val (.int (Int32.ofNat i))] [(.int (Int32.ofNat nn)), (.int (Int32.ofNat i))])) ?_ (fun t k => X1.arraylength hx (by rw [e1]; exact Ar6.1) (State.isArrayOf_alike hZ.alike Ar6.2.1) (g := (mkF m 9 #[.val (.ref x0), .val (.ref x1), .val (.ref b2), .val (.int (Int32.ofNat i))] [(.ref b2), (.int (Int32.ofNat i))])) rfl rfl (hb hby d1_9) t (by rw [len6]; exact k))
      refine own_pre (B := T1.setTop (mkF m 13 #[.val (.ref x0), .val (.ref x1), .val (.ref b2), .val (.int (Int32.ofNat i))] [])) ?_ fun t k => XS.icmpNo X1.here hx rfl (hb hby d1_10) rfl (tlt (by rw [own_olt (by omega) (by omega)]; omega)).2.1 k
      refine own_pre (B := T1.setTop (mkF m 14 #[.val (.ref x0), .val (.ref x1), .val (.ref b2), .val (.int (Int32.ofNat i))] [(.ref b2)])) ?_ fun t k => XS.aloadN X1.here hx rfl (hb hby d1_13) rfl rfl k
      refine own_pre (B := T1.setTop (mkF m 15 #[.val (.ref x0), .val (.ref x1), .val (.ref b2), .val (.int (Int32.ofNat i))] [(.int (Int32.ofNat i)), (.ref b2)])) ?_ fun t k => XS.iloadN X1.here hx rfl (hb hby d1_14) rfl  k
      refine own_pre (B := T1.setTop (mkF m 16 #[.val (.ref x0), .val (.ref x1), .val (.ref b2), .val (.int (Int32.ofNat i))] [(.ref x0), (.int (Int32.ofNat i)), (.ref b2)])) ?_ fun t k => XS.aloadN X1.here hx rfl (hb hby d1_15) rfl rfl k
      refine own_pre (B := T1.setTop (mkF m 17 #[.val (.ref x0), .val (.ref x1), .val (.ref b2), .val (.int (Int32.ofNat i))] [(.int (Int32.ofNat i)), (.ref x0), (.int (Int32.ofNat i)), (.ref b2)])) ?_ fun t k => XS.iloadN X1.here hx rfl (hb hby d1_16) rfl  k
      obtain ⟨Ln7, cl7, Ar7, S7, Hh7⟩ := id (A_0.keep K1 nin0)
      have hin7 := own_hin (j := (Int32.ofNat i)) (i := i) S7 (own_ic (by omega)) (own_in0 (by omega)) (by omega)
      have hat7 : cl7.slots[((Int32.ofNat i)).toNatClampNeg]? = some (.long (f i)) := own_hat (j := (Int32.ofNat i)) (i := i) Hh7 (own_ic (by omega)) (by omega)
      refine own_pre (B := T1.setTop (mkF m 18 #[.val (.ref x0), .val (.ref x1), .val (.ref b2), .val (.int (Int32.ofNat i))] [(.long (f i)), (.int (Int32.ofNat i)), (.ref b2)])) ?_ fun t k => X1.laload hx (j := (Int32.ofNat i)) (v := (.long (f i))) (by rw [e1]; exact Ar7.1) (State.isArrayOf_alike hZ.alike Ar7.2.1) Ar7.2.2 hin7 hat7 (g := (mkF m 17 #[.val (.ref x0), .val (.ref x1), .val (.ref b2), .val (.int (Int32.ofNat i))] [(.int (Int32.ofNat i)), (.ref x0), (.int (Int32.ofNat i)), (.ref b2)])) rfl rfl (hb hby d1_17) t k
      refine own_pre (B := T1.setTop (mkF m 19 #[.val (.ref x0), .val (.ref x1), .val (.ref b2), .val (.int (Int32.ofNat i))] [(.ref x1), (.long (f i)), (.int (Int32.ofNat i)), (.ref b2)])) ?_ fun t k => XS.aloadN X1.here hx rfl (hb hby d1_18) rfl rfl k
      refine own_pre (B := T1.setTop (mkF m 20 #[.val (.ref x0), .val (.ref x1), .val (.ref b2), .val (.int (Int32.ofNat i))] [(.int (Int32.ofNat i)), (.ref x1), (.long (f i)), (.int (Int32.ofNat i)), (.ref b2)])) ?_ fun t k => XS.iloadN X1.here hx rfl (hb hby d1_19) rfl  k
      obtain ⟨Ln8, cl8, Ar8, S8, Hh8⟩ := id (A_1.keep K1 nin0)
      have hin8 := own_hin (j := (Int32.ofNat i)) (i := i) S8 (own_ic (by omega)) (own_in0 (by omega)) (by omega)
      have hat8 : cl8.slots[((Int32.ofNat i)).toNatClampNeg]? = some (.long (g i)) := own_hat (j := (Int32.ofNat i)) (i := i) Hh8 (own_ic (by omega)) (by omega)
      refine own_pre (B := T1.setTop (mkF m 21 #[.val (.ref x0), .val (.ref x1), .val (.ref b2), .val (.int (Int32.ofNat i))] [(.long (g i)), (.long (f i)), (.int (Int32.ofNat i)), (.ref b2)])) ?_ fun t k => X1.laload hx (j := (Int32.ofNat i)) (v := (.long (g i))) (by rw [e1]; exact Ar8.1) (State.isArrayOf_alike hZ.alike Ar8.2.1) Ar8.2.2 hin8 hat8 (g := (mkF m 20 #[.val (.ref x0), .val (.ref x1), .val (.ref b2), .val (.int (Int32.ofNat i))] [(.int (Int32.ofNat i)), (.ref x1), (.long (f i)), (.int (Int32.ofNat i)), (.ref b2)])) rfl rfl (hb hby d1_20) t k
      refine own_pre (B := T1.setTop (mkF m 22 #[.val (.ref x0), .val (.ref x1), .val (.ref b2), .val (.int (Int32.ofNat i))] [(.long ((f i) ^^^ (g i))), (.int (Int32.ofNat i)), (.ref b2)])) ?_ fun t k => XS.lxor X1.here hx rfl (hb hby d1_21) rfl k
      obtain ⟨Ln9, cl9, Ar9, S9, Hh9⟩ := id A1
      have hin9 := own_hin (j := (Int32.ofNat i)) (i := i) S9 (own_ic (by omega)) (own_in0 (by omega)) (by omega)
      obtain ⟨T9, h9, X9, e9, W9, st9⟩ := stJ X1 hx hZ e1 Ar9 (j := (Int32.ofNat i)) hin9 (g := (mkF m 22 #[.val (.ref x0), .val (.ref x1), .val (.ref b2), .val (.int (Int32.ofNat i))] [(.long ((f i) ^^^ (g i))), (.int (Int32.ofNat i)), (.ref b2)])) rfl rfl (hb hby d1_22)
      have A9 : own_FA Z h9 b2 .long nn (fun zz => .long ((own_up (own_xp f g i) i ((f i) ^^^ (g i))) zz)) := by have q := own_FA.setJ A1 W9; rw [show ((Int32.ofNat i)).toNatClampNeg = i from (own_ic (by omega))] at q; exact q
      have N9 := Fr.snoc X9 N1 gz2
      have Z9 : n0 ≤ h9.size := Nat.le_trans Z1 (Keep.of_wr W9).1
      have K9 := K1.wr W9 (Or.inr sz2)
      refine own_pre (B := T9.setTop (mkF m 23 #[.val (.ref x0), .val (.ref x1), .val (.ref b2), .val (.int (Int32.ofNat i))] [])) ?_ st9
      refine own_pre (B := T9.setTop (mkF m 26 #[.val (.ref x0), .val (.ref x1), .val (.ref b2), .val (.int ((Int32.ofNat i) + (1 : Int32)))] [])) ?_ fun t k => XS.iinc X9.here hx rfl (hb hby d1_23) rfl (l' := #[.val (.ref x0), .val (.ref x1), .val (.ref b2), .val (.int ((Int32.ofNat i) + (1 : Int32)))]) rfl k
      refine own_pre (B := T9.setTop (mkF m 7 #[.val (.ref x0), .val (.ref x1), .val (.ref b2), .val (.int ((Int32.ofNat i) + (1 : Int32)))] [])) ?_ fun t k => XS.goto X9.here hx rfl (pc0 := 26) (pc' := 7) rfl (hb hby d1_26) (by decide) (by decide) k
      rw [← inc_ofNat]
      exact ih (i + 1) (by omega) T9 _ _ X9 N9 e9 Z9 K9 (by rw [← own_xp_succ]; exact A9)
  exact loop nn 0 (by omega) T2 _ _ X2 N0 e2 Z2 K2 (by rw [own_xp_zero]; exact V2)
theorem pd___J_J__J : parseMethodDescriptor "([J[J)[J" = some ⟨[(.array .long), (.array .long)], some (.array .long)⟩ := by decide +kernel
theorem pd__JJ_J : parseMethodDescriptor "(JJ)J" = some ⟨[.long, .long], some .long⟩ := by decide +kernel
set_option maxHeartbeats 4000000 in
theorem ef_0 (m : MethodId) (x0 : Int32) (x1 : Int64) (x2 : Int64) (x3 : Int64) (x4 : Int64) : entryFrame m #[(.int x0), (.long x1), (.long x2), (.long x3), (.long x4)] maxLocals = mkF m 0 #[.val (.int x0), .val (.long x1), .second, .val (.long x2), .second, .val (.long x3), .second, .val (.long x4), .second, .unset, .unset, .unset, .unset] [] := by first | (simp [entryFrame, mkF, argsToLocals, Value.category, maxLocals]; done) | rfl
def Q0 (Z : State) (x0 : Int32) (x1 : Int64) (x2 : Int64) (x3 : Int64) (x4 : Int64) (h0 : Heap) (n0 : Nat) (v : Option Value) (h : Heap) (L : List Loc) : Prop := v = some (.int 1) ∧ Fr n0 L
set_option maxRecDepth 65536 in
set_option maxHeartbeats 40000000 in
theorem rm0 (l : Launch) (Z : State) (a0 : Array Value) (hw : ∀ d ∈ tables_1, d.before a0 Z = true) (ws : List Jvm.Cond) (x0 : Int32) (x1 : Int64) (x2 : Int64) (x3 : Int64) (x4 : Int64) (h0 : Heap) (n0 : Nat) (Z0 : n0 ≤ h0.size) :
    MetFree l x (head1 (Jvm.Cond.code x code maxLocals ret :: ws) room_1) (fun a U => a = #[(.int x0), (.long x1), (.long x2), (.long x3), (.long x4)] ∧ Z.Warmed39 U.vm ∧ U.heap = h0) (fun _ _ _ _ _ => True) (fun _ U o U' => ∃ v L, o = .returned v ∧ Q0 Z x0 x1 x2 x3 x4 h0 n0 v U'.heap L ∧ FrameEnd U o U' L 16 128) := by
  refine MetFree.of_bodySF (plainFor_of_name pn_com_example_nimfield_nimfield_NimWordsXorPinLaw) hisR ?_
  intro p e s m args below meth c s₁ Bd hml0 hP hK
  obtain ⟨rfl, hZ, hh⟩ := hP
  have hx := Bd.exec
  have hby := Bd.bytes
  have hml : c.maxLocals = 13 := hml0
  have hown : s.vm.findClass "com/example/nimfield/nimfield/NimWordsXorPinLaw" = some m.cls := findClass_of_methodNamed Bd.named
  have hnm := (name_of_methodNamed Bd.named Bd.method).1
  have hlk : meth.locks = false := BodyLoose.notSynchronized Bd
  have X0 : Stand p l e room_1 s m #[(.int x0), (.long x1), (.long x2), (.long x3), (.long x4)] below meth c s₁ [] 0 0 := Stand.of_body Bd
  have e0 : s₁.heap = h0 := by rw [← hh, Bd.state]; rfl
  have N0 := Fr.nil n0
  show own_E p e below s (Q0 Z x0 x1 x2 x3 x4 h0 n0) 16 128 (s₁.setTop (entryFrame m #[(.int x0), (.long x1), (.long x2), (.long x3), (.long x4)] maxLocals))
  refine own_pre (B := s₁.setTop (mkF m 0 #[.val (.int x0), .val (.long x1), .second, .val (.long x2), .second, .val (.long x3), .second, .val (.long x4), .second, .unset, .unset, .unset, .unset] [])) ?_ (fun t k => castTop (ef_0 m x0 x1 x2 x3 x4) k)
  refine own_pre (B := s₁.setTop (mkF m 1 #[.val (.int x0), .val (.long x1), .second, .val (.long x2), .second, .val (.long x3), .second, .val (.long x4), .second, .unset, .unset, .unset, .unset] [(.int x0)])) ?_ fun t k => XS.iloadN X0.here hx rfl (hb hby at_0) rfl  k
  refine own_pre (B := s₁.setTop (mkF m 3 #[.val (.int x0), .val (.long x1), .second, .val (.long x2), .second, .val (.long x3), .second, .val (.long x4), .second, .unset, .unset, .unset, .unset] [(.int (2147483647 : Int32)), (.int x0)])) ?_ (X0.ldcInt hx hown (mvT hZ (hw _ (List.mem_of_getElem? (i := 0) rfl))) (g := (mkF m 1 #[.val (.int x0), .val (.long x1), .second, .val (.long x2), .second, .val (.long x3), .second, .val (.long x4), .second, .unset, .unset, .unset, .unset] [(.int x0)])) rfl (hb hby at_1))
  refine own_pre (B := s₁.setTop (mkF m 4 #[.val (.int x0), .val (.long x1), .second, .val (.long x2), .second, .val (.long x3), .second, .val (.long x4), .second, .unset, .unset, .unset, .unset] [(.int (x0 &&& (2147483647 : Int32)))])) ?_ fun t k => XS.iand X0.here hx rfl (hb hby at_3) rfl k
  refine own_pre (B := s₁.setTop (mkF m 5 #[.val (.int x0), .val (.long x1), .second, .val (.long x2), .second, .val (.long x3), .second, .val (.long x4), .second, .unset, .unset, .unset, .unset] [(.int (3 : Int32)), (.int (x0 &&& (2147483647 : Int32)))])) ?_ fun t k => XS.iconst X0.here hx rfl (hb hby at_4) k
  refine own_pre (B := s₁.setTop (mkF m 6 #[.val (.int x0), .val (.long x1), .second, .val (.long x2), .second, .val (.long x3), .second, .val (.long x4), .second, .unset, .unset, .unset, .unset] [(.int ((x0 &&& (2147483647 : Int32)) % (3 : Int32)))])) ?_ fun t k => iremM X0 hx rfl (hb hby at_5) rfl (by decide) k
  refine own_pre (B := s₁.setTop (mkF m 8 #[.val (.int x0), .val (.long x1), .second, .val (.long x2), .second, .val (.long x3), .second, .val (.long x4), .second, .val (.int ((x0 &&& (2147483647 : Int32)) % (3 : Int32))), .unset, .unset, .unset] [])) ?_ fun t k => XS.istore X0.here hx rfl (hb hby at_6) rfl  (l' := #[.val (.int x0), .val (.long x1), .second, .val (.long x2), .second, .val (.long x3), .second, .val (.long x4), .second, .val (.int ((x0 &&& (2147483647 : Int32)) % (3 : Int32))), .unset, .unset, .unset]) rfl k
  generalize hmln : ((x0 &&& (2147483647 : Int32)) % (3 : Int32)) = ln
  rcases own_l3 hmln with rfl | rfl | rfl
  · skip
    refine own_pre (B := s₁.setTop (mkF m 10 #[.val (.int x0), .val (.long x1), .second, .val (.long x2), .second, .val (.long x3), .second, .val (.long x4), .second, .val (.int (0 : Int32)), .unset, .unset, .unset] [(.int (0 : Int32))])) ?_ fun t k => XS.iload X0.here hx rfl (hb hby at_8) rfl  k
    obtain ⟨T1, h1, k1, X1, e1, E1, A1, st1⟩ := newP X0 hx hZ (hw _ (List.mem_of_getElem? (i := 1) rfl)) e0 (g := (mkF m 10 #[.val (.int x0), .val (.long x1), .second, .val (.long x2), .second, .val (.long x3), .second, .val (.long x4), .second, .val (.int (0 : Int32)), .unset, .unset, .unset] [(.int (0 : Int32))])) rfl (hb hby at_10) rfl (by decide) (cap := 0) (by decide) (by decide) (by decide) (by decide)
    obtain ⟨b1, g1⟩ : ∃ z, z = h0.size := ⟨_, rfl⟩
    rw [← g1] at A1 st1
    have Z1 : n0 ≤ h1.size := Nat.le_trans Z0 E1.1
    have gz1 : n0 ≤ b1 := Nat.le_trans Z0 (Nat.le_of_eq g1.symm)
    have V1 : Arv Z h1 b1 k1 .long (0 : Int32) [] (.long (0 : Int64)) := (Arv.new A1 (by decide)).pad (pad_rep [] (.long (0 : Int64)) 0)
    refine own_pre (B := T1.setTop (mkF m 12 #[.val (.int x0), .val (.long x1), .second, .val (.long x2), .second, .val (.long x3), .second, .val (.long x4), .second, .val (.int (0 : Int32)), .unset, .unset, .unset] [(.ref b1)])) ?_ st1
    refine own_pre (B := T1.setTop (mkF m 14 #[.val (.int x0), .val (.long x1), .second, .val (.long x2), .second, .val (.long x3), .second, .val (.long x4), .second, .val (.int (0 : Int32)), .val (.ref b1), .unset, .unset] [])) ?_ fun t k => XS.astore X1.here hx rfl (hb hby at_12) rfl rfl (l' := #[.val (.int x0), .val (.long x1), .second, .val (.long x2), .second, .val (.long x3), .second, .val (.long x4), .second, .val (.int (0 : Int32)), .val (.ref b1), .unset, .unset]) rfl k
    refine own_pre (B := T1.setTop (mkF m 16 #[.val (.int x0), .val (.long x1), .second, .val (.long x2), .second, .val (.long x3), .second, .val (.long x4), .second, .val (.int (0 : Int32)), .val (.ref b1), .unset, .unset] [(.int (0 : Int32))])) ?_ fun t k => XS.iload X1.here hx rfl (hb hby at_14) rfl  k
    obtain ⟨T2, h2, k2, X2, e2, E2, A2, st2⟩ := newP X1 hx hZ (hw _ (List.mem_of_getElem? (i := 1) rfl)) e1 (g := (mkF m 16 #[.val (.int x0), .val (.long x1), .second, .val (.long x2), .second, .val (.long x3), .second, .val (.long x4), .second, .val (.int (0 : Int32)), .val (.ref b1), .unset, .unset] [(.int (0 : Int32))])) rfl (hb hby at_16) rfl (by decide) (cap := 0) (by decide) (by decide) (by decide) (by decide)
    obtain ⟨b2, g2⟩ : ∃ z, z = h1.size := ⟨_, rfl⟩
    rw [← g2] at A2 st2
    have ne3 : b1 ≠ b2 := Nat.ne_of_lt (Nat.lt_of_lt_of_le V1.lt (Nat.le_of_eq g2.symm))
    have Z2 : n0 ≤ h2.size := Nat.le_trans Z1 E2.1
    have gz2 : n0 ≤ b2 := Nat.le_trans Z1 (Nat.le_of_eq g2.symm)
    have V2 : Arv Z h2 b2 k2 .long (0 : Int32) [] (.long (0 : Int64)) := (Arv.new A2 (by decide)).pad (pad_rep [] (.long (0 : Int64)) 0)
    refine own_pre (B := T2.setTop (mkF m 18 #[.val (.int x0), .val (.long x1), .second, .val (.long x2), .second, .val (.long x3), .second, .val (.long x4), .second, .val (.int (0 : Int32)), .val (.ref b1), .unset, .unset] [(.ref b2)])) ?_ st2
    refine own_pre (B := T2.setTop (mkF m 20 #[.val (.int x0), .val (.long x1), .second, .val (.long x2), .second, .val (.long x3), .second, .val (.long x4), .second, .val (.int (0 : Int32)), .val (.ref b1), .val (.ref b2), .unset] [])) ?_ fun t k => XS.astore X2.here hx rfl (hb hby at_18) rfl rfl (l' := #[.val (.int x0), .val (.long x1), .second, .val (.long x2), .second, .val (.long x3), .second, .val (.long x4), .second, .val (.int (0 : Int32)), .val (.ref b1), .val (.ref b2), .unset]) rfl k
    refine own_pre (B := T2.setTop (mkF m 22 #[.val (.int x0), .val (.long x1), .second, .val (.long x2), .second, .val (.long x3), .second, .val (.long x4), .second, .val (.int (0 : Int32)), .val (.ref b1), .val (.ref b2), .unset] [(.int (0 : Int32))])) ?_ fun t k => XS.iload X2.here hx rfl (hb hby at_20) rfl  k
    refine own_pre (B := T2.setTop (mkF m 36 #[.val (.int x0), .val (.long x1), .second, .val (.long x2), .second, .val (.long x3), .second, .val (.long x4), .second, .val (.int (0 : Int32)), .val (.ref b1), .val (.ref b2), .unset] [])) ?_ fun t k => XS.ifYes X2.here hx rfl (pc0 := 22) (pc' := 36) rfl (hb hby at_22) rfl ((if0 _ _).trans (flt (by decide : ¬ ((0 : Int32) < (0 : Int32)))).2.2.2) (by decide) (by decide) k
    refine own_pre (B := T2.setTop (mkF m 38 #[.val (.int x0), .val (.long x1), .second, .val (.long x2), .second, .val (.long x3), .second, .val (.long x4), .second, .val (.int (0 : Int32)), .val (.ref b1), .val (.ref b2), .unset] [(.int (0 : Int32))])) ?_ fun t k => XS.iload X2.here hx rfl (hb hby at_36) rfl  k
    refine own_pre (B := T2.setTop (mkF m 39 #[.val (.int x0), .val (.long x1), .second, .val (.long x2), .second, .val (.long x3), .second, .val (.long x4), .second, .val (.int (0 : Int32)), .val (.ref b1), .val (.ref b2), .unset] [(.int (1 : Int32)), (.int (0 : Int32))])) ?_ fun t k => XS.iconst X2.here hx rfl (hb hby at_38) k
    refine own_pre (B := T2.setTop (mkF m 53 #[.val (.int x0), .val (.long x1), .second, .val (.long x2), .second, .val (.long x3), .second, .val (.long x4), .second, .val (.int (0 : Int32)), .val (.ref b1), .val (.ref b2), .unset] [])) ?_ fun t k => XS.icmpYes X2.here hx rfl (pc0 := 39) (pc' := 53) rfl (hb hby at_39) rfl (flt (by decide : ¬ ((1 : Int32) < (0 : Int32)))).2.2.2 (by decide) (by decide) k
    refine own_pre (B := T2.setTop (mkF m 55 #[.val (.int x0), .val (.long x1), .second, .val (.long x2), .second, .val (.long x3), .second, .val (.long x4), .second, .val (.int (0 : Int32)), .val (.ref b1), .val (.ref b2), .unset] [(.ref b1)])) ?_ fun t k => XS.aload X2.here hx rfl (hb hby at_53) rfl rfl k
    refine own_pre (B := T2.setTop (mkF m 57 #[.val (.int x0), .val (.long x1), .second, .val (.long x2), .second, .val (.long x3), .second, .val (.long x4), .second, .val (.int (0 : Int32)), .val (.ref b1), .val (.ref b2), .unset] [(.ref b2), (.ref b1)])) ?_ fun t k => XS.aload X2.here hx rfl (hb hby at_55) rfl rfl k
    have f5 := (V1.ext E2)
    have FA4_0 : own_FA Z h2 b1 .long 0 (fun i => .long (([] : List Int64).getD i 0)) := own_FA.ofArv (vs := []) f5
    have FA4_1 : own_FA Z h2 b2 .long 0 (fun i => .long (([] : List Int64).getD i 0)) := own_FA.ofArv (vs := []) V2
    obtain ⟨_, _, ⟨T4, L4, k4, n4⟩, -, X4, ⟨Lc4, hQ4, l4, y4, z4⟩, st4⟩ := Jvm.LawKit.callS X2 hx (y := (⟨"com/example/nimfield/nimfield/NimWords", "xor", "([J[J)[J"⟩ : MethodName)) hown (mvT hZ (hw _ (List.mem_of_getElem? (i := 2) rfl))) (mvT hZ (hw _ (List.mem_of_getElem? (i := 3) rfl))) (mvT hZ (hw _ (List.mem_of_getElem? (i := 4) rfl))) (mvT hZ (hw _ (List.mem_of_getElem? (i := 5) rfl))) (by decide) (backOf (W := 0) (rm1 l Z a0 hw [] b1 b2 0 (fun i => ([] : List Int64).getD i 0) (fun i => ([] : List Int64).getD i 0) h2 n0 Z2 FA4_0 FA4_1 (by decide)) hZ (hw _ (List.mem_of_getElem? (i := 5) rfl)) (hw _ (List.mem_of_getElem? (i := 4) rfl)) (by decide) (by decide)) (g := (mkF m 57 #[.val (.int x0), .val (.long x1), .second, .val (.long x2), .second, .val (.long x3), .second, .val (.long x4), .second, .val (.int (0 : Int32)), .val (.ref b1), .val (.ref b2), .unset] [(.ref b2), (.ref b1)])) rfl (by rw [hml]; rfl) (argsL := [(.ref b1), (.ref b2)]) (rest := []) (lenOf pd___J_J__J rfl) rfl (by show 2 * 0 + _ ≤ _; exact Nat.le_of_eq rfl) (hb hby at_57) (fun _ _ => ⟨rfl, e2, (by decide : 2 + 1 ≤ _), (by decide : 0 + 2 ≤ _)⟩)
    dsimp only [Pt.U, Pt.locs, Pt.cells, Pt.slots] at X4 l4 y4 z4 st4 hQ4
    subst l4 y4 z4
    obtain ⟨rr, rfl, Nq4, gr4, K4, Ar4⟩ := hQ4
    have N4 := Fr.app N0 Nq4
    have Z4 := Nat.le_trans Z2 K4.1
    have ner_b1 : b1 ≠ rr := Nat.ne_of_lt (Nat.lt_of_lt_of_le f5.lt gr4)
    have ner_b2 : b2 ≠ rr := Nat.ne_of_lt (Nat.lt_of_lt_of_le V2.lt gr4)
    refine own_pre (B := T4.setTop (mkF m 60 #[.val (.int x0), .val (.long x1), .second, .val (.long x2), .second, .val (.long x3), .second, .val (.long x4), .second, .val (.int (0 : Int32)), .val (.ref b1), .val (.ref b2), .unset] [(.ref rr)])) ?_ st4
    refine own_pre (B := T4.setTop (mkF m 62 #[.val (.int x0), .val (.long x1), .second, .val (.long x2), .second, .val (.long x3), .second, .val (.long x4), .second, .val (.int (0 : Int32)), .val (.ref b1), .val (.ref b2), .val (.ref rr)] [])) ?_ fun t k => XS.astore X4.here hx rfl (hb hby at_60) rfl rfl (l' := #[.val (.int x0), .val (.long x1), .second, .val (.long x2), .second, .val (.long x3), .second, .val (.long x4), .second, .val (.int (0 : Int32)), .val (.ref b1), .val (.ref b2), .val (.ref rr)]) rfl k
    refine own_pre (B := T4.setTop (mkF m 64 #[.val (.int x0), .val (.long x1), .second, .val (.long x2), .second, .val (.long x3), .second, .val (.long x4), .second, .val (.int (0 : Int32)), .val (.ref b1), .val (.ref b2), .val (.ref rr)] [(.ref rr)])) ?_ fun t k => XS.aload X4.here hx rfl (hb hby at_62) rfl rfl k
    refine own_pre (B := T4.setTop (mkF m 67 #[.val (.int x0), .val (.long x1), .second, .val (.long x2), .second, .val (.long x3), .second, .val (.long x4), .second, .val (.int (0 : Int32)), .val (.ref b1), .val (.ref b2), .val (.ref rr)] [])) ?_ fun t k => XS.ifnullNo X4.here hx rfl (hb hby at_64) rfl k
    refine own_pre (B := T4.setTop (mkF m 69 #[.val (.int x0), .val (.long x1), .second, .val (.long x2), .second, .val (.long x3), .second, .val (.long x4), .second, .val (.int (0 : Int32)), .val (.ref b1), .val (.ref b2), .val (.ref rr)] [(.ref rr)])) ?_ fun t k => XS.aload X4.here hx rfl (hb hby at_67) rfl rfl k
    obtain ⟨Ln6, cl6, Ar6, S6, Hh6⟩ := id Ar4
    have len6 : cl6.slots.size.toInt32 = (Int32.ofNat 0) := (congrArg Nat.toInt32 S6).trans rfl
    refine own_pre (B := T4.setTop (mkF m 70 #[.val (.int x0), .val (.long x1), .second, .val (.long x2), .second, .val (.long x3), .second, .val (.long x4), .second, .val (.int (0 : Int32)), .val (.ref b1), .val (.ref b2), .val (.ref rr)] [(.int (Int32.ofNat 0))])) ?_ (fun t k => X4.arraylength hx Ar6.1 (State.isArrayOf_alike hZ.alike Ar6.2.1) (g := (mkF m 69 #[.val (.int x0), .val (.long x1), .second, .val (.long x2), .second, .val (.long x3), .second, .val (.long x4), .second, .val (.int (0 : Int32)), .val (.ref b1), .val (.ref b2), .val (.ref rr)] [(.ref rr)])) rfl rfl (hb hby at_69) t (by rw [len6]; exact k))
    refine own_pre (B := T4.setTop (mkF m 72 #[.val (.int x0), .val (.long x1), .second, .val (.long x2), .second, .val (.long x3), .second, .val (.long x4), .second, .val (.int (0 : Int32)), .val (.ref b1), .val (.ref b2), .val (.ref rr)] [(.int (0 : Int32)), (.int (Int32.ofNat 0))])) ?_ fun t k => XS.iload X4.here hx rfl (hb hby at_70) rfl  k
    refine own_pre (B := T4.setTop (mkF m 75 #[.val (.int x0), .val (.long x1), .second, .val (.long x2), .second, .val (.long x3), .second, .val (.long x4), .second, .val (.int (0 : Int32)), .val (.ref b1), .val (.ref b2), .val (.ref rr)] [])) ?_ fun t k => XS.icmpNo X4.here hx rfl (hb hby at_72) rfl (teq (by decide : (Int32.ofNat 0) = (0 : Int32))).2 k
    refine own_pre (B := T4.setTop (mkF m 77 #[.val (.int x0), .val (.long x1), .second, .val (.long x2), .second, .val (.long x3), .second, .val (.long x4), .second, .val (.int (0 : Int32)), .val (.ref b1), .val (.ref b2), .val (.ref rr)] [(.ref rr)])) ?_ fun t k => XS.aload X4.here hx rfl (hb hby at_75) rfl rfl k
    refine own_pre (B := T4.setTop (mkF m 79 #[.val (.int x0), .val (.long x1), .second, .val (.long x2), .second, .val (.long x3), .second, .val (.long x4), .second, .val (.int (0 : Int32)), .val (.ref b1), .val (.ref b2), .val (.ref rr)] [(.ref b1), (.ref rr)])) ?_ fun t k => XS.aload X4.here hx rfl (hb hby at_77) rfl rfl k
    refine own_pre (B := T4.setTop (mkF m 82 #[.val (.int x0), .val (.long x1), .second, .val (.long x2), .second, .val (.long x3), .second, .val (.long x4), .second, .val (.int (0 : Int32)), .val (.ref b1), .val (.ref b2), .val (.ref rr)] [])) ?_ fun t k => Jvm.RoadKit.acmp (g := (mkF m 79 #[.val (.int x0), .val (.long x1), .second, .val (.long x2), .second, .val (.long x3), .second, .val (.long x4), .second, .val (.int (0 : Int32)), .val (.ref b1), .val (.ref b2), .val (.ref rr)] [(.ref b1), (.ref rr)])) X4 hx rfl rfl rfl (pc0 := 79) (pc' := 82) (same := false) rfl (hb hby at_79) rfl (decide_eq_false fun q => (Ne.symm ner_b1) (Value.ref.inj q)) (by decide) (by decide) k
    refine own_pre (B := T4.setTop (mkF m 84 #[.val (.int x0), .val (.long x1), .second, .val (.long x2), .second, .val (.long x3), .second, .val (.long x4), .second, .val (.int (0 : Int32)), .val (.ref b1), .val (.ref b2), .val (.ref rr)] [(.ref rr)])) ?_ fun t k => XS.aload X4.here hx rfl (hb hby at_82) rfl rfl k
    refine own_pre (B := T4.setTop (mkF m 86 #[.val (.int x0), .val (.long x1), .second, .val (.long x2), .second, .val (.long x3), .second, .val (.long x4), .second, .val (.int (0 : Int32)), .val (.ref b1), .val (.ref b2), .val (.ref rr)] [(.ref b2), (.ref rr)])) ?_ fun t k => XS.aload X4.here hx rfl (hb hby at_84) rfl rfl k
    refine own_pre (B := T4.setTop (mkF m 91 #[.val (.int x0), .val (.long x1), .second, .val (.long x2), .second, .val (.long x3), .second, .val (.long x4), .second, .val (.int (0 : Int32)), .val (.ref b1), .val (.ref b2), .val (.ref rr)] [])) ?_ fun t k => Jvm.RoadKit.acmp (g := (mkF m 86 #[.val (.int x0), .val (.long x1), .second, .val (.long x2), .second, .val (.long x3), .second, .val (.long x4), .second, .val (.int (0 : Int32)), .val (.ref b1), .val (.ref b2), .val (.ref rr)] [(.ref b2), (.ref rr)])) X4 hx rfl rfl rfl (pc0 := 86) (pc' := 91) (same := false) rfl (hb hby at_86) rfl (decide_eq_false fun q => (Ne.symm ner_b2) (Value.ref.inj q)) (by decide) (by decide) k
    refine own_pre (B := T4.setTop (mkF m 93 #[.val (.int x0), .val (.long x1), .second, .val (.long x2), .second, .val (.long x3), .second, .val (.long x4), .second, .val (.int (0 : Int32)), .val (.ref b1), .val (.ref b2), .val (.ref rr)] [(.int (0 : Int32))])) ?_ fun t k => XS.iload X4.here hx rfl (hb hby at_91) rfl  k
    refine own_pre (B := T4.setTop (mkF m 131 #[.val (.int x0), .val (.long x1), .second, .val (.long x2), .second, .val (.long x3), .second, .val (.long x4), .second, .val (.int (0 : Int32)), .val (.ref b1), .val (.ref b2), .val (.ref rr)] [])) ?_ fun t k => XS.ifYes X4.here hx rfl (pc0 := 93) (pc' := 131) rfl (hb hby at_93) rfl ((if0 _ _).trans (flt (by decide : ¬ ((0 : Int32) < (0 : Int32)))).2.2.2) (by decide) (by decide) k
    refine own_pre (B := T4.setTop (mkF m 133 #[.val (.int x0), .val (.long x1), .second, .val (.long x2), .second, .val (.long x3), .second, .val (.long x4), .second, .val (.int (0 : Int32)), .val (.ref b1), .val (.ref b2), .val (.ref rr)] [(.int (0 : Int32))])) ?_ fun t k => XS.iload X4.here hx rfl (hb hby at_131) rfl  k
    refine own_pre (B := T4.setTop (mkF m 134 #[.val (.int x0), .val (.long x1), .second, .val (.long x2), .second, .val (.long x3), .second, .val (.long x4), .second, .val (.int (0 : Int32)), .val (.ref b1), .val (.ref b2), .val (.ref rr)] [(.int (1 : Int32)), (.int (0 : Int32))])) ?_ fun t k => XS.iconst X4.here hx rfl (hb hby at_133) k
    refine own_pre (B := T4.setTop (mkF m 172 #[.val (.int x0), .val (.long x1), .second, .val (.long x2), .second, .val (.long x3), .second, .val (.long x4), .second, .val (.int (0 : Int32)), .val (.ref b1), .val (.ref b2), .val (.ref rr)] [])) ?_ fun t k => XS.icmpYes X4.here hx rfl (pc0 := 134) (pc' := 172) rfl (hb hby at_134) rfl (flt (by decide : ¬ ((1 : Int32) < (0 : Int32)))).2.2.2 (by decide) (by decide) k
    refine own_pre (B := T4.setTop (mkF m 173 #[.val (.int x0), .val (.long x1), .second, .val (.long x2), .second, .val (.long x3), .second, .val (.long x4), .second, .val (.int (0 : Int32)), .val (.ref b1), .val (.ref b2), .val (.ref rr)] [(.int (1 : Int32))])) ?_ fun t k => XS.iconst X4.here hx rfl (hb hby at_172) k
    refine own_retN X4 hx hlk (t := .boolean) (z' := (1 : Int32)) Bd.returns (by simp) (hb hby at_173) (by decide) ?_ (by decide) (by decide)
    exact ⟨rfl, N4⟩
  · skip
    refine own_pre (B := s₁.setTop (mkF m 10 #[.val (.int x0), .val (.long x1), .second, .val (.long x2), .second, .val (.long x3), .second, .val (.long x4), .second, .val (.int (1 : Int32)), .unset, .unset, .unset] [(.int (1 : Int32))])) ?_ fun t k => XS.iload X0.here hx rfl (hb hby at_8) rfl  k
    obtain ⟨T7, h7, k7, X7, e7, E7, A7, st7⟩ := newP X0 hx hZ (hw _ (List.mem_of_getElem? (i := 1) rfl)) e0 (g := (mkF m 10 #[.val (.int x0), .val (.long x1), .second, .val (.long x2), .second, .val (.long x3), .second, .val (.long x4), .second, .val (.int (1 : Int32)), .unset, .unset, .unset] [(.int (1 : Int32))])) rfl (hb hby at_10) rfl (by decide) (cap := 1) (by decide) (by decide) (by decide) (by decide)
    obtain ⟨b7, g7⟩ : ∃ z, z = h0.size := ⟨_, rfl⟩
    rw [← g7] at A7 st7
    have Z7 : n0 ≤ h7.size := Nat.le_trans Z0 E7.1
    have gz7 : n0 ≤ b7 := Nat.le_trans Z0 (Nat.le_of_eq g7.symm)
    have V7 : Arv Z h7 b7 k7 .long (1 : Int32) [(.long (0 : Int64))] (.long (0 : Int64)) := (Arv.new A7 (by decide)).pad (pad_rep [] (.long (0 : Int64)) 1)
    refine own_pre (B := T7.setTop (mkF m 12 #[.val (.int x0), .val (.long x1), .second, .val (.long x2), .second, .val (.long x3), .second, .val (.long x4), .second, .val (.int (1 : Int32)), .unset, .unset, .unset] [(.ref b7)])) ?_ st7
    refine own_pre (B := T7.setTop (mkF m 14 #[.val (.int x0), .val (.long x1), .second, .val (.long x2), .second, .val (.long x3), .second, .val (.long x4), .second, .val (.int (1 : Int32)), .val (.ref b7), .unset, .unset] [])) ?_ fun t k => XS.astore X7.here hx rfl (hb hby at_12) rfl rfl (l' := #[.val (.int x0), .val (.long x1), .second, .val (.long x2), .second, .val (.long x3), .second, .val (.long x4), .second, .val (.int (1 : Int32)), .val (.ref b7), .unset, .unset]) rfl k
    refine own_pre (B := T7.setTop (mkF m 16 #[.val (.int x0), .val (.long x1), .second, .val (.long x2), .second, .val (.long x3), .second, .val (.long x4), .second, .val (.int (1 : Int32)), .val (.ref b7), .unset, .unset] [(.int (1 : Int32))])) ?_ fun t k => XS.iload X7.here hx rfl (hb hby at_14) rfl  k
    obtain ⟨T8, h8, k8, X8, e8, E8, A8, st8⟩ := newP X7 hx hZ (hw _ (List.mem_of_getElem? (i := 1) rfl)) e7 (g := (mkF m 16 #[.val (.int x0), .val (.long x1), .second, .val (.long x2), .second, .val (.long x3), .second, .val (.long x4), .second, .val (.int (1 : Int32)), .val (.ref b7), .unset, .unset] [(.int (1 : Int32))])) rfl (hb hby at_16) rfl (by decide) (cap := 1) (by decide) (by decide) (by decide) (by decide)
    obtain ⟨b8, g8⟩ : ∃ z, z = h7.size := ⟨_, rfl⟩
    rw [← g8] at A8 st8
    have ne9 : b7 ≠ b8 := Nat.ne_of_lt (Nat.lt_of_lt_of_le V7.lt (Nat.le_of_eq g8.symm))
    have Z8 : n0 ≤ h8.size := Nat.le_trans Z7 E8.1
    have gz8 : n0 ≤ b8 := Nat.le_trans Z7 (Nat.le_of_eq g8.symm)
    have V8 : Arv Z h8 b8 k8 .long (1 : Int32) [(.long (0 : Int64))] (.long (0 : Int64)) := (Arv.new A8 (by decide)).pad (pad_rep [] (.long (0 : Int64)) 1)
    refine own_pre (B := T8.setTop (mkF m 18 #[.val (.int x0), .val (.long x1), .second, .val (.long x2), .second, .val (.long x3), .second, .val (.long x4), .second, .val (.int (1 : Int32)), .val (.ref b7), .unset, .unset] [(.ref b8)])) ?_ st8
    refine own_pre (B := T8.setTop (mkF m 20 #[.val (.int x0), .val (.long x1), .second, .val (.long x2), .second, .val (.long x3), .second, .val (.long x4), .second, .val (.int (1 : Int32)), .val (.ref b7), .val (.ref b8), .unset] [])) ?_ fun t k => XS.astore X8.here hx rfl (hb hby at_18) rfl rfl (l' := #[.val (.int x0), .val (.long x1), .second, .val (.long x2), .second, .val (.long x3), .second, .val (.long x4), .second, .val (.int (1 : Int32)), .val (.ref b7), .val (.ref b8), .unset]) rfl k
    refine own_pre (B := T8.setTop (mkF m 22 #[.val (.int x0), .val (.long x1), .second, .val (.long x2), .second, .val (.long x3), .second, .val (.long x4), .second, .val (.int (1 : Int32)), .val (.ref b7), .val (.ref b8), .unset] [(.int (1 : Int32))])) ?_ fun t k => XS.iload X8.here hx rfl (hb hby at_20) rfl  k
    refine own_pre (B := T8.setTop (mkF m 25 #[.val (.int x0), .val (.long x1), .second, .val (.long x2), .second, .val (.long x3), .second, .val (.long x4), .second, .val (.int (1 : Int32)), .val (.ref b7), .val (.ref b8), .unset] [])) ?_ fun t k => XS.ifNo X8.here hx rfl (hb hby at_22) rfl ((if0 _ _).trans (tlt (by decide : ((0 : Int32) < (1 : Int32)))).2.2.2) k
    refine own_pre (B := T8.setTop (mkF m 27 #[.val (.int x0), .val (.long x1), .second, .val (.long x2), .second, .val (.long x3), .second, .val (.long x4), .second, .val (.int (1 : Int32)), .val (.ref b7), .val (.ref b8), .unset] [(.ref b7)])) ?_ fun t k => XS.aload X8.here hx rfl (hb hby at_25) rfl rfl k
    refine own_pre (B := T8.setTop (mkF m 28 #[.val (.int x0), .val (.long x1), .second, .val (.long x2), .second, .val (.long x3), .second, .val (.long x4), .second, .val (.int (1 : Int32)), .val (.ref b7), .val (.ref b8), .unset] [(.int (0 : Int32)), (.ref b7)])) ?_ fun t k => XS.iconst X8.here hx rfl (hb hby at_27) k
    refine own_pre (B := T8.setTop (mkF m 29 #[.val (.int x0), .val (.long x1), .second, .val (.long x2), .second, .val (.long x3), .second, .val (.long x4), .second, .val (.int (1 : Int32)), .val (.ref b7), .val (.ref b8), .unset] [(.long x1), (.int (0 : Int32)), (.ref b7)])) ?_ fun t k => XS.lloadN X8.here hx rfl (hb hby at_28) rfl  k
    have f11 := (V7.ext E8)
    obtain ⟨cl10, Ar10, q10, S10, Nn10, Hh10, Gg10⟩ := id f11
    have hin10 : ¬ ((0 : Int32) < 0 ∨ cl10.slots.size ≤ ((0 : Int32)).toNatClampNeg) := inb_of S10 ⟨by decide, by decide⟩
    obtain ⟨T10, h10, X10, e10, W10, st10⟩ := stJ X8 hx hZ e8 Ar10 (j := (0 : Int32)) hin10 (g := (mkF m 29 #[.val (.int x0), .val (.long x1), .second, .val (.long x2), .second, .val (.long x3), .second, .val (.long x4), .second, .val (.int (1 : Int32)), .val (.ref b7), .val (.ref b8), .unset] [(.long x1), (.int (0 : Int32)), (.ref b7)])) rfl rfl (hb hby at_29)
    have V10 : Arv Z h10 b7 k7 .long (1 : Int32) [(.long x1)] (.long (0 : Int64)) := Arv.set Ar10 q10 S10 Nn10 Hh10 Gg10 (v := (.long x1)) rfl W10 0 rfl (Nat.le_of_ble_eq_true rfl)
    have N10 := Fr.snoc X10 N0 gz7
    have Z10 : n0 ≤ h10.size := Nat.le_trans Z8 (Keep.of_wr W10).1
    refine own_pre (B := T10.setTop (mkF m 30 #[.val (.int x0), .val (.long x1), .second, .val (.long x2), .second, .val (.long x3), .second, .val (.long x4), .second, .val (.int (1 : Int32)), .val (.ref b7), .val (.ref b8), .unset] [])) ?_ st10
    refine own_pre (B := T10.setTop (mkF m 32 #[.val (.int x0), .val (.long x1), .second, .val (.long x2), .second, .val (.long x3), .second, .val (.long x4), .second, .val (.int (1 : Int32)), .val (.ref b7), .val (.ref b8), .unset] [(.ref b8)])) ?_ fun t k => XS.aload X10.here hx rfl (hb hby at_30) rfl rfl k
    refine own_pre (B := T10.setTop (mkF m 33 #[.val (.int x0), .val (.long x1), .second, .val (.long x2), .second, .val (.long x3), .second, .val (.long x4), .second, .val (.int (1 : Int32)), .val (.ref b7), .val (.ref b8), .unset] [(.int (0 : Int32)), (.ref b8)])) ?_ fun t k => XS.iconst X10.here hx rfl (hb hby at_32) k
    refine own_pre (B := T10.setTop (mkF m 35 #[.val (.int x0), .val (.long x1), .second, .val (.long x2), .second, .val (.long x3), .second, .val (.long x4), .second, .val (.int (1 : Int32)), .val (.ref b7), .val (.ref b8), .unset] [(.long x3), (.int (0 : Int32)), (.ref b8)])) ?_ fun t k => XS.lload X10.here hx rfl (hb hby at_33) rfl  k
    have f13 := (V8.other W10 (Ne.symm ne9))
    obtain ⟨cl12, Ar12, q12, S12, Nn12, Hh12, Gg12⟩ := id f13
    have hin12 : ¬ ((0 : Int32) < 0 ∨ cl12.slots.size ≤ ((0 : Int32)).toNatClampNeg) := inb_of S12 ⟨by decide, by decide⟩
    obtain ⟨T12, h12, X12, e12, W12, st12⟩ := stJ X10 hx hZ e10 Ar12 (j := (0 : Int32)) hin12 (g := (mkF m 35 #[.val (.int x0), .val (.long x1), .second, .val (.long x2), .second, .val (.long x3), .second, .val (.long x4), .second, .val (.int (1 : Int32)), .val (.ref b7), .val (.ref b8), .unset] [(.long x3), (.int (0 : Int32)), (.ref b8)])) rfl rfl (hb hby at_35)
    have V12 : Arv Z h12 b8 k8 .long (1 : Int32) [(.long x3)] (.long (0 : Int64)) := Arv.set Ar12 q12 S12 Nn12 Hh12 Gg12 (v := (.long x3)) rfl W12 0 rfl (Nat.le_of_ble_eq_true rfl)
    have N12 := Fr.snoc X12 N10 gz8
    have Z12 : n0 ≤ h12.size := Nat.le_trans Z10 (Keep.of_wr W12).1
    refine own_pre (B := T12.setTop (mkF m 36 #[.val (.int x0), .val (.long x1), .second, .val (.long x2), .second, .val (.long x3), .second, .val (.long x4), .second, .val (.int (1 : Int32)), .val (.ref b7), .val (.ref b8), .unset] [])) ?_ st12
    refine own_pre (B := T12.setTop (mkF m 38 #[.val (.int x0), .val (.long x1), .second, .val (.long x2), .second, .val (.long x3), .second, .val (.long x4), .second, .val (.int (1 : Int32)), .val (.ref b7), .val (.ref b8), .unset] [(.int (1 : Int32))])) ?_ fun t k => XS.iload X12.here hx rfl (hb hby at_36) rfl  k
    refine own_pre (B := T12.setTop (mkF m 39 #[.val (.int x0), .val (.long x1), .second, .val (.long x2), .second, .val (.long x3), .second, .val (.long x4), .second, .val (.int (1 : Int32)), .val (.ref b7), .val (.ref b8), .unset] [(.int (1 : Int32)), (.int (1 : Int32))])) ?_ fun t k => XS.iconst X12.here hx rfl (hb hby at_38) k
    refine own_pre (B := T12.setTop (mkF m 53 #[.val (.int x0), .val (.long x1), .second, .val (.long x2), .second, .val (.long x3), .second, .val (.long x4), .second, .val (.int (1 : Int32)), .val (.ref b7), .val (.ref b8), .unset] [])) ?_ fun t k => XS.icmpYes X12.here hx rfl (pc0 := 39) (pc' := 53) rfl (hb hby at_39) rfl (flt (by decide : ¬ ((1 : Int32) < (1 : Int32)))).2.2.2 (by decide) (by decide) k
    refine own_pre (B := T12.setTop (mkF m 55 #[.val (.int x0), .val (.long x1), .second, .val (.long x2), .second, .val (.long x3), .second, .val (.long x4), .second, .val (.int (1 : Int32)), .val (.ref b7), .val (.ref b8), .unset] [(.ref b7)])) ?_ fun t k => XS.aload X12.here hx rfl (hb hby at_53) rfl rfl k
    refine own_pre (B := T12.setTop (mkF m 57 #[.val (.int x0), .val (.long x1), .second, .val (.long x2), .second, .val (.long x3), .second, .val (.long x4), .second, .val (.int (1 : Int32)), .val (.ref b7), .val (.ref b8), .unset] [(.ref b8), (.ref b7)])) ?_ fun t k => XS.aload X12.here hx rfl (hb hby at_55) rfl rfl k
    have f15 := (V10.other W12 ne9)
    have FA14_0 : own_FA Z h12 b7 .long 1 (fun i => .long (([x1] : List Int64).getD i 0)) := own_FA.ofArv (vs := [x1]) f15
    have FA14_1 : own_FA Z h12 b8 .long 1 (fun i => .long (([x3] : List Int64).getD i 0)) := own_FA.ofArv (vs := [x3]) V12
    obtain ⟨_, _, ⟨T14, L14, k14, n14⟩, -, X14, ⟨Lc14, hQ14, l14, y14, z14⟩, st14⟩ := Jvm.LawKit.callS X12 hx (y := (⟨"com/example/nimfield/nimfield/NimWords", "xor", "([J[J)[J"⟩ : MethodName)) hown (mvT hZ (hw _ (List.mem_of_getElem? (i := 2) rfl))) (mvT hZ (hw _ (List.mem_of_getElem? (i := 3) rfl))) (mvT hZ (hw _ (List.mem_of_getElem? (i := 4) rfl))) (mvT hZ (hw _ (List.mem_of_getElem? (i := 5) rfl))) (by decide) (backOf (W := 0) (rm1 l Z a0 hw [] b7 b8 1 (fun i => ([x1] : List Int64).getD i 0) (fun i => ([x3] : List Int64).getD i 0) h12 n0 Z12 FA14_0 FA14_1 (by decide)) hZ (hw _ (List.mem_of_getElem? (i := 5) rfl)) (hw _ (List.mem_of_getElem? (i := 4) rfl)) (by decide) (by decide)) (g := (mkF m 57 #[.val (.int x0), .val (.long x1), .second, .val (.long x2), .second, .val (.long x3), .second, .val (.long x4), .second, .val (.int (1 : Int32)), .val (.ref b7), .val (.ref b8), .unset] [(.ref b8), (.ref b7)])) rfl (by rw [hml]; rfl) (argsL := [(.ref b7), (.ref b8)]) (rest := []) (lenOf pd___J_J__J rfl) rfl (by show 2 * 0 + _ ≤ _; exact Nat.le_of_eq rfl) (hb hby at_57) (fun _ _ => ⟨rfl, e12, (by decide : 2 + 1 ≤ _), (by decide : 2 + 2 ≤ _)⟩)
    dsimp only [Pt.U, Pt.locs, Pt.cells, Pt.slots] at X14 l14 y14 z14 st14 hQ14
    subst l14 y14 z14
    obtain ⟨rr, rfl, Nq14, gr14, K14, Ar14⟩ := hQ14
    have N14 := Fr.app N12 Nq14
    have Z14 := Nat.le_trans Z12 K14.1
    have ner_b7 : b7 ≠ rr := Nat.ne_of_lt (Nat.lt_of_lt_of_le f15.lt gr14)
    have ner_b8 : b8 ≠ rr := Nat.ne_of_lt (Nat.lt_of_lt_of_le V12.lt gr14)
    refine own_pre (B := T14.setTop (mkF m 60 #[.val (.int x0), .val (.long x1), .second, .val (.long x2), .second, .val (.long x3), .second, .val (.long x4), .second, .val (.int (1 : Int32)), .val (.ref b7), .val (.ref b8), .unset] [(.ref rr)])) ?_ st14
    refine own_pre (B := T14.setTop (mkF m 62 #[.val (.int x0), .val (.long x1), .second, .val (.long x2), .second, .val (.long x3), .second, .val (.long x4), .second, .val (.int (1 : Int32)), .val (.ref b7), .val (.ref b8), .val (.ref rr)] [])) ?_ fun t k => XS.astore X14.here hx rfl (hb hby at_60) rfl rfl (l' := #[.val (.int x0), .val (.long x1), .second, .val (.long x2), .second, .val (.long x3), .second, .val (.long x4), .second, .val (.int (1 : Int32)), .val (.ref b7), .val (.ref b8), .val (.ref rr)]) rfl k
    refine own_pre (B := T14.setTop (mkF m 64 #[.val (.int x0), .val (.long x1), .second, .val (.long x2), .second, .val (.long x3), .second, .val (.long x4), .second, .val (.int (1 : Int32)), .val (.ref b7), .val (.ref b8), .val (.ref rr)] [(.ref rr)])) ?_ fun t k => XS.aload X14.here hx rfl (hb hby at_62) rfl rfl k
    refine own_pre (B := T14.setTop (mkF m 67 #[.val (.int x0), .val (.long x1), .second, .val (.long x2), .second, .val (.long x3), .second, .val (.long x4), .second, .val (.int (1 : Int32)), .val (.ref b7), .val (.ref b8), .val (.ref rr)] [])) ?_ fun t k => XS.ifnullNo X14.here hx rfl (hb hby at_64) rfl k
    refine own_pre (B := T14.setTop (mkF m 69 #[.val (.int x0), .val (.long x1), .second, .val (.long x2), .second, .val (.long x3), .second, .val (.long x4), .second, .val (.int (1 : Int32)), .val (.ref b7), .val (.ref b8), .val (.ref rr)] [(.ref rr)])) ?_ fun t k => XS.aload X14.here hx rfl (hb hby at_67) rfl rfl k
    obtain ⟨Ln16, cl16, Ar16, S16, Hh16⟩ := id Ar14
    have len16 : cl16.slots.size.toInt32 = (Int32.ofNat 1) := (congrArg Nat.toInt32 S16).trans rfl
    refine own_pre (B := T14.setTop (mkF m 70 #[.val (.int x0), .val (.long x1), .second, .val (.long x2), .second, .val (.long x3), .second, .val (.long x4), .second, .val (.int (1 : Int32)), .val (.ref b7), .val (.ref b8), .val (.ref rr)] [(.int (Int32.ofNat 1))])) ?_ (fun t k => X14.arraylength hx Ar16.1 (State.isArrayOf_alike hZ.alike Ar16.2.1) (g := (mkF m 69 #[.val (.int x0), .val (.long x1), .second, .val (.long x2), .second, .val (.long x3), .second, .val (.long x4), .second, .val (.int (1 : Int32)), .val (.ref b7), .val (.ref b8), .val (.ref rr)] [(.ref rr)])) rfl rfl (hb hby at_69) t (by rw [len16]; exact k))
    refine own_pre (B := T14.setTop (mkF m 72 #[.val (.int x0), .val (.long x1), .second, .val (.long x2), .second, .val (.long x3), .second, .val (.long x4), .second, .val (.int (1 : Int32)), .val (.ref b7), .val (.ref b8), .val (.ref rr)] [(.int (1 : Int32)), (.int (Int32.ofNat 1))])) ?_ fun t k => XS.iload X14.here hx rfl (hb hby at_70) rfl  k
    refine own_pre (B := T14.setTop (mkF m 75 #[.val (.int x0), .val (.long x1), .second, .val (.long x2), .second, .val (.long x3), .second, .val (.long x4), .second, .val (.int (1 : Int32)), .val (.ref b7), .val (.ref b8), .val (.ref rr)] [])) ?_ fun t k => XS.icmpNo X14.here hx rfl (hb hby at_72) rfl (teq (by decide : (Int32.ofNat 1) = (1 : Int32))).2 k
    refine own_pre (B := T14.setTop (mkF m 77 #[.val (.int x0), .val (.long x1), .second, .val (.long x2), .second, .val (.long x3), .second, .val (.long x4), .second, .val (.int (1 : Int32)), .val (.ref b7), .val (.ref b8), .val (.ref rr)] [(.ref rr)])) ?_ fun t k => XS.aload X14.here hx rfl (hb hby at_75) rfl rfl k
    refine own_pre (B := T14.setTop (mkF m 79 #[.val (.int x0), .val (.long x1), .second, .val (.long x2), .second, .val (.long x3), .second, .val (.long x4), .second, .val (.int (1 : Int32)), .val (.ref b7), .val (.ref b8), .val (.ref rr)] [(.ref b7), (.ref rr)])) ?_ fun t k => XS.aload X14.here hx rfl (hb hby at_77) rfl rfl k
    refine own_pre (B := T14.setTop (mkF m 82 #[.val (.int x0), .val (.long x1), .second, .val (.long x2), .second, .val (.long x3), .second, .val (.long x4), .second, .val (.int (1 : Int32)), .val (.ref b7), .val (.ref b8), .val (.ref rr)] [])) ?_ fun t k => Jvm.RoadKit.acmp (g := (mkF m 79 #[.val (.int x0), .val (.long x1), .second, .val (.long x2), .second, .val (.long x3), .second, .val (.long x4), .second, .val (.int (1 : Int32)), .val (.ref b7), .val (.ref b8), .val (.ref rr)] [(.ref b7), (.ref rr)])) X14 hx rfl rfl rfl (pc0 := 79) (pc' := 82) (same := false) rfl (hb hby at_79) rfl (decide_eq_false fun q => (Ne.symm ner_b7) (Value.ref.inj q)) (by decide) (by decide) k
    refine own_pre (B := T14.setTop (mkF m 84 #[.val (.int x0), .val (.long x1), .second, .val (.long x2), .second, .val (.long x3), .second, .val (.long x4), .second, .val (.int (1 : Int32)), .val (.ref b7), .val (.ref b8), .val (.ref rr)] [(.ref rr)])) ?_ fun t k => XS.aload X14.here hx rfl (hb hby at_82) rfl rfl k
    refine own_pre (B := T14.setTop (mkF m 86 #[.val (.int x0), .val (.long x1), .second, .val (.long x2), .second, .val (.long x3), .second, .val (.long x4), .second, .val (.int (1 : Int32)), .val (.ref b7), .val (.ref b8), .val (.ref rr)] [(.ref b8), (.ref rr)])) ?_ fun t k => XS.aload X14.here hx rfl (hb hby at_84) rfl rfl k
    refine own_pre (B := T14.setTop (mkF m 91 #[.val (.int x0), .val (.long x1), .second, .val (.long x2), .second, .val (.long x3), .second, .val (.long x4), .second, .val (.int (1 : Int32)), .val (.ref b7), .val (.ref b8), .val (.ref rr)] [])) ?_ fun t k => Jvm.RoadKit.acmp (g := (mkF m 86 #[.val (.int x0), .val (.long x1), .second, .val (.long x2), .second, .val (.long x3), .second, .val (.long x4), .second, .val (.int (1 : Int32)), .val (.ref b7), .val (.ref b8), .val (.ref rr)] [(.ref b8), (.ref rr)])) X14 hx rfl rfl rfl (pc0 := 86) (pc' := 91) (same := false) rfl (hb hby at_86) rfl (decide_eq_false fun q => (Ne.symm ner_b8) (Value.ref.inj q)) (by decide) (by decide) k
    refine own_pre (B := T14.setTop (mkF m 93 #[.val (.int x0), .val (.long x1), .second, .val (.long x2), .second, .val (.long x3), .second, .val (.long x4), .second, .val (.int (1 : Int32)), .val (.ref b7), .val (.ref b8), .val (.ref rr)] [(.int (1 : Int32))])) ?_ fun t k => XS.iload X14.here hx rfl (hb hby at_91) rfl  k
    refine own_pre (B := T14.setTop (mkF m 96 #[.val (.int x0), .val (.long x1), .second, .val (.long x2), .second, .val (.long x3), .second, .val (.long x4), .second, .val (.int (1 : Int32)), .val (.ref b7), .val (.ref b8), .val (.ref rr)] [])) ?_ fun t k => XS.ifNo X14.here hx rfl (hb hby at_93) rfl ((if0 _ _).trans (tlt (by decide : ((0 : Int32) < (1 : Int32)))).2.2.2) k
    refine own_pre (B := T14.setTop (mkF m 98 #[.val (.int x0), .val (.long x1), .second, .val (.long x2), .second, .val (.long x3), .second, .val (.long x4), .second, .val (.int (1 : Int32)), .val (.ref b7), .val (.ref b8), .val (.ref rr)] [(.ref rr)])) ?_ fun t k => XS.aload X14.here hx rfl (hb hby at_96) rfl rfl k
    refine own_pre (B := T14.setTop (mkF m 99 #[.val (.int x0), .val (.long x1), .second, .val (.long x2), .second, .val (.long x3), .second, .val (.long x4), .second, .val (.int (1 : Int32)), .val (.ref b7), .val (.ref b8), .val (.ref rr)] [(.int (0 : Int32)), (.ref rr)])) ?_ fun t k => XS.iconst X14.here hx rfl (hb hby at_98) k
    obtain ⟨Ln17, cl17, Ar17, S17, Hh17⟩ := id Ar14
    have hin17 := own_hin (j := (0 : Int32)) (i := 0) S17 (by decide) (by decide) (by omega)
    have hat17 : cl17.slots[((0 : Int32)).toNatClampNeg]? = some (.long ((fun i => (fun i => ([x1] : List Int64).getD i 0) i ^^^ (fun i => ([x3] : List Int64).getD i 0) i) 0)) := own_hat (j := (0 : Int32)) (i := 0) Hh17 (by decide) (by omega)
    refine own_pre (B := T14.setTop (mkF m 100 #[.val (.int x0), .val (.long x1), .second, .val (.long x2), .second, .val (.long x3), .second, .val (.long x4), .second, .val (.int (1 : Int32)), .val (.ref b7), .val (.ref b8), .val (.ref rr)] [(.long ((fun i => (fun i => ([x1] : List Int64).getD i 0) i ^^^ (fun i => ([x3] : List Int64).getD i 0) i) 0))])) ?_ fun t k => X14.laload hx (j := (0 : Int32)) (v := (.long ((fun i => (fun i => ([x1] : List Int64).getD i 0) i ^^^ (fun i => ([x3] : List Int64).getD i 0) i) 0))) Ar17.1 (State.isArrayOf_alike hZ.alike Ar17.2.1) Ar17.2.2 hin17 hat17 (g := (mkF m 99 #[.val (.int x0), .val (.long x1), .second, .val (.long x2), .second, .val (.long x3), .second, .val (.long x4), .second, .val (.int (1 : Int32)), .val (.ref b7), .val (.ref b8), .val (.ref rr)] [(.int (0 : Int32)), (.ref rr)])) rfl rfl (hb hby at_99) t k
    refine own_pre (B := T14.setTop (mkF m 101 #[.val (.int x0), .val (.long x1), .second, .val (.long x2), .second, .val (.long x3), .second, .val (.long x4), .second, .val (.int (1 : Int32)), .val (.ref b7), .val (.ref b8), .val (.ref rr)] [(.long x1), (.long ((fun i => (fun i => ([x1] : List Int64).getD i 0) i ^^^ (fun i => ([x3] : List Int64).getD i 0) i) 0))])) ?_ fun t k => XS.lloadN X14.here hx rfl (hb hby at_100) rfl  k
    refine own_pre (B := T14.setTop (mkF m 103 #[.val (.int x0), .val (.long x1), .second, .val (.long x2), .second, .val (.long x3), .second, .val (.long x4), .second, .val (.int (1 : Int32)), .val (.ref b7), .val (.ref b8), .val (.ref rr)] [(.long x3), (.long x1), (.long ((fun i => (fun i => ([x1] : List Int64).getD i 0) i ^^^ (fun i => ([x3] : List Int64).getD i 0) i) 0))])) ?_ fun t k => XS.lload X14.here hx rfl (hb hby at_101) rfl  k
    obtain ⟨_, _, ⟨T18, L18, k18, n18⟩, -, X18, ⟨Lc18, hQ18, l18, y18, z18⟩, st18⟩ := Jvm.LawKit.callS X14 hx (y := (⟨"com/example/nimfield/nimfield/NimWordsXorPinLaw", "ref", "(JJ)J"⟩ : MethodName)) hown (mvT hZ (hw _ (List.mem_of_getElem? (i := 6) rfl))) (mvT hZ (hw _ (List.mem_of_getElem? (i := 7) rfl))) (mvT hZ (hw _ (List.mem_of_getElem? (i := 8) rfl))) (mvT hZ (hw _ (List.mem_of_getElem? (i := 9) rfl))) (by decide) (backOf (W := 2) (rm2 l Z a0 hw [] x1 x3 T14.heap n0 Z14 ) hZ (hw _ (List.mem_of_getElem? (i := 9) rfl)) (hw _ (List.mem_of_getElem? (i := 8) rfl)) (by decide) (by decide)) (g := (mkF m 103 #[.val (.int x0), .val (.long x1), .second, .val (.long x2), .second, .val (.long x3), .second, .val (.long x4), .second, .val (.int (1 : Int32)), .val (.ref b7), .val (.ref b8), .val (.ref rr)] [(.long x3), (.long x1), (.long ((fun i => (fun i => ([x1] : List Int64).getD i 0) i ^^^ (fun i => ([x3] : List Int64).getD i 0) i) 0))])) rfl (by rw [hml]; rfl) (argsL := [(.long x1), (.long x3)]) (rest := [(.long ((fun i => (fun i => ([x1] : List Int64).getD i 0) i ^^^ (fun i => ([x3] : List Int64).getD i 0) i) 0))]) (lenOf pd__JJ_J rfl) rfl (by show 2 * 0 + _ ≤ _; exact Nat.le_of_eq rfl) (hb hby at_103) (fun _ _ => ⟨rfl, rfl, (by decide : 3 + 0 ≤ _), (by decide : 4 + 0 ≤ _)⟩)
    dsimp only [Pt.U, Pt.locs, Pt.cells, Pt.slots] at X18 l18 y18 z18 st18 hQ18
    subst l18 y18 z18
    obtain ⟨rfl, Nq18, e18⟩ := hQ18
    have N18 := Fr.app N14 Nq18
    refine own_pre (B := T18.setTop (mkF m 106 #[.val (.int x0), .val (.long x1), .second, .val (.long x2), .second, .val (.long x3), .second, .val (.long x4), .second, .val (.int (1 : Int32)), .val (.ref b7), .val (.ref b8), .val (.ref rr)] [(.long (own_refx x1 x3)), (.long ((fun i => (fun i => ([x1] : List Int64).getD i 0) i ^^^ (fun i => ([x3] : List Int64).getD i 0) i) 0))])) ?_ st18
    refine own_pre (B := T18.setTop (mkF m 107 #[.val (.int x0), .val (.long x1), .second, .val (.long x2), .second, .val (.long x3), .second, .val (.long x4), .second, .val (.int (1 : Int32)), .val (.ref b7), .val (.ref b8), .val (.ref rr)] [(.int (lcmpW ((fun i => (fun i => ([x1] : List Int64).getD i 0) i ^^^ (fun i => ([x3] : List Int64).getD i 0) i) 0) (own_refx x1 x3)))])) ?_ fun t k => XS.lcmp X18.here hx rfl (hb hby at_106) rfl k
    refine own_pre (B := T18.setTop (mkF m 110 #[.val (.int x0), .val (.long x1), .second, .val (.long x2), .second, .val (.long x3), .second, .val (.long x4), .second, .val (.int (1 : Int32)), .val (.ref b7), .val (.ref b8), .val (.ref rr)] [])) ?_ fun t k => XS.ifNo X18.here hx rfl (hb hby at_107) rfl ((if0 _ _).trans (teq ((lw_eq ((fun i => (fun i => ([x1] : List Int64).getD i 0) i ^^^ (fun i => ([x3] : List Int64).getD i 0) i) 0) (own_refx x1 x3)).mpr (own_xr x1 x3))).2) k
    refine own_pre (B := T18.setTop (mkF m 112 #[.val (.int x0), .val (.long x1), .second, .val (.long x2), .second, .val (.long x3), .second, .val (.long x4), .second, .val (.int (1 : Int32)), .val (.ref b7), .val (.ref b8), .val (.ref rr)] [(.ref b7)])) ?_ fun t k => XS.aload X18.here hx rfl (hb hby at_110) rfl rfl k
    refine own_pre (B := T18.setTop (mkF m 113 #[.val (.int x0), .val (.long x1), .second, .val (.long x2), .second, .val (.long x3), .second, .val (.long x4), .second, .val (.int (1 : Int32)), .val (.ref b7), .val (.ref b8), .val (.ref rr)] [(.int (0 : Int32)), (.ref b7)])) ?_ fun t k => XS.iconst X18.here hx rfl (hb hby at_112) k
    have f20 := (f15.keep K14 nin0)
    obtain ⟨cl19, Ar19, q19, S19, Nn19, Hh19, Gg19⟩ := id f20
    have hin19 : ¬ ((0 : Int32) < 0 ∨ cl19.slots.size ≤ ((0 : Int32)).toNatClampNeg) := inb_of S19 ⟨by decide, by decide⟩
    have hat19 : cl19.slots[((0 : Int32)).toNatClampNeg]? = some (.long x1) := Hh19.at hin19 rfl
    refine own_pre (B := T18.setTop (mkF m 114 #[.val (.int x0), .val (.long x1), .second, .val (.long x2), .second, .val (.long x3), .second, .val (.long x4), .second, .val (.int (1 : Int32)), .val (.ref b7), .val (.ref b8), .val (.ref rr)] [(.long x1)])) ?_ fun t k => X18.laload hx (j := (0 : Int32)) (v := (.long x1)) (by rw [e18]; exact Ar19.1) (State.isArrayOf_alike hZ.alike Ar19.2.1) Ar19.2.2 hin19 hat19 (g := (mkF m 113 #[.val (.int x0), .val (.long x1), .second, .val (.long x2), .second, .val (.long x3), .second, .val (.long x4), .second, .val (.int (1 : Int32)), .val (.ref b7), .val (.ref b8), .val (.ref rr)] [(.int (0 : Int32)), (.ref b7)])) rfl rfl (hb hby at_113) t k
    refine own_pre (B := T18.setTop (mkF m 115 #[.val (.int x0), .val (.long x1), .second, .val (.long x2), .second, .val (.long x3), .second, .val (.long x4), .second, .val (.int (1 : Int32)), .val (.ref b7), .val (.ref b8), .val (.ref rr)] [(.long x1), (.long x1)])) ?_ fun t k => XS.lloadN X18.here hx rfl (hb hby at_114) rfl  k
    refine own_pre (B := T18.setTop (mkF m 116 #[.val (.int x0), .val (.long x1), .second, .val (.long x2), .second, .val (.long x3), .second, .val (.long x4), .second, .val (.int (1 : Int32)), .val (.ref b7), .val (.ref b8), .val (.ref rr)] [(.int (lcmpW x1 x1))])) ?_ fun t k => XS.lcmp X18.here hx rfl (hb hby at_115) rfl k
    refine own_pre (B := T18.setTop (mkF m 119 #[.val (.int x0), .val (.long x1), .second, .val (.long x2), .second, .val (.long x3), .second, .val (.long x4), .second, .val (.int (1 : Int32)), .val (.ref b7), .val (.ref b8), .val (.ref rr)] [])) ?_ fun t k => XS.ifNo X18.here hx rfl (hb hby at_116) rfl ((if0 _ _).trans (teq ((lw_eq x1 x1).mpr (rfl : x1 = x1))).2) k
    refine own_pre (B := T18.setTop (mkF m 121 #[.val (.int x0), .val (.long x1), .second, .val (.long x2), .second, .val (.long x3), .second, .val (.long x4), .second, .val (.int (1 : Int32)), .val (.ref b7), .val (.ref b8), .val (.ref rr)] [(.ref b8)])) ?_ fun t k => XS.aload X18.here hx rfl (hb hby at_119) rfl rfl k
    refine own_pre (B := T18.setTop (mkF m 122 #[.val (.int x0), .val (.long x1), .second, .val (.long x2), .second, .val (.long x3), .second, .val (.long x4), .second, .val (.int (1 : Int32)), .val (.ref b7), .val (.ref b8), .val (.ref rr)] [(.int (0 : Int32)), (.ref b8)])) ?_ fun t k => XS.iconst X18.here hx rfl (hb hby at_121) k
    have f22 := (V12.keep K14 nin0)
    obtain ⟨cl21, Ar21, q21, S21, Nn21, Hh21, Gg21⟩ := id f22
    have hin21 : ¬ ((0 : Int32) < 0 ∨ cl21.slots.size ≤ ((0 : Int32)).toNatClampNeg) := inb_of S21 ⟨by decide, by decide⟩
    have hat21 : cl21.slots[((0 : Int32)).toNatClampNeg]? = some (.long x3) := Hh21.at hin21 rfl
    refine own_pre (B := T18.setTop (mkF m 123 #[.val (.int x0), .val (.long x1), .second, .val (.long x2), .second, .val (.long x3), .second, .val (.long x4), .second, .val (.int (1 : Int32)), .val (.ref b7), .val (.ref b8), .val (.ref rr)] [(.long x3)])) ?_ fun t k => X18.laload hx (j := (0 : Int32)) (v := (.long x3)) (by rw [e18]; exact Ar21.1) (State.isArrayOf_alike hZ.alike Ar21.2.1) Ar21.2.2 hin21 hat21 (g := (mkF m 122 #[.val (.int x0), .val (.long x1), .second, .val (.long x2), .second, .val (.long x3), .second, .val (.long x4), .second, .val (.int (1 : Int32)), .val (.ref b7), .val (.ref b8), .val (.ref rr)] [(.int (0 : Int32)), (.ref b8)])) rfl rfl (hb hby at_122) t k
    refine own_pre (B := T18.setTop (mkF m 125 #[.val (.int x0), .val (.long x1), .second, .val (.long x2), .second, .val (.long x3), .second, .val (.long x4), .second, .val (.int (1 : Int32)), .val (.ref b7), .val (.ref b8), .val (.ref rr)] [(.long x3), (.long x3)])) ?_ fun t k => XS.lload X18.here hx rfl (hb hby at_123) rfl  k
    refine own_pre (B := T18.setTop (mkF m 126 #[.val (.int x0), .val (.long x1), .second, .val (.long x2), .second, .val (.long x3), .second, .val (.long x4), .second, .val (.int (1 : Int32)), .val (.ref b7), .val (.ref b8), .val (.ref rr)] [(.int (lcmpW x3 x3))])) ?_ fun t k => XS.lcmp X18.here hx rfl (hb hby at_125) rfl k
    refine own_pre (B := T18.setTop (mkF m 131 #[.val (.int x0), .val (.long x1), .second, .val (.long x2), .second, .val (.long x3), .second, .val (.long x4), .second, .val (.int (1 : Int32)), .val (.ref b7), .val (.ref b8), .val (.ref rr)] [])) ?_ fun t k => XS.ifYes X18.here hx rfl (pc0 := 126) (pc' := 131) rfl (hb hby at_126) rfl ((if0 _ _).trans (teq ((lw_eq x3 x3).mpr (rfl : x3 = x3))).1) (by decide) (by decide) k
    refine own_pre (B := T18.setTop (mkF m 133 #[.val (.int x0), .val (.long x1), .second, .val (.long x2), .second, .val (.long x3), .second, .val (.long x4), .second, .val (.int (1 : Int32)), .val (.ref b7), .val (.ref b8), .val (.ref rr)] [(.int (1 : Int32))])) ?_ fun t k => XS.iload X18.here hx rfl (hb hby at_131) rfl  k
    refine own_pre (B := T18.setTop (mkF m 134 #[.val (.int x0), .val (.long x1), .second, .val (.long x2), .second, .val (.long x3), .second, .val (.long x4), .second, .val (.int (1 : Int32)), .val (.ref b7), .val (.ref b8), .val (.ref rr)] [(.int (1 : Int32)), (.int (1 : Int32))])) ?_ fun t k => XS.iconst X18.here hx rfl (hb hby at_133) k
    refine own_pre (B := T18.setTop (mkF m 172 #[.val (.int x0), .val (.long x1), .second, .val (.long x2), .second, .val (.long x3), .second, .val (.long x4), .second, .val (.int (1 : Int32)), .val (.ref b7), .val (.ref b8), .val (.ref rr)] [])) ?_ fun t k => XS.icmpYes X18.here hx rfl (pc0 := 134) (pc' := 172) rfl (hb hby at_134) rfl (flt (by decide : ¬ ((1 : Int32) < (1 : Int32)))).2.2.2 (by decide) (by decide) k
    refine own_pre (B := T18.setTop (mkF m 173 #[.val (.int x0), .val (.long x1), .second, .val (.long x2), .second, .val (.long x3), .second, .val (.long x4), .second, .val (.int (1 : Int32)), .val (.ref b7), .val (.ref b8), .val (.ref rr)] [(.int (1 : Int32))])) ?_ fun t k => XS.iconst X18.here hx rfl (hb hby at_172) k
    refine own_retN X18 hx hlk (t := .boolean) (z' := (1 : Int32)) Bd.returns (by simp) (hb hby at_173) (by decide) ?_ (by decide) (by decide)
    rw [e18]
    exact ⟨rfl, N18⟩
  · skip
    refine own_pre (B := s₁.setTop (mkF m 10 #[.val (.int x0), .val (.long x1), .second, .val (.long x2), .second, .val (.long x3), .second, .val (.long x4), .second, .val (.int (2 : Int32)), .unset, .unset, .unset] [(.int (2 : Int32))])) ?_ fun t k => XS.iload X0.here hx rfl (hb hby at_8) rfl  k
    obtain ⟨T23, h23, k23, X23, e23, E23, A23, st23⟩ := newP X0 hx hZ (hw _ (List.mem_of_getElem? (i := 1) rfl)) e0 (g := (mkF m 10 #[.val (.int x0), .val (.long x1), .second, .val (.long x2), .second, .val (.long x3), .second, .val (.long x4), .second, .val (.int (2 : Int32)), .unset, .unset, .unset] [(.int (2 : Int32))])) rfl (hb hby at_10) rfl (by decide) (cap := 2) (by decide) (by decide) (by decide) (by decide)
    obtain ⟨b23, g23⟩ : ∃ z, z = h0.size := ⟨_, rfl⟩
    rw [← g23] at A23 st23
    have Z23 : n0 ≤ h23.size := Nat.le_trans Z0 E23.1
    have gz23 : n0 ≤ b23 := Nat.le_trans Z0 (Nat.le_of_eq g23.symm)
    have V23 : Arv Z h23 b23 k23 .long (2 : Int32) [(.long (0 : Int64)), (.long (0 : Int64))] (.long (0 : Int64)) := (Arv.new A23 (by decide)).pad (pad_rep [] (.long (0 : Int64)) 2)
    refine own_pre (B := T23.setTop (mkF m 12 #[.val (.int x0), .val (.long x1), .second, .val (.long x2), .second, .val (.long x3), .second, .val (.long x4), .second, .val (.int (2 : Int32)), .unset, .unset, .unset] [(.ref b23)])) ?_ st23
    refine own_pre (B := T23.setTop (mkF m 14 #[.val (.int x0), .val (.long x1), .second, .val (.long x2), .second, .val (.long x3), .second, .val (.long x4), .second, .val (.int (2 : Int32)), .val (.ref b23), .unset, .unset] [])) ?_ fun t k => XS.astore X23.here hx rfl (hb hby at_12) rfl rfl (l' := #[.val (.int x0), .val (.long x1), .second, .val (.long x2), .second, .val (.long x3), .second, .val (.long x4), .second, .val (.int (2 : Int32)), .val (.ref b23), .unset, .unset]) rfl k
    refine own_pre (B := T23.setTop (mkF m 16 #[.val (.int x0), .val (.long x1), .second, .val (.long x2), .second, .val (.long x3), .second, .val (.long x4), .second, .val (.int (2 : Int32)), .val (.ref b23), .unset, .unset] [(.int (2 : Int32))])) ?_ fun t k => XS.iload X23.here hx rfl (hb hby at_14) rfl  k
    obtain ⟨T24, h24, k24, X24, e24, E24, A24, st24⟩ := newP X23 hx hZ (hw _ (List.mem_of_getElem? (i := 1) rfl)) e23 (g := (mkF m 16 #[.val (.int x0), .val (.long x1), .second, .val (.long x2), .second, .val (.long x3), .second, .val (.long x4), .second, .val (.int (2 : Int32)), .val (.ref b23), .unset, .unset] [(.int (2 : Int32))])) rfl (hb hby at_16) rfl (by decide) (cap := 2) (by decide) (by decide) (by decide) (by decide)
    obtain ⟨b24, g24⟩ : ∃ z, z = h23.size := ⟨_, rfl⟩
    rw [← g24] at A24 st24
    have ne25 : b23 ≠ b24 := Nat.ne_of_lt (Nat.lt_of_lt_of_le V23.lt (Nat.le_of_eq g24.symm))
    have Z24 : n0 ≤ h24.size := Nat.le_trans Z23 E24.1
    have gz24 : n0 ≤ b24 := Nat.le_trans Z23 (Nat.le_of_eq g24.symm)
    have V24 : Arv Z h24 b24 k24 .long (2 : Int32) [(.long (0 : Int64)), (.long (0 : Int64))] (.long (0 : Int64)) := (Arv.new A24 (by decide)).pad (pad_rep [] (.long (0 : Int64)) 2)
    refine own_pre (B := T24.setTop (mkF m 18 #[.val (.int x0), .val (.long x1), .second, .val (.long x2), .second, .val (.long x3), .second, .val (.long x4), .second, .val (.int (2 : Int32)), .val (.ref b23), .unset, .unset] [(.ref b24)])) ?_ st24
    refine own_pre (B := T24.setTop (mkF m 20 #[.val (.int x0), .val (.long x1), .second, .val (.long x2), .second, .val (.long x3), .second, .val (.long x4), .second, .val (.int (2 : Int32)), .val (.ref b23), .val (.ref b24), .unset] [])) ?_ fun t k => XS.astore X24.here hx rfl (hb hby at_18) rfl rfl (l' := #[.val (.int x0), .val (.long x1), .second, .val (.long x2), .second, .val (.long x3), .second, .val (.long x4), .second, .val (.int (2 : Int32)), .val (.ref b23), .val (.ref b24), .unset]) rfl k
    refine own_pre (B := T24.setTop (mkF m 22 #[.val (.int x0), .val (.long x1), .second, .val (.long x2), .second, .val (.long x3), .second, .val (.long x4), .second, .val (.int (2 : Int32)), .val (.ref b23), .val (.ref b24), .unset] [(.int (2 : Int32))])) ?_ fun t k => XS.iload X24.here hx rfl (hb hby at_20) rfl  k
    refine own_pre (B := T24.setTop (mkF m 25 #[.val (.int x0), .val (.long x1), .second, .val (.long x2), .second, .val (.long x3), .second, .val (.long x4), .second, .val (.int (2 : Int32)), .val (.ref b23), .val (.ref b24), .unset] [])) ?_ fun t k => XS.ifNo X24.here hx rfl (hb hby at_22) rfl ((if0 _ _).trans (tlt (by decide : ((0 : Int32) < (2 : Int32)))).2.2.2) k
    refine own_pre (B := T24.setTop (mkF m 27 #[.val (.int x0), .val (.long x1), .second, .val (.long x2), .second, .val (.long x3), .second, .val (.long x4), .second, .val (.int (2 : Int32)), .val (.ref b23), .val (.ref b24), .unset] [(.ref b23)])) ?_ fun t k => XS.aload X24.here hx rfl (hb hby at_25) rfl rfl k
    refine own_pre (B := T24.setTop (mkF m 28 #[.val (.int x0), .val (.long x1), .second, .val (.long x2), .second, .val (.long x3), .second, .val (.long x4), .second, .val (.int (2 : Int32)), .val (.ref b23), .val (.ref b24), .unset] [(.int (0 : Int32)), (.ref b23)])) ?_ fun t k => XS.iconst X24.here hx rfl (hb hby at_27) k
    refine own_pre (B := T24.setTop (mkF m 29 #[.val (.int x0), .val (.long x1), .second, .val (.long x2), .second, .val (.long x3), .second, .val (.long x4), .second, .val (.int (2 : Int32)), .val (.ref b23), .val (.ref b24), .unset] [(.long x1), (.int (0 : Int32)), (.ref b23)])) ?_ fun t k => XS.lloadN X24.here hx rfl (hb hby at_28) rfl  k
    have f27 := (V23.ext E24)
    obtain ⟨cl26, Ar26, q26, S26, Nn26, Hh26, Gg26⟩ := id f27
    have hin26 : ¬ ((0 : Int32) < 0 ∨ cl26.slots.size ≤ ((0 : Int32)).toNatClampNeg) := inb_of S26 ⟨by decide, by decide⟩
    obtain ⟨T26, h26, X26, e26, W26, st26⟩ := stJ X24 hx hZ e24 Ar26 (j := (0 : Int32)) hin26 (g := (mkF m 29 #[.val (.int x0), .val (.long x1), .second, .val (.long x2), .second, .val (.long x3), .second, .val (.long x4), .second, .val (.int (2 : Int32)), .val (.ref b23), .val (.ref b24), .unset] [(.long x1), (.int (0 : Int32)), (.ref b23)])) rfl rfl (hb hby at_29)
    have V26 : Arv Z h26 b23 k23 .long (2 : Int32) [(.long x1), (.long (0 : Int64))] (.long (0 : Int64)) := Arv.set Ar26 q26 S26 Nn26 Hh26 Gg26 (v := (.long x1)) rfl W26 0 rfl (Nat.le_of_ble_eq_true rfl)
    have N26 := Fr.snoc X26 N0 gz23
    have Z26 : n0 ≤ h26.size := Nat.le_trans Z24 (Keep.of_wr W26).1
    refine own_pre (B := T26.setTop (mkF m 30 #[.val (.int x0), .val (.long x1), .second, .val (.long x2), .second, .val (.long x3), .second, .val (.long x4), .second, .val (.int (2 : Int32)), .val (.ref b23), .val (.ref b24), .unset] [])) ?_ st26
    refine own_pre (B := T26.setTop (mkF m 32 #[.val (.int x0), .val (.long x1), .second, .val (.long x2), .second, .val (.long x3), .second, .val (.long x4), .second, .val (.int (2 : Int32)), .val (.ref b23), .val (.ref b24), .unset] [(.ref b24)])) ?_ fun t k => XS.aload X26.here hx rfl (hb hby at_30) rfl rfl k
    refine own_pre (B := T26.setTop (mkF m 33 #[.val (.int x0), .val (.long x1), .second, .val (.long x2), .second, .val (.long x3), .second, .val (.long x4), .second, .val (.int (2 : Int32)), .val (.ref b23), .val (.ref b24), .unset] [(.int (0 : Int32)), (.ref b24)])) ?_ fun t k => XS.iconst X26.here hx rfl (hb hby at_32) k
    refine own_pre (B := T26.setTop (mkF m 35 #[.val (.int x0), .val (.long x1), .second, .val (.long x2), .second, .val (.long x3), .second, .val (.long x4), .second, .val (.int (2 : Int32)), .val (.ref b23), .val (.ref b24), .unset] [(.long x3), (.int (0 : Int32)), (.ref b24)])) ?_ fun t k => XS.lload X26.here hx rfl (hb hby at_33) rfl  k
    have f29 := (V24.other W26 (Ne.symm ne25))
    obtain ⟨cl28, Ar28, q28, S28, Nn28, Hh28, Gg28⟩ := id f29
    have hin28 : ¬ ((0 : Int32) < 0 ∨ cl28.slots.size ≤ ((0 : Int32)).toNatClampNeg) := inb_of S28 ⟨by decide, by decide⟩
    obtain ⟨T28, h28, X28, e28, W28, st28⟩ := stJ X26 hx hZ e26 Ar28 (j := (0 : Int32)) hin28 (g := (mkF m 35 #[.val (.int x0), .val (.long x1), .second, .val (.long x2), .second, .val (.long x3), .second, .val (.long x4), .second, .val (.int (2 : Int32)), .val (.ref b23), .val (.ref b24), .unset] [(.long x3), (.int (0 : Int32)), (.ref b24)])) rfl rfl (hb hby at_35)
    have V28 : Arv Z h28 b24 k24 .long (2 : Int32) [(.long x3), (.long (0 : Int64))] (.long (0 : Int64)) := Arv.set Ar28 q28 S28 Nn28 Hh28 Gg28 (v := (.long x3)) rfl W28 0 rfl (Nat.le_of_ble_eq_true rfl)
    have N28 := Fr.snoc X28 N26 gz24
    have Z28 : n0 ≤ h28.size := Nat.le_trans Z26 (Keep.of_wr W28).1
    refine own_pre (B := T28.setTop (mkF m 36 #[.val (.int x0), .val (.long x1), .second, .val (.long x2), .second, .val (.long x3), .second, .val (.long x4), .second, .val (.int (2 : Int32)), .val (.ref b23), .val (.ref b24), .unset] [])) ?_ st28
    refine own_pre (B := T28.setTop (mkF m 38 #[.val (.int x0), .val (.long x1), .second, .val (.long x2), .second, .val (.long x3), .second, .val (.long x4), .second, .val (.int (2 : Int32)), .val (.ref b23), .val (.ref b24), .unset] [(.int (2 : Int32))])) ?_ fun t k => XS.iload X28.here hx rfl (hb hby at_36) rfl  k
    refine own_pre (B := T28.setTop (mkF m 39 #[.val (.int x0), .val (.long x1), .second, .val (.long x2), .second, .val (.long x3), .second, .val (.long x4), .second, .val (.int (2 : Int32)), .val (.ref b23), .val (.ref b24), .unset] [(.int (1 : Int32)), (.int (2 : Int32))])) ?_ fun t k => XS.iconst X28.here hx rfl (hb hby at_38) k
    refine own_pre (B := T28.setTop (mkF m 42 #[.val (.int x0), .val (.long x1), .second, .val (.long x2), .second, .val (.long x3), .second, .val (.long x4), .second, .val (.int (2 : Int32)), .val (.ref b23), .val (.ref b24), .unset] [])) ?_ fun t k => XS.icmpNo X28.here hx rfl (hb hby at_39) rfl (tlt (by decide : ((1 : Int32) < (2 : Int32)))).2.2.2 k
    refine own_pre (B := T28.setTop (mkF m 44 #[.val (.int x0), .val (.long x1), .second, .val (.long x2), .second, .val (.long x3), .second, .val (.long x4), .second, .val (.int (2 : Int32)), .val (.ref b23), .val (.ref b24), .unset] [(.ref b23)])) ?_ fun t k => XS.aload X28.here hx rfl (hb hby at_42) rfl rfl k
    refine own_pre (B := T28.setTop (mkF m 45 #[.val (.int x0), .val (.long x1), .second, .val (.long x2), .second, .val (.long x3), .second, .val (.long x4), .second, .val (.int (2 : Int32)), .val (.ref b23), .val (.ref b24), .unset] [(.int (1 : Int32)), (.ref b23)])) ?_ fun t k => XS.iconst X28.here hx rfl (hb hby at_44) k
    refine own_pre (B := T28.setTop (mkF m 46 #[.val (.int x0), .val (.long x1), .second, .val (.long x2), .second, .val (.long x3), .second, .val (.long x4), .second, .val (.int (2 : Int32)), .val (.ref b23), .val (.ref b24), .unset] [(.long x2), (.int (1 : Int32)), (.ref b23)])) ?_ fun t k => XS.lloadN X28.here hx rfl (hb hby at_45) rfl  k
    have f31 := (V26.other W28 ne25)
    obtain ⟨cl30, Ar30, q30, S30, Nn30, Hh30, Gg30⟩ := id f31
    have hin30 : ¬ ((1 : Int32) < 0 ∨ cl30.slots.size ≤ ((1 : Int32)).toNatClampNeg) := inb_of S30 ⟨by decide, by decide⟩
    obtain ⟨T30, h30, X30, e30, W30, st30⟩ := stJ X28 hx hZ e28 Ar30 (j := (1 : Int32)) hin30 (g := (mkF m 46 #[.val (.int x0), .val (.long x1), .second, .val (.long x2), .second, .val (.long x3), .second, .val (.long x4), .second, .val (.int (2 : Int32)), .val (.ref b23), .val (.ref b24), .unset] [(.long x2), (.int (1 : Int32)), (.ref b23)])) rfl rfl (hb hby at_46)
    have V30 : Arv Z h30 b23 k23 .long (2 : Int32) [(.long x1), (.long x2)] (.long (0 : Int64)) := Arv.set Ar30 q30 S30 Nn30 Hh30 Gg30 (v := (.long x2)) rfl W30 1 rfl (Nat.le_of_ble_eq_true rfl)
    have N30 := Fr.snoc X30 N28 gz23
    have Z30 : n0 ≤ h30.size := Nat.le_trans Z28 (Keep.of_wr W30).1
    refine own_pre (B := T30.setTop (mkF m 47 #[.val (.int x0), .val (.long x1), .second, .val (.long x2), .second, .val (.long x3), .second, .val (.long x4), .second, .val (.int (2 : Int32)), .val (.ref b23), .val (.ref b24), .unset] [])) ?_ st30
    refine own_pre (B := T30.setTop (mkF m 49 #[.val (.int x0), .val (.long x1), .second, .val (.long x2), .second, .val (.long x3), .second, .val (.long x4), .second, .val (.int (2 : Int32)), .val (.ref b23), .val (.ref b24), .unset] [(.ref b24)])) ?_ fun t k => XS.aload X30.here hx rfl (hb hby at_47) rfl rfl k
    refine own_pre (B := T30.setTop (mkF m 50 #[.val (.int x0), .val (.long x1), .second, .val (.long x2), .second, .val (.long x3), .second, .val (.long x4), .second, .val (.int (2 : Int32)), .val (.ref b23), .val (.ref b24), .unset] [(.int (1 : Int32)), (.ref b24)])) ?_ fun t k => XS.iconst X30.here hx rfl (hb hby at_49) k
    refine own_pre (B := T30.setTop (mkF m 52 #[.val (.int x0), .val (.long x1), .second, .val (.long x2), .second, .val (.long x3), .second, .val (.long x4), .second, .val (.int (2 : Int32)), .val (.ref b23), .val (.ref b24), .unset] [(.long x4), (.int (1 : Int32)), (.ref b24)])) ?_ fun t k => XS.lload X30.here hx rfl (hb hby at_50) rfl  k
    have f33 := (V28.other W30 (Ne.symm ne25))
    obtain ⟨cl32, Ar32, q32, S32, Nn32, Hh32, Gg32⟩ := id f33
    have hin32 : ¬ ((1 : Int32) < 0 ∨ cl32.slots.size ≤ ((1 : Int32)).toNatClampNeg) := inb_of S32 ⟨by decide, by decide⟩
    obtain ⟨T32, h32, X32, e32, W32, st32⟩ := stJ X30 hx hZ e30 Ar32 (j := (1 : Int32)) hin32 (g := (mkF m 52 #[.val (.int x0), .val (.long x1), .second, .val (.long x2), .second, .val (.long x3), .second, .val (.long x4), .second, .val (.int (2 : Int32)), .val (.ref b23), .val (.ref b24), .unset] [(.long x4), (.int (1 : Int32)), (.ref b24)])) rfl rfl (hb hby at_52)
    have V32 : Arv Z h32 b24 k24 .long (2 : Int32) [(.long x3), (.long x4)] (.long (0 : Int64)) := Arv.set Ar32 q32 S32 Nn32 Hh32 Gg32 (v := (.long x4)) rfl W32 1 rfl (Nat.le_of_ble_eq_true rfl)
    have N32 := Fr.snoc X32 N30 gz24
    have Z32 : n0 ≤ h32.size := Nat.le_trans Z30 (Keep.of_wr W32).1
    refine own_pre (B := T32.setTop (mkF m 53 #[.val (.int x0), .val (.long x1), .second, .val (.long x2), .second, .val (.long x3), .second, .val (.long x4), .second, .val (.int (2 : Int32)), .val (.ref b23), .val (.ref b24), .unset] [])) ?_ st32
    refine own_pre (B := T32.setTop (mkF m 55 #[.val (.int x0), .val (.long x1), .second, .val (.long x2), .second, .val (.long x3), .second, .val (.long x4), .second, .val (.int (2 : Int32)), .val (.ref b23), .val (.ref b24), .unset] [(.ref b23)])) ?_ fun t k => XS.aload X32.here hx rfl (hb hby at_53) rfl rfl k
    refine own_pre (B := T32.setTop (mkF m 57 #[.val (.int x0), .val (.long x1), .second, .val (.long x2), .second, .val (.long x3), .second, .val (.long x4), .second, .val (.int (2 : Int32)), .val (.ref b23), .val (.ref b24), .unset] [(.ref b24), (.ref b23)])) ?_ fun t k => XS.aload X32.here hx rfl (hb hby at_55) rfl rfl k
    have f35 := (V30.other W32 ne25)
    have FA34_0 : own_FA Z h32 b23 .long 2 (fun i => .long (([x1, x2] : List Int64).getD i 0)) := own_FA.ofArv (vs := [x1, x2]) f35
    have FA34_1 : own_FA Z h32 b24 .long 2 (fun i => .long (([x3, x4] : List Int64).getD i 0)) := own_FA.ofArv (vs := [x3, x4]) V32
    obtain ⟨_, _, ⟨T34, L34, k34, n34⟩, -, X34, ⟨Lc34, hQ34, l34, y34, z34⟩, st34⟩ := Jvm.LawKit.callS X32 hx (y := (⟨"com/example/nimfield/nimfield/NimWords", "xor", "([J[J)[J"⟩ : MethodName)) hown (mvT hZ (hw _ (List.mem_of_getElem? (i := 2) rfl))) (mvT hZ (hw _ (List.mem_of_getElem? (i := 3) rfl))) (mvT hZ (hw _ (List.mem_of_getElem? (i := 4) rfl))) (mvT hZ (hw _ (List.mem_of_getElem? (i := 5) rfl))) (by decide) (backOf (W := 0) (rm1 l Z a0 hw [] b23 b24 2 (fun i => ([x1, x2] : List Int64).getD i 0) (fun i => ([x3, x4] : List Int64).getD i 0) h32 n0 Z32 FA34_0 FA34_1 (by decide)) hZ (hw _ (List.mem_of_getElem? (i := 5) rfl)) (hw _ (List.mem_of_getElem? (i := 4) rfl)) (by decide) (by decide)) (g := (mkF m 57 #[.val (.int x0), .val (.long x1), .second, .val (.long x2), .second, .val (.long x3), .second, .val (.long x4), .second, .val (.int (2 : Int32)), .val (.ref b23), .val (.ref b24), .unset] [(.ref b24), (.ref b23)])) rfl (by rw [hml]; rfl) (argsL := [(.ref b23), (.ref b24)]) (rest := []) (lenOf pd___J_J__J rfl) rfl (by show 2 * 0 + _ ≤ _; exact Nat.le_of_eq rfl) (hb hby at_57) (fun _ _ => ⟨rfl, e32, (by decide : 2 + 1 ≤ _), (by decide : 4 + 2 ≤ _)⟩)
    dsimp only [Pt.U, Pt.locs, Pt.cells, Pt.slots] at X34 l34 y34 z34 st34 hQ34
    subst l34 y34 z34
    obtain ⟨rr, rfl, Nq34, gr34, K34, Ar34⟩ := hQ34
    have N34 := Fr.app N32 Nq34
    have Z34 := Nat.le_trans Z32 K34.1
    have ner_b23 : b23 ≠ rr := Nat.ne_of_lt (Nat.lt_of_lt_of_le f35.lt gr34)
    have ner_b24 : b24 ≠ rr := Nat.ne_of_lt (Nat.lt_of_lt_of_le V32.lt gr34)
    refine own_pre (B := T34.setTop (mkF m 60 #[.val (.int x0), .val (.long x1), .second, .val (.long x2), .second, .val (.long x3), .second, .val (.long x4), .second, .val (.int (2 : Int32)), .val (.ref b23), .val (.ref b24), .unset] [(.ref rr)])) ?_ st34
    refine own_pre (B := T34.setTop (mkF m 62 #[.val (.int x0), .val (.long x1), .second, .val (.long x2), .second, .val (.long x3), .second, .val (.long x4), .second, .val (.int (2 : Int32)), .val (.ref b23), .val (.ref b24), .val (.ref rr)] [])) ?_ fun t k => XS.astore X34.here hx rfl (hb hby at_60) rfl rfl (l' := #[.val (.int x0), .val (.long x1), .second, .val (.long x2), .second, .val (.long x3), .second, .val (.long x4), .second, .val (.int (2 : Int32)), .val (.ref b23), .val (.ref b24), .val (.ref rr)]) rfl k
    refine own_pre (B := T34.setTop (mkF m 64 #[.val (.int x0), .val (.long x1), .second, .val (.long x2), .second, .val (.long x3), .second, .val (.long x4), .second, .val (.int (2 : Int32)), .val (.ref b23), .val (.ref b24), .val (.ref rr)] [(.ref rr)])) ?_ fun t k => XS.aload X34.here hx rfl (hb hby at_62) rfl rfl k
    refine own_pre (B := T34.setTop (mkF m 67 #[.val (.int x0), .val (.long x1), .second, .val (.long x2), .second, .val (.long x3), .second, .val (.long x4), .second, .val (.int (2 : Int32)), .val (.ref b23), .val (.ref b24), .val (.ref rr)] [])) ?_ fun t k => XS.ifnullNo X34.here hx rfl (hb hby at_64) rfl k
    refine own_pre (B := T34.setTop (mkF m 69 #[.val (.int x0), .val (.long x1), .second, .val (.long x2), .second, .val (.long x3), .second, .val (.long x4), .second, .val (.int (2 : Int32)), .val (.ref b23), .val (.ref b24), .val (.ref rr)] [(.ref rr)])) ?_ fun t k => XS.aload X34.here hx rfl (hb hby at_67) rfl rfl k
    obtain ⟨Ln36, cl36, Ar36, S36, Hh36⟩ := id Ar34
    have len36 : cl36.slots.size.toInt32 = (Int32.ofNat 2) := (congrArg Nat.toInt32 S36).trans rfl
    refine own_pre (B := T34.setTop (mkF m 70 #[.val (.int x0), .val (.long x1), .second, .val (.long x2), .second, .val (.long x3), .second, .val (.long x4), .second, .val (.int (2 : Int32)), .val (.ref b23), .val (.ref b24), .val (.ref rr)] [(.int (Int32.ofNat 2))])) ?_ (fun t k => X34.arraylength hx Ar36.1 (State.isArrayOf_alike hZ.alike Ar36.2.1) (g := (mkF m 69 #[.val (.int x0), .val (.long x1), .second, .val (.long x2), .second, .val (.long x3), .second, .val (.long x4), .second, .val (.int (2 : Int32)), .val (.ref b23), .val (.ref b24), .val (.ref rr)] [(.ref rr)])) rfl rfl (hb hby at_69) t (by rw [len36]; exact k))
    refine own_pre (B := T34.setTop (mkF m 72 #[.val (.int x0), .val (.long x1), .second, .val (.long x2), .second, .val (.long x3), .second, .val (.long x4), .second, .val (.int (2 : Int32)), .val (.ref b23), .val (.ref b24), .val (.ref rr)] [(.int (2 : Int32)), (.int (Int32.ofNat 2))])) ?_ fun t k => XS.iload X34.here hx rfl (hb hby at_70) rfl  k
    refine own_pre (B := T34.setTop (mkF m 75 #[.val (.int x0), .val (.long x1), .second, .val (.long x2), .second, .val (.long x3), .second, .val (.long x4), .second, .val (.int (2 : Int32)), .val (.ref b23), .val (.ref b24), .val (.ref rr)] [])) ?_ fun t k => XS.icmpNo X34.here hx rfl (hb hby at_72) rfl (teq (by decide : (Int32.ofNat 2) = (2 : Int32))).2 k
    refine own_pre (B := T34.setTop (mkF m 77 #[.val (.int x0), .val (.long x1), .second, .val (.long x2), .second, .val (.long x3), .second, .val (.long x4), .second, .val (.int (2 : Int32)), .val (.ref b23), .val (.ref b24), .val (.ref rr)] [(.ref rr)])) ?_ fun t k => XS.aload X34.here hx rfl (hb hby at_75) rfl rfl k
    refine own_pre (B := T34.setTop (mkF m 79 #[.val (.int x0), .val (.long x1), .second, .val (.long x2), .second, .val (.long x3), .second, .val (.long x4), .second, .val (.int (2 : Int32)), .val (.ref b23), .val (.ref b24), .val (.ref rr)] [(.ref b23), (.ref rr)])) ?_ fun t k => XS.aload X34.here hx rfl (hb hby at_77) rfl rfl k
    refine own_pre (B := T34.setTop (mkF m 82 #[.val (.int x0), .val (.long x1), .second, .val (.long x2), .second, .val (.long x3), .second, .val (.long x4), .second, .val (.int (2 : Int32)), .val (.ref b23), .val (.ref b24), .val (.ref rr)] [])) ?_ fun t k => Jvm.RoadKit.acmp (g := (mkF m 79 #[.val (.int x0), .val (.long x1), .second, .val (.long x2), .second, .val (.long x3), .second, .val (.long x4), .second, .val (.int (2 : Int32)), .val (.ref b23), .val (.ref b24), .val (.ref rr)] [(.ref b23), (.ref rr)])) X34 hx rfl rfl rfl (pc0 := 79) (pc' := 82) (same := false) rfl (hb hby at_79) rfl (decide_eq_false fun q => (Ne.symm ner_b23) (Value.ref.inj q)) (by decide) (by decide) k
    refine own_pre (B := T34.setTop (mkF m 84 #[.val (.int x0), .val (.long x1), .second, .val (.long x2), .second, .val (.long x3), .second, .val (.long x4), .second, .val (.int (2 : Int32)), .val (.ref b23), .val (.ref b24), .val (.ref rr)] [(.ref rr)])) ?_ fun t k => XS.aload X34.here hx rfl (hb hby at_82) rfl rfl k
    refine own_pre (B := T34.setTop (mkF m 86 #[.val (.int x0), .val (.long x1), .second, .val (.long x2), .second, .val (.long x3), .second, .val (.long x4), .second, .val (.int (2 : Int32)), .val (.ref b23), .val (.ref b24), .val (.ref rr)] [(.ref b24), (.ref rr)])) ?_ fun t k => XS.aload X34.here hx rfl (hb hby at_84) rfl rfl k
    refine own_pre (B := T34.setTop (mkF m 91 #[.val (.int x0), .val (.long x1), .second, .val (.long x2), .second, .val (.long x3), .second, .val (.long x4), .second, .val (.int (2 : Int32)), .val (.ref b23), .val (.ref b24), .val (.ref rr)] [])) ?_ fun t k => Jvm.RoadKit.acmp (g := (mkF m 86 #[.val (.int x0), .val (.long x1), .second, .val (.long x2), .second, .val (.long x3), .second, .val (.long x4), .second, .val (.int (2 : Int32)), .val (.ref b23), .val (.ref b24), .val (.ref rr)] [(.ref b24), (.ref rr)])) X34 hx rfl rfl rfl (pc0 := 86) (pc' := 91) (same := false) rfl (hb hby at_86) rfl (decide_eq_false fun q => (Ne.symm ner_b24) (Value.ref.inj q)) (by decide) (by decide) k
    refine own_pre (B := T34.setTop (mkF m 93 #[.val (.int x0), .val (.long x1), .second, .val (.long x2), .second, .val (.long x3), .second, .val (.long x4), .second, .val (.int (2 : Int32)), .val (.ref b23), .val (.ref b24), .val (.ref rr)] [(.int (2 : Int32))])) ?_ fun t k => XS.iload X34.here hx rfl (hb hby at_91) rfl  k
    refine own_pre (B := T34.setTop (mkF m 96 #[.val (.int x0), .val (.long x1), .second, .val (.long x2), .second, .val (.long x3), .second, .val (.long x4), .second, .val (.int (2 : Int32)), .val (.ref b23), .val (.ref b24), .val (.ref rr)] [])) ?_ fun t k => XS.ifNo X34.here hx rfl (hb hby at_93) rfl ((if0 _ _).trans (tlt (by decide : ((0 : Int32) < (2 : Int32)))).2.2.2) k
    refine own_pre (B := T34.setTop (mkF m 98 #[.val (.int x0), .val (.long x1), .second, .val (.long x2), .second, .val (.long x3), .second, .val (.long x4), .second, .val (.int (2 : Int32)), .val (.ref b23), .val (.ref b24), .val (.ref rr)] [(.ref rr)])) ?_ fun t k => XS.aload X34.here hx rfl (hb hby at_96) rfl rfl k
    refine own_pre (B := T34.setTop (mkF m 99 #[.val (.int x0), .val (.long x1), .second, .val (.long x2), .second, .val (.long x3), .second, .val (.long x4), .second, .val (.int (2 : Int32)), .val (.ref b23), .val (.ref b24), .val (.ref rr)] [(.int (0 : Int32)), (.ref rr)])) ?_ fun t k => XS.iconst X34.here hx rfl (hb hby at_98) k
    obtain ⟨Ln37, cl37, Ar37, S37, Hh37⟩ := id Ar34
    have hin37 := own_hin (j := (0 : Int32)) (i := 0) S37 (by decide) (by decide) (by omega)
    have hat37 : cl37.slots[((0 : Int32)).toNatClampNeg]? = some (.long ((fun i => (fun i => ([x1, x2] : List Int64).getD i 0) i ^^^ (fun i => ([x3, x4] : List Int64).getD i 0) i) 0)) := own_hat (j := (0 : Int32)) (i := 0) Hh37 (by decide) (by omega)
    refine own_pre (B := T34.setTop (mkF m 100 #[.val (.int x0), .val (.long x1), .second, .val (.long x2), .second, .val (.long x3), .second, .val (.long x4), .second, .val (.int (2 : Int32)), .val (.ref b23), .val (.ref b24), .val (.ref rr)] [(.long ((fun i => (fun i => ([x1, x2] : List Int64).getD i 0) i ^^^ (fun i => ([x3, x4] : List Int64).getD i 0) i) 0))])) ?_ fun t k => X34.laload hx (j := (0 : Int32)) (v := (.long ((fun i => (fun i => ([x1, x2] : List Int64).getD i 0) i ^^^ (fun i => ([x3, x4] : List Int64).getD i 0) i) 0))) Ar37.1 (State.isArrayOf_alike hZ.alike Ar37.2.1) Ar37.2.2 hin37 hat37 (g := (mkF m 99 #[.val (.int x0), .val (.long x1), .second, .val (.long x2), .second, .val (.long x3), .second, .val (.long x4), .second, .val (.int (2 : Int32)), .val (.ref b23), .val (.ref b24), .val (.ref rr)] [(.int (0 : Int32)), (.ref rr)])) rfl rfl (hb hby at_99) t k
    refine own_pre (B := T34.setTop (mkF m 101 #[.val (.int x0), .val (.long x1), .second, .val (.long x2), .second, .val (.long x3), .second, .val (.long x4), .second, .val (.int (2 : Int32)), .val (.ref b23), .val (.ref b24), .val (.ref rr)] [(.long x1), (.long ((fun i => (fun i => ([x1, x2] : List Int64).getD i 0) i ^^^ (fun i => ([x3, x4] : List Int64).getD i 0) i) 0))])) ?_ fun t k => XS.lloadN X34.here hx rfl (hb hby at_100) rfl  k
    refine own_pre (B := T34.setTop (mkF m 103 #[.val (.int x0), .val (.long x1), .second, .val (.long x2), .second, .val (.long x3), .second, .val (.long x4), .second, .val (.int (2 : Int32)), .val (.ref b23), .val (.ref b24), .val (.ref rr)] [(.long x3), (.long x1), (.long ((fun i => (fun i => ([x1, x2] : List Int64).getD i 0) i ^^^ (fun i => ([x3, x4] : List Int64).getD i 0) i) 0))])) ?_ fun t k => XS.lload X34.here hx rfl (hb hby at_101) rfl  k
    obtain ⟨_, _, ⟨T38, L38, k38, n38⟩, -, X38, ⟨Lc38, hQ38, l38, y38, z38⟩, st38⟩ := Jvm.LawKit.callS X34 hx (y := (⟨"com/example/nimfield/nimfield/NimWordsXorPinLaw", "ref", "(JJ)J"⟩ : MethodName)) hown (mvT hZ (hw _ (List.mem_of_getElem? (i := 6) rfl))) (mvT hZ (hw _ (List.mem_of_getElem? (i := 7) rfl))) (mvT hZ (hw _ (List.mem_of_getElem? (i := 8) rfl))) (mvT hZ (hw _ (List.mem_of_getElem? (i := 9) rfl))) (by decide) (backOf (W := 2) (rm2 l Z a0 hw [] x1 x3 T34.heap n0 Z34 ) hZ (hw _ (List.mem_of_getElem? (i := 9) rfl)) (hw _ (List.mem_of_getElem? (i := 8) rfl)) (by decide) (by decide)) (g := (mkF m 103 #[.val (.int x0), .val (.long x1), .second, .val (.long x2), .second, .val (.long x3), .second, .val (.long x4), .second, .val (.int (2 : Int32)), .val (.ref b23), .val (.ref b24), .val (.ref rr)] [(.long x3), (.long x1), (.long ((fun i => (fun i => ([x1, x2] : List Int64).getD i 0) i ^^^ (fun i => ([x3, x4] : List Int64).getD i 0) i) 0))])) rfl (by rw [hml]; rfl) (argsL := [(.long x1), (.long x3)]) (rest := [(.long ((fun i => (fun i => ([x1, x2] : List Int64).getD i 0) i ^^^ (fun i => ([x3, x4] : List Int64).getD i 0) i) 0))]) (lenOf pd__JJ_J rfl) rfl (by show 2 * 0 + _ ≤ _; exact Nat.le_of_eq rfl) (hb hby at_103) (fun _ _ => ⟨rfl, rfl, (by decide : 3 + 0 ≤ _), (by decide : 6 + 0 ≤ _)⟩)
    dsimp only [Pt.U, Pt.locs, Pt.cells, Pt.slots] at X38 l38 y38 z38 st38 hQ38
    subst l38 y38 z38
    obtain ⟨rfl, Nq38, e38⟩ := hQ38
    have N38 := Fr.app N34 Nq38
    refine own_pre (B := T38.setTop (mkF m 106 #[.val (.int x0), .val (.long x1), .second, .val (.long x2), .second, .val (.long x3), .second, .val (.long x4), .second, .val (.int (2 : Int32)), .val (.ref b23), .val (.ref b24), .val (.ref rr)] [(.long (own_refx x1 x3)), (.long ((fun i => (fun i => ([x1, x2] : List Int64).getD i 0) i ^^^ (fun i => ([x3, x4] : List Int64).getD i 0) i) 0))])) ?_ st38
    refine own_pre (B := T38.setTop (mkF m 107 #[.val (.int x0), .val (.long x1), .second, .val (.long x2), .second, .val (.long x3), .second, .val (.long x4), .second, .val (.int (2 : Int32)), .val (.ref b23), .val (.ref b24), .val (.ref rr)] [(.int (lcmpW ((fun i => (fun i => ([x1, x2] : List Int64).getD i 0) i ^^^ (fun i => ([x3, x4] : List Int64).getD i 0) i) 0) (own_refx x1 x3)))])) ?_ fun t k => XS.lcmp X38.here hx rfl (hb hby at_106) rfl k
    refine own_pre (B := T38.setTop (mkF m 110 #[.val (.int x0), .val (.long x1), .second, .val (.long x2), .second, .val (.long x3), .second, .val (.long x4), .second, .val (.int (2 : Int32)), .val (.ref b23), .val (.ref b24), .val (.ref rr)] [])) ?_ fun t k => XS.ifNo X38.here hx rfl (hb hby at_107) rfl ((if0 _ _).trans (teq ((lw_eq ((fun i => (fun i => ([x1, x2] : List Int64).getD i 0) i ^^^ (fun i => ([x3, x4] : List Int64).getD i 0) i) 0) (own_refx x1 x3)).mpr (own_xr x1 x3))).2) k
    refine own_pre (B := T38.setTop (mkF m 112 #[.val (.int x0), .val (.long x1), .second, .val (.long x2), .second, .val (.long x3), .second, .val (.long x4), .second, .val (.int (2 : Int32)), .val (.ref b23), .val (.ref b24), .val (.ref rr)] [(.ref b23)])) ?_ fun t k => XS.aload X38.here hx rfl (hb hby at_110) rfl rfl k
    refine own_pre (B := T38.setTop (mkF m 113 #[.val (.int x0), .val (.long x1), .second, .val (.long x2), .second, .val (.long x3), .second, .val (.long x4), .second, .val (.int (2 : Int32)), .val (.ref b23), .val (.ref b24), .val (.ref rr)] [(.int (0 : Int32)), (.ref b23)])) ?_ fun t k => XS.iconst X38.here hx rfl (hb hby at_112) k
    have f40 := (f35.keep K34 nin0)
    obtain ⟨cl39, Ar39, q39, S39, Nn39, Hh39, Gg39⟩ := id f40
    have hin39 : ¬ ((0 : Int32) < 0 ∨ cl39.slots.size ≤ ((0 : Int32)).toNatClampNeg) := inb_of S39 ⟨by decide, by decide⟩
    have hat39 : cl39.slots[((0 : Int32)).toNatClampNeg]? = some (.long x1) := Hh39.at hin39 rfl
    refine own_pre (B := T38.setTop (mkF m 114 #[.val (.int x0), .val (.long x1), .second, .val (.long x2), .second, .val (.long x3), .second, .val (.long x4), .second, .val (.int (2 : Int32)), .val (.ref b23), .val (.ref b24), .val (.ref rr)] [(.long x1)])) ?_ fun t k => X38.laload hx (j := (0 : Int32)) (v := (.long x1)) (by rw [e38]; exact Ar39.1) (State.isArrayOf_alike hZ.alike Ar39.2.1) Ar39.2.2 hin39 hat39 (g := (mkF m 113 #[.val (.int x0), .val (.long x1), .second, .val (.long x2), .second, .val (.long x3), .second, .val (.long x4), .second, .val (.int (2 : Int32)), .val (.ref b23), .val (.ref b24), .val (.ref rr)] [(.int (0 : Int32)), (.ref b23)])) rfl rfl (hb hby at_113) t k
    refine own_pre (B := T38.setTop (mkF m 115 #[.val (.int x0), .val (.long x1), .second, .val (.long x2), .second, .val (.long x3), .second, .val (.long x4), .second, .val (.int (2 : Int32)), .val (.ref b23), .val (.ref b24), .val (.ref rr)] [(.long x1), (.long x1)])) ?_ fun t k => XS.lloadN X38.here hx rfl (hb hby at_114) rfl  k
    refine own_pre (B := T38.setTop (mkF m 116 #[.val (.int x0), .val (.long x1), .second, .val (.long x2), .second, .val (.long x3), .second, .val (.long x4), .second, .val (.int (2 : Int32)), .val (.ref b23), .val (.ref b24), .val (.ref rr)] [(.int (lcmpW x1 x1))])) ?_ fun t k => XS.lcmp X38.here hx rfl (hb hby at_115) rfl k
    refine own_pre (B := T38.setTop (mkF m 119 #[.val (.int x0), .val (.long x1), .second, .val (.long x2), .second, .val (.long x3), .second, .val (.long x4), .second, .val (.int (2 : Int32)), .val (.ref b23), .val (.ref b24), .val (.ref rr)] [])) ?_ fun t k => XS.ifNo X38.here hx rfl (hb hby at_116) rfl ((if0 _ _).trans (teq ((lw_eq x1 x1).mpr (rfl : x1 = x1))).2) k
    refine own_pre (B := T38.setTop (mkF m 121 #[.val (.int x0), .val (.long x1), .second, .val (.long x2), .second, .val (.long x3), .second, .val (.long x4), .second, .val (.int (2 : Int32)), .val (.ref b23), .val (.ref b24), .val (.ref rr)] [(.ref b24)])) ?_ fun t k => XS.aload X38.here hx rfl (hb hby at_119) rfl rfl k
    refine own_pre (B := T38.setTop (mkF m 122 #[.val (.int x0), .val (.long x1), .second, .val (.long x2), .second, .val (.long x3), .second, .val (.long x4), .second, .val (.int (2 : Int32)), .val (.ref b23), .val (.ref b24), .val (.ref rr)] [(.int (0 : Int32)), (.ref b24)])) ?_ fun t k => XS.iconst X38.here hx rfl (hb hby at_121) k
    have f42 := (V32.keep K34 nin0)
    obtain ⟨cl41, Ar41, q41, S41, Nn41, Hh41, Gg41⟩ := id f42
    have hin41 : ¬ ((0 : Int32) < 0 ∨ cl41.slots.size ≤ ((0 : Int32)).toNatClampNeg) := inb_of S41 ⟨by decide, by decide⟩
    have hat41 : cl41.slots[((0 : Int32)).toNatClampNeg]? = some (.long x3) := Hh41.at hin41 rfl
    refine own_pre (B := T38.setTop (mkF m 123 #[.val (.int x0), .val (.long x1), .second, .val (.long x2), .second, .val (.long x3), .second, .val (.long x4), .second, .val (.int (2 : Int32)), .val (.ref b23), .val (.ref b24), .val (.ref rr)] [(.long x3)])) ?_ fun t k => X38.laload hx (j := (0 : Int32)) (v := (.long x3)) (by rw [e38]; exact Ar41.1) (State.isArrayOf_alike hZ.alike Ar41.2.1) Ar41.2.2 hin41 hat41 (g := (mkF m 122 #[.val (.int x0), .val (.long x1), .second, .val (.long x2), .second, .val (.long x3), .second, .val (.long x4), .second, .val (.int (2 : Int32)), .val (.ref b23), .val (.ref b24), .val (.ref rr)] [(.int (0 : Int32)), (.ref b24)])) rfl rfl (hb hby at_122) t k
    refine own_pre (B := T38.setTop (mkF m 125 #[.val (.int x0), .val (.long x1), .second, .val (.long x2), .second, .val (.long x3), .second, .val (.long x4), .second, .val (.int (2 : Int32)), .val (.ref b23), .val (.ref b24), .val (.ref rr)] [(.long x3), (.long x3)])) ?_ fun t k => XS.lload X38.here hx rfl (hb hby at_123) rfl  k
    refine own_pre (B := T38.setTop (mkF m 126 #[.val (.int x0), .val (.long x1), .second, .val (.long x2), .second, .val (.long x3), .second, .val (.long x4), .second, .val (.int (2 : Int32)), .val (.ref b23), .val (.ref b24), .val (.ref rr)] [(.int (lcmpW x3 x3))])) ?_ fun t k => XS.lcmp X38.here hx rfl (hb hby at_125) rfl k
    refine own_pre (B := T38.setTop (mkF m 131 #[.val (.int x0), .val (.long x1), .second, .val (.long x2), .second, .val (.long x3), .second, .val (.long x4), .second, .val (.int (2 : Int32)), .val (.ref b23), .val (.ref b24), .val (.ref rr)] [])) ?_ fun t k => XS.ifYes X38.here hx rfl (pc0 := 126) (pc' := 131) rfl (hb hby at_126) rfl ((if0 _ _).trans (teq ((lw_eq x3 x3).mpr (rfl : x3 = x3))).1) (by decide) (by decide) k
    refine own_pre (B := T38.setTop (mkF m 133 #[.val (.int x0), .val (.long x1), .second, .val (.long x2), .second, .val (.long x3), .second, .val (.long x4), .second, .val (.int (2 : Int32)), .val (.ref b23), .val (.ref b24), .val (.ref rr)] [(.int (2 : Int32))])) ?_ fun t k => XS.iload X38.here hx rfl (hb hby at_131) rfl  k
    refine own_pre (B := T38.setTop (mkF m 134 #[.val (.int x0), .val (.long x1), .second, .val (.long x2), .second, .val (.long x3), .second, .val (.long x4), .second, .val (.int (2 : Int32)), .val (.ref b23), .val (.ref b24), .val (.ref rr)] [(.int (1 : Int32)), (.int (2 : Int32))])) ?_ fun t k => XS.iconst X38.here hx rfl (hb hby at_133) k
    refine own_pre (B := T38.setTop (mkF m 137 #[.val (.int x0), .val (.long x1), .second, .val (.long x2), .second, .val (.long x3), .second, .val (.long x4), .second, .val (.int (2 : Int32)), .val (.ref b23), .val (.ref b24), .val (.ref rr)] [])) ?_ fun t k => XS.icmpNo X38.here hx rfl (hb hby at_134) rfl (tlt (by decide : ((1 : Int32) < (2 : Int32)))).2.2.2 k
    refine own_pre (B := T38.setTop (mkF m 139 #[.val (.int x0), .val (.long x1), .second, .val (.long x2), .second, .val (.long x3), .second, .val (.long x4), .second, .val (.int (2 : Int32)), .val (.ref b23), .val (.ref b24), .val (.ref rr)] [(.ref rr)])) ?_ fun t k => XS.aload X38.here hx rfl (hb hby at_137) rfl rfl k
    refine own_pre (B := T38.setTop (mkF m 140 #[.val (.int x0), .val (.long x1), .second, .val (.long x2), .second, .val (.long x3), .second, .val (.long x4), .second, .val (.int (2 : Int32)), .val (.ref b23), .val (.ref b24), .val (.ref rr)] [(.int (1 : Int32)), (.ref rr)])) ?_ fun t k => XS.iconst X38.here hx rfl (hb hby at_139) k
    obtain ⟨Ln43, cl43, Ar43, S43, Hh43⟩ := id Ar34
    have hin43 := own_hin (j := (1 : Int32)) (i := 1) S43 (by decide) (by decide) (by omega)
    have hat43 : cl43.slots[((1 : Int32)).toNatClampNeg]? = some (.long ((fun i => (fun i => ([x1, x2] : List Int64).getD i 0) i ^^^ (fun i => ([x3, x4] : List Int64).getD i 0) i) 1)) := own_hat (j := (1 : Int32)) (i := 1) Hh43 (by decide) (by omega)
    refine own_pre (B := T38.setTop (mkF m 141 #[.val (.int x0), .val (.long x1), .second, .val (.long x2), .second, .val (.long x3), .second, .val (.long x4), .second, .val (.int (2 : Int32)), .val (.ref b23), .val (.ref b24), .val (.ref rr)] [(.long ((fun i => (fun i => ([x1, x2] : List Int64).getD i 0) i ^^^ (fun i => ([x3, x4] : List Int64).getD i 0) i) 1))])) ?_ fun t k => X38.laload hx (j := (1 : Int32)) (v := (.long ((fun i => (fun i => ([x1, x2] : List Int64).getD i 0) i ^^^ (fun i => ([x3, x4] : List Int64).getD i 0) i) 1))) (by rw [e38]; exact Ar43.1) (State.isArrayOf_alike hZ.alike Ar43.2.1) Ar43.2.2 hin43 hat43 (g := (mkF m 140 #[.val (.int x0), .val (.long x1), .second, .val (.long x2), .second, .val (.long x3), .second, .val (.long x4), .second, .val (.int (2 : Int32)), .val (.ref b23), .val (.ref b24), .val (.ref rr)] [(.int (1 : Int32)), (.ref rr)])) rfl rfl (hb hby at_140) t k
    refine own_pre (B := T38.setTop (mkF m 142 #[.val (.int x0), .val (.long x1), .second, .val (.long x2), .second, .val (.long x3), .second, .val (.long x4), .second, .val (.int (2 : Int32)), .val (.ref b23), .val (.ref b24), .val (.ref rr)] [(.long x2), (.long ((fun i => (fun i => ([x1, x2] : List Int64).getD i 0) i ^^^ (fun i => ([x3, x4] : List Int64).getD i 0) i) 1))])) ?_ fun t k => XS.lloadN X38.here hx rfl (hb hby at_141) rfl  k
    refine own_pre (B := T38.setTop (mkF m 144 #[.val (.int x0), .val (.long x1), .second, .val (.long x2), .second, .val (.long x3), .second, .val (.long x4), .second, .val (.int (2 : Int32)), .val (.ref b23), .val (.ref b24), .val (.ref rr)] [(.long x4), (.long x2), (.long ((fun i => (fun i => ([x1, x2] : List Int64).getD i 0) i ^^^ (fun i => ([x3, x4] : List Int64).getD i 0) i) 1))])) ?_ fun t k => XS.lload X38.here hx rfl (hb hby at_142) rfl  k
    obtain ⟨_, _, ⟨T44, L44, k44, n44⟩, -, X44, ⟨Lc44, hQ44, l44, y44, z44⟩, st44⟩ := Jvm.LawKit.callS X38 hx (y := (⟨"com/example/nimfield/nimfield/NimWordsXorPinLaw", "ref", "(JJ)J"⟩ : MethodName)) hown (mvT hZ (hw _ (List.mem_of_getElem? (i := 6) rfl))) (mvT hZ (hw _ (List.mem_of_getElem? (i := 7) rfl))) (mvT hZ (hw _ (List.mem_of_getElem? (i := 8) rfl))) (mvT hZ (hw _ (List.mem_of_getElem? (i := 9) rfl))) (by decide) (backOf (W := 2) (rm2 l Z a0 hw [] x2 x4 T34.heap n0 Z34 ) hZ (hw _ (List.mem_of_getElem? (i := 9) rfl)) (hw _ (List.mem_of_getElem? (i := 8) rfl)) (by decide) (by decide)) (g := (mkF m 144 #[.val (.int x0), .val (.long x1), .second, .val (.long x2), .second, .val (.long x3), .second, .val (.long x4), .second, .val (.int (2 : Int32)), .val (.ref b23), .val (.ref b24), .val (.ref rr)] [(.long x4), (.long x2), (.long ((fun i => (fun i => ([x1, x2] : List Int64).getD i 0) i ^^^ (fun i => ([x3, x4] : List Int64).getD i 0) i) 1))])) rfl (by rw [hml]; rfl) (argsL := [(.long x2), (.long x4)]) (rest := [(.long ((fun i => (fun i => ([x1, x2] : List Int64).getD i 0) i ^^^ (fun i => ([x3, x4] : List Int64).getD i 0) i) 1))]) (lenOf pd__JJ_J rfl) rfl (by show 2 * 0 + _ ≤ _; exact Nat.le_of_eq rfl) (hb hby at_144) (fun _ _ => ⟨rfl, e38, (by decide : 3 + 0 ≤ _), (by decide : 6 + 0 ≤ _)⟩)
    dsimp only [Pt.U, Pt.locs, Pt.cells, Pt.slots] at X44 l44 y44 z44 st44 hQ44
    subst l44 y44 z44
    obtain ⟨rfl, Nq44, e44⟩ := hQ44
    have N44 := Fr.app N38 Nq44
    refine own_pre (B := T44.setTop (mkF m 147 #[.val (.int x0), .val (.long x1), .second, .val (.long x2), .second, .val (.long x3), .second, .val (.long x4), .second, .val (.int (2 : Int32)), .val (.ref b23), .val (.ref b24), .val (.ref rr)] [(.long (own_refx x2 x4)), (.long ((fun i => (fun i => ([x1, x2] : List Int64).getD i 0) i ^^^ (fun i => ([x3, x4] : List Int64).getD i 0) i) 1))])) ?_ st44
    refine own_pre (B := T44.setTop (mkF m 148 #[.val (.int x0), .val (.long x1), .second, .val (.long x2), .second, .val (.long x3), .second, .val (.long x4), .second, .val (.int (2 : Int32)), .val (.ref b23), .val (.ref b24), .val (.ref rr)] [(.int (lcmpW ((fun i => (fun i => ([x1, x2] : List Int64).getD i 0) i ^^^ (fun i => ([x3, x4] : List Int64).getD i 0) i) 1) (own_refx x2 x4)))])) ?_ fun t k => XS.lcmp X44.here hx rfl (hb hby at_147) rfl k
    refine own_pre (B := T44.setTop (mkF m 151 #[.val (.int x0), .val (.long x1), .second, .val (.long x2), .second, .val (.long x3), .second, .val (.long x4), .second, .val (.int (2 : Int32)), .val (.ref b23), .val (.ref b24), .val (.ref rr)] [])) ?_ fun t k => XS.ifNo X44.here hx rfl (hb hby at_148) rfl ((if0 _ _).trans (teq ((lw_eq ((fun i => (fun i => ([x1, x2] : List Int64).getD i 0) i ^^^ (fun i => ([x3, x4] : List Int64).getD i 0) i) 1) (own_refx x2 x4)).mpr (own_xr x2 x4))).2) k
    refine own_pre (B := T44.setTop (mkF m 153 #[.val (.int x0), .val (.long x1), .second, .val (.long x2), .second, .val (.long x3), .second, .val (.long x4), .second, .val (.int (2 : Int32)), .val (.ref b23), .val (.ref b24), .val (.ref rr)] [(.ref b23)])) ?_ fun t k => XS.aload X44.here hx rfl (hb hby at_151) rfl rfl k
    refine own_pre (B := T44.setTop (mkF m 154 #[.val (.int x0), .val (.long x1), .second, .val (.long x2), .second, .val (.long x3), .second, .val (.long x4), .second, .val (.int (2 : Int32)), .val (.ref b23), .val (.ref b24), .val (.ref rr)] [(.int (1 : Int32)), (.ref b23)])) ?_ fun t k => XS.iconst X44.here hx rfl (hb hby at_153) k
    obtain ⟨cl45, Ar45, q45, S45, Nn45, Hh45, Gg45⟩ := id f40
    have hin45 : ¬ ((1 : Int32) < 0 ∨ cl45.slots.size ≤ ((1 : Int32)).toNatClampNeg) := inb_of S45 ⟨by decide, by decide⟩
    have hat45 : cl45.slots[((1 : Int32)).toNatClampNeg]? = some (.long x2) := Hh45.at hin45 rfl
    refine own_pre (B := T44.setTop (mkF m 155 #[.val (.int x0), .val (.long x1), .second, .val (.long x2), .second, .val (.long x3), .second, .val (.long x4), .second, .val (.int (2 : Int32)), .val (.ref b23), .val (.ref b24), .val (.ref rr)] [(.long x2)])) ?_ fun t k => X44.laload hx (j := (1 : Int32)) (v := (.long x2)) (by rw [e44]; exact Ar45.1) (State.isArrayOf_alike hZ.alike Ar45.2.1) Ar45.2.2 hin45 hat45 (g := (mkF m 154 #[.val (.int x0), .val (.long x1), .second, .val (.long x2), .second, .val (.long x3), .second, .val (.long x4), .second, .val (.int (2 : Int32)), .val (.ref b23), .val (.ref b24), .val (.ref rr)] [(.int (1 : Int32)), (.ref b23)])) rfl rfl (hb hby at_154) t k
    refine own_pre (B := T44.setTop (mkF m 156 #[.val (.int x0), .val (.long x1), .second, .val (.long x2), .second, .val (.long x3), .second, .val (.long x4), .second, .val (.int (2 : Int32)), .val (.ref b23), .val (.ref b24), .val (.ref rr)] [(.long x2), (.long x2)])) ?_ fun t k => XS.lloadN X44.here hx rfl (hb hby at_155) rfl  k
    refine own_pre (B := T44.setTop (mkF m 157 #[.val (.int x0), .val (.long x1), .second, .val (.long x2), .second, .val (.long x3), .second, .val (.long x4), .second, .val (.int (2 : Int32)), .val (.ref b23), .val (.ref b24), .val (.ref rr)] [(.int (lcmpW x2 x2))])) ?_ fun t k => XS.lcmp X44.here hx rfl (hb hby at_156) rfl k
    refine own_pre (B := T44.setTop (mkF m 160 #[.val (.int x0), .val (.long x1), .second, .val (.long x2), .second, .val (.long x3), .second, .val (.long x4), .second, .val (.int (2 : Int32)), .val (.ref b23), .val (.ref b24), .val (.ref rr)] [])) ?_ fun t k => XS.ifNo X44.here hx rfl (hb hby at_157) rfl ((if0 _ _).trans (teq ((lw_eq x2 x2).mpr (rfl : x2 = x2))).2) k
    refine own_pre (B := T44.setTop (mkF m 162 #[.val (.int x0), .val (.long x1), .second, .val (.long x2), .second, .val (.long x3), .second, .val (.long x4), .second, .val (.int (2 : Int32)), .val (.ref b23), .val (.ref b24), .val (.ref rr)] [(.ref b24)])) ?_ fun t k => XS.aload X44.here hx rfl (hb hby at_160) rfl rfl k
    refine own_pre (B := T44.setTop (mkF m 163 #[.val (.int x0), .val (.long x1), .second, .val (.long x2), .second, .val (.long x3), .second, .val (.long x4), .second, .val (.int (2 : Int32)), .val (.ref b23), .val (.ref b24), .val (.ref rr)] [(.int (1 : Int32)), (.ref b24)])) ?_ fun t k => XS.iconst X44.here hx rfl (hb hby at_162) k
    obtain ⟨cl46, Ar46, q46, S46, Nn46, Hh46, Gg46⟩ := id f42
    have hin46 : ¬ ((1 : Int32) < 0 ∨ cl46.slots.size ≤ ((1 : Int32)).toNatClampNeg) := inb_of S46 ⟨by decide, by decide⟩
    have hat46 : cl46.slots[((1 : Int32)).toNatClampNeg]? = some (.long x4) := Hh46.at hin46 rfl
    refine own_pre (B := T44.setTop (mkF m 164 #[.val (.int x0), .val (.long x1), .second, .val (.long x2), .second, .val (.long x3), .second, .val (.long x4), .second, .val (.int (2 : Int32)), .val (.ref b23), .val (.ref b24), .val (.ref rr)] [(.long x4)])) ?_ fun t k => X44.laload hx (j := (1 : Int32)) (v := (.long x4)) (by rw [e44]; exact Ar46.1) (State.isArrayOf_alike hZ.alike Ar46.2.1) Ar46.2.2 hin46 hat46 (g := (mkF m 163 #[.val (.int x0), .val (.long x1), .second, .val (.long x2), .second, .val (.long x3), .second, .val (.long x4), .second, .val (.int (2 : Int32)), .val (.ref b23), .val (.ref b24), .val (.ref rr)] [(.int (1 : Int32)), (.ref b24)])) rfl rfl (hb hby at_163) t k
    refine own_pre (B := T44.setTop (mkF m 166 #[.val (.int x0), .val (.long x1), .second, .val (.long x2), .second, .val (.long x3), .second, .val (.long x4), .second, .val (.int (2 : Int32)), .val (.ref b23), .val (.ref b24), .val (.ref rr)] [(.long x4), (.long x4)])) ?_ fun t k => XS.lload X44.here hx rfl (hb hby at_164) rfl  k
    refine own_pre (B := T44.setTop (mkF m 167 #[.val (.int x0), .val (.long x1), .second, .val (.long x2), .second, .val (.long x3), .second, .val (.long x4), .second, .val (.int (2 : Int32)), .val (.ref b23), .val (.ref b24), .val (.ref rr)] [(.int (lcmpW x4 x4))])) ?_ fun t k => XS.lcmp X44.here hx rfl (hb hby at_166) rfl k
    refine own_pre (B := T44.setTop (mkF m 172 #[.val (.int x0), .val (.long x1), .second, .val (.long x2), .second, .val (.long x3), .second, .val (.long x4), .second, .val (.int (2 : Int32)), .val (.ref b23), .val (.ref b24), .val (.ref rr)] [])) ?_ fun t k => XS.ifYes X44.here hx rfl (pc0 := 167) (pc' := 172) rfl (hb hby at_167) rfl ((if0 _ _).trans (teq ((lw_eq x4 x4).mpr (rfl : x4 = x4))).1) (by decide) (by decide) k
    refine own_pre (B := T44.setTop (mkF m 173 #[.val (.int x0), .val (.long x1), .second, .val (.long x2), .second, .val (.long x3), .second, .val (.long x4), .second, .val (.int (2 : Int32)), .val (.ref b23), .val (.ref b24), .val (.ref rr)] [(.int (1 : Int32))])) ?_ fun t k => XS.iconst X44.here hx rfl (hb hby at_172) k
    refine own_retN X44 hx hlk (t := .boolean) (z' := (1 : Int32)) Bd.returns (by simp) (hb hby at_173) (by decide) ?_ (by decide) (by decide)
    rw [e44]
    exact ⟨rfl, N44⟩
set_option maxRecDepth 65536 in
set_option maxHeartbeats 40000000 in
theorem comes_1 {Post : Tables → Env → Array Value → State → Outcome → State → Prop} (hpost : ∀ tb e args s v u, (limb_1_1.after args s (.returned v) u = true ∧ limb_1_2.after args s (.returned v) u = true ∧ True) → FrameEnd s (.returned v) u (Jvm.fieldLocs frame_1_writes args s ++ Jvm.arrayLocs frame_1_arrays args s ++ Jvm.staticLocs frame_1_statics s) 16 128 → Post tb e args s (.returned v) u) :
    ArmFor flags0 classFile x code maxLocals ret World_1 tables_1 room_1 Calls_1 rest_1 Pre_1 Post := by
  intro l hfl _ _ p e ha hc hk s m args below hf hA hF happ hP
  obtain ⟨hcalls, hrest, hpre⟩ := hP
  obtain ⟨-, -, -, hnamed, -, -, -, hat⟩ := (Spec.applies_iff hf).mp happ
  obtain ⟨hg, hn⟩ := and_e (Cond.before_iff.mp (show (Jvm.Cond.and given_1 narrow_1).before args s = true from hpre))
  obtain ⟨g1, g2⟩ := and_e hg
  obtain ⟨g3, g4⟩ := and_e g2
  obtain ⟨g5, g6⟩ := and_e g4
  obtain ⟨g7, g8⟩ := and_e g6
  obtain ⟨g9, g10⟩ := and_e g8
  obtain ⟨w0, w1, w2, w3, w4, rfl⟩ : ∃ w0 w1 w2 w3 w4 : Value, args = #[w0, w1, w2, w3, w4] := by
    have hs : args.size = 5 := by simpa [Cond.value, given_1] using g1
    obtain ⟨L⟩ := args
    match L, hs with
    | [w0, w1, w2, w3, w4], _ => exact ⟨w0, w1, w2, w3, w4, rfl⟩
  have hw := fun d (hd : d ∈ tables_1) => atoms_spec (ws := Jvm.Cond.code x code maxLocals ret :: tables_1) hat d (List.mem_cons_of_mem _ hd)
  have hfit : Fit s := fun {y c} hc i hi => by
    obtain ⟨ha, rfl⟩ := Array.getElem?_eq_some_iff.mp hc
    have q := List.all_eq_true.mp ((Array.all_eq_true_iff_forall_mem.mp hF) _ (Array.getElem_mem ha)) i (List.mem_range.mpr hi)
    simpa [Array.getElem?_eq_getElem hi] using q
  obtain ⟨i0, ei0⟩ := is_v g3
  obtain rfl : w0 = (.int i0) := Option.some.inj ei0
  obtain ⟨i1, ei1⟩ := isL_v g5
  obtain rfl : w1 = (.long i1) := Option.some.inj ei1
  obtain ⟨i2, ei2⟩ := isL_v g7
  obtain rfl : w2 = (.long i2) := Option.some.inj ei2
  obtain ⟨i3, ei3⟩ := isL_v g9
  obtain rfl : w3 = (.long i3) := Option.some.inj ei3
  obtain ⟨i4, ei4⟩ := isL_v g10
  obtain rfl : w4 = (.long i4) := Option.some.inj ei4
  obtain ⟨n, o, h1, h2, h3, _, L, rfl, ⟨rfl, N⟩, hq⟩ := rm0 l s _ hw tables_1 i0 i1 i2 i3 i4  s.heap s.heap.size (Nat.le_refl _)  p e ha hc hk s m _ below hf ((Spec.applies_iff_loose hf).mp happ).1 ⟨rfl, State.Warmed39.refl s, rfl⟩ trivial
  refine ⟨n, _, h1, h2, h3, hpost _ _ _ _ _ _ ⟨Cond.after_iff.mpr rfl, Cond.after_iff.mpr (eq_i res_at (Term.int_eval (1)) rfl), trivial⟩ ⟨hq.1, hq.2.1, (hq.2.2.sift fun y hy => Or.inr (N y hy)).mono (by decide) (by decide)⟩⟩
theorem main_1_1 : Claimed_1_1 := comes_1 fun _ _ _ _ _ _ h hF => ⟨h.1, hF⟩
theorem main_1_2 : Claimed_1_2 := comes_1 fun _ _ _ _ _ _ h hF => ⟨h.2.1, hF⟩
end Jvm.Pilot.@@N@@
namespace Jvm.Pilot.@@N@@
open Jvm Jvm.ClassFile Sem Op Lib Jvm.Free Jvm.Stand Jvm.Pilot.@@N@@.Jvm.D
/-! MADE BY PROGRAM (witnessworld.py) out of the Statement's table words and the real class files: 11 classes; the members and pool entries that the words name. The judged class is class 1, her method 2. -/
namespace start1
open Jvm.ClassFile
def u (s : String) : CpInfo := .utf8 (stringToUtf16 s)
/-- a pool by its gaps: so many unusable entries, then the entry; so many at the end -/
def gap : Nat → List CpInfo → List CpInfo
  | 0, r => r
  | n + 1, r => .unusable :: gap n r
def poolList (es : List (Nat × CpInfo)) (last : Nat) : List CpInfo := es.foldr (fun e r => gap e.1 (e.2 :: r)) (gap last [])
def pool (es : List (Nat × CpInfo)) (last : Nat) : Array CpInfo := ⟨poolList es last⟩
def fileOf (pool : Array CpInfo) (this : Nat) (attrs : Array Attribute := #[]) (ms : Array MethodInfo := #[]) (fl : Nat := 33) (sup : Nat := 0) (ifs : Array Nat := #[]) (fds : Array FieldInfo := #[]) : ClassFile where
  minorVersion := 0
  majorVersion := 65
  constantPool := pool
  accessFlags := fl
  thisClass := this
  superClass := sup
  interfaces := ifs
  fields := fds
  methods := ms
  attributes := attrs
def plain (name : String) (sup : Option ClassId) : Class where
  name := name
  kind := .ordinary
  loader := none
  accessFlags := 33
  super := sup
  interfaces := #[]
  cf := none
  fields := #[]
  methods := #[]
  instanceTypes := #[]
  staticTypes := #[]
  resolved := #[]
  callSites := []
  init := .initialized
  statics := none
  mirror := none

def pool0 : Array CpInfo := pool [(5, u "<init>"), (0, u "()V"), (1, .class_ 10), (1, u "java/lang/Object")] 113

def k0m0 : Method := { name := "<init>", desc := "()V", sig := { parameters := [], returnType := none }, accessFlags := 1, code := none }
/-- java/lang/Object -/
def k0 : Class := { plain "java/lang/Object" none with
  accessFlags := 33
  interfaces := #[]
  cf := some (fileOf pool0 8 #[] #[{ accessFlags := 1, nameIndex := 5, descriptorIndex := 6, attributes := #[] }] 33 0 #[] #[])
  fields := #[]
  methods := #[k0m0]
  instanceTypes := #[]
  staticTypes := #[]
  resolved := Array.replicate 124 none
  statics := none }

def pool1 : Array CpInfo := pool [(2, .class_ 4), (1, u "java/lang/Object"), (0, u "<init>"), (0, u "()V"), (0, .long 18446744073709551615), (1, .integer 2147483647), (0, .methodref 11 12), (0, .class_ 13), (0, .nameAndType 14 15), (0, u "com/example/nimfield/nimfield/NimWords"), (0, u "xor"), (0, u "([J[J)[J"), (0, .methodref 17 18), (0, .class_ 19), (0, .nameAndType 20 21), (0, u "com/example/nimfield/nimfield/NimWordsXorPinLaw"), (0, u "ref"), (0, u "(JJ)J"), (2, u "law"), (0, u "(IJJJJ)Z")] 5

def k1m0 : Method := { name := "<init>", desc := "()V", sig := { parameters := [], returnType := none }, accessFlags := 1, code := none }
def k1c1 : Code := { maxStack := 6, maxLocals := 4, code := method_2_code, exceptionTable := #[], attributes := #[] }
def k1m1 : Method := { name := "ref", desc := "(JJ)J", sig := { parameters := [.long, .long], returnType := some .long }, accessFlags := 10, code := some k1c1 }
def k1c2 : Code := { maxStack := 6, maxLocals := 13, code := code, exceptionTable := #[], attributes := #[] }
def k1m2 : Method := { name := "law", desc := "(IJJJJ)Z", sig := { parameters := [.int, .long, .long, .long, .long], returnType := some .boolean }, accessFlags := 9, code := some k1c2 }
/-- com/example/nimfield/nimfield/NimWordsXorPinLaw -/
def k1 : Class := { plain "com/example/nimfield/nimfield/NimWordsXorPinLaw" (some 0) with
  accessFlags := 49
  interfaces := #[]
  cf := some (fileOf pool1 17 #[] #[{ accessFlags := 1, nameIndex := 5, descriptorIndex := 6, attributes := #[] }, { accessFlags := 10, nameIndex := 20, descriptorIndex := 21, attributes := #[] }, { accessFlags := 9, nameIndex := 24, descriptorIndex := 25, attributes := #[] }] 49 2 #[] #[])
  fields := #[]
  methods := #[k1m0, k1m1, k1m2]
  instanceTypes := #[]
  staticTypes := #[]
  resolved := Array.replicate 31 none
  statics := none }

def pool2 : Array CpInfo := pool [(2, .class_ 4), (1, u "java/lang/Object"), (0, u "<init>"), (0, u "()V"), (7, .class_ 16), (1, u "com/example/nimfield/nimfield/NimWords"), (11, .class_ 30), (1, u "com/example/nimfield/nimfield/NimWords$WordOperation"), (27, u "Ljava/math/BigInteger;"), (62, u "TWO_TO_64"), (14, u "WORD_LEVEL"), (0, u "I"), (17, u "([J[J)[J"), (0, u "xor")] 8

def k2m0 : Method := { name := "<init>", desc := "()V", sig := { parameters := [], returnType := none }, accessFlags := 2, code := none }
def k2c1 : Code := { maxStack := 6, maxLocals := 4, code := prog_13_method_14_code, exceptionTable := #[], attributes := #[] }
def k2m1 : Method := { name := "xor", desc := "([J[J)[J", sig := { parameters := [(.array .long), (.array .long)], returnType := some (.array .long) }, accessFlags := 8, code := some k2c1 }
/-- com/example/nimfield/nimfield/NimWords -/
def k2 : Class := { plain "com/example/nimfield/nimfield/NimWords" (some 0) with
  accessFlags := 48
  interfaces := #[]
  cf := some (fileOf pool2 14 #[.nestMembers #[28]] #[{ accessFlags := 2, nameIndex := 5, descriptorIndex := 6, attributes := #[] }, { accessFlags := 8, nameIndex := 156, descriptorIndex := 155, attributes := #[] }] 48 2 #[] #[{ accessFlags := 24, nameIndex := 136, descriptorIndex := 137, attributes := #[] }, { accessFlags := 26, nameIndex := 121, descriptorIndex := 58, attributes := #[] }])
  fields := #[{ name := "WORD_LEVEL", type := .int, accessFlags := 24, slot := 0, constantValue := 0 }, { name := "TWO_TO_64", type := (.object "java/math/BigInteger"), accessFlags := 26, slot := 1, constantValue := 0 }]
  methods := #[k2m0, k2m1]
  instanceTypes := #[]
  staticTypes := #[.int, (.object "java/math/BigInteger")]
  resolved := Array.replicate 165 none
  statics := none }

def pool3 : Array CpInfo := pool [(1, u "java/lang/Cloneable"), (0, .class_ 1), (0, u "java/lang/Object"), (0, .class_ 3)] 3

/-- java/lang/Cloneable -/
def k3 : Class := { plain "java/lang/Cloneable" (some 0) with
  accessFlags := 1537
  interfaces := #[]
  cf := some (fileOf pool3 2 #[] #[] 1537 4 #[] #[])
  fields := #[]
  methods := #[]
  instanceTypes := #[]
  staticTypes := #[]
  resolved := Array.replicate 8 none
  statics := none }

def pool4 : Array CpInfo := pool [(1, u "java/io/Serializable"), (0, .class_ 1), (0, u "java/lang/Object"), (0, .class_ 3)] 3

/-- java/io/Serializable -/
def k4 : Class := { plain "java/io/Serializable" (some 0) with
  accessFlags := 1537
  interfaces := #[]
  cf := some (fileOf pool4 2 #[] #[] 1537 4 #[] #[])
  fields := #[]
  methods := #[]
  instanceTypes := #[]
  staticTypes := #[]
  resolved := Array.replicate 8 none
  statics := none }

/-- the primitive byte -/
def k5 : Class := { plain "byte" none with kind := .primitive 'B', accessFlags := 0x411 }
/-- [B -/
def k6 : Class := { plain "[B" (some 0) with kind := .array 5 .byte, interfaces := #[3, 4], accessFlags := 1041 }

/-- the primitive int -/
def k7 : Class := { plain "int" none with kind := .primitive 'I', accessFlags := 0x411 }
/-- [I -/
def k8 : Class := { plain "[I" (some 0) with kind := .array 7 .int, interfaces := #[3, 4], accessFlags := 1041 }

/-- the primitive long -/
def k9 : Class := { plain "long" none with kind := .primitive 'J', accessFlags := 0x411 }
/-- [J -/
def k10 : Class := { plain "[J" (some 0) with kind := .array 9 .long, interfaces := #[3, 4], accessFlags := 1041 }

def heap : Heap := #[]
def classes : Array Class := #[k0, k1, k2, k3, k4, k5, k6, k7, k8, k9, k10]
def interned : List (Array UInt16 × Addr) := []
def slotsUsed : Nat := 0
def theMethod : MethodId := ⟨1, 2⟩
def args0 : Array Value := #[.int 2, .long 1, .long 2, .long 3, .long 4]
def aboutOver (below : List Frame) : State where
  vm := { classes := classes, interned := interned.toArray }
  heap := heap
  slotsUsed := slotsUsed
  threads := #[{ frames := .invoking theMethod args0 :: below }]
def below0 : List Frame := [.native { method := ⟨0, 0⟩, args := #[] }]
def about1 : State := aboutOver below0
def p0 : Program := .bare "" "" ""
def e0 : Env := launch0.env 0 0 0
theorem w_frames : about1.frames = Frame.invoking theMethod args0 :: below0 := rfl
set_option maxRecDepth 65536 in
theorem w_args : argsFit about1.vm theMethod args0 = true := by decide +kernel
set_option maxRecDepth 65536 in
theorem w_heap : heapFits about1 = true := by decide +kernel
set_option maxRecDepth 65536 in
theorem w_runnable : about1.curStatus? = some .runnable := by decide +kernel
set_option maxRecDepth 65536 in
theorem w_alone : about1.alone = true := by decide +kernel
set_option maxRecDepth 65536 in
theorem w_named : about1.methodNamed? x = some theMethod := by decide +kernel
set_option maxRecDepth 65536 in
theorem w_hears : about1.hears theMethod below0 = true := by decide +kernel
set_option maxRecDepth 65536 in
theorem w_ripe : about1.ripe theMethod args0 below0 = true := by decide +kernel
theorem w_running : about1.status = .running := rfl
set_option maxRecDepth 65536 in
theorem w_room : about1.hasRoom e0.platform room_1 = true :=
  launch0.hasRoom_least _ room_1 (by decide +kernel) (by decide +kernel) (by decide +kernel) (by decide +kernel) (by decide +kernel) (by decide +kernel)
theorem allAtoms_all (ts : List Jvm.Cond) (a : Array Jvm.Value) (st : Jvm.State) : (allAtoms ts).before a st = ts.all (fun c => c.before a st) := by
  induction ts with
  | nil => rfl
  | cons c t ih =>
    show (Jvm.Cond.and c (allAtoms t)).before a st = _
    rw [Jvm.Cond.before_and, ih, List.all_cons]
def words1 : List Jvm.Cond := Jvm.Cond.code x code maxLocals ret :: tables_1
/-- a 'code' word, met by the world's own term for the bytes: nothing is compared byte by byte -/
theorem code_word {y : MethodName} {bytes : ByteArray} {mx : Nat} {rt : Option FieldType} {a : Array Value} {s : State} {m : MethodId} {meth : Method} {c : Code} (h1 : s.methodNamed? y = some m) (h2 : s.vm.method? m = some meth) (h3 : meth.code = some c) (h4 : c.code = bytes)
    (h5 : (c.maxLocals == mx && c.exceptionTable.isEmpty && decide (c.maxStack ≤ mostOperands) && decide (meth.sig.returnType = rt) && !meth.locks && decide (parseMethodDescriptor y.desc = some meth.sig)) = true) : (Jvm.Cond.code y bytes mx rt).before a s = true := by
  simp only [Bool.and_eq_true, beq_iff_eq, Bool.not_eq_true', decide_eq_true_eq] at h5
  obtain ⟨⟨⟨⟨⟨g1, g2⟩, g3⟩, g4⟩, g5⟩, g6⟩ := h5
  simp [Cond.before, Cond.holds, Cond.value, h1, h2, h3, h4, g1, g2, g3, g4, g5, g6]
def isCode : Jvm.Cond → Bool
  | .code _ _ _ _ => true
  | _ => false
theorem all_split {L : List Jvm.Cond} {P : Jvm.Cond → Bool} (h1 : L.all (fun c => isCode c || P c) = true) (h2 : ∀ c ∈ L.filter isCode, P c = true) : L.all P = true := by
  refine List.all_eq_true.mpr fun c hc => ?_
  have h := List.all_eq_true.mp h1 c hc
  rcases Bool.eq_false_or_eq_true (isCode c) with hi | hi
  · exact h2 c (List.mem_filter.mpr ⟨hc, hi⟩)
  · simpa [hi] using h
set_option maxRecDepth 65536 in
theorem w_c0 : (Jvm.Cond.code x code maxLocals ret).before args0 about1 = true := code_word (m := ⟨1, 2⟩) (meth := k1m2) (c := k1c2) (by decide +kernel) rfl rfl rfl (by decide +kernel)
set_option maxRecDepth 65536 in
theorem w_c1 : (Jvm.Cond.code ({ cls := "com/example/nimfield/nimfield/NimWords", name := "xor", desc := "([J[J)[J" } : Jvm.MethodName) prog_13_method_14_code (4 : Nat) (Option.some (Jvm.ClassFile.FieldType.array Jvm.ClassFile.FieldType.long))).before args0 about1 = true := code_word (m := ⟨2, 1⟩) (meth := k2m1) (c := k2c1) (by decide +kernel) rfl rfl rfl (by decide +kernel)
set_option maxRecDepth 65536 in
theorem w_c2 : (Jvm.Cond.code ({ cls := "com/example/nimfield/nimfield/NimWordsXorPinLaw", name := "ref", desc := "(JJ)J" } : Jvm.MethodName) method_2_code (4 : Nat) (Option.some Jvm.ClassFile.FieldType.long)).before args0 about1 = true := code_word (m := ⟨1, 1⟩) (meth := k1m1) (c := k1c1) (by decide +kernel) rfl rfl rfl (by decide +kernel)
def codes1 : List Jvm.Cond := [Jvm.Cond.code x code maxLocals ret, Jvm.Cond.code ({ cls := "com/example/nimfield/nimfield/NimWords", name := "xor", desc := "([J[J)[J" } : Jvm.MethodName) prog_13_method_14_code (4 : Nat) (Option.some (Jvm.ClassFile.FieldType.array Jvm.ClassFile.FieldType.long)), Jvm.Cond.code ({ cls := "com/example/nimfield/nimfield/NimWordsXorPinLaw", name := "ref", desc := "(JJ)J" } : Jvm.MethodName) method_2_code (4 : Nat) (Option.some Jvm.ClassFile.FieldType.long)]
set_option maxRecDepth 65536 in
theorem codes_eq : words1.filter isCode = codes1 := rfl
theorem w_codes : ∀ c ∈ words1.filter isCode, c.before args0 about1 = true := by
  rw [codes_eq]
  intro c hc
  simp only [codes1, List.mem_cons, List.not_mem_nil, or_false] at hc
  rcases hc with rfl | rfl | rfl
  · exact w_c0
  · exact w_c1
  · exact w_c2
set_option maxRecDepth 65536 in
theorem w_t1 : words1.all (fun c => isCode c || c.before args0 about1) = true := by decide +kernel
theorem w_tables : (allAtoms (Jvm.Cond.code x code maxLocals ret :: tables_1)).before args0 about1 = true := by
  rw [allAtoms_all]
  show words1.all (fun c => c.before args0 about1) = true
  refine all_split ?_ w_codes
  rw [w_t1]
set_option maxRecDepth 65536 in
theorem w_case : (Jvm.Cond.and given_1 narrow_1).before args0 about1 = true := by decide +kernel
theorem w_applies : (headSpec (Jvm.Cond.code x code maxLocals ret :: tables_1) room_1).applies x e0.platform about1 = true :=
  (Spec.applies_iff w_frames).mpr ⟨w_running, w_runnable, w_alone, w_named, w_hears, w_ripe, w_room, w_tables⟩
theorem atStart : AtStart classFile x code maxLocals ret World_1 tables_1 room_1 Calls_1 rest_1 Pre_1 launch0 p0 e0 about1 theMethod args0 below0 :=
  ⟨lists_1, trivial, launch0.admits_env _ _ _, launch0.least_env, fairChoices_fair.cas, fairChoices_fair.clock, w_frames, w_args, w_heap, w_applies, trivial, trivial, w_case⟩
end start1
theorem witness_1 : WitnessClaimed_1 := ⟨start1.p0, start1.e0, start1.about1, start1.theMethod, start1.args0, start1.below0, start1.atStart⟩
end Jvm.Pilot.@@N@@
