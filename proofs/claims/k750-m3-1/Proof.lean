import JvmDerived
import JvmDerived.Pilot.@@N@@Statement
import JvmDerived.Pilot.@@N@@Code
set_option linter.unusedVariables false
set_option linter.unusedSimpArgs false
namespace Jvm.Pilot.@@N@@
open Jvm Jvm.ClassFile Sem Op Lib Jvm.Free Jvm.Stand Jvm.LawKit Jvm.RoadKit Bundle Jvm.Pilot.@@N@@.Jvm.D
section Own
variable {p : Program} {l : Launch} {e : Env} {R : Room} {s : State} {m : MethodId} {args : Array Value} {below : List Frame} {meth : Method} {c : Code} {T : State} {locs : List Loc} {cells slots : Nat} {Z : State} {a0 : Array Value} {h : Heap}
/-- from the state A the body ends as Q says, with at most C cells and S slots made -/
def own_E (p : Program) (e : Env) (below : List Frame) (s : State) (Q : Option Value → Heap → List Loc → Prop) (C S : Nat) (A : State) : Prop :=
  ∃ s₂ o, Steps p.tables e below A s₂ ∧ s₂.status = .running ∧ Ended s₂ below o ∧ ∃ v L, o = .returned v ∧ Q v s₂.heap L ∧ FrameEnd s o s₂ L C S
theorem own_pre {Q : Option Value → Heap → List Loc → Prop} {C S : Nat} {A B : State} (h : own_E p e below s Q C S B) (k : ∀ t, Steps p.tables e below B t → Steps p.tables e below A t) : own_E p e below s Q C S A := by
  obtain ⟨s₂, o, h1, h2⟩ := h
  exact ⟨s₂, o, k _ h1, h2⟩
theorem own_out {Q : Option Value → Heap → List Loc → Prop} {C S : Nat} {A : State} (X : Stand p l e R s m args below meth c T locs cells slots) (hk : meth.locks = false) {v : Option Value} (hv : meth.sig.returnType = none → v = none)
    (st : ∀ fs, (∀ (f : JFrame) (acts : List Action), f.method = m → f.locked = none → f.entered = [] → (doReturn e (T.setTop f) acts v).1 = T.setFrames fs) → Steps p.tables e below A (T.setFrames fs))
    (hQ : Q v T.heap locs) (hc : cells ≤ C) (hs : slots ≤ S) : own_E p e below s Q C S A := by
  obtain ⟨fs, hr, hrun, hended, hW, hsame⟩ := X.leave (v := v) hv hk
  exact ⟨_, _, st fs hr, hrun, hended, _, _, rfl, hQ, ⟨_, rfl⟩, hW, hsame.mono hc hs⟩
theorem own_retN {Q : Option Value → Heap → List Loc → Prop} {C S : Nat} (X : Stand p l e R s m args below meth c T locs cells slots) (hx : p.tables.exec = Jvm.exec) (hk : meth.locks = false) {t : FieldType} {pc : Nat} {Ls : Array Slot} {z z' : Int32} {rest : List Value} (hret : meth.sig.returnType = some t) (ht : t = .boolean ∨ t = .byte ∨ t = .char ∨ t = .short) (hd : decode c.code pc = .ok (.ireturn, 1)) (hn : nar t z = z')
    (hQ : Q (some (.int z')) T.heap locs) (hc : cells ≤ C) (hs : slots ≤ S) : own_E p e below s Q C S (T.setTop (mkF m pc Ls (.int z :: rest))) := by
  subst hn
  exact own_out X hk (fun h => by rw [hret] at h; cases h) (fun fs hr => retN X hx hret ht hd hr) hQ hc hs
theorem own_retI {Q : Option Value → Heap → List Loc → Prop} {C S : Nat} (X : Stand p l e R s m args below meth c T locs cells slots) (hx : p.tables.exec = Jvm.exec) (hk : meth.locks = false) {pc : Nat} {Ls : Array Slot} {z : Int32} {rest : List Value} (hret : meth.sig.returnType = some .int) (hd : decode c.code pc = .ok (.ireturn, 1))
    (hQ : Q (some (.int z)) T.heap locs) (hc : cells ≤ C) (hs : slots ≤ S) : own_E p e below s Q C S (T.setTop (mkF m pc Ls (.int z :: rest))) :=
  own_out X hk (fun h => by rw [hret] at h; cases h) (fun fs hr => retOut X hx hret rfl (Or.inl ⟨rfl, Or.inl rfl, z, rfl⟩) hd hr) hQ hc hs
theorem own_retJ {Q : Option Value → Heap → List Loc → Prop} {C S : Nat} (X : Stand p l e R s m args below meth c T locs cells slots) (hx : p.tables.exec = Jvm.exec) (hk : meth.locks = false) {pc : Nat} {Ls : Array Slot} {z : Int64} {rest : List Value} (hret : meth.sig.returnType = some .long) (hd : decode c.code pc = .ok (.lreturn, 1))
    (hQ : Q (some (.long z)) T.heap locs) (hc : cells ≤ C) (hs : slots ≤ S) : own_E p e below s Q C S (T.setTop (mkF m pc Ls (.long z :: rest))) :=
  own_out X hk (fun h => by rw [hret] at h; cases h) (fun fs hr => retOut X hx hret rfl (Or.inr (Or.inl ⟨rfl, rfl, z, rfl⟩)) hd hr) hQ hc hs
theorem own_nar_ref {t : FieldType} {w : Value} (hw : w.isRef = true) (ht : t.isReference = true) : narrow t w = w := by
  rcases ref_cases hw with rfl | ⟨z, rfl⟩ <;> cases t <;> first | rfl | (cases ht; done)
theorem own_fit_ref {t : FieldType} {w : Value} (hw : w.isRef = true) (ht : t.isReference = true) : fits t w = true := by
  rcases ref_cases hw with rfl | ⟨z, rfl⟩ <;> cases t <;> first | rfl | (cases ht; done)
theorem own_retA {Q : Option Value → Heap → List Loc → Prop} {C S : Nat} (X : Stand p l e R s m args below meth c T locs cells slots) (hx : p.tables.exec = Jvm.exec) (hk : meth.locks = false) {t : FieldType} {pc : Nat} {Ls : Array Slot} {w : Value} {rest : List Value} (hret : meth.sig.returnType = some t) (ht : t.isReference = true) (hw : w.isRef = true) (hd : decode c.code pc = .ok (.areturn, 1))
    (hQ : Q (some w) T.heap locs) (hc : cells ≤ C) (hs : slots ≤ S) : own_E p e below s Q C S (T.setTop (mkF m pc Ls (w :: rest))) :=
  own_out X hk (fun h => by rw [hret] at h; cases h) (fun fs hr => retOut X hx hret (own_nar_ref hw ht) (Or.inr (Or.inr (Or.inr (Or.inr ⟨rfl, ht, hw⟩)))) hd hr) hQ hc hs
theorem own_retV {Q : Option Value → Heap → List Loc → Prop} {C S : Nat} (X : Stand p l e R s m args below meth c T locs cells slots) (hx : p.tables.exec = Jvm.exec) (hk : meth.locks = false) {pc : Nat} {Ls : Array Slot} (hret : meth.sig.returnType = none) (hd : decode c.code pc = .ok (.return_, 1))
    (hQ : Q none T.heap locs) (hc : cells ≤ C) (hs : slots ≤ S) : own_E p e below s Q C S (T.setTop (mkF m pc Ls [])) :=
  own_out X hk (fun _ => rfl) (fun fs hr => X.returnOut hx hret hd hr) hQ hc hs
theorem own_lrem {g : JFrame} {target : State} (X : Stand p l e R s m args below meth c T locs cells slots) (hx : p.tables.exec = Jvm.exec) (hg : g.method = m) {x y : Int64} {rest : List Value} (hd : decode c.code g.pc = .ok (.lrem, 1)) (hs : g.stack = .long y :: .long x :: rest) (hy : y ≠ 0)
    (hr : Steps p.tables e below (T.setTop { g with pc := g.pc + 1, stack := .long (x % y) :: rest }) target) : Steps p.tables e below (T.setTop g) target :=
  XS.lrem X.here hx hg hd hs hy (by rw [lrem_mod]; exact hr)
end Own
section OwnArr
variable {Z : State} {h h' : Heap} {a b : Addr} {ty : FieldType} {n : Nat} {g : Nat → Value} {ws : List Addr} {sl : Nat} {v : Value}
/-- in heap h the array at b, of the kind ty, has n places; the place i holds g i -/
def own_FA (Z : State) (h : Heap) (b : Addr) (ty : FieldType) (n : Nat) (g : Nat → Value) : Prop := n < 2 ^ 31 ∧ ∃ c : Cell, Arr Z h b c ty ∧ c.slots.size = n ∧ ∀ i, i < n → c.slots[i]? = some (g i)
theorem own_FA.lt (F : own_FA Z h b ty n g) : b < h.size := by obtain ⟨_, c, A, -⟩ := F; exact A.lt
theorem own_FA.ext (F : own_FA Z h b ty n g) (E : Ext h h') : own_FA Z h' b ty n g := by obtain ⟨q, c, A, r⟩ := F; exact ⟨q, c, A.ext E, r⟩
theorem own_FA.other (F : own_FA Z h b ty n g) (W : Wr h h' a sl v) (q : b ≠ a) : own_FA Z h' b ty n g := by obtain ⟨q', c, A, r⟩ := F; exact ⟨q', c, A.other W q, r⟩
theorem own_FA.keep (F : own_FA Z h b ty n g) (K : Keep h h' ws) (q : b ∉ ws) : own_FA Z h' b ty n g := by obtain ⟨q', c, A, r⟩ := F; exact ⟨q', c, ⟨K.2.1 _ _ A.1 q, A.2⟩, r⟩
theorem own_FA.set (F : own_FA Z h b ty n g) (W : Wr h h' b sl v) : own_FA Z h' b ty n (fun i => if i = sl then v else g i) := by
  obtain ⟨q, c, A, S, H⟩ := F
  have A' := A.same W
  obtain ⟨cell, h1, h2, h3, -⟩ := W
  cases A.1.symm.trans h1
  refine ⟨q, _, A', by rw [sz_set]; exact S, fun i hi => ?_⟩
  by_cases e : i = sl
  · subst e; simp [Cell.setSlot, S, hi]
  · simp only [Cell.setSlot, e, if_false]
    rw [Array.getElem?_setIfInBounds_ne (Ne.symm e)]; exact H i hi
theorem own_FA.new {k : ClassId} {z : Int32} (A : Arr Z h b (newA k ty z) ty) (q : ¬ z < 0) : own_FA Z h b ty z.toNatClampNeg (fun _ => defaultValue ty) := by
  refine ⟨(back32 q).2, _, A, sz_new _ _ _, fun i hi => by simp [newA, hi]⟩
theorem own_FA.eq {g' : Nat → Value} (F : own_FA Z h b ty n g) (e : ∀ i, i < n → g i = g' i) : own_FA Z h b ty n g' := by obtain ⟨q, c, A, S, H⟩ := F; exact ⟨q, c, A, S, fun i hi => by rw [← e i hi]; exact H i hi⟩
def own_up {α : Type} (f : Nat → α) (j : Nat) (x : α) : Nat → α := fun i => if i = j then x else f i
theorem own_FA.setJ {f : Nat → Int64} {x : Int64} (F : own_FA Z h b ty n (fun i => .long (f i))) (W : Wr h h' b sl (.long x)) : own_FA Z h' b ty n (fun i => .long (own_up f sl x i)) :=
  (F.set W).eq fun i _ => by by_cases e : i = sl <;> simp [own_up, e]
theorem own_FA.setI {f : Nat → Int32} {x : Int32} (F : own_FA Z h b ty n (fun i => .int (f i))) (W : Wr h h' b sl (.int x)) : own_FA Z h' b ty n (fun i => .int (own_up f sl x i)) :=
  (F.set W).eq fun i _ => by by_cases e : i = sl <;> simp [own_up, e]
theorem own_hin {c : Cell} {j : Int32} {i : Nat} (S : c.slots.size = n) (cl : j.toNatClampNeg = i) (hn : ¬ j < 0) (hi : i < n) : ¬ (j < 0 ∨ c.slots.size ≤ j.toNatClampNeg) := by
  rw [S, cl]; exact fun q => q.elim hn fun q => absurd hi (Nat.not_lt.mpr q)
theorem own_hat {c : Cell} {j : Int32} {i : Nat} (H : ∀ i, i < n → c.slots[i]? = some (g i)) (cl : j.toNatClampNeg = i) (hi : i < n) : c.slots[j.toNatClampNeg]? = some (g i) := by
  rw [cl]; exact H i hi
theorem own_i1 {i : Nat} (hi : i < 2 ^ 31) : (Int32.ofNat i).toInt = (i : Int) := toInt_of rfl hi
theorem own_ic {i : Nat} (hi : i < 2 ^ 31) : (Int32.ofNat i).toNatClampNeg = i := clamp_of rfl hi
theorem own_in0 {i : Nat} (hi : i < 2 ^ 31) : ¬ (Int32.ofNat i) < 0 := by rw [Int32.lt_iff_toInt_lt, own_i1 hi]; simp only [Int32.reduceToInt]; omega
theorem own_selfsel {s : State} {args : Array Value} {y z : MethodName} (hz : z.cls = y.cls) (nf : NotFace s z) (hzi : (Cond.instanceMethod z).before args s = true) (hpriv : s.PrivateAt y) (hinst : (Cond.instanceMethod y).before args s = true) (hy : y.cls ≠ "java/lang/invoke/MethodHandle" ∧ y.cls ≠ "java/lang/invoke/VarHandle") : (Cond.selects y.cls y y).before args s = true := by
  obtain ⟨mk, methM, hnamed, -⟩ := Cond.instanceMethod_spec hzi
  obtain ⟨k, hk, hni⟩ := nf mk hnamed
  have hc := findClass_of_methodNamed hnamed
  rw [hz] at hc
  exact selects_self_of_private hc hk hni hpriv hinst hy
end OwnArr

theorem own_olt {i n : Nat} (hi : i < 2 ^ 31) (hn : n < 2 ^ 31) : Int32.ofNat i < Int32.ofNat n ↔ i < n := by
  rw [Int32.lt_iff_toInt_lt, own_i1 hi, own_i1 hn]; omega
theorem own_FA.ofArv {Z : State} {h : Heap} {a : Addr} {k : ClassId} {z : Int32} {vs : List Int64} (F : Arv Z h a k .long z (vs.map Value.long) (.long 0)) : own_FA Z h a .long z.toNatClampNeg (fun i => .long (vs.getD i 0)) := by
  obtain ⟨c, A, -, S, M, H, -⟩ := F
  refine ⟨(back32 M).2, c, A, S, fun i hi => ?_⟩
  rw [H i (by omega)]
  simp only [List.getD_eq_getElem?_getD, List.getElem?_map]
  cases vs[i]? <;> rfl
def own_az (f : Nat → Int64) (i : Nat) : Nat → Int32
  | 0 => 1
  | k + 1 => if f i = (0 : Int64) then own_az f (i + 1) k else 0
theorem d1_0 : decode method_3_code 0 = .ok (.iload_n 2, 1) := by decide +kernel
theorem d1_1 : decode method_3_code 1 = .ok (.iload_n 3, 1) := by decide +kernel
theorem d1_2 : decode method_3_code 2 = .ok (.if_icmp .lt 17, 3) := by decide +kernel
theorem d1_19 : decode method_3_code 19 = .ok (.iconst 1, 1) := by decide +kernel
theorem d1_20 : decode method_3_code 20 = .ok (.goto 4, 3) := by decide +kernel
theorem d1_24 : decode method_3_code 24 = .ok (.ireturn, 1) := by decide +kernel
theorem d1_5 : decode method_3_code 5 = .ok (.iload_n 2, 1) := by decide +kernel
theorem d1_6 : decode method_3_code 6 = .ok (.iload_n 3, 1) := by decide +kernel
theorem d1_7 : decode method_3_code 7 = .ok (.iload 4, 2) := by decide +kernel
theorem d1_9 : decode method_3_code 9 = .ok (.iadd, 1) := by decide +kernel
theorem d1_10 : decode method_3_code 10 = .ok (.if_icmp .ge 9, 3) := by decide +kernel
theorem d1_13 : decode method_3_code 13 = .ok (.lload_n 0, 1) := by decide +kernel
theorem d1_14 : decode method_3_code 14 = .ok (.lconst 0, 1) := by decide +kernel
theorem d1_15 : decode method_3_code 15 = .ok (.lcmp, 1) := by decide +kernel
theorem d1_16 : decode method_3_code 16 = .ok (.ifCond .ne 7, 3) := by decide +kernel
theorem d1_23 : decode method_3_code 23 = .ok (.iconst 0, 1) := by decide +kernel
def own_ok (x0 : Int64) (x1 : Int32) (x2 : Int32) (x3 : Int32) : Int32 := (if x1 < x2 then (1 : Int32) else (if x1 < (x2 + x3) then (if x0 = (0 : Int64) then (1 : Int32) else (0 : Int32)) else (1 : Int32)))
theorem pn_com_example_nimfield_nimfield_NimWordsIsZeroPinLaw : plainName "com/example/nimfield/nimfield/NimWordsIsZeroPinLaw" = true := by first | (simp [plainName, overriddenIn]; done) | decide +kernel
set_option maxHeartbeats 4000000 in
theorem ef_1 (m : MethodId) (x0 : Int64) (x1 : Int32) (x2 : Int32) (x3 : Int32) : entryFrame m #[(.long x0), (.int x1), (.int x2), (.int x3)] 5 = mkF m 0 #[.val (.long x0), .second, .val (.int x1), .val (.int x2), .val (.int x3)] [] := by first | (simp [entryFrame, mkF, argsToLocals, Value.category]; done) | rfl
def Q1 (Z : State) (x0 : Int64) (x1 : Int32) (x2 : Int32) (x3 : Int32) (h0 : Heap) (n0 : Nat) (v : Option Value) (h : Heap) (L : List Loc) : Prop := v = some (.int (own_ok x0 x1 x2 x3)) ∧ Fr n0 L ∧ h = h0
set_option maxRecDepth 65536 in
set_option maxHeartbeats 40000000 in
theorem rm1 (l : Launch) (Z : State) (a0 : Array Value) (hw : ∀ d ∈ tables_1, d.before a0 Z = true) (ws : List Jvm.Cond) (x0 : Int64) (x1 : Int32) (x2 : Int32) (x3 : Int32) (h0 : Heap) (n0 : Nat) (Z0 : n0 ≤ h0.size) :
    MetFree l (⟨"com/example/nimfield/nimfield/NimWordsIsZeroPinLaw", "ok", "(JIII)Z"⟩ : MethodName) (head1 (Jvm.Cond.code (⟨"com/example/nimfield/nimfield/NimWordsIsZeroPinLaw", "ok", "(JIII)Z"⟩ : MethodName) method_3_code 5 (some .boolean) :: ws) ({ frames := 0, cells := 0, slots := 0, locals := 0 } : Room)) (fun a U => a = #[(.long x0), (.int x1), (.int x2), (.int x3)] ∧ Z.Warmed39 U.vm ∧ U.heap = h0) (fun _ _ _ _ _ => True) (fun _ U o U' => ∃ v L, o = .returned v ∧ Q1 Z x0 x1 x2 x3 h0 n0 v U'.heap L ∧ FrameEnd U o U' L ({ frames := 0, cells := 0, slots := 0, locals := 0 } : Room).cells ({ frames := 0, cells := 0, slots := 0, locals := 0 } : Room).slots) := by
  refine MetFree.of_bodySF (plainFor_of_name pn_com_example_nimfield_nimfield_NimWordsIsZeroPinLaw) hisR ?_
  intro p e s m args below meth c s₁ Bd hml0 hP hK
  obtain ⟨rfl, hZ, hh⟩ := hP
  have hx := Bd.exec
  have hby := Bd.bytes
  have hml : c.maxLocals = 5 := hml0
  have hown : s.vm.findClass "com/example/nimfield/nimfield/NimWordsIsZeroPinLaw" = some m.cls := findClass_of_methodNamed Bd.named
  have hnm := (name_of_methodNamed Bd.named Bd.method).1
  have hlk : meth.locks = false := BodyLoose.notSynchronized Bd
  have X0 : Stand p l e ({ frames := 0, cells := 0, slots := 0, locals := 0 } : Room) s m #[(.long x0), (.int x1), (.int x2), (.int x3)] below meth c s₁ [] 0 0 := Stand.of_body Bd
  have e0 : s₁.heap = h0 := by rw [← hh, Bd.state]; rfl
  have N0 := Fr.nil n0
  show own_E p e below s (Q1 Z x0 x1 x2 x3 h0 n0) 0 0 (s₁.setTop (entryFrame m #[(.long x0), (.int x1), (.int x2), (.int x3)] 5))
  refine own_pre (B := s₁.setTop (mkF m 0 #[.val (.long x0), .second, .val (.int x1), .val (.int x2), .val (.int x3)] [])) ?_ (fun t k => castTop (ef_1 m x0 x1 x2 x3) k)
  refine own_pre (B := s₁.setTop (mkF m 1 #[.val (.long x0), .second, .val (.int x1), .val (.int x2), .val (.int x3)] [(.int x1)])) ?_ fun t k => XS.iloadN X0.here hx rfl (hb hby d1_0) rfl  k
  refine own_pre (B := s₁.setTop (mkF m 2 #[.val (.long x0), .second, .val (.int x1), .val (.int x2), .val (.int x3)] [(.int x2), (.int x1)])) ?_ fun t k => XS.iloadN X0.here hx rfl (hb hby d1_1) rfl  k
  by_cases h2_1 : x1 < x2
  · skip
    refine own_pre (B := s₁.setTop (mkF m 19 #[.val (.long x0), .second, .val (.int x1), .val (.int x2), .val (.int x3)] [])) ?_ fun t k => XS.icmpYes X0.here hx rfl (pc0 := 2) (pc' := 19) rfl (hb hby d1_2) rfl (tlt h2_1).1 (by decide) (by decide) k
    refine own_pre (B := s₁.setTop (mkF m 20 #[.val (.long x0), .second, .val (.int x1), .val (.int x2), .val (.int x3)] [(.int (1 : Int32))])) ?_ fun t k => XS.iconst X0.here hx rfl (hb hby d1_19) k
    refine own_pre (B := s₁.setTop (mkF m 24 #[.val (.long x0), .second, .val (.int x1), .val (.int x2), .val (.int x3)] [(.int (1 : Int32))])) ?_ fun t k => XS.goto X0.here hx rfl (pc0 := 20) (pc' := 24) rfl (hb hby d1_20) (by decide) (by decide) k
    refine own_retN X0 hx hlk (t := .boolean) (z' := (1 : Int32)) Bd.returns (by simp) (hb hby d1_24) (by decide) ?_ (by decide) (by decide)
    rw [e0]
    exact ⟨by rw [own_ok, if_pos h2_1], N0, rfl⟩
  · skip
    refine own_pre (B := s₁.setTop (mkF m 5 #[.val (.long x0), .second, .val (.int x1), .val (.int x2), .val (.int x3)] [])) ?_ fun t k => XS.icmpNo X0.here hx rfl (hb hby d1_2) rfl (flt h2_1).1 k
    refine own_pre (B := s₁.setTop (mkF m 6 #[.val (.long x0), .second, .val (.int x1), .val (.int x2), .val (.int x3)] [(.int x1)])) ?_ fun t k => XS.iloadN X0.here hx rfl (hb hby d1_5) rfl  k
    refine own_pre (B := s₁.setTop (mkF m 7 #[.val (.long x0), .second, .val (.int x1), .val (.int x2), .val (.int x3)] [(.int x2), (.int x1)])) ?_ fun t k => XS.iloadN X0.here hx rfl (hb hby d1_6) rfl  k
    refine own_pre (B := s₁.setTop (mkF m 9 #[.val (.long x0), .second, .val (.int x1), .val (.int x2), .val (.int x3)] [(.int x3), (.int x2), (.int x1)])) ?_ fun t k => XS.iload X0.here hx rfl (hb hby d1_7) rfl  k
    refine own_pre (B := s₁.setTop (mkF m 10 #[.val (.long x0), .second, .val (.int x1), .val (.int x2), .val (.int x3)] [(.int (x2 + x3)), (.int x1)])) ?_ fun t k => XS.iadd X0.here hx rfl (hb hby d1_9) rfl k
    by_cases h10_2 : x1 < (x2 + x3)
    · skip
      refine own_pre (B := s₁.setTop (mkF m 13 #[.val (.long x0), .second, .val (.int x1), .val (.int x2), .val (.int x3)] [])) ?_ fun t k => XS.icmpNo X0.here hx rfl (hb hby d1_10) rfl (tlt h10_2).2.1 k
      refine own_pre (B := s₁.setTop (mkF m 14 #[.val (.long x0), .second, .val (.int x1), .val (.int x2), .val (.int x3)] [(.long x0)])) ?_ fun t k => XS.lloadN X0.here hx rfl (hb hby d1_13) rfl  k
      refine own_pre (B := s₁.setTop (mkF m 15 #[.val (.long x0), .second, .val (.int x1), .val (.int x2), .val (.int x3)] [(.long (0 : Int64)), (.long x0)])) ?_ fun t k => XS.lconst X0.here hx rfl (hb hby d1_14) k
      refine own_pre (B := s₁.setTop (mkF m 16 #[.val (.long x0), .second, .val (.int x1), .val (.int x2), .val (.int x3)] [(.int (lcmpW x0 (0 : Int64)))])) ?_ fun t k => XS.lcmp X0.here hx rfl (hb hby d1_15) rfl k
      by_cases h16_3 : x0 = (0 : Int64)
      · skip
        refine own_pre (B := s₁.setTop (mkF m 19 #[.val (.long x0), .second, .val (.int x1), .val (.int x2), .val (.int x3)] [])) ?_ fun t k => XS.ifNo X0.here hx rfl (hb hby d1_16) rfl ((if0 _ _).trans (teq ((lw_eq x0 (0 : Int64)).mpr h16_3)).2) k
        refine own_pre (B := s₁.setTop (mkF m 20 #[.val (.long x0), .second, .val (.int x1), .val (.int x2), .val (.int x3)] [(.int (1 : Int32))])) ?_ fun t k => XS.iconst X0.here hx rfl (hb hby d1_19) k
        refine own_pre (B := s₁.setTop (mkF m 24 #[.val (.long x0), .second, .val (.int x1), .val (.int x2), .val (.int x3)] [(.int (1 : Int32))])) ?_ fun t k => XS.goto X0.here hx rfl (pc0 := 20) (pc' := 24) rfl (hb hby d1_20) (by decide) (by decide) k
        refine own_retN X0 hx hlk (t := .boolean) (z' := (1 : Int32)) Bd.returns (by simp) (hb hby d1_24) (by decide) ?_ (by decide) (by decide)
        rw [e0]
        exact ⟨by rw [own_ok, if_neg h2_1, if_pos h10_2, if_pos h16_3], N0, rfl⟩
      · skip
        refine own_pre (B := s₁.setTop (mkF m 23 #[.val (.long x0), .second, .val (.int x1), .val (.int x2), .val (.int x3)] [])) ?_ fun t k => XS.ifYes X0.here hx rfl (pc0 := 16) (pc' := 23) rfl (hb hby d1_16) rfl ((if0 _ _).trans (feq (fun q => h16_3 ((lw_eq x0 (0 : Int64)).mp q))).2) (by decide) (by decide) k
        refine own_pre (B := s₁.setTop (mkF m 24 #[.val (.long x0), .second, .val (.int x1), .val (.int x2), .val (.int x3)] [(.int (0 : Int32))])) ?_ fun t k => XS.iconst X0.here hx rfl (hb hby d1_23) k
        refine own_retN X0 hx hlk (t := .boolean) (z' := (0 : Int32)) Bd.returns (by simp) (hb hby d1_24) (by decide) ?_ (by decide) (by decide)
        rw [e0]
        exact ⟨by rw [own_ok, if_neg h2_1, if_pos h10_2, if_neg h16_3], N0, rfl⟩
    · skip
      refine own_pre (B := s₁.setTop (mkF m 19 #[.val (.long x0), .second, .val (.int x1), .val (.int x2), .val (.int x3)] [])) ?_ fun t k => XS.icmpYes X0.here hx rfl (pc0 := 10) (pc' := 19) rfl (hb hby d1_10) rfl (flt h10_2).2.1 (by decide) (by decide) k
      refine own_pre (B := s₁.setTop (mkF m 20 #[.val (.long x0), .second, .val (.int x1), .val (.int x2), .val (.int x3)] [(.int (1 : Int32))])) ?_ fun t k => XS.iconst X0.here hx rfl (hb hby d1_19) k
      refine own_pre (B := s₁.setTop (mkF m 24 #[.val (.long x0), .second, .val (.int x1), .val (.int x2), .val (.int x3)] [(.int (1 : Int32))])) ?_ fun t k => XS.goto X0.here hx rfl (pc0 := 20) (pc' := 24) rfl (hb hby d1_20) (by decide) (by decide) k
      refine own_retN X0 hx hlk (t := .boolean) (z' := (1 : Int32)) Bd.returns (by simp) (hb hby d1_24) (by decide) ?_ (by decide) (by decide)
      rw [e0]
      exact ⟨by rw [own_ok, if_neg h2_1, if_neg h10_2], N0, rfl⟩
theorem d2_0 : decode prog_13_method_15_code 0 = .ok (.iload_n 1, 1) := by decide +kernel
theorem d2_1 : decode prog_13_method_15_code 1 = .ok (.istore_n 3, 1) := by decide +kernel
theorem d2_2 : decode prog_13_method_15_code 2 = .ok (.iload_n 3, 1) := by decide +kernel
theorem d2_3 : decode prog_13_method_15_code 3 = .ok (.iload_n 1, 1) := by decide +kernel
theorem d2_4 : decode prog_13_method_15_code 4 = .ok (.iload_n 2, 1) := by decide +kernel
theorem d2_5 : decode prog_13_method_15_code 5 = .ok (.iadd, 1) := by decide +kernel
theorem d2_6 : decode prog_13_method_15_code 6 = .ok (.if_icmp .ge 19, 3) := by decide +kernel
theorem d2_25 : decode prog_13_method_15_code 25 = .ok (.iconst 1, 1) := by decide +kernel
theorem d2_26 : decode prog_13_method_15_code 26 = .ok (.ireturn, 1) := by decide +kernel
theorem d2_9 : decode prog_13_method_15_code 9 = .ok (.aload_n 0, 1) := by decide +kernel
theorem d2_10 : decode prog_13_method_15_code 10 = .ok (.iload_n 3, 1) := by decide +kernel
theorem d2_11 : decode prog_13_method_15_code 11 = .ok (.laload, 1) := by decide +kernel
theorem d2_12 : decode prog_13_method_15_code 12 = .ok (.lconst 0, 1) := by decide +kernel
theorem d2_13 : decode prog_13_method_15_code 13 = .ok (.lcmp, 1) := by decide +kernel
theorem d2_14 : decode prog_13_method_15_code 14 = .ok (.ifCond .eq 5, 3) := by decide +kernel
theorem d2_19 : decode prog_13_method_15_code 19 = .ok (.iinc 3 1, 3) := by decide +kernel
theorem d2_22 : decode prog_13_method_15_code 22 = .ok (.goto (-20), 3) := by decide +kernel
theorem d2_17 : decode prog_13_method_15_code 17 = .ok (.iconst 0, 1) := by decide +kernel
theorem d2_18 : decode prog_13_method_15_code 18 = .ok (.ireturn, 1) := by decide +kernel
theorem pn_com_example_nimfield_nimfield_NimWords : plainName "com/example/nimfield/nimfield/NimWords" = true := by first | (simp [plainName, overriddenIn]; done) | decide +kernel
set_option maxHeartbeats 4000000 in
theorem ef_2 (m : MethodId) (x0 : Addr) (x1 : Int32) (x2 : Int32) : entryFrame m #[(.ref x0), (.int x1), (.int x2)] 4 = mkF m 0 #[.val (.ref x0), .val (.int x1), .val (.int x2), .unset] [] := by first | (simp [entryFrame, mkF, argsToLocals, Value.category]; done) | rfl
def Q2 (Z : State) (x0 : Addr) (x1 : Int32) (x2 : Int32) (nn : Nat) (lo : Nat) (cnt : Nat) (f : Nat → Int64) (h0 : Heap) (n0 : Nat) (v : Option Value) (h : Heap) (L : List Loc) : Prop := v = some (.int (own_az f lo cnt)) ∧ Fr n0 L ∧ h = h0
set_option maxRecDepth 65536 in
set_option maxHeartbeats 40000000 in
theorem rm2 (l : Launch) (Z : State) (a0 : Array Value) (hw : ∀ d ∈ tables_1, d.before a0 Z = true) (ws : List Jvm.Cond) (x0 : Addr) (x1 : Int32) (x2 : Int32) (nn : Nat) (lo : Nat) (cnt : Nat) (f : Nat → Int64) (h0 : Heap) (n0 : Nat) (Z0 : n0 ≤ h0.size) (A_0 : own_FA Z h0 x0 .long nn (fun i => .long (f i))) (h1 : x1 = Int32.ofNat lo) (h2 : (x1 + x2) = Int32.ofNat (lo + cnt)) (h3 : lo + cnt ≤ nn) :
    MetFree l (⟨"com/example/nimfield/nimfield/NimWords", "isZero", "([JII)Z"⟩ : MethodName) (head1 (Jvm.Cond.code (⟨"com/example/nimfield/nimfield/NimWords", "isZero", "([JII)Z"⟩ : MethodName) prog_13_method_15_code 4 (some .boolean) :: ws) ({ frames := 0, cells := 0, slots := 0, locals := 0 } : Room)) (fun a U => a = #[(.ref x0), (.int x1), (.int x2)] ∧ Z.Warmed39 U.vm ∧ U.heap = h0) (fun _ _ _ _ _ => True) (fun _ U o U' => ∃ v L, o = .returned v ∧ Q2 Z x0 x1 x2 nn lo cnt f h0 n0 v U'.heap L ∧ FrameEnd U o U' L ({ frames := 0, cells := 0, slots := 0, locals := 0 } : Room).cells ({ frames := 0, cells := 0, slots := 0, locals := 0 } : Room).slots) := by
  refine MetFree.of_bodySF (plainFor_of_name pn_com_example_nimfield_nimfield_NimWords) hisR ?_
  intro p e s m args below meth c s₁ Bd hml0 hP hK
  obtain ⟨rfl, hZ, hh⟩ := hP
  have hx := Bd.exec
  have hby := Bd.bytes
  have hml : c.maxLocals = 4 := hml0
  have hown : s.vm.findClass "com/example/nimfield/nimfield/NimWords" = some m.cls := findClass_of_methodNamed Bd.named
  have hnm := (name_of_methodNamed Bd.named Bd.method).1
  have hlk : meth.locks = false := BodyLoose.notSynchronized Bd
  have X0 : Stand p l e ({ frames := 0, cells := 0, slots := 0, locals := 0 } : Room) s m #[(.ref x0), (.int x1), (.int x2)] below meth c s₁ [] 0 0 := Stand.of_body Bd
  have e0 : s₁.heap = h0 := by rw [← hh, Bd.state]; rfl
  have N0 := Fr.nil n0
  show own_E p e below s (Q2 Z x0 x1 x2 nn lo cnt f h0 n0) 0 0 (s₁.setTop (entryFrame m #[(.ref x0), (.int x1), (.int x2)] 4))
  refine own_pre (B := s₁.setTop (mkF m 0 #[.val (.ref x0), .val (.int x1), .val (.int x2), .unset] [])) ?_ (fun t k => castTop (ef_2 m x0 x1 x2) k)
  refine own_pre (B := s₁.setTop (mkF m 1 #[.val (.ref x0), .val (.int x1), .val (.int x2), .unset] [(.int x1)])) ?_ fun t k => XS.iloadN X0.here hx rfl (hb hby d2_0) rfl  k
  refine own_pre (B := s₁.setTop (mkF m 2 #[.val (.ref x0), .val (.int x1), .val (.int x2), .val (.int x1)] [])) ?_ fun t k => XS.istoreN X0.here hx rfl (hb hby d2_1) rfl  (l' := #[.val (.ref x0), .val (.int x1), .val (.int x2), .val (.int x1)]) rfl k
  have hnn := A_0.1
  have loop : ∀ (k i : Nat) (hk : i + k = lo + cnt) (hr : own_az f lo cnt = own_az f i k) (T1 : State) (l1 : List Loc) (X1 : Stand p l e ({ frames := 0, cells := 0, slots := 0, locals := 0 } : Room) s m #[(.ref x0), (.int x1), (.int x2)] below meth c T1 l1 0 0) (N1 : Fr n0 l1) (e1 : T1.heap = h0), own_E p e below s (Q2 Z x0 x1 x2 nn lo cnt f h0 n0) 0 0 (T1.setTop (mkF m 2 #[.val (.ref x0), .val (.int x1), .val (.int x2), .val (.int (Int32.ofNat i))] [])) := by
    intro k
    induction k with
    | zero =>
      intro i hk hr T1 l1 X1 N1 e1
      refine own_pre (B := T1.setTop (mkF m 3 #[.val (.ref x0), .val (.int x1), .val (.int x2), .val (.int (Int32.ofNat i))] [(.int (Int32.ofNat i))])) ?_ fun t k => XS.iloadN X1.here hx rfl (hb hby d2_2) rfl  k
      refine own_pre (B := T1.setTop (mkF m 4 #[.val (.ref x0), .val (.int x1), .val (.int x2), .val (.int (Int32.ofNat i))] [(.int x1), (.int (Int32.ofNat i))])) ?_ fun t k => XS.iloadN X1.here hx rfl (hb hby d2_3) rfl  k
      refine own_pre (B := T1.setTop (mkF m 5 #[.val (.ref x0), .val (.int x1), .val (.int x2), .val (.int (Int32.ofNat i))] [(.int x2), (.int x1), (.int (Int32.ofNat i))])) ?_ fun t k => XS.iloadN X1.here hx rfl (hb hby d2_4) rfl  k
      refine own_pre (B := T1.setTop (mkF m 6 #[.val (.ref x0), .val (.int x1), .val (.int x2), .val (.int (Int32.ofNat i))] [(.int (x1 + x2)), (.int (Int32.ofNat i))])) ?_ fun t k => XS.iadd X1.here hx rfl (hb hby d2_5) rfl k
      refine own_pre (B := T1.setTop (mkF m 25 #[.val (.ref x0), .val (.int x1), .val (.int x2), .val (.int (Int32.ofNat i))] [])) ?_ fun t k => XS.icmpYes X1.here hx rfl (pc0 := 6) (pc' := 25) rfl (hb hby d2_6) rfl (flt (by rw [h2, own_olt (by omega) (by omega)]; omega)).2.1 (by decide) (by decide) k
      refine own_pre (B := T1.setTop (mkF m 26 #[.val (.ref x0), .val (.int x1), .val (.int x2), .val (.int (Int32.ofNat i))] [(.int (1 : Int32))])) ?_ fun t k => XS.iconst X1.here hx rfl (hb hby d2_25) k
      refine own_retN X1 hx hlk (t := .boolean) (z' := (1 : Int32)) Bd.returns (by simp) (hb hby d2_26) (by decide) ?_ (by decide) (by decide)
      rw [e1]
      exact ⟨by rw [hr]; rfl, N1, rfl⟩
    | succ k ih =>
      intro i hk hr T1 l1 X1 N1 e1
      refine own_pre (B := T1.setTop (mkF m 3 #[.val (.ref x0), .val (.int x1), .val (.int x2), .val (.int (Int32.ofNat i))] [(.int (Int32.ofNat i))])) ?_ fun t k => XS.iloadN X1.here hx rfl (hb hby d2_2) rfl  k
      refine own_pre (B := T1.setTop (mkF m 4 #[.val (.ref x0), .val (.int x1), .val (.int x2), .val (.int (Int32.ofNat i))] [(.int x1), (.int (Int32.ofNat i))])) ?_ fun t k => XS.iloadN X1.here hx rfl (hb hby d2_3) rfl  k
      refine own_pre (B := T1.setTop (mkF m 5 #[.val (.ref x0), .val (.int x1), .val (.int x2), .val (.int (Int32.ofNat i))] [(.int x2), (.int x1), (.int (Int32.ofNat i))])) ?_ fun t k => XS.iloadN X1.here hx rfl (hb hby d2_4) rfl  k
      refine own_pre (B := T1.setTop (mkF m 6 #[.val (.ref x0), .val (.int x1), .val (.int x2), .val (.int (Int32.ofNat i))] [(.int (x1 + x2)), (.int (Int32.ofNat i))])) ?_ fun t k => XS.iadd X1.here hx rfl (hb hby d2_5) rfl k
      refine own_pre (B := T1.setTop (mkF m 9 #[.val (.ref x0), .val (.int x1), .val (.int x2), .val (.int (Int32.ofNat i))] [])) ?_ fun t k => XS.icmpNo X1.here hx rfl (hb hby d2_6) rfl (tlt (by rw [h2, own_olt (by omega) (by omega)]; omega)).2.1 k
      refine own_pre (B := T1.setTop (mkF m 10 #[.val (.ref x0), .val (.int x1), .val (.int x2), .val (.int (Int32.ofNat i))] [(.ref x0)])) ?_ fun t k => XS.aloadN X1.here hx rfl (hb hby d2_9) rfl rfl k
      refine own_pre (B := T1.setTop (mkF m 11 #[.val (.ref x0), .val (.int x1), .val (.int x2), .val (.int (Int32.ofNat i))] [(.int (Int32.ofNat i)), (.ref x0)])) ?_ fun t k => XS.iloadN X1.here hx rfl (hb hby d2_10) rfl  k
      obtain ⟨Ln1, cl1, Ar1, S1, Hh1⟩ := id A_0
      have hin1 := own_hin (j := (Int32.ofNat i)) (i := i) S1 (own_ic (by omega)) (own_in0 (by omega)) (by omega)
      have hat1 : cl1.slots[((Int32.ofNat i)).toNatClampNeg]? = some (.long (f i)) := own_hat (j := (Int32.ofNat i)) (i := i) Hh1 (own_ic (by omega)) (by omega)
      refine own_pre (B := T1.setTop (mkF m 12 #[.val (.ref x0), .val (.int x1), .val (.int x2), .val (.int (Int32.ofNat i))] [(.long (f i))])) ?_ fun t k => X1.laload hx (j := (Int32.ofNat i)) (v := (.long (f i))) (by rw [e1]; exact Ar1.1) (State.isArrayOf_alike hZ.alike Ar1.2.1) Ar1.2.2 hin1 hat1 (g := (mkF m 11 #[.val (.ref x0), .val (.int x1), .val (.int x2), .val (.int (Int32.ofNat i))] [(.int (Int32.ofNat i)), (.ref x0)])) rfl rfl (hb hby d2_11) t k
      refine own_pre (B := T1.setTop (mkF m 13 #[.val (.ref x0), .val (.int x1), .val (.int x2), .val (.int (Int32.ofNat i))] [(.long (0 : Int64)), (.long (f i))])) ?_ fun t k => XS.lconst X1.here hx rfl (hb hby d2_12) k
      refine own_pre (B := T1.setTop (mkF m 14 #[.val (.ref x0), .val (.int x1), .val (.int x2), .val (.int (Int32.ofNat i))] [(.int (lcmpW (f i) (0 : Int64)))])) ?_ fun t k => XS.lcmp X1.here hx rfl (hb hby d2_13) rfl k
      by_cases h14_2 : (f i) = (0 : Int64)
      · skip
        refine own_pre (B := T1.setTop (mkF m 19 #[.val (.ref x0), .val (.int x1), .val (.int x2), .val (.int (Int32.ofNat i))] [])) ?_ fun t k => XS.ifYes X1.here hx rfl (pc0 := 14) (pc' := 19) rfl (hb hby d2_14) rfl ((if0 _ _).trans (teq ((lw_eq (f i) (0 : Int64)).mpr h14_2)).1) (by decide) (by decide) k
        refine own_pre (B := T1.setTop (mkF m 22 #[.val (.ref x0), .val (.int x1), .val (.int x2), .val (.int ((Int32.ofNat i) + (1 : Int32)))] [])) ?_ fun t k => XS.iinc X1.here hx rfl (hb hby d2_19) rfl (l' := #[.val (.ref x0), .val (.int x1), .val (.int x2), .val (.int ((Int32.ofNat i) + (1 : Int32)))]) rfl k
        refine own_pre (B := T1.setTop (mkF m 2 #[.val (.ref x0), .val (.int x1), .val (.int x2), .val (.int ((Int32.ofNat i) + (1 : Int32)))] [])) ?_ fun t k => XS.goto X1.here hx rfl (pc0 := 22) (pc' := 2) rfl (hb hby d2_22) (by decide) (by decide) k
        rw [← inc_ofNat]
        exact ih (i + 1) (by omega) (by rw [hr, own_az, if_pos h14_2]) T1 _ X1 N1 e1
      · skip
        refine own_pre (B := T1.setTop (mkF m 17 #[.val (.ref x0), .val (.int x1), .val (.int x2), .val (.int (Int32.ofNat i))] [])) ?_ fun t k => XS.ifNo X1.here hx rfl (hb hby d2_14) rfl ((if0 _ _).trans (feq (fun q => h14_2 ((lw_eq (f i) (0 : Int64)).mp q))).1) k
        refine own_pre (B := T1.setTop (mkF m 18 #[.val (.ref x0), .val (.int x1), .val (.int x2), .val (.int (Int32.ofNat i))] [(.int (0 : Int32))])) ?_ fun t k => XS.iconst X1.here hx rfl (hb hby d2_17) k
        refine own_retN X1 hx hlk (t := .boolean) (z' := (0 : Int32)) Bd.returns (by simp) (hb hby d2_18) (by decide) ?_ (by decide) (by decide)
        rw [e1]
        exact ⟨by rw [hr, own_az, if_neg h14_2], N1, rfl⟩
  have E0 := loop cnt lo rfl rfl s₁ _ X0 N0 e0
  rw [← h1] at E0
  exact E0
theorem own_nz5 (x : Int32) : ((5 : Int32) - ((x &&& (2147483647 : Int32)) % (5 : Int32))) ≠ 0 := fun q => by
  have r := c_mask x 2147483647 31 (by decide) (by decide)
  have m := (c_irem (x &&& 2147483647) 5 5 (by decide)).1 (by omega)
  have s := c_isub 5 ((x &&& (2147483647 : Int32)) % (5 : Int32))
  rw [q] at s; simp only [Int32.reduceToInt] at s; omega
theorem own_ofNat {x : Int32} (h : 0 ≤ x.toInt) : x = Int32.ofNat x.toInt.toNat := by
  have r := rng32 x
  refine Int32.toInt_inj.mp ?_
  rw [own_i1 (by omega)]; omega
theorem own_rg {x fr ct : Int32} (hf : ((x &&& (2147483647 : Int32)) % (5 : Int32)) = fr) (hc : ((((x.toUInt32 >>> ((3 : Int32) &&& 31).toUInt32).toInt32) &&& (2147483647 : Int32)) % ((5 : Int32) - fr)) = ct) : ∃ lo cnt : Nat, fr = Int32.ofNat lo ∧ ct = Int32.ofNat cnt ∧ lo + cnt ≤ 4 := by
  have r := c_mask x 2147483647 31 (by decide) (by decide)
  have m := (c_irem (x &&& 2147483647) 5 5 (by decide)).1 (by omega)
  rw [hf] at m
  have s := c_isub 5 fr
  have rs := rng32 ((5 : Int32) - fr)
  simp only [Int32.reduceToInt] at s
  have r2 := c_mask ((x.toUInt32 >>> ((3 : Int32) &&& 31).toUInt32).toInt32) 2147483647 31 (by decide) (by decide)
  have m2 := (c_iremV (((x.toUInt32 >>> ((3 : Int32) &&& 31).toUInt32).toInt32) &&& 2147483647) ((5 : Int32) - fr)).1 (by omega) (by omega)
  rw [hc] at m2
  exact ⟨fr.toInt.toNat, ct.toInt.toNat, own_ofNat (by omega), own_ofNat (by omega), by omega⟩
theorem own_sum {fr ct : Int32} {lo cnt : Nat} (h1 : fr = Int32.ofNat lo) (h2 : ct = Int32.ofNat cnt) (h3 : lo + cnt ≤ 4) : (fr + ct) = Int32.ofNat (lo + cnt) := by
  subst h1 h2
  have s := c_iadd (Int32.ofNat lo) (Int32.ofNat cnt)
  have r := rng32 (Int32.ofNat lo + Int32.ofNat cnt)
  rw [own_i1 (by omega), own_i1 (by omega)] at s
  refine Int32.toInt_inj.mp ?_
  rw [own_i1 (by omega)]; omega
theorem pd__JIII_Z : parseMethodDescriptor "(JIII)Z" = some ⟨[.long, .int, .int, .int], some .boolean⟩ := by decide +kernel
theorem pd___JII_Z : parseMethodDescriptor "([JII)Z" = some ⟨[(.array .long), .int, .int], some .boolean⟩ := by decide +kernel
set_option maxRecDepth 65536 in
set_option maxHeartbeats 40000000 in
theorem own_fin (x0 : Int64) (x1 : Int64) (x2 : Int64) (x3 : Int64) (x4 : Int32) (x5 : Int32) (j3_s0 : Int64) (hvj3_s0 : j3_s0 = (if (x4 &&& (1 : Int32)) = (0 : Int32) then (0 : Int64) else x0)) (j7_s0 : Int64) (hvj7_s0 : j7_s0 = (if (x4 &&& (2 : Int32)) = (0 : Int32) then (0 : Int64) else x1)) (j11_s0 : Int64) (hvj11_s0 : j11_s0 = (if (x4 &&& (4 : Int32)) = (0 : Int32) then (0 : Int64) else x2)) (j15_s0 : Int64) (hvj15_s0 : j15_s0 = (if (x4 &&& (8 : Int32)) = (0 : Int32) then (0 : Int64) else x3)) (fr : Int32) (hmfr : ((x5 &&& (2147483647 : Int32)) % (5 : Int32)) = fr) (ct : Int32) (hmct : ((((x5.toUInt32 >>> ((3 : Int32) &&& 31).toUInt32).toInt32) &&& (2147483647 : Int32)) % ((5 : Int32) - fr)) = ct) (lo : Nat) (cnt : Nat) (hlo : fr = Int32.ofNat lo) (hcnt : ct = Int32.ofNat cnt) (hle : lo + cnt ≤ 4) (j21_s0 : Int32) (hvj21_s0 : j21_s0 = (if (own_ok j3_s0 (0 : Int32) fr ct) = (0 : Int32) then (0 : Int32) else (if (own_ok j7_s0 (1 : Int32) fr ct) = (0 : Int32) then (0 : Int32) else (if (own_ok j11_s0 (2 : Int32) fr ct) = (0 : Int32) then (0 : Int32) else (if (own_ok j15_s0 (3 : Int32) fr ct) = (0 : Int32) then (0 : Int32) else (1 : Int32)))))) : (own_az (fun i => ([j3_s0, j7_s0, j11_s0, j15_s0] : List Int64).getD i 0) lo cnt) = j21_s0 := by
  rw [hvj21_s0]
  clear hvj21_s0 hmct hmfr
  subst hlo hcnt
  have c1 : lo = 0 ∨ lo = 1 ∨ lo = 2 ∨ lo = 3 ∨ lo = 4 := by omega
  have c2 : cnt = 0 ∨ cnt = 1 ∨ cnt = 2 ∨ cnt = 3 ∨ cnt = 4 := by omega
  rcases c1 with rfl | rfl | rfl | rfl | rfl <;> rcases c2 with rfl | rfl | rfl | rfl | rfl <;> first | (exfalso; omega) | (simp +decide only [own_az, own_ok, List.getD_cons_zero, List.getD_cons_succ, if_true, if_false]; done) | (simp +decide only [own_az, own_ok, List.getD_cons_zero, List.getD_cons_succ, if_true, if_false]; by_cases q0 : j3_s0 = (0 : Int64) <;> by_cases q1 : j7_s0 = (0 : Int64) <;> by_cases q2 : j11_s0 = (0 : Int64) <;> by_cases q3 : j15_s0 = (0 : Int64) <;> simp [q0, q1, q2, q3])
set_option maxHeartbeats 4000000 in
theorem ef_0 (m : MethodId) (x0 : Int64) (x1 : Int64) (x2 : Int64) (x3 : Int64) (x4 : Int32) (x5 : Int32) : entryFrame m #[(.long x0), (.long x1), (.long x2), (.long x3), (.int x4), (.int x5)] maxLocals = mkF m 0 #[.val (.long x0), .second, .val (.long x1), .second, .val (.long x2), .second, .val (.long x3), .second, .val (.int x4), .val (.int x5), .unset, .unset, .unset, .unset] [] := by first | (simp [entryFrame, mkF, argsToLocals, Value.category, maxLocals]; done) | rfl
def Q0 (Z : State) (x0 : Int64) (x1 : Int64) (x2 : Int64) (x3 : Int64) (x4 : Int32) (x5 : Int32) (h0 : Heap) (n0 : Nat) (v : Option Value) (h : Heap) (L : List Loc) : Prop := v = some (.int 1) ∧ Fr n0 L
set_option maxRecDepth 65536 in
set_option maxHeartbeats 40000000 in
theorem rm0 (l : Launch) (Z : State) (a0 : Array Value) (hw : ∀ d ∈ tables_1, d.before a0 Z = true) (ws : List Jvm.Cond) (x0 : Int64) (x1 : Int64) (x2 : Int64) (x3 : Int64) (x4 : Int32) (x5 : Int32) (h0 : Heap) (n0 : Nat) (Z0 : n0 ≤ h0.size) :
    MetFree l x (head1 (Jvm.Cond.code x code maxLocals ret :: ws) room_1) (fun a U => a = #[(.long x0), (.long x1), (.long x2), (.long x3), (.int x4), (.int x5)] ∧ Z.Warmed39 U.vm ∧ U.heap = h0) (fun _ _ _ _ _ => True) (fun _ U o U' => ∃ v L, o = .returned v ∧ Q0 Z x0 x1 x2 x3 x4 x5 h0 n0 v U'.heap L ∧ FrameEnd U o U' L 16 128) := by
  refine MetFree.of_bodySF (plainFor_of_name pn_com_example_nimfield_nimfield_NimWordsIsZeroPinLaw) hisR ?_
  intro p e s m args below meth c s₁ Bd hml0 hP hK
  obtain ⟨rfl, hZ, hh⟩ := hP
  have hx := Bd.exec
  have hby := Bd.bytes
  have hml : c.maxLocals = 14 := hml0
  have hown : s.vm.findClass "com/example/nimfield/nimfield/NimWordsIsZeroPinLaw" = some m.cls := findClass_of_methodNamed Bd.named
  have hnm := (name_of_methodNamed Bd.named Bd.method).1
  have hlk : meth.locks = false := BodyLoose.notSynchronized Bd
  have X0 : Stand p l e room_1 s m #[(.long x0), (.long x1), (.long x2), (.long x3), (.int x4), (.int x5)] below meth c s₁ [] 0 0 := Stand.of_body Bd
  have e0 : s₁.heap = h0 := by rw [← hh, Bd.state]; rfl
  have N0 := Fr.nil n0
  show own_E p e below s (Q0 Z x0 x1 x2 x3 x4 x5 h0 n0) 16 128 (s₁.setTop (entryFrame m #[(.long x0), (.long x1), (.long x2), (.long x3), (.int x4), (.int x5)] maxLocals))
  refine own_pre (B := s₁.setTop (mkF m 0 #[.val (.long x0), .second, .val (.long x1), .second, .val (.long x2), .second, .val (.long x3), .second, .val (.int x4), .val (.int x5), .unset, .unset, .unset, .unset] [])) ?_ (fun t k => castTop (ef_0 m x0 x1 x2 x3 x4 x5) k)
  refine own_pre (B := s₁.setTop (mkF m 1 #[.val (.long x0), .second, .val (.long x1), .second, .val (.long x2), .second, .val (.long x3), .second, .val (.int x4), .val (.int x5), .unset, .unset, .unset, .unset] [(.int (4 : Int32))])) ?_ fun t k => XS.iconst X0.here hx rfl (hb hby at_0) k
  obtain ⟨T1, h1, k1, X1, e1, E1, A1, st1⟩ := newP X0 hx hZ (hw _ (List.mem_of_getElem? (i := 0) rfl)) e0 (g := (mkF m 1 #[.val (.long x0), .second, .val (.long x1), .second, .val (.long x2), .second, .val (.long x3), .second, .val (.int x4), .val (.int x5), .unset, .unset, .unset, .unset] [(.int (4 : Int32))])) rfl (hb hby at_1) rfl (by decide) (cap := 4) (by decide) (by decide) (by decide) (by decide)
  obtain ⟨b1, g1⟩ : ∃ z, z = h0.size := ⟨_, rfl⟩
  rw [← g1] at A1 st1
  have Z1 : n0 ≤ h1.size := Nat.le_trans Z0 E1.1
  have gz1 : n0 ≤ b1 := Nat.le_trans Z0 (Nat.le_of_eq g1.symm)
  have V1 : Arv Z h1 b1 k1 .long (4 : Int32) [(.long (0 : Int64)), (.long (0 : Int64)), (.long (0 : Int64)), (.long (0 : Int64))] (.long (0 : Int64)) := (Arv.new A1 (by decide)).pad (pad_rep [] (.long (0 : Int64)) 4)
  refine own_pre (B := T1.setTop (mkF m 3 #[.val (.long x0), .second, .val (.long x1), .second, .val (.long x2), .second, .val (.long x3), .second, .val (.int x4), .val (.int x5), .unset, .unset, .unset, .unset] [(.ref b1)])) ?_ st1
  refine own_pre (B := T1.setTop (mkF m 5 #[.val (.long x0), .second, .val (.long x1), .second, .val (.long x2), .second, .val (.long x3), .second, .val (.int x4), .val (.int x5), .val (.ref b1), .unset, .unset, .unset] [])) ?_ fun t k => XS.astore X1.here hx rfl (hb hby at_3) rfl rfl (l' := #[.val (.long x0), .second, .val (.long x1), .second, .val (.long x2), .second, .val (.long x3), .second, .val (.int x4), .val (.int x5), .val (.ref b1), .unset, .unset, .unset]) rfl k
  refine own_pre (B := T1.setTop (mkF m 7 #[.val (.long x0), .second, .val (.long x1), .second, .val (.long x2), .second, .val (.long x3), .second, .val (.int x4), .val (.int x5), .val (.ref b1), .unset, .unset, .unset] [(.ref b1)])) ?_ fun t k => XS.aload X1.here hx rfl (hb hby at_5) rfl rfl k
  refine own_pre (B := T1.setTop (mkF m 8 #[.val (.long x0), .second, .val (.long x1), .second, .val (.long x2), .second, .val (.long x3), .second, .val (.int x4), .val (.int x5), .val (.ref b1), .unset, .unset, .unset] [(.int (0 : Int32)), (.ref b1)])) ?_ fun t k => XS.iconst X1.here hx rfl (hb hby at_7) k
  refine own_pre (B := T1.setTop (mkF m 10 #[.val (.long x0), .second, .val (.long x1), .second, .val (.long x2), .second, .val (.long x3), .second, .val (.int x4), .val (.int x5), .val (.ref b1), .unset, .unset, .unset] [(.int x4), (.int (0 : Int32)), (.ref b1)])) ?_ fun t k => XS.iload X1.here hx rfl (hb hby at_8) rfl  k
  refine own_pre (B := T1.setTop (mkF m 11 #[.val (.long x0), .second, .val (.long x1), .second, .val (.long x2), .second, .val (.long x3), .second, .val (.int x4), .val (.int x5), .val (.ref b1), .unset, .unset, .unset] [(.int (1 : Int32)), (.int x4), (.int (0 : Int32)), (.ref b1)])) ?_ fun t k => XS.iconst X1.here hx rfl (hb hby at_10) k
  refine own_pre (B := T1.setTop (mkF m 12 #[.val (.long x0), .second, .val (.long x1), .second, .val (.long x2), .second, .val (.long x3), .second, .val (.int x4), .val (.int x5), .val (.ref b1), .unset, .unset, .unset] [(.int (x4 &&& (1 : Int32))), (.int (0 : Int32)), (.ref b1)])) ?_ fun t k => XS.iand X1.here hx rfl (hb hby at_11) rfl k
  have Jj3 : ∀ (T4 : State) (l4 : List Loc) (X4 : Stand p l e room_1 s m #[(.long x0), (.long x1), (.long x2), (.long x3), (.int x4), (.int x5)] below meth c T4 l4 1 4) (N4 : Fr n0 l4) (e4 : T4.heap = h1) (j3_s0 : Int64) (hvj3_s0 : j3_s0 = (if (x4 &&& (1 : Int32)) = (0 : Int32) then (0 : Int64) else x0)), own_E p e below s (Q0 Z x0 x1 x2 x3 x4 x5 h0 n0) 16 128 (T4.setTop (mkF m 20 #[.val (.long x0), .second, .val (.long x1), .second, .val (.long x2), .second, .val (.long x3), .second, .val (.int x4), .val (.int x5), .val (.ref b1), .unset, .unset, .unset] [(.long j3_s0), (.int (0 : Int32)), (.ref b1)])) := by
    intro T4 l4 X4 N4 e4 j3_s0 hvj3_s0
    obtain ⟨cl5, Ar5, q5, S5, Nn5, Hh5, Gg5⟩ := id V1
    have hin5 : ¬ ((0 : Int32) < 0 ∨ cl5.slots.size ≤ ((0 : Int32)).toNatClampNeg) := inb_of S5 ⟨by decide, by decide⟩
    obtain ⟨T5, h5, X5, e5, W5, st5⟩ := stJ X4 hx hZ e4 Ar5 (j := (0 : Int32)) hin5 (g := (mkF m 20 #[.val (.long x0), .second, .val (.long x1), .second, .val (.long x2), .second, .val (.long x3), .second, .val (.int x4), .val (.int x5), .val (.ref b1), .unset, .unset, .unset] [(.long j3_s0), (.int (0 : Int32)), (.ref b1)])) rfl rfl (hb hby at_20)
    have V5 : Arv Z h5 b1 k1 .long (4 : Int32) [(.long j3_s0), (.long (0 : Int64)), (.long (0 : Int64)), (.long (0 : Int64))] (.long (0 : Int64)) := Arv.set Ar5 q5 S5 Nn5 Hh5 Gg5 (v := (.long j3_s0)) rfl W5 0 rfl (Nat.le_of_ble_eq_true rfl)
    have N5 := Fr.snoc X5 N4 gz1
    have Z5 : n0 ≤ h5.size := Nat.le_trans Z1 (Keep.of_wr W5).1
    refine own_pre (B := T5.setTop (mkF m 21 #[.val (.long x0), .second, .val (.long x1), .second, .val (.long x2), .second, .val (.long x3), .second, .val (.int x4), .val (.int x5), .val (.ref b1), .unset, .unset, .unset] [])) ?_ st5
    refine own_pre (B := T5.setTop (mkF m 23 #[.val (.long x0), .second, .val (.long x1), .second, .val (.long x2), .second, .val (.long x3), .second, .val (.int x4), .val (.int x5), .val (.ref b1), .unset, .unset, .unset] [(.ref b1)])) ?_ fun t k => XS.aload X5.here hx rfl (hb hby at_21) rfl rfl k
    refine own_pre (B := T5.setTop (mkF m 24 #[.val (.long x0), .second, .val (.long x1), .second, .val (.long x2), .second, .val (.long x3), .second, .val (.int x4), .val (.int x5), .val (.ref b1), .unset, .unset, .unset] [(.int (1 : Int32)), (.ref b1)])) ?_ fun t k => XS.iconst X5.here hx rfl (hb hby at_23) k
    refine own_pre (B := T5.setTop (mkF m 26 #[.val (.long x0), .second, .val (.long x1), .second, .val (.long x2), .second, .val (.long x3), .second, .val (.int x4), .val (.int x5), .val (.ref b1), .unset, .unset, .unset] [(.int x4), (.int (1 : Int32)), (.ref b1)])) ?_ fun t k => XS.iload X5.here hx rfl (hb hby at_24) rfl  k
    refine own_pre (B := T5.setTop (mkF m 27 #[.val (.long x0), .second, .val (.long x1), .second, .val (.long x2), .second, .val (.long x3), .second, .val (.int x4), .val (.int x5), .val (.ref b1), .unset, .unset, .unset] [(.int (2 : Int32)), (.int x4), (.int (1 : Int32)), (.ref b1)])) ?_ fun t k => XS.iconst X5.here hx rfl (hb hby at_26) k
    refine own_pre (B := T5.setTop (mkF m 28 #[.val (.long x0), .second, .val (.long x1), .second, .val (.long x2), .second, .val (.long x3), .second, .val (.int x4), .val (.int x5), .val (.ref b1), .unset, .unset, .unset] [(.int (x4 &&& (2 : Int32))), (.int (1 : Int32)), (.ref b1)])) ?_ fun t k => XS.iand X5.here hx rfl (hb hby at_27) rfl k
    have Jj7 : ∀ (T8 : State) (l8 : List Loc) (X8 : Stand p l e room_1 s m #[(.long x0), (.long x1), (.long x2), (.long x3), (.int x4), (.int x5)] below meth c T8 l8 1 4) (N8 : Fr n0 l8) (e8 : T8.heap = h5) (j7_s0 : Int64) (hvj7_s0 : j7_s0 = (if (x4 &&& (2 : Int32)) = (0 : Int32) then (0 : Int64) else x1)), own_E p e below s (Q0 Z x0 x1 x2 x3 x4 x5 h0 n0) 16 128 (T8.setTop (mkF m 36 #[.val (.long x0), .second, .val (.long x1), .second, .val (.long x2), .second, .val (.long x3), .second, .val (.int x4), .val (.int x5), .val (.ref b1), .unset, .unset, .unset] [(.long j7_s0), (.int (1 : Int32)), (.ref b1)])) := by
      intro T8 l8 X8 N8 e8 j7_s0 hvj7_s0
      obtain ⟨cl9, Ar9, q9, S9, Nn9, Hh9, Gg9⟩ := id V5
      have hin9 : ¬ ((1 : Int32) < 0 ∨ cl9.slots.size ≤ ((1 : Int32)).toNatClampNeg) := inb_of S9 ⟨by decide, by decide⟩
      obtain ⟨T9, h9, X9, e9, W9, st9⟩ := stJ X8 hx hZ e8 Ar9 (j := (1 : Int32)) hin9 (g := (mkF m 36 #[.val (.long x0), .second, .val (.long x1), .second, .val (.long x2), .second, .val (.long x3), .second, .val (.int x4), .val (.int x5), .val (.ref b1), .unset, .unset, .unset] [(.long j7_s0), (.int (1 : Int32)), (.ref b1)])) rfl rfl (hb hby at_36)
      have V9 : Arv Z h9 b1 k1 .long (4 : Int32) [(.long j3_s0), (.long j7_s0), (.long (0 : Int64)), (.long (0 : Int64))] (.long (0 : Int64)) := Arv.set Ar9 q9 S9 Nn9 Hh9 Gg9 (v := (.long j7_s0)) rfl W9 1 rfl (Nat.le_of_ble_eq_true rfl)
      have N9 := Fr.snoc X9 N8 gz1
      have Z9 : n0 ≤ h9.size := Nat.le_trans Z5 (Keep.of_wr W9).1
      refine own_pre (B := T9.setTop (mkF m 37 #[.val (.long x0), .second, .val (.long x1), .second, .val (.long x2), .second, .val (.long x3), .second, .val (.int x4), .val (.int x5), .val (.ref b1), .unset, .unset, .unset] [])) ?_ st9
      refine own_pre (B := T9.setTop (mkF m 39 #[.val (.long x0), .second, .val (.long x1), .second, .val (.long x2), .second, .val (.long x3), .second, .val (.int x4), .val (.int x5), .val (.ref b1), .unset, .unset, .unset] [(.ref b1)])) ?_ fun t k => XS.aload X9.here hx rfl (hb hby at_37) rfl rfl k
      refine own_pre (B := T9.setTop (mkF m 40 #[.val (.long x0), .second, .val (.long x1), .second, .val (.long x2), .second, .val (.long x3), .second, .val (.int x4), .val (.int x5), .val (.ref b1), .unset, .unset, .unset] [(.int (2 : Int32)), (.ref b1)])) ?_ fun t k => XS.iconst X9.here hx rfl (hb hby at_39) k
      refine own_pre (B := T9.setTop (mkF m 42 #[.val (.long x0), .second, .val (.long x1), .second, .val (.long x2), .second, .val (.long x3), .second, .val (.int x4), .val (.int x5), .val (.ref b1), .unset, .unset, .unset] [(.int x4), (.int (2 : Int32)), (.ref b1)])) ?_ fun t k => XS.iload X9.here hx rfl (hb hby at_40) rfl  k
      refine own_pre (B := T9.setTop (mkF m 43 #[.val (.long x0), .second, .val (.long x1), .second, .val (.long x2), .second, .val (.long x3), .second, .val (.int x4), .val (.int x5), .val (.ref b1), .unset, .unset, .unset] [(.int (4 : Int32)), (.int x4), (.int (2 : Int32)), (.ref b1)])) ?_ fun t k => XS.iconst X9.here hx rfl (hb hby at_42) k
      refine own_pre (B := T9.setTop (mkF m 44 #[.val (.long x0), .second, .val (.long x1), .second, .val (.long x2), .second, .val (.long x3), .second, .val (.int x4), .val (.int x5), .val (.ref b1), .unset, .unset, .unset] [(.int (x4 &&& (4 : Int32))), (.int (2 : Int32)), (.ref b1)])) ?_ fun t k => XS.iand X9.here hx rfl (hb hby at_43) rfl k
      have Jj11 : ∀ (T12 : State) (l12 : List Loc) (X12 : Stand p l e room_1 s m #[(.long x0), (.long x1), (.long x2), (.long x3), (.int x4), (.int x5)] below meth c T12 l12 1 4) (N12 : Fr n0 l12) (e12 : T12.heap = h9) (j11_s0 : Int64) (hvj11_s0 : j11_s0 = (if (x4 &&& (4 : Int32)) = (0 : Int32) then (0 : Int64) else x2)), own_E p e below s (Q0 Z x0 x1 x2 x3 x4 x5 h0 n0) 16 128 (T12.setTop (mkF m 53 #[.val (.long x0), .second, .val (.long x1), .second, .val (.long x2), .second, .val (.long x3), .second, .val (.int x4), .val (.int x5), .val (.ref b1), .unset, .unset, .unset] [(.long j11_s0), (.int (2 : Int32)), (.ref b1)])) := by
        intro T12 l12 X12 N12 e12 j11_s0 hvj11_s0
        obtain ⟨cl13, Ar13, q13, S13, Nn13, Hh13, Gg13⟩ := id V9
        have hin13 : ¬ ((2 : Int32) < 0 ∨ cl13.slots.size ≤ ((2 : Int32)).toNatClampNeg) := inb_of S13 ⟨by decide, by decide⟩
        obtain ⟨T13, h13, X13, e13, W13, st13⟩ := stJ X12 hx hZ e12 Ar13 (j := (2 : Int32)) hin13 (g := (mkF m 53 #[.val (.long x0), .second, .val (.long x1), .second, .val (.long x2), .second, .val (.long x3), .second, .val (.int x4), .val (.int x5), .val (.ref b1), .unset, .unset, .unset] [(.long j11_s0), (.int (2 : Int32)), (.ref b1)])) rfl rfl (hb hby at_53)
        have V13 : Arv Z h13 b1 k1 .long (4 : Int32) [(.long j3_s0), (.long j7_s0), (.long j11_s0), (.long (0 : Int64))] (.long (0 : Int64)) := Arv.set Ar13 q13 S13 Nn13 Hh13 Gg13 (v := (.long j11_s0)) rfl W13 2 rfl (Nat.le_of_ble_eq_true rfl)
        have N13 := Fr.snoc X13 N12 gz1
        have Z13 : n0 ≤ h13.size := Nat.le_trans Z9 (Keep.of_wr W13).1
        refine own_pre (B := T13.setTop (mkF m 54 #[.val (.long x0), .second, .val (.long x1), .second, .val (.long x2), .second, .val (.long x3), .second, .val (.int x4), .val (.int x5), .val (.ref b1), .unset, .unset, .unset] [])) ?_ st13
        refine own_pre (B := T13.setTop (mkF m 56 #[.val (.long x0), .second, .val (.long x1), .second, .val (.long x2), .second, .val (.long x3), .second, .val (.int x4), .val (.int x5), .val (.ref b1), .unset, .unset, .unset] [(.ref b1)])) ?_ fun t k => XS.aload X13.here hx rfl (hb hby at_54) rfl rfl k
        refine own_pre (B := T13.setTop (mkF m 57 #[.val (.long x0), .second, .val (.long x1), .second, .val (.long x2), .second, .val (.long x3), .second, .val (.int x4), .val (.int x5), .val (.ref b1), .unset, .unset, .unset] [(.int (3 : Int32)), (.ref b1)])) ?_ fun t k => XS.iconst X13.here hx rfl (hb hby at_56) k
        refine own_pre (B := T13.setTop (mkF m 59 #[.val (.long x0), .second, .val (.long x1), .second, .val (.long x2), .second, .val (.long x3), .second, .val (.int x4), .val (.int x5), .val (.ref b1), .unset, .unset, .unset] [(.int x4), (.int (3 : Int32)), (.ref b1)])) ?_ fun t k => XS.iload X13.here hx rfl (hb hby at_57) rfl  k
        refine own_pre (B := T13.setTop (mkF m 61 #[.val (.long x0), .second, .val (.long x1), .second, .val (.long x2), .second, .val (.long x3), .second, .val (.int x4), .val (.int x5), .val (.ref b1), .unset, .unset, .unset] [(.int (8 : Int32)), (.int x4), (.int (3 : Int32)), (.ref b1)])) ?_ fun t k => XS.bipush X13.here hx rfl (hb hby at_59) k
        refine own_pre (B := T13.setTop (mkF m 62 #[.val (.long x0), .second, .val (.long x1), .second, .val (.long x2), .second, .val (.long x3), .second, .val (.int x4), .val (.int x5), .val (.ref b1), .unset, .unset, .unset] [(.int (x4 &&& (8 : Int32))), (.int (3 : Int32)), (.ref b1)])) ?_ fun t k => XS.iand X13.here hx rfl (hb hby at_61) rfl k
        have Jj15 : ∀ (T16 : State) (l16 : List Loc) (X16 : Stand p l e room_1 s m #[(.long x0), (.long x1), (.long x2), (.long x3), (.int x4), (.int x5)] below meth c T16 l16 1 4) (N16 : Fr n0 l16) (e16 : T16.heap = h13) (j15_s0 : Int64) (hvj15_s0 : j15_s0 = (if (x4 &&& (8 : Int32)) = (0 : Int32) then (0 : Int64) else x3)), own_E p e below s (Q0 Z x0 x1 x2 x3 x4 x5 h0 n0) 16 128 (T16.setTop (mkF m 71 #[.val (.long x0), .second, .val (.long x1), .second, .val (.long x2), .second, .val (.long x3), .second, .val (.int x4), .val (.int x5), .val (.ref b1), .unset, .unset, .unset] [(.long j15_s0), (.int (3 : Int32)), (.ref b1)])) := by
          intro T16 l16 X16 N16 e16 j15_s0 hvj15_s0
          obtain ⟨cl17, Ar17, q17, S17, Nn17, Hh17, Gg17⟩ := id V13
          have hin17 : ¬ ((3 : Int32) < 0 ∨ cl17.slots.size ≤ ((3 : Int32)).toNatClampNeg) := inb_of S17 ⟨by decide, by decide⟩
          obtain ⟨T17, h17, X17, e17, W17, st17⟩ := stJ X16 hx hZ e16 Ar17 (j := (3 : Int32)) hin17 (g := (mkF m 71 #[.val (.long x0), .second, .val (.long x1), .second, .val (.long x2), .second, .val (.long x3), .second, .val (.int x4), .val (.int x5), .val (.ref b1), .unset, .unset, .unset] [(.long j15_s0), (.int (3 : Int32)), (.ref b1)])) rfl rfl (hb hby at_71)
          have V17 : Arv Z h17 b1 k1 .long (4 : Int32) [(.long j3_s0), (.long j7_s0), (.long j11_s0), (.long j15_s0)] (.long (0 : Int64)) := Arv.set Ar17 q17 S17 Nn17 Hh17 Gg17 (v := (.long j15_s0)) rfl W17 3 rfl (Nat.le_of_ble_eq_true rfl)
          have N17 := Fr.snoc X17 N16 gz1
          have Z17 : n0 ≤ h17.size := Nat.le_trans Z13 (Keep.of_wr W17).1
          refine own_pre (B := T17.setTop (mkF m 72 #[.val (.long x0), .second, .val (.long x1), .second, .val (.long x2), .second, .val (.long x3), .second, .val (.int x4), .val (.int x5), .val (.ref b1), .unset, .unset, .unset] [])) ?_ st17
          refine own_pre (B := T17.setTop (mkF m 74 #[.val (.long x0), .second, .val (.long x1), .second, .val (.long x2), .second, .val (.long x3), .second, .val (.int x4), .val (.int x5), .val (.ref b1), .unset, .unset, .unset] [(.int x5)])) ?_ fun t k => XS.iload X17.here hx rfl (hb hby at_72) rfl  k
          refine own_pre (B := T17.setTop (mkF m 76 #[.val (.long x0), .second, .val (.long x1), .second, .val (.long x2), .second, .val (.long x3), .second, .val (.int x4), .val (.int x5), .val (.ref b1), .unset, .unset, .unset] [(.int (2147483647 : Int32)), (.int x5)])) ?_ (X17.ldcInt hx hown (mvT hZ (hw _ (List.mem_of_getElem? (i := 1) rfl))) (g := (mkF m 74 #[.val (.long x0), .second, .val (.long x1), .second, .val (.long x2), .second, .val (.long x3), .second, .val (.int x4), .val (.int x5), .val (.ref b1), .unset, .unset, .unset] [(.int x5)])) rfl (hb hby at_74))
          refine own_pre (B := T17.setTop (mkF m 77 #[.val (.long x0), .second, .val (.long x1), .second, .val (.long x2), .second, .val (.long x3), .second, .val (.int x4), .val (.int x5), .val (.ref b1), .unset, .unset, .unset] [(.int (x5 &&& (2147483647 : Int32)))])) ?_ fun t k => XS.iand X17.here hx rfl (hb hby at_76) rfl k
          refine own_pre (B := T17.setTop (mkF m 78 #[.val (.long x0), .second, .val (.long x1), .second, .val (.long x2), .second, .val (.long x3), .second, .val (.int x4), .val (.int x5), .val (.ref b1), .unset, .unset, .unset] [(.int (5 : Int32)), (.int (x5 &&& (2147483647 : Int32)))])) ?_ fun t k => XS.iconst X17.here hx rfl (hb hby at_77) k
          refine own_pre (B := T17.setTop (mkF m 79 #[.val (.long x0), .second, .val (.long x1), .second, .val (.long x2), .second, .val (.long x3), .second, .val (.int x4), .val (.int x5), .val (.ref b1), .unset, .unset, .unset] [(.int ((x5 &&& (2147483647 : Int32)) % (5 : Int32)))])) ?_ fun t k => iremM X17 hx rfl (hb hby at_78) rfl (by decide) k
          refine own_pre (B := T17.setTop (mkF m 81 #[.val (.long x0), .second, .val (.long x1), .second, .val (.long x2), .second, .val (.long x3), .second, .val (.int x4), .val (.int x5), .val (.ref b1), .val (.int ((x5 &&& (2147483647 : Int32)) % (5 : Int32))), .unset, .unset] [])) ?_ fun t k => XS.istore X17.here hx rfl (hb hby at_79) rfl  (l' := #[.val (.long x0), .second, .val (.long x1), .second, .val (.long x2), .second, .val (.long x3), .second, .val (.int x4), .val (.int x5), .val (.ref b1), .val (.int ((x5 &&& (2147483647 : Int32)) % (5 : Int32))), .unset, .unset]) rfl k
          refine own_pre (B := T17.setTop (mkF m 83 #[.val (.long x0), .second, .val (.long x1), .second, .val (.long x2), .second, .val (.long x3), .second, .val (.int x4), .val (.int x5), .val (.ref b1), .val (.int ((x5 &&& (2147483647 : Int32)) % (5 : Int32))), .unset, .unset] [(.int x5)])) ?_ fun t k => XS.iload X17.here hx rfl (hb hby at_81) rfl  k
          refine own_pre (B := T17.setTop (mkF m 84 #[.val (.long x0), .second, .val (.long x1), .second, .val (.long x2), .second, .val (.long x3), .second, .val (.int x4), .val (.int x5), .val (.ref b1), .val (.int ((x5 &&& (2147483647 : Int32)) % (5 : Int32))), .unset, .unset] [(.int (3 : Int32)), (.int x5)])) ?_ fun t k => XS.iconst X17.here hx rfl (hb hby at_83) k
          refine own_pre (B := T17.setTop (mkF m 85 #[.val (.long x0), .second, .val (.long x1), .second, .val (.long x2), .second, .val (.long x3), .second, .val (.int x4), .val (.int x5), .val (.ref b1), .val (.int ((x5 &&& (2147483647 : Int32)) % (5 : Int32))), .unset, .unset] [(.int ((x5.toUInt32 >>> ((3 : Int32) &&& 31).toUInt32).toInt32))])) ?_ fun t k => XS.iushr X17.here hx rfl (hb hby at_84) rfl k
          refine own_pre (B := T17.setTop (mkF m 87 #[.val (.long x0), .second, .val (.long x1), .second, .val (.long x2), .second, .val (.long x3), .second, .val (.int x4), .val (.int x5), .val (.ref b1), .val (.int ((x5 &&& (2147483647 : Int32)) % (5 : Int32))), .unset, .unset] [(.int (2147483647 : Int32)), (.int ((x5.toUInt32 >>> ((3 : Int32) &&& 31).toUInt32).toInt32))])) ?_ (X17.ldcInt hx hown (mvT hZ (hw _ (List.mem_of_getElem? (i := 1) rfl))) (g := (mkF m 85 #[.val (.long x0), .second, .val (.long x1), .second, .val (.long x2), .second, .val (.long x3), .second, .val (.int x4), .val (.int x5), .val (.ref b1), .val (.int ((x5 &&& (2147483647 : Int32)) % (5 : Int32))), .unset, .unset] [(.int ((x5.toUInt32 >>> ((3 : Int32) &&& 31).toUInt32).toInt32))])) rfl (hb hby at_85))
          refine own_pre (B := T17.setTop (mkF m 88 #[.val (.long x0), .second, .val (.long x1), .second, .val (.long x2), .second, .val (.long x3), .second, .val (.int x4), .val (.int x5), .val (.ref b1), .val (.int ((x5 &&& (2147483647 : Int32)) % (5 : Int32))), .unset, .unset] [(.int (((x5.toUInt32 >>> ((3 : Int32) &&& 31).toUInt32).toInt32) &&& (2147483647 : Int32)))])) ?_ fun t k => XS.iand X17.here hx rfl (hb hby at_87) rfl k
          refine own_pre (B := T17.setTop (mkF m 89 #[.val (.long x0), .second, .val (.long x1), .second, .val (.long x2), .second, .val (.long x3), .second, .val (.int x4), .val (.int x5), .val (.ref b1), .val (.int ((x5 &&& (2147483647 : Int32)) % (5 : Int32))), .unset, .unset] [(.int (5 : Int32)), (.int (((x5.toUInt32 >>> ((3 : Int32) &&& 31).toUInt32).toInt32) &&& (2147483647 : Int32)))])) ?_ fun t k => XS.iconst X17.here hx rfl (hb hby at_88) k
          refine own_pre (B := T17.setTop (mkF m 91 #[.val (.long x0), .second, .val (.long x1), .second, .val (.long x2), .second, .val (.long x3), .second, .val (.int x4), .val (.int x5), .val (.ref b1), .val (.int ((x5 &&& (2147483647 : Int32)) % (5 : Int32))), .unset, .unset] [(.int ((x5 &&& (2147483647 : Int32)) % (5 : Int32))), (.int (5 : Int32)), (.int (((x5.toUInt32 >>> ((3 : Int32) &&& 31).toUInt32).toInt32) &&& (2147483647 : Int32)))])) ?_ fun t k => XS.iload X17.here hx rfl (hb hby at_89) rfl  k
          refine own_pre (B := T17.setTop (mkF m 92 #[.val (.long x0), .second, .val (.long x1), .second, .val (.long x2), .second, .val (.long x3), .second, .val (.int x4), .val (.int x5), .val (.ref b1), .val (.int ((x5 &&& (2147483647 : Int32)) % (5 : Int32))), .unset, .unset] [(.int ((5 : Int32) - ((x5 &&& (2147483647 : Int32)) % (5 : Int32)))), (.int (((x5.toUInt32 >>> ((3 : Int32) &&& 31).toUInt32).toInt32) &&& (2147483647 : Int32)))])) ?_ fun t k => XS.isub X17.here hx rfl (hb hby at_91) rfl k
          refine own_pre (B := T17.setTop (mkF m 93 #[.val (.long x0), .second, .val (.long x1), .second, .val (.long x2), .second, .val (.long x3), .second, .val (.int x4), .val (.int x5), .val (.ref b1), .val (.int ((x5 &&& (2147483647 : Int32)) % (5 : Int32))), .unset, .unset] [(.int ((((x5.toUInt32 >>> ((3 : Int32) &&& 31).toUInt32).toInt32) &&& (2147483647 : Int32)) % ((5 : Int32) - ((x5 &&& (2147483647 : Int32)) % (5 : Int32)))))])) ?_ fun t k => iremM X17 hx rfl (hb hby at_92) rfl (own_nz5 x5) k
          refine own_pre (B := T17.setTop (mkF m 95 #[.val (.long x0), .second, .val (.long x1), .second, .val (.long x2), .second, .val (.long x3), .second, .val (.int x4), .val (.int x5), .val (.ref b1), .val (.int ((x5 &&& (2147483647 : Int32)) % (5 : Int32))), .val (.int ((((x5.toUInt32 >>> ((3 : Int32) &&& 31).toUInt32).toInt32) &&& (2147483647 : Int32)) % ((5 : Int32) - ((x5 &&& (2147483647 : Int32)) % (5 : Int32))))), .unset] [])) ?_ fun t k => XS.istore X17.here hx rfl (hb hby at_93) rfl  (l' := #[.val (.long x0), .second, .val (.long x1), .second, .val (.long x2), .second, .val (.long x3), .second, .val (.int x4), .val (.int x5), .val (.ref b1), .val (.int ((x5 &&& (2147483647 : Int32)) % (5 : Int32))), .val (.int ((((x5.toUInt32 >>> ((3 : Int32) &&& 31).toUInt32).toInt32) &&& (2147483647 : Int32)) % ((5 : Int32) - ((x5 &&& (2147483647 : Int32)) % (5 : Int32))))), .unset]) rfl k
          generalize hmfr : ((x5 &&& (2147483647 : Int32)) % (5 : Int32)) = fr
          generalize hmct : ((((x5.toUInt32 >>> ((3 : Int32) &&& 31).toUInt32).toInt32) &&& (2147483647 : Int32)) % ((5 : Int32) - fr)) = ct
          obtain ⟨lo, cnt, hlo, hcnt, hle⟩ := own_rg hmfr hmct
          refine own_pre (B := T17.setTop (mkF m 97 #[.val (.long x0), .second, .val (.long x1), .second, .val (.long x2), .second, .val (.long x3), .second, .val (.int x4), .val (.int x5), .val (.ref b1), .val (.int fr), .val (.int ct), .unset] [(.ref b1)])) ?_ fun t k => XS.aload X17.here hx rfl (hb hby at_95) rfl rfl k
          refine own_pre (B := T17.setTop (mkF m 98 #[.val (.long x0), .second, .val (.long x1), .second, .val (.long x2), .second, .val (.long x3), .second, .val (.int x4), .val (.int x5), .val (.ref b1), .val (.int fr), .val (.int ct), .unset] [(.int (0 : Int32)), (.ref b1)])) ?_ fun t k => XS.iconst X17.here hx rfl (hb hby at_97) k
          obtain ⟨cl18, Ar18, q18, S18, Nn18, Hh18, Gg18⟩ := id V17
          have hin18 : ¬ ((0 : Int32) < 0 ∨ cl18.slots.size ≤ ((0 : Int32)).toNatClampNeg) := inb_of S18 ⟨by decide, by decide⟩
          have hat18 : cl18.slots[((0 : Int32)).toNatClampNeg]? = some (.long j3_s0) := Hh18.at hin18 rfl
          refine own_pre (B := T17.setTop (mkF m 99 #[.val (.long x0), .second, .val (.long x1), .second, .val (.long x2), .second, .val (.long x3), .second, .val (.int x4), .val (.int x5), .val (.ref b1), .val (.int fr), .val (.int ct), .unset] [(.long j3_s0)])) ?_ fun t k => X17.laload hx (j := (0 : Int32)) (v := (.long j3_s0)) (by rw [e17]; exact Ar18.1) (State.isArrayOf_alike hZ.alike Ar18.2.1) Ar18.2.2 hin18 hat18 (g := (mkF m 98 #[.val (.long x0), .second, .val (.long x1), .second, .val (.long x2), .second, .val (.long x3), .second, .val (.int x4), .val (.int x5), .val (.ref b1), .val (.int fr), .val (.int ct), .unset] [(.int (0 : Int32)), (.ref b1)])) rfl rfl (hb hby at_98) t k
          refine own_pre (B := T17.setTop (mkF m 100 #[.val (.long x0), .second, .val (.long x1), .second, .val (.long x2), .second, .val (.long x3), .second, .val (.int x4), .val (.int x5), .val (.ref b1), .val (.int fr), .val (.int ct), .unset] [(.int (0 : Int32)), (.long j3_s0)])) ?_ fun t k => XS.iconst X17.here hx rfl (hb hby at_99) k
          refine own_pre (B := T17.setTop (mkF m 102 #[.val (.long x0), .second, .val (.long x1), .second, .val (.long x2), .second, .val (.long x3), .second, .val (.int x4), .val (.int x5), .val (.ref b1), .val (.int fr), .val (.int ct), .unset] [(.int fr), (.int (0 : Int32)), (.long j3_s0)])) ?_ fun t k => XS.iload X17.here hx rfl (hb hby at_100) rfl  k
          refine own_pre (B := T17.setTop (mkF m 104 #[.val (.long x0), .second, .val (.long x1), .second, .val (.long x2), .second, .val (.long x3), .second, .val (.int x4), .val (.int x5), .val (.ref b1), .val (.int fr), .val (.int ct), .unset] [(.int ct), (.int fr), (.int (0 : Int32)), (.long j3_s0)])) ?_ fun t k => XS.iload X17.here hx rfl (hb hby at_102) rfl  k
          obtain ⟨_, _, ⟨T19, L19, k19, n19⟩, -, X19, ⟨Lc19, hQ19, l19, y19, z19⟩, st19⟩ := Jvm.LawKit.callS X17 hx (y := (⟨"com/example/nimfield/nimfield/NimWordsIsZeroPinLaw", "ok", "(JIII)Z"⟩ : MethodName)) hown (mvT hZ (hw _ (List.mem_of_getElem? (i := 2) rfl))) (mvT hZ (hw _ (List.mem_of_getElem? (i := 3) rfl))) (mvT hZ (hw _ (List.mem_of_getElem? (i := 4) rfl))) (mvT hZ (hw _ (List.mem_of_getElem? (i := 5) rfl))) (by decide) (backOf (W := 0) (rm1 l Z a0 hw [] j3_s0 (0 : Int32) fr ct h17 n0 Z17 ) hZ (hw _ (List.mem_of_getElem? (i := 5) rfl)) (hw _ (List.mem_of_getElem? (i := 4) rfl)) (by decide) (by decide)) (g := (mkF m 104 #[.val (.long x0), .second, .val (.long x1), .second, .val (.long x2), .second, .val (.long x3), .second, .val (.int x4), .val (.int x5), .val (.ref b1), .val (.int fr), .val (.int ct), .unset] [(.int ct), (.int fr), (.int (0 : Int32)), (.long j3_s0)])) rfl (by rw [hml]; rfl) (argsL := [(.long j3_s0), (.int (0 : Int32)), (.int fr), (.int ct)]) (rest := []) (lenOf pd__JIII_Z rfl) rfl (by show 2 * 0 + _ ≤ _; exact Nat.le_of_eq rfl) (hb hby at_104) (fun _ _ => ⟨rfl, e17, (by decide : 1 + 0 ≤ _), (by decide : 4 + 0 ≤ _)⟩)
          dsimp only [Pt.U, Pt.locs, Pt.cells, Pt.slots] at X19 l19 y19 z19 st19 hQ19
          subst l19 y19 z19
          obtain ⟨rfl, Nq19, e19⟩ := hQ19
          have N19 := Fr.app N17 Nq19
          refine own_pre (B := T19.setTop (mkF m 107 #[.val (.long x0), .second, .val (.long x1), .second, .val (.long x2), .second, .val (.long x3), .second, .val (.int x4), .val (.int x5), .val (.ref b1), .val (.int fr), .val (.int ct), .unset] [(.int (own_ok j3_s0 (0 : Int32) fr ct))])) ?_ st19
          have Jj21 : ∀ (T22 : State) (l22 : List Loc) (X22 : Stand p l e room_1 s m #[(.long x0), (.long x1), (.long x2), (.long x3), (.int x4), (.int x5)] below meth c T22 l22 1 4) (N22 : Fr n0 l22) (e22 : T22.heap = h17) (j21_s0 : Int32) (hvj21_s0 : j21_s0 = (if (own_ok j3_s0 (0 : Int32) fr ct) = (0 : Int32) then (0 : Int32) else (if (own_ok j7_s0 (1 : Int32) fr ct) = (0 : Int32) then (0 : Int32) else (if (own_ok j11_s0 (2 : Int32) fr ct) = (0 : Int32) then (0 : Int32) else (if (own_ok j15_s0 (3 : Int32) fr ct) = (0 : Int32) then (0 : Int32) else (1 : Int32)))))), own_E p e below s (Q0 Z x0 x1 x2 x3 x4 x5 h0 n0) 16 128 (T22.setTop (mkF m 160 #[.val (.long x0), .second, .val (.long x1), .second, .val (.long x2), .second, .val (.long x3), .second, .val (.int x4), .val (.int x5), .val (.ref b1), .val (.int fr), .val (.int ct), .unset] [(.int j21_s0)])) := by
            intro T22 l22 X22 N22 e22 j21_s0 hvj21_s0
            refine own_pre (B := T22.setTop (mkF m 162 #[.val (.long x0), .second, .val (.long x1), .second, .val (.long x2), .second, .val (.long x3), .second, .val (.int x4), .val (.int x5), .val (.ref b1), .val (.int fr), .val (.int ct), .val (.int j21_s0)] [])) ?_ fun t k => XS.istore X22.here hx rfl (hb hby at_160) rfl  (l' := #[.val (.long x0), .second, .val (.long x1), .second, .val (.long x2), .second, .val (.long x3), .second, .val (.int x4), .val (.int x5), .val (.ref b1), .val (.int fr), .val (.int ct), .val (.int j21_s0)]) rfl k
            refine own_pre (B := T22.setTop (mkF m 164 #[.val (.long x0), .second, .val (.long x1), .second, .val (.long x2), .second, .val (.long x3), .second, .val (.int x4), .val (.int x5), .val (.ref b1), .val (.int fr), .val (.int ct), .val (.int j21_s0)] [(.ref b1)])) ?_ fun t k => XS.aload X22.here hx rfl (hb hby at_162) rfl rfl k
            refine own_pre (B := T22.setTop (mkF m 166 #[.val (.long x0), .second, .val (.long x1), .second, .val (.long x2), .second, .val (.long x3), .second, .val (.int x4), .val (.int x5), .val (.ref b1), .val (.int fr), .val (.int ct), .val (.int j21_s0)] [(.int fr), (.ref b1)])) ?_ fun t k => XS.iload X22.here hx rfl (hb hby at_164) rfl  k
            refine own_pre (B := T22.setTop (mkF m 168 #[.val (.long x0), .second, .val (.long x1), .second, .val (.long x2), .second, .val (.long x3), .second, .val (.int x4), .val (.int x5), .val (.ref b1), .val (.int fr), .val (.int ct), .val (.int j21_s0)] [(.int ct), (.int fr), (.ref b1)])) ?_ fun t k => XS.iload X22.here hx rfl (hb hby at_166) rfl  k
            have FA23 : own_FA Z h17 b1 .long 4 (fun i => .long (([j3_s0, j7_s0, j11_s0, j15_s0] : List Int64).getD i 0)) := own_FA.ofArv (vs := [j3_s0, j7_s0, j11_s0, j15_s0]) V17
            obtain ⟨_, _, ⟨T23, L23, k23, n23⟩, -, X23, ⟨Lc23, hQ23, l23, y23, z23⟩, st23⟩ := Jvm.LawKit.callS X22 hx (y := (⟨"com/example/nimfield/nimfield/NimWords", "isZero", "([JII)Z"⟩ : MethodName)) hown (mvT hZ (hw _ (List.mem_of_getElem? (i := 6) rfl))) (mvT hZ (hw _ (List.mem_of_getElem? (i := 7) rfl))) (mvT hZ (hw _ (List.mem_of_getElem? (i := 8) rfl))) (mvT hZ (hw _ (List.mem_of_getElem? (i := 9) rfl))) (by decide) (backOf (W := 0) (rm2 l Z a0 hw [] b1 fr ct 4 lo cnt (fun i => ([j3_s0, j7_s0, j11_s0, j15_s0] : List Int64).getD i 0) h17 n0 Z17 FA23 hlo (own_sum hlo hcnt hle) hle) hZ (hw _ (List.mem_of_getElem? (i := 9) rfl)) (hw _ (List.mem_of_getElem? (i := 8) rfl)) (by decide) (by decide)) (g := (mkF m 168 #[.val (.long x0), .second, .val (.long x1), .second, .val (.long x2), .second, .val (.long x3), .second, .val (.int x4), .val (.int x5), .val (.ref b1), .val (.int fr), .val (.int ct), .val (.int j21_s0)] [(.int ct), (.int fr), (.ref b1)])) rfl (by rw [hml]; rfl) (argsL := [(.ref b1), (.int fr), (.int ct)]) (rest := []) (lenOf pd___JII_Z rfl) rfl (by show 2 * 0 + _ ≤ _; exact Nat.le_of_eq rfl) (hb hby at_168) (fun _ _ => ⟨rfl, e22, (by decide : 1 + 0 ≤ _), (by decide : 4 + 0 ≤ _)⟩)
            dsimp only [Pt.U, Pt.locs, Pt.cells, Pt.slots] at X23 l23 y23 z23 st23 hQ23
            subst l23 y23 z23
            obtain ⟨rfl, Nq23, e23⟩ := hQ23
            have N23 := Fr.app N22 Nq23
            refine own_pre (B := T23.setTop (mkF m 171 #[.val (.long x0), .second, .val (.long x1), .second, .val (.long x2), .second, .val (.long x3), .second, .val (.int x4), .val (.int x5), .val (.ref b1), .val (.int fr), .val (.int ct), .val (.int j21_s0)] [(.int (own_az (fun i => ([j3_s0, j7_s0, j11_s0, j15_s0] : List Int64).getD i 0) lo cnt))])) ?_ st23
            refine own_pre (B := T23.setTop (mkF m 173 #[.val (.long x0), .second, .val (.long x1), .second, .val (.long x2), .second, .val (.long x3), .second, .val (.int x4), .val (.int x5), .val (.ref b1), .val (.int fr), .val (.int ct), .val (.int j21_s0)] [(.int j21_s0), (.int (own_az (fun i => ([j3_s0, j7_s0, j11_s0, j15_s0] : List Int64).getD i 0) lo cnt))])) ?_ fun t k => XS.iload X23.here hx rfl (hb hby at_171) rfl  k
            refine own_pre (B := T23.setTop (mkF m 176 #[.val (.long x0), .second, .val (.long x1), .second, .val (.long x2), .second, .val (.long x3), .second, .val (.int x4), .val (.int x5), .val (.ref b1), .val (.int fr), .val (.int ct), .val (.int j21_s0)] [])) ?_ fun t k => XS.icmpNo X23.here hx rfl (hb hby at_173) rfl (teq (own_fin x0 x1 x2 x3 x4 x5 j3_s0 hvj3_s0 j7_s0 hvj7_s0 j11_s0 hvj11_s0 j15_s0 hvj15_s0 fr hmfr ct hmct lo cnt hlo hcnt hle j21_s0 hvj21_s0)).2 k
            refine own_pre (B := T23.setTop (mkF m 177 #[.val (.long x0), .second, .val (.long x1), .second, .val (.long x2), .second, .val (.long x3), .second, .val (.int x4), .val (.int x5), .val (.ref b1), .val (.int fr), .val (.int ct), .val (.int j21_s0)] [(.int (1 : Int32))])) ?_ fun t k => XS.iconst X23.here hx rfl (hb hby at_176) k
            refine own_pre (B := T23.setTop (mkF m 181 #[.val (.long x0), .second, .val (.long x1), .second, .val (.long x2), .second, .val (.long x3), .second, .val (.int x4), .val (.int x5), .val (.ref b1), .val (.int fr), .val (.int ct), .val (.int j21_s0)] [(.int (1 : Int32))])) ?_ fun t k => XS.goto X23.here hx rfl (pc0 := 177) (pc' := 181) rfl (hb hby at_177) (by decide) (by decide) k
            refine own_retN X23 hx hlk (t := .boolean) (z' := (1 : Int32)) Bd.returns (by simp) (hb hby at_181) (by decide) ?_ (by decide) (by decide)
            rw [e23]
            exact ⟨rfl, N23⟩
          by_cases h107_20 : (own_ok j3_s0 (0 : Int32) fr ct) = (0 : Int32)
          · skip
            refine own_pre (B := T19.setTop (mkF m 159 #[.val (.long x0), .second, .val (.long x1), .second, .val (.long x2), .second, .val (.long x3), .second, .val (.int x4), .val (.int x5), .val (.ref b1), .val (.int fr), .val (.int ct), .unset] [])) ?_ fun t k => XS.ifYes X19.here hx rfl (pc0 := 107) (pc' := 159) rfl (hb hby at_107) rfl ((if0 _ _).trans (teq h107_20).1) (by decide) (by decide) k
            refine own_pre (B := T19.setTop (mkF m 160 #[.val (.long x0), .second, .val (.long x1), .second, .val (.long x2), .second, .val (.long x3), .second, .val (.int x4), .val (.int x5), .val (.ref b1), .val (.int fr), .val (.int ct), .unset] [(.int (0 : Int32))])) ?_ fun t k => XS.iconst X19.here hx rfl (hb hby at_159) k
            exact Jj21 T19 _ X19 N19 e19 ((0 : Int32)) (if_pos h107_20).symm
          · skip
            refine own_pre (B := T19.setTop (mkF m 110 #[.val (.long x0), .second, .val (.long x1), .second, .val (.long x2), .second, .val (.long x3), .second, .val (.int x4), .val (.int x5), .val (.ref b1), .val (.int fr), .val (.int ct), .unset] [])) ?_ fun t k => XS.ifNo X19.here hx rfl (hb hby at_107) rfl ((if0 _ _).trans (feq h107_20).1) k
            refine own_pre (B := T19.setTop (mkF m 112 #[.val (.long x0), .second, .val (.long x1), .second, .val (.long x2), .second, .val (.long x3), .second, .val (.int x4), .val (.int x5), .val (.ref b1), .val (.int fr), .val (.int ct), .unset] [(.ref b1)])) ?_ fun t k => XS.aload X19.here hx rfl (hb hby at_110) rfl rfl k
            refine own_pre (B := T19.setTop (mkF m 113 #[.val (.long x0), .second, .val (.long x1), .second, .val (.long x2), .second, .val (.long x3), .second, .val (.int x4), .val (.int x5), .val (.ref b1), .val (.int fr), .val (.int ct), .unset] [(.int (1 : Int32)), (.ref b1)])) ?_ fun t k => XS.iconst X19.here hx rfl (hb hby at_112) k
            obtain ⟨cl24, Ar24, q24, S24, Nn24, Hh24, Gg24⟩ := id V17
            have hin24 : ¬ ((1 : Int32) < 0 ∨ cl24.slots.size ≤ ((1 : Int32)).toNatClampNeg) := inb_of S24 ⟨by decide, by decide⟩
            have hat24 : cl24.slots[((1 : Int32)).toNatClampNeg]? = some (.long j7_s0) := Hh24.at hin24 rfl
            refine own_pre (B := T19.setTop (mkF m 114 #[.val (.long x0), .second, .val (.long x1), .second, .val (.long x2), .second, .val (.long x3), .second, .val (.int x4), .val (.int x5), .val (.ref b1), .val (.int fr), .val (.int ct), .unset] [(.long j7_s0)])) ?_ fun t k => X19.laload hx (j := (1 : Int32)) (v := (.long j7_s0)) (by rw [e19]; exact Ar24.1) (State.isArrayOf_alike hZ.alike Ar24.2.1) Ar24.2.2 hin24 hat24 (g := (mkF m 113 #[.val (.long x0), .second, .val (.long x1), .second, .val (.long x2), .second, .val (.long x3), .second, .val (.int x4), .val (.int x5), .val (.ref b1), .val (.int fr), .val (.int ct), .unset] [(.int (1 : Int32)), (.ref b1)])) rfl rfl (hb hby at_113) t k
            refine own_pre (B := T19.setTop (mkF m 115 #[.val (.long x0), .second, .val (.long x1), .second, .val (.long x2), .second, .val (.long x3), .second, .val (.int x4), .val (.int x5), .val (.ref b1), .val (.int fr), .val (.int ct), .unset] [(.int (1 : Int32)), (.long j7_s0)])) ?_ fun t k => XS.iconst X19.here hx rfl (hb hby at_114) k
            refine own_pre (B := T19.setTop (mkF m 117 #[.val (.long x0), .second, .val (.long x1), .second, .val (.long x2), .second, .val (.long x3), .second, .val (.int x4), .val (.int x5), .val (.ref b1), .val (.int fr), .val (.int ct), .unset] [(.int fr), (.int (1 : Int32)), (.long j7_s0)])) ?_ fun t k => XS.iload X19.here hx rfl (hb hby at_115) rfl  k
            refine own_pre (B := T19.setTop (mkF m 119 #[.val (.long x0), .second, .val (.long x1), .second, .val (.long x2), .second, .val (.long x3), .second, .val (.int x4), .val (.int x5), .val (.ref b1), .val (.int fr), .val (.int ct), .unset] [(.int ct), (.int fr), (.int (1 : Int32)), (.long j7_s0)])) ?_ fun t k => XS.iload X19.here hx rfl (hb hby at_117) rfl  k
            obtain ⟨_, _, ⟨T25, L25, k25, n25⟩, -, X25, ⟨Lc25, hQ25, l25, y25, z25⟩, st25⟩ := Jvm.LawKit.callS X19 hx (y := (⟨"com/example/nimfield/nimfield/NimWordsIsZeroPinLaw", "ok", "(JIII)Z"⟩ : MethodName)) hown (mvT hZ (hw _ (List.mem_of_getElem? (i := 2) rfl))) (mvT hZ (hw _ (List.mem_of_getElem? (i := 3) rfl))) (mvT hZ (hw _ (List.mem_of_getElem? (i := 4) rfl))) (mvT hZ (hw _ (List.mem_of_getElem? (i := 5) rfl))) (by decide) (backOf (W := 0) (rm1 l Z a0 hw [] j7_s0 (1 : Int32) fr ct h17 n0 Z17 ) hZ (hw _ (List.mem_of_getElem? (i := 5) rfl)) (hw _ (List.mem_of_getElem? (i := 4) rfl)) (by decide) (by decide)) (g := (mkF m 119 #[.val (.long x0), .second, .val (.long x1), .second, .val (.long x2), .second, .val (.long x3), .second, .val (.int x4), .val (.int x5), .val (.ref b1), .val (.int fr), .val (.int ct), .unset] [(.int ct), (.int fr), (.int (1 : Int32)), (.long j7_s0)])) rfl (by rw [hml]; rfl) (argsL := [(.long j7_s0), (.int (1 : Int32)), (.int fr), (.int ct)]) (rest := []) (lenOf pd__JIII_Z rfl) rfl (by show 2 * 0 + _ ≤ _; exact Nat.le_of_eq rfl) (hb hby at_119) (fun _ _ => ⟨rfl, e19, (by decide : 1 + 0 ≤ _), (by decide : 4 + 0 ≤ _)⟩)
            dsimp only [Pt.U, Pt.locs, Pt.cells, Pt.slots] at X25 l25 y25 z25 st25 hQ25
            subst l25 y25 z25
            obtain ⟨rfl, Nq25, e25⟩ := hQ25
            have N25 := Fr.app N19 Nq25
            refine own_pre (B := T25.setTop (mkF m 122 #[.val (.long x0), .second, .val (.long x1), .second, .val (.long x2), .second, .val (.long x3), .second, .val (.int x4), .val (.int x5), .val (.ref b1), .val (.int fr), .val (.int ct), .unset] [(.int (own_ok j7_s0 (1 : Int32) fr ct))])) ?_ st25
            by_cases h122_26 : (own_ok j7_s0 (1 : Int32) fr ct) = (0 : Int32)
            · skip
              refine own_pre (B := T25.setTop (mkF m 159 #[.val (.long x0), .second, .val (.long x1), .second, .val (.long x2), .second, .val (.long x3), .second, .val (.int x4), .val (.int x5), .val (.ref b1), .val (.int fr), .val (.int ct), .unset] [])) ?_ fun t k => XS.ifYes X25.here hx rfl (pc0 := 122) (pc' := 159) rfl (hb hby at_122) rfl ((if0 _ _).trans (teq h122_26).1) (by decide) (by decide) k
              refine own_pre (B := T25.setTop (mkF m 160 #[.val (.long x0), .second, .val (.long x1), .second, .val (.long x2), .second, .val (.long x3), .second, .val (.int x4), .val (.int x5), .val (.ref b1), .val (.int fr), .val (.int ct), .unset] [(.int (0 : Int32))])) ?_ fun t k => XS.iconst X25.here hx rfl (hb hby at_159) k
              exact Jj21 T25 _ X25 N25 e25 ((0 : Int32)) ((if_neg h107_20).trans (if_pos h122_26)).symm
            · skip
              refine own_pre (B := T25.setTop (mkF m 125 #[.val (.long x0), .second, .val (.long x1), .second, .val (.long x2), .second, .val (.long x3), .second, .val (.int x4), .val (.int x5), .val (.ref b1), .val (.int fr), .val (.int ct), .unset] [])) ?_ fun t k => XS.ifNo X25.here hx rfl (hb hby at_122) rfl ((if0 _ _).trans (feq h122_26).1) k
              refine own_pre (B := T25.setTop (mkF m 127 #[.val (.long x0), .second, .val (.long x1), .second, .val (.long x2), .second, .val (.long x3), .second, .val (.int x4), .val (.int x5), .val (.ref b1), .val (.int fr), .val (.int ct), .unset] [(.ref b1)])) ?_ fun t k => XS.aload X25.here hx rfl (hb hby at_125) rfl rfl k
              refine own_pre (B := T25.setTop (mkF m 128 #[.val (.long x0), .second, .val (.long x1), .second, .val (.long x2), .second, .val (.long x3), .second, .val (.int x4), .val (.int x5), .val (.ref b1), .val (.int fr), .val (.int ct), .unset] [(.int (2 : Int32)), (.ref b1)])) ?_ fun t k => XS.iconst X25.here hx rfl (hb hby at_127) k
              obtain ⟨cl27, Ar27, q27, S27, Nn27, Hh27, Gg27⟩ := id V17
              have hin27 : ¬ ((2 : Int32) < 0 ∨ cl27.slots.size ≤ ((2 : Int32)).toNatClampNeg) := inb_of S27 ⟨by decide, by decide⟩
              have hat27 : cl27.slots[((2 : Int32)).toNatClampNeg]? = some (.long j11_s0) := Hh27.at hin27 rfl
              refine own_pre (B := T25.setTop (mkF m 129 #[.val (.long x0), .second, .val (.long x1), .second, .val (.long x2), .second, .val (.long x3), .second, .val (.int x4), .val (.int x5), .val (.ref b1), .val (.int fr), .val (.int ct), .unset] [(.long j11_s0)])) ?_ fun t k => X25.laload hx (j := (2 : Int32)) (v := (.long j11_s0)) (by rw [e25]; exact Ar27.1) (State.isArrayOf_alike hZ.alike Ar27.2.1) Ar27.2.2 hin27 hat27 (g := (mkF m 128 #[.val (.long x0), .second, .val (.long x1), .second, .val (.long x2), .second, .val (.long x3), .second, .val (.int x4), .val (.int x5), .val (.ref b1), .val (.int fr), .val (.int ct), .unset] [(.int (2 : Int32)), (.ref b1)])) rfl rfl (hb hby at_128) t k
              refine own_pre (B := T25.setTop (mkF m 130 #[.val (.long x0), .second, .val (.long x1), .second, .val (.long x2), .second, .val (.long x3), .second, .val (.int x4), .val (.int x5), .val (.ref b1), .val (.int fr), .val (.int ct), .unset] [(.int (2 : Int32)), (.long j11_s0)])) ?_ fun t k => XS.iconst X25.here hx rfl (hb hby at_129) k
              refine own_pre (B := T25.setTop (mkF m 132 #[.val (.long x0), .second, .val (.long x1), .second, .val (.long x2), .second, .val (.long x3), .second, .val (.int x4), .val (.int x5), .val (.ref b1), .val (.int fr), .val (.int ct), .unset] [(.int fr), (.int (2 : Int32)), (.long j11_s0)])) ?_ fun t k => XS.iload X25.here hx rfl (hb hby at_130) rfl  k
              refine own_pre (B := T25.setTop (mkF m 134 #[.val (.long x0), .second, .val (.long x1), .second, .val (.long x2), .second, .val (.long x3), .second, .val (.int x4), .val (.int x5), .val (.ref b1), .val (.int fr), .val (.int ct), .unset] [(.int ct), (.int fr), (.int (2 : Int32)), (.long j11_s0)])) ?_ fun t k => XS.iload X25.here hx rfl (hb hby at_132) rfl  k
              obtain ⟨_, _, ⟨T28, L28, k28, n28⟩, -, X28, ⟨Lc28, hQ28, l28, y28, z28⟩, st28⟩ := Jvm.LawKit.callS X25 hx (y := (⟨"com/example/nimfield/nimfield/NimWordsIsZeroPinLaw", "ok", "(JIII)Z"⟩ : MethodName)) hown (mvT hZ (hw _ (List.mem_of_getElem? (i := 2) rfl))) (mvT hZ (hw _ (List.mem_of_getElem? (i := 3) rfl))) (mvT hZ (hw _ (List.mem_of_getElem? (i := 4) rfl))) (mvT hZ (hw _ (List.mem_of_getElem? (i := 5) rfl))) (by decide) (backOf (W := 0) (rm1 l Z a0 hw [] j11_s0 (2 : Int32) fr ct h17 n0 Z17 ) hZ (hw _ (List.mem_of_getElem? (i := 5) rfl)) (hw _ (List.mem_of_getElem? (i := 4) rfl)) (by decide) (by decide)) (g := (mkF m 134 #[.val (.long x0), .second, .val (.long x1), .second, .val (.long x2), .second, .val (.long x3), .second, .val (.int x4), .val (.int x5), .val (.ref b1), .val (.int fr), .val (.int ct), .unset] [(.int ct), (.int fr), (.int (2 : Int32)), (.long j11_s0)])) rfl (by rw [hml]; rfl) (argsL := [(.long j11_s0), (.int (2 : Int32)), (.int fr), (.int ct)]) (rest := []) (lenOf pd__JIII_Z rfl) rfl (by show 2 * 0 + _ ≤ _; exact Nat.le_of_eq rfl) (hb hby at_134) (fun _ _ => ⟨rfl, e25, (by decide : 1 + 0 ≤ _), (by decide : 4 + 0 ≤ _)⟩)
              dsimp only [Pt.U, Pt.locs, Pt.cells, Pt.slots] at X28 l28 y28 z28 st28 hQ28
              subst l28 y28 z28
              obtain ⟨rfl, Nq28, e28⟩ := hQ28
              have N28 := Fr.app N25 Nq28
              refine own_pre (B := T28.setTop (mkF m 137 #[.val (.long x0), .second, .val (.long x1), .second, .val (.long x2), .second, .val (.long x3), .second, .val (.int x4), .val (.int x5), .val (.ref b1), .val (.int fr), .val (.int ct), .unset] [(.int (own_ok j11_s0 (2 : Int32) fr ct))])) ?_ st28
              by_cases h137_29 : (own_ok j11_s0 (2 : Int32) fr ct) = (0 : Int32)
              · skip
                refine own_pre (B := T28.setTop (mkF m 159 #[.val (.long x0), .second, .val (.long x1), .second, .val (.long x2), .second, .val (.long x3), .second, .val (.int x4), .val (.int x5), .val (.ref b1), .val (.int fr), .val (.int ct), .unset] [])) ?_ fun t k => XS.ifYes X28.here hx rfl (pc0 := 137) (pc' := 159) rfl (hb hby at_137) rfl ((if0 _ _).trans (teq h137_29).1) (by decide) (by decide) k
                refine own_pre (B := T28.setTop (mkF m 160 #[.val (.long x0), .second, .val (.long x1), .second, .val (.long x2), .second, .val (.long x3), .second, .val (.int x4), .val (.int x5), .val (.ref b1), .val (.int fr), .val (.int ct), .unset] [(.int (0 : Int32))])) ?_ fun t k => XS.iconst X28.here hx rfl (hb hby at_159) k
                exact Jj21 T28 _ X28 N28 e28 ((0 : Int32)) (((if_neg h107_20).trans (if_neg h122_26)).trans (if_pos h137_29)).symm
              · skip
                refine own_pre (B := T28.setTop (mkF m 140 #[.val (.long x0), .second, .val (.long x1), .second, .val (.long x2), .second, .val (.long x3), .second, .val (.int x4), .val (.int x5), .val (.ref b1), .val (.int fr), .val (.int ct), .unset] [])) ?_ fun t k => XS.ifNo X28.here hx rfl (hb hby at_137) rfl ((if0 _ _).trans (feq h137_29).1) k
                refine own_pre (B := T28.setTop (mkF m 142 #[.val (.long x0), .second, .val (.long x1), .second, .val (.long x2), .second, .val (.long x3), .second, .val (.int x4), .val (.int x5), .val (.ref b1), .val (.int fr), .val (.int ct), .unset] [(.ref b1)])) ?_ fun t k => XS.aload X28.here hx rfl (hb hby at_140) rfl rfl k
                refine own_pre (B := T28.setTop (mkF m 143 #[.val (.long x0), .second, .val (.long x1), .second, .val (.long x2), .second, .val (.long x3), .second, .val (.int x4), .val (.int x5), .val (.ref b1), .val (.int fr), .val (.int ct), .unset] [(.int (3 : Int32)), (.ref b1)])) ?_ fun t k => XS.iconst X28.here hx rfl (hb hby at_142) k
                obtain ⟨cl30, Ar30, q30, S30, Nn30, Hh30, Gg30⟩ := id V17
                have hin30 : ¬ ((3 : Int32) < 0 ∨ cl30.slots.size ≤ ((3 : Int32)).toNatClampNeg) := inb_of S30 ⟨by decide, by decide⟩
                have hat30 : cl30.slots[((3 : Int32)).toNatClampNeg]? = some (.long j15_s0) := Hh30.at hin30 rfl
                refine own_pre (B := T28.setTop (mkF m 144 #[.val (.long x0), .second, .val (.long x1), .second, .val (.long x2), .second, .val (.long x3), .second, .val (.int x4), .val (.int x5), .val (.ref b1), .val (.int fr), .val (.int ct), .unset] [(.long j15_s0)])) ?_ fun t k => X28.laload hx (j := (3 : Int32)) (v := (.long j15_s0)) (by rw [e28]; exact Ar30.1) (State.isArrayOf_alike hZ.alike Ar30.2.1) Ar30.2.2 hin30 hat30 (g := (mkF m 143 #[.val (.long x0), .second, .val (.long x1), .second, .val (.long x2), .second, .val (.long x3), .second, .val (.int x4), .val (.int x5), .val (.ref b1), .val (.int fr), .val (.int ct), .unset] [(.int (3 : Int32)), (.ref b1)])) rfl rfl (hb hby at_143) t k
                refine own_pre (B := T28.setTop (mkF m 145 #[.val (.long x0), .second, .val (.long x1), .second, .val (.long x2), .second, .val (.long x3), .second, .val (.int x4), .val (.int x5), .val (.ref b1), .val (.int fr), .val (.int ct), .unset] [(.int (3 : Int32)), (.long j15_s0)])) ?_ fun t k => XS.iconst X28.here hx rfl (hb hby at_144) k
                refine own_pre (B := T28.setTop (mkF m 147 #[.val (.long x0), .second, .val (.long x1), .second, .val (.long x2), .second, .val (.long x3), .second, .val (.int x4), .val (.int x5), .val (.ref b1), .val (.int fr), .val (.int ct), .unset] [(.int fr), (.int (3 : Int32)), (.long j15_s0)])) ?_ fun t k => XS.iload X28.here hx rfl (hb hby at_145) rfl  k
                refine own_pre (B := T28.setTop (mkF m 149 #[.val (.long x0), .second, .val (.long x1), .second, .val (.long x2), .second, .val (.long x3), .second, .val (.int x4), .val (.int x5), .val (.ref b1), .val (.int fr), .val (.int ct), .unset] [(.int ct), (.int fr), (.int (3 : Int32)), (.long j15_s0)])) ?_ fun t k => XS.iload X28.here hx rfl (hb hby at_147) rfl  k
                obtain ⟨_, _, ⟨T31, L31, k31, n31⟩, -, X31, ⟨Lc31, hQ31, l31, y31, z31⟩, st31⟩ := Jvm.LawKit.callS X28 hx (y := (⟨"com/example/nimfield/nimfield/NimWordsIsZeroPinLaw", "ok", "(JIII)Z"⟩ : MethodName)) hown (mvT hZ (hw _ (List.mem_of_getElem? (i := 2) rfl))) (mvT hZ (hw _ (List.mem_of_getElem? (i := 3) rfl))) (mvT hZ (hw _ (List.mem_of_getElem? (i := 4) rfl))) (mvT hZ (hw _ (List.mem_of_getElem? (i := 5) rfl))) (by decide) (backOf (W := 0) (rm1 l Z a0 hw [] j15_s0 (3 : Int32) fr ct h17 n0 Z17 ) hZ (hw _ (List.mem_of_getElem? (i := 5) rfl)) (hw _ (List.mem_of_getElem? (i := 4) rfl)) (by decide) (by decide)) (g := (mkF m 149 #[.val (.long x0), .second, .val (.long x1), .second, .val (.long x2), .second, .val (.long x3), .second, .val (.int x4), .val (.int x5), .val (.ref b1), .val (.int fr), .val (.int ct), .unset] [(.int ct), (.int fr), (.int (3 : Int32)), (.long j15_s0)])) rfl (by rw [hml]; rfl) (argsL := [(.long j15_s0), (.int (3 : Int32)), (.int fr), (.int ct)]) (rest := []) (lenOf pd__JIII_Z rfl) rfl (by show 2 * 0 + _ ≤ _; exact Nat.le_of_eq rfl) (hb hby at_149) (fun _ _ => ⟨rfl, e28, (by decide : 1 + 0 ≤ _), (by decide : 4 + 0 ≤ _)⟩)
                dsimp only [Pt.U, Pt.locs, Pt.cells, Pt.slots] at X31 l31 y31 z31 st31 hQ31
                subst l31 y31 z31
                obtain ⟨rfl, Nq31, e31⟩ := hQ31
                have N31 := Fr.app N28 Nq31
                refine own_pre (B := T31.setTop (mkF m 152 #[.val (.long x0), .second, .val (.long x1), .second, .val (.long x2), .second, .val (.long x3), .second, .val (.int x4), .val (.int x5), .val (.ref b1), .val (.int fr), .val (.int ct), .unset] [(.int (own_ok j15_s0 (3 : Int32) fr ct))])) ?_ st31
                by_cases h152_32 : (own_ok j15_s0 (3 : Int32) fr ct) = (0 : Int32)
                · skip
                  refine own_pre (B := T31.setTop (mkF m 159 #[.val (.long x0), .second, .val (.long x1), .second, .val (.long x2), .second, .val (.long x3), .second, .val (.int x4), .val (.int x5), .val (.ref b1), .val (.int fr), .val (.int ct), .unset] [])) ?_ fun t k => XS.ifYes X31.here hx rfl (pc0 := 152) (pc' := 159) rfl (hb hby at_152) rfl ((if0 _ _).trans (teq h152_32).1) (by decide) (by decide) k
                  refine own_pre (B := T31.setTop (mkF m 160 #[.val (.long x0), .second, .val (.long x1), .second, .val (.long x2), .second, .val (.long x3), .second, .val (.int x4), .val (.int x5), .val (.ref b1), .val (.int fr), .val (.int ct), .unset] [(.int (0 : Int32))])) ?_ fun t k => XS.iconst X31.here hx rfl (hb hby at_159) k
                  exact Jj21 T31 _ X31 N31 e31 ((0 : Int32)) ((((if_neg h107_20).trans (if_neg h122_26)).trans (if_neg h137_29)).trans (if_pos h152_32)).symm
                · skip
                  refine own_pre (B := T31.setTop (mkF m 155 #[.val (.long x0), .second, .val (.long x1), .second, .val (.long x2), .second, .val (.long x3), .second, .val (.int x4), .val (.int x5), .val (.ref b1), .val (.int fr), .val (.int ct), .unset] [])) ?_ fun t k => XS.ifNo X31.here hx rfl (hb hby at_152) rfl ((if0 _ _).trans (feq h152_32).1) k
                  refine own_pre (B := T31.setTop (mkF m 156 #[.val (.long x0), .second, .val (.long x1), .second, .val (.long x2), .second, .val (.long x3), .second, .val (.int x4), .val (.int x5), .val (.ref b1), .val (.int fr), .val (.int ct), .unset] [(.int (1 : Int32))])) ?_ fun t k => XS.iconst X31.here hx rfl (hb hby at_155) k
                  refine own_pre (B := T31.setTop (mkF m 160 #[.val (.long x0), .second, .val (.long x1), .second, .val (.long x2), .second, .val (.long x3), .second, .val (.int x4), .val (.int x5), .val (.ref b1), .val (.int fr), .val (.int ct), .unset] [(.int (1 : Int32))])) ?_ fun t k => XS.goto X31.here hx rfl (pc0 := 156) (pc' := 160) rfl (hb hby at_156) (by decide) (by decide) k
                  exact Jj21 T31 _ X31 N31 e31 ((1 : Int32)) ((((if_neg h107_20).trans (if_neg h122_26)).trans (if_neg h137_29)).trans (if_neg h152_32)).symm
        by_cases h62_14 : (x4 &&& (8 : Int32)) = (0 : Int32)
        · skip
          refine own_pre (B := T13.setTop (mkF m 70 #[.val (.long x0), .second, .val (.long x1), .second, .val (.long x2), .second, .val (.long x3), .second, .val (.int x4), .val (.int x5), .val (.ref b1), .unset, .unset, .unset] [(.int (3 : Int32)), (.ref b1)])) ?_ fun t k => XS.ifYes X13.here hx rfl (pc0 := 62) (pc' := 70) rfl (hb hby at_62) rfl ((if0 _ _).trans (teq h62_14).1) (by decide) (by decide) k
          refine own_pre (B := T13.setTop (mkF m 71 #[.val (.long x0), .second, .val (.long x1), .second, .val (.long x2), .second, .val (.long x3), .second, .val (.int x4), .val (.int x5), .val (.ref b1), .unset, .unset, .unset] [(.long (0 : Int64)), (.int (3 : Int32)), (.ref b1)])) ?_ fun t k => XS.lconst X13.here hx rfl (hb hby at_70) k
          exact Jj15 T13 _ X13 N13 e13 ((0 : Int64)) (if_pos h62_14).symm
        · skip
          refine own_pre (B := T13.setTop (mkF m 65 #[.val (.long x0), .second, .val (.long x1), .second, .val (.long x2), .second, .val (.long x3), .second, .val (.int x4), .val (.int x5), .val (.ref b1), .unset, .unset, .unset] [(.int (3 : Int32)), (.ref b1)])) ?_ fun t k => XS.ifNo X13.here hx rfl (hb hby at_62) rfl ((if0 _ _).trans (feq h62_14).1) k
          refine own_pre (B := T13.setTop (mkF m 67 #[.val (.long x0), .second, .val (.long x1), .second, .val (.long x2), .second, .val (.long x3), .second, .val (.int x4), .val (.int x5), .val (.ref b1), .unset, .unset, .unset] [(.long x3), (.int (3 : Int32)), (.ref b1)])) ?_ fun t k => XS.lload X13.here hx rfl (hb hby at_65) rfl  k
          refine own_pre (B := T13.setTop (mkF m 71 #[.val (.long x0), .second, .val (.long x1), .second, .val (.long x2), .second, .val (.long x3), .second, .val (.int x4), .val (.int x5), .val (.ref b1), .unset, .unset, .unset] [(.long x3), (.int (3 : Int32)), (.ref b1)])) ?_ fun t k => XS.goto X13.here hx rfl (pc0 := 67) (pc' := 71) rfl (hb hby at_67) (by decide) (by decide) k
          exact Jj15 T13 _ X13 N13 e13 (x3) (if_neg h62_14).symm
      by_cases h44_10 : (x4 &&& (4 : Int32)) = (0 : Int32)
      · skip
        refine own_pre (B := T9.setTop (mkF m 52 #[.val (.long x0), .second, .val (.long x1), .second, .val (.long x2), .second, .val (.long x3), .second, .val (.int x4), .val (.int x5), .val (.ref b1), .unset, .unset, .unset] [(.int (2 : Int32)), (.ref b1)])) ?_ fun t k => XS.ifYes X9.here hx rfl (pc0 := 44) (pc' := 52) rfl (hb hby at_44) rfl ((if0 _ _).trans (teq h44_10).1) (by decide) (by decide) k
        refine own_pre (B := T9.setTop (mkF m 53 #[.val (.long x0), .second, .val (.long x1), .second, .val (.long x2), .second, .val (.long x3), .second, .val (.int x4), .val (.int x5), .val (.ref b1), .unset, .unset, .unset] [(.long (0 : Int64)), (.int (2 : Int32)), (.ref b1)])) ?_ fun t k => XS.lconst X9.here hx rfl (hb hby at_52) k
        exact Jj11 T9 _ X9 N9 e9 ((0 : Int64)) (if_pos h44_10).symm
      · skip
        refine own_pre (B := T9.setTop (mkF m 47 #[.val (.long x0), .second, .val (.long x1), .second, .val (.long x2), .second, .val (.long x3), .second, .val (.int x4), .val (.int x5), .val (.ref b1), .unset, .unset, .unset] [(.int (2 : Int32)), (.ref b1)])) ?_ fun t k => XS.ifNo X9.here hx rfl (hb hby at_44) rfl ((if0 _ _).trans (feq h44_10).1) k
        refine own_pre (B := T9.setTop (mkF m 49 #[.val (.long x0), .second, .val (.long x1), .second, .val (.long x2), .second, .val (.long x3), .second, .val (.int x4), .val (.int x5), .val (.ref b1), .unset, .unset, .unset] [(.long x2), (.int (2 : Int32)), (.ref b1)])) ?_ fun t k => XS.lload X9.here hx rfl (hb hby at_47) rfl  k
        refine own_pre (B := T9.setTop (mkF m 53 #[.val (.long x0), .second, .val (.long x1), .second, .val (.long x2), .second, .val (.long x3), .second, .val (.int x4), .val (.int x5), .val (.ref b1), .unset, .unset, .unset] [(.long x2), (.int (2 : Int32)), (.ref b1)])) ?_ fun t k => XS.goto X9.here hx rfl (pc0 := 49) (pc' := 53) rfl (hb hby at_49) (by decide) (by decide) k
        exact Jj11 T9 _ X9 N9 e9 (x2) (if_neg h44_10).symm
    by_cases h28_6 : (x4 &&& (2 : Int32)) = (0 : Int32)
    · skip
      refine own_pre (B := T5.setTop (mkF m 35 #[.val (.long x0), .second, .val (.long x1), .second, .val (.long x2), .second, .val (.long x3), .second, .val (.int x4), .val (.int x5), .val (.ref b1), .unset, .unset, .unset] [(.int (1 : Int32)), (.ref b1)])) ?_ fun t k => XS.ifYes X5.here hx rfl (pc0 := 28) (pc' := 35) rfl (hb hby at_28) rfl ((if0 _ _).trans (teq h28_6).1) (by decide) (by decide) k
      refine own_pre (B := T5.setTop (mkF m 36 #[.val (.long x0), .second, .val (.long x1), .second, .val (.long x2), .second, .val (.long x3), .second, .val (.int x4), .val (.int x5), .val (.ref b1), .unset, .unset, .unset] [(.long (0 : Int64)), (.int (1 : Int32)), (.ref b1)])) ?_ fun t k => XS.lconst X5.here hx rfl (hb hby at_35) k
      exact Jj7 T5 _ X5 N5 e5 ((0 : Int64)) (if_pos h28_6).symm
    · skip
      refine own_pre (B := T5.setTop (mkF m 31 #[.val (.long x0), .second, .val (.long x1), .second, .val (.long x2), .second, .val (.long x3), .second, .val (.int x4), .val (.int x5), .val (.ref b1), .unset, .unset, .unset] [(.int (1 : Int32)), (.ref b1)])) ?_ fun t k => XS.ifNo X5.here hx rfl (hb hby at_28) rfl ((if0 _ _).trans (feq h28_6).1) k
      refine own_pre (B := T5.setTop (mkF m 32 #[.val (.long x0), .second, .val (.long x1), .second, .val (.long x2), .second, .val (.long x3), .second, .val (.int x4), .val (.int x5), .val (.ref b1), .unset, .unset, .unset] [(.long x1), (.int (1 : Int32)), (.ref b1)])) ?_ fun t k => XS.lloadN X5.here hx rfl (hb hby at_31) rfl  k
      refine own_pre (B := T5.setTop (mkF m 36 #[.val (.long x0), .second, .val (.long x1), .second, .val (.long x2), .second, .val (.long x3), .second, .val (.int x4), .val (.int x5), .val (.ref b1), .unset, .unset, .unset] [(.long x1), (.int (1 : Int32)), (.ref b1)])) ?_ fun t k => XS.goto X5.here hx rfl (pc0 := 32) (pc' := 36) rfl (hb hby at_32) (by decide) (by decide) k
      exact Jj7 T5 _ X5 N5 e5 (x1) (if_neg h28_6).symm
  by_cases h12_2 : (x4 &&& (1 : Int32)) = (0 : Int32)
  · skip
    refine own_pre (B := T1.setTop (mkF m 19 #[.val (.long x0), .second, .val (.long x1), .second, .val (.long x2), .second, .val (.long x3), .second, .val (.int x4), .val (.int x5), .val (.ref b1), .unset, .unset, .unset] [(.int (0 : Int32)), (.ref b1)])) ?_ fun t k => XS.ifYes X1.here hx rfl (pc0 := 12) (pc' := 19) rfl (hb hby at_12) rfl ((if0 _ _).trans (teq h12_2).1) (by decide) (by decide) k
    refine own_pre (B := T1.setTop (mkF m 20 #[.val (.long x0), .second, .val (.long x1), .second, .val (.long x2), .second, .val (.long x3), .second, .val (.int x4), .val (.int x5), .val (.ref b1), .unset, .unset, .unset] [(.long (0 : Int64)), (.int (0 : Int32)), (.ref b1)])) ?_ fun t k => XS.lconst X1.here hx rfl (hb hby at_19) k
    exact Jj3 T1 _ X1 N0 e1 ((0 : Int64)) (if_pos h12_2).symm
  · skip
    refine own_pre (B := T1.setTop (mkF m 15 #[.val (.long x0), .second, .val (.long x1), .second, .val (.long x2), .second, .val (.long x3), .second, .val (.int x4), .val (.int x5), .val (.ref b1), .unset, .unset, .unset] [(.int (0 : Int32)), (.ref b1)])) ?_ fun t k => XS.ifNo X1.here hx rfl (hb hby at_12) rfl ((if0 _ _).trans (feq h12_2).1) k
    refine own_pre (B := T1.setTop (mkF m 16 #[.val (.long x0), .second, .val (.long x1), .second, .val (.long x2), .second, .val (.long x3), .second, .val (.int x4), .val (.int x5), .val (.ref b1), .unset, .unset, .unset] [(.long x0), (.int (0 : Int32)), (.ref b1)])) ?_ fun t k => XS.lloadN X1.here hx rfl (hb hby at_15) rfl  k
    refine own_pre (B := T1.setTop (mkF m 20 #[.val (.long x0), .second, .val (.long x1), .second, .val (.long x2), .second, .val (.long x3), .second, .val (.int x4), .val (.int x5), .val (.ref b1), .unset, .unset, .unset] [(.long x0), (.int (0 : Int32)), (.ref b1)])) ?_ fun t k => XS.goto X1.here hx rfl (pc0 := 16) (pc' := 20) rfl (hb hby at_16) (by decide) (by decide) k
    exact Jj3 T1 _ X1 N0 e1 (x0) (if_neg h12_2).symm
set_option maxRecDepth 65536 in
set_option maxHeartbeats 40000000 in
theorem comes_1 {Post : Tables → Env → Array Value → State → Outcome → State → Prop} (hpost : ∀ tb e args s v u, (limb_1_1.after args s (.returned v) u = true ∧ limb_1_2.after args s (.returned v) u = true ∧ True) → FrameEnd s (.returned v) u (Jvm.fieldLocs frame_1_writes args s ++ Jvm.arrayLocs frame_1_arrays args s ++ Jvm.staticLocs frame_1_statics s) 16 128 → Post tb e args s (.returned v) u) :
    ArmFor flags0 classFile x code maxLocals ret World_1 tables_1 room_1 Calls_1 rest_1 Pre_1 Post := by
  intro l hfl _ _ p e ha hc hk s m args below hf hA hF happ hP
  obtain ⟨hcalls, hrest, hpre⟩ := hP
  obtain ⟨-, -, -, hnamed, -, -, -, hat⟩ := (Spec.applies_iff hf).mp happ
  obtain ⟨hg, hn⟩ := and_e (Cond.before_iff.mp (show (Jvm.Cond.and given_1 narrow_1).before args s = true from hpre))
  obtain ⟨g1, g2⟩ := and_e hg
  obtain ⟨g3, g4⟩ := and_e g2
  obtain ⟨g5, g6⟩ := and_e g4
  obtain ⟨g7, g8⟩ := and_e g6
  obtain ⟨g9, g10⟩ := and_e g8
  obtain ⟨g11, g12⟩ := and_e g10
  obtain ⟨w0, w1, w2, w3, w4, w5, rfl⟩ : ∃ w0 w1 w2 w3 w4 w5 : Value, args = #[w0, w1, w2, w3, w4, w5] := by
    have hs : args.size = 6 := by simpa [Cond.value, given_1] using g1
    obtain ⟨L⟩ := args
    match L, hs with
    | [w0, w1, w2, w3, w4, w5], _ => exact ⟨w0, w1, w2, w3, w4, w5, rfl⟩
  have hw := fun d (hd : d ∈ tables_1) => atoms_spec (ws := Jvm.Cond.code x code maxLocals ret :: tables_1) hat d (List.mem_cons_of_mem _ hd)
  have hfit : Fit s := fun {y c} hc i hi => by
    obtain ⟨ha, rfl⟩ := Array.getElem?_eq_some_iff.mp hc
    have q := List.all_eq_true.mp ((Array.all_eq_true_iff_forall_mem.mp hF) _ (Array.getElem_mem ha)) i (List.mem_range.mpr hi)
    simpa [Array.getElem?_eq_getElem hi] using q
  obtain ⟨i0, ei0⟩ := isL_v g3
  obtain rfl : w0 = (.long i0) := Option.some.inj ei0
  obtain ⟨i1, ei1⟩ := isL_v g5
  obtain rfl : w1 = (.long i1) := Option.some.inj ei1
  obtain ⟨i2, ei2⟩ := isL_v g7
  obtain rfl : w2 = (.long i2) := Option.some.inj ei2
  obtain ⟨i3, ei3⟩ := isL_v g9
  obtain rfl : w3 = (.long i3) := Option.some.inj ei3
  obtain ⟨i4, ei4⟩ := is_v g11
  obtain rfl : w4 = (.int i4) := Option.some.inj ei4
  obtain ⟨i5, ei5⟩ := is_v g12
  obtain rfl : w5 = (.int i5) := Option.some.inj ei5
  obtain ⟨n, o, h1, h2, h3, _, L, rfl, ⟨rfl, N⟩, hq⟩ := rm0 l s _ hw tables_1 i0 i1 i2 i3 i4 i5  s.heap s.heap.size (Nat.le_refl _)  p e ha hc hk s m _ below hf ((Spec.applies_iff_loose hf).mp happ).1 ⟨rfl, State.Warmed39.refl s, rfl⟩ trivial
  refine ⟨n, _, h1, h2, h3, hpost _ _ _ _ _ _ ⟨Cond.after_iff.mpr rfl, Cond.after_iff.mpr (eq_i res_at (Term.int_eval (1)) rfl), trivial⟩ ⟨hq.1, hq.2.1, (hq.2.2.sift fun y hy => Or.inr (N y hy)).mono (by decide) (by decide)⟩⟩
theorem main_1_1 : Claimed_1_1 := comes_1 fun _ _ _ _ _ _ h hF => ⟨h.1, hF⟩
theorem main_1_2 : Claimed_1_2 := comes_1 fun _ _ _ _ _ _ h hF => ⟨h.2.1, hF⟩
end Jvm.Pilot.@@N@@
namespace Jvm.Pilot.@@N@@
open Jvm Jvm.ClassFile Sem Op Lib Jvm.Free Jvm.Stand Jvm.Pilot.@@N@@.Jvm.D
/-! MADE BY PROGRAM (witnessworld.py) out of the Statement's table words and the real class files: 11 classes; the members and pool entries that the words name. The judged class is class 1, her method 1. -/
namespace start1
open Jvm.ClassFile
def u (s : String) : CpInfo := .utf8 (stringToUtf16 s)
/-- a pool by its gaps: so many unusable entries, then the entry; so many at the end -/
def gap : Nat → List CpInfo → List CpInfo
  | 0, r => r
  | n + 1, r => .unusable :: gap n r
def poolList (es : List (Nat × CpInfo)) (last : Nat) : List CpInfo := es.foldr (fun e r => gap e.1 (e.2 :: r)) (gap last [])
def pool (es : List (Nat × CpInfo)) (last : Nat) : Array CpInfo := ⟨poolList es last⟩
def fileOf (pool : Array CpInfo) (this : Nat) (attrs : Array Attribute := #[]) (ms : Array MethodInfo := #[]) (fl : Nat := 33) (sup : Nat := 0) (ifs : Array Nat := #[]) (fds : Array FieldInfo := #[]) : ClassFile where
  minorVersion := 0
  majorVersion := 65
  constantPool := pool
  accessFlags := fl
  thisClass := this
  superClass := sup
  interfaces := ifs
  fields := fds
  methods := ms
  attributes := attrs
def plain (name : String) (sup : Option ClassId) : Class where
  name := name
  kind := .ordinary
  loader := none
  accessFlags := 33
  super := sup
  interfaces := #[]
  cf := none
  fields := #[]
  methods := #[]
  instanceTypes := #[]
  staticTypes := #[]
  resolved := #[]
  callSites := []
  init := .initialized
  statics := none
  mirror := none

def pool0 : Array CpInfo := pool [(5, u "<init>"), (0, u "()V"), (1, .class_ 10), (1, u "java/lang/Object")] 113

def k0m0 : Method := { name := "<init>", desc := "()V", sig := { parameters := [], returnType := none }, accessFlags := 1, code := none }
/-- java/lang/Object -/
def k0 : Class := { plain "java/lang/Object" none with
  accessFlags := 33
  interfaces := #[]
  cf := some (fileOf pool0 8 #[] #[{ accessFlags := 1, nameIndex := 5, descriptorIndex := 6, attributes := #[] }] 33 0 #[] #[])
  fields := #[]
  methods := #[k0m0]
  instanceTypes := #[]
  staticTypes := #[]
  resolved := Array.replicate 124 none
  statics := none }

def pool1 : Array CpInfo := pool [(2, .class_ 4), (1, u "java/lang/Object"), (0, u "<init>"), (0, u "()V"), (0, .integer 2147483647), (0, .methodref 9 10), (0, .class_ 11), (0, .nameAndType 12 13), (0, u "com/example/nimfield/nimfield/NimWordsIsZeroPinLaw"), (0, u "ok"), (0, u "(JIII)Z"), (0, .methodref 15 16), (0, .class_ 17), (0, .nameAndType 18 19), (0, u "com/example/nimfield/nimfield/NimWords"), (0, u "isZero"), (0, u "([JII)Z"), (2, u "law"), (0, u "(JJJJII)Z")] 5

def k1m0 : Method := { name := "<init>", desc := "()V", sig := { parameters := [], returnType := none }, accessFlags := 1, code := none }
def k1c1 : Code := { maxStack := 5, maxLocals := 14, code := code, exceptionTable := #[], attributes := #[] }
def k1m1 : Method := { name := "law", desc := "(JJJJII)Z", sig := { parameters := [.long, .long, .long, .long, .int, .int], returnType := some .boolean }, accessFlags := 9, code := some k1c1 }
def k1c2 : Code := { maxStack := 4, maxLocals := 5, code := method_3_code, exceptionTable := #[], attributes := #[] }
def k1m2 : Method := { name := "ok", desc := "(JIII)Z", sig := { parameters := [.long, .int, .int, .int], returnType := some .boolean }, accessFlags := 10, code := some k1c2 }
/-- com/example/nimfield/nimfield/NimWordsIsZeroPinLaw -/
def k1 : Class := { plain "com/example/nimfield/nimfield/NimWordsIsZeroPinLaw" (some 0) with
  accessFlags := 49
  interfaces := #[]
  cf := some (fileOf pool1 9 #[] #[{ accessFlags := 1, nameIndex := 5, descriptorIndex := 6, attributes := #[] }, { accessFlags := 9, nameIndex := 22, descriptorIndex := 23, attributes := #[] }, { accessFlags := 10, nameIndex := 12, descriptorIndex := 13, attributes := #[] }] 49 2 #[] #[])
  fields := #[]
  methods := #[k1m0, k1m1, k1m2]
  instanceTypes := #[]
  staticTypes := #[]
  resolved := Array.replicate 29 none
  statics := none }

def pool2 : Array CpInfo := pool [(2, .class_ 4), (1, u "java/lang/Object"), (0, u "<init>"), (0, u "()V"), (7, .class_ 16), (1, u "com/example/nimfield/nimfield/NimWords"), (11, .class_ 30), (1, u "com/example/nimfield/nimfield/NimWords$WordOperation"), (27, u "Ljava/math/BigInteger;"), (62, u "TWO_TO_64"), (14, u "WORD_LEVEL"), (0, u "I"), (19, u "isZero"), (0, u "([JII)Z")] 6

def k2m0 : Method := { name := "<init>", desc := "()V", sig := { parameters := [], returnType := none }, accessFlags := 2, code := none }
def k2c1 : Code := { maxStack := 4, maxLocals := 4, code := prog_13_method_15_code, exceptionTable := #[], attributes := #[] }
def k2m1 : Method := { name := "isZero", desc := "([JII)Z", sig := { parameters := [(.array .long), .int, .int], returnType := some .boolean }, accessFlags := 8, code := some k2c1 }
/-- com/example/nimfield/nimfield/NimWords -/
def k2 : Class := { plain "com/example/nimfield/nimfield/NimWords" (some 0) with
  accessFlags := 48
  interfaces := #[]
  cf := some (fileOf pool2 14 #[.nestMembers #[28]] #[{ accessFlags := 2, nameIndex := 5, descriptorIndex := 6, attributes := #[] }, { accessFlags := 8, nameIndex := 157, descriptorIndex := 158, attributes := #[] }] 48 2 #[] #[{ accessFlags := 24, nameIndex := 136, descriptorIndex := 137, attributes := #[] }, { accessFlags := 26, nameIndex := 121, descriptorIndex := 58, attributes := #[] }])
  fields := #[{ name := "WORD_LEVEL", type := .int, accessFlags := 24, slot := 0, constantValue := 0 }, { name := "TWO_TO_64", type := (.object "java/math/BigInteger"), accessFlags := 26, slot := 1, constantValue := 0 }]
  methods := #[k2m0, k2m1]
  instanceTypes := #[]
  staticTypes := #[.int, (.object "java/math/BigInteger")]
  resolved := Array.replicate 165 none
  statics := none }

def pool3 : Array CpInfo := pool [(1, u "java/lang/Cloneable"), (0, .class_ 1), (0, u "java/lang/Object"), (0, .class_ 3)] 3

/-- java/lang/Cloneable -/
def k3 : Class := { plain "java/lang/Cloneable" (some 0) with
  accessFlags := 1537
  interfaces := #[]
  cf := some (fileOf pool3 2 #[] #[] 1537 4 #[] #[])
  fields := #[]
  methods := #[]
  instanceTypes := #[]
  staticTypes := #[]
  resolved := Array.replicate 8 none
  statics := none }

def pool4 : Array CpInfo := pool [(1, u "java/io/Serializable"), (0, .class_ 1), (0, u "java/lang/Object"), (0, .class_ 3)] 3

/-- java/io/Serializable -/
def k4 : Class := { plain "java/io/Serializable" (some 0) with
  accessFlags := 1537
  interfaces := #[]
  cf := some (fileOf pool4 2 #[] #[] 1537 4 #[] #[])
  fields := #[]
  methods := #[]
  instanceTypes := #[]
  staticTypes := #[]
  resolved := Array.replicate 8 none
  statics := none }

/-- the primitive byte -/
def k5 : Class := { plain "byte" none with kind := .primitive 'B', accessFlags := 0x411 }
/-- [B -/
def k6 : Class := { plain "[B" (some 0) with kind := .array 5 .byte, interfaces := #[3, 4], accessFlags := 1041 }

/-- the primitive int -/
def k7 : Class := { plain "int" none with kind := .primitive 'I', accessFlags := 0x411 }
/-- [I -/
def k8 : Class := { plain "[I" (some 0) with kind := .array 7 .int, interfaces := #[3, 4], accessFlags := 1041 }

/-- the primitive long -/
def k9 : Class := { plain "long" none with kind := .primitive 'J', accessFlags := 0x411 }
/-- [J -/
def k10 : Class := { plain "[J" (some 0) with kind := .array 9 .long, interfaces := #[3, 4], accessFlags := 1041 }

def heap : Heap := #[]
def classes : Array Class := #[k0, k1, k2, k3, k4, k5, k6, k7, k8, k9, k10]
def interned : List (Array UInt16 × Addr) := []
def slotsUsed : Nat := 0
def theMethod : MethodId := ⟨1, 1⟩
def args0 : Array Value := #[.long 1, .long 2, .long 3, .long 4, .int 5, .int 6]
def aboutOver (below : List Frame) : State where
  vm := { classes := classes, interned := interned.toArray }
  heap := heap
  slotsUsed := slotsUsed
  threads := #[{ frames := .invoking theMethod args0 :: below }]
def below0 : List Frame := [.native { method := ⟨0, 0⟩, args := #[] }]
def about1 : State := aboutOver below0
def p0 : Program := .bare "" "" ""
def e0 : Env := launch0.env 0 0 0
theorem w_frames : about1.frames = Frame.invoking theMethod args0 :: below0 := rfl
set_option maxRecDepth 65536 in
theorem w_args : argsFit about1.vm theMethod args0 = true := by decide +kernel
set_option maxRecDepth 65536 in
theorem w_heap : heapFits about1 = true := by decide +kernel
set_option maxRecDepth 65536 in
theorem w_runnable : about1.curStatus? = some .runnable := by decide +kernel
set_option maxRecDepth 65536 in
theorem w_alone : about1.alone = true := by decide +kernel
set_option maxRecDepth 65536 in
theorem w_named : about1.methodNamed? x = some theMethod := by decide +kernel
set_option maxRecDepth 65536 in
theorem w_hears : about1.hears theMethod below0 = true := by decide +kernel
set_option maxRecDepth 65536 in
theorem w_ripe : about1.ripe theMethod args0 below0 = true := by decide +kernel
theorem w_running : about1.status = .running := rfl
set_option maxRecDepth 65536 in
theorem w_room : about1.hasRoom e0.platform room_1 = true :=
  launch0.hasRoom_least _ room_1 (by decide +kernel) (by decide +kernel) (by decide +kernel) (by decide +kernel) (by decide +kernel) (by decide +kernel)
theorem allAtoms_all (ts : List Jvm.Cond) (a : Array Jvm.Value) (st : Jvm.State) : (allAtoms ts).before a st = ts.all (fun c => c.before a st) := by
  induction ts with
  | nil => rfl
  | cons c t ih =>
    show (Jvm.Cond.and c (allAtoms t)).before a st = _
    rw [Jvm.Cond.before_and, ih, List.all_cons]
def words1 : List Jvm.Cond := Jvm.Cond.code x code maxLocals ret :: tables_1
/-- a 'code' word, met by the world's own term for the bytes: nothing is compared byte by byte -/
theorem code_word {y : MethodName} {bytes : ByteArray} {mx : Nat} {rt : Option FieldType} {a : Array Value} {s : State} {m : MethodId} {meth : Method} {c : Code} (h1 : s.methodNamed? y = some m) (h2 : s.vm.method? m = some meth) (h3 : meth.code = some c) (h4 : c.code = bytes)
    (h5 : (c.maxLocals == mx && c.exceptionTable.isEmpty && decide (c.maxStack ≤ mostOperands) && decide (meth.sig.returnType = rt) && !meth.locks && decide (parseMethodDescriptor y.desc = some meth.sig)) = true) : (Jvm.Cond.code y bytes mx rt).before a s = true := by
  simp only [Bool.and_eq_true, beq_iff_eq, Bool.not_eq_true', decide_eq_true_eq] at h5
  obtain ⟨⟨⟨⟨⟨g1, g2⟩, g3⟩, g4⟩, g5⟩, g6⟩ := h5
  simp [Cond.before, Cond.holds, Cond.value, h1, h2, h3, h4, g1, g2, g3, g4, g5, g6]
def isCode : Jvm.Cond → Bool
  | .code _ _ _ _ => true
  | _ => false
theorem all_split {L : List Jvm.Cond} {P : Jvm.Cond → Bool} (h1 : L.all (fun c => isCode c || P c) = true) (h2 : ∀ c ∈ L.filter isCode, P c = true) : L.all P = true := by
  refine List.all_eq_true.mpr fun c hc => ?_
  have h := List.all_eq_true.mp h1 c hc
  rcases Bool.eq_false_or_eq_true (isCode c) with hi | hi
  · exact h2 c (List.mem_filter.mpr ⟨hc, hi⟩)
  · simpa [hi] using h
set_option maxRecDepth 65536 in
theorem w_c0 : (Jvm.Cond.code x code maxLocals ret).before args0 about1 = true := code_word (m := ⟨1, 1⟩) (meth := k1m1) (c := k1c1) (by decide +kernel) rfl rfl rfl (by decide +kernel)
set_option maxRecDepth 65536 in
theorem w_c1 : (Jvm.Cond.code ({ cls := "com/example/nimfield/nimfield/NimWordsIsZeroPinLaw", name := "ok", desc := "(JIII)Z" } : Jvm.MethodName) method_3_code (5 : Nat) (Option.some Jvm.ClassFile.FieldType.boolean)).before args0 about1 = true := code_word (m := ⟨1, 2⟩) (meth := k1m2) (c := k1c2) (by decide +kernel) rfl rfl rfl (by decide +kernel)
set_option maxRecDepth 65536 in
theorem w_c2 : (Jvm.Cond.code ({ cls := "com/example/nimfield/nimfield/NimWords", name := "isZero", desc := "([JII)Z" } : Jvm.MethodName) prog_13_method_15_code (4 : Nat) (Option.some Jvm.ClassFile.FieldType.boolean)).before args0 about1 = true := code_word (m := ⟨2, 1⟩) (meth := k2m1) (c := k2c1) (by decide +kernel) rfl rfl rfl (by decide +kernel)
def codes1 : List Jvm.Cond := [Jvm.Cond.code x code maxLocals ret, Jvm.Cond.code ({ cls := "com/example/nimfield/nimfield/NimWordsIsZeroPinLaw", name := "ok", desc := "(JIII)Z" } : Jvm.MethodName) method_3_code (5 : Nat) (Option.some Jvm.ClassFile.FieldType.boolean), Jvm.Cond.code ({ cls := "com/example/nimfield/nimfield/NimWords", name := "isZero", desc := "([JII)Z" } : Jvm.MethodName) prog_13_method_15_code (4 : Nat) (Option.some Jvm.ClassFile.FieldType.boolean)]
set_option maxRecDepth 65536 in
theorem codes_eq : words1.filter isCode = codes1 := rfl
theorem w_codes : ∀ c ∈ words1.filter isCode, c.before args0 about1 = true := by
  rw [codes_eq]
  intro c hc
  simp only [codes1, List.mem_cons, List.not_mem_nil, or_false] at hc
  rcases hc with rfl | rfl | rfl
  · exact w_c0
  · exact w_c1
  · exact w_c2
set_option maxRecDepth 65536 in
theorem w_t1 : words1.all (fun c => isCode c || c.before args0 about1) = true := by decide +kernel
theorem w_tables : (allAtoms (Jvm.Cond.code x code maxLocals ret :: tables_1)).before args0 about1 = true := by
  rw [allAtoms_all]
  show words1.all (fun c => c.before args0 about1) = true
  refine all_split ?_ w_codes
  rw [w_t1]
set_option maxRecDepth 65536 in
theorem w_case : (Jvm.Cond.and given_1 narrow_1).before args0 about1 = true := by decide +kernel
theorem w_applies : (headSpec (Jvm.Cond.code x code maxLocals ret :: tables_1) room_1).applies x e0.platform about1 = true :=
  (Spec.applies_iff w_frames).mpr ⟨w_running, w_runnable, w_alone, w_named, w_hears, w_ripe, w_room, w_tables⟩
theorem atStart : AtStart classFile x code maxLocals ret World_1 tables_1 room_1 Calls_1 rest_1 Pre_1 launch0 p0 e0 about1 theMethod args0 below0 :=
  ⟨lists_1, trivial, launch0.admits_env _ _ _, launch0.least_env, fairChoices_fair.cas, fairChoices_fair.clock, w_frames, w_args, w_heap, w_applies, trivial, trivial, w_case⟩
end start1
theorem witness_1 : WitnessClaimed_1 := ⟨start1.p0, start1.e0, start1.about1, start1.theMethod, start1.args0, start1.below0, start1.atStart⟩
end Jvm.Pilot.@@N@@
