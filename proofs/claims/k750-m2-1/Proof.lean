import JvmDerived
import JvmDerived.Pilot.@@N@@Statement
import JvmDerived.Pilot.@@N@@Code
set_option linter.unusedVariables false
set_option linter.unusedSimpArgs false
namespace Jvm.Pilot.@@N@@
open Jvm Jvm.ClassFile Sem Op Lib Jvm.Free Jvm.Stand Jvm.LawKit Jvm.RoadKit Bundle Jvm.Pilot.@@N@@.Jvm.D
section Own
variable {p : Program} {l : Launch} {e : Env} {R : Room} {s : State} {m : MethodId} {args : Array Value} {below : List Frame} {meth : Method} {c : Code} {T : State} {locs : List Loc} {cells slots : Nat} {Z : State} {a0 : Array Value} {h : Heap}
/-- from the state A the body ends as Q says, with at most C cells and S slots made -/
def own_E (p : Program) (e : Env) (below : List Frame) (s : State) (Q : Option Value → Heap → List Loc → Prop) (C S : Nat) (A : State) : Prop :=
  ∃ s₂ o, Steps p.tables e below A s₂ ∧ s₂.status = .running ∧ Ended s₂ below o ∧ ∃ v L, o = .returned v ∧ Q v s₂.heap L ∧ FrameEnd s o s₂ L C S
theorem own_pre {Q : Option Value → Heap → List Loc → Prop} {C S : Nat} {A B : State} (h : own_E p e below s Q C S B) (k : ∀ t, Steps p.tables e below B t → Steps p.tables e below A t) : own_E p e below s Q C S A := by
  obtain ⟨s₂, o, h1, h2⟩ := h
  exact ⟨s₂, o, k _ h1, h2⟩
theorem own_out {Q : Option Value → Heap → List Loc → Prop} {C S : Nat} {A : State} (X : Stand p l e R s m args below meth c T locs cells slots) (hk : meth.locks = false) {v : Option Value} (hv : meth.sig.returnType = none → v = none)
    (st : ∀ fs, (∀ (f : JFrame) (acts : List Action), f.method = m → f.locked = none → f.entered = [] → (doReturn e (T.setTop f) acts v).1 = T.setFrames fs) → Steps p.tables e below A (T.setFrames fs))
    (hQ : Q v T.heap locs) (hc : cells ≤ C) (hs : slots ≤ S) : own_E p e below s Q C S A := by
  obtain ⟨fs, hr, hrun, hended, hW, hsame⟩ := X.leave (v := v) hv hk
  exact ⟨_, _, st fs hr, hrun, hended, _, _, rfl, hQ, ⟨_, rfl⟩, hW, hsame.mono hc hs⟩
theorem own_retN {Q : Option Value → Heap → List Loc → Prop} {C S : Nat} (X : Stand p l e R s m args below meth c T locs cells slots) (hx : p.tables.exec = Jvm.exec) (hk : meth.locks = false) {t : FieldType} {pc : Nat} {Ls : Array Slot} {z z' : Int32} {rest : List Value} (hret : meth.sig.returnType = some t) (ht : t = .boolean ∨ t = .byte ∨ t = .char ∨ t = .short) (hd : decode c.code pc = .ok (.ireturn, 1)) (hn : nar t z = z')
    (hQ : Q (some (.int z')) T.heap locs) (hc : cells ≤ C) (hs : slots ≤ S) : own_E p e below s Q C S (T.setTop (mkF m pc Ls (.int z :: rest))) := by
  subst hn
  exact own_out X hk (fun h => by rw [hret] at h; cases h) (fun fs hr => retN X hx hret ht hd hr) hQ hc hs
theorem own_retI {Q : Option Value → Heap → List Loc → Prop} {C S : Nat} (X : Stand p l e R s m args below meth c T locs cells slots) (hx : p.tables.exec = Jvm.exec) (hk : meth.locks = false) {pc : Nat} {Ls : Array Slot} {z : Int32} {rest : List Value} (hret : meth.sig.returnType = some .int) (hd : decode c.code pc = .ok (.ireturn, 1))
    (hQ : Q (some (.int z)) T.heap locs) (hc : cells ≤ C) (hs : slots ≤ S) : own_E p e below s Q C S (T.setTop (mkF m pc Ls (.int z :: rest))) :=
  own_out X hk (fun h => by rw [hret] at h; cases h) (fun fs hr => retOut X hx hret rfl (Or.inl ⟨rfl, Or.inl rfl, z, rfl⟩) hd hr) hQ hc hs
theorem own_retJ {Q : Option Value → Heap → List Loc → Prop} {C S : Nat} (X : Stand p l e R s m args below meth c T locs cells slots) (hx : p.tables.exec = Jvm.exec) (hk : meth.locks = false) {pc : Nat} {Ls : Array Slot} {z : Int64} {rest : List Value} (hret : meth.sig.returnType = some .long) (hd : decode c.code pc = .ok (.lreturn, 1))
    (hQ : Q (some (.long z)) T.heap locs) (hc : cells ≤ C) (hs : slots ≤ S) : own_E p e below s Q C S (T.setTop (mkF m pc Ls (.long z :: rest))) :=
  own_out X hk (fun h => by rw [hret] at h; cases h) (fun fs hr => retOut X hx hret rfl (Or.inr (Or.inl ⟨rfl, rfl, z, rfl⟩)) hd hr) hQ hc hs
theorem own_nar_ref {t : FieldType} {w : Value} (hw : w.isRef = true) (ht : t.isReference = true) : narrow t w = w := by
  rcases ref_cases hw with rfl | ⟨z, rfl⟩ <;> cases t <;> first | rfl | (cases ht; done)
theorem own_fit_ref {t : FieldType} {w : Value} (hw : w.isRef = true) (ht : t.isReference = true) : fits t w = true := by
  rcases ref_cases hw with rfl | ⟨z, rfl⟩ <;> cases t <;> first | rfl | (cases ht; done)
theorem own_retA {Q : Option Value → Heap → List Loc → Prop} {C S : Nat} (X : Stand p l e R s m args below meth c T locs cells slots) (hx : p.tables.exec = Jvm.exec) (hk : meth.locks = false) {t : FieldType} {pc : Nat} {Ls : Array Slot} {w : Value} {rest : List Value} (hret : meth.sig.returnType = some t) (ht : t.isReference = true) (hw : w.isRef = true) (hd : decode c.code pc = .ok (.areturn, 1))
    (hQ : Q (some w) T.heap locs) (hc : cells ≤ C) (hs : slots ≤ S) : own_E p e below s Q C S (T.setTop (mkF m pc Ls (w :: rest))) :=
  own_out X hk (fun h => by rw [hret] at h; cases h) (fun fs hr => retOut X hx hret (own_nar_ref hw ht) (Or.inr (Or.inr (Or.inr (Or.inr ⟨rfl, ht, hw⟩)))) hd hr) hQ hc hs
theorem own_retV {Q : Option Value → Heap → List Loc → Prop} {C S : Nat} (X : Stand p l e R s m args below meth c T locs cells slots) (hx : p.tables.exec = Jvm.exec) (hk : meth.locks = false) {pc : Nat} {Ls : Array Slot} (hret : meth.sig.returnType = none) (hd : decode c.code pc = .ok (.return_, 1))
    (hQ : Q none T.heap locs) (hc : cells ≤ C) (hs : slots ≤ S) : own_E p e below s Q C S (T.setTop (mkF m pc Ls [])) :=
  own_out X hk (fun _ => rfl) (fun fs hr => X.returnOut hx hret hd hr) hQ hc hs
theorem own_lrem {g : JFrame} {target : State} (X : Stand p l e R s m args below meth c T locs cells slots) (hx : p.tables.exec = Jvm.exec) (hg : g.method = m) {x y : Int64} {rest : List Value} (hd : decode c.code g.pc = .ok (.lrem, 1)) (hs : g.stack = .long y :: .long x :: rest) (hy : y ≠ 0)
    (hr : Steps p.tables e below (T.setTop { g with pc := g.pc + 1, stack := .long (x % y) :: rest }) target) : Steps p.tables e below (T.setTop g) target :=
  XS.lrem X.here hx hg hd hs hy (by rw [lrem_mod]; exact hr)
end Own
section OwnArr
variable {Z : State} {h h' : Heap} {a b : Addr} {ty : FieldType} {n : Nat} {g : Nat → Value} {ws : List Addr} {sl : Nat} {v : Value}
/-- in heap h the array at b, of the kind ty, has n places; the place i holds g i -/
def own_FA (Z : State) (h : Heap) (b : Addr) (ty : FieldType) (n : Nat) (g : Nat → Value) : Prop := n < 2 ^ 31 ∧ ∃ c : Cell, Arr Z h b c ty ∧ c.slots.size = n ∧ ∀ i, i < n → c.slots[i]? = some (g i)
theorem own_FA.lt (F : own_FA Z h b ty n g) : b < h.size := by obtain ⟨_, c, A, -⟩ := F; exact A.lt
theorem own_FA.ext (F : own_FA Z h b ty n g) (E : Ext h h') : own_FA Z h' b ty n g := by obtain ⟨q, c, A, r⟩ := F; exact ⟨q, c, A.ext E, r⟩
theorem own_FA.other (F : own_FA Z h b ty n g) (W : Wr h h' a sl v) (q : b ≠ a) : own_FA Z h' b ty n g := by obtain ⟨q', c, A, r⟩ := F; exact ⟨q', c, A.other W q, r⟩
theorem own_FA.keep (F : own_FA Z h b ty n g) (K : Keep h h' ws) (q : b ∉ ws) : own_FA Z h' b ty n g := by obtain ⟨q', c, A, r⟩ := F; exact ⟨q', c, ⟨K.2.1 _ _ A.1 q, A.2⟩, r⟩
theorem own_FA.set (F : own_FA Z h b ty n g) (W : Wr h h' b sl v) : own_FA Z h' b ty n (fun i => if i = sl then v else g i) := by
  obtain ⟨q, c, A, S, H⟩ := F
  have A' := A.same W
  obtain ⟨cell, h1, h2, h3, -⟩ := W
  cases A.1.symm.trans h1
  refine ⟨q, _, A', by rw [sz_set]; exact S, fun i hi => ?_⟩
  by_cases e : i = sl
  · subst e; simp [Cell.setSlot, S, hi]
  · simp only [Cell.setSlot, e, if_false]
    rw [Array.getElem?_setIfInBounds_ne (Ne.symm e)]; exact H i hi
theorem own_FA.new {k : ClassId} {z : Int32} (A : Arr Z h b (newA k ty z) ty) (q : ¬ z < 0) : own_FA Z h b ty z.toNatClampNeg (fun _ => defaultValue ty) := by
  refine ⟨(back32 q).2, _, A, sz_new _ _ _, fun i hi => by simp [newA, hi]⟩
theorem own_FA.eq {g' : Nat → Value} (F : own_FA Z h b ty n g) (e : ∀ i, i < n → g i = g' i) : own_FA Z h b ty n g' := by obtain ⟨q, c, A, S, H⟩ := F; exact ⟨q, c, A, S, fun i hi => by rw [← e i hi]; exact H i hi⟩
def own_up {α : Type} (f : Nat → α) (j : Nat) (x : α) : Nat → α := fun i => if i = j then x else f i
theorem own_FA.setJ {f : Nat → Int64} {x : Int64} (F : own_FA Z h b ty n (fun i => .long (f i))) (W : Wr h h' b sl (.long x)) : own_FA Z h' b ty n (fun i => .long (own_up f sl x i)) :=
  (F.set W).eq fun i _ => by by_cases e : i = sl <;> simp [own_up, e]
theorem own_FA.setI {f : Nat → Int32} {x : Int32} (F : own_FA Z h b ty n (fun i => .int (f i))) (W : Wr h h' b sl (.int x)) : own_FA Z h' b ty n (fun i => .int (own_up f sl x i)) :=
  (F.set W).eq fun i _ => by by_cases e : i = sl <;> simp [own_up, e]
theorem own_hin {c : Cell} {j : Int32} {i : Nat} (S : c.slots.size = n) (cl : j.toNatClampNeg = i) (hn : ¬ j < 0) (hi : i < n) : ¬ (j < 0 ∨ c.slots.size ≤ j.toNatClampNeg) := by
  rw [S, cl]; exact fun q => q.elim hn fun q => absurd hi (Nat.not_lt.mpr q)
theorem own_hat {c : Cell} {j : Int32} {i : Nat} (H : ∀ i, i < n → c.slots[i]? = some (g i)) (cl : j.toNatClampNeg = i) (hi : i < n) : c.slots[j.toNatClampNeg]? = some (g i) := by
  rw [cl]; exact H i hi
theorem own_i1 {i : Nat} (hi : i < 2 ^ 31) : (Int32.ofNat i).toInt = (i : Int) := toInt_of rfl hi
theorem own_ic {i : Nat} (hi : i < 2 ^ 31) : (Int32.ofNat i).toNatClampNeg = i := clamp_of rfl hi
theorem own_in0 {i : Nat} (hi : i < 2 ^ 31) : ¬ (Int32.ofNat i) < 0 := by rw [Int32.lt_iff_toInt_lt, own_i1 hi]; simp only [Int32.reduceToInt]; omega
theorem own_selfsel {s : State} {args : Array Value} {y z : MethodName} (hz : z.cls = y.cls) (nf : NotFace s z) (hzi : (Cond.instanceMethod z).before args s = true) (hpriv : s.PrivateAt y) (hinst : (Cond.instanceMethod y).before args s = true) (hy : y.cls ≠ "java/lang/invoke/MethodHandle" ∧ y.cls ≠ "java/lang/invoke/VarHandle") : (Cond.selects y.cls y y).before args s = true := by
  obtain ⟨mk, methM, hnamed, -⟩ := Cond.instanceMethod_spec hzi
  obtain ⟨k, hk, hni⟩ := nf mk hnamed
  have hc := findClass_of_methodNamed hnamed
  rw [hz] at hc
  exact selects_self_of_private hc hk hni hpriv hinst hy
end OwnArr

theorem own_olt {i n : Nat} (hi : i < 2 ^ 31) (hn : n < 2 ^ 31) : Int32.ofNat i < Int32.ofNat n ↔ i < n := by
  rw [Int32.lt_iff_toInt_lt, own_i1 hi, own_i1 hn]; omega
def own_low (i : Nat) : Int64 := Int64.ofNat (2 ^ i - 1)
def own_lp (i : Nat) : Nat → Int64 := fun j => if j ≤ i then own_low j else 0
theorem own_lp_at (i : Nat) : own_lp i i = own_low i := if_pos (Nat.le_refl _)
theorem own_lp_next (i : Nat) (hi : i < 7) : (own_low i ||| ((1 : Int64) <<< ((Int32.ofNat i) &&& 0x3f).toInt64)) = own_low (i + 1) := by
  have q : i = 0 ∨ i = 1 ∨ i = 2 ∨ i = 3 ∨ i = 4 ∨ i = 5 ∨ i = 6 := by omega
  rcases q with rfl | rfl | rfl | rfl | rfl | rfl | rfl <;> decide
theorem own_lp_succ (i j : Nat) : own_up (own_lp i) (i + 1) (own_low (i + 1)) j = own_lp (i + 1) j := by
  unfold own_up own_lp
  by_cases h1 : j = i + 1
  · subst h1; simp
  · by_cases h2 : j ≤ i
    · simp [h1, h2, Nat.le_succ_of_le h2]
    · simp [h1, h2, show ¬ j ≤ i + 1 by omega]
theorem d5_0 : decode jdk_29_method_65_code 0 = .ok (.iload_n 0, 1) := by decide +kernel
theorem d5_1 : decode jdk_29_method_65_code 1 = .ok (.iload_n 1, 1) := by decide +kernel
theorem d5_2 : decode jdk_29_method_65_code 2 = .ok (.if_icmp .lt 7, 3) := by decide +kernel
theorem d5_9 : decode jdk_29_method_65_code 9 = .ok (.iload_n 1, 1) := by decide +kernel
theorem d5_10 : decode jdk_29_method_65_code 10 = .ok (.ireturn, 1) := by decide +kernel
theorem d5_5 : decode jdk_29_method_65_code 5 = .ok (.iload_n 0, 1) := by decide +kernel
theorem d5_6 : decode jdk_29_method_65_code 6 = .ok (.goto 4, 3) := by decide +kernel
def own_max (x0 : Int32) (x1 : Int32) : Int32 := (if x0 < x1 then x1 else x0)
set_option maxHeartbeats 4000000 in
theorem ef_5 (m : MethodId) (x0 : Int32) (x1 : Int32) : entryFrame m #[(.int x0), (.int x1)] 2 = mkF m 0 #[.val (.int x0), .val (.int x1)] [] := by first | (simp [entryFrame, mkF, argsToLocals, Value.category]; done) | rfl
def Q5 (Z : State) (x0 : Int32) (x1 : Int32) (h0 : Heap) (n0 : Nat) (v : Option Value) (h : Heap) (L : List Loc) : Prop := v = some (.int (own_max x0 x1)) ∧ Fr n0 L ∧ h = h0
set_option maxRecDepth 65536 in
set_option maxHeartbeats 40000000 in
theorem rm5 (l : Launch) (Z : State) (a0 : Array Value) (hw : ∀ d ∈ tables_1, d.before a0 Z = true) (ws : List Jvm.Cond) (x0 : Int32) (x1 : Int32) (h0 : Heap) (n0 : Nat) (Z0 : n0 ≤ h0.size) :
    MetFree l (⟨"java/lang/Math", "max", "(II)I"⟩ : MethodName) (head1 (Jvm.Cond.code (⟨"java/lang/Math", "max", "(II)I"⟩ : MethodName) jdk_29_method_65_code 2 (some .int) :: ws) ({ frames := 0, cells := 0, slots := 0, locals := 0 } : Room)) (fun a U => a = #[(.int x0), (.int x1)] ∧ Z.Warmed39 U.vm ∧ U.heap = h0) (fun _ _ _ _ _ => True) (fun _ U o U' => ∃ v L, o = .returned v ∧ Q5 Z x0 x1 h0 n0 v U'.heap L ∧ FrameEnd U o U' L ({ frames := 0, cells := 0, slots := 0, locals := 0 } : Room).cells ({ frames := 0, cells := 0, slots := 0, locals := 0 } : Room).slots) := by
  refine MetFree.of_bodySF (Jvm.Free.JP.mathPlain rfl (by decide +kernel)) hisR ?_
  intro p e s m args below meth c s₁ Bd hml0 hP hK
  obtain ⟨rfl, hZ, hh⟩ := hP
  have hx := Bd.exec
  have hby := Bd.bytes
  have hml : c.maxLocals = 2 := hml0
  have hown : s.vm.findClass "java/lang/Math" = some m.cls := findClass_of_methodNamed Bd.named
  have hnm := (name_of_methodNamed Bd.named Bd.method).1
  have hlk : meth.locks = false := BodyLoose.notSynchronized Bd
  have X0 : Stand p l e ({ frames := 0, cells := 0, slots := 0, locals := 0 } : Room) s m #[(.int x0), (.int x1)] below meth c s₁ [] 0 0 := Stand.of_body Bd
  have e0 : s₁.heap = h0 := by rw [← hh, Bd.state]; rfl
  have N0 := Fr.nil n0
  show own_E p e below s (Q5 Z x0 x1 h0 n0) 0 0 (s₁.setTop (entryFrame m #[(.int x0), (.int x1)] 2))
  refine own_pre (B := s₁.setTop (mkF m 0 #[.val (.int x0), .val (.int x1)] [])) ?_ (fun t_ k_ => castTop (ef_5 m x0 x1) k_)
  refine own_pre (B := s₁.setTop (mkF m 1 #[.val (.int x0), .val (.int x1)] [(.int x0)])) ?_ fun t_ k_ => XS.iloadN X0.here hx rfl (hb hby d5_0) rfl  k_
  refine own_pre (B := s₁.setTop (mkF m 2 #[.val (.int x0), .val (.int x1)] [(.int x1), (.int x0)])) ?_ fun t_ k_ => XS.iloadN X0.here hx rfl (hb hby d5_1) rfl  k_
  by_cases h2_1 : x0 < x1
  · skip
    refine own_pre (B := s₁.setTop (mkF m 9 #[.val (.int x0), .val (.int x1)] [])) ?_ fun t_ k_ => XS.icmpYes X0.here hx rfl (pc0 := 2) (pc' := 9) rfl (hb hby d5_2) rfl (tlt h2_1).1 (by decide) (by decide) k_
    refine own_pre (B := s₁.setTop (mkF m 10 #[.val (.int x0), .val (.int x1)] [(.int x1)])) ?_ fun t_ k_ => XS.iloadN X0.here hx rfl (hb hby d5_9) rfl  k_
    refine own_retI X0 hx hlk Bd.returns (hb hby d5_10) ?_ (by decide) (by decide)
    rw [e0]
    exact ⟨by rw [own_max, if_pos h2_1], N0, rfl⟩
  · skip
    refine own_pre (B := s₁.setTop (mkF m 5 #[.val (.int x0), .val (.int x1)] [])) ?_ fun t_ k_ => XS.icmpNo X0.here hx rfl (hb hby d5_2) rfl (flt h2_1).1 k_
    refine own_pre (B := s₁.setTop (mkF m 6 #[.val (.int x0), .val (.int x1)] [(.int x0)])) ?_ fun t_ k_ => XS.iloadN X0.here hx rfl (hb hby d5_5) rfl  k_
    refine own_pre (B := s₁.setTop (mkF m 10 #[.val (.int x0), .val (.int x1)] [(.int x0)])) ?_ fun t_ k_ => XS.goto X0.here hx rfl (pc0 := 6) (pc' := 10) rfl (hb hby d5_6) (by decide) (by decide) k_
    refine own_retI X0 hx hlk Bd.returns (hb hby d5_10) ?_ (by decide) (by decide)
    rw [e0]
    exact ⟨by rw [own_max, if_neg h2_1], N0, rfl⟩
theorem d1_0 : decode prog_2_method_1_code 0 = .ok (.aload_n 0, 1) := by decide +kernel
theorem d1_1 : decode prog_2_method_1_code 1 = .ok (.invokespecial 1, 3) := by decide +kernel
theorem d1_4 : decode prog_2_method_1_code 4 = .ok (.aload_n 0, 1) := by decide +kernel
theorem d1_5 : decode prog_2_method_1_code 5 = .ok (.bipush 32, 2) := by decide +kernel
theorem d1_7 : decode prog_2_method_1_code 7 = .ok (.newarray .int, 2) := by decide +kernel
theorem d1_9 : decode prog_2_method_1_code 9 = .ok (.putfield 9, 3) := by decide +kernel
theorem d1_12 : decode prog_2_method_1_code 12 = .ok (.aload_n 0, 1) := by decide +kernel
theorem d1_13 : decode prog_2_method_1_code 13 = .ok (.iconst 1, 1) := by decide +kernel
theorem d1_14 : decode prog_2_method_1_code 14 = .ok (.newarray .int, 2) := by decide +kernel
theorem d1_16 : decode prog_2_method_1_code 16 = .ok (.dup, 1) := by decide +kernel
theorem d1_17 : decode prog_2_method_1_code 17 = .ok (.iconst 0, 1) := by decide +kernel
theorem d1_18 : decode prog_2_method_1_code 18 = .ok (.iconst 0, 1) := by decide +kernel
theorem d1_19 : decode prog_2_method_1_code 19 = .ok (.iastore, 1) := by decide +kernel
theorem d1_20 : decode prog_2_method_1_code 20 = .ok (.putfield 15, 3) := by decide +kernel
theorem d1_23 : decode prog_2_method_1_code 23 = .ok (.aload_n 0, 1) := by decide +kernel
theorem d1_24 : decode prog_2_method_1_code 24 = .ok (.iconst 1, 1) := by decide +kernel
theorem d1_25 : decode prog_2_method_1_code 25 = .ok (.newarray .byte, 2) := by decide +kernel
theorem d1_27 : decode prog_2_method_1_code 27 = .ok (.dup, 1) := by decide +kernel
theorem d1_28 : decode prog_2_method_1_code 28 = .ok (.iconst 0, 1) := by decide +kernel
theorem d1_29 : decode prog_2_method_1_code 29 = .ok (.iconst 0, 1) := by decide +kernel
theorem d1_30 : decode prog_2_method_1_code 30 = .ok (.bastore, 1) := by decide +kernel
theorem d1_31 : decode prog_2_method_1_code 31 = .ok (.putfield 18, 3) := by decide +kernel
theorem d1_34 : decode prog_2_method_1_code 34 = .ok (.return_, 1) := by decide +kernel
theorem pn_com_example_nimfield_nimfield_FewestCoins : plainName "com/example/nimfield/nimfield/FewestCoins" = true := by first | (simp [plainName, overriddenIn]; done) | decide +kernel
set_option maxHeartbeats 4000000 in
theorem ef_1 (m : MethodId) (x0 : Addr) : entryFrame m #[(.ref x0)] 1 = mkF m 0 #[.val (.ref x0)] [] := by first | (simp [entryFrame, mkF, argsToLocals, Value.category]; done) | rfl
def Q1 (Z : State) (x0 : Addr) (h0 : Heap) (n0 : Nat) (v : Option Value) (h : Heap) (L : List Loc) : Prop := v = none ∧ Fr n0 L ∧ Keep h0 h [x0] ∧ ∃ t sa tb, Exa Z h x0 "com/example/nimfield/nimfield/FewestCoins" ∧ (n0 ≤ t ∧ n0 ≤ sa ∧ n0 ≤ tb ∧ x0 ≠ t ∧ x0 ≠ sa ∧ x0 ≠ tb ∧ t ≠ sa ∧ t ≠ tb ∧ sa ≠ tb) ∧ Fld Z h x0 "com/example/nimfield/nimfield/FewestCoins" "bits" "I" (.int (Int32.ofNat 0)) ∧ Fld Z h x0 "com/example/nimfield/nimfield/FewestCoins" "typeOf" "[I" (.ref t) ∧ Fld Z h x0 "com/example/nimfield/nimfield/FewestCoins" "sizes" "[I" (.ref sa) ∧ Fld Z h x0 "com/example/nimfield/nimfield/FewestCoins" "table" "[B" (.ref tb) ∧ own_FA Z h t .int 32 (fun i => .int ((fun _ => 0) i)) ∧ own_FA Z h sa .int 1 (fun i => .int ((fun _ => Int32.ofNat 0) i)) ∧ own_FA Z h tb .byte 1 (fun i => .int ((fun _ => 0) i))
set_option maxRecDepth 65536 in
set_option maxHeartbeats 40000000 in
theorem rm1 (l : Launch) (Z : State) (a0 : Array Value) (hw : ∀ d ∈ tables_1, d.before a0 Z = true) (ws : List Jvm.Cond) (x0 : Addr) (h0 : Heap) (n0 : Nat) (Z0 : n0 ≤ h0.size) (E_x0 : Exa Z h0 x0 "com/example/nimfield/nimfield/FewestCoins") (F_b : Fld Z h0 x0 "com/example/nimfield/nimfield/FewestCoins" "bits" "I" (.int (0 : Int32))) (F_t : Fld Z h0 x0 "com/example/nimfield/nimfield/FewestCoins" "typeOf" "[I" .null) (F_s : Fld Z h0 x0 "com/example/nimfield/nimfield/FewestCoins" "sizes" "[I" .null) (F_ta : Fld Z h0 x0 "com/example/nimfield/nimfield/FewestCoins" "table" "[B" .null) (g_x0 : n0 ≤ x0) :
    MetFree l (⟨"com/example/nimfield/nimfield/FewestCoins", "<init>", "()V"⟩ : MethodName) (head1 (Jvm.Cond.code (⟨"com/example/nimfield/nimfield/FewestCoins", "<init>", "()V"⟩ : MethodName) prog_2_method_1_code 1 none :: ws) ({ frames := 1, cells := 3, slots := 34, locals := 12 } : Room)) (fun a U => a = #[(.ref x0)] ∧ Z.Warmed39 U.vm ∧ U.heap = h0) (fun _ _ _ _ _ => True) (fun _ U o U' => ∃ v L, o = .returned v ∧ Q1 Z x0 h0 n0 v U'.heap L ∧ FrameEnd U o U' L ({ frames := 1, cells := 3, slots := 34, locals := 12 } : Room).cells ({ frames := 1, cells := 3, slots := 34, locals := 12 } : Room).slots) := by
  refine MetFree.of_bodySF (plainFor_of_name pn_com_example_nimfield_nimfield_FewestCoins) hisR ?_
  intro p e s m args below meth c s₁ Bd hml0 hP hK
  obtain ⟨rfl, hZ, hh⟩ := hP
  have hx := Bd.exec
  have hby := Bd.bytes
  have hml : c.maxLocals = 1 := hml0
  have hown : s.vm.findClass "com/example/nimfield/nimfield/FewestCoins" = some m.cls := findClass_of_methodNamed Bd.named
  have hnm := (name_of_methodNamed Bd.named Bd.method).1
  have hlk : meth.locks = false := BodyLoose.notSynchronized Bd
  have X0 : Stand p l e ({ frames := 1, cells := 3, slots := 34, locals := 12 } : Room) s m #[(.ref x0)] below meth c s₁ [] 0 0 := Stand.of_body Bd
  have e0 : s₁.heap = h0 := by rw [← hh, Bd.state]; rfl
  have N0 := Fr.nil n0
  show own_E p e below s (Q1 Z x0 h0 n0) 3 34 (s₁.setTop (entryFrame m #[(.ref x0)] 1))
  refine own_pre (B := s₁.setTop (mkF m 0 #[.val (.ref x0)] [])) ?_ (fun t_ k_ => castTop (ef_1 m x0) k_)
  refine own_pre (B := s₁.setTop (mkF m 1 #[.val (.ref x0)] [(.ref x0)])) ?_ fun t_ k_ => XS.aloadN X0.here hx rfl (hb hby d1_0) rfl rfl k_
  obtain ⟨T1, X1, e1, st1⟩ := initO X0 hx hZ hown (hw _ (List.mem_of_getElem? (i := 6) rfl)) (hw _ (List.mem_of_getElem? (i := 7) rfl)) (hw _ (List.mem_of_getElem? (i := 8) rfl)) e0 (g := (mkF m 1 #[.val (.ref x0)] [(.ref x0)])) rfl (by rw [hml]; rfl) rfl (hb hby d1_1) (by decide) (W := 0) (by show 2 * 0 + _ ≤ _; exact Nat.le_of_eq rfl) (by decide)
  refine own_pre (B := T1.setTop (mkF m 4 #[.val (.ref x0)] [])) ?_ st1
  refine own_pre (B := T1.setTop (mkF m 5 #[.val (.ref x0)] [(.ref x0)])) ?_ fun t_ k_ => XS.aloadN X1.here hx rfl (hb hby d1_4) rfl rfl k_
  refine own_pre (B := T1.setTop (mkF m 7 #[.val (.ref x0)] [(.int (32 : Int32)), (.ref x0)])) ?_ fun t_ k_ => XS.bipush X1.here hx rfl (hb hby d1_5) k_
  obtain ⟨T2, h2, k2, X2, e2, E2, A2, st2⟩ := newP X1 hx hZ (hw _ (List.mem_of_getElem? (i := 9) rfl)) e1 (g := (mkF m 7 #[.val (.ref x0)] [(.int (32 : Int32)), (.ref x0)])) rfl (hb hby d1_7) rfl (by decide) (cap := 32) (by decide) (by decide) (by decide) (by decide)
  obtain ⟨b2, g2⟩ : ∃ z, z = h0.size := ⟨_, rfl⟩
  rw [← g2] at A2 st2
  have ne3 : x0 ≠ b2 := Nat.ne_of_lt (Nat.lt_of_lt_of_le E_x0.lt (Nat.le_of_eq g2.symm))
  have Z2 : n0 ≤ h2.size := Nat.le_trans Z0 E2.1
  have gz2 : n0 ≤ b2 := Nat.le_trans Z0 (Nat.le_of_eq g2.symm)
  have sz2 : h0.size ≤ b2 := Nat.le_trans (Keep.refl h0 [x0]).1 (Nat.le_of_eq g2.symm)
  have K2 := (Keep.refl h0 [x0]).ext E2
  have V2 : own_FA Z h2 b2 .int ((32 : Int32)).toNatClampNeg (fun i => .int ((fun _ => 0) i)) := own_FA.new A2 (by decide)
  rw [show (32 : Int32).toNatClampNeg = 32 from rfl] at V2
  refine own_pre (B := T2.setTop (mkF m 9 #[.val (.ref x0)] [(.ref b2), (.ref x0)])) ?_ st2
  have f4 := (E_x0.ext E2)
  have f5 := (F_t.ext E2)
  obtain ⟨T6, h6, X6, e6, W6, st6⟩ := putF X2 hx hZ hown (host := "") (Or.inl (hw _ (List.mem_of_getElem? (i := 10) rfl))) Via.refl e2 f5 f4 (Or.inr ⟨(hw _ (List.mem_of_getElem? (i := 11) rfl)), rfl, hnm⟩) (hw _ (List.mem_of_getElem? (i := 1) rfl)) (ty := (.array .int)) (by decide) rfl rfl (g := (mkF m 9 #[.val (.ref x0)] [(.ref b2), (.ref x0)])) rfl rfl (hb hby d1_9)
  have f7 := f5.same W6
  have N6 := Fr.snoc X6 N0 g_x0
  have Z6 : n0 ≤ h6.size := Nat.le_trans Z2 (Keep.of_wr W6).1
  have K6 := K2.wr W6 (Or.inl (by simp))
  refine own_pre (B := T6.setTop (mkF m 12 #[.val (.ref x0)] [])) ?_ st6
  refine own_pre (B := T6.setTop (mkF m 13 #[.val (.ref x0)] [(.ref x0)])) ?_ fun t_ k_ => XS.aloadN X6.here hx rfl (hb hby d1_12) rfl rfl k_
  refine own_pre (B := T6.setTop (mkF m 14 #[.val (.ref x0)] [(.int (1 : Int32)), (.ref x0)])) ?_ fun t_ k_ => XS.iconst X6.here hx rfl (hb hby d1_13) k_
  obtain ⟨T8, h8, k8, X8, e8, E8, A8, st8⟩ := newP X6 hx hZ (hw _ (List.mem_of_getElem? (i := 9) rfl)) e6 (g := (mkF m 14 #[.val (.ref x0)] [(.int (1 : Int32)), (.ref x0)])) rfl (hb hby d1_14) rfl (by decide) (cap := 1) (by decide) (by decide) (by decide) (by decide)
  obtain ⟨b8, g8⟩ : ∃ z, z = h6.size := ⟨_, rfl⟩
  rw [← g8] at A8 st8
  have f10 := (f4.wr W6)
  have ne9 : x0 ≠ b8 := Nat.ne_of_lt (Nat.lt_of_lt_of_le f10.lt (Nat.le_of_eq g8.symm))
  have f12 := (V2.other W6 (Ne.symm ne3))
  have ne11 : b2 ≠ b8 := Nat.ne_of_lt (Nat.lt_of_lt_of_le f12.lt (Nat.le_of_eq g8.symm))
  have Z8 : n0 ≤ h8.size := Nat.le_trans Z6 E8.1
  have gz8 : n0 ≤ b8 := Nat.le_trans Z6 (Nat.le_of_eq g8.symm)
  have sz8 : h0.size ≤ b8 := Nat.le_trans K6.1 (Nat.le_of_eq g8.symm)
  have K8 := K6.ext E8
  have V8 : own_FA Z h8 b8 .int ((1 : Int32)).toNatClampNeg (fun i => .int ((fun _ => 0) i)) := own_FA.new A8 (by decide)
  rw [show (1 : Int32).toNatClampNeg = 1 from rfl] at V8
  refine own_pre (B := T8.setTop (mkF m 16 #[.val (.ref x0)] [(.ref b8), (.ref x0)])) ?_ st8
  refine own_pre (B := T8.setTop (mkF m 17 #[.val (.ref x0)] [(.ref b8), (.ref b8), (.ref x0)])) ?_ fun t_ k_ => XS.dup X8.here hx rfl (hb hby d1_16) rfl rfl k_
  refine own_pre (B := T8.setTop (mkF m 18 #[.val (.ref x0)] [(.int (0 : Int32)), (.ref b8), (.ref b8), (.ref x0)])) ?_ fun t_ k_ => XS.iconst X8.here hx rfl (hb hby d1_17) k_
  refine own_pre (B := T8.setTop (mkF m 19 #[.val (.ref x0)] [(.int (0 : Int32)), (.int (0 : Int32)), (.ref b8), (.ref b8), (.ref x0)])) ?_ fun t_ k_ => XS.iconst X8.here hx rfl (hb hby d1_18) k_
  obtain ⟨Ln13, cl13, Ar13, S13, Hh13⟩ := id V8
  have hin13 := own_hin (j := (0 : Int32)) (i := 0) S13 (by decide) (by decide) (by omega)
  obtain ⟨T13, h13, X13, e13, W13, st13⟩ := stI X8 hx hZ e8 Ar13 (j := (0 : Int32)) hin13 (g := (mkF m 19 #[.val (.ref x0)] [(.int (0 : Int32)), (.int (0 : Int32)), (.ref b8), (.ref b8), (.ref x0)])) rfl rfl (hb hby d1_19)
  have A13 : own_FA Z h13 b8 .int 1 (fun zz => .int ((own_up (fun _ => 0) 0 (0 : Int32)) zz)) := by have q := own_FA.setI V8 W13; rw [show ((0 : Int32)).toNatClampNeg = 0 from (by decide)] at q; exact q
  have N13 := Fr.snoc X13 N6 gz8
  have Z13 : n0 ≤ h13.size := Nat.le_trans Z8 (Keep.of_wr W13).1
  have K13 := K8.wr W13 (Or.inr sz8)
  refine own_pre (B := T13.setTop (mkF m 20 #[.val (.ref x0)] [(.ref b8), (.ref x0)])) ?_ st13
  have f14 := ((f10.ext E8).wr W13)
  have f15 := ((((F_s.ext E2).other W6 (Or.inr (slot_ne (Or.inl (hw _ (List.mem_of_getElem? (i := 13) rfl))) (Or.inr (hw _ (List.mem_of_getElem? (i := 11) rfl))) (by decide) (t := (.array .int)) (t' := (.array .int)) (by decide) (by decide)))).ext E8).other W13 (Or.inl ne9))
  obtain ⟨T16, h16, X16, e16, W16, st16⟩ := putF X13 hx hZ hown (host := "") (Or.inl (hw _ (List.mem_of_getElem? (i := 12) rfl))) Via.refl e13 f15 f14 (Or.inl (hw _ (List.mem_of_getElem? (i := 13) rfl))) (hw _ (List.mem_of_getElem? (i := 1) rfl)) (ty := (.array .int)) (by decide) rfl rfl (g := (mkF m 20 #[.val (.ref x0)] [(.ref b8), (.ref x0)])) rfl rfl (hb hby d1_20)
  have f17 := f15.same W16
  have N16 := Fr.snoc X16 N13 g_x0
  have Z16 : n0 ≤ h16.size := Nat.le_trans Z13 (Keep.of_wr W16).1
  have K16 := K13.wr W16 (Or.inl (by simp))
  refine own_pre (B := T16.setTop (mkF m 23 #[.val (.ref x0)] [])) ?_ st16
  refine own_pre (B := T16.setTop (mkF m 24 #[.val (.ref x0)] [(.ref x0)])) ?_ fun t_ k_ => XS.aloadN X16.here hx rfl (hb hby d1_23) rfl rfl k_
  refine own_pre (B := T16.setTop (mkF m 25 #[.val (.ref x0)] [(.int (1 : Int32)), (.ref x0)])) ?_ fun t_ k_ => XS.iconst X16.here hx rfl (hb hby d1_24) k_
  obtain ⟨T18, h18, k18, X18, e18, E18, A18, st18⟩ := newP X16 hx hZ (hw _ (List.mem_of_getElem? (i := 14) rfl)) e16 (g := (mkF m 25 #[.val (.ref x0)] [(.int (1 : Int32)), (.ref x0)])) rfl (hb hby d1_25) rfl (by decide) (cap := 1) (by decide) (by decide) (by decide) (by decide)
  obtain ⟨b18, g18⟩ : ∃ z, z = h16.size := ⟨_, rfl⟩
  rw [← g18] at A18 st18
  have f20 := (f14.wr W16)
  have ne19 : x0 ≠ b18 := Nat.ne_of_lt (Nat.lt_of_lt_of_le f20.lt (Nat.le_of_eq g18.symm))
  have f22 := (((f12.ext E8).other W13 ne11).other W16 (Ne.symm ne3))
  have ne21 : b2 ≠ b18 := Nat.ne_of_lt (Nat.lt_of_lt_of_le f22.lt (Nat.le_of_eq g18.symm))
  have f24 := (A13.other W16 (Ne.symm ne9))
  have ne23 : b8 ≠ b18 := Nat.ne_of_lt (Nat.lt_of_lt_of_le f24.lt (Nat.le_of_eq g18.symm))
  have Z18 : n0 ≤ h18.size := Nat.le_trans Z16 E18.1
  have gz18 : n0 ≤ b18 := Nat.le_trans Z16 (Nat.le_of_eq g18.symm)
  have sz18 : h0.size ≤ b18 := Nat.le_trans K16.1 (Nat.le_of_eq g18.symm)
  have K18 := K16.ext E18
  have V18 : own_FA Z h18 b18 .byte ((1 : Int32)).toNatClampNeg (fun i => .int ((fun _ => 0) i)) := own_FA.new A18 (by decide)
  rw [show (1 : Int32).toNatClampNeg = 1 from rfl] at V18
  refine own_pre (B := T18.setTop (mkF m 27 #[.val (.ref x0)] [(.ref b18), (.ref x0)])) ?_ st18
  refine own_pre (B := T18.setTop (mkF m 28 #[.val (.ref x0)] [(.ref b18), (.ref b18), (.ref x0)])) ?_ fun t_ k_ => XS.dup X18.here hx rfl (hb hby d1_27) rfl rfl k_
  refine own_pre (B := T18.setTop (mkF m 29 #[.val (.ref x0)] [(.int (0 : Int32)), (.ref b18), (.ref b18), (.ref x0)])) ?_ fun t_ k_ => XS.iconst X18.here hx rfl (hb hby d1_28) k_
  refine own_pre (B := T18.setTop (mkF m 30 #[.val (.ref x0)] [(.int (0 : Int32)), (.int (0 : Int32)), (.ref b18), (.ref b18), (.ref x0)])) ?_ fun t_ k_ => XS.iconst X18.here hx rfl (hb hby d1_29) k_
  obtain ⟨Ln25, cl25, Ar25, S25, Hh25⟩ := id V18
  have hin25 := own_hin (j := (0 : Int32)) (i := 0) S25 (by decide) (by decide) (by omega)
  obtain ⟨T25, h25, X25, e25, W25, st25⟩ := stB X18 hx hZ e18 Ar25 (j := (0 : Int32)) hin25 (g := (mkF m 30 #[.val (.ref x0)] [(.int (0 : Int32)), (.int (0 : Int32)), (.ref b18), (.ref b18), (.ref x0)])) rfl rfl (hb hby d1_30)
  have A25 : own_FA Z h25 b18 .byte 1 (fun zz => .int ((own_up (fun _ => 0) 0 (0 : Int32)) zz)) := by have q := own_FA.setI V18 W25; rw [show ((0 : Int32)).toNatClampNeg = 0 from (by decide)] at q; exact q
  have N25 := Fr.snoc X25 N16 gz18
  have Z25 : n0 ≤ h25.size := Nat.le_trans Z18 (Keep.of_wr W25).1
  have K25 := K18.wr W25 (Or.inr sz18)
  refine own_pre (B := T25.setTop (mkF m 31 #[.val (.ref x0)] [(.ref b18), (.ref x0)])) ?_ st25
  have f26 := ((f20.ext E18).wr W25)
  have f27 := (((((((F_ta.ext E2).other W6 (Or.inr (slot_ne (Or.inl (hw _ (List.mem_of_getElem? (i := 16) rfl))) (Or.inr (hw _ (List.mem_of_getElem? (i := 11) rfl))) (by decide) (t := (.array .byte)) (t' := (.array .int)) (by decide) (by decide)))).ext E8).other W13 (Or.inl ne9)).other W16 (Or.inr (slot_ne (Or.inl (hw _ (List.mem_of_getElem? (i := 16) rfl))) (Or.inl (hw _ (List.mem_of_getElem? (i := 13) rfl))) (by decide) (t := (.array .byte)) (t' := (.array .int)) (by decide) (by decide)))).ext E18).other W25 (Or.inl ne19))
  obtain ⟨T28, h28, X28, e28, W28, st28⟩ := putF X25 hx hZ hown (host := "") (Or.inl (hw _ (List.mem_of_getElem? (i := 15) rfl))) Via.refl e25 f27 f26 (Or.inl (hw _ (List.mem_of_getElem? (i := 16) rfl))) (hw _ (List.mem_of_getElem? (i := 1) rfl)) (ty := (.array .byte)) (by decide) rfl rfl (g := (mkF m 31 #[.val (.ref x0)] [(.ref b18), (.ref x0)])) rfl rfl (hb hby d1_31)
  have f29 := f27.same W28
  have N28 := Fr.snoc X28 N25 g_x0
  have Z28 : n0 ≤ h28.size := Nat.le_trans Z25 (Keep.of_wr W28).1
  have K28 := K25.wr W28 (Or.inl (by simp))
  refine own_pre (B := T28.setTop (mkF m 34 #[.val (.ref x0)] [])) ?_ st28
  have f30 := (f26.wr W28)
  have f31 := ((((((((F_b.ext E2).other W6 (Or.inr (slot_ne (Or.inl (hw _ (List.mem_of_getElem? (i := 31) rfl))) (Or.inr (hw _ (List.mem_of_getElem? (i := 11) rfl))) (by decide) (t := .int) (t' := (.array .int)) (by decide) (by decide)))).ext E8).other W13 (Or.inl ne9)).other W16 (Or.inr (slot_ne (Or.inl (hw _ (List.mem_of_getElem? (i := 31) rfl))) (Or.inl (hw _ (List.mem_of_getElem? (i := 13) rfl))) (by decide) (t := .int) (t' := (.array .int)) (by decide) (by decide)))).ext E18).other W25 (Or.inl ne19)).other W28 (Or.inr (slot_ne (Or.inl (hw _ (List.mem_of_getElem? (i := 31) rfl))) (Or.inl (hw _ (List.mem_of_getElem? (i := 16) rfl))) (by decide) (t := .int) (t' := (.array .byte)) (by decide) (by decide))))
  have f32 := ((((((f7.ext E8).other W13 (Or.inl ne9)).other W16 (Or.inr (slot_ne (Or.inr (hw _ (List.mem_of_getElem? (i := 11) rfl))) (Or.inl (hw _ (List.mem_of_getElem? (i := 13) rfl))) (by decide) (t := (.array .int)) (t' := (.array .int)) (by decide) (by decide)))).ext E18).other W25 (Or.inl ne19)).other W28 (Or.inr (slot_ne (Or.inr (hw _ (List.mem_of_getElem? (i := 11) rfl))) (Or.inl (hw _ (List.mem_of_getElem? (i := 16) rfl))) (by decide) (t := (.array .int)) (t' := (.array .byte)) (by decide) (by decide))))
  have f33 := (((f17.ext E18).other W25 (Or.inl ne19)).other W28 (Or.inr (slot_ne (Or.inl (hw _ (List.mem_of_getElem? (i := 13) rfl))) (Or.inl (hw _ (List.mem_of_getElem? (i := 16) rfl))) (by decide) (t := (.array .int)) (t' := (.array .byte)) (by decide) (by decide))))
  have f34 := (((f22.ext E18).other W25 ne21).other W28 (Ne.symm ne3))
  have f35 := (((f24.ext E18).other W25 ne23).other W28 (Ne.symm ne9))
  have f36 := (A25.other W28 (Ne.symm ne19))
  refine own_retV X28 hx hlk Bd.returns (hb hby d1_34) ?_ (by decide) (by decide)
  rw [e28]
  exact ⟨rfl, N28, K28, b2, b8, b18, f30, ⟨gz2, gz8, gz18, ne3, ne9, ne19, ne11, ne21, ne23⟩, f31, f32, f33, f29, f34, (f35.eq fun i hi => by simp [own_up]), (f36.eq fun i hi => by simp [own_up])⟩
theorem d6_0 : decode prog_2_method_3_code 0 = .ok (.aload_n 0, 1) := by decide +kernel
theorem d6_1 : decode prog_2_method_3_code 1 = .ok (.getfield 9, 3) := by decide +kernel
theorem d6_4 : decode prog_2_method_3_code 4 = .ok (.aload_n 0, 1) := by decide +kernel
theorem d6_5 : decode prog_2_method_3_code 5 = .ok (.dup, 1) := by decide +kernel
theorem d6_6 : decode prog_2_method_3_code 6 = .ok (.getfield 34, 3) := by decide +kernel
theorem d6_9 : decode prog_2_method_3_code 9 = .ok (.dup_x1, 1) := by decide +kernel
theorem d6_10 : decode prog_2_method_3_code 10 = .ok (.iconst 1, 1) := by decide +kernel
theorem d6_11 : decode prog_2_method_3_code 11 = .ok (.iadd, 1) := by decide +kernel
theorem d6_12 : decode prog_2_method_3_code 12 = .ok (.putfield 34, 3) := by decide +kernel
theorem d6_15 : decode prog_2_method_3_code 15 = .ok (.iconst 0, 1) := by decide +kernel
theorem d6_16 : decode prog_2_method_3_code 16 = .ok (.iastore, 1) := by decide +kernel
theorem d6_17 : decode prog_2_method_3_code 17 = .ok (.aload_n 0, 1) := by decide +kernel
theorem d6_18 : decode prog_2_method_3_code 18 = .ok (.getfield 15, 3) := by decide +kernel
theorem d6_21 : decode prog_2_method_3_code 21 = .ok (.iconst 0, 1) := by decide +kernel
theorem d6_22 : decode prog_2_method_3_code 22 = .ok (.dup2, 1) := by decide +kernel
theorem d6_23 : decode prog_2_method_3_code 23 = .ok (.iaload, 1) := by decide +kernel
theorem d6_24 : decode prog_2_method_3_code 24 = .ok (.iconst 1, 1) := by decide +kernel
theorem d6_25 : decode prog_2_method_3_code 25 = .ok (.iadd, 1) := by decide +kernel
theorem d6_26 : decode prog_2_method_3_code 26 = .ok (.iastore, 1) := by decide +kernel
theorem d6_27 : decode prog_2_method_3_code 27 = .ok (.return_, 1) := by decide +kernel
set_option maxHeartbeats 4000000 in
theorem ef_6 (m : MethodId) (x0 : Addr) : entryFrame m #[(.ref x0)] 1 = mkF m 0 #[.val (.ref x0)] [] := by first | (simp [entryFrame, mkF, argsToLocals, Value.category]; done) | rfl
def Q6 (Z : State) (x0 : Addr) (t : Addr) (sa : Addr) (tb : Addr) (kk : Nat) (h0 : Heap) (n0 : Nat) (v : Option Value) (h : Heap) (L : List Loc) : Prop := v = none ∧ Fr n0 L ∧ Keep h0 h [x0, t, sa] ∧ Exa Z h x0 "com/example/nimfield/nimfield/FewestCoins" ∧ Fld Z h x0 "com/example/nimfield/nimfield/FewestCoins" "bits" "I" (.int (Int32.ofNat (kk + 1))) ∧ Fld Z h x0 "com/example/nimfield/nimfield/FewestCoins" "typeOf" "[I" (.ref t) ∧ Fld Z h x0 "com/example/nimfield/nimfield/FewestCoins" "sizes" "[I" (.ref sa) ∧ Fld Z h x0 "com/example/nimfield/nimfield/FewestCoins" "table" "[B" (.ref tb) ∧ own_FA Z h t .int 32 (fun i => .int ((fun _ => 0) i)) ∧ own_FA Z h sa .int 1 (fun i => .int ((fun _ => Int32.ofNat (kk + 1)) i)) ∧ own_FA Z h tb .byte 1 (fun i => .int ((fun _ => 0) i))
set_option maxRecDepth 65536 in
set_option maxHeartbeats 40000000 in
theorem rm6 (l : Launch) (Z : State) (a0 : Array Value) (hw : ∀ d ∈ tables_1, d.before a0 Z = true) (ws : List Jvm.Cond) (x0 : Addr) (t : Addr) (sa : Addr) (tb : Addr) (kk : Nat) (h0 : Heap) (n0 : Nat) (Z0 : n0 ≤ h0.size) (E_x0 : Exa Z h0 x0 "com/example/nimfield/nimfield/FewestCoins") (F_b : Fld Z h0 x0 "com/example/nimfield/nimfield/FewestCoins" "bits" "I" (.int (Int32.ofNat kk))) (F_t : Fld Z h0 x0 "com/example/nimfield/nimfield/FewestCoins" "typeOf" "[I" (.ref t)) (F_s : Fld Z h0 x0 "com/example/nimfield/nimfield/FewestCoins" "sizes" "[I" (.ref sa)) (F_ta : Fld Z h0 x0 "com/example/nimfield/nimfield/FewestCoins" "table" "[B" (.ref tb)) (A_t : own_FA Z h0 t .int 32 (fun i => .int ((fun _ => 0) i))) (A_s : own_FA Z h0 sa .int 1 (fun i => .int ((fun _ => Int32.ofNat kk) i))) (A_b : own_FA Z h0 tb .byte 1 (fun i => .int ((fun _ => 0) i))) (n1 : x0 ≠ t) (n2 : x0 ≠ sa) (n3 : x0 ≠ tb) (n4 : t ≠ sa) (n5 : t ≠ tb) (n6 : sa ≠ tb) (g_x0 : n0 ≤ x0) (g_t : n0 ≤ t) (g_s : n0 ≤ sa) (hk : kk ≤ 6) :
    MetFree l (⟨"com/example/nimfield/nimfield/FewestCoins", "addCheckCoin", "()V"⟩ : MethodName) (head1 (Jvm.Cond.code (⟨"com/example/nimfield/nimfield/FewestCoins", "addCheckCoin", "()V"⟩ : MethodName) prog_2_method_3_code 1 none :: ws) ({ frames := 0, cells := 0, slots := 0, locals := 0 } : Room)) (fun a U => a = #[(.ref x0)] ∧ Z.Warmed39 U.vm ∧ U.heap = h0) (fun _ _ _ _ _ => True) (fun _ U o U' => ∃ v L, o = .returned v ∧ Q6 Z x0 t sa tb kk h0 n0 v U'.heap L ∧ FrameEnd U o U' L ({ frames := 0, cells := 0, slots := 0, locals := 0 } : Room).cells ({ frames := 0, cells := 0, slots := 0, locals := 0 } : Room).slots) := by
  refine MetFree.of_bodySF (plainFor_of_name pn_com_example_nimfield_nimfield_FewestCoins) hisR ?_
  intro p e s m args below meth c s₁ Bd hml0 hP hK
  obtain ⟨rfl, hZ, hh⟩ := hP
  have hx := Bd.exec
  have hby := Bd.bytes
  have hml : c.maxLocals = 1 := hml0
  have hown : s.vm.findClass "com/example/nimfield/nimfield/FewestCoins" = some m.cls := findClass_of_methodNamed Bd.named
  have hnm := (name_of_methodNamed Bd.named Bd.method).1
  have hlk : meth.locks = false := BodyLoose.notSynchronized Bd
  have X0 : Stand p l e ({ frames := 0, cells := 0, slots := 0, locals := 0 } : Room) s m #[(.ref x0)] below meth c s₁ [] 0 0 := Stand.of_body Bd
  have e0 : s₁.heap = h0 := by rw [← hh, Bd.state]; rfl
  have N0 := Fr.nil n0
  show own_E p e below s (Q6 Z x0 t sa tb kk h0 n0) 0 0 (s₁.setTop (entryFrame m #[(.ref x0)] 1))
  refine own_pre (B := s₁.setTop (mkF m 0 #[.val (.ref x0)] [])) ?_ (fun t_ k_ => castTop (ef_6 m x0) k_)
  refine own_pre (B := s₁.setTop (mkF m 1 #[.val (.ref x0)] [(.ref x0)])) ?_ fun t_ k_ => XS.aloadN X0.here hx rfl (hb hby d6_0) rfl rfl k_
  obtain ⟨T1, X1, e1, st1⟩ := getF X0 hx hZ hown (host := "") (Or.inl (hw _ (List.mem_of_getElem? (i := 10) rfl))) Via.refl e0 F_t (g := (mkF m 1 #[.val (.ref x0)] [(.ref x0)])) rfl rfl (hb hby d6_1)
  refine own_pre (B := T1.setTop (mkF m 4 #[.val (.ref x0)] [(.ref t)])) ?_ st1
  refine own_pre (B := T1.setTop (mkF m 5 #[.val (.ref x0)] [(.ref x0), (.ref t)])) ?_ fun t_ k_ => XS.aloadN X1.here hx rfl (hb hby d6_4) rfl rfl k_
  refine own_pre (B := T1.setTop (mkF m 6 #[.val (.ref x0)] [(.ref x0), (.ref x0), (.ref t)])) ?_ fun t_ k_ => XS.dup X1.here hx rfl (hb hby d6_5) rfl rfl k_
  obtain ⟨T2, X2, e2, st2⟩ := getF X1 hx hZ hown (host := "") (Or.inl (hw _ (List.mem_of_getElem? (i := 30) rfl))) Via.refl e1 F_b (g := (mkF m 6 #[.val (.ref x0)] [(.ref x0), (.ref x0), (.ref t)])) rfl rfl (hb hby d6_6)
  refine own_pre (B := T2.setTop (mkF m 9 #[.val (.ref x0)] [(.int (Int32.ofNat kk)), (.ref x0), (.ref t)])) ?_ st2
  refine own_pre (B := T2.setTop (mkF m 10 #[.val (.ref x0)] [(.int (Int32.ofNat kk)), (.ref x0), (.int (Int32.ofNat kk)), (.ref t)])) ?_ fun t_ k_ => XS.dupX1 X2.here hx rfl (hb hby d6_9) rfl rfl rfl k_
  refine own_pre (B := T2.setTop (mkF m 11 #[.val (.ref x0)] [(.int (1 : Int32)), (.int (Int32.ofNat kk)), (.ref x0), (.int (Int32.ofNat kk)), (.ref t)])) ?_ fun t_ k_ => XS.iconst X2.here hx rfl (hb hby d6_10) k_
  refine own_pre (B := T2.setTop (mkF m 12 #[.val (.ref x0)] [(.int ((Int32.ofNat kk) + (1 : Int32))), (.ref x0), (.int (Int32.ofNat kk)), (.ref t)])) ?_ fun t_ k_ => XS.iadd X2.here hx rfl (hb hby d6_11) rfl k_
  obtain ⟨T3, h3, X3, e3, W3, st3⟩ := putF X2 hx hZ hown (host := "") (Or.inl (hw _ (List.mem_of_getElem? (i := 30) rfl))) Via.refl e2 F_b E_x0 (Or.inl (hw _ (List.mem_of_getElem? (i := 31) rfl))) (hw _ (List.mem_of_getElem? (i := 1) rfl)) (ty := .int) (by decide) rfl rfl (g := (mkF m 12 #[.val (.ref x0)] [(.int ((Int32.ofNat kk) + (1 : Int32))), (.ref x0), (.int (Int32.ofNat kk)), (.ref t)])) rfl rfl (hb hby d6_12)
  have f4 := F_b.same W3
  have N3 := Fr.snoc X3 N0 g_x0
  have Z3 : n0 ≤ h3.size := Nat.le_trans Z0 (Keep.of_wr W3).1
  have K3 := (Keep.refl h0 [x0, t, sa]).wr W3 (Or.inl (by simp))
  refine own_pre (B := T3.setTop (mkF m 15 #[.val (.ref x0)] [(.int (Int32.ofNat kk)), (.ref t)])) ?_ st3
  refine own_pre (B := T3.setTop (mkF m 16 #[.val (.ref x0)] [(.int (0 : Int32)), (.int (Int32.ofNat kk)), (.ref t)])) ?_ fun t_ k_ => XS.iconst X3.here hx rfl (hb hby d6_15) k_
  have f6 := (A_t.other W3 (Ne.symm n1))
  obtain ⟨Ln5, cl5, Ar5, S5, Hh5⟩ := id f6
  have hin5 := own_hin (j := (Int32.ofNat kk)) (i := kk) S5 (own_ic (by omega)) (own_in0 (by omega)) (by omega)
  obtain ⟨T5, h5, X5, e5, W5, st5⟩ := stI X3 hx hZ e3 Ar5 (j := (Int32.ofNat kk)) hin5 (g := (mkF m 16 #[.val (.ref x0)] [(.int (0 : Int32)), (.int (Int32.ofNat kk)), (.ref t)])) rfl rfl (hb hby d6_16)
  have A5 : own_FA Z h5 t .int 32 (fun zz => .int ((own_up (fun _ => 0) kk (0 : Int32)) zz)) := by have q := own_FA.setI f6 W5; rw [show ((Int32.ofNat kk)).toNatClampNeg = kk from (own_ic (by omega))] at q; exact q
  have N5 := Fr.snoc X5 N3 g_t
  have Z5 : n0 ≤ h5.size := Nat.le_trans Z3 (Keep.of_wr W5).1
  have K5 := K3.wr W5 (Or.inl (by simp))
  refine own_pre (B := T5.setTop (mkF m 17 #[.val (.ref x0)] [])) ?_ st5
  refine own_pre (B := T5.setTop (mkF m 18 #[.val (.ref x0)] [(.ref x0)])) ?_ fun t_ k_ => XS.aloadN X5.here hx rfl (hb hby d6_17) rfl rfl k_
  have f7 := ((F_s.other W3 (Or.inr (slot_ne (Or.inl (hw _ (List.mem_of_getElem? (i := 13) rfl))) (Or.inl (hw _ (List.mem_of_getElem? (i := 31) rfl))) (by decide) (t := (.array .int)) (t' := .int) (by decide) (by decide)))).other W5 (Or.inl n1))
  obtain ⟨T8, X8, e8, st8⟩ := getF X5 hx hZ hown (host := "") (Or.inl (hw _ (List.mem_of_getElem? (i := 12) rfl))) Via.refl e5 f7 (g := (mkF m 18 #[.val (.ref x0)] [(.ref x0)])) rfl rfl (hb hby d6_18)
  refine own_pre (B := T8.setTop (mkF m 21 #[.val (.ref x0)] [(.ref sa)])) ?_ st8
  refine own_pre (B := T8.setTop (mkF m 22 #[.val (.ref x0)] [(.int (0 : Int32)), (.ref sa)])) ?_ fun t_ k_ => XS.iconst X8.here hx rfl (hb hby d6_21) k_
  refine own_pre (B := T8.setTop (mkF m 23 #[.val (.ref x0)] [(.int (0 : Int32)), (.ref sa), (.int (0 : Int32)), (.ref sa)])) ?_ (fun t_ k_ => by
      jvm_step X8.here [X8.here.top, hx, (hb hby d6_22), Value.category]
      exact k_)
  have f10 := ((A_s.other W3 (Ne.symm n2)).other W5 (Ne.symm n4))
  obtain ⟨Ln9, cl9, Ar9, S9, Hh9⟩ := id f10
  have hin9 := own_hin (j := (0 : Int32)) (i := 0) S9 (by decide) (by decide) (by omega)
  have hat9 : cl9.slots[((0 : Int32)).toNatClampNeg]? = some (.int (Int32.ofNat kk)) := own_hat (j := (0 : Int32)) (i := 0) Hh9 (by decide) (by omega)
  refine own_pre (B := T8.setTop (mkF m 24 #[.val (.ref x0)] [(.int (Int32.ofNat kk)), (.int (0 : Int32)), (.ref sa)])) ?_ fun t_ k_ => X8.iaload hx (j := (0 : Int32)) (v := (.int (Int32.ofNat kk))) (by rw [e8]; exact Ar9.1) (State.isArrayOf_alike hZ.alike Ar9.2.1) Ar9.2.2 hin9 hat9 (g := (mkF m 23 #[.val (.ref x0)] [(.int (0 : Int32)), (.ref sa), (.int (0 : Int32)), (.ref sa)])) rfl rfl (hb hby d6_23) t_ k_
  refine own_pre (B := T8.setTop (mkF m 25 #[.val (.ref x0)] [(.int (1 : Int32)), (.int (Int32.ofNat kk)), (.int (0 : Int32)), (.ref sa)])) ?_ fun t_ k_ => XS.iconst X8.here hx rfl (hb hby d6_24) k_
  refine own_pre (B := T8.setTop (mkF m 26 #[.val (.ref x0)] [(.int ((Int32.ofNat kk) + (1 : Int32))), (.int (0 : Int32)), (.ref sa)])) ?_ fun t_ k_ => XS.iadd X8.here hx rfl (hb hby d6_25) rfl k_
  obtain ⟨Ln11, cl11, Ar11, S11, Hh11⟩ := id f10
  have hin11 := own_hin (j := (0 : Int32)) (i := 0) S11 (by decide) (by decide) (by omega)
  obtain ⟨T11, h11, X11, e11, W11, st11⟩ := stI X8 hx hZ e8 Ar11 (j := (0 : Int32)) hin11 (g := (mkF m 26 #[.val (.ref x0)] [(.int ((Int32.ofNat kk) + (1 : Int32))), (.int (0 : Int32)), (.ref sa)])) rfl rfl (hb hby d6_26)
  have A11 : own_FA Z h11 sa .int 1 (fun zz => .int ((own_up (fun _ => Int32.ofNat kk) 0 ((Int32.ofNat kk) + (1 : Int32))) zz)) := by have q := own_FA.setI f10 W11; rw [show ((0 : Int32)).toNatClampNeg = 0 from (by decide)] at q; exact q
  have N11 := Fr.snoc X11 N5 g_s
  have Z11 : n0 ≤ h11.size := Nat.le_trans Z5 (Keep.of_wr W11).1
  have K11 := K5.wr W11 (Or.inl (by simp))
  refine own_pre (B := T11.setTop (mkF m 27 #[.val (.ref x0)] [])) ?_ st11
  have f12 := (((E_x0.wr W3).wr W5).wr W11)
  have f13 := ((f4.other W5 (Or.inl n1)).other W11 (Or.inl n2))
  have f14 := (((F_t.other W3 (Or.inr (slot_ne (Or.inr (hw _ (List.mem_of_getElem? (i := 11) rfl))) (Or.inl (hw _ (List.mem_of_getElem? (i := 31) rfl))) (by decide) (t := (.array .int)) (t' := .int) (by decide) (by decide)))).other W5 (Or.inl n1)).other W11 (Or.inl n2))
  have f15 := (f7.other W11 (Or.inl n2))
  have f16 := (((F_ta.other W3 (Or.inr (slot_ne (Or.inl (hw _ (List.mem_of_getElem? (i := 16) rfl))) (Or.inl (hw _ (List.mem_of_getElem? (i := 31) rfl))) (by decide) (t := (.array .byte)) (t' := .int) (by decide) (by decide)))).other W5 (Or.inl n1)).other W11 (Or.inl n2))
  have f17 := (A5.other W11 n4)
  have f18 := (((A_b.other W3 (Ne.symm n3)).other W5 (Ne.symm n5)).other W11 (Ne.symm n6))
  refine own_retV X11 hx hlk Bd.returns (hb hby d6_27) ?_ (by decide) (by decide)
  rw [e11]
  exact ⟨rfl, N11, K11, f12, (by rw [inc_ofNat]; exact f13), f14, f15, f16, (f17.eq fun i hi => by simp [own_up]), (A11.eq fun i hi => by simp [own_up, show i = 0 by omega, inc_ofNat]), f18⟩
theorem d4_0 : decode prog_2_method_5_code 0 = .ok (.aload_n 0, 1) := by decide +kernel
theorem d4_1 : decode prog_2_method_5_code 1 = .ok (.getfield 15, 3) := by decide +kernel
theorem d4_4 : decode prog_2_method_5_code 4 = .ok (.arraylength, 1) := by decide +kernel
theorem d4_5 : decode prog_2_method_5_code 5 = .ok (.anewarray 50, 3) := by decide +kernel
theorem d4_8 : decode prog_2_method_5_code 8 = .ok (.astore_n 1, 1) := by decide +kernel
theorem d4_9 : decode prog_2_method_5_code 9 = .ok (.aload_n 0, 1) := by decide +kernel
theorem d4_10 : decode prog_2_method_5_code 10 = .ok (.getfield 15, 3) := by decide +kernel
theorem d4_13 : decode prog_2_method_5_code 13 = .ok (.arraylength, 1) := by decide +kernel
theorem d4_14 : decode prog_2_method_5_code 14 = .ok (.newarray .int, 2) := by decide +kernel
theorem d4_16 : decode prog_2_method_5_code 16 = .ok (.astore_n 2, 1) := by decide +kernel
theorem d4_17 : decode prog_2_method_5_code 17 = .ok (.iconst 0, 1) := by decide +kernel
theorem d4_18 : decode prog_2_method_5_code 18 = .ok (.istore_n 3, 1) := by decide +kernel
theorem d4_19 : decode prog_2_method_5_code 19 = .ok (.iload_n 3, 1) := by decide +kernel
theorem d4_20 : decode prog_2_method_5_code 20 = .ok (.aload_n 0, 1) := by decide +kernel
theorem d4_21 : decode prog_2_method_5_code 21 = .ok (.getfield 15, 3) := by decide +kernel
theorem d4_24 : decode prog_2_method_5_code 24 = .ok (.arraylength, 1) := by decide +kernel
theorem d4_25 : decode prog_2_method_5_code 25 = .ok (.if_icmp .ge 22, 3) := by decide +kernel
theorem d4_28 : decode prog_2_method_5_code 28 = .ok (.aload_n 1, 1) := by decide +kernel
theorem d4_29 : decode prog_2_method_5_code 29 = .ok (.iload_n 3, 1) := by decide +kernel
theorem d4_30 : decode prog_2_method_5_code 30 = .ok (.aload_n 0, 1) := by decide +kernel
theorem d4_31 : decode prog_2_method_5_code 31 = .ok (.getfield 15, 3) := by decide +kernel
theorem d4_34 : decode prog_2_method_5_code 34 = .ok (.iload_n 3, 1) := by decide +kernel
theorem d4_35 : decode prog_2_method_5_code 35 = .ok (.iaload, 1) := by decide +kernel
theorem d4_36 : decode prog_2_method_5_code 36 = .ok (.iconst 1, 1) := by decide +kernel
theorem d4_37 : decode prog_2_method_5_code 37 = .ok (.iadd, 1) := by decide +kernel
theorem d4_38 : decode prog_2_method_5_code 38 = .ok (.newarray .long, 2) := by decide +kernel
theorem d4_40 : decode prog_2_method_5_code 40 = .ok (.aastore, 1) := by decide +kernel
theorem d4_41 : decode prog_2_method_5_code 41 = .ok (.iinc 3 1, 3) := by decide +kernel
theorem d4_44 : decode prog_2_method_5_code 44 = .ok (.goto (-25), 3) := by decide +kernel
theorem d4_47 : decode prog_2_method_5_code 47 = .ok (.iconst 0, 1) := by decide +kernel
theorem d4_48 : decode prog_2_method_5_code 48 = .ok (.istore_n 3, 1) := by decide +kernel
theorem d4_49 : decode prog_2_method_5_code 49 = .ok (.iload_n 3, 1) := by decide +kernel
theorem d4_50 : decode prog_2_method_5_code 50 = .ok (.aload_n 0, 1) := by decide +kernel
theorem d4_51 : decode prog_2_method_5_code 51 = .ok (.getfield 34, 3) := by decide +kernel
theorem d4_54 : decode prog_2_method_5_code 54 = .ok (.if_icmp .ge 49, 3) := by decide +kernel
theorem d4_103 : decode prog_2_method_5_code 103 = .ok (.aload_n 1, 1) := by decide +kernel
theorem d4_104 : decode prog_2_method_5_code 104 = .ok (.areturn, 1) := by decide +kernel
theorem d4_57 : decode prog_2_method_5_code 57 = .ok (.aload_n 0, 1) := by decide +kernel
theorem d4_58 : decode prog_2_method_5_code 58 = .ok (.getfield 9, 3) := by decide +kernel
theorem d4_61 : decode prog_2_method_5_code 61 = .ok (.iload_n 3, 1) := by decide +kernel
theorem d4_62 : decode prog_2_method_5_code 62 = .ok (.iaload, 1) := by decide +kernel
theorem d4_63 : decode prog_2_method_5_code 63 = .ok (.istore 4, 2) := by decide +kernel
theorem own_st4_42 {z0 : Value} {z1 : Value} {z2 : Value} {z3 : Value} {z4 : Slot} {v : Int32} (ho : One z4) : storeLocals #[.val z0, .val z1, .val z2, .val z3, z4] 4 (.int v) = some #[.val z0, .val z1, .val z2, .val z3, .val (.int v)] := by
  rcases ho with rfl | ⟨w, rfl, hw⟩ <;> first | rfl | (cases w <;> first | rfl | (simp [Value.category] at hw))
theorem d4_65 : decode prog_2_method_5_code 65 = .ok (.aload_n 1, 1) := by decide +kernel
theorem d4_66 : decode prog_2_method_5_code 66 = .ok (.iload 4, 2) := by decide +kernel
theorem d4_68 : decode prog_2_method_5_code 68 = .ok (.aaload, 1) := by decide +kernel
theorem d4_69 : decode prog_2_method_5_code 69 = .ok (.aload_n 2, 1) := by decide +kernel
theorem d4_70 : decode prog_2_method_5_code 70 = .ok (.iload 4, 2) := by decide +kernel
theorem d4_72 : decode prog_2_method_5_code 72 = .ok (.iaload, 1) := by decide +kernel
theorem d4_73 : decode prog_2_method_5_code 73 = .ok (.iconst 1, 1) := by decide +kernel
theorem d4_74 : decode prog_2_method_5_code 74 = .ok (.iadd, 1) := by decide +kernel
theorem d4_75 : decode prog_2_method_5_code 75 = .ok (.aload_n 1, 1) := by decide +kernel
theorem d4_76 : decode prog_2_method_5_code 76 = .ok (.iload 4, 2) := by decide +kernel
theorem d4_78 : decode prog_2_method_5_code 78 = .ok (.aaload, 1) := by decide +kernel
theorem d4_79 : decode prog_2_method_5_code 79 = .ok (.aload_n 2, 1) := by decide +kernel
theorem d4_80 : decode prog_2_method_5_code 80 = .ok (.iload 4, 2) := by decide +kernel
theorem d4_82 : decode prog_2_method_5_code 82 = .ok (.iaload, 1) := by decide +kernel
theorem d4_83 : decode prog_2_method_5_code 83 = .ok (.laload, 1) := by decide +kernel
theorem d4_84 : decode prog_2_method_5_code 84 = .ok (.lconst 1, 1) := by decide +kernel
theorem d4_85 : decode prog_2_method_5_code 85 = .ok (.iload_n 3, 1) := by decide +kernel
theorem d4_86 : decode prog_2_method_5_code 86 = .ok (.lshl, 1) := by decide +kernel
theorem d4_87 : decode prog_2_method_5_code 87 = .ok (.lor, 1) := by decide +kernel
theorem d4_88 : decode prog_2_method_5_code 88 = .ok (.lastore, 1) := by decide +kernel
theorem d4_89 : decode prog_2_method_5_code 89 = .ok (.aload_n 2, 1) := by decide +kernel
theorem d4_90 : decode prog_2_method_5_code 90 = .ok (.iload 4, 2) := by decide +kernel
theorem d4_92 : decode prog_2_method_5_code 92 = .ok (.dup2, 1) := by decide +kernel
theorem d4_93 : decode prog_2_method_5_code 93 = .ok (.iaload, 1) := by decide +kernel
theorem d4_94 : decode prog_2_method_5_code 94 = .ok (.iconst 1, 1) := by decide +kernel
theorem d4_95 : decode prog_2_method_5_code 95 = .ok (.iadd, 1) := by decide +kernel
theorem d4_96 : decode prog_2_method_5_code 96 = .ok (.iastore, 1) := by decide +kernel
theorem d4_97 : decode prog_2_method_5_code 97 = .ok (.iinc 3 1, 3) := by decide +kernel
theorem d4_100 : decode prog_2_method_5_code 100 = .ok (.goto (-51), 3) := by decide +kernel
set_option maxHeartbeats 4000000 in
theorem ef_4 (m : MethodId) (x0 : Addr) : entryFrame m #[(.ref x0)] 5 = mkF m 0 #[.val (.ref x0), .unset, .unset, .unset, .unset] [] := by first | (simp [entryFrame, mkF, argsToLocals, Value.category]; done) | rfl
def Q4 (Z : State) (x0 : Addr) (t : Addr) (sa : Addr) (kk : Nat) (h0 : Heap) (n0 : Nat) (v : Option Value) (h : Heap) (L : List Loc) : Prop := ∃ rr qq, v = some (.ref rr) ∧ Fr n0 L ∧ Keep h0 h [] ∧ own_FA Z h rr (.array .long) 1 (fun i => .ref ((fun _ => qq) i)) ∧ own_FA Z h qq .long (kk + 1) (fun i => .long (own_low i))
set_option maxRecDepth 65536 in
set_option maxHeartbeats 40000000 in
theorem rm4 (l : Launch) (Z : State) (a0 : Array Value) (hw : ∀ d ∈ tables_1, d.before a0 Z = true) (ws : List Jvm.Cond) (x0 : Addr) (t : Addr) (sa : Addr) (kk : Nat) (h0 : Heap) (n0 : Nat) (Z0 : n0 ≤ h0.size) (F_b : Fld Z h0 x0 "com/example/nimfield/nimfield/FewestCoins" "bits" "I" (.int (Int32.ofNat kk))) (F_t : Fld Z h0 x0 "com/example/nimfield/nimfield/FewestCoins" "typeOf" "[I" (.ref t)) (F_s : Fld Z h0 x0 "com/example/nimfield/nimfield/FewestCoins" "sizes" "[I" (.ref sa)) (A_t : own_FA Z h0 t .int 32 (fun i => .int ((fun _ => 0) i))) (A_s : own_FA Z h0 sa .int 1 (fun i => .int ((fun _ => Int32.ofNat kk) i))) (hk : kk ≤ 7) :
    MetFree l (⟨"com/example/nimfield/nimfield/FewestCoins", "lowestBits", "()[[J"⟩ : MethodName) (head1 (Jvm.Cond.code (⟨"com/example/nimfield/nimfield/FewestCoins", "lowestBits", "()[[J"⟩ : MethodName) prog_2_method_5_code 5 (some (.array (.array .long))) :: ws) ({ frames := 0, cells := 3, slots := 10, locals := 0 } : Room)) (fun a U => a = #[(.ref x0)] ∧ Z.Warmed39 U.vm ∧ U.heap = h0) (fun _ _ _ _ _ => True) (fun _ U o U' => ∃ v L, o = .returned v ∧ Q4 Z x0 t sa kk h0 n0 v U'.heap L ∧ FrameEnd U o U' L ({ frames := 0, cells := 3, slots := 10, locals := 0 } : Room).cells ({ frames := 0, cells := 3, slots := 10, locals := 0 } : Room).slots) := by
  refine MetFree.of_bodySF (plainFor_of_name pn_com_example_nimfield_nimfield_FewestCoins) hisR ?_
  intro p e s m args below meth c s₁ Bd hml0 hP hK
  obtain ⟨rfl, hZ, hh⟩ := hP
  have hx := Bd.exec
  have hby := Bd.bytes
  have hml : c.maxLocals = 5 := hml0
  have hown : s.vm.findClass "com/example/nimfield/nimfield/FewestCoins" = some m.cls := findClass_of_methodNamed Bd.named
  have hnm := (name_of_methodNamed Bd.named Bd.method).1
  have hlk : meth.locks = false := BodyLoose.notSynchronized Bd
  have X0 : Stand p l e ({ frames := 0, cells := 3, slots := 10, locals := 0 } : Room) s m #[(.ref x0)] below meth c s₁ [] 0 0 := Stand.of_body Bd
  have e0 : s₁.heap = h0 := by rw [← hh, Bd.state]; rfl
  have N0 := Fr.nil n0
  show own_E p e below s (Q4 Z x0 t sa kk h0 n0) 3 10 (s₁.setTop (entryFrame m #[(.ref x0)] 5))
  refine own_pre (B := s₁.setTop (mkF m 0 #[.val (.ref x0), .unset, .unset, .unset, .unset] [])) ?_ (fun t_ k_ => castTop (ef_4 m x0) k_)
  refine own_pre (B := s₁.setTop (mkF m 1 #[.val (.ref x0), .unset, .unset, .unset, .unset] [(.ref x0)])) ?_ fun t_ k_ => XS.aloadN X0.here hx rfl (hb hby d4_0) rfl rfl k_
  obtain ⟨T1, X1, e1, st1⟩ := getF X0 hx hZ hown (host := "") (Or.inl (hw _ (List.mem_of_getElem? (i := 12) rfl))) Via.refl e0 F_s (g := (mkF m 1 #[.val (.ref x0), .unset, .unset, .unset, .unset] [(.ref x0)])) rfl rfl (hb hby d4_1)
  refine own_pre (B := T1.setTop (mkF m 4 #[.val (.ref x0), .unset, .unset, .unset, .unset] [(.ref sa)])) ?_ st1
  obtain ⟨Ln2, cl2, Ar2, S2, Hh2⟩ := id A_s
  have len2 : cl2.slots.size.toInt32 = (1 : Int32) := (congrArg Nat.toInt32 S2).trans rfl
  refine own_pre (B := T1.setTop (mkF m 5 #[.val (.ref x0), .unset, .unset, .unset, .unset] [(.int (1 : Int32))])) ?_ (fun t_ k_ => X1.arraylength hx (by rw [e1]; exact Ar2.1) (State.isArrayOf_alike hZ.alike Ar2.2.1) (g := (mkF m 4 #[.val (.ref x0), .unset, .unset, .unset, .unset] [(.ref sa)])) rfl rfl (hb hby d4_4) t_ (by rw [len2]; exact k_))
  obtain ⟨T3, h3, k3, X3, e3, E3, A3, Ea3, O3, st3⟩ := newRA X1 hx hZ hown (C := "[J") (ty := .long) (by decide) (hw _ (List.mem_of_getElem? (i := 26) rfl)) (hw _ (List.mem_of_getElem? (i := 27) rfl)) e1 (g := (mkF m 5 #[.val (.ref x0), .unset, .unset, .unset, .unset] [(.int (1 : Int32))])) rfl (hb hby d4_5) rfl (by decide) (cap := 1) (by decide) (by decide) (by decide) (by decide) (ad := "[[J") (by decide)
  obtain ⟨b3, g3⟩ : ∃ z, z = h0.size := ⟨_, rfl⟩
  rw [← g3] at A3 Ea3 st3
  have ne4 : x0 ≠ b3 := Nat.ne_of_lt (Nat.lt_of_lt_of_le F_b.lt (Nat.le_of_eq g3.symm))
  have ne5 : t ≠ b3 := Nat.ne_of_lt (Nat.lt_of_lt_of_le A_t.lt (Nat.le_of_eq g3.symm))
  have ne6 : sa ≠ b3 := Nat.ne_of_lt (Nat.lt_of_lt_of_le A_s.lt (Nat.le_of_eq g3.symm))
  have Z3 : n0 ≤ h3.size := Nat.le_trans Z0 E3.1
  have gz3 : n0 ≤ b3 := Nat.le_trans Z0 (Nat.le_of_eq g3.symm)
  have sz3 : h0.size ≤ b3 := Nat.le_trans (Keep.refl h0 []).1 (Nat.le_of_eq g3.symm)
  have K3 := (Keep.refl h0 []).ext E3
  refine own_pre (B := T3.setTop (mkF m 8 #[.val (.ref x0), .unset, .unset, .unset, .unset] [(.ref b3)])) ?_ st3
  refine own_pre (B := T3.setTop (mkF m 9 #[.val (.ref x0), .val (.ref b3), .unset, .unset, .unset] [])) ?_ fun t_ k_ => XS.astoreN X3.here hx rfl (hb hby d4_8) rfl rfl (l' := #[.val (.ref x0), .val (.ref b3), .unset, .unset, .unset]) rfl k_
  refine own_pre (B := T3.setTop (mkF m 10 #[.val (.ref x0), .val (.ref b3), .unset, .unset, .unset] [(.ref x0)])) ?_ fun t_ k_ => XS.aloadN X3.here hx rfl (hb hby d4_9) rfl rfl k_
  have f7 := (F_s.ext E3)
  obtain ⟨T8, X8, e8, st8⟩ := getF X3 hx hZ hown (host := "") (Or.inl (hw _ (List.mem_of_getElem? (i := 12) rfl))) Via.refl e3 f7 (g := (mkF m 10 #[.val (.ref x0), .val (.ref b3), .unset, .unset, .unset] [(.ref x0)])) rfl rfl (hb hby d4_10)
  refine own_pre (B := T8.setTop (mkF m 13 #[.val (.ref x0), .val (.ref b3), .unset, .unset, .unset] [(.ref sa)])) ?_ st8
  have f10 := (A_s.ext E3)
  obtain ⟨Ln9, cl9, Ar9, S9, Hh9⟩ := id f10
  have len9 : cl9.slots.size.toInt32 = (1 : Int32) := (congrArg Nat.toInt32 S9).trans rfl
  refine own_pre (B := T8.setTop (mkF m 14 #[.val (.ref x0), .val (.ref b3), .unset, .unset, .unset] [(.int (1 : Int32))])) ?_ (fun t_ k_ => X8.arraylength hx (by rw [e8]; exact Ar9.1) (State.isArrayOf_alike hZ.alike Ar9.2.1) (g := (mkF m 13 #[.val (.ref x0), .val (.ref b3), .unset, .unset, .unset] [(.ref sa)])) rfl rfl (hb hby d4_13) t_ (by rw [len9]; exact k_))
  obtain ⟨T11, h11, k11, X11, e11, E11, A11, st11⟩ := newP X8 hx hZ (hw _ (List.mem_of_getElem? (i := 9) rfl)) e8 (g := (mkF m 14 #[.val (.ref x0), .val (.ref b3), .unset, .unset, .unset] [(.int (1 : Int32))])) rfl (hb hby d4_14) rfl (by decide) (cap := 1) (by decide) (by decide) (by decide) (by decide)
  obtain ⟨b11, g11⟩ : ∃ z, z = h3.size := ⟨_, rfl⟩
  rw [← g11] at A11 st11
  have f13 := (F_b.ext E3)
  have ne12 : x0 ≠ b11 := Nat.ne_of_lt (Nat.lt_of_lt_of_le f13.lt (Nat.le_of_eq g11.symm))
  have f15 := (A_t.ext E3)
  have ne14 : t ≠ b11 := Nat.ne_of_lt (Nat.lt_of_lt_of_le f15.lt (Nat.le_of_eq g11.symm))
  have ne16 : sa ≠ b11 := Nat.ne_of_lt (Nat.lt_of_lt_of_le f10.lt (Nat.le_of_eq g11.symm))
  have ne17 : b3 ≠ b11 := Nat.ne_of_lt (Nat.lt_of_lt_of_le A3.lt (Nat.le_of_eq g11.symm))
  have Z11 : n0 ≤ h11.size := Nat.le_trans Z3 E11.1
  have gz11 : n0 ≤ b11 := Nat.le_trans Z3 (Nat.le_of_eq g11.symm)
  have sz11 : h0.size ≤ b11 := Nat.le_trans K3.1 (Nat.le_of_eq g11.symm)
  have K11 := K3.ext E11
  have V11 : own_FA Z h11 b11 .int ((1 : Int32)).toNatClampNeg (fun i => .int ((fun _ => 0) i)) := own_FA.new A11 (by decide)
  rw [show (1 : Int32).toNatClampNeg = 1 from rfl] at V11
  refine own_pre (B := T11.setTop (mkF m 16 #[.val (.ref x0), .val (.ref b3), .unset, .unset, .unset] [(.ref b11)])) ?_ st11
  refine own_pre (B := T11.setTop (mkF m 17 #[.val (.ref x0), .val (.ref b3), .val (.ref b11), .unset, .unset] [])) ?_ fun t_ k_ => XS.astoreN X11.here hx rfl (hb hby d4_16) rfl rfl (l' := #[.val (.ref x0), .val (.ref b3), .val (.ref b11), .unset, .unset]) rfl k_
  refine own_pre (B := T11.setTop (mkF m 18 #[.val (.ref x0), .val (.ref b3), .val (.ref b11), .unset, .unset] [(.int (0 : Int32))])) ?_ fun t_ k_ => XS.iconst X11.here hx rfl (hb hby d4_17) k_
  refine own_pre (B := T11.setTop (mkF m 19 #[.val (.ref x0), .val (.ref b3), .val (.ref b11), .val (.int (0 : Int32)), .unset] [])) ?_ fun t_ k_ => XS.istoreN X11.here hx rfl (hb hby d4_18) rfl  (l' := #[.val (.ref x0), .val (.ref b3), .val (.ref b11), .val (.int (0 : Int32)), .unset]) rfl k_
  refine own_pre (B := T11.setTop (mkF m 20 #[.val (.ref x0), .val (.ref b3), .val (.ref b11), .val (.int (0 : Int32)), .unset] [(.int (0 : Int32))])) ?_ fun t_ k_ => XS.iloadN X11.here hx rfl (hb hby d4_19) rfl  k_
  refine own_pre (B := T11.setTop (mkF m 21 #[.val (.ref x0), .val (.ref b3), .val (.ref b11), .val (.int (0 : Int32)), .unset] [(.ref x0), (.int (0 : Int32))])) ?_ fun t_ k_ => XS.aloadN X11.here hx rfl (hb hby d4_20) rfl rfl k_
  have f18 := (f7.ext E11)
  obtain ⟨T19, X19, e19, st19⟩ := getF X11 hx hZ hown (host := "") (Or.inl (hw _ (List.mem_of_getElem? (i := 12) rfl))) Via.refl e11 f18 (g := (mkF m 21 #[.val (.ref x0), .val (.ref b3), .val (.ref b11), .val (.int (0 : Int32)), .unset] [(.ref x0), (.int (0 : Int32))])) rfl rfl (hb hby d4_21)
  refine own_pre (B := T19.setTop (mkF m 24 #[.val (.ref x0), .val (.ref b3), .val (.ref b11), .val (.int (0 : Int32)), .unset] [(.ref sa), (.int (0 : Int32))])) ?_ st19
  have f21 := (f10.ext E11)
  obtain ⟨Ln20, cl20, Ar20, S20, Hh20⟩ := id f21
  have len20 : cl20.slots.size.toInt32 = (1 : Int32) := (congrArg Nat.toInt32 S20).trans rfl
  refine own_pre (B := T19.setTop (mkF m 25 #[.val (.ref x0), .val (.ref b3), .val (.ref b11), .val (.int (0 : Int32)), .unset] [(.int (1 : Int32)), (.int (0 : Int32))])) ?_ (fun t_ k_ => X19.arraylength hx (by rw [e19]; exact Ar20.1) (State.isArrayOf_alike hZ.alike Ar20.2.1) (g := (mkF m 24 #[.val (.ref x0), .val (.ref b3), .val (.ref b11), .val (.int (0 : Int32)), .unset] [(.ref sa), (.int (0 : Int32))])) rfl rfl (hb hby d4_24) t_ (by rw [len20]; exact k_))
  refine own_pre (B := T19.setTop (mkF m 28 #[.val (.ref x0), .val (.ref b3), .val (.ref b11), .val (.int (0 : Int32)), .unset] [])) ?_ fun t_ k_ => XS.icmpNo X19.here hx rfl (hb hby d4_25) rfl (tlt (by decide : ((0 : Int32) < (1 : Int32)))).2.1 k_
  refine own_pre (B := T19.setTop (mkF m 29 #[.val (.ref x0), .val (.ref b3), .val (.ref b11), .val (.int (0 : Int32)), .unset] [(.ref b3)])) ?_ fun t_ k_ => XS.aloadN X19.here hx rfl (hb hby d4_28) rfl rfl k_
  refine own_pre (B := T19.setTop (mkF m 30 #[.val (.ref x0), .val (.ref b3), .val (.ref b11), .val (.int (0 : Int32)), .unset] [(.int (0 : Int32)), (.ref b3)])) ?_ fun t_ k_ => XS.iloadN X19.here hx rfl (hb hby d4_29) rfl  k_
  refine own_pre (B := T19.setTop (mkF m 31 #[.val (.ref x0), .val (.ref b3), .val (.ref b11), .val (.int (0 : Int32)), .unset] [(.ref x0), (.int (0 : Int32)), (.ref b3)])) ?_ fun t_ k_ => XS.aloadN X19.here hx rfl (hb hby d4_30) rfl rfl k_
  obtain ⟨T22, X22, e22, st22⟩ := getF X19 hx hZ hown (host := "") (Or.inl (hw _ (List.mem_of_getElem? (i := 12) rfl))) Via.refl e19 f18 (g := (mkF m 31 #[.val (.ref x0), .val (.ref b3), .val (.ref b11), .val (.int (0 : Int32)), .unset] [(.ref x0), (.int (0 : Int32)), (.ref b3)])) rfl rfl (hb hby d4_31)
  refine own_pre (B := T22.setTop (mkF m 34 #[.val (.ref x0), .val (.ref b3), .val (.ref b11), .val (.int (0 : Int32)), .unset] [(.ref sa), (.int (0 : Int32)), (.ref b3)])) ?_ st22
  refine own_pre (B := T22.setTop (mkF m 35 #[.val (.ref x0), .val (.ref b3), .val (.ref b11), .val (.int (0 : Int32)), .unset] [(.int (0 : Int32)), (.ref sa), (.int (0 : Int32)), (.ref b3)])) ?_ fun t_ k_ => XS.iloadN X22.here hx rfl (hb hby d4_34) rfl  k_
  obtain ⟨Ln23, cl23, Ar23, S23, Hh23⟩ := id f21
  have hin23 := own_hin (j := (0 : Int32)) (i := 0) S23 (by decide) (by decide) (by omega)
  have hat23 : cl23.slots[((0 : Int32)).toNatClampNeg]? = some (.int (Int32.ofNat kk)) := own_hat (j := (0 : Int32)) (i := 0) Hh23 (by decide) (by omega)
  refine own_pre (B := T22.setTop (mkF m 36 #[.val (.ref x0), .val (.ref b3), .val (.ref b11), .val (.int (0 : Int32)), .unset] [(.int (Int32.ofNat kk)), (.int (0 : Int32)), (.ref b3)])) ?_ fun t_ k_ => X22.iaload hx (j := (0 : Int32)) (v := (.int (Int32.ofNat kk))) (by rw [e22]; exact Ar23.1) (State.isArrayOf_alike hZ.alike Ar23.2.1) Ar23.2.2 hin23 hat23 (g := (mkF m 35 #[.val (.ref x0), .val (.ref b3), .val (.ref b11), .val (.int (0 : Int32)), .unset] [(.int (0 : Int32)), (.ref sa), (.int (0 : Int32)), (.ref b3)])) rfl rfl (hb hby d4_35) t_ k_
  refine own_pre (B := T22.setTop (mkF m 37 #[.val (.ref x0), .val (.ref b3), .val (.ref b11), .val (.int (0 : Int32)), .unset] [(.int (1 : Int32)), (.int (Int32.ofNat kk)), (.int (0 : Int32)), (.ref b3)])) ?_ fun t_ k_ => XS.iconst X22.here hx rfl (hb hby d4_36) k_
  refine own_pre (B := T22.setTop (mkF m 38 #[.val (.ref x0), .val (.ref b3), .val (.ref b11), .val (.int (0 : Int32)), .unset] [(.int ((Int32.ofNat kk) + (1 : Int32))), (.int (0 : Int32)), (.ref b3)])) ?_ fun t_ k_ => XS.iadd X22.here hx rfl (hb hby d4_37) rfl k_
  have hz24 : ((Int32.ofNat kk) + (1 : Int32)) = Int32.ofNat (kk + 1) := (inc_ofNat kk).symm
  obtain ⟨T24, h24, k24, X24, e24, E24, A24, Ea24, st24⟩ := newPE X22 hx hZ (hw _ (List.mem_of_getElem? (i := 28) rfl)) e22 (g := (mkF m 38 #[.val (.ref x0), .val (.ref b3), .val (.ref b11), .val (.int (0 : Int32)), .unset] [(.int ((Int32.ofNat kk) + (1 : Int32))), (.int (0 : Int32)), (.ref b3)])) rfl (hb hby d4_38) rfl (by rw [hz24]; exact own_in0 (by omega)) (cap := 8) (by rw [hz24, own_ic (i := kk + 1) (by omega)]; omega) (by decide) (by decide) (by decide) (ad := "[J") (by decide)
  obtain ⟨b24, g24⟩ : ∃ z, z = h11.size := ⟨_, rfl⟩
  rw [← g24] at A24 Ea24 st24
  have f26 := (f13.ext E11)
  have ne25 : x0 ≠ b24 := Nat.ne_of_lt (Nat.lt_of_lt_of_le f26.lt (Nat.le_of_eq g24.symm))
  have f28 := (f15.ext E11)
  have ne27 : t ≠ b24 := Nat.ne_of_lt (Nat.lt_of_lt_of_le f28.lt (Nat.le_of_eq g24.symm))
  have ne29 : sa ≠ b24 := Nat.ne_of_lt (Nat.lt_of_lt_of_le f21.lt (Nat.le_of_eq g24.symm))
  have f31 := (A3.ext E11)
  have ne30 : b3 ≠ b24 := Nat.ne_of_lt (Nat.lt_of_lt_of_le f31.lt (Nat.le_of_eq g24.symm))
  have ne32 : b11 ≠ b24 := Nat.ne_of_lt (Nat.lt_of_lt_of_le V11.lt (Nat.le_of_eq g24.symm))
  have Z24 : n0 ≤ h24.size := Nat.le_trans Z11 E24.1
  have gz24 : n0 ≤ b24 := Nat.le_trans Z11 (Nat.le_of_eq g24.symm)
  have sz24 : h0.size ≤ b24 := Nat.le_trans K11.1 (Nat.le_of_eq g24.symm)
  have K24 := K11.ext E24
  have V24 : own_FA Z h24 b24 .long (((Int32.ofNat kk) + (1 : Int32))).toNatClampNeg (fun i => .long ((fun _ => 0) i)) := own_FA.new A24 (by rw [hz24]; exact own_in0 (by omega))
  rw [hz24, own_ic (i := kk + 1) (by omega)] at V24
  refine own_pre (B := T24.setTop (mkF m 40 #[.val (.ref x0), .val (.ref b3), .val (.ref b11), .val (.int (0 : Int32)), .unset] [(.ref b24), (.int (0 : Int32)), (.ref b3)])) ?_ st24
  have Ar33 := (f31.ext E24)
  have Sto33 : Sto Z h24 b3 (.ref b24) := Sto.ofVA Ar33 rfl O3 (Ins.self Ea24)
  obtain ⟨T33, h33, X33, e33, W33, st33⟩ := stR X24 hx hZ e24 Ar33 (j := (0 : Int32)) (by rw [sz_new]; decide) rfl Sto33 (g := (mkF m 40 #[.val (.ref x0), .val (.ref b3), .val (.ref b11), .val (.int (0 : Int32)), .unset] [(.ref b24), (.int (0 : Int32)), (.ref b3)])) rfl rfl (hb hby d4_40)
  have R33 : own_FA Z h33 b3 (.array .long) 1 (fun i => .ref ((fun _ => b24) i)) := ((own_FA.new Ar33 (by decide)).set W33).eq fun i hi => by rw [if_pos (show i = Int32.toNatClampNeg 0 from (Nat.lt_one_iff.mp hi).trans rfl)]
  have N33 := Fr.snoc X33 N0 gz3
  have Z33 : n0 ≤ h33.size := Nat.le_trans Z24 (Keep.of_wr W33).1
  have K33 := K24.wr W33 (Or.inr sz3)
  refine own_pre (B := T33.setTop (mkF m 41 #[.val (.ref x0), .val (.ref b3), .val (.ref b11), .val (.int (0 : Int32)), .unset] [])) ?_ st33
  refine own_pre (B := T33.setTop (mkF m 44 #[.val (.ref x0), .val (.ref b3), .val (.ref b11), .val (.int (1 : Int32)), .unset] [])) ?_ fun t_ k_ => XS.iinc X33.here hx rfl (hb hby d4_41) rfl (l' := #[.val (.ref x0), .val (.ref b3), .val (.ref b11), .val (.int (1 : Int32)), .unset]) rfl k_
  refine own_pre (B := T33.setTop (mkF m 19 #[.val (.ref x0), .val (.ref b3), .val (.ref b11), .val (.int (1 : Int32)), .unset] [])) ?_ fun t_ k_ => XS.goto X33.here hx rfl (pc0 := 44) (pc' := 19) rfl (hb hby d4_44) (by decide) (by decide) k_
  refine own_pre (B := T33.setTop (mkF m 20 #[.val (.ref x0), .val (.ref b3), .val (.ref b11), .val (.int (1 : Int32)), .unset] [(.int (1 : Int32))])) ?_ fun t_ k_ => XS.iloadN X33.here hx rfl (hb hby d4_19) rfl  k_
  refine own_pre (B := T33.setTop (mkF m 21 #[.val (.ref x0), .val (.ref b3), .val (.ref b11), .val (.int (1 : Int32)), .unset] [(.ref x0), (.int (1 : Int32))])) ?_ fun t_ k_ => XS.aloadN X33.here hx rfl (hb hby d4_20) rfl rfl k_
  have f34 := ((f18.ext E24).other W33 (Or.inl ne4))
  obtain ⟨T35, X35, e35, st35⟩ := getF X33 hx hZ hown (host := "") (Or.inl (hw _ (List.mem_of_getElem? (i := 12) rfl))) Via.refl e33 f34 (g := (mkF m 21 #[.val (.ref x0), .val (.ref b3), .val (.ref b11), .val (.int (1 : Int32)), .unset] [(.ref x0), (.int (1 : Int32))])) rfl rfl (hb hby d4_21)
  refine own_pre (B := T35.setTop (mkF m 24 #[.val (.ref x0), .val (.ref b3), .val (.ref b11), .val (.int (1 : Int32)), .unset] [(.ref sa), (.int (1 : Int32))])) ?_ st35
  have f37 := ((f21.ext E24).other W33 ne6)
  obtain ⟨Ln36, cl36, Ar36, S36, Hh36⟩ := id f37
  have len36 : cl36.slots.size.toInt32 = (1 : Int32) := (congrArg Nat.toInt32 S36).trans rfl
  refine own_pre (B := T35.setTop (mkF m 25 #[.val (.ref x0), .val (.ref b3), .val (.ref b11), .val (.int (1 : Int32)), .unset] [(.int (1 : Int32)), (.int (1 : Int32))])) ?_ (fun t_ k_ => X35.arraylength hx (by rw [e35]; exact Ar36.1) (State.isArrayOf_alike hZ.alike Ar36.2.1) (g := (mkF m 24 #[.val (.ref x0), .val (.ref b3), .val (.ref b11), .val (.int (1 : Int32)), .unset] [(.ref sa), (.int (1 : Int32))])) rfl rfl (hb hby d4_24) t_ (by rw [len36]; exact k_))
  refine own_pre (B := T35.setTop (mkF m 47 #[.val (.ref x0), .val (.ref b3), .val (.ref b11), .val (.int (1 : Int32)), .unset] [])) ?_ fun t_ k_ => XS.icmpYes X35.here hx rfl (pc0 := 25) (pc' := 47) rfl (hb hby d4_25) rfl (flt (by decide : ¬ ((1 : Int32) < (1 : Int32)))).2.1 (by decide) (by decide) k_
  refine own_pre (B := T35.setTop (mkF m 48 #[.val (.ref x0), .val (.ref b3), .val (.ref b11), .val (.int (1 : Int32)), .unset] [(.int (0 : Int32))])) ?_ fun t_ k_ => XS.iconst X35.here hx rfl (hb hby d4_47) k_
  refine own_pre (B := T35.setTop (mkF m 49 #[.val (.ref x0), .val (.ref b3), .val (.ref b11), .val (.int (0 : Int32)), .unset] [])) ?_ fun t_ k_ => XS.istoreN X35.here hx rfl (hb hby d4_48) rfl  (l' := #[.val (.ref x0), .val (.ref b3), .val (.ref b11), .val (.int (0 : Int32)), .unset]) rfl k_
  have Krr := R33
  have loop : ∀ (k i : Nat) (hi : i + k = kk) (s4 : Slot) (hs4 : One s4) (T1 : State) (l1 : List Loc) (hc : Heap) (X1 : Stand p l e ({ frames := 0, cells := 3, slots := 10, locals := 0 } : Room) s m #[(.ref x0)] below meth c T1 l1 3 10) (N1 : Fr n0 l1) (e1 : T1.heap = hc) (Z1 : n0 ≤ hc.size) (K1 : Keep h0 hc []) (R1 : own_FA Z hc b3 (.array .long) 1 (fun j => .ref ((fun _ => b24) j))) (L1 : own_FA Z hc b11 .int 1 (fun j => .int ((fun _ => Int32.ofNat i) j))) (Q1 : own_FA Z hc b24 .long (kk + 1) (fun j => .long (own_lp i j))), own_E p e below s (Q4 Z x0 t sa kk h0 n0) 3 10 (T1.setTop (mkF m 49 #[.val (.ref x0), .val (.ref b3), .val (.ref b11), .val (.int (Int32.ofNat i)), s4] [])) := by
    intro k
    induction k with
    | zero =>
      intro i hi s4 hs4 T1 l1 hc X1 N1 e1 Z1 K1 R1 L1 Q1
      refine own_pre (B := T1.setTop (mkF m 50 #[.val (.ref x0), .val (.ref b3), .val (.ref b11), .val (.int (Int32.ofNat i)), s4] [(.int (Int32.ofNat i))])) ?_ fun t_ k_ => XS.iloadN X1.here hx rfl (hb hby d4_49) rfl  k_
      refine own_pre (B := T1.setTop (mkF m 51 #[.val (.ref x0), .val (.ref b3), .val (.ref b11), .val (.int (Int32.ofNat i)), s4] [(.ref x0), (.int (Int32.ofNat i))])) ?_ fun t_ k_ => XS.aloadN X1.here hx rfl (hb hby d4_50) rfl rfl k_
      obtain ⟨T38, X38, e38, st38⟩ := getF X1 hx hZ hown (host := "") (Or.inl (hw _ (List.mem_of_getElem? (i := 30) rfl))) Via.refl e1 (F_b.keep K1 nin0) (g := (mkF m 51 #[.val (.ref x0), .val (.ref b3), .val (.ref b11), .val (.int (Int32.ofNat i)), s4] [(.ref x0), (.int (Int32.ofNat i))])) rfl rfl (hb hby d4_51)
      refine own_pre (B := T38.setTop (mkF m 54 #[.val (.ref x0), .val (.ref b3), .val (.ref b11), .val (.int (Int32.ofNat i)), s4] [(.int (Int32.ofNat kk)), (.int (Int32.ofNat i))])) ?_ st38
      refine own_pre (B := T38.setTop (mkF m 103 #[.val (.ref x0), .val (.ref b3), .val (.ref b11), .val (.int (Int32.ofNat i)), s4] [])) ?_ fun t_ k_ => XS.icmpYes X38.here hx rfl (pc0 := 54) (pc' := 103) rfl (hb hby d4_54) rfl (flt (by rw [own_olt (by omega) (by omega)]; omega)).2.1 (by decide) (by decide) k_
      refine own_pre (B := T38.setTop (mkF m 104 #[.val (.ref x0), .val (.ref b3), .val (.ref b11), .val (.int (Int32.ofNat i)), s4] [(.ref b3)])) ?_ fun t_ k_ => XS.aloadN X38.here hx rfl (hb hby d4_103) rfl rfl k_
      refine own_retA X38 hx hlk (t := (.array (.array .long))) Bd.returns rfl rfl (hb hby d4_104) ?_ (by decide) (by decide)
      rw [e38]
      exact ⟨b3, b24, rfl, N1, K1, R1, Q1.eq fun j hj => by rw [own_lp, if_pos (by omega)]⟩
    | succ k ih =>
      intro i hi s4 hs4 T1 l1 hc X1 N1 e1 Z1 K1 R1 L1 Q1
      refine own_pre (B := T1.setTop (mkF m 50 #[.val (.ref x0), .val (.ref b3), .val (.ref b11), .val (.int (Int32.ofNat i)), s4] [(.int (Int32.ofNat i))])) ?_ fun t_ k_ => XS.iloadN X1.here hx rfl (hb hby d4_49) rfl  k_
      refine own_pre (B := T1.setTop (mkF m 51 #[.val (.ref x0), .val (.ref b3), .val (.ref b11), .val (.int (Int32.ofNat i)), s4] [(.ref x0), (.int (Int32.ofNat i))])) ?_ fun t_ k_ => XS.aloadN X1.here hx rfl (hb hby d4_50) rfl rfl k_
      obtain ⟨T39, X39, e39, st39⟩ := getF X1 hx hZ hown (host := "") (Or.inl (hw _ (List.mem_of_getElem? (i := 30) rfl))) Via.refl e1 (F_b.keep K1 nin0) (g := (mkF m 51 #[.val (.ref x0), .val (.ref b3), .val (.ref b11), .val (.int (Int32.ofNat i)), s4] [(.ref x0), (.int (Int32.ofNat i))])) rfl rfl (hb hby d4_51)
      refine own_pre (B := T39.setTop (mkF m 54 #[.val (.ref x0), .val (.ref b3), .val (.ref b11), .val (.int (Int32.ofNat i)), s4] [(.int (Int32.ofNat kk)), (.int (Int32.ofNat i))])) ?_ st39
      refine own_pre (B := T39.setTop (mkF m 57 #[.val (.ref x0), .val (.ref b3), .val (.ref b11), .val (.int (Int32.ofNat i)), s4] [])) ?_ fun t_ k_ => XS.icmpNo X39.here hx rfl (hb hby d4_54) rfl (tlt (by rw [own_olt (by omega) (by omega)]; omega)).2.1 k_
      refine own_pre (B := T39.setTop (mkF m 58 #[.val (.ref x0), .val (.ref b3), .val (.ref b11), .val (.int (Int32.ofNat i)), s4] [(.ref x0)])) ?_ fun t_ k_ => XS.aloadN X39.here hx rfl (hb hby d4_57) rfl rfl k_
      obtain ⟨T40, X40, e40, st40⟩ := getF X39 hx hZ hown (host := "") (Or.inl (hw _ (List.mem_of_getElem? (i := 10) rfl))) Via.refl e39 (F_t.keep K1 nin0) (g := (mkF m 58 #[.val (.ref x0), .val (.ref b3), .val (.ref b11), .val (.int (Int32.ofNat i)), s4] [(.ref x0)])) rfl rfl (hb hby d4_58)
      refine own_pre (B := T40.setTop (mkF m 61 #[.val (.ref x0), .val (.ref b3), .val (.ref b11), .val (.int (Int32.ofNat i)), s4] [(.ref t)])) ?_ st40
      refine own_pre (B := T40.setTop (mkF m 62 #[.val (.ref x0), .val (.ref b3), .val (.ref b11), .val (.int (Int32.ofNat i)), s4] [(.int (Int32.ofNat i)), (.ref t)])) ?_ fun t_ k_ => XS.iloadN X40.here hx rfl (hb hby d4_61) rfl  k_
      obtain ⟨Ln41, cl41, Ar41, S41, Hh41⟩ := id (A_t.keep K1 nin0)
      have hin41 := own_hin (j := (Int32.ofNat i)) (i := i) S41 (own_ic (by omega)) (own_in0 (by omega)) (by omega)
      have hat41 : cl41.slots[((Int32.ofNat i)).toNatClampNeg]? = some (.int (0 : Int32)) := own_hat (j := (Int32.ofNat i)) (i := i) Hh41 (own_ic (by omega)) (by omega)
      refine own_pre (B := T40.setTop (mkF m 63 #[.val (.ref x0), .val (.ref b3), .val (.ref b11), .val (.int (Int32.ofNat i)), s4] [(.int (0 : Int32))])) ?_ fun t_ k_ => X40.iaload hx (j := (Int32.ofNat i)) (v := (.int (0 : Int32))) (by rw [e40]; exact Ar41.1) (State.isArrayOf_alike hZ.alike Ar41.2.1) Ar41.2.2 hin41 hat41 (g := (mkF m 62 #[.val (.ref x0), .val (.ref b3), .val (.ref b11), .val (.int (Int32.ofNat i)), s4] [(.int (Int32.ofNat i)), (.ref t)])) rfl rfl (hb hby d4_62) t_ k_
      refine own_pre (B := T40.setTop (mkF m 65 #[.val (.ref x0), .val (.ref b3), .val (.ref b11), .val (.int (Int32.ofNat i)), .val (.int (0 : Int32))] [])) ?_ fun t_ k_ => XS.istore X40.here hx rfl (hb hby d4_63) rfl  (l' := #[.val (.ref x0), .val (.ref b3), .val (.ref b11), .val (.int (Int32.ofNat i)), .val (.int (0 : Int32))]) (own_st4_42 hs4) k_
      refine own_pre (B := T40.setTop (mkF m 66 #[.val (.ref x0), .val (.ref b3), .val (.ref b11), .val (.int (Int32.ofNat i)), .val (.int (0 : Int32))] [(.ref b3)])) ?_ fun t_ k_ => XS.aloadN X40.here hx rfl (hb hby d4_65) rfl rfl k_
      refine own_pre (B := T40.setTop (mkF m 68 #[.val (.ref x0), .val (.ref b3), .val (.ref b11), .val (.int (Int32.ofNat i)), .val (.int (0 : Int32))] [(.int (0 : Int32)), (.ref b3)])) ?_ fun t_ k_ => XS.iload X40.here hx rfl (hb hby d4_66) rfl  k_
      obtain ⟨Ln43, cl43, Ar43, S43, Hh43⟩ := id R1
      have hin43 := own_hin (j := (0 : Int32)) (i := 0) S43 (by decide) (by decide) (by omega)
      have hat43 : cl43.slots[((0 : Int32)).toNatClampNeg]? = some (.ref b24) := own_hat (j := (0 : Int32)) (i := 0) Hh43 (by decide) (by omega)
      refine own_pre (B := T40.setTop (mkF m 69 #[.val (.ref x0), .val (.ref b3), .val (.ref b11), .val (.int (Int32.ofNat i)), .val (.int (0 : Int32))] [(.ref b24)])) ?_ fun t_ k_ => X40.aaload hx (j := (0 : Int32)) (v := (.ref b24)) (by rw [e40]; exact Ar43.1) (State.isArrayOf_alike hZ.alike Ar43.2.1) rfl Ar43.2.2 hin43 hat43 (g := (mkF m 68 #[.val (.ref x0), .val (.ref b3), .val (.ref b11), .val (.int (Int32.ofNat i)), .val (.int (0 : Int32))] [(.int (0 : Int32)), (.ref b3)])) rfl rfl (hb hby d4_68) t_ k_
      refine own_pre (B := T40.setTop (mkF m 70 #[.val (.ref x0), .val (.ref b3), .val (.ref b11), .val (.int (Int32.ofNat i)), .val (.int (0 : Int32))] [(.ref b11), (.ref b24)])) ?_ fun t_ k_ => XS.aloadN X40.here hx rfl (hb hby d4_69) rfl rfl k_
      refine own_pre (B := T40.setTop (mkF m 72 #[.val (.ref x0), .val (.ref b3), .val (.ref b11), .val (.int (Int32.ofNat i)), .val (.int (0 : Int32))] [(.int (0 : Int32)), (.ref b11), (.ref b24)])) ?_ fun t_ k_ => XS.iload X40.here hx rfl (hb hby d4_70) rfl  k_
      obtain ⟨Ln44, cl44, Ar44, S44, Hh44⟩ := id L1
      have hin44 := own_hin (j := (0 : Int32)) (i := 0) S44 (by decide) (by decide) (by omega)
      have hat44 : cl44.slots[((0 : Int32)).toNatClampNeg]? = some (.int (Int32.ofNat i)) := own_hat (j := (0 : Int32)) (i := 0) Hh44 (by decide) (by omega)
      refine own_pre (B := T40.setTop (mkF m 73 #[.val (.ref x0), .val (.ref b3), .val (.ref b11), .val (.int (Int32.ofNat i)), .val (.int (0 : Int32))] [(.int (Int32.ofNat i)), (.ref b24)])) ?_ fun t_ k_ => X40.iaload hx (j := (0 : Int32)) (v := (.int (Int32.ofNat i))) (by rw [e40]; exact Ar44.1) (State.isArrayOf_alike hZ.alike Ar44.2.1) Ar44.2.2 hin44 hat44 (g := (mkF m 72 #[.val (.ref x0), .val (.ref b3), .val (.ref b11), .val (.int (Int32.ofNat i)), .val (.int (0 : Int32))] [(.int (0 : Int32)), (.ref b11), (.ref b24)])) rfl rfl (hb hby d4_72) t_ k_
      refine own_pre (B := T40.setTop (mkF m 74 #[.val (.ref x0), .val (.ref b3), .val (.ref b11), .val (.int (Int32.ofNat i)), .val (.int (0 : Int32))] [(.int (1 : Int32)), (.int (Int32.ofNat i)), (.ref b24)])) ?_ fun t_ k_ => XS.iconst X40.here hx rfl (hb hby d4_73) k_
      refine own_pre (B := T40.setTop (mkF m 75 #[.val (.ref x0), .val (.ref b3), .val (.ref b11), .val (.int (Int32.ofNat i)), .val (.int (0 : Int32))] [(.int ((Int32.ofNat i) + (1 : Int32))), (.ref b24)])) ?_ fun t_ k_ => XS.iadd X40.here hx rfl (hb hby d4_74) rfl k_
      rw [← inc_ofNat]
      refine own_pre (B := T40.setTop (mkF m 76 #[.val (.ref x0), .val (.ref b3), .val (.ref b11), .val (.int (Int32.ofNat i)), .val (.int (0 : Int32))] [(.ref b3), (.int (Int32.ofNat (i + 1))), (.ref b24)])) ?_ fun t_ k_ => XS.aloadN X40.here hx rfl (hb hby d4_75) rfl rfl k_
      refine own_pre (B := T40.setTop (mkF m 78 #[.val (.ref x0), .val (.ref b3), .val (.ref b11), .val (.int (Int32.ofNat i)), .val (.int (0 : Int32))] [(.int (0 : Int32)), (.ref b3), (.int (Int32.ofNat (i + 1))), (.ref b24)])) ?_ fun t_ k_ => XS.iload X40.here hx rfl (hb hby d4_76) rfl  k_
      obtain ⟨Ln45, cl45, Ar45, S45, Hh45⟩ := id R1
      have hin45 := own_hin (j := (0 : Int32)) (i := 0) S45 (by decide) (by decide) (by omega)
      have hat45 : cl45.slots[((0 : Int32)).toNatClampNeg]? = some (.ref b24) := own_hat (j := (0 : Int32)) (i := 0) Hh45 (by decide) (by omega)
      refine own_pre (B := T40.setTop (mkF m 79 #[.val (.ref x0), .val (.ref b3), .val (.ref b11), .val (.int (Int32.ofNat i)), .val (.int (0 : Int32))] [(.ref b24), (.int (Int32.ofNat (i + 1))), (.ref b24)])) ?_ fun t_ k_ => X40.aaload hx (j := (0 : Int32)) (v := (.ref b24)) (by rw [e40]; exact Ar45.1) (State.isArrayOf_alike hZ.alike Ar45.2.1) rfl Ar45.2.2 hin45 hat45 (g := (mkF m 78 #[.val (.ref x0), .val (.ref b3), .val (.ref b11), .val (.int (Int32.ofNat i)), .val (.int (0 : Int32))] [(.int (0 : Int32)), (.ref b3), (.int (Int32.ofNat (i + 1))), (.ref b24)])) rfl rfl (hb hby d4_78) t_ k_
      refine own_pre (B := T40.setTop (mkF m 80 #[.val (.ref x0), .val (.ref b3), .val (.ref b11), .val (.int (Int32.ofNat i)), .val (.int (0 : Int32))] [(.ref b11), (.ref b24), (.int (Int32.ofNat (i + 1))), (.ref b24)])) ?_ fun t_ k_ => XS.aloadN X40.here hx rfl (hb hby d4_79) rfl rfl k_
      refine own_pre (B := T40.setTop (mkF m 82 #[.val (.ref x0), .val (.ref b3), .val (.ref b11), .val (.int (Int32.ofNat i)), .val (.int (0 : Int32))] [(.int (0 : Int32)), (.ref b11), (.ref b24), (.int (Int32.ofNat (i + 1))), (.ref b24)])) ?_ fun t_ k_ => XS.iload X40.here hx rfl (hb hby d4_80) rfl  k_
      obtain ⟨Ln46, cl46, Ar46, S46, Hh46⟩ := id L1
      have hin46 := own_hin (j := (0 : Int32)) (i := 0) S46 (by decide) (by decide) (by omega)
      have hat46 : cl46.slots[((0 : Int32)).toNatClampNeg]? = some (.int (Int32.ofNat i)) := own_hat (j := (0 : Int32)) (i := 0) Hh46 (by decide) (by omega)
      refine own_pre (B := T40.setTop (mkF m 83 #[.val (.ref x0), .val (.ref b3), .val (.ref b11), .val (.int (Int32.ofNat i)), .val (.int (0 : Int32))] [(.int (Int32.ofNat i)), (.ref b24), (.int (Int32.ofNat (i + 1))), (.ref b24)])) ?_ fun t_ k_ => X40.iaload hx (j := (0 : Int32)) (v := (.int (Int32.ofNat i))) (by rw [e40]; exact Ar46.1) (State.isArrayOf_alike hZ.alike Ar46.2.1) Ar46.2.2 hin46 hat46 (g := (mkF m 82 #[.val (.ref x0), .val (.ref b3), .val (.ref b11), .val (.int (Int32.ofNat i)), .val (.int (0 : Int32))] [(.int (0 : Int32)), (.ref b11), (.ref b24), (.int (Int32.ofNat (i + 1))), (.ref b24)])) rfl rfl (hb hby d4_82) t_ k_
      obtain ⟨Ln47, cl47, Ar47, S47, Hh47⟩ := id Q1
      have hin47 := own_hin (j := (Int32.ofNat i)) (i := i) S47 (own_ic (by omega)) (own_in0 (by omega)) (by omega)
      have hat47 : cl47.slots[((Int32.ofNat i)).toNatClampNeg]? = some (.long ((own_lp i) i)) := own_hat (j := (Int32.ofNat i)) (i := i) Hh47 (own_ic (by omega)) (by omega)
      refine own_pre (B := T40.setTop (mkF m 84 #[.val (.ref x0), .val (.ref b3), .val (.ref b11), .val (.int (Int32.ofNat i)), .val (.int (0 : Int32))] [(.long ((own_lp i) i)), (.int (Int32.ofNat (i + 1))), (.ref b24)])) ?_ fun t_ k_ => X40.laload hx (j := (Int32.ofNat i)) (v := (.long ((own_lp i) i))) (by rw [e40]; exact Ar47.1) (State.isArrayOf_alike hZ.alike Ar47.2.1) Ar47.2.2 hin47 hat47 (g := (mkF m 83 #[.val (.ref x0), .val (.ref b3), .val (.ref b11), .val (.int (Int32.ofNat i)), .val (.int (0 : Int32))] [(.int (Int32.ofNat i)), (.ref b24), (.int (Int32.ofNat (i + 1))), (.ref b24)])) rfl rfl (hb hby d4_83) t_ k_
      refine own_pre (B := T40.setTop (mkF m 85 #[.val (.ref x0), .val (.ref b3), .val (.ref b11), .val (.int (Int32.ofNat i)), .val (.int (0 : Int32))] [(.long (1 : Int64)), (.long ((own_lp i) i)), (.int (Int32.ofNat (i + 1))), (.ref b24)])) ?_ fun t_ k_ => XS.lconst X40.here hx rfl (hb hby d4_84) k_
      refine own_pre (B := T40.setTop (mkF m 86 #[.val (.ref x0), .val (.ref b3), .val (.ref b11), .val (.int (Int32.ofNat i)), .val (.int (0 : Int32))] [(.int (Int32.ofNat i)), (.long (1 : Int64)), (.long ((own_lp i) i)), (.int (Int32.ofNat (i + 1))), (.ref b24)])) ?_ fun t_ k_ => XS.iloadN X40.here hx rfl (hb hby d4_85) rfl  k_
      refine own_pre (B := T40.setTop (mkF m 87 #[.val (.ref x0), .val (.ref b3), .val (.ref b11), .val (.int (Int32.ofNat i)), .val (.int (0 : Int32))] [(.long ((1 : Int64) <<< ((Int32.ofNat i) &&& 0x3f).toInt64)), (.long ((own_lp i) i)), (.int (Int32.ofNat (i + 1))), (.ref b24)])) ?_ fun t_ k_ => XS.lshl X40.here hx rfl (hb hby d4_86) rfl k_
      refine own_pre (B := T40.setTop (mkF m 88 #[.val (.ref x0), .val (.ref b3), .val (.ref b11), .val (.int (Int32.ofNat i)), .val (.int (0 : Int32))] [(.long (((own_lp i) i) ||| ((1 : Int64) <<< ((Int32.ofNat i) &&& 0x3f).toInt64))), (.int (Int32.ofNat (i + 1))), (.ref b24)])) ?_ fun t_ k_ => XS.lor X40.here hx rfl (hb hby d4_87) rfl k_
      rw [own_lp_at, own_lp_next i (by omega)]
      obtain ⟨Ln48, cl48, Ar48, S48, Hh48⟩ := id Q1
      have hin48 := own_hin (j := (Int32.ofNat (i + 1))) (i := (i + 1)) S48 (own_ic (by omega)) (own_in0 (by omega)) (by omega)
      obtain ⟨T48, h48, X48, e48, W48, st48⟩ := stJ X40 hx hZ e40 Ar48 (j := (Int32.ofNat (i + 1))) hin48 (g := (mkF m 88 #[.val (.ref x0), .val (.ref b3), .val (.ref b11), .val (.int (Int32.ofNat i)), .val (.int (0 : Int32))] [(.long (own_low (i + 1))), (.int (Int32.ofNat (i + 1))), (.ref b24)])) rfl rfl (hb hby d4_88)
      have A48 : own_FA Z h48 b24 .long (kk + 1) (fun zz => .long ((own_up (own_lp i) (i + 1) (own_low (i + 1))) zz)) := by have q := own_FA.setJ Q1 W48; rw [show ((Int32.ofNat (i + 1))).toNatClampNeg = (i + 1) from (own_ic (by omega))] at q; exact q
      have N48 := Fr.snoc X48 N1 gz24
      have Z48 : n0 ≤ h48.size := Nat.le_trans Z1 (Keep.of_wr W48).1
      have K48 := K1.wr W48 (Or.inr sz24)
      refine own_pre (B := T48.setTop (mkF m 89 #[.val (.ref x0), .val (.ref b3), .val (.ref b11), .val (.int (Int32.ofNat i)), .val (.int (0 : Int32))] [])) ?_ st48
      refine own_pre (B := T48.setTop (mkF m 90 #[.val (.ref x0), .val (.ref b3), .val (.ref b11), .val (.int (Int32.ofNat i)), .val (.int (0 : Int32))] [(.ref b11)])) ?_ fun t_ k_ => XS.aloadN X48.here hx rfl (hb hby d4_89) rfl rfl k_
      refine own_pre (B := T48.setTop (mkF m 92 #[.val (.ref x0), .val (.ref b3), .val (.ref b11), .val (.int (Int32.ofNat i)), .val (.int (0 : Int32))] [(.int (0 : Int32)), (.ref b11)])) ?_ fun t_ k_ => XS.iload X48.here hx rfl (hb hby d4_90) rfl  k_
      refine own_pre (B := T48.setTop (mkF m 93 #[.val (.ref x0), .val (.ref b3), .val (.ref b11), .val (.int (Int32.ofNat i)), .val (.int (0 : Int32))] [(.int (0 : Int32)), (.ref b11), (.int (0 : Int32)), (.ref b11)])) ?_ (fun t_ k_ => by
          jvm_step X48.here [X48.here.top, hx, (hb hby d4_92), Value.category]
          exact k_)
      have f50 := (L1.other W48 ne32)
      obtain ⟨Ln49, cl49, Ar49, S49, Hh49⟩ := id f50
      have hin49 := own_hin (j := (0 : Int32)) (i := 0) S49 (by decide) (by decide) (by omega)
      have hat49 : cl49.slots[((0 : Int32)).toNatClampNeg]? = some (.int (Int32.ofNat i)) := own_hat (j := (0 : Int32)) (i := 0) Hh49 (by decide) (by omega)
      refine own_pre (B := T48.setTop (mkF m 94 #[.val (.ref x0), .val (.ref b3), .val (.ref b11), .val (.int (Int32.ofNat i)), .val (.int (0 : Int32))] [(.int (Int32.ofNat i)), (.int (0 : Int32)), (.ref b11)])) ?_ fun t_ k_ => X48.iaload hx (j := (0 : Int32)) (v := (.int (Int32.ofNat i))) (by rw [e48]; exact Ar49.1) (State.isArrayOf_alike hZ.alike Ar49.2.1) Ar49.2.2 hin49 hat49 (g := (mkF m 93 #[.val (.ref x0), .val (.ref b3), .val (.ref b11), .val (.int (Int32.ofNat i)), .val (.int (0 : Int32))] [(.int (0 : Int32)), (.ref b11), (.int (0 : Int32)), (.ref b11)])) rfl rfl (hb hby d4_93) t_ k_
      refine own_pre (B := T48.setTop (mkF m 95 #[.val (.ref x0), .val (.ref b3), .val (.ref b11), .val (.int (Int32.ofNat i)), .val (.int (0 : Int32))] [(.int (1 : Int32)), (.int (Int32.ofNat i)), (.int (0 : Int32)), (.ref b11)])) ?_ fun t_ k_ => XS.iconst X48.here hx rfl (hb hby d4_94) k_
      refine own_pre (B := T48.setTop (mkF m 96 #[.val (.ref x0), .val (.ref b3), .val (.ref b11), .val (.int (Int32.ofNat i)), .val (.int (0 : Int32))] [(.int ((Int32.ofNat i) + (1 : Int32))), (.int (0 : Int32)), (.ref b11)])) ?_ fun t_ k_ => XS.iadd X48.here hx rfl (hb hby d4_95) rfl k_
      obtain ⟨Ln51, cl51, Ar51, S51, Hh51⟩ := id f50
      have hin51 := own_hin (j := (0 : Int32)) (i := 0) S51 (by decide) (by decide) (by omega)
      obtain ⟨T51, h51, X51, e51, W51, st51⟩ := stI X48 hx hZ e48 Ar51 (j := (0 : Int32)) hin51 (g := (mkF m 96 #[.val (.ref x0), .val (.ref b3), .val (.ref b11), .val (.int (Int32.ofNat i)), .val (.int (0 : Int32))] [(.int ((Int32.ofNat i) + (1 : Int32))), (.int (0 : Int32)), (.ref b11)])) rfl rfl (hb hby d4_96)
      have A51 : own_FA Z h51 b11 .int 1 (fun zz => .int ((own_up (fun _ => Int32.ofNat i) 0 ((Int32.ofNat i) + (1 : Int32))) zz)) := by have q := own_FA.setI f50 W51; rw [show ((0 : Int32)).toNatClampNeg = 0 from (by decide)] at q; exact q
      have N51 := Fr.snoc X51 N48 gz11
      have Z51 : n0 ≤ h51.size := Nat.le_trans Z48 (Keep.of_wr W51).1
      have K51 := K48.wr W51 (Or.inr sz11)
      refine own_pre (B := T51.setTop (mkF m 97 #[.val (.ref x0), .val (.ref b3), .val (.ref b11), .val (.int (Int32.ofNat i)), .val (.int (0 : Int32))] [])) ?_ st51
      refine own_pre (B := T51.setTop (mkF m 100 #[.val (.ref x0), .val (.ref b3), .val (.ref b11), .val (.int ((Int32.ofNat i) + (1 : Int32))), .val (.int (0 : Int32))] [])) ?_ fun t_ k_ => XS.iinc X51.here hx rfl (hb hby d4_97) rfl (l' := #[.val (.ref x0), .val (.ref b3), .val (.ref b11), .val (.int ((Int32.ofNat i) + (1 : Int32))), .val (.int (0 : Int32))]) rfl k_
      refine own_pre (B := T51.setTop (mkF m 49 #[.val (.ref x0), .val (.ref b3), .val (.ref b11), .val (.int ((Int32.ofNat i) + (1 : Int32))), .val (.int (0 : Int32))] [])) ?_ fun t_ k_ => XS.goto X51.here hx rfl (pc0 := 100) (pc' := 49) rfl (hb hby d4_100) (by decide) (by decide) k_
      rw [← inc_ofNat]
      have f52 := ((R1.other W48 ne30).other W51 ne17)
      have f53 := (A48.other W51 (Ne.symm ne32))
      exact ih (i + 1) (by omega) _ (One.val rfl) T51 _ _ X51 N51 e51 Z51 K51 f52 (A51.eq fun j hj => by simp [own_up, show j = 0 by omega, inc_ofNat]) (f53.eq fun j hj => by rw [← own_lp_succ])
  have f54 := ((V11.ext E24).other W33 (Ne.symm ne17))
  have f55 := (V24.other W33 (Ne.symm ne30))
  exact loop kk 0 (by omega) .unset One.u T35 _ _ X35 N33 e35 Z33 K33 Krr (f54.eq fun j hj => rfl) (f55.eq fun j hj => by by_cases e : j = 0 <;> simp [own_lp, own_low, e])
def own_need (kk : Nat) (x : Int32) : Int64 := if (Int32.ofNat kk) < own_max (0 : Int32) (x - (0 : Int32)) then (-1 : Int64) else ((0 : Int64) ||| own_low (own_max (0 : Int32) (x - (0 : Int32))).toNatClampNeg)
theorem own_maxn (x : Int32) : ¬ own_max (0 : Int32) x < 0 := by
  unfold own_max
  split
  · rename_i h; rw [Int32.lt_iff_toInt_lt] at h ⊢; omega
  · decide
theorem own_ndlt {nd : Int32} {kk : Nat} (h : ¬ (Int32.ofNat kk) < nd) (hk : kk ≤ 7) : nd.toNatClampNeg < kk + 1 := by
  rw [Int32.lt_iff_toInt_lt, own_i1 (by omega)] at h
  unfold Int32.toNatClampNeg; omega
theorem d3_0 : decode prog_2_method_2_code 0 = .ok (.aload_n 0, 1) := by decide +kernel
theorem d3_1 : decode prog_2_method_2_code 1 = .ok (.invokevirtual 22, 3) := by decide +kernel
theorem pd_____J : parseMethodDescriptor "()[[J" = some ⟨[], some (.array (.array .long))⟩ := by decide +kernel
theorem d3_4 : decode prog_2_method_2_code 4 = .ok (.astore_n 2, 1) := by decide +kernel
theorem d3_5 : decode prog_2_method_2_code 5 = .ok (.aload_n 0, 1) := by decide +kernel
theorem d3_6 : decode prog_2_method_2_code 6 = .ok (.getfield 15, 3) := by decide +kernel
theorem d3_9 : decode prog_2_method_2_code 9 = .ok (.arraylength, 1) := by decide +kernel
theorem d3_10 : decode prog_2_method_2_code 10 = .ok (.newarray .int, 2) := by decide +kernel
theorem d3_12 : decode prog_2_method_2_code 12 = .ok (.astore_n 3, 1) := by decide +kernel
theorem d3_13 : decode prog_2_method_2_code 13 = .ok (.lconst 0, 1) := by decide +kernel
theorem d3_14 : decode prog_2_method_2_code 14 = .ok (.lstore 4, 2) := by decide +kernel
theorem d3_16 : decode prog_2_method_2_code 16 = .ok (.ldc2_w 26, 3) := by decide +kernel
theorem d3_19 : decode prog_2_method_2_code 19 = .ok (.lstore 6, 2) := by decide +kernel
theorem d3_21 : decode prog_2_method_2_code 21 = .ok (.iconst 0, 1) := by decide +kernel
theorem d3_22 : decode prog_2_method_2_code 22 = .ok (.istore 8, 2) := by decide +kernel
theorem d3_24 : decode prog_2_method_2_code 24 = .ok (.iload 8, 2) := by decide +kernel
theorem d3_26 : decode prog_2_method_2_code 26 = .ok (.aload_n 0, 1) := by decide +kernel
theorem d3_27 : decode prog_2_method_2_code 27 = .ok (.getfield 18, 3) := by decide +kernel
theorem d3_30 : decode prog_2_method_2_code 30 = .ok (.arraylength, 1) := by decide +kernel
theorem d3_31 : decode prog_2_method_2_code 31 = .ok (.if_icmp .ge 141, 3) := by decide +kernel
theorem d3_34 : decode prog_2_method_2_code 34 = .ok (.iload 8, 2) := by decide +kernel
theorem d3_36 : decode prog_2_method_2_code 36 = .ok (.ifCond .le 74, 3) := by decide +kernel
theorem d3_110 : decode prog_2_method_2_code 110 = .ok (.iconst 0, 1) := by decide +kernel
theorem d3_111 : decode prog_2_method_2_code 111 = .ok (.iload_n 1, 1) := by decide +kernel
theorem d3_112 : decode prog_2_method_2_code 112 = .ok (.aload_n 0, 1) := by decide +kernel
theorem d3_113 : decode prog_2_method_2_code 113 = .ok (.getfield 18, 3) := by decide +kernel
theorem d3_116 : decode prog_2_method_2_code 116 = .ok (.iload 8, 2) := by decide +kernel
theorem d3_118 : decode prog_2_method_2_code 118 = .ok (.baload, 1) := by decide +kernel
theorem d3_119 : decode prog_2_method_2_code 119 = .ok (.isub, 1) := by decide +kernel
theorem d3_120 : decode prog_2_method_2_code 120 = .ok (.invokestatic 28, 3) := by decide +kernel
theorem pd__II_I : parseMethodDescriptor "(II)I" = some ⟨[.int, .int], some .int⟩ := by decide +kernel
theorem d3_123 : decode prog_2_method_2_code 123 = .ok (.istore 9, 2) := by decide +kernel
theorem d3_125 : decode prog_2_method_2_code 125 = .ok (.iload 9, 2) := by decide +kernel
theorem d3_127 : decode prog_2_method_2_code 127 = .ok (.aload_n 0, 1) := by decide +kernel
theorem d3_128 : decode prog_2_method_2_code 128 = .ok (.getfield 15, 3) := by decide +kernel
theorem d3_131 : decode prog_2_method_2_code 131 = .ok (.iconst 0, 1) := by decide +kernel
theorem d3_132 : decode prog_2_method_2_code 132 = .ok (.iaload, 1) := by decide +kernel
theorem d3_133 : decode prog_2_method_2_code 133 = .ok (.if_icmp .gt 33, 3) := by decide +kernel
theorem d3_166 : decode prog_2_method_2_code 166 = .ok (.iinc 8 1, 3) := by decide +kernel
theorem d3_169 : decode prog_2_method_2_code 169 = .ok (.goto (-145), 3) := by decide +kernel
theorem d3_172 : decode prog_2_method_2_code 172 = .ok (.lload 6, 2) := by decide +kernel
theorem d3_174 : decode prog_2_method_2_code 174 = .ok (.lreturn, 1) := by decide +kernel
theorem d3_136 : decode prog_2_method_2_code 136 = .ok (.lload 4, 2) := by decide +kernel
theorem d3_138 : decode prog_2_method_2_code 138 = .ok (.aload_n 2, 1) := by decide +kernel
theorem d3_139 : decode prog_2_method_2_code 139 = .ok (.iconst 0, 1) := by decide +kernel
theorem d3_140 : decode prog_2_method_2_code 140 = .ok (.aaload, 1) := by decide +kernel
theorem d3_141 : decode prog_2_method_2_code 141 = .ok (.iload 9, 2) := by decide +kernel
theorem d3_143 : decode prog_2_method_2_code 143 = .ok (.laload, 1) := by decide +kernel
theorem d3_144 : decode prog_2_method_2_code 144 = .ok (.lor, 1) := by decide +kernel
theorem d3_145 : decode prog_2_method_2_code 145 = .ok (.lstore 10, 2) := by decide +kernel
theorem d3_147 : decode prog_2_method_2_code 147 = .ok (.lload 6, 2) := by decide +kernel
theorem d3_149 : decode prog_2_method_2_code 149 = .ok (.lconst 0, 1) := by decide +kernel
theorem d3_150 : decode prog_2_method_2_code 150 = .ok (.lcmp, 1) := by decide +kernel
theorem d3_151 : decode prog_2_method_2_code 151 = .ok (.ifCond .lt 11, 3) := by decide +kernel
theorem d3_162 : decode prog_2_method_2_code 162 = .ok (.lload 10, 2) := by decide +kernel
theorem d3_164 : decode prog_2_method_2_code 164 = .ok (.lstore 6, 2) := by decide +kernel
set_option maxHeartbeats 4000000 in
theorem ef_3 (m : MethodId) (x0 : Addr) (x1 : Int32) : entryFrame m #[(.ref x0), (.int x1)] 12 = mkF m 0 #[.val (.ref x0), .val (.int x1), .unset, .unset, .unset, .unset, .unset, .unset, .unset, .unset, .unset, .unset] [] := by first | (simp [entryFrame, mkF, argsToLocals, Value.category]; done) | rfl
def Q3 (Z : State) (x0 : Addr) (x1 : Int32) (t : Addr) (sa : Addr) (tb : Addr) (kk : Nat) (h0 : Heap) (n0 : Nat) (v : Option Value) (h : Heap) (L : List Loc) : Prop := v = some (.long (own_need kk x1)) ∧ Fr n0 L ∧ Keep h0 h []
set_option maxRecDepth 65536 in
set_option maxHeartbeats 40000000 in
theorem rm3 (l : Launch) (Z : State) (a0 : Array Value) (hw : ∀ d ∈ tables_1, d.before a0 Z = true) (ws : List Jvm.Cond) (x0 : Addr) (x1 : Int32) (t : Addr) (sa : Addr) (tb : Addr) (kk : Nat) (h0 : Heap) (n0 : Nat) (Z0 : n0 ≤ h0.size) (E_x0 : Exa Z h0 x0 "com/example/nimfield/nimfield/FewestCoins") (F_b : Fld Z h0 x0 "com/example/nimfield/nimfield/FewestCoins" "bits" "I" (.int (Int32.ofNat kk))) (F_t : Fld Z h0 x0 "com/example/nimfield/nimfield/FewestCoins" "typeOf" "[I" (.ref t)) (F_s : Fld Z h0 x0 "com/example/nimfield/nimfield/FewestCoins" "sizes" "[I" (.ref sa)) (F_ta : Fld Z h0 x0 "com/example/nimfield/nimfield/FewestCoins" "table" "[B" (.ref tb)) (A_t : own_FA Z h0 t .int 32 (fun i => .int ((fun _ => 0) i))) (A_s : own_FA Z h0 sa .int 1 (fun i => .int ((fun _ => Int32.ofNat kk) i))) (A_b : own_FA Z h0 tb .byte 1 (fun i => .int ((fun _ => 0) i))) (hk : kk ≤ 7) :
    MetFree l (⟨"com/example/nimfield/nimfield/FewestCoins", "leastNeeding", "(I)J"⟩ : MethodName) (head1 (Jvm.Cond.code (⟨"com/example/nimfield/nimfield/FewestCoins", "leastNeeding", "(I)J"⟩ : MethodName) prog_2_method_2_code 12 (some .long) :: ws) ({ frames := 1, cells := 4, slots := 11, locals := 16 } : Room)) (fun a U => a = #[(.ref x0), (.int x1)] ∧ Z.Warmed39 U.vm ∧ U.heap = h0) (fun _ _ _ _ _ => True) (fun _ U o U' => ∃ v L, o = .returned v ∧ Q3 Z x0 x1 t sa tb kk h0 n0 v U'.heap L ∧ FrameEnd U o U' L ({ frames := 1, cells := 4, slots := 11, locals := 16 } : Room).cells ({ frames := 1, cells := 4, slots := 11, locals := 16 } : Room).slots) := by
  refine MetFree.of_bodySF (plainFor_of_name pn_com_example_nimfield_nimfield_FewestCoins) hisR ?_
  intro p e s m args below meth c s₁ Bd hml0 hP hK
  obtain ⟨rfl, hZ, hh⟩ := hP
  have hx := Bd.exec
  have hby := Bd.bytes
  have hml : c.maxLocals = 12 := hml0
  have hown : s.vm.findClass "com/example/nimfield/nimfield/FewestCoins" = some m.cls := findClass_of_methodNamed Bd.named
  have hnm := (name_of_methodNamed Bd.named Bd.method).1
  have hlk : meth.locks = false := BodyLoose.notSynchronized Bd
  have X0 : Stand p l e ({ frames := 1, cells := 4, slots := 11, locals := 16 } : Room) s m #[(.ref x0), (.int x1)] below meth c s₁ [] 0 0 := Stand.of_body Bd
  have e0 : s₁.heap = h0 := by rw [← hh, Bd.state]; rfl
  have N0 := Fr.nil n0
  show own_E p e below s (Q3 Z x0 x1 t sa tb kk h0 n0) 4 11 (s₁.setTop (entryFrame m #[(.ref x0), (.int x1)] 12))
  refine own_pre (B := s₁.setTop (mkF m 0 #[.val (.ref x0), .val (.int x1), .unset, .unset, .unset, .unset, .unset, .unset, .unset, .unset, .unset, .unset] [])) ?_ (fun t_ k_ => castTop (ef_3 m x0 x1) k_)
  refine own_pre (B := s₁.setTop (mkF m 1 #[.val (.ref x0), .val (.int x1), .unset, .unset, .unset, .unset, .unset, .unset, .unset, .unset, .unset, .unset] [(.ref x0)])) ?_ fun t_ k_ => XS.aloadN X0.here hx rfl (hb hby d3_0) rfl rfl k_
  obtain ⟨cq1, q1, q1'⟩ := E_x0.cell
  obtain ⟨_, _, ⟨T1, L1, k1, n1⟩, -, X1, ⟨Lc1, hQ1, l1, y1, z1⟩, st1⟩ := X0.privateBack hx (y := (⟨"com/example/nimfield/nimfield/FewestCoins", "lowestBits", "()[[J"⟩ : MethodName)) hown (mvT hZ (hw _ (List.mem_of_getElem? (i := 22) rfl))) (mvT hZ (hw _ (List.mem_of_getElem? (i := 23) rfl))) (own_selfsel (z := (⟨"com/example/nimfield/nimfield/FewestCoins", "leastNeeding", "(I)J"⟩ : MethodName)) rfl (notFace_of_selects (args := #[]) (mvT hZ (hw _ (List.mem_of_getElem? (i := 20) rfl)))) (mvT hZ (hw _ (List.mem_of_getElem? (i := 19) rfl))) (Cond.privateMethod_at (mvP hZ (hw _ (List.mem_of_getElem? (i := 24) rfl)) (args := #[]))) (mvT hZ (hw _ (List.mem_of_getElem? (i := 23) rfl))) (by decide)) (Cond.privateMethod_at (mvP hZ (hw _ (List.mem_of_getElem? (i := 24) rfl)) (args := #[]))) (mvT hZ (hw _ (List.mem_of_getElem? (i := 25) rfl))) (by decide) (backOf (W := 0) (rm4 l Z a0 hw [] x0 t sa kk h0 n0 Z0 F_b F_t F_s A_t A_s hk) hZ (hw _ (List.mem_of_getElem? (i := 25) rfl)) (hw _ (List.mem_of_getElem? (i := 2) rfl)) (by decide) (by decide)) (g := (mkF m 1 #[.val (.ref x0), .val (.int x1), .unset, .unset, .unset, .unset, .unset, .unset, .unset, .unset, .unset, .unset] [(.ref x0)])) rfl (by rw [hml]; rfl) (Steps.refl _) (a := x0) (by rw [e0]; exact q1) q1' (argsL := []) (rest := []) (lenOf pd_____J rfl) rfl (by show 2 * 0 + _ ≤ _; exact Nat.le_of_eq rfl) (hb hby d3_1) (fun _ _ => ⟨rfl, e0, (by decide : 0 + 3 ≤ _), (by decide : 0 + 10 ≤ _)⟩)
  dsimp only [Pt.U, Pt.locs, Pt.cells, Pt.slots] at X1 l1 y1 z1 st1 hQ1
  subst l1 y1 z1
  obtain ⟨rr, qq, rfl, Nq1, K1, R1, Q1⟩ := hQ1
  have N1 := Fr.app N0 Nq1
  have Z1 := Nat.le_trans Z0 K1.1
  refine own_pre (B := T1.setTop (mkF m 4 #[.val (.ref x0), .val (.int x1), .unset, .unset, .unset, .unset, .unset, .unset, .unset, .unset, .unset, .unset] [(.ref rr)])) ?_ (fun t_ k_ => st1.trans k_)
  refine own_pre (B := T1.setTop (mkF m 5 #[.val (.ref x0), .val (.int x1), .val (.ref rr), .unset, .unset, .unset, .unset, .unset, .unset, .unset, .unset, .unset] [])) ?_ fun t_ k_ => XS.astoreN X1.here hx rfl (hb hby d3_4) rfl rfl (l' := #[.val (.ref x0), .val (.int x1), .val (.ref rr), .unset, .unset, .unset, .unset, .unset, .unset, .unset, .unset, .unset]) rfl k_
  refine own_pre (B := T1.setTop (mkF m 6 #[.val (.ref x0), .val (.int x1), .val (.ref rr), .unset, .unset, .unset, .unset, .unset, .unset, .unset, .unset, .unset] [(.ref x0)])) ?_ fun t_ k_ => XS.aloadN X1.here hx rfl (hb hby d3_5) rfl rfl k_
  have f2 := (F_s.keep K1 nin0)
  obtain ⟨T3, X3, e3, st3⟩ := getF X1 hx hZ hown (host := "") (Or.inl (hw _ (List.mem_of_getElem? (i := 12) rfl))) Via.refl rfl f2 (g := (mkF m 6 #[.val (.ref x0), .val (.int x1), .val (.ref rr), .unset, .unset, .unset, .unset, .unset, .unset, .unset, .unset, .unset] [(.ref x0)])) rfl rfl (hb hby d3_6)
  refine own_pre (B := T3.setTop (mkF m 9 #[.val (.ref x0), .val (.int x1), .val (.ref rr), .unset, .unset, .unset, .unset, .unset, .unset, .unset, .unset, .unset] [(.ref sa)])) ?_ st3
  have f5 := (A_s.keep K1 nin0)
  obtain ⟨Ln4, cl4, Ar4, S4, Hh4⟩ := id f5
  have len4 : cl4.slots.size.toInt32 = (1 : Int32) := (congrArg Nat.toInt32 S4).trans rfl
  refine own_pre (B := T3.setTop (mkF m 10 #[.val (.ref x0), .val (.int x1), .val (.ref rr), .unset, .unset, .unset, .unset, .unset, .unset, .unset, .unset, .unset] [(.int (1 : Int32))])) ?_ (fun t_ k_ => X3.arraylength hx (by rw [e3]; exact Ar4.1) (State.isArrayOf_alike hZ.alike Ar4.2.1) (g := (mkF m 9 #[.val (.ref x0), .val (.int x1), .val (.ref rr), .unset, .unset, .unset, .unset, .unset, .unset, .unset, .unset, .unset] [(.ref sa)])) rfl rfl (hb hby d3_9) t_ (by rw [len4]; exact k_))
  obtain ⟨T6, h6, k6, X6, e6, E6, A6, st6⟩ := newP X3 hx hZ (hw _ (List.mem_of_getElem? (i := 9) rfl)) e3 (g := (mkF m 10 #[.val (.ref x0), .val (.int x1), .val (.ref rr), .unset, .unset, .unset, .unset, .unset, .unset, .unset, .unset, .unset] [(.int (1 : Int32))])) rfl (hb hby d3_10) rfl (by decide) (cap := 1) (by decide) (by decide) (by decide) (by decide)
  obtain ⟨b6, g6⟩ : ∃ z, z = T1.heap.size := ⟨_, rfl⟩
  rw [← g6] at A6 st6
  have f8 := (E_x0.keep K1)
  have ne7 : x0 ≠ b6 := Nat.ne_of_lt (Nat.lt_of_lt_of_le f8.lt (Nat.le_of_eq g6.symm))
  have f10 := (A_t.keep K1 nin0)
  have ne9 : t ≠ b6 := Nat.ne_of_lt (Nat.lt_of_lt_of_le f10.lt (Nat.le_of_eq g6.symm))
  have ne11 : sa ≠ b6 := Nat.ne_of_lt (Nat.lt_of_lt_of_le f5.lt (Nat.le_of_eq g6.symm))
  have f13 := (A_b.keep K1 nin0)
  have ne12 : tb ≠ b6 := Nat.ne_of_lt (Nat.lt_of_lt_of_le f13.lt (Nat.le_of_eq g6.symm))
  have ne14 : rr ≠ b6 := Nat.ne_of_lt (Nat.lt_of_lt_of_le R1.lt (Nat.le_of_eq g6.symm))
  have ne15 : qq ≠ b6 := Nat.ne_of_lt (Nat.lt_of_lt_of_le Q1.lt (Nat.le_of_eq g6.symm))
  have Z6 : n0 ≤ h6.size := Nat.le_trans Z1 E6.1
  have gz6 : n0 ≤ b6 := Nat.le_trans Z1 (Nat.le_of_eq g6.symm)
  have sz6 : h0.size ≤ b6 := Nat.le_trans K1.1 (Nat.le_of_eq g6.symm)
  have K6 := K1.ext E6
  have V6 : own_FA Z h6 b6 .int ((1 : Int32)).toNatClampNeg (fun i => .int ((fun _ => 0) i)) := own_FA.new A6 (by decide)
  rw [show (1 : Int32).toNatClampNeg = 1 from rfl] at V6
  refine own_pre (B := T6.setTop (mkF m 12 #[.val (.ref x0), .val (.int x1), .val (.ref rr), .unset, .unset, .unset, .unset, .unset, .unset, .unset, .unset, .unset] [(.ref b6)])) ?_ st6
  refine own_pre (B := T6.setTop (mkF m 13 #[.val (.ref x0), .val (.int x1), .val (.ref rr), .val (.ref b6), .unset, .unset, .unset, .unset, .unset, .unset, .unset, .unset] [])) ?_ fun t_ k_ => XS.astoreN X6.here hx rfl (hb hby d3_12) rfl rfl (l' := #[.val (.ref x0), .val (.int x1), .val (.ref rr), .val (.ref b6), .unset, .unset, .unset, .unset, .unset, .unset, .unset, .unset]) rfl k_
  refine own_pre (B := T6.setTop (mkF m 14 #[.val (.ref x0), .val (.int x1), .val (.ref rr), .val (.ref b6), .unset, .unset, .unset, .unset, .unset, .unset, .unset, .unset] [(.long (0 : Int64))])) ?_ fun t_ k_ => XS.lconst X6.here hx rfl (hb hby d3_13) k_
  refine own_pre (B := T6.setTop (mkF m 16 #[.val (.ref x0), .val (.int x1), .val (.ref rr), .val (.ref b6), .val (.long (0 : Int64)), .second, .unset, .unset, .unset, .unset, .unset, .unset] [])) ?_ fun t_ k_ => XS.lstore X6.here hx rfl (hb hby d3_14) rfl  (l' := #[.val (.ref x0), .val (.int x1), .val (.ref rr), .val (.ref b6), .val (.long (0 : Int64)), .second, .unset, .unset, .unset, .unset, .unset, .unset]) rfl k_
  refine own_pre (B := T6.setTop (mkF m 19 #[.val (.ref x0), .val (.int x1), .val (.ref rr), .val (.ref b6), .val (.long (0 : Int64)), .second, .unset, .unset, .unset, .unset, .unset, .unset] [(.long (-1 : Int64))])) ?_ (X6.ldc2Long hx hown (mvT hZ (hw _ (List.mem_of_getElem? (i := 32) rfl))) (g := (mkF m 16 #[.val (.ref x0), .val (.int x1), .val (.ref rr), .val (.ref b6), .val (.long (0 : Int64)), .second, .unset, .unset, .unset, .unset, .unset, .unset] [])) rfl (hb hby d3_16))
  refine own_pre (B := T6.setTop (mkF m 21 #[.val (.ref x0), .val (.int x1), .val (.ref rr), .val (.ref b6), .val (.long (0 : Int64)), .second, .val (.long (-1 : Int64)), .second, .unset, .unset, .unset, .unset] [])) ?_ fun t_ k_ => XS.lstore X6.here hx rfl (hb hby d3_19) rfl  (l' := #[.val (.ref x0), .val (.int x1), .val (.ref rr), .val (.ref b6), .val (.long (0 : Int64)), .second, .val (.long (-1 : Int64)), .second, .unset, .unset, .unset, .unset]) rfl k_
  refine own_pre (B := T6.setTop (mkF m 22 #[.val (.ref x0), .val (.int x1), .val (.ref rr), .val (.ref b6), .val (.long (0 : Int64)), .second, .val (.long (-1 : Int64)), .second, .unset, .unset, .unset, .unset] [(.int (0 : Int32))])) ?_ fun t_ k_ => XS.iconst X6.here hx rfl (hb hby d3_21) k_
  refine own_pre (B := T6.setTop (mkF m 24 #[.val (.ref x0), .val (.int x1), .val (.ref rr), .val (.ref b6), .val (.long (0 : Int64)), .second, .val (.long (-1 : Int64)), .second, .val (.int (0 : Int32)), .unset, .unset, .unset] [])) ?_ fun t_ k_ => XS.istore X6.here hx rfl (hb hby d3_22) rfl  (l' := #[.val (.ref x0), .val (.int x1), .val (.ref rr), .val (.ref b6), .val (.long (0 : Int64)), .second, .val (.long (-1 : Int64)), .second, .val (.int (0 : Int32)), .unset, .unset, .unset]) rfl k_
  refine own_pre (B := T6.setTop (mkF m 26 #[.val (.ref x0), .val (.int x1), .val (.ref rr), .val (.ref b6), .val (.long (0 : Int64)), .second, .val (.long (-1 : Int64)), .second, .val (.int (0 : Int32)), .unset, .unset, .unset] [(.int (0 : Int32))])) ?_ fun t_ k_ => XS.iload X6.here hx rfl (hb hby d3_24) rfl  k_
  refine own_pre (B := T6.setTop (mkF m 27 #[.val (.ref x0), .val (.int x1), .val (.ref rr), .val (.ref b6), .val (.long (0 : Int64)), .second, .val (.long (-1 : Int64)), .second, .val (.int (0 : Int32)), .unset, .unset, .unset] [(.ref x0), (.int (0 : Int32))])) ?_ fun t_ k_ => XS.aloadN X6.here hx rfl (hb hby d3_26) rfl rfl k_
  have f16 := ((F_ta.keep K1 nin0).ext E6)
  obtain ⟨T17, X17, e17, st17⟩ := getF X6 hx hZ hown (host := "") (Or.inl (hw _ (List.mem_of_getElem? (i := 15) rfl))) Via.refl e6 f16 (g := (mkF m 27 #[.val (.ref x0), .val (.int x1), .val (.ref rr), .val (.ref b6), .val (.long (0 : Int64)), .second, .val (.long (-1 : Int64)), .second, .val (.int (0 : Int32)), .unset, .unset, .unset] [(.ref x0), (.int (0 : Int32))])) rfl rfl (hb hby d3_27)
  refine own_pre (B := T17.setTop (mkF m 30 #[.val (.ref x0), .val (.int x1), .val (.ref rr), .val (.ref b6), .val (.long (0 : Int64)), .second, .val (.long (-1 : Int64)), .second, .val (.int (0 : Int32)), .unset, .unset, .unset] [(.ref tb), (.int (0 : Int32))])) ?_ st17
  have f19 := (f13.ext E6)
  obtain ⟨Ln18, cl18, Ar18, S18, Hh18⟩ := id f19
  have len18 : cl18.slots.size.toInt32 = (1 : Int32) := (congrArg Nat.toInt32 S18).trans rfl
  refine own_pre (B := T17.setTop (mkF m 31 #[.val (.ref x0), .val (.int x1), .val (.ref rr), .val (.ref b6), .val (.long (0 : Int64)), .second, .val (.long (-1 : Int64)), .second, .val (.int (0 : Int32)), .unset, .unset, .unset] [(.int (1 : Int32)), (.int (0 : Int32))])) ?_ (fun t_ k_ => X17.arraylength hx (by rw [e17]; exact Ar18.1) (State.isArrayOf_alike hZ.alike Ar18.2.1) (g := (mkF m 30 #[.val (.ref x0), .val (.int x1), .val (.ref rr), .val (.ref b6), .val (.long (0 : Int64)), .second, .val (.long (-1 : Int64)), .second, .val (.int (0 : Int32)), .unset, .unset, .unset] [(.ref tb), (.int (0 : Int32))])) rfl rfl (hb hby d3_30) t_ (by rw [len18]; exact k_))
  refine own_pre (B := T17.setTop (mkF m 34 #[.val (.ref x0), .val (.int x1), .val (.ref rr), .val (.ref b6), .val (.long (0 : Int64)), .second, .val (.long (-1 : Int64)), .second, .val (.int (0 : Int32)), .unset, .unset, .unset] [])) ?_ fun t_ k_ => XS.icmpNo X17.here hx rfl (hb hby d3_31) rfl (tlt (by decide : ((0 : Int32) < (1 : Int32)))).2.1 k_
  refine own_pre (B := T17.setTop (mkF m 36 #[.val (.ref x0), .val (.int x1), .val (.ref rr), .val (.ref b6), .val (.long (0 : Int64)), .second, .val (.long (-1 : Int64)), .second, .val (.int (0 : Int32)), .unset, .unset, .unset] [(.int (0 : Int32))])) ?_ fun t_ k_ => XS.iload X17.here hx rfl (hb hby d3_34) rfl  k_
  refine own_pre (B := T17.setTop (mkF m 110 #[.val (.ref x0), .val (.int x1), .val (.ref rr), .val (.ref b6), .val (.long (0 : Int64)), .second, .val (.long (-1 : Int64)), .second, .val (.int (0 : Int32)), .unset, .unset, .unset] [])) ?_ fun t_ k_ => XS.ifYes X17.here hx rfl (pc0 := 36) (pc' := 110) rfl (hb hby d3_36) rfl ((if0 _ _).trans (flt (by decide : ¬ ((0 : Int32) < (0 : Int32)))).2.2.2) (by decide) (by decide) k_
  refine own_pre (B := T17.setTop (mkF m 111 #[.val (.ref x0), .val (.int x1), .val (.ref rr), .val (.ref b6), .val (.long (0 : Int64)), .second, .val (.long (-1 : Int64)), .second, .val (.int (0 : Int32)), .unset, .unset, .unset] [(.int (0 : Int32))])) ?_ fun t_ k_ => XS.iconst X17.here hx rfl (hb hby d3_110) k_
  refine own_pre (B := T17.setTop (mkF m 112 #[.val (.ref x0), .val (.int x1), .val (.ref rr), .val (.ref b6), .val (.long (0 : Int64)), .second, .val (.long (-1 : Int64)), .second, .val (.int (0 : Int32)), .unset, .unset, .unset] [(.int x1), (.int (0 : Int32))])) ?_ fun t_ k_ => XS.iloadN X17.here hx rfl (hb hby d3_111) rfl  k_
  refine own_pre (B := T17.setTop (mkF m 113 #[.val (.ref x0), .val (.int x1), .val (.ref rr), .val (.ref b6), .val (.long (0 : Int64)), .second, .val (.long (-1 : Int64)), .second, .val (.int (0 : Int32)), .unset, .unset, .unset] [(.ref x0), (.int x1), (.int (0 : Int32))])) ?_ fun t_ k_ => XS.aloadN X17.here hx rfl (hb hby d3_112) rfl rfl k_
  obtain ⟨T20, X20, e20, st20⟩ := getF X17 hx hZ hown (host := "") (Or.inl (hw _ (List.mem_of_getElem? (i := 15) rfl))) Via.refl e17 f16 (g := (mkF m 113 #[.val (.ref x0), .val (.int x1), .val (.ref rr), .val (.ref b6), .val (.long (0 : Int64)), .second, .val (.long (-1 : Int64)), .second, .val (.int (0 : Int32)), .unset, .unset, .unset] [(.ref x0), (.int x1), (.int (0 : Int32))])) rfl rfl (hb hby d3_113)
  refine own_pre (B := T20.setTop (mkF m 116 #[.val (.ref x0), .val (.int x1), .val (.ref rr), .val (.ref b6), .val (.long (0 : Int64)), .second, .val (.long (-1 : Int64)), .second, .val (.int (0 : Int32)), .unset, .unset, .unset] [(.ref tb), (.int x1), (.int (0 : Int32))])) ?_ st20
  refine own_pre (B := T20.setTop (mkF m 118 #[.val (.ref x0), .val (.int x1), .val (.ref rr), .val (.ref b6), .val (.long (0 : Int64)), .second, .val (.long (-1 : Int64)), .second, .val (.int (0 : Int32)), .unset, .unset, .unset] [(.int (0 : Int32)), (.ref tb), (.int x1), (.int (0 : Int32))])) ?_ fun t_ k_ => XS.iload X20.here hx rfl (hb hby d3_116) rfl  k_
  obtain ⟨Ln21, cl21, Ar21, S21, Hh21⟩ := id f19
  have hin21 := own_hin (j := (0 : Int32)) (i := 0) S21 (by decide) (by decide) (by omega)
  have hat21 : cl21.slots[((0 : Int32)).toNatClampNeg]? = some (.int (0 : Int32)) := own_hat (j := (0 : Int32)) (i := 0) Hh21 (by decide) (by omega)
  refine own_pre (B := T20.setTop (mkF m 119 #[.val (.ref x0), .val (.int x1), .val (.ref rr), .val (.ref b6), .val (.long (0 : Int64)), .second, .val (.long (-1 : Int64)), .second, .val (.int (0 : Int32)), .unset, .unset, .unset] [(.int (0 : Int32)), (.int x1), (.int (0 : Int32))])) ?_ fun t_ k_ => X20.baloadBytes hx (j := (0 : Int32)) (v := (.int (0 : Int32))) (by rw [e20]; exact Ar21.1) (State.isArrayOf_alike hZ.alike Ar21.2.1) Ar21.2.2 hin21 hat21 (g := (mkF m 118 #[.val (.ref x0), .val (.int x1), .val (.ref rr), .val (.ref b6), .val (.long (0 : Int64)), .second, .val (.long (-1 : Int64)), .second, .val (.int (0 : Int32)), .unset, .unset, .unset] [(.int (0 : Int32)), (.ref tb), (.int x1), (.int (0 : Int32))])) rfl rfl (hb hby d3_118) t_ k_
  refine own_pre (B := T20.setTop (mkF m 120 #[.val (.ref x0), .val (.int x1), .val (.ref rr), .val (.ref b6), .val (.long (0 : Int64)), .second, .val (.long (-1 : Int64)), .second, .val (.int (0 : Int32)), .unset, .unset, .unset] [(.int (x1 - (0 : Int32))), (.int (0 : Int32))])) ?_ fun t_ k_ => XS.isub X20.here hx rfl (hb hby d3_119) rfl k_
  obtain ⟨_, _, ⟨T22, L22, k22, n22⟩, -, X22, ⟨Lc22, hQ22, l22, y22, z22⟩, st22⟩ := Jvm.LawKit.callS X20 hx (y := (⟨"java/lang/Math", "max", "(II)I"⟩ : MethodName)) hown (mvT hZ (hw _ (List.mem_of_getElem? (i := 33) rfl))) (mvT hZ (hw _ (List.mem_of_getElem? (i := 34) rfl))) (mvT hZ (hw _ (List.mem_of_getElem? (i := 35) rfl))) (mvT hZ (hw _ (List.mem_of_getElem? (i := 36) rfl))) (by decide) (backOf (W := 0) (rm5 l Z a0 hw [] (0 : Int32) (x1 - (0 : Int32)) h6 n0 Z6 ) hZ (hw _ (List.mem_of_getElem? (i := 36) rfl)) (hw _ (List.mem_of_getElem? (i := 35) rfl)) (by decide) (by decide)) (g := (mkF m 120 #[.val (.ref x0), .val (.int x1), .val (.ref rr), .val (.ref b6), .val (.long (0 : Int64)), .second, .val (.long (-1 : Int64)), .second, .val (.int (0 : Int32)), .unset, .unset, .unset] [(.int (x1 - (0 : Int32))), (.int (0 : Int32))])) rfl (by rw [hml]; rfl) (argsL := [(.int (0 : Int32)), (.int (x1 - (0 : Int32)))]) (rest := []) (lenOf pd__II_I rfl) rfl (by show 2 * 0 + _ ≤ _; exact Nat.le_of_eq rfl) (hb hby d3_120) (fun _ _ => ⟨rfl, e20, (by decide : 4 + 0 ≤ _), (by decide : 11 + 0 ≤ _)⟩)
  dsimp only [Pt.U, Pt.locs, Pt.cells, Pt.slots] at X22 l22 y22 z22 st22 hQ22
  subst l22 y22 z22
  obtain ⟨rfl, Nq22, e22⟩ := hQ22
  have N22 := Fr.app N1 Nq22
  refine own_pre (B := T22.setTop (mkF m 123 #[.val (.ref x0), .val (.int x1), .val (.ref rr), .val (.ref b6), .val (.long (0 : Int64)), .second, .val (.long (-1 : Int64)), .second, .val (.int (0 : Int32)), .unset, .unset, .unset] [(.int (own_max (0 : Int32) (x1 - (0 : Int32))))])) ?_ st22
  generalize hmnd : (own_max (0 : Int32) (x1 - (0 : Int32))) = nd
  refine own_pre (B := T22.setTop (mkF m 125 #[.val (.ref x0), .val (.int x1), .val (.ref rr), .val (.ref b6), .val (.long (0 : Int64)), .second, .val (.long (-1 : Int64)), .second, .val (.int (0 : Int32)), .val (.int nd), .unset, .unset] [])) ?_ fun t_ k_ => XS.istore X22.here hx rfl (hb hby d3_123) rfl  (l' := #[.val (.ref x0), .val (.int x1), .val (.ref rr), .val (.ref b6), .val (.long (0 : Int64)), .second, .val (.long (-1 : Int64)), .second, .val (.int (0 : Int32)), .val (.int nd), .unset, .unset]) rfl k_
  refine own_pre (B := T22.setTop (mkF m 127 #[.val (.ref x0), .val (.int x1), .val (.ref rr), .val (.ref b6), .val (.long (0 : Int64)), .second, .val (.long (-1 : Int64)), .second, .val (.int (0 : Int32)), .val (.int nd), .unset, .unset] [(.int nd)])) ?_ fun t_ k_ => XS.iload X22.here hx rfl (hb hby d3_125) rfl  k_
  refine own_pre (B := T22.setTop (mkF m 128 #[.val (.ref x0), .val (.int x1), .val (.ref rr), .val (.ref b6), .val (.long (0 : Int64)), .second, .val (.long (-1 : Int64)), .second, .val (.int (0 : Int32)), .val (.int nd), .unset, .unset] [(.ref x0), (.int nd)])) ?_ fun t_ k_ => XS.aloadN X22.here hx rfl (hb hby d3_127) rfl rfl k_
  have f23 := (f2.ext E6)
  obtain ⟨T24, X24, e24, st24⟩ := getF X22 hx hZ hown (host := "") (Or.inl (hw _ (List.mem_of_getElem? (i := 12) rfl))) Via.refl e22 f23 (g := (mkF m 128 #[.val (.ref x0), .val (.int x1), .val (.ref rr), .val (.ref b6), .val (.long (0 : Int64)), .second, .val (.long (-1 : Int64)), .second, .val (.int (0 : Int32)), .val (.int nd), .unset, .unset] [(.ref x0), (.int nd)])) rfl rfl (hb hby d3_128)
  refine own_pre (B := T24.setTop (mkF m 131 #[.val (.ref x0), .val (.int x1), .val (.ref rr), .val (.ref b6), .val (.long (0 : Int64)), .second, .val (.long (-1 : Int64)), .second, .val (.int (0 : Int32)), .val (.int nd), .unset, .unset] [(.ref sa), (.int nd)])) ?_ st24
  refine own_pre (B := T24.setTop (mkF m 132 #[.val (.ref x0), .val (.int x1), .val (.ref rr), .val (.ref b6), .val (.long (0 : Int64)), .second, .val (.long (-1 : Int64)), .second, .val (.int (0 : Int32)), .val (.int nd), .unset, .unset] [(.int (0 : Int32)), (.ref sa), (.int nd)])) ?_ fun t_ k_ => XS.iconst X24.here hx rfl (hb hby d3_131) k_
  have f26 := (f5.ext E6)
  obtain ⟨Ln25, cl25, Ar25, S25, Hh25⟩ := id f26
  have hin25 := own_hin (j := (0 : Int32)) (i := 0) S25 (by decide) (by decide) (by omega)
  have hat25 : cl25.slots[((0 : Int32)).toNatClampNeg]? = some (.int (Int32.ofNat kk)) := own_hat (j := (0 : Int32)) (i := 0) Hh25 (by decide) (by omega)
  refine own_pre (B := T24.setTop (mkF m 133 #[.val (.ref x0), .val (.int x1), .val (.ref rr), .val (.ref b6), .val (.long (0 : Int64)), .second, .val (.long (-1 : Int64)), .second, .val (.int (0 : Int32)), .val (.int nd), .unset, .unset] [(.int (Int32.ofNat kk)), (.int nd)])) ?_ fun t_ k_ => X24.iaload hx (j := (0 : Int32)) (v := (.int (Int32.ofNat kk))) (by rw [e24]; exact Ar25.1) (State.isArrayOf_alike hZ.alike Ar25.2.1) Ar25.2.2 hin25 hat25 (g := (mkF m 132 #[.val (.ref x0), .val (.int x1), .val (.ref rr), .val (.ref b6), .val (.long (0 : Int64)), .second, .val (.long (-1 : Int64)), .second, .val (.int (0 : Int32)), .val (.int nd), .unset, .unset] [(.int (0 : Int32)), (.ref sa), (.int nd)])) rfl rfl (hb hby d3_132) t_ k_
  by_cases h133_27 : (Int32.ofNat kk) < nd
  · skip
    refine own_pre (B := T24.setTop (mkF m 166 #[.val (.ref x0), .val (.int x1), .val (.ref rr), .val (.ref b6), .val (.long (0 : Int64)), .second, .val (.long (-1 : Int64)), .second, .val (.int (0 : Int32)), .val (.int nd), .unset, .unset] [])) ?_ fun t_ k_ => XS.icmpYes X24.here hx rfl (pc0 := 133) (pc' := 166) rfl (hb hby d3_133) rfl (tlt h133_27).2.2.1 (by decide) (by decide) k_
    refine own_pre (B := T24.setTop (mkF m 169 #[.val (.ref x0), .val (.int x1), .val (.ref rr), .val (.ref b6), .val (.long (0 : Int64)), .second, .val (.long (-1 : Int64)), .second, .val (.int (1 : Int32)), .val (.int nd), .unset, .unset] [])) ?_ fun t_ k_ => XS.iinc X24.here hx rfl (hb hby d3_166) rfl (l' := #[.val (.ref x0), .val (.int x1), .val (.ref rr), .val (.ref b6), .val (.long (0 : Int64)), .second, .val (.long (-1 : Int64)), .second, .val (.int (1 : Int32)), .val (.int nd), .unset, .unset]) rfl k_
    refine own_pre (B := T24.setTop (mkF m 24 #[.val (.ref x0), .val (.int x1), .val (.ref rr), .val (.ref b6), .val (.long (0 : Int64)), .second, .val (.long (-1 : Int64)), .second, .val (.int (1 : Int32)), .val (.int nd), .unset, .unset] [])) ?_ fun t_ k_ => XS.goto X24.here hx rfl (pc0 := 169) (pc' := 24) rfl (hb hby d3_169) (by decide) (by decide) k_
    refine own_pre (B := T24.setTop (mkF m 26 #[.val (.ref x0), .val (.int x1), .val (.ref rr), .val (.ref b6), .val (.long (0 : Int64)), .second, .val (.long (-1 : Int64)), .second, .val (.int (1 : Int32)), .val (.int nd), .unset, .unset] [(.int (1 : Int32))])) ?_ fun t_ k_ => XS.iload X24.here hx rfl (hb hby d3_24) rfl  k_
    refine own_pre (B := T24.setTop (mkF m 27 #[.val (.ref x0), .val (.int x1), .val (.ref rr), .val (.ref b6), .val (.long (0 : Int64)), .second, .val (.long (-1 : Int64)), .second, .val (.int (1 : Int32)), .val (.int nd), .unset, .unset] [(.ref x0), (.int (1 : Int32))])) ?_ fun t_ k_ => XS.aloadN X24.here hx rfl (hb hby d3_26) rfl rfl k_
    obtain ⟨T28, X28, e28, st28⟩ := getF X24 hx hZ hown (host := "") (Or.inl (hw _ (List.mem_of_getElem? (i := 15) rfl))) Via.refl e24 f16 (g := (mkF m 27 #[.val (.ref x0), .val (.int x1), .val (.ref rr), .val (.ref b6), .val (.long (0 : Int64)), .second, .val (.long (-1 : Int64)), .second, .val (.int (1 : Int32)), .val (.int nd), .unset, .unset] [(.ref x0), (.int (1 : Int32))])) rfl rfl (hb hby d3_27)
    refine own_pre (B := T28.setTop (mkF m 30 #[.val (.ref x0), .val (.int x1), .val (.ref rr), .val (.ref b6), .val (.long (0 : Int64)), .second, .val (.long (-1 : Int64)), .second, .val (.int (1 : Int32)), .val (.int nd), .unset, .unset] [(.ref tb), (.int (1 : Int32))])) ?_ st28
    obtain ⟨Ln29, cl29, Ar29, S29, Hh29⟩ := id f19
    have len29 : cl29.slots.size.toInt32 = (1 : Int32) := (congrArg Nat.toInt32 S29).trans rfl
    refine own_pre (B := T28.setTop (mkF m 31 #[.val (.ref x0), .val (.int x1), .val (.ref rr), .val (.ref b6), .val (.long (0 : Int64)), .second, .val (.long (-1 : Int64)), .second, .val (.int (1 : Int32)), .val (.int nd), .unset, .unset] [(.int (1 : Int32)), (.int (1 : Int32))])) ?_ (fun t_ k_ => X28.arraylength hx (by rw [e28]; exact Ar29.1) (State.isArrayOf_alike hZ.alike Ar29.2.1) (g := (mkF m 30 #[.val (.ref x0), .val (.int x1), .val (.ref rr), .val (.ref b6), .val (.long (0 : Int64)), .second, .val (.long (-1 : Int64)), .second, .val (.int (1 : Int32)), .val (.int nd), .unset, .unset] [(.ref tb), (.int (1 : Int32))])) rfl rfl (hb hby d3_30) t_ (by rw [len29]; exact k_))
    refine own_pre (B := T28.setTop (mkF m 172 #[.val (.ref x0), .val (.int x1), .val (.ref rr), .val (.ref b6), .val (.long (0 : Int64)), .second, .val (.long (-1 : Int64)), .second, .val (.int (1 : Int32)), .val (.int nd), .unset, .unset] [])) ?_ fun t_ k_ => XS.icmpYes X28.here hx rfl (pc0 := 31) (pc' := 172) rfl (hb hby d3_31) rfl (flt (by decide : ¬ ((1 : Int32) < (1 : Int32)))).2.1 (by decide) (by decide) k_
    refine own_pre (B := T28.setTop (mkF m 174 #[.val (.ref x0), .val (.int x1), .val (.ref rr), .val (.ref b6), .val (.long (0 : Int64)), .second, .val (.long (-1 : Int64)), .second, .val (.int (1 : Int32)), .val (.int nd), .unset, .unset] [(.long (-1 : Int64))])) ?_ fun t_ k_ => XS.lload X28.here hx rfl (hb hby d3_172) rfl  k_
    refine own_retJ X28 hx hlk Bd.returns (hb hby d3_174) ?_ (by decide) (by decide)
    rw [e28]
    exact ⟨by rw [own_need, hmnd, if_pos h133_27], N22, K6⟩
  · skip
    refine own_pre (B := T24.setTop (mkF m 136 #[.val (.ref x0), .val (.int x1), .val (.ref rr), .val (.ref b6), .val (.long (0 : Int64)), .second, .val (.long (-1 : Int64)), .second, .val (.int (0 : Int32)), .val (.int nd), .unset, .unset] [])) ?_ fun t_ k_ => XS.icmpNo X24.here hx rfl (hb hby d3_133) rfl (flt h133_27).2.2.1 k_
    refine own_pre (B := T24.setTop (mkF m 138 #[.val (.ref x0), .val (.int x1), .val (.ref rr), .val (.ref b6), .val (.long (0 : Int64)), .second, .val (.long (-1 : Int64)), .second, .val (.int (0 : Int32)), .val (.int nd), .unset, .unset] [(.long (0 : Int64))])) ?_ fun t_ k_ => XS.lload X24.here hx rfl (hb hby d3_136) rfl  k_
    refine own_pre (B := T24.setTop (mkF m 139 #[.val (.ref x0), .val (.int x1), .val (.ref rr), .val (.ref b6), .val (.long (0 : Int64)), .second, .val (.long (-1 : Int64)), .second, .val (.int (0 : Int32)), .val (.int nd), .unset, .unset] [(.ref rr), (.long (0 : Int64))])) ?_ fun t_ k_ => XS.aloadN X24.here hx rfl (hb hby d3_138) rfl rfl k_
    refine own_pre (B := T24.setTop (mkF m 140 #[.val (.ref x0), .val (.int x1), .val (.ref rr), .val (.ref b6), .val (.long (0 : Int64)), .second, .val (.long (-1 : Int64)), .second, .val (.int (0 : Int32)), .val (.int nd), .unset, .unset] [(.int (0 : Int32)), (.ref rr), (.long (0 : Int64))])) ?_ fun t_ k_ => XS.iconst X24.here hx rfl (hb hby d3_139) k_
    have f31 := (R1.ext E6)
    obtain ⟨Ln30, cl30, Ar30, S30, Hh30⟩ := id f31
    have hin30 := own_hin (j := (0 : Int32)) (i := 0) S30 (by decide) (by decide) (by omega)
    have hat30 : cl30.slots[((0 : Int32)).toNatClampNeg]? = some (.ref qq) := own_hat (j := (0 : Int32)) (i := 0) Hh30 (by decide) (by omega)
    refine own_pre (B := T24.setTop (mkF m 141 #[.val (.ref x0), .val (.int x1), .val (.ref rr), .val (.ref b6), .val (.long (0 : Int64)), .second, .val (.long (-1 : Int64)), .second, .val (.int (0 : Int32)), .val (.int nd), .unset, .unset] [(.ref qq), (.long (0 : Int64))])) ?_ fun t_ k_ => X24.aaload hx (j := (0 : Int32)) (v := (.ref qq)) (by rw [e24]; exact Ar30.1) (State.isArrayOf_alike hZ.alike Ar30.2.1) rfl Ar30.2.2 hin30 hat30 (g := (mkF m 140 #[.val (.ref x0), .val (.int x1), .val (.ref rr), .val (.ref b6), .val (.long (0 : Int64)), .second, .val (.long (-1 : Int64)), .second, .val (.int (0 : Int32)), .val (.int nd), .unset, .unset] [(.int (0 : Int32)), (.ref rr), (.long (0 : Int64))])) rfl rfl (hb hby d3_140) t_ k_
    refine own_pre (B := T24.setTop (mkF m 143 #[.val (.ref x0), .val (.int x1), .val (.ref rr), .val (.ref b6), .val (.long (0 : Int64)), .second, .val (.long (-1 : Int64)), .second, .val (.int (0 : Int32)), .val (.int nd), .unset, .unset] [(.int nd), (.ref qq), (.long (0 : Int64))])) ?_ fun t_ k_ => XS.iload X24.here hx rfl (hb hby d3_141) rfl  k_
    have f33 := (Q1.ext E6)
    obtain ⟨Ln32, cl32, Ar32, S32, Hh32⟩ := id f33
    have hin32 := own_hin (j := nd) (i := (nd).toNatClampNeg) S32 rfl (by rw [← hmnd]; exact own_maxn _) (own_ndlt h133_27 hk)
    have hat32 : cl32.slots[(nd).toNatClampNeg]? = some (.long (own_low (nd).toNatClampNeg)) := own_hat (j := nd) (i := (nd).toNatClampNeg) Hh32 rfl (own_ndlt h133_27 hk)
    refine own_pre (B := T24.setTop (mkF m 144 #[.val (.ref x0), .val (.int x1), .val (.ref rr), .val (.ref b6), .val (.long (0 : Int64)), .second, .val (.long (-1 : Int64)), .second, .val (.int (0 : Int32)), .val (.int nd), .unset, .unset] [(.long (own_low (nd).toNatClampNeg)), (.long (0 : Int64))])) ?_ fun t_ k_ => X24.laload hx (j := nd) (v := (.long (own_low (nd).toNatClampNeg))) (by rw [e24]; exact Ar32.1) (State.isArrayOf_alike hZ.alike Ar32.2.1) Ar32.2.2 hin32 hat32 (g := (mkF m 143 #[.val (.ref x0), .val (.int x1), .val (.ref rr), .val (.ref b6), .val (.long (0 : Int64)), .second, .val (.long (-1 : Int64)), .second, .val (.int (0 : Int32)), .val (.int nd), .unset, .unset] [(.int nd), (.ref qq), (.long (0 : Int64))])) rfl rfl (hb hby d3_143) t_ k_
    refine own_pre (B := T24.setTop (mkF m 145 #[.val (.ref x0), .val (.int x1), .val (.ref rr), .val (.ref b6), .val (.long (0 : Int64)), .second, .val (.long (-1 : Int64)), .second, .val (.int (0 : Int32)), .val (.int nd), .unset, .unset] [(.long ((0 : Int64) ||| (own_low (nd).toNatClampNeg)))])) ?_ fun t_ k_ => XS.lor X24.here hx rfl (hb hby d3_144) rfl k_
    refine own_pre (B := T24.setTop (mkF m 147 #[.val (.ref x0), .val (.int x1), .val (.ref rr), .val (.ref b6), .val (.long (0 : Int64)), .second, .val (.long (-1 : Int64)), .second, .val (.int (0 : Int32)), .val (.int nd), .val (.long ((0 : Int64) ||| (own_low (nd).toNatClampNeg))), .second] [])) ?_ fun t_ k_ => XS.lstore X24.here hx rfl (hb hby d3_145) rfl  (l' := #[.val (.ref x0), .val (.int x1), .val (.ref rr), .val (.ref b6), .val (.long (0 : Int64)), .second, .val (.long (-1 : Int64)), .second, .val (.int (0 : Int32)), .val (.int nd), .val (.long ((0 : Int64) ||| (own_low (nd).toNatClampNeg))), .second]) rfl k_
    refine own_pre (B := T24.setTop (mkF m 149 #[.val (.ref x0), .val (.int x1), .val (.ref rr), .val (.ref b6), .val (.long (0 : Int64)), .second, .val (.long (-1 : Int64)), .second, .val (.int (0 : Int32)), .val (.int nd), .val (.long ((0 : Int64) ||| (own_low (nd).toNatClampNeg))), .second] [(.long (-1 : Int64))])) ?_ fun t_ k_ => XS.lload X24.here hx rfl (hb hby d3_147) rfl  k_
    refine own_pre (B := T24.setTop (mkF m 150 #[.val (.ref x0), .val (.int x1), .val (.ref rr), .val (.ref b6), .val (.long (0 : Int64)), .second, .val (.long (-1 : Int64)), .second, .val (.int (0 : Int32)), .val (.int nd), .val (.long ((0 : Int64) ||| (own_low (nd).toNatClampNeg))), .second] [(.long (0 : Int64)), (.long (-1 : Int64))])) ?_ fun t_ k_ => XS.lconst X24.here hx rfl (hb hby d3_149) k_
    refine own_pre (B := T24.setTop (mkF m 151 #[.val (.ref x0), .val (.int x1), .val (.ref rr), .val (.ref b6), .val (.long (0 : Int64)), .second, .val (.long (-1 : Int64)), .second, .val (.int (0 : Int32)), .val (.int nd), .val (.long ((0 : Int64) ||| (own_low (nd).toNatClampNeg))), .second] [(.int (lcmpW (-1 : Int64) (0 : Int64)))])) ?_ fun t_ k_ => XS.lcmp X24.here hx rfl (hb hby d3_150) rfl k_
    refine own_pre (B := T24.setTop (mkF m 162 #[.val (.ref x0), .val (.int x1), .val (.ref rr), .val (.ref b6), .val (.long (0 : Int64)), .second, .val (.long (-1 : Int64)), .second, .val (.int (0 : Int32)), .val (.int nd), .val (.long ((0 : Int64) ||| (own_low (nd).toNatClampNeg))), .second] [])) ?_ fun t_ k_ => XS.ifYes X24.here hx rfl (pc0 := 151) (pc' := 162) rfl (hb hby d3_151) rfl ((if0 _ _).trans (tlt ((lw_lt (-1 : Int64) (0 : Int64)).mpr (by decide))).1) (by decide) (by decide) k_
    refine own_pre (B := T24.setTop (mkF m 164 #[.val (.ref x0), .val (.int x1), .val (.ref rr), .val (.ref b6), .val (.long (0 : Int64)), .second, .val (.long (-1 : Int64)), .second, .val (.int (0 : Int32)), .val (.int nd), .val (.long ((0 : Int64) ||| (own_low (nd).toNatClampNeg))), .second] [(.long ((0 : Int64) ||| (own_low (nd).toNatClampNeg)))])) ?_ fun t_ k_ => XS.lload X24.here hx rfl (hb hby d3_162) rfl  k_
    refine own_pre (B := T24.setTop (mkF m 166 #[.val (.ref x0), .val (.int x1), .val (.ref rr), .val (.ref b6), .val (.long (0 : Int64)), .second, .val (.long ((0 : Int64) ||| (own_low (nd).toNatClampNeg))), .second, .val (.int (0 : Int32)), .val (.int nd), .val (.long ((0 : Int64) ||| (own_low (nd).toNatClampNeg))), .second] [])) ?_ fun t_ k_ => XS.lstore X24.here hx rfl (hb hby d3_164) rfl  (l' := #[.val (.ref x0), .val (.int x1), .val (.ref rr), .val (.ref b6), .val (.long (0 : Int64)), .second, .val (.long ((0 : Int64) ||| (own_low (nd).toNatClampNeg))), .second, .val (.int (0 : Int32)), .val (.int nd), .val (.long ((0 : Int64) ||| (own_low (nd).toNatClampNeg))), .second]) rfl k_
    refine own_pre (B := T24.setTop (mkF m 169 #[.val (.ref x0), .val (.int x1), .val (.ref rr), .val (.ref b6), .val (.long (0 : Int64)), .second, .val (.long ((0 : Int64) ||| (own_low (nd).toNatClampNeg))), .second, .val (.int (1 : Int32)), .val (.int nd), .val (.long ((0 : Int64) ||| (own_low (nd).toNatClampNeg))), .second] [])) ?_ fun t_ k_ => XS.iinc X24.here hx rfl (hb hby d3_166) rfl (l' := #[.val (.ref x0), .val (.int x1), .val (.ref rr), .val (.ref b6), .val (.long (0 : Int64)), .second, .val (.long ((0 : Int64) ||| (own_low (nd).toNatClampNeg))), .second, .val (.int (1 : Int32)), .val (.int nd), .val (.long ((0 : Int64) ||| (own_low (nd).toNatClampNeg))), .second]) rfl k_
    refine own_pre (B := T24.setTop (mkF m 24 #[.val (.ref x0), .val (.int x1), .val (.ref rr), .val (.ref b6), .val (.long (0 : Int64)), .second, .val (.long ((0 : Int64) ||| (own_low (nd).toNatClampNeg))), .second, .val (.int (1 : Int32)), .val (.int nd), .val (.long ((0 : Int64) ||| (own_low (nd).toNatClampNeg))), .second] [])) ?_ fun t_ k_ => XS.goto X24.here hx rfl (pc0 := 169) (pc' := 24) rfl (hb hby d3_169) (by decide) (by decide) k_
    refine own_pre (B := T24.setTop (mkF m 26 #[.val (.ref x0), .val (.int x1), .val (.ref rr), .val (.ref b6), .val (.long (0 : Int64)), .second, .val (.long ((0 : Int64) ||| (own_low (nd).toNatClampNeg))), .second, .val (.int (1 : Int32)), .val (.int nd), .val (.long ((0 : Int64) ||| (own_low (nd).toNatClampNeg))), .second] [(.int (1 : Int32))])) ?_ fun t_ k_ => XS.iload X24.here hx rfl (hb hby d3_24) rfl  k_
    refine own_pre (B := T24.setTop (mkF m 27 #[.val (.ref x0), .val (.int x1), .val (.ref rr), .val (.ref b6), .val (.long (0 : Int64)), .second, .val (.long ((0 : Int64) ||| (own_low (nd).toNatClampNeg))), .second, .val (.int (1 : Int32)), .val (.int nd), .val (.long ((0 : Int64) ||| (own_low (nd).toNatClampNeg))), .second] [(.ref x0), (.int (1 : Int32))])) ?_ fun t_ k_ => XS.aloadN X24.here hx rfl (hb hby d3_26) rfl rfl k_
    obtain ⟨T34, X34, e34, st34⟩ := getF X24 hx hZ hown (host := "") (Or.inl (hw _ (List.mem_of_getElem? (i := 15) rfl))) Via.refl e24 f16 (g := (mkF m 27 #[.val (.ref x0), .val (.int x1), .val (.ref rr), .val (.ref b6), .val (.long (0 : Int64)), .second, .val (.long ((0 : Int64) ||| (own_low (nd).toNatClampNeg))), .second, .val (.int (1 : Int32)), .val (.int nd), .val (.long ((0 : Int64) ||| (own_low (nd).toNatClampNeg))), .second] [(.ref x0), (.int (1 : Int32))])) rfl rfl (hb hby d3_27)
    refine own_pre (B := T34.setTop (mkF m 30 #[.val (.ref x0), .val (.int x1), .val (.ref rr), .val (.ref b6), .val (.long (0 : Int64)), .second, .val (.long ((0 : Int64) ||| (own_low (nd).toNatClampNeg))), .second, .val (.int (1 : Int32)), .val (.int nd), .val (.long ((0 : Int64) ||| (own_low (nd).toNatClampNeg))), .second] [(.ref tb), (.int (1 : Int32))])) ?_ st34
    obtain ⟨Ln35, cl35, Ar35, S35, Hh35⟩ := id f19
    have len35 : cl35.slots.size.toInt32 = (1 : Int32) := (congrArg Nat.toInt32 S35).trans rfl
    refine own_pre (B := T34.setTop (mkF m 31 #[.val (.ref x0), .val (.int x1), .val (.ref rr), .val (.ref b6), .val (.long (0 : Int64)), .second, .val (.long ((0 : Int64) ||| (own_low (nd).toNatClampNeg))), .second, .val (.int (1 : Int32)), .val (.int nd), .val (.long ((0 : Int64) ||| (own_low (nd).toNatClampNeg))), .second] [(.int (1 : Int32)), (.int (1 : Int32))])) ?_ (fun t_ k_ => X34.arraylength hx (by rw [e34]; exact Ar35.1) (State.isArrayOf_alike hZ.alike Ar35.2.1) (g := (mkF m 30 #[.val (.ref x0), .val (.int x1), .val (.ref rr), .val (.ref b6), .val (.long (0 : Int64)), .second, .val (.long ((0 : Int64) ||| (own_low (nd).toNatClampNeg))), .second, .val (.int (1 : Int32)), .val (.int nd), .val (.long ((0 : Int64) ||| (own_low (nd).toNatClampNeg))), .second] [(.ref tb), (.int (1 : Int32))])) rfl rfl (hb hby d3_30) t_ (by rw [len35]; exact k_))
    refine own_pre (B := T34.setTop (mkF m 172 #[.val (.ref x0), .val (.int x1), .val (.ref rr), .val (.ref b6), .val (.long (0 : Int64)), .second, .val (.long ((0 : Int64) ||| (own_low (nd).toNatClampNeg))), .second, .val (.int (1 : Int32)), .val (.int nd), .val (.long ((0 : Int64) ||| (own_low (nd).toNatClampNeg))), .second] [])) ?_ fun t_ k_ => XS.icmpYes X34.here hx rfl (pc0 := 31) (pc' := 172) rfl (hb hby d3_31) rfl (flt (by decide : ¬ ((1 : Int32) < (1 : Int32)))).2.1 (by decide) (by decide) k_
    refine own_pre (B := T34.setTop (mkF m 174 #[.val (.ref x0), .val (.int x1), .val (.ref rr), .val (.ref b6), .val (.long (0 : Int64)), .second, .val (.long ((0 : Int64) ||| (own_low (nd).toNatClampNeg))), .second, .val (.int (1 : Int32)), .val (.int nd), .val (.long ((0 : Int64) ||| (own_low (nd).toNatClampNeg))), .second] [(.long ((0 : Int64) ||| (own_low (nd).toNatClampNeg)))])) ?_ fun t_ k_ => XS.lload X34.here hx rfl (hb hby d3_172) rfl  k_
    refine own_retJ X34 hx hlk Bd.returns (hb hby d3_174) ?_ (by decide) (by decide)
    rw [e34]
    exact ⟨by rw [own_need, hmnd, if_neg h133_27], N22, K6⟩
theorem own_k8 {x k : Int32} (h : (x &&& (7 : Int32)) = k) : k = (0 : Int32) ∨ k = (1 : Int32) ∨ k = (2 : Int32) ∨ k = (3 : Int32) ∨ k = (4 : Int32) ∨ k = (5 : Int32) ∨ k = (6 : Int32) ∨ k = (7 : Int32) := by
  have r := c_mask x 7 3 (by decide) (by decide)
  rw [h] at r
  simp only [← Int32.toInt_inj, Int32.reduceToInt]; omega
theorem own_sub0 (x : Int32) : x - (0 : Int32) = x := by simp
theorem own_l0 (kk : Nat) (hk : kk ≤ 7) (x : Int32) (h : ¬ (0 : Int32) < x) : own_need kk x = (0 : Int64) := by
  unfold own_need own_max
  rw [own_sub0, if_neg h, if_neg (own_in0 (by omega))]; decide
theorem own_pos {x : Int32} (h : (0 : Int32) < x) : 0 < x.toInt := by rw [Int32.lt_iff_toInt_lt] at h; exact h
theorem own_l1 (kk : Nat) (hk : kk ≤ 7) (x : Int32) (h : (0 : Int32) < x) (h2 : ¬ Int32.ofNat kk < x) : own_need kk x = ((1 : Int64) <<< (x &&& 0x3f).toInt64) - (1 : Int64) := by
  unfold own_need own_max
  rw [own_sub0, if_pos h, if_neg h2]
  have p := own_pos h
  rw [Int32.lt_iff_toInt_lt, own_i1 (by omega)] at h2
  have q : x = 1 ∨ x = 2 ∨ x = 3 ∨ x = 4 ∨ x = 5 ∨ x = 6 ∨ x = 7 := by
    simp only [← Int32.toInt_inj, Int32.reduceToInt]; omega
  rcases q with rfl | rfl | rfl | rfl | rfl | rfl | rfl <;> decide
theorem own_l2 (kk : Nat) (hk : kk ≤ 7) (x : Int32) (h : (0 : Int32) < x) (h2 : Int32.ofNat kk < x) : own_need kk x = (-1 : Int64) := by
  unfold own_need own_max
  rw [own_sub0, if_pos h, if_pos h2]
theorem pd___V : parseMethodDescriptor "()V" = some ⟨[], none⟩ := by decide +kernel
theorem pd__I_J : parseMethodDescriptor "(I)J" = some ⟨[.int], some .long⟩ := by decide +kernel
theorem pn_com_example_nimfield_nimfield_FewestCoinsAddCheckCoinPinLaw : plainName "com/example/nimfield/nimfield/FewestCoinsAddCheckCoinPinLaw" = true := by first | (simp [plainName, overriddenIn]; done) | decide +kernel
set_option maxHeartbeats 4000000 in
theorem ef_0 (m : MethodId) (x0 : Int32) (x1 : Int32) : entryFrame m #[(.int x0), (.int x1)] maxLocals = mkF m 0 #[.val (.int x0), .val (.int x1), .unset, .unset, .unset, .unset, .unset, .unset] [] := by first | (simp [entryFrame, mkF, argsToLocals, Value.category, maxLocals]; done) | rfl
def Q0 (Z : State) (x0 : Int32) (x1 : Int32) (h0 : Heap) (n0 : Nat) (v : Option Value) (h : Heap) (L : List Loc) : Prop := v = some (.int 1) ∧ Fr n0 L
set_option maxRecDepth 65536 in
set_option maxHeartbeats 40000000 in
theorem rm0 (l : Launch) (Z : State) (a0 : Array Value) (hw : ∀ d ∈ tables_1, d.before a0 Z = true) (ws : List Jvm.Cond) (x0 : Int32) (x1 : Int32) (h0 : Heap) (n0 : Nat) (Z0 : n0 ≤ h0.size) :
    MetFree l x (head1 (Jvm.Cond.code x code maxLocals ret :: ws) room_1) (fun a U => a = #[(.int x0), (.int x1)] ∧ Z.Warmed39 U.vm ∧ U.heap = h0) (fun _ _ _ _ _ => True) (fun _ U o U' => ∃ v L, o = .returned v ∧ Q0 Z x0 x1 h0 n0 v U'.heap L ∧ FrameEnd U o U' L 24 192) := by
  refine MetFree.of_bodySF (plainFor_of_name pn_com_example_nimfield_nimfield_FewestCoinsAddCheckCoinPinLaw) hisR ?_
  intro p e s m args below meth c s₁ Bd hml0 hP hK
  obtain ⟨rfl, hZ, hh⟩ := hP
  have hx := Bd.exec
  have hby := Bd.bytes
  have hml : c.maxLocals = 8 := hml0
  have hown : s.vm.findClass "com/example/nimfield/nimfield/FewestCoinsAddCheckCoinPinLaw" = some m.cls := findClass_of_methodNamed Bd.named
  have hnm := (name_of_methodNamed Bd.named Bd.method).1
  have hlk : meth.locks = false := BodyLoose.notSynchronized Bd
  have X0 : Stand p l e room_1 s m #[(.int x0), (.int x1)] below meth c s₁ [] 0 0 := Stand.of_body Bd
  have e0 : s₁.heap = h0 := by rw [← hh, Bd.state]; rfl
  have N0 := Fr.nil n0
  show own_E p e below s (Q0 Z x0 x1 h0 n0) 24 192 (s₁.setTop (entryFrame m #[(.int x0), (.int x1)] maxLocals))
  refine own_pre (B := s₁.setTop (mkF m 0 #[.val (.int x0), .val (.int x1), .unset, .unset, .unset, .unset, .unset, .unset] [])) ?_ (fun t_ k_ => castTop (ef_0 m x0 x1) k_)
  refine own_pre (B := s₁.setTop (mkF m 1 #[.val (.int x0), .val (.int x1), .unset, .unset, .unset, .unset, .unset, .unset] [(.int x0)])) ?_ fun t_ k_ => XS.iloadN X0.here hx rfl (hb hby at_0) rfl  k_
  refine own_pre (B := s₁.setTop (mkF m 3 #[.val (.int x0), .val (.int x1), .unset, .unset, .unset, .unset, .unset, .unset] [(.int (7 : Int32)), (.int x0)])) ?_ fun t_ k_ => XS.bipush X0.here hx rfl (hb hby at_1) k_
  refine own_pre (B := s₁.setTop (mkF m 4 #[.val (.int x0), .val (.int x1), .unset, .unset, .unset, .unset, .unset, .unset] [(.int (x0 &&& (7 : Int32)))])) ?_ fun t_ k_ => XS.iand X0.here hx rfl (hb hby at_3) rfl k_
  refine own_pre (B := s₁.setTop (mkF m 5 #[.val (.int x0), .val (.int x1), .val (.int (x0 &&& (7 : Int32))), .unset, .unset, .unset, .unset, .unset] [])) ?_ fun t_ k_ => XS.istoreN X0.here hx rfl (hb hby at_4) rfl  (l' := #[.val (.int x0), .val (.int x1), .val (.int (x0 &&& (7 : Int32))), .unset, .unset, .unset, .unset, .unset]) rfl k_
  generalize hmkq : (x0 &&& (7 : Int32)) = kq
  rcases own_k8 hmkq with rfl | rfl | rfl | rfl | rfl | rfl | rfl | rfl
  · skip
    obtain ⟨T1, h1, X1, e1, E1, A1, D1, -, st1⟩ := newO X0 hx hZ hown (hw _ (List.mem_of_getElem? (i := 0) rfl)) (hw _ (List.mem_of_getElem? (i := 1) rfl)) (hw _ (List.mem_of_getElem? (i := 2) rfl)) e0 (g := (mkF m 5 #[.val (.int x0), .val (.int x1), .val (.int (0 : Int32)), .unset, .unset, .unset, .unset, .unset] [])) rfl (hb hby at_5) (by decide) (by decide)
    obtain ⟨b1, g1⟩ : ∃ z, z = h0.size := ⟨_, rfl⟩
    rw [← g1] at A1 D1 st1
    have Z1 : n0 ≤ h1.size := Nat.le_trans Z0 E1.1
    have gz1 : n0 ≤ b1 := Nat.le_trans Z0 (Nat.le_of_eq g1.symm)
    have F1_typeOf : Fld Z h1 b1 "com/example/nimfield/nimfield/FewestCoins" "typeOf" "[I" .null := D1 (Or.inr (hw _ (List.mem_of_getElem? (i := 11) rfl))) (ty := (.array .int)) (by decide)
    have F1_sizes : Fld Z h1 b1 "com/example/nimfield/nimfield/FewestCoins" "sizes" "[I" .null := D1 (Or.inl (hw _ (List.mem_of_getElem? (i := 13) rfl))) (ty := (.array .int)) (by decide)
    have F1_table : Fld Z h1 b1 "com/example/nimfield/nimfield/FewestCoins" "table" "[B" .null := D1 (Or.inl (hw _ (List.mem_of_getElem? (i := 16) rfl))) (ty := (.array .byte)) (by decide)
    have F1_bits : Fld Z h1 b1 "com/example/nimfield/nimfield/FewestCoins" "bits" "I" (.int (0 : Int32)) := D1 (Or.inl (hw _ (List.mem_of_getElem? (i := 31) rfl))) (ty := .int) (by decide)
    refine own_pre (B := T1.setTop (mkF m 8 #[.val (.int x0), .val (.int x1), .val (.int (0 : Int32)), .unset, .unset, .unset, .unset, .unset] [(.ref b1)])) ?_ st1
    refine own_pre (B := T1.setTop (mkF m 9 #[.val (.int x0), .val (.int x1), .val (.int (0 : Int32)), .unset, .unset, .unset, .unset, .unset] [(.ref b1), (.ref b1)])) ?_ fun t_ k_ => XS.dup X1.here hx rfl (hb hby at_8) rfl rfl k_
    obtain ⟨_, _, ⟨T2, L2, k2, n2⟩, -, X2, ⟨Lc2, hQ2, l2, y2, z2⟩, st2⟩ := X1.specialBack hx (y := (⟨"com/example/nimfield/nimfield/FewestCoins", "<init>", "()V"⟩ : MethodName)) rfl hown (mvT hZ (hw _ (List.mem_of_getElem? (i := 3) rfl))) (mvT hZ (hw _ (List.mem_of_getElem? (i := 4) rfl))) (mvT hZ (hw _ (List.mem_of_getElem? (i := 5) rfl))) (by decide) (backOf (W := 1) (rm1 l Z a0 hw [] b1 h1 n0 Z1 A1 F1_bits F1_typeOf F1_sizes F1_table gz1) hZ (hw _ (List.mem_of_getElem? (i := 5) rfl)) (hw _ (List.mem_of_getElem? (i := 2) rfl)) (by decide) (by decide)) (g := (mkF m 9 #[.val (.int x0), .val (.int x1), .val (.int (0 : Int32)), .unset, .unset, .unset, .unset, .unset] [(.ref b1), (.ref b1)])) rfl (by rw [hml]; rfl) (Steps.refl _) (a := b1) (argsL := []) (rest := [(.ref b1)]) (lenOf pd___V rfl) rfl (by show 2 * 0 + _ ≤ _; exact Nat.le_of_eq rfl) (hb hby at_9) (fun _ _ => ⟨rfl, e1, (by decide : 1 + 3 ≤ _), (by decide : 4 + 34 ≤ _)⟩)
    dsimp only [Pt.U, Pt.locs, Pt.cells, Pt.slots] at X2 l2 y2 z2 st2 hQ2
    subst l2 y2 z2
    obtain ⟨rfl, Nq2, K2, t, sa, tb, E2, ⟨gt, gs, gb, n1, n2, n3, n4, n5, n6⟩, Fb2, Ft2, Fs2, Fta2, At2, As2, Ab2⟩ := hQ2
    have N2 := Fr.app N0 Nq2
    have Z2 := Nat.le_trans Z1 K2.1
    refine own_pre (B := T2.setTop (mkF m 12 #[.val (.int x0), .val (.int x1), .val (.int (0 : Int32)), .unset, .unset, .unset, .unset, .unset] [(.ref b1)])) ?_ (fun t_ k_ => st2.trans k_)
    refine own_pre (B := T2.setTop (mkF m 13 #[.val (.int x0), .val (.int x1), .val (.int (0 : Int32)), .val (.ref b1), .unset, .unset, .unset, .unset] [])) ?_ fun t_ k_ => XS.astoreN X2.here hx rfl (hb hby at_12) rfl rfl (l' := #[.val (.int x0), .val (.int x1), .val (.int (0 : Int32)), .val (.ref b1), .unset, .unset, .unset, .unset]) rfl k_
    refine own_pre (B := T2.setTop (mkF m 14 #[.val (.int x0), .val (.int x1), .val (.int (0 : Int32)), .val (.ref b1), .unset, .unset, .unset, .unset] [(.int (0 : Int32))])) ?_ fun t_ k_ => XS.iloadN X2.here hx rfl (hb hby at_13) rfl  k_
    refine own_pre (B := T2.setTop (mkF m 15 #[.val (.int x0), .val (.int x1), .val (.int (0 : Int32)), .val (.ref b1), .unset, .unset, .unset, .unset] [(.int (1 : Int32)), (.int (0 : Int32))])) ?_ fun t_ k_ => XS.iconst X2.here hx rfl (hb hby at_14) k_
    refine own_pre (B := T2.setTop (mkF m 22 #[.val (.int x0), .val (.int x1), .val (.int (0 : Int32)), .val (.ref b1), .unset, .unset, .unset, .unset] [])) ?_ fun t_ k_ => XS.icmpYes X2.here hx rfl (pc0 := 15) (pc' := 22) rfl (hb hby at_15) rfl (tlt (by decide : ((0 : Int32) < (1 : Int32)))).1 (by decide) (by decide) k_
    refine own_pre (B := T2.setTop (mkF m 23 #[.val (.int x0), .val (.int x1), .val (.int (0 : Int32)), .val (.ref b1), .unset, .unset, .unset, .unset] [(.int (0 : Int32))])) ?_ fun t_ k_ => XS.iloadN X2.here hx rfl (hb hby at_22) rfl  k_
    refine own_pre (B := T2.setTop (mkF m 24 #[.val (.int x0), .val (.int x1), .val (.int (0 : Int32)), .val (.ref b1), .unset, .unset, .unset, .unset] [(.int (2 : Int32)), (.int (0 : Int32))])) ?_ fun t_ k_ => XS.iconst X2.here hx rfl (hb hby at_23) k_
    refine own_pre (B := T2.setTop (mkF m 31 #[.val (.int x0), .val (.int x1), .val (.int (0 : Int32)), .val (.ref b1), .unset, .unset, .unset, .unset] [])) ?_ fun t_ k_ => XS.icmpYes X2.here hx rfl (pc0 := 24) (pc' := 31) rfl (hb hby at_24) rfl (tlt (by decide : ((0 : Int32) < (2 : Int32)))).1 (by decide) (by decide) k_
    refine own_pre (B := T2.setTop (mkF m 32 #[.val (.int x0), .val (.int x1), .val (.int (0 : Int32)), .val (.ref b1), .unset, .unset, .unset, .unset] [(.int (0 : Int32))])) ?_ fun t_ k_ => XS.iloadN X2.here hx rfl (hb hby at_31) rfl  k_
    refine own_pre (B := T2.setTop (mkF m 33 #[.val (.int x0), .val (.int x1), .val (.int (0 : Int32)), .val (.ref b1), .unset, .unset, .unset, .unset] [(.int (3 : Int32)), (.int (0 : Int32))])) ?_ fun t_ k_ => XS.iconst X2.here hx rfl (hb hby at_32) k_
    refine own_pre (B := T2.setTop (mkF m 40 #[.val (.int x0), .val (.int x1), .val (.int (0 : Int32)), .val (.ref b1), .unset, .unset, .unset, .unset] [])) ?_ fun t_ k_ => XS.icmpYes X2.here hx rfl (pc0 := 33) (pc' := 40) rfl (hb hby at_33) rfl (tlt (by decide : ((0 : Int32) < (3 : Int32)))).1 (by decide) (by decide) k_
    refine own_pre (B := T2.setTop (mkF m 41 #[.val (.int x0), .val (.int x1), .val (.int (0 : Int32)), .val (.ref b1), .unset, .unset, .unset, .unset] [(.int (0 : Int32))])) ?_ fun t_ k_ => XS.iloadN X2.here hx rfl (hb hby at_40) rfl  k_
    refine own_pre (B := T2.setTop (mkF m 42 #[.val (.int x0), .val (.int x1), .val (.int (0 : Int32)), .val (.ref b1), .unset, .unset, .unset, .unset] [(.int (4 : Int32)), (.int (0 : Int32))])) ?_ fun t_ k_ => XS.iconst X2.here hx rfl (hb hby at_41) k_
    refine own_pre (B := T2.setTop (mkF m 49 #[.val (.int x0), .val (.int x1), .val (.int (0 : Int32)), .val (.ref b1), .unset, .unset, .unset, .unset] [])) ?_ fun t_ k_ => XS.icmpYes X2.here hx rfl (pc0 := 42) (pc' := 49) rfl (hb hby at_42) rfl (tlt (by decide : ((0 : Int32) < (4 : Int32)))).1 (by decide) (by decide) k_
    refine own_pre (B := T2.setTop (mkF m 50 #[.val (.int x0), .val (.int x1), .val (.int (0 : Int32)), .val (.ref b1), .unset, .unset, .unset, .unset] [(.int (0 : Int32))])) ?_ fun t_ k_ => XS.iloadN X2.here hx rfl (hb hby at_49) rfl  k_
    refine own_pre (B := T2.setTop (mkF m 51 #[.val (.int x0), .val (.int x1), .val (.int (0 : Int32)), .val (.ref b1), .unset, .unset, .unset, .unset] [(.int (5 : Int32)), (.int (0 : Int32))])) ?_ fun t_ k_ => XS.iconst X2.here hx rfl (hb hby at_50) k_
    refine own_pre (B := T2.setTop (mkF m 58 #[.val (.int x0), .val (.int x1), .val (.int (0 : Int32)), .val (.ref b1), .unset, .unset, .unset, .unset] [])) ?_ fun t_ k_ => XS.icmpYes X2.here hx rfl (pc0 := 51) (pc' := 58) rfl (hb hby at_51) rfl (tlt (by decide : ((0 : Int32) < (5 : Int32)))).1 (by decide) (by decide) k_
    refine own_pre (B := T2.setTop (mkF m 59 #[.val (.int x0), .val (.int x1), .val (.int (0 : Int32)), .val (.ref b1), .unset, .unset, .unset, .unset] [(.int (0 : Int32))])) ?_ fun t_ k_ => XS.iloadN X2.here hx rfl (hb hby at_58) rfl  k_
    refine own_pre (B := T2.setTop (mkF m 61 #[.val (.int x0), .val (.int x1), .val (.int (0 : Int32)), .val (.ref b1), .unset, .unset, .unset, .unset] [(.int (6 : Int32)), (.int (0 : Int32))])) ?_ fun t_ k_ => XS.bipush X2.here hx rfl (hb hby at_59) k_
    refine own_pre (B := T2.setTop (mkF m 68 #[.val (.int x0), .val (.int x1), .val (.int (0 : Int32)), .val (.ref b1), .unset, .unset, .unset, .unset] [])) ?_ fun t_ k_ => XS.icmpYes X2.here hx rfl (pc0 := 61) (pc' := 68) rfl (hb hby at_61) rfl (tlt (by decide : ((0 : Int32) < (6 : Int32)))).1 (by decide) (by decide) k_
    refine own_pre (B := T2.setTop (mkF m 69 #[.val (.int x0), .val (.int x1), .val (.int (0 : Int32)), .val (.ref b1), .unset, .unset, .unset, .unset] [(.int (0 : Int32))])) ?_ fun t_ k_ => XS.iloadN X2.here hx rfl (hb hby at_68) rfl  k_
    refine own_pre (B := T2.setTop (mkF m 71 #[.val (.int x0), .val (.int x1), .val (.int (0 : Int32)), .val (.ref b1), .unset, .unset, .unset, .unset] [(.int (7 : Int32)), (.int (0 : Int32))])) ?_ fun t_ k_ => XS.bipush X2.here hx rfl (hb hby at_69) k_
    refine own_pre (B := T2.setTop (mkF m 78 #[.val (.int x0), .val (.int x1), .val (.int (0 : Int32)), .val (.ref b1), .unset, .unset, .unset, .unset] [])) ?_ fun t_ k_ => XS.icmpYes X2.here hx rfl (pc0 := 71) (pc' := 78) rfl (hb hby at_71) rfl (tlt (by decide : ((0 : Int32) < (7 : Int32)))).1 (by decide) (by decide) k_
    refine own_pre (B := T2.setTop (mkF m 79 #[.val (.int x0), .val (.int x1), .val (.int (0 : Int32)), .val (.ref b1), .unset, .unset, .unset, .unset] [(.ref b1)])) ?_ fun t_ k_ => XS.aloadN X2.here hx rfl (hb hby at_78) rfl rfl k_
    refine own_pre (B := T2.setTop (mkF m 80 #[.val (.int x0), .val (.int x1), .val (.int (0 : Int32)), .val (.ref b1), .unset, .unset, .unset, .unset] [(.int x1), (.ref b1)])) ?_ fun t_ k_ => XS.iloadN X2.here hx rfl (hb hby at_79) rfl  k_
    obtain ⟨cq3, kq3, q3a, q3b, q3c⟩ := isOf hZ rfl E2
    obtain ⟨_, _, ⟨T3, L3, k3, n3⟩, -, X3, ⟨Lc3, hQ3, l3, y3, z3⟩, st3⟩ := X2.virtualBack hx (y := (⟨"com/example/nimfield/nimfield/FewestCoins", "leastNeeding", "(I)J"⟩ : MethodName)) (z := (⟨"com/example/nimfield/nimfield/FewestCoins", "leastNeeding", "(I)J"⟩ : MethodName)) hown (mvT hZ (hw _ (List.mem_of_getElem? (i := 17) rfl))) (mvT hZ (hw _ (List.mem_of_getElem? (i := 18) rfl))) (notFace_of_selects (args := #[]) (mvT hZ (hw _ (List.mem_of_getElem? (i := 20) rfl)))) (mvT hZ (hw _ (List.mem_of_getElem? (i := 20) rfl))) (mvT hZ (hw _ (List.mem_of_getElem? (i := 19) rfl))) (by decide) (backOf (W := 0) (rm3 l Z a0 hw [] b1 x1 t sa tb 0 T2.heap n0 Z2 E2 Fb2 Ft2 Fs2 Fta2 At2 As2 Ab2 (by decide)) hZ (hw _ (List.mem_of_getElem? (i := 21) rfl)) (hw _ (List.mem_of_getElem? (i := 2) rfl)) (by decide) (by decide)) q3a q3c (g := (mkF m 80 #[.val (.int x0), .val (.int x1), .val (.int (0 : Int32)), .val (.ref b1), .unset, .unset, .unset, .unset] [(.int x1), (.ref b1)])) rfl (by rw [hml]; rfl) (Steps.refl _) (argsL := [(.int x1)]) (rest := []) (lenOf pd__I_J rfl) rfl (by show 2 * 0 + _ ≤ _; exact Nat.le_of_eq rfl) (hb hby at_80) (fun _ _ => ⟨rfl, rfl, (by decide : 4 + 4 ≤ _), (by decide : 38 + 11 ≤ _)⟩)
    dsimp only [Pt.U, Pt.locs, Pt.cells, Pt.slots] at X3 l3 y3 z3 st3 hQ3
    subst l3 y3 z3
    obtain ⟨rfl, Nq3, K3⟩ := hQ3
    have N3 := Fr.app N2 Nq3
    have Z3 := Nat.le_trans Z2 K3.1
    refine own_pre (B := T3.setTop (mkF m 83 #[.val (.int x0), .val (.int x1), .val (.int (0 : Int32)), .val (.ref b1), .unset, .unset, .unset, .unset] [(.long (own_need 0 x1))])) ?_ (fun t_ k_ => st3.trans k_)
    refine own_pre (B := T3.setTop (mkF m 85 #[.val (.int x0), .val (.int x1), .val (.int (0 : Int32)), .val (.ref b1), .val (.long (own_need 0 x1)), .second, .unset, .unset] [])) ?_ fun t_ k_ => XS.lstore X3.here hx rfl (hb hby at_83) rfl  (l' := #[.val (.int x0), .val (.int x1), .val (.int (0 : Int32)), .val (.ref b1), .val (.long (own_need 0 x1)), .second, .unset, .unset]) rfl k_
    refine own_pre (B := T3.setTop (mkF m 86 #[.val (.int x0), .val (.int x1), .val (.int (0 : Int32)), .val (.ref b1), .val (.long (own_need 0 x1)), .second, .unset, .unset] [(.int x1)])) ?_ fun t_ k_ => XS.iloadN X3.here hx rfl (hb hby at_85) rfl  k_
    by_cases h86_4 : (0 : Int32) < x1
    · skip
      refine own_pre (B := T3.setTop (mkF m 95 #[.val (.int x0), .val (.int x1), .val (.int (0 : Int32)), .val (.ref b1), .val (.long (own_need 0 x1)), .second, .unset, .unset] [])) ?_ fun t_ k_ => XS.ifYes X3.here hx rfl (pc0 := 86) (pc' := 95) rfl (hb hby at_86) rfl ((if0 _ _).trans (tlt h86_4).2.2.1) (by decide) (by decide) k_
      refine own_pre (B := T3.setTop (mkF m 96 #[.val (.int x0), .val (.int x1), .val (.int (0 : Int32)), .val (.ref b1), .val (.long (own_need 0 x1)), .second, .unset, .unset] [(.int x1)])) ?_ fun t_ k_ => XS.iloadN X3.here hx rfl (hb hby at_95) rfl  k_
      refine own_pre (B := T3.setTop (mkF m 97 #[.val (.int x0), .val (.int x1), .val (.int (0 : Int32)), .val (.ref b1), .val (.long (own_need 0 x1)), .second, .unset, .unset] [(.int (0 : Int32)), (.int x1)])) ?_ fun t_ k_ => XS.iloadN X3.here hx rfl (hb hby at_96) rfl  k_
      refine own_pre (B := T3.setTop (mkF m 110 #[.val (.int x0), .val (.int x1), .val (.int (0 : Int32)), .val (.ref b1), .val (.long (own_need 0 x1)), .second, .unset, .unset] [])) ?_ fun t_ k_ => XS.icmpYes X3.here hx rfl (pc0 := 97) (pc' := 110) rfl (hb hby at_97) rfl (tlt h86_4).2.2.1 (by decide) (by decide) k_
      refine own_pre (B := T3.setTop (mkF m 113 #[.val (.int x0), .val (.int x1), .val (.int (0 : Int32)), .val (.ref b1), .val (.long (own_need 0 x1)), .second, .unset, .unset] [(.long (-1 : Int64))])) ?_ (X3.ldc2Long hx hown (mvT hZ (hw _ (List.mem_of_getElem? (i := 37) rfl))) (g := (mkF m 110 #[.val (.int x0), .val (.int x1), .val (.int (0 : Int32)), .val (.ref b1), .val (.long (own_need 0 x1)), .second, .unset, .unset] [])) rfl (hb hby at_110))
      refine own_pre (B := T3.setTop (mkF m 115 #[.val (.int x0), .val (.int x1), .val (.int (0 : Int32)), .val (.ref b1), .val (.long (own_need 0 x1)), .second, .val (.long (-1 : Int64)), .second] [])) ?_ fun t_ k_ => XS.lstore X3.here hx rfl (hb hby at_113) rfl  (l' := #[.val (.int x0), .val (.int x1), .val (.int (0 : Int32)), .val (.ref b1), .val (.long (own_need 0 x1)), .second, .val (.long (-1 : Int64)), .second]) rfl k_
      refine own_pre (B := T3.setTop (mkF m 117 #[.val (.int x0), .val (.int x1), .val (.int (0 : Int32)), .val (.ref b1), .val (.long (own_need 0 x1)), .second, .val (.long (-1 : Int64)), .second] [(.long (own_need 0 x1))])) ?_ fun t_ k_ => XS.lload X3.here hx rfl (hb hby at_115) rfl  k_
      refine own_pre (B := T3.setTop (mkF m 119 #[.val (.int x0), .val (.int x1), .val (.int (0 : Int32)), .val (.ref b1), .val (.long (own_need 0 x1)), .second, .val (.long (-1 : Int64)), .second] [(.long (-1 : Int64)), (.long (own_need 0 x1))])) ?_ fun t_ k_ => XS.lload X3.here hx rfl (hb hby at_117) rfl  k_
      refine own_pre (B := T3.setTop (mkF m 120 #[.val (.int x0), .val (.int x1), .val (.int (0 : Int32)), .val (.ref b1), .val (.long (own_need 0 x1)), .second, .val (.long (-1 : Int64)), .second] [(.int (lcmpW (own_need 0 x1) (-1 : Int64)))])) ?_ fun t_ k_ => XS.lcmp X3.here hx rfl (hb hby at_119) rfl k_
      refine own_pre (B := T3.setTop (mkF m 123 #[.val (.int x0), .val (.int x1), .val (.int (0 : Int32)), .val (.ref b1), .val (.long (own_need 0 x1)), .second, .val (.long (-1 : Int64)), .second] [])) ?_ fun t_ k_ => XS.ifNo X3.here hx rfl (hb hby at_120) rfl ((if0 _ _).trans (teq ((lw_eq (own_need 0 x1) (-1 : Int64)).mpr (own_l2 0 (by decide) x1 h86_4 h86_4))).2) k_
      refine own_pre (B := T3.setTop (mkF m 124 #[.val (.int x0), .val (.int x1), .val (.int (0 : Int32)), .val (.ref b1), .val (.long (own_need 0 x1)), .second, .val (.long (-1 : Int64)), .second] [(.int (1 : Int32))])) ?_ fun t_ k_ => XS.iconst X3.here hx rfl (hb hby at_123) k_
      refine own_pre (B := T3.setTop (mkF m 128 #[.val (.int x0), .val (.int x1), .val (.int (0 : Int32)), .val (.ref b1), .val (.long (own_need 0 x1)), .second, .val (.long (-1 : Int64)), .second] [(.int (1 : Int32))])) ?_ fun t_ k_ => XS.goto X3.here hx rfl (pc0 := 124) (pc' := 128) rfl (hb hby at_124) (by decide) (by decide) k_
      refine own_retN X3 hx hlk (t := .boolean) (z' := (1 : Int32)) Bd.returns (by simp) (hb hby at_128) (by decide) ?_ (by decide) (by decide)
      exact ⟨rfl, N3⟩
    · skip
      refine own_pre (B := T3.setTop (mkF m 89 #[.val (.int x0), .val (.int x1), .val (.int (0 : Int32)), .val (.ref b1), .val (.long (own_need 0 x1)), .second, .unset, .unset] [])) ?_ fun t_ k_ => XS.ifNo X3.here hx rfl (hb hby at_86) rfl ((if0 _ _).trans (flt h86_4).2.2.1) k_
      refine own_pre (B := T3.setTop (mkF m 90 #[.val (.int x0), .val (.int x1), .val (.int (0 : Int32)), .val (.ref b1), .val (.long (own_need 0 x1)), .second, .unset, .unset] [(.long (0 : Int64))])) ?_ fun t_ k_ => XS.lconst X3.here hx rfl (hb hby at_89) k_
      refine own_pre (B := T3.setTop (mkF m 92 #[.val (.int x0), .val (.int x1), .val (.int (0 : Int32)), .val (.ref b1), .val (.long (own_need 0 x1)), .second, .val (.long (0 : Int64)), .second] [])) ?_ fun t_ k_ => XS.lstore X3.here hx rfl (hb hby at_90) rfl  (l' := #[.val (.int x0), .val (.int x1), .val (.int (0 : Int32)), .val (.ref b1), .val (.long (own_need 0 x1)), .second, .val (.long (0 : Int64)), .second]) rfl k_
      refine own_pre (B := T3.setTop (mkF m 115 #[.val (.int x0), .val (.int x1), .val (.int (0 : Int32)), .val (.ref b1), .val (.long (own_need 0 x1)), .second, .val (.long (0 : Int64)), .second] [])) ?_ fun t_ k_ => XS.goto X3.here hx rfl (pc0 := 92) (pc' := 115) rfl (hb hby at_92) (by decide) (by decide) k_
      refine own_pre (B := T3.setTop (mkF m 117 #[.val (.int x0), .val (.int x1), .val (.int (0 : Int32)), .val (.ref b1), .val (.long (own_need 0 x1)), .second, .val (.long (0 : Int64)), .second] [(.long (own_need 0 x1))])) ?_ fun t_ k_ => XS.lload X3.here hx rfl (hb hby at_115) rfl  k_
      refine own_pre (B := T3.setTop (mkF m 119 #[.val (.int x0), .val (.int x1), .val (.int (0 : Int32)), .val (.ref b1), .val (.long (own_need 0 x1)), .second, .val (.long (0 : Int64)), .second] [(.long (0 : Int64)), (.long (own_need 0 x1))])) ?_ fun t_ k_ => XS.lload X3.here hx rfl (hb hby at_117) rfl  k_
      refine own_pre (B := T3.setTop (mkF m 120 #[.val (.int x0), .val (.int x1), .val (.int (0 : Int32)), .val (.ref b1), .val (.long (own_need 0 x1)), .second, .val (.long (0 : Int64)), .second] [(.int (lcmpW (own_need 0 x1) (0 : Int64)))])) ?_ fun t_ k_ => XS.lcmp X3.here hx rfl (hb hby at_119) rfl k_
      refine own_pre (B := T3.setTop (mkF m 123 #[.val (.int x0), .val (.int x1), .val (.int (0 : Int32)), .val (.ref b1), .val (.long (own_need 0 x1)), .second, .val (.long (0 : Int64)), .second] [])) ?_ fun t_ k_ => XS.ifNo X3.here hx rfl (hb hby at_120) rfl ((if0 _ _).trans (teq ((lw_eq (own_need 0 x1) (0 : Int64)).mpr (own_l0 0 (by decide) x1 h86_4))).2) k_
      refine own_pre (B := T3.setTop (mkF m 124 #[.val (.int x0), .val (.int x1), .val (.int (0 : Int32)), .val (.ref b1), .val (.long (own_need 0 x1)), .second, .val (.long (0 : Int64)), .second] [(.int (1 : Int32))])) ?_ fun t_ k_ => XS.iconst X3.here hx rfl (hb hby at_123) k_
      refine own_pre (B := T3.setTop (mkF m 128 #[.val (.int x0), .val (.int x1), .val (.int (0 : Int32)), .val (.ref b1), .val (.long (own_need 0 x1)), .second, .val (.long (0 : Int64)), .second] [(.int (1 : Int32))])) ?_ fun t_ k_ => XS.goto X3.here hx rfl (pc0 := 124) (pc' := 128) rfl (hb hby at_124) (by decide) (by decide) k_
      refine own_retN X3 hx hlk (t := .boolean) (z' := (1 : Int32)) Bd.returns (by simp) (hb hby at_128) (by decide) ?_ (by decide) (by decide)
      exact ⟨rfl, N3⟩
  · skip
    obtain ⟨T5, h5, X5, e5, E5, A5, D5, -, st5⟩ := newO X0 hx hZ hown (hw _ (List.mem_of_getElem? (i := 0) rfl)) (hw _ (List.mem_of_getElem? (i := 1) rfl)) (hw _ (List.mem_of_getElem? (i := 2) rfl)) e0 (g := (mkF m 5 #[.val (.int x0), .val (.int x1), .val (.int (1 : Int32)), .unset, .unset, .unset, .unset, .unset] [])) rfl (hb hby at_5) (by decide) (by decide)
    obtain ⟨b5, g5⟩ : ∃ z, z = h0.size := ⟨_, rfl⟩
    rw [← g5] at A5 D5 st5
    have Z5 : n0 ≤ h5.size := Nat.le_trans Z0 E5.1
    have gz5 : n0 ≤ b5 := Nat.le_trans Z0 (Nat.le_of_eq g5.symm)
    have F5_typeOf : Fld Z h5 b5 "com/example/nimfield/nimfield/FewestCoins" "typeOf" "[I" .null := D5 (Or.inr (hw _ (List.mem_of_getElem? (i := 11) rfl))) (ty := (.array .int)) (by decide)
    have F5_sizes : Fld Z h5 b5 "com/example/nimfield/nimfield/FewestCoins" "sizes" "[I" .null := D5 (Or.inl (hw _ (List.mem_of_getElem? (i := 13) rfl))) (ty := (.array .int)) (by decide)
    have F5_table : Fld Z h5 b5 "com/example/nimfield/nimfield/FewestCoins" "table" "[B" .null := D5 (Or.inl (hw _ (List.mem_of_getElem? (i := 16) rfl))) (ty := (.array .byte)) (by decide)
    have F5_bits : Fld Z h5 b5 "com/example/nimfield/nimfield/FewestCoins" "bits" "I" (.int (0 : Int32)) := D5 (Or.inl (hw _ (List.mem_of_getElem? (i := 31) rfl))) (ty := .int) (by decide)
    refine own_pre (B := T5.setTop (mkF m 8 #[.val (.int x0), .val (.int x1), .val (.int (1 : Int32)), .unset, .unset, .unset, .unset, .unset] [(.ref b5)])) ?_ st5
    refine own_pre (B := T5.setTop (mkF m 9 #[.val (.int x0), .val (.int x1), .val (.int (1 : Int32)), .unset, .unset, .unset, .unset, .unset] [(.ref b5), (.ref b5)])) ?_ fun t_ k_ => XS.dup X5.here hx rfl (hb hby at_8) rfl rfl k_
    obtain ⟨_, _, ⟨T6, L6, k6, n6⟩, -, X6, ⟨Lc6, hQ6, l6, y6, z6⟩, st6⟩ := X5.specialBack hx (y := (⟨"com/example/nimfield/nimfield/FewestCoins", "<init>", "()V"⟩ : MethodName)) rfl hown (mvT hZ (hw _ (List.mem_of_getElem? (i := 3) rfl))) (mvT hZ (hw _ (List.mem_of_getElem? (i := 4) rfl))) (mvT hZ (hw _ (List.mem_of_getElem? (i := 5) rfl))) (by decide) (backOf (W := 1) (rm1 l Z a0 hw [] b5 h5 n0 Z5 A5 F5_bits F5_typeOf F5_sizes F5_table gz5) hZ (hw _ (List.mem_of_getElem? (i := 5) rfl)) (hw _ (List.mem_of_getElem? (i := 2) rfl)) (by decide) (by decide)) (g := (mkF m 9 #[.val (.int x0), .val (.int x1), .val (.int (1 : Int32)), .unset, .unset, .unset, .unset, .unset] [(.ref b5), (.ref b5)])) rfl (by rw [hml]; rfl) (Steps.refl _) (a := b5) (argsL := []) (rest := [(.ref b5)]) (lenOf pd___V rfl) rfl (by show 2 * 0 + _ ≤ _; exact Nat.le_of_eq rfl) (hb hby at_9) (fun _ _ => ⟨rfl, e5, (by decide : 1 + 3 ≤ _), (by decide : 4 + 34 ≤ _)⟩)
    dsimp only [Pt.U, Pt.locs, Pt.cells, Pt.slots] at X6 l6 y6 z6 st6 hQ6
    subst l6 y6 z6
    obtain ⟨rfl, Nq6, K6, t, sa, tb, E6, ⟨gt, gs, gb, n1, n2, n3, n4, n5, n6⟩, Fb6, Ft6, Fs6, Fta6, At6, As6, Ab6⟩ := hQ6
    have N6 := Fr.app N0 Nq6
    have Z6 := Nat.le_trans Z5 K6.1
    refine own_pre (B := T6.setTop (mkF m 12 #[.val (.int x0), .val (.int x1), .val (.int (1 : Int32)), .unset, .unset, .unset, .unset, .unset] [(.ref b5)])) ?_ (fun t_ k_ => st6.trans k_)
    refine own_pre (B := T6.setTop (mkF m 13 #[.val (.int x0), .val (.int x1), .val (.int (1 : Int32)), .val (.ref b5), .unset, .unset, .unset, .unset] [])) ?_ fun t_ k_ => XS.astoreN X6.here hx rfl (hb hby at_12) rfl rfl (l' := #[.val (.int x0), .val (.int x1), .val (.int (1 : Int32)), .val (.ref b5), .unset, .unset, .unset, .unset]) rfl k_
    refine own_pre (B := T6.setTop (mkF m 14 #[.val (.int x0), .val (.int x1), .val (.int (1 : Int32)), .val (.ref b5), .unset, .unset, .unset, .unset] [(.int (1 : Int32))])) ?_ fun t_ k_ => XS.iloadN X6.here hx rfl (hb hby at_13) rfl  k_
    refine own_pre (B := T6.setTop (mkF m 15 #[.val (.int x0), .val (.int x1), .val (.int (1 : Int32)), .val (.ref b5), .unset, .unset, .unset, .unset] [(.int (1 : Int32)), (.int (1 : Int32))])) ?_ fun t_ k_ => XS.iconst X6.here hx rfl (hb hby at_14) k_
    refine own_pre (B := T6.setTop (mkF m 18 #[.val (.int x0), .val (.int x1), .val (.int (1 : Int32)), .val (.ref b5), .unset, .unset, .unset, .unset] [])) ?_ fun t_ k_ => XS.icmpNo X6.here hx rfl (hb hby at_15) rfl (flt (by decide : ¬ ((1 : Int32) < (1 : Int32)))).1 k_
    refine own_pre (B := T6.setTop (mkF m 19 #[.val (.int x0), .val (.int x1), .val (.int (1 : Int32)), .val (.ref b5), .unset, .unset, .unset, .unset] [(.ref b5)])) ?_ fun t_ k_ => XS.aloadN X6.here hx rfl (hb hby at_18) rfl rfl k_
    obtain ⟨cq7, kq7, q7a, q7b, q7c⟩ := isOf hZ rfl E6
    obtain ⟨_, _, ⟨T7, L7, k7, n7⟩, -, X7, ⟨Lc7, hQ7, l7, y7, z7⟩, st7⟩ := X6.virtualBack hx (y := (⟨"com/example/nimfield/nimfield/FewestCoins", "addCheckCoin", "()V"⟩ : MethodName)) (z := (⟨"com/example/nimfield/nimfield/FewestCoins", "addCheckCoin", "()V"⟩ : MethodName)) hown (mvT hZ (hw _ (List.mem_of_getElem? (i := 38) rfl))) (mvT hZ (hw _ (List.mem_of_getElem? (i := 39) rfl))) (notFace_of_selects (args := #[]) (mvT hZ (hw _ (List.mem_of_getElem? (i := 41) rfl)))) (mvT hZ (hw _ (List.mem_of_getElem? (i := 41) rfl))) (mvT hZ (hw _ (List.mem_of_getElem? (i := 40) rfl))) (by decide) (backOf (W := 0) (rm6 l Z a0 hw [] b5 t sa tb 0 T6.heap n0 Z6 E6 Fb6 Ft6 Fs6 Fta6 At6 As6 Ab6 n1 n2 n3 n4 n5 n6 gz5 gt gs (by decide)) hZ (hw _ (List.mem_of_getElem? (i := 42) rfl)) (hw _ (List.mem_of_getElem? (i := 2) rfl)) (by decide) (by decide)) q7a q7c (g := (mkF m 19 #[.val (.int x0), .val (.int x1), .val (.int (1 : Int32)), .val (.ref b5), .unset, .unset, .unset, .unset] [(.ref b5)])) rfl (by rw [hml]; rfl) (Steps.refl _) (argsL := []) (rest := []) (lenOf pd___V rfl) rfl (by show 2 * 0 + _ ≤ _; exact Nat.le_of_eq rfl) (hb hby at_19) (fun _ _ => ⟨rfl, rfl, (by decide : 4 + 0 ≤ _), (by decide : 38 + 0 ≤ _)⟩)
    dsimp only [Pt.U, Pt.locs, Pt.cells, Pt.slots] at X7 l7 y7 z7 st7 hQ7
    subst l7 y7 z7
    obtain ⟨rfl, Nq7, K7, E7, Fb7, Ft7, Fs7, Fta7, At7, As7, Ab7⟩ := hQ7
    have N7 := Fr.app N6 Nq7
    have Z7 := Nat.le_trans Z6 K7.1
    refine own_pre (B := T7.setTop (mkF m 22 #[.val (.int x0), .val (.int x1), .val (.int (1 : Int32)), .val (.ref b5), .unset, .unset, .unset, .unset] [])) ?_ (fun t_ k_ => st7.trans k_)
    refine own_pre (B := T7.setTop (mkF m 23 #[.val (.int x0), .val (.int x1), .val (.int (1 : Int32)), .val (.ref b5), .unset, .unset, .unset, .unset] [(.int (1 : Int32))])) ?_ fun t_ k_ => XS.iloadN X7.here hx rfl (hb hby at_22) rfl  k_
    refine own_pre (B := T7.setTop (mkF m 24 #[.val (.int x0), .val (.int x1), .val (.int (1 : Int32)), .val (.ref b5), .unset, .unset, .unset, .unset] [(.int (2 : Int32)), (.int (1 : Int32))])) ?_ fun t_ k_ => XS.iconst X7.here hx rfl (hb hby at_23) k_
    refine own_pre (B := T7.setTop (mkF m 31 #[.val (.int x0), .val (.int x1), .val (.int (1 : Int32)), .val (.ref b5), .unset, .unset, .unset, .unset] [])) ?_ fun t_ k_ => XS.icmpYes X7.here hx rfl (pc0 := 24) (pc' := 31) rfl (hb hby at_24) rfl (tlt (by decide : ((1 : Int32) < (2 : Int32)))).1 (by decide) (by decide) k_
    refine own_pre (B := T7.setTop (mkF m 32 #[.val (.int x0), .val (.int x1), .val (.int (1 : Int32)), .val (.ref b5), .unset, .unset, .unset, .unset] [(.int (1 : Int32))])) ?_ fun t_ k_ => XS.iloadN X7.here hx rfl (hb hby at_31) rfl  k_
    refine own_pre (B := T7.setTop (mkF m 33 #[.val (.int x0), .val (.int x1), .val (.int (1 : Int32)), .val (.ref b5), .unset, .unset, .unset, .unset] [(.int (3 : Int32)), (.int (1 : Int32))])) ?_ fun t_ k_ => XS.iconst X7.here hx rfl (hb hby at_32) k_
    refine own_pre (B := T7.setTop (mkF m 40 #[.val (.int x0), .val (.int x1), .val (.int (1 : Int32)), .val (.ref b5), .unset, .unset, .unset, .unset] [])) ?_ fun t_ k_ => XS.icmpYes X7.here hx rfl (pc0 := 33) (pc' := 40) rfl (hb hby at_33) rfl (tlt (by decide : ((1 : Int32) < (3 : Int32)))).1 (by decide) (by decide) k_
    refine own_pre (B := T7.setTop (mkF m 41 #[.val (.int x0), .val (.int x1), .val (.int (1 : Int32)), .val (.ref b5), .unset, .unset, .unset, .unset] [(.int (1 : Int32))])) ?_ fun t_ k_ => XS.iloadN X7.here hx rfl (hb hby at_40) rfl  k_
    refine own_pre (B := T7.setTop (mkF m 42 #[.val (.int x0), .val (.int x1), .val (.int (1 : Int32)), .val (.ref b5), .unset, .unset, .unset, .unset] [(.int (4 : Int32)), (.int (1 : Int32))])) ?_ fun t_ k_ => XS.iconst X7.here hx rfl (hb hby at_41) k_
    refine own_pre (B := T7.setTop (mkF m 49 #[.val (.int x0), .val (.int x1), .val (.int (1 : Int32)), .val (.ref b5), .unset, .unset, .unset, .unset] [])) ?_ fun t_ k_ => XS.icmpYes X7.here hx rfl (pc0 := 42) (pc' := 49) rfl (hb hby at_42) rfl (tlt (by decide : ((1 : Int32) < (4 : Int32)))).1 (by decide) (by decide) k_
    refine own_pre (B := T7.setTop (mkF m 50 #[.val (.int x0), .val (.int x1), .val (.int (1 : Int32)), .val (.ref b5), .unset, .unset, .unset, .unset] [(.int (1 : Int32))])) ?_ fun t_ k_ => XS.iloadN X7.here hx rfl (hb hby at_49) rfl  k_
    refine own_pre (B := T7.setTop (mkF m 51 #[.val (.int x0), .val (.int x1), .val (.int (1 : Int32)), .val (.ref b5), .unset, .unset, .unset, .unset] [(.int (5 : Int32)), (.int (1 : Int32))])) ?_ fun t_ k_ => XS.iconst X7.here hx rfl (hb hby at_50) k_
    refine own_pre (B := T7.setTop (mkF m 58 #[.val (.int x0), .val (.int x1), .val (.int (1 : Int32)), .val (.ref b5), .unset, .unset, .unset, .unset] [])) ?_ fun t_ k_ => XS.icmpYes X7.here hx rfl (pc0 := 51) (pc' := 58) rfl (hb hby at_51) rfl (tlt (by decide : ((1 : Int32) < (5 : Int32)))).1 (by decide) (by decide) k_
    refine own_pre (B := T7.setTop (mkF m 59 #[.val (.int x0), .val (.int x1), .val (.int (1 : Int32)), .val (.ref b5), .unset, .unset, .unset, .unset] [(.int (1 : Int32))])) ?_ fun t_ k_ => XS.iloadN X7.here hx rfl (hb hby at_58) rfl  k_
    refine own_pre (B := T7.setTop (mkF m 61 #[.val (.int x0), .val (.int x1), .val (.int (1 : Int32)), .val (.ref b5), .unset, .unset, .unset, .unset] [(.int (6 : Int32)), (.int (1 : Int32))])) ?_ fun t_ k_ => XS.bipush X7.here hx rfl (hb hby at_59) k_
    refine own_pre (B := T7.setTop (mkF m 68 #[.val (.int x0), .val (.int x1), .val (.int (1 : Int32)), .val (.ref b5), .unset, .unset, .unset, .unset] [])) ?_ fun t_ k_ => XS.icmpYes X7.here hx rfl (pc0 := 61) (pc' := 68) rfl (hb hby at_61) rfl (tlt (by decide : ((1 : Int32) < (6 : Int32)))).1 (by decide) (by decide) k_
    refine own_pre (B := T7.setTop (mkF m 69 #[.val (.int x0), .val (.int x1), .val (.int (1 : Int32)), .val (.ref b5), .unset, .unset, .unset, .unset] [(.int (1 : Int32))])) ?_ fun t_ k_ => XS.iloadN X7.here hx rfl (hb hby at_68) rfl  k_
    refine own_pre (B := T7.setTop (mkF m 71 #[.val (.int x0), .val (.int x1), .val (.int (1 : Int32)), .val (.ref b5), .unset, .unset, .unset, .unset] [(.int (7 : Int32)), (.int (1 : Int32))])) ?_ fun t_ k_ => XS.bipush X7.here hx rfl (hb hby at_69) k_
    refine own_pre (B := T7.setTop (mkF m 78 #[.val (.int x0), .val (.int x1), .val (.int (1 : Int32)), .val (.ref b5), .unset, .unset, .unset, .unset] [])) ?_ fun t_ k_ => XS.icmpYes X7.here hx rfl (pc0 := 71) (pc' := 78) rfl (hb hby at_71) rfl (tlt (by decide : ((1 : Int32) < (7 : Int32)))).1 (by decide) (by decide) k_
    refine own_pre (B := T7.setTop (mkF m 79 #[.val (.int x0), .val (.int x1), .val (.int (1 : Int32)), .val (.ref b5), .unset, .unset, .unset, .unset] [(.ref b5)])) ?_ fun t_ k_ => XS.aloadN X7.here hx rfl (hb hby at_78) rfl rfl k_
    refine own_pre (B := T7.setTop (mkF m 80 #[.val (.int x0), .val (.int x1), .val (.int (1 : Int32)), .val (.ref b5), .unset, .unset, .unset, .unset] [(.int x1), (.ref b5)])) ?_ fun t_ k_ => XS.iloadN X7.here hx rfl (hb hby at_79) rfl  k_
    obtain ⟨cq8, kq8, q8a, q8b, q8c⟩ := isOf hZ rfl E7
    obtain ⟨_, _, ⟨T8, L8, k8, n8⟩, -, X8, ⟨Lc8, hQ8, l8, y8, z8⟩, st8⟩ := X7.virtualBack hx (y := (⟨"com/example/nimfield/nimfield/FewestCoins", "leastNeeding", "(I)J"⟩ : MethodName)) (z := (⟨"com/example/nimfield/nimfield/FewestCoins", "leastNeeding", "(I)J"⟩ : MethodName)) hown (mvT hZ (hw _ (List.mem_of_getElem? (i := 17) rfl))) (mvT hZ (hw _ (List.mem_of_getElem? (i := 18) rfl))) (notFace_of_selects (args := #[]) (mvT hZ (hw _ (List.mem_of_getElem? (i := 20) rfl)))) (mvT hZ (hw _ (List.mem_of_getElem? (i := 20) rfl))) (mvT hZ (hw _ (List.mem_of_getElem? (i := 19) rfl))) (by decide) (backOf (W := 0) (rm3 l Z a0 hw [] b5 x1 t sa tb 1 T7.heap n0 Z7 E7 Fb7 Ft7 Fs7 Fta7 At7 As7 Ab7 (by decide)) hZ (hw _ (List.mem_of_getElem? (i := 21) rfl)) (hw _ (List.mem_of_getElem? (i := 2) rfl)) (by decide) (by decide)) q8a q8c (g := (mkF m 80 #[.val (.int x0), .val (.int x1), .val (.int (1 : Int32)), .val (.ref b5), .unset, .unset, .unset, .unset] [(.int x1), (.ref b5)])) rfl (by rw [hml]; rfl) (Steps.refl _) (argsL := [(.int x1)]) (rest := []) (lenOf pd__I_J rfl) rfl (by show 2 * 0 + _ ≤ _; exact Nat.le_of_eq rfl) (hb hby at_80) (fun _ _ => ⟨rfl, rfl, (by decide : 4 + 4 ≤ _), (by decide : 38 + 11 ≤ _)⟩)
    dsimp only [Pt.U, Pt.locs, Pt.cells, Pt.slots] at X8 l8 y8 z8 st8 hQ8
    subst l8 y8 z8
    obtain ⟨rfl, Nq8, K8⟩ := hQ8
    have N8 := Fr.app N7 Nq8
    have Z8 := Nat.le_trans Z7 K8.1
    refine own_pre (B := T8.setTop (mkF m 83 #[.val (.int x0), .val (.int x1), .val (.int (1 : Int32)), .val (.ref b5), .unset, .unset, .unset, .unset] [(.long (own_need 1 x1))])) ?_ (fun t_ k_ => st8.trans k_)
    refine own_pre (B := T8.setTop (mkF m 85 #[.val (.int x0), .val (.int x1), .val (.int (1 : Int32)), .val (.ref b5), .val (.long (own_need 1 x1)), .second, .unset, .unset] [])) ?_ fun t_ k_ => XS.lstore X8.here hx rfl (hb hby at_83) rfl  (l' := #[.val (.int x0), .val (.int x1), .val (.int (1 : Int32)), .val (.ref b5), .val (.long (own_need 1 x1)), .second, .unset, .unset]) rfl k_
    refine own_pre (B := T8.setTop (mkF m 86 #[.val (.int x0), .val (.int x1), .val (.int (1 : Int32)), .val (.ref b5), .val (.long (own_need 1 x1)), .second, .unset, .unset] [(.int x1)])) ?_ fun t_ k_ => XS.iloadN X8.here hx rfl (hb hby at_85) rfl  k_
    by_cases h86_9 : (0 : Int32) < x1
    · skip
      refine own_pre (B := T8.setTop (mkF m 95 #[.val (.int x0), .val (.int x1), .val (.int (1 : Int32)), .val (.ref b5), .val (.long (own_need 1 x1)), .second, .unset, .unset] [])) ?_ fun t_ k_ => XS.ifYes X8.here hx rfl (pc0 := 86) (pc' := 95) rfl (hb hby at_86) rfl ((if0 _ _).trans (tlt h86_9).2.2.1) (by decide) (by decide) k_
      refine own_pre (B := T8.setTop (mkF m 96 #[.val (.int x0), .val (.int x1), .val (.int (1 : Int32)), .val (.ref b5), .val (.long (own_need 1 x1)), .second, .unset, .unset] [(.int x1)])) ?_ fun t_ k_ => XS.iloadN X8.here hx rfl (hb hby at_95) rfl  k_
      refine own_pre (B := T8.setTop (mkF m 97 #[.val (.int x0), .val (.int x1), .val (.int (1 : Int32)), .val (.ref b5), .val (.long (own_need 1 x1)), .second, .unset, .unset] [(.int (1 : Int32)), (.int x1)])) ?_ fun t_ k_ => XS.iloadN X8.here hx rfl (hb hby at_96) rfl  k_
      by_cases h97_10 : (1 : Int32) < x1
      · skip
        refine own_pre (B := T8.setTop (mkF m 110 #[.val (.int x0), .val (.int x1), .val (.int (1 : Int32)), .val (.ref b5), .val (.long (own_need 1 x1)), .second, .unset, .unset] [])) ?_ fun t_ k_ => XS.icmpYes X8.here hx rfl (pc0 := 97) (pc' := 110) rfl (hb hby at_97) rfl (tlt h97_10).2.2.1 (by decide) (by decide) k_
        refine own_pre (B := T8.setTop (mkF m 113 #[.val (.int x0), .val (.int x1), .val (.int (1 : Int32)), .val (.ref b5), .val (.long (own_need 1 x1)), .second, .unset, .unset] [(.long (-1 : Int64))])) ?_ (X8.ldc2Long hx hown (mvT hZ (hw _ (List.mem_of_getElem? (i := 37) rfl))) (g := (mkF m 110 #[.val (.int x0), .val (.int x1), .val (.int (1 : Int32)), .val (.ref b5), .val (.long (own_need 1 x1)), .second, .unset, .unset] [])) rfl (hb hby at_110))
        refine own_pre (B := T8.setTop (mkF m 115 #[.val (.int x0), .val (.int x1), .val (.int (1 : Int32)), .val (.ref b5), .val (.long (own_need 1 x1)), .second, .val (.long (-1 : Int64)), .second] [])) ?_ fun t_ k_ => XS.lstore X8.here hx rfl (hb hby at_113) rfl  (l' := #[.val (.int x0), .val (.int x1), .val (.int (1 : Int32)), .val (.ref b5), .val (.long (own_need 1 x1)), .second, .val (.long (-1 : Int64)), .second]) rfl k_
        refine own_pre (B := T8.setTop (mkF m 117 #[.val (.int x0), .val (.int x1), .val (.int (1 : Int32)), .val (.ref b5), .val (.long (own_need 1 x1)), .second, .val (.long (-1 : Int64)), .second] [(.long (own_need 1 x1))])) ?_ fun t_ k_ => XS.lload X8.here hx rfl (hb hby at_115) rfl  k_
        refine own_pre (B := T8.setTop (mkF m 119 #[.val (.int x0), .val (.int x1), .val (.int (1 : Int32)), .val (.ref b5), .val (.long (own_need 1 x1)), .second, .val (.long (-1 : Int64)), .second] [(.long (-1 : Int64)), (.long (own_need 1 x1))])) ?_ fun t_ k_ => XS.lload X8.here hx rfl (hb hby at_117) rfl  k_
        refine own_pre (B := T8.setTop (mkF m 120 #[.val (.int x0), .val (.int x1), .val (.int (1 : Int32)), .val (.ref b5), .val (.long (own_need 1 x1)), .second, .val (.long (-1 : Int64)), .second] [(.int (lcmpW (own_need 1 x1) (-1 : Int64)))])) ?_ fun t_ k_ => XS.lcmp X8.here hx rfl (hb hby at_119) rfl k_
        refine own_pre (B := T8.setTop (mkF m 123 #[.val (.int x0), .val (.int x1), .val (.int (1 : Int32)), .val (.ref b5), .val (.long (own_need 1 x1)), .second, .val (.long (-1 : Int64)), .second] [])) ?_ fun t_ k_ => XS.ifNo X8.here hx rfl (hb hby at_120) rfl ((if0 _ _).trans (teq ((lw_eq (own_need 1 x1) (-1 : Int64)).mpr (own_l2 1 (by decide) x1 h86_9 h97_10))).2) k_
        refine own_pre (B := T8.setTop (mkF m 124 #[.val (.int x0), .val (.int x1), .val (.int (1 : Int32)), .val (.ref b5), .val (.long (own_need 1 x1)), .second, .val (.long (-1 : Int64)), .second] [(.int (1 : Int32))])) ?_ fun t_ k_ => XS.iconst X8.here hx rfl (hb hby at_123) k_
        refine own_pre (B := T8.setTop (mkF m 128 #[.val (.int x0), .val (.int x1), .val (.int (1 : Int32)), .val (.ref b5), .val (.long (own_need 1 x1)), .second, .val (.long (-1 : Int64)), .second] [(.int (1 : Int32))])) ?_ fun t_ k_ => XS.goto X8.here hx rfl (pc0 := 124) (pc' := 128) rfl (hb hby at_124) (by decide) (by decide) k_
        refine own_retN X8 hx hlk (t := .boolean) (z' := (1 : Int32)) Bd.returns (by simp) (hb hby at_128) (by decide) ?_ (by decide) (by decide)
        exact ⟨rfl, N8⟩
      · skip
        refine own_pre (B := T8.setTop (mkF m 100 #[.val (.int x0), .val (.int x1), .val (.int (1 : Int32)), .val (.ref b5), .val (.long (own_need 1 x1)), .second, .unset, .unset] [])) ?_ fun t_ k_ => XS.icmpNo X8.here hx rfl (hb hby at_97) rfl (flt h97_10).2.2.1 k_
        refine own_pre (B := T8.setTop (mkF m 101 #[.val (.int x0), .val (.int x1), .val (.int (1 : Int32)), .val (.ref b5), .val (.long (own_need 1 x1)), .second, .unset, .unset] [(.long (1 : Int64))])) ?_ fun t_ k_ => XS.lconst X8.here hx rfl (hb hby at_100) k_
        refine own_pre (B := T8.setTop (mkF m 102 #[.val (.int x0), .val (.int x1), .val (.int (1 : Int32)), .val (.ref b5), .val (.long (own_need 1 x1)), .second, .unset, .unset] [(.int x1), (.long (1 : Int64))])) ?_ fun t_ k_ => XS.iloadN X8.here hx rfl (hb hby at_101) rfl  k_
        refine own_pre (B := T8.setTop (mkF m 103 #[.val (.int x0), .val (.int x1), .val (.int (1 : Int32)), .val (.ref b5), .val (.long (own_need 1 x1)), .second, .unset, .unset] [(.long ((1 : Int64) <<< (x1 &&& 0x3f).toInt64))])) ?_ fun t_ k_ => XS.lshl X8.here hx rfl (hb hby at_102) rfl k_
        refine own_pre (B := T8.setTop (mkF m 104 #[.val (.int x0), .val (.int x1), .val (.int (1 : Int32)), .val (.ref b5), .val (.long (own_need 1 x1)), .second, .unset, .unset] [(.long (1 : Int64)), (.long ((1 : Int64) <<< (x1 &&& 0x3f).toInt64))])) ?_ fun t_ k_ => XS.lconst X8.here hx rfl (hb hby at_103) k_
        refine own_pre (B := T8.setTop (mkF m 105 #[.val (.int x0), .val (.int x1), .val (.int (1 : Int32)), .val (.ref b5), .val (.long (own_need 1 x1)), .second, .unset, .unset] [(.long (((1 : Int64) <<< (x1 &&& 0x3f).toInt64) - (1 : Int64)))])) ?_ fun t_ k_ => XS.lsub X8.here hx rfl (hb hby at_104) rfl k_
        refine own_pre (B := T8.setTop (mkF m 107 #[.val (.int x0), .val (.int x1), .val (.int (1 : Int32)), .val (.ref b5), .val (.long (own_need 1 x1)), .second, .val (.long (((1 : Int64) <<< (x1 &&& 0x3f).toInt64) - (1 : Int64))), .second] [])) ?_ fun t_ k_ => XS.lstore X8.here hx rfl (hb hby at_105) rfl  (l' := #[.val (.int x0), .val (.int x1), .val (.int (1 : Int32)), .val (.ref b5), .val (.long (own_need 1 x1)), .second, .val (.long (((1 : Int64) <<< (x1 &&& 0x3f).toInt64) - (1 : Int64))), .second]) rfl k_
        refine own_pre (B := T8.setTop (mkF m 115 #[.val (.int x0), .val (.int x1), .val (.int (1 : Int32)), .val (.ref b5), .val (.long (own_need 1 x1)), .second, .val (.long (((1 : Int64) <<< (x1 &&& 0x3f).toInt64) - (1 : Int64))), .second] [])) ?_ fun t_ k_ => XS.goto X8.here hx rfl (pc0 := 107) (pc' := 115) rfl (hb hby at_107) (by decide) (by decide) k_
        refine own_pre (B := T8.setTop (mkF m 117 #[.val (.int x0), .val (.int x1), .val (.int (1 : Int32)), .val (.ref b5), .val (.long (own_need 1 x1)), .second, .val (.long (((1 : Int64) <<< (x1 &&& 0x3f).toInt64) - (1 : Int64))), .second] [(.long (own_need 1 x1))])) ?_ fun t_ k_ => XS.lload X8.here hx rfl (hb hby at_115) rfl  k_
        refine own_pre (B := T8.setTop (mkF m 119 #[.val (.int x0), .val (.int x1), .val (.int (1 : Int32)), .val (.ref b5), .val (.long (own_need 1 x1)), .second, .val (.long (((1 : Int64) <<< (x1 &&& 0x3f).toInt64) - (1 : Int64))), .second] [(.long (((1 : Int64) <<< (x1 &&& 0x3f).toInt64) - (1 : Int64))), (.long (own_need 1 x1))])) ?_ fun t_ k_ => XS.lload X8.here hx rfl (hb hby at_117) rfl  k_
        refine own_pre (B := T8.setTop (mkF m 120 #[.val (.int x0), .val (.int x1), .val (.int (1 : Int32)), .val (.ref b5), .val (.long (own_need 1 x1)), .second, .val (.long (((1 : Int64) <<< (x1 &&& 0x3f).toInt64) - (1 : Int64))), .second] [(.int (lcmpW (own_need 1 x1) (((1 : Int64) <<< (x1 &&& 0x3f).toInt64) - (1 : Int64))))])) ?_ fun t_ k_ => XS.lcmp X8.here hx rfl (hb hby at_119) rfl k_
        refine own_pre (B := T8.setTop (mkF m 123 #[.val (.int x0), .val (.int x1), .val (.int (1 : Int32)), .val (.ref b5), .val (.long (own_need 1 x1)), .second, .val (.long (((1 : Int64) <<< (x1 &&& 0x3f).toInt64) - (1 : Int64))), .second] [])) ?_ fun t_ k_ => XS.ifNo X8.here hx rfl (hb hby at_120) rfl ((if0 _ _).trans (teq ((lw_eq (own_need 1 x1) (((1 : Int64) <<< (x1 &&& 0x3f).toInt64) - (1 : Int64))).mpr (own_l1 1 (by decide) x1 h86_9 h97_10))).2) k_
        refine own_pre (B := T8.setTop (mkF m 124 #[.val (.int x0), .val (.int x1), .val (.int (1 : Int32)), .val (.ref b5), .val (.long (own_need 1 x1)), .second, .val (.long (((1 : Int64) <<< (x1 &&& 0x3f).toInt64) - (1 : Int64))), .second] [(.int (1 : Int32))])) ?_ fun t_ k_ => XS.iconst X8.here hx rfl (hb hby at_123) k_
        refine own_pre (B := T8.setTop (mkF m 128 #[.val (.int x0), .val (.int x1), .val (.int (1 : Int32)), .val (.ref b5), .val (.long (own_need 1 x1)), .second, .val (.long (((1 : Int64) <<< (x1 &&& 0x3f).toInt64) - (1 : Int64))), .second] [(.int (1 : Int32))])) ?_ fun t_ k_ => XS.goto X8.here hx rfl (pc0 := 124) (pc' := 128) rfl (hb hby at_124) (by decide) (by decide) k_
        refine own_retN X8 hx hlk (t := .boolean) (z' := (1 : Int32)) Bd.returns (by simp) (hb hby at_128) (by decide) ?_ (by decide) (by decide)
        exact ⟨rfl, N8⟩
    · skip
      refine own_pre (B := T8.setTop (mkF m 89 #[.val (.int x0), .val (.int x1), .val (.int (1 : Int32)), .val (.ref b5), .val (.long (own_need 1 x1)), .second, .unset, .unset] [])) ?_ fun t_ k_ => XS.ifNo X8.here hx rfl (hb hby at_86) rfl ((if0 _ _).trans (flt h86_9).2.2.1) k_
      refine own_pre (B := T8.setTop (mkF m 90 #[.val (.int x0), .val (.int x1), .val (.int (1 : Int32)), .val (.ref b5), .val (.long (own_need 1 x1)), .second, .unset, .unset] [(.long (0 : Int64))])) ?_ fun t_ k_ => XS.lconst X8.here hx rfl (hb hby at_89) k_
      refine own_pre (B := T8.setTop (mkF m 92 #[.val (.int x0), .val (.int x1), .val (.int (1 : Int32)), .val (.ref b5), .val (.long (own_need 1 x1)), .second, .val (.long (0 : Int64)), .second] [])) ?_ fun t_ k_ => XS.lstore X8.here hx rfl (hb hby at_90) rfl  (l' := #[.val (.int x0), .val (.int x1), .val (.int (1 : Int32)), .val (.ref b5), .val (.long (own_need 1 x1)), .second, .val (.long (0 : Int64)), .second]) rfl k_
      refine own_pre (B := T8.setTop (mkF m 115 #[.val (.int x0), .val (.int x1), .val (.int (1 : Int32)), .val (.ref b5), .val (.long (own_need 1 x1)), .second, .val (.long (0 : Int64)), .second] [])) ?_ fun t_ k_ => XS.goto X8.here hx rfl (pc0 := 92) (pc' := 115) rfl (hb hby at_92) (by decide) (by decide) k_
      refine own_pre (B := T8.setTop (mkF m 117 #[.val (.int x0), .val (.int x1), .val (.int (1 : Int32)), .val (.ref b5), .val (.long (own_need 1 x1)), .second, .val (.long (0 : Int64)), .second] [(.long (own_need 1 x1))])) ?_ fun t_ k_ => XS.lload X8.here hx rfl (hb hby at_115) rfl  k_
      refine own_pre (B := T8.setTop (mkF m 119 #[.val (.int x0), .val (.int x1), .val (.int (1 : Int32)), .val (.ref b5), .val (.long (own_need 1 x1)), .second, .val (.long (0 : Int64)), .second] [(.long (0 : Int64)), (.long (own_need 1 x1))])) ?_ fun t_ k_ => XS.lload X8.here hx rfl (hb hby at_117) rfl  k_
      refine own_pre (B := T8.setTop (mkF m 120 #[.val (.int x0), .val (.int x1), .val (.int (1 : Int32)), .val (.ref b5), .val (.long (own_need 1 x1)), .second, .val (.long (0 : Int64)), .second] [(.int (lcmpW (own_need 1 x1) (0 : Int64)))])) ?_ fun t_ k_ => XS.lcmp X8.here hx rfl (hb hby at_119) rfl k_
      refine own_pre (B := T8.setTop (mkF m 123 #[.val (.int x0), .val (.int x1), .val (.int (1 : Int32)), .val (.ref b5), .val (.long (own_need 1 x1)), .second, .val (.long (0 : Int64)), .second] [])) ?_ fun t_ k_ => XS.ifNo X8.here hx rfl (hb hby at_120) rfl ((if0 _ _).trans (teq ((lw_eq (own_need 1 x1) (0 : Int64)).mpr (own_l0 1 (by decide) x1 h86_9))).2) k_
      refine own_pre (B := T8.setTop (mkF m 124 #[.val (.int x0), .val (.int x1), .val (.int (1 : Int32)), .val (.ref b5), .val (.long (own_need 1 x1)), .second, .val (.long (0 : Int64)), .second] [(.int (1 : Int32))])) ?_ fun t_ k_ => XS.iconst X8.here hx rfl (hb hby at_123) k_
      refine own_pre (B := T8.setTop (mkF m 128 #[.val (.int x0), .val (.int x1), .val (.int (1 : Int32)), .val (.ref b5), .val (.long (own_need 1 x1)), .second, .val (.long (0 : Int64)), .second] [(.int (1 : Int32))])) ?_ fun t_ k_ => XS.goto X8.here hx rfl (pc0 := 124) (pc' := 128) rfl (hb hby at_124) (by decide) (by decide) k_
      refine own_retN X8 hx hlk (t := .boolean) (z' := (1 : Int32)) Bd.returns (by simp) (hb hby at_128) (by decide) ?_ (by decide) (by decide)
      exact ⟨rfl, N8⟩
  · skip
    obtain ⟨T11, h11, X11, e11, E11, A11, D11, -, st11⟩ := newO X0 hx hZ hown (hw _ (List.mem_of_getElem? (i := 0) rfl)) (hw _ (List.mem_of_getElem? (i := 1) rfl)) (hw _ (List.mem_of_getElem? (i := 2) rfl)) e0 (g := (mkF m 5 #[.val (.int x0), .val (.int x1), .val (.int (2 : Int32)), .unset, .unset, .unset, .unset, .unset] [])) rfl (hb hby at_5) (by decide) (by decide)
    obtain ⟨b11, g11⟩ : ∃ z, z = h0.size := ⟨_, rfl⟩
    rw [← g11] at A11 D11 st11
    have Z11 : n0 ≤ h11.size := Nat.le_trans Z0 E11.1
    have gz11 : n0 ≤ b11 := Nat.le_trans Z0 (Nat.le_of_eq g11.symm)
    have F11_typeOf : Fld Z h11 b11 "com/example/nimfield/nimfield/FewestCoins" "typeOf" "[I" .null := D11 (Or.inr (hw _ (List.mem_of_getElem? (i := 11) rfl))) (ty := (.array .int)) (by decide)
    have F11_sizes : Fld Z h11 b11 "com/example/nimfield/nimfield/FewestCoins" "sizes" "[I" .null := D11 (Or.inl (hw _ (List.mem_of_getElem? (i := 13) rfl))) (ty := (.array .int)) (by decide)
    have F11_table : Fld Z h11 b11 "com/example/nimfield/nimfield/FewestCoins" "table" "[B" .null := D11 (Or.inl (hw _ (List.mem_of_getElem? (i := 16) rfl))) (ty := (.array .byte)) (by decide)
    have F11_bits : Fld Z h11 b11 "com/example/nimfield/nimfield/FewestCoins" "bits" "I" (.int (0 : Int32)) := D11 (Or.inl (hw _ (List.mem_of_getElem? (i := 31) rfl))) (ty := .int) (by decide)
    refine own_pre (B := T11.setTop (mkF m 8 #[.val (.int x0), .val (.int x1), .val (.int (2 : Int32)), .unset, .unset, .unset, .unset, .unset] [(.ref b11)])) ?_ st11
    refine own_pre (B := T11.setTop (mkF m 9 #[.val (.int x0), .val (.int x1), .val (.int (2 : Int32)), .unset, .unset, .unset, .unset, .unset] [(.ref b11), (.ref b11)])) ?_ fun t_ k_ => XS.dup X11.here hx rfl (hb hby at_8) rfl rfl k_
    obtain ⟨_, _, ⟨T12, L12, k12, n12⟩, -, X12, ⟨Lc12, hQ12, l12, y12, z12⟩, st12⟩ := X11.specialBack hx (y := (⟨"com/example/nimfield/nimfield/FewestCoins", "<init>", "()V"⟩ : MethodName)) rfl hown (mvT hZ (hw _ (List.mem_of_getElem? (i := 3) rfl))) (mvT hZ (hw _ (List.mem_of_getElem? (i := 4) rfl))) (mvT hZ (hw _ (List.mem_of_getElem? (i := 5) rfl))) (by decide) (backOf (W := 1) (rm1 l Z a0 hw [] b11 h11 n0 Z11 A11 F11_bits F11_typeOf F11_sizes F11_table gz11) hZ (hw _ (List.mem_of_getElem? (i := 5) rfl)) (hw _ (List.mem_of_getElem? (i := 2) rfl)) (by decide) (by decide)) (g := (mkF m 9 #[.val (.int x0), .val (.int x1), .val (.int (2 : Int32)), .unset, .unset, .unset, .unset, .unset] [(.ref b11), (.ref b11)])) rfl (by rw [hml]; rfl) (Steps.refl _) (a := b11) (argsL := []) (rest := [(.ref b11)]) (lenOf pd___V rfl) rfl (by show 2 * 0 + _ ≤ _; exact Nat.le_of_eq rfl) (hb hby at_9) (fun _ _ => ⟨rfl, e11, (by decide : 1 + 3 ≤ _), (by decide : 4 + 34 ≤ _)⟩)
    dsimp only [Pt.U, Pt.locs, Pt.cells, Pt.slots] at X12 l12 y12 z12 st12 hQ12
    subst l12 y12 z12
    obtain ⟨rfl, Nq12, K12, t, sa, tb, E12, ⟨gt, gs, gb, n1, n2, n3, n4, n5, n6⟩, Fb12, Ft12, Fs12, Fta12, At12, As12, Ab12⟩ := hQ12
    have N12 := Fr.app N0 Nq12
    have Z12 := Nat.le_trans Z11 K12.1
    refine own_pre (B := T12.setTop (mkF m 12 #[.val (.int x0), .val (.int x1), .val (.int (2 : Int32)), .unset, .unset, .unset, .unset, .unset] [(.ref b11)])) ?_ (fun t_ k_ => st12.trans k_)
    refine own_pre (B := T12.setTop (mkF m 13 #[.val (.int x0), .val (.int x1), .val (.int (2 : Int32)), .val (.ref b11), .unset, .unset, .unset, .unset] [])) ?_ fun t_ k_ => XS.astoreN X12.here hx rfl (hb hby at_12) rfl rfl (l' := #[.val (.int x0), .val (.int x1), .val (.int (2 : Int32)), .val (.ref b11), .unset, .unset, .unset, .unset]) rfl k_
    refine own_pre (B := T12.setTop (mkF m 14 #[.val (.int x0), .val (.int x1), .val (.int (2 : Int32)), .val (.ref b11), .unset, .unset, .unset, .unset] [(.int (2 : Int32))])) ?_ fun t_ k_ => XS.iloadN X12.here hx rfl (hb hby at_13) rfl  k_
    refine own_pre (B := T12.setTop (mkF m 15 #[.val (.int x0), .val (.int x1), .val (.int (2 : Int32)), .val (.ref b11), .unset, .unset, .unset, .unset] [(.int (1 : Int32)), (.int (2 : Int32))])) ?_ fun t_ k_ => XS.iconst X12.here hx rfl (hb hby at_14) k_
    refine own_pre (B := T12.setTop (mkF m 18 #[.val (.int x0), .val (.int x1), .val (.int (2 : Int32)), .val (.ref b11), .unset, .unset, .unset, .unset] [])) ?_ fun t_ k_ => XS.icmpNo X12.here hx rfl (hb hby at_15) rfl (flt (by decide : ¬ ((2 : Int32) < (1 : Int32)))).1 k_
    refine own_pre (B := T12.setTop (mkF m 19 #[.val (.int x0), .val (.int x1), .val (.int (2 : Int32)), .val (.ref b11), .unset, .unset, .unset, .unset] [(.ref b11)])) ?_ fun t_ k_ => XS.aloadN X12.here hx rfl (hb hby at_18) rfl rfl k_
    obtain ⟨cq13, kq13, q13a, q13b, q13c⟩ := isOf hZ rfl E12
    obtain ⟨_, _, ⟨T13, L13, k13, n13⟩, -, X13, ⟨Lc13, hQ13, l13, y13, z13⟩, st13⟩ := X12.virtualBack hx (y := (⟨"com/example/nimfield/nimfield/FewestCoins", "addCheckCoin", "()V"⟩ : MethodName)) (z := (⟨"com/example/nimfield/nimfield/FewestCoins", "addCheckCoin", "()V"⟩ : MethodName)) hown (mvT hZ (hw _ (List.mem_of_getElem? (i := 38) rfl))) (mvT hZ (hw _ (List.mem_of_getElem? (i := 39) rfl))) (notFace_of_selects (args := #[]) (mvT hZ (hw _ (List.mem_of_getElem? (i := 41) rfl)))) (mvT hZ (hw _ (List.mem_of_getElem? (i := 41) rfl))) (mvT hZ (hw _ (List.mem_of_getElem? (i := 40) rfl))) (by decide) (backOf (W := 0) (rm6 l Z a0 hw [] b11 t sa tb 0 T12.heap n0 Z12 E12 Fb12 Ft12 Fs12 Fta12 At12 As12 Ab12 n1 n2 n3 n4 n5 n6 gz11 gt gs (by decide)) hZ (hw _ (List.mem_of_getElem? (i := 42) rfl)) (hw _ (List.mem_of_getElem? (i := 2) rfl)) (by decide) (by decide)) q13a q13c (g := (mkF m 19 #[.val (.int x0), .val (.int x1), .val (.int (2 : Int32)), .val (.ref b11), .unset, .unset, .unset, .unset] [(.ref b11)])) rfl (by rw [hml]; rfl) (Steps.refl _) (argsL := []) (rest := []) (lenOf pd___V rfl) rfl (by show 2 * 0 + _ ≤ _; exact Nat.le_of_eq rfl) (hb hby at_19) (fun _ _ => ⟨rfl, rfl, (by decide : 4 + 0 ≤ _), (by decide : 38 + 0 ≤ _)⟩)
    dsimp only [Pt.U, Pt.locs, Pt.cells, Pt.slots] at X13 l13 y13 z13 st13 hQ13
    subst l13 y13 z13
    obtain ⟨rfl, Nq13, K13, E13, Fb13, Ft13, Fs13, Fta13, At13, As13, Ab13⟩ := hQ13
    have N13 := Fr.app N12 Nq13
    have Z13 := Nat.le_trans Z12 K13.1
    refine own_pre (B := T13.setTop (mkF m 22 #[.val (.int x0), .val (.int x1), .val (.int (2 : Int32)), .val (.ref b11), .unset, .unset, .unset, .unset] [])) ?_ (fun t_ k_ => st13.trans k_)
    refine own_pre (B := T13.setTop (mkF m 23 #[.val (.int x0), .val (.int x1), .val (.int (2 : Int32)), .val (.ref b11), .unset, .unset, .unset, .unset] [(.int (2 : Int32))])) ?_ fun t_ k_ => XS.iloadN X13.here hx rfl (hb hby at_22) rfl  k_
    refine own_pre (B := T13.setTop (mkF m 24 #[.val (.int x0), .val (.int x1), .val (.int (2 : Int32)), .val (.ref b11), .unset, .unset, .unset, .unset] [(.int (2 : Int32)), (.int (2 : Int32))])) ?_ fun t_ k_ => XS.iconst X13.here hx rfl (hb hby at_23) k_
    refine own_pre (B := T13.setTop (mkF m 27 #[.val (.int x0), .val (.int x1), .val (.int (2 : Int32)), .val (.ref b11), .unset, .unset, .unset, .unset] [])) ?_ fun t_ k_ => XS.icmpNo X13.here hx rfl (hb hby at_24) rfl (flt (by decide : ¬ ((2 : Int32) < (2 : Int32)))).1 k_
    refine own_pre (B := T13.setTop (mkF m 28 #[.val (.int x0), .val (.int x1), .val (.int (2 : Int32)), .val (.ref b11), .unset, .unset, .unset, .unset] [(.ref b11)])) ?_ fun t_ k_ => XS.aloadN X13.here hx rfl (hb hby at_27) rfl rfl k_
    obtain ⟨cq14, kq14, q14a, q14b, q14c⟩ := isOf hZ rfl E13
    obtain ⟨_, _, ⟨T14, L14, k14, n14⟩, -, X14, ⟨Lc14, hQ14, l14, y14, z14⟩, st14⟩ := X13.virtualBack hx (y := (⟨"com/example/nimfield/nimfield/FewestCoins", "addCheckCoin", "()V"⟩ : MethodName)) (z := (⟨"com/example/nimfield/nimfield/FewestCoins", "addCheckCoin", "()V"⟩ : MethodName)) hown (mvT hZ (hw _ (List.mem_of_getElem? (i := 38) rfl))) (mvT hZ (hw _ (List.mem_of_getElem? (i := 39) rfl))) (notFace_of_selects (args := #[]) (mvT hZ (hw _ (List.mem_of_getElem? (i := 41) rfl)))) (mvT hZ (hw _ (List.mem_of_getElem? (i := 41) rfl))) (mvT hZ (hw _ (List.mem_of_getElem? (i := 40) rfl))) (by decide) (backOf (W := 0) (rm6 l Z a0 hw [] b11 t sa tb 1 T13.heap n0 Z13 E13 Fb13 Ft13 Fs13 Fta13 At13 As13 Ab13 n1 n2 n3 n4 n5 n6 gz11 gt gs (by decide)) hZ (hw _ (List.mem_of_getElem? (i := 42) rfl)) (hw _ (List.mem_of_getElem? (i := 2) rfl)) (by decide) (by decide)) q14a q14c (g := (mkF m 28 #[.val (.int x0), .val (.int x1), .val (.int (2 : Int32)), .val (.ref b11), .unset, .unset, .unset, .unset] [(.ref b11)])) rfl (by rw [hml]; rfl) (Steps.refl _) (argsL := []) (rest := []) (lenOf pd___V rfl) rfl (by show 2 * 0 + _ ≤ _; exact Nat.le_of_eq rfl) (hb hby at_28) (fun _ _ => ⟨rfl, rfl, (by decide : 4 + 0 ≤ _), (by decide : 38 + 0 ≤ _)⟩)
    dsimp only [Pt.U, Pt.locs, Pt.cells, Pt.slots] at X14 l14 y14 z14 st14 hQ14
    subst l14 y14 z14
    obtain ⟨rfl, Nq14, K14, E14, Fb14, Ft14, Fs14, Fta14, At14, As14, Ab14⟩ := hQ14
    have N14 := Fr.app N13 Nq14
    have Z14 := Nat.le_trans Z13 K14.1
    refine own_pre (B := T14.setTop (mkF m 31 #[.val (.int x0), .val (.int x1), .val (.int (2 : Int32)), .val (.ref b11), .unset, .unset, .unset, .unset] [])) ?_ (fun t_ k_ => st14.trans k_)
    refine own_pre (B := T14.setTop (mkF m 32 #[.val (.int x0), .val (.int x1), .val (.int (2 : Int32)), .val (.ref b11), .unset, .unset, .unset, .unset] [(.int (2 : Int32))])) ?_ fun t_ k_ => XS.iloadN X14.here hx rfl (hb hby at_31) rfl  k_
    refine own_pre (B := T14.setTop (mkF m 33 #[.val (.int x0), .val (.int x1), .val (.int (2 : Int32)), .val (.ref b11), .unset, .unset, .unset, .unset] [(.int (3 : Int32)), (.int (2 : Int32))])) ?_ fun t_ k_ => XS.iconst X14.here hx rfl (hb hby at_32) k_
    refine own_pre (B := T14.setTop (mkF m 40 #[.val (.int x0), .val (.int x1), .val (.int (2 : Int32)), .val (.ref b11), .unset, .unset, .unset, .unset] [])) ?_ fun t_ k_ => XS.icmpYes X14.here hx rfl (pc0 := 33) (pc' := 40) rfl (hb hby at_33) rfl (tlt (by decide : ((2 : Int32) < (3 : Int32)))).1 (by decide) (by decide) k_
    refine own_pre (B := T14.setTop (mkF m 41 #[.val (.int x0), .val (.int x1), .val (.int (2 : Int32)), .val (.ref b11), .unset, .unset, .unset, .unset] [(.int (2 : Int32))])) ?_ fun t_ k_ => XS.iloadN X14.here hx rfl (hb hby at_40) rfl  k_
    refine own_pre (B := T14.setTop (mkF m 42 #[.val (.int x0), .val (.int x1), .val (.int (2 : Int32)), .val (.ref b11), .unset, .unset, .unset, .unset] [(.int (4 : Int32)), (.int (2 : Int32))])) ?_ fun t_ k_ => XS.iconst X14.here hx rfl (hb hby at_41) k_
    refine own_pre (B := T14.setTop (mkF m 49 #[.val (.int x0), .val (.int x1), .val (.int (2 : Int32)), .val (.ref b11), .unset, .unset, .unset, .unset] [])) ?_ fun t_ k_ => XS.icmpYes X14.here hx rfl (pc0 := 42) (pc' := 49) rfl (hb hby at_42) rfl (tlt (by decide : ((2 : Int32) < (4 : Int32)))).1 (by decide) (by decide) k_
    refine own_pre (B := T14.setTop (mkF m 50 #[.val (.int x0), .val (.int x1), .val (.int (2 : Int32)), .val (.ref b11), .unset, .unset, .unset, .unset] [(.int (2 : Int32))])) ?_ fun t_ k_ => XS.iloadN X14.here hx rfl (hb hby at_49) rfl  k_
    refine own_pre (B := T14.setTop (mkF m 51 #[.val (.int x0), .val (.int x1), .val (.int (2 : Int32)), .val (.ref b11), .unset, .unset, .unset, .unset] [(.int (5 : Int32)), (.int (2 : Int32))])) ?_ fun t_ k_ => XS.iconst X14.here hx rfl (hb hby at_50) k_
    refine own_pre (B := T14.setTop (mkF m 58 #[.val (.int x0), .val (.int x1), .val (.int (2 : Int32)), .val (.ref b11), .unset, .unset, .unset, .unset] [])) ?_ fun t_ k_ => XS.icmpYes X14.here hx rfl (pc0 := 51) (pc' := 58) rfl (hb hby at_51) rfl (tlt (by decide : ((2 : Int32) < (5 : Int32)))).1 (by decide) (by decide) k_
    refine own_pre (B := T14.setTop (mkF m 59 #[.val (.int x0), .val (.int x1), .val (.int (2 : Int32)), .val (.ref b11), .unset, .unset, .unset, .unset] [(.int (2 : Int32))])) ?_ fun t_ k_ => XS.iloadN X14.here hx rfl (hb hby at_58) rfl  k_
    refine own_pre (B := T14.setTop (mkF m 61 #[.val (.int x0), .val (.int x1), .val (.int (2 : Int32)), .val (.ref b11), .unset, .unset, .unset, .unset] [(.int (6 : Int32)), (.int (2 : Int32))])) ?_ fun t_ k_ => XS.bipush X14.here hx rfl (hb hby at_59) k_
    refine own_pre (B := T14.setTop (mkF m 68 #[.val (.int x0), .val (.int x1), .val (.int (2 : Int32)), .val (.ref b11), .unset, .unset, .unset, .unset] [])) ?_ fun t_ k_ => XS.icmpYes X14.here hx rfl (pc0 := 61) (pc' := 68) rfl (hb hby at_61) rfl (tlt (by decide : ((2 : Int32) < (6 : Int32)))).1 (by decide) (by decide) k_
    refine own_pre (B := T14.setTop (mkF m 69 #[.val (.int x0), .val (.int x1), .val (.int (2 : Int32)), .val (.ref b11), .unset, .unset, .unset, .unset] [(.int (2 : Int32))])) ?_ fun t_ k_ => XS.iloadN X14.here hx rfl (hb hby at_68) rfl  k_
    refine own_pre (B := T14.setTop (mkF m 71 #[.val (.int x0), .val (.int x1), .val (.int (2 : Int32)), .val (.ref b11), .unset, .unset, .unset, .unset] [(.int (7 : Int32)), (.int (2 : Int32))])) ?_ fun t_ k_ => XS.bipush X14.here hx rfl (hb hby at_69) k_
    refine own_pre (B := T14.setTop (mkF m 78 #[.val (.int x0), .val (.int x1), .val (.int (2 : Int32)), .val (.ref b11), .unset, .unset, .unset, .unset] [])) ?_ fun t_ k_ => XS.icmpYes X14.here hx rfl (pc0 := 71) (pc' := 78) rfl (hb hby at_71) rfl (tlt (by decide : ((2 : Int32) < (7 : Int32)))).1 (by decide) (by decide) k_
    refine own_pre (B := T14.setTop (mkF m 79 #[.val (.int x0), .val (.int x1), .val (.int (2 : Int32)), .val (.ref b11), .unset, .unset, .unset, .unset] [(.ref b11)])) ?_ fun t_ k_ => XS.aloadN X14.here hx rfl (hb hby at_78) rfl rfl k_
    refine own_pre (B := T14.setTop (mkF m 80 #[.val (.int x0), .val (.int x1), .val (.int (2 : Int32)), .val (.ref b11), .unset, .unset, .unset, .unset] [(.int x1), (.ref b11)])) ?_ fun t_ k_ => XS.iloadN X14.here hx rfl (hb hby at_79) rfl  k_
    obtain ⟨cq15, kq15, q15a, q15b, q15c⟩ := isOf hZ rfl E14
    obtain ⟨_, _, ⟨T15, L15, k15, n15⟩, -, X15, ⟨Lc15, hQ15, l15, y15, z15⟩, st15⟩ := X14.virtualBack hx (y := (⟨"com/example/nimfield/nimfield/FewestCoins", "leastNeeding", "(I)J"⟩ : MethodName)) (z := (⟨"com/example/nimfield/nimfield/FewestCoins", "leastNeeding", "(I)J"⟩ : MethodName)) hown (mvT hZ (hw _ (List.mem_of_getElem? (i := 17) rfl))) (mvT hZ (hw _ (List.mem_of_getElem? (i := 18) rfl))) (notFace_of_selects (args := #[]) (mvT hZ (hw _ (List.mem_of_getElem? (i := 20) rfl)))) (mvT hZ (hw _ (List.mem_of_getElem? (i := 20) rfl))) (mvT hZ (hw _ (List.mem_of_getElem? (i := 19) rfl))) (by decide) (backOf (W := 0) (rm3 l Z a0 hw [] b11 x1 t sa tb 2 T14.heap n0 Z14 E14 Fb14 Ft14 Fs14 Fta14 At14 As14 Ab14 (by decide)) hZ (hw _ (List.mem_of_getElem? (i := 21) rfl)) (hw _ (List.mem_of_getElem? (i := 2) rfl)) (by decide) (by decide)) q15a q15c (g := (mkF m 80 #[.val (.int x0), .val (.int x1), .val (.int (2 : Int32)), .val (.ref b11), .unset, .unset, .unset, .unset] [(.int x1), (.ref b11)])) rfl (by rw [hml]; rfl) (Steps.refl _) (argsL := [(.int x1)]) (rest := []) (lenOf pd__I_J rfl) rfl (by show 2 * 0 + _ ≤ _; exact Nat.le_of_eq rfl) (hb hby at_80) (fun _ _ => ⟨rfl, rfl, (by decide : 4 + 4 ≤ _), (by decide : 38 + 11 ≤ _)⟩)
    dsimp only [Pt.U, Pt.locs, Pt.cells, Pt.slots] at X15 l15 y15 z15 st15 hQ15
    subst l15 y15 z15
    obtain ⟨rfl, Nq15, K15⟩ := hQ15
    have N15 := Fr.app N14 Nq15
    have Z15 := Nat.le_trans Z14 K15.1
    refine own_pre (B := T15.setTop (mkF m 83 #[.val (.int x0), .val (.int x1), .val (.int (2 : Int32)), .val (.ref b11), .unset, .unset, .unset, .unset] [(.long (own_need 2 x1))])) ?_ (fun t_ k_ => st15.trans k_)
    refine own_pre (B := T15.setTop (mkF m 85 #[.val (.int x0), .val (.int x1), .val (.int (2 : Int32)), .val (.ref b11), .val (.long (own_need 2 x1)), .second, .unset, .unset] [])) ?_ fun t_ k_ => XS.lstore X15.here hx rfl (hb hby at_83) rfl  (l' := #[.val (.int x0), .val (.int x1), .val (.int (2 : Int32)), .val (.ref b11), .val (.long (own_need 2 x1)), .second, .unset, .unset]) rfl k_
    refine own_pre (B := T15.setTop (mkF m 86 #[.val (.int x0), .val (.int x1), .val (.int (2 : Int32)), .val (.ref b11), .val (.long (own_need 2 x1)), .second, .unset, .unset] [(.int x1)])) ?_ fun t_ k_ => XS.iloadN X15.here hx rfl (hb hby at_85) rfl  k_
    by_cases h86_16 : (0 : Int32) < x1
    · skip
      refine own_pre (B := T15.setTop (mkF m 95 #[.val (.int x0), .val (.int x1), .val (.int (2 : Int32)), .val (.ref b11), .val (.long (own_need 2 x1)), .second, .unset, .unset] [])) ?_ fun t_ k_ => XS.ifYes X15.here hx rfl (pc0 := 86) (pc' := 95) rfl (hb hby at_86) rfl ((if0 _ _).trans (tlt h86_16).2.2.1) (by decide) (by decide) k_
      refine own_pre (B := T15.setTop (mkF m 96 #[.val (.int x0), .val (.int x1), .val (.int (2 : Int32)), .val (.ref b11), .val (.long (own_need 2 x1)), .second, .unset, .unset] [(.int x1)])) ?_ fun t_ k_ => XS.iloadN X15.here hx rfl (hb hby at_95) rfl  k_
      refine own_pre (B := T15.setTop (mkF m 97 #[.val (.int x0), .val (.int x1), .val (.int (2 : Int32)), .val (.ref b11), .val (.long (own_need 2 x1)), .second, .unset, .unset] [(.int (2 : Int32)), (.int x1)])) ?_ fun t_ k_ => XS.iloadN X15.here hx rfl (hb hby at_96) rfl  k_
      by_cases h97_17 : (2 : Int32) < x1
      · skip
        refine own_pre (B := T15.setTop (mkF m 110 #[.val (.int x0), .val (.int x1), .val (.int (2 : Int32)), .val (.ref b11), .val (.long (own_need 2 x1)), .second, .unset, .unset] [])) ?_ fun t_ k_ => XS.icmpYes X15.here hx rfl (pc0 := 97) (pc' := 110) rfl (hb hby at_97) rfl (tlt h97_17).2.2.1 (by decide) (by decide) k_
        refine own_pre (B := T15.setTop (mkF m 113 #[.val (.int x0), .val (.int x1), .val (.int (2 : Int32)), .val (.ref b11), .val (.long (own_need 2 x1)), .second, .unset, .unset] [(.long (-1 : Int64))])) ?_ (X15.ldc2Long hx hown (mvT hZ (hw _ (List.mem_of_getElem? (i := 37) rfl))) (g := (mkF m 110 #[.val (.int x0), .val (.int x1), .val (.int (2 : Int32)), .val (.ref b11), .val (.long (own_need 2 x1)), .second, .unset, .unset] [])) rfl (hb hby at_110))
        refine own_pre (B := T15.setTop (mkF m 115 #[.val (.int x0), .val (.int x1), .val (.int (2 : Int32)), .val (.ref b11), .val (.long (own_need 2 x1)), .second, .val (.long (-1 : Int64)), .second] [])) ?_ fun t_ k_ => XS.lstore X15.here hx rfl (hb hby at_113) rfl  (l' := #[.val (.int x0), .val (.int x1), .val (.int (2 : Int32)), .val (.ref b11), .val (.long (own_need 2 x1)), .second, .val (.long (-1 : Int64)), .second]) rfl k_
        refine own_pre (B := T15.setTop (mkF m 117 #[.val (.int x0), .val (.int x1), .val (.int (2 : Int32)), .val (.ref b11), .val (.long (own_need 2 x1)), .second, .val (.long (-1 : Int64)), .second] [(.long (own_need 2 x1))])) ?_ fun t_ k_ => XS.lload X15.here hx rfl (hb hby at_115) rfl  k_
        refine own_pre (B := T15.setTop (mkF m 119 #[.val (.int x0), .val (.int x1), .val (.int (2 : Int32)), .val (.ref b11), .val (.long (own_need 2 x1)), .second, .val (.long (-1 : Int64)), .second] [(.long (-1 : Int64)), (.long (own_need 2 x1))])) ?_ fun t_ k_ => XS.lload X15.here hx rfl (hb hby at_117) rfl  k_
        refine own_pre (B := T15.setTop (mkF m 120 #[.val (.int x0), .val (.int x1), .val (.int (2 : Int32)), .val (.ref b11), .val (.long (own_need 2 x1)), .second, .val (.long (-1 : Int64)), .second] [(.int (lcmpW (own_need 2 x1) (-1 : Int64)))])) ?_ fun t_ k_ => XS.lcmp X15.here hx rfl (hb hby at_119) rfl k_
        refine own_pre (B := T15.setTop (mkF m 123 #[.val (.int x0), .val (.int x1), .val (.int (2 : Int32)), .val (.ref b11), .val (.long (own_need 2 x1)), .second, .val (.long (-1 : Int64)), .second] [])) ?_ fun t_ k_ => XS.ifNo X15.here hx rfl (hb hby at_120) rfl ((if0 _ _).trans (teq ((lw_eq (own_need 2 x1) (-1 : Int64)).mpr (own_l2 2 (by decide) x1 h86_16 h97_17))).2) k_
        refine own_pre (B := T15.setTop (mkF m 124 #[.val (.int x0), .val (.int x1), .val (.int (2 : Int32)), .val (.ref b11), .val (.long (own_need 2 x1)), .second, .val (.long (-1 : Int64)), .second] [(.int (1 : Int32))])) ?_ fun t_ k_ => XS.iconst X15.here hx rfl (hb hby at_123) k_
        refine own_pre (B := T15.setTop (mkF m 128 #[.val (.int x0), .val (.int x1), .val (.int (2 : Int32)), .val (.ref b11), .val (.long (own_need 2 x1)), .second, .val (.long (-1 : Int64)), .second] [(.int (1 : Int32))])) ?_ fun t_ k_ => XS.goto X15.here hx rfl (pc0 := 124) (pc' := 128) rfl (hb hby at_124) (by decide) (by decide) k_
        refine own_retN X15 hx hlk (t := .boolean) (z' := (1 : Int32)) Bd.returns (by simp) (hb hby at_128) (by decide) ?_ (by decide) (by decide)
        exact ⟨rfl, N15⟩
      · skip
        refine own_pre (B := T15.setTop (mkF m 100 #[.val (.int x0), .val (.int x1), .val (.int (2 : Int32)), .val (.ref b11), .val (.long (own_need 2 x1)), .second, .unset, .unset] [])) ?_ fun t_ k_ => XS.icmpNo X15.here hx rfl (hb hby at_97) rfl (flt h97_17).2.2.1 k_
        refine own_pre (B := T15.setTop (mkF m 101 #[.val (.int x0), .val (.int x1), .val (.int (2 : Int32)), .val (.ref b11), .val (.long (own_need 2 x1)), .second, .unset, .unset] [(.long (1 : Int64))])) ?_ fun t_ k_ => XS.lconst X15.here hx rfl (hb hby at_100) k_
        refine own_pre (B := T15.setTop (mkF m 102 #[.val (.int x0), .val (.int x1), .val (.int (2 : Int32)), .val (.ref b11), .val (.long (own_need 2 x1)), .second, .unset, .unset] [(.int x1), (.long (1 : Int64))])) ?_ fun t_ k_ => XS.iloadN X15.here hx rfl (hb hby at_101) rfl  k_
        refine own_pre (B := T15.setTop (mkF m 103 #[.val (.int x0), .val (.int x1), .val (.int (2 : Int32)), .val (.ref b11), .val (.long (own_need 2 x1)), .second, .unset, .unset] [(.long ((1 : Int64) <<< (x1 &&& 0x3f).toInt64))])) ?_ fun t_ k_ => XS.lshl X15.here hx rfl (hb hby at_102) rfl k_
        refine own_pre (B := T15.setTop (mkF m 104 #[.val (.int x0), .val (.int x1), .val (.int (2 : Int32)), .val (.ref b11), .val (.long (own_need 2 x1)), .second, .unset, .unset] [(.long (1 : Int64)), (.long ((1 : Int64) <<< (x1 &&& 0x3f).toInt64))])) ?_ fun t_ k_ => XS.lconst X15.here hx rfl (hb hby at_103) k_
        refine own_pre (B := T15.setTop (mkF m 105 #[.val (.int x0), .val (.int x1), .val (.int (2 : Int32)), .val (.ref b11), .val (.long (own_need 2 x1)), .second, .unset, .unset] [(.long (((1 : Int64) <<< (x1 &&& 0x3f).toInt64) - (1 : Int64)))])) ?_ fun t_ k_ => XS.lsub X15.here hx rfl (hb hby at_104) rfl k_
        refine own_pre (B := T15.setTop (mkF m 107 #[.val (.int x0), .val (.int x1), .val (.int (2 : Int32)), .val (.ref b11), .val (.long (own_need 2 x1)), .second, .val (.long (((1 : Int64) <<< (x1 &&& 0x3f).toInt64) - (1 : Int64))), .second] [])) ?_ fun t_ k_ => XS.lstore X15.here hx rfl (hb hby at_105) rfl  (l' := #[.val (.int x0), .val (.int x1), .val (.int (2 : Int32)), .val (.ref b11), .val (.long (own_need 2 x1)), .second, .val (.long (((1 : Int64) <<< (x1 &&& 0x3f).toInt64) - (1 : Int64))), .second]) rfl k_
        refine own_pre (B := T15.setTop (mkF m 115 #[.val (.int x0), .val (.int x1), .val (.int (2 : Int32)), .val (.ref b11), .val (.long (own_need 2 x1)), .second, .val (.long (((1 : Int64) <<< (x1 &&& 0x3f).toInt64) - (1 : Int64))), .second] [])) ?_ fun t_ k_ => XS.goto X15.here hx rfl (pc0 := 107) (pc' := 115) rfl (hb hby at_107) (by decide) (by decide) k_
        refine own_pre (B := T15.setTop (mkF m 117 #[.val (.int x0), .val (.int x1), .val (.int (2 : Int32)), .val (.ref b11), .val (.long (own_need 2 x1)), .second, .val (.long (((1 : Int64) <<< (x1 &&& 0x3f).toInt64) - (1 : Int64))), .second] [(.long (own_need 2 x1))])) ?_ fun t_ k_ => XS.lload X15.here hx rfl (hb hby at_115) rfl  k_
        refine own_pre (B := T15.setTop (mkF m 119 #[.val (.int x0), .val (.int x1), .val (.int (2 : Int32)), .val (.ref b11), .val (.long (own_need 2 x1)), .second, .val (.long (((1 : Int64) <<< (x1 &&& 0x3f).toInt64) - (1 : Int64))), .second] [(.long (((1 : Int64) <<< (x1 &&& 0x3f).toInt64) - (1 : Int64))), (.long (own_need 2 x1))])) ?_ fun t_ k_ => XS.lload X15.here hx rfl (hb hby at_117) rfl  k_
        refine own_pre (B := T15.setTop (mkF m 120 #[.val (.int x0), .val (.int x1), .val (.int (2 : Int32)), .val (.ref b11), .val (.long (own_need 2 x1)), .second, .val (.long (((1 : Int64) <<< (x1 &&& 0x3f).toInt64) - (1 : Int64))), .second] [(.int (lcmpW (own_need 2 x1) (((1 : Int64) <<< (x1 &&& 0x3f).toInt64) - (1 : Int64))))])) ?_ fun t_ k_ => XS.lcmp X15.here hx rfl (hb hby at_119) rfl k_
        refine own_pre (B := T15.setTop (mkF m 123 #[.val (.int x0), .val (.int x1), .val (.int (2 : Int32)), .val (.ref b11), .val (.long (own_need 2 x1)), .second, .val (.long (((1 : Int64) <<< (x1 &&& 0x3f).toInt64) - (1 : Int64))), .second] [])) ?_ fun t_ k_ => XS.ifNo X15.here hx rfl (hb hby at_120) rfl ((if0 _ _).trans (teq ((lw_eq (own_need 2 x1) (((1 : Int64) <<< (x1 &&& 0x3f).toInt64) - (1 : Int64))).mpr (own_l1 2 (by decide) x1 h86_16 h97_17))).2) k_
        refine own_pre (B := T15.setTop (mkF m 124 #[.val (.int x0), .val (.int x1), .val (.int (2 : Int32)), .val (.ref b11), .val (.long (own_need 2 x1)), .second, .val (.long (((1 : Int64) <<< (x1 &&& 0x3f).toInt64) - (1 : Int64))), .second] [(.int (1 : Int32))])) ?_ fun t_ k_ => XS.iconst X15.here hx rfl (hb hby at_123) k_
        refine own_pre (B := T15.setTop (mkF m 128 #[.val (.int x0), .val (.int x1), .val (.int (2 : Int32)), .val (.ref b11), .val (.long (own_need 2 x1)), .second, .val (.long (((1 : Int64) <<< (x1 &&& 0x3f).toInt64) - (1 : Int64))), .second] [(.int (1 : Int32))])) ?_ fun t_ k_ => XS.goto X15.here hx rfl (pc0 := 124) (pc' := 128) rfl (hb hby at_124) (by decide) (by decide) k_
        refine own_retN X15 hx hlk (t := .boolean) (z' := (1 : Int32)) Bd.returns (by simp) (hb hby at_128) (by decide) ?_ (by decide) (by decide)
        exact ⟨rfl, N15⟩
    · skip
      refine own_pre (B := T15.setTop (mkF m 89 #[.val (.int x0), .val (.int x1), .val (.int (2 : Int32)), .val (.ref b11), .val (.long (own_need 2 x1)), .second, .unset, .unset] [])) ?_ fun t_ k_ => XS.ifNo X15.here hx rfl (hb hby at_86) rfl ((if0 _ _).trans (flt h86_16).2.2.1) k_
      refine own_pre (B := T15.setTop (mkF m 90 #[.val (.int x0), .val (.int x1), .val (.int (2 : Int32)), .val (.ref b11), .val (.long (own_need 2 x1)), .second, .unset, .unset] [(.long (0 : Int64))])) ?_ fun t_ k_ => XS.lconst X15.here hx rfl (hb hby at_89) k_
      refine own_pre (B := T15.setTop (mkF m 92 #[.val (.int x0), .val (.int x1), .val (.int (2 : Int32)), .val (.ref b11), .val (.long (own_need 2 x1)), .second, .val (.long (0 : Int64)), .second] [])) ?_ fun t_ k_ => XS.lstore X15.here hx rfl (hb hby at_90) rfl  (l' := #[.val (.int x0), .val (.int x1), .val (.int (2 : Int32)), .val (.ref b11), .val (.long (own_need 2 x1)), .second, .val (.long (0 : Int64)), .second]) rfl k_
      refine own_pre (B := T15.setTop (mkF m 115 #[.val (.int x0), .val (.int x1), .val (.int (2 : Int32)), .val (.ref b11), .val (.long (own_need 2 x1)), .second, .val (.long (0 : Int64)), .second] [])) ?_ fun t_ k_ => XS.goto X15.here hx rfl (pc0 := 92) (pc' := 115) rfl (hb hby at_92) (by decide) (by decide) k_
      refine own_pre (B := T15.setTop (mkF m 117 #[.val (.int x0), .val (.int x1), .val (.int (2 : Int32)), .val (.ref b11), .val (.long (own_need 2 x1)), .second, .val (.long (0 : Int64)), .second] [(.long (own_need 2 x1))])) ?_ fun t_ k_ => XS.lload X15.here hx rfl (hb hby at_115) rfl  k_
      refine own_pre (B := T15.setTop (mkF m 119 #[.val (.int x0), .val (.int x1), .val (.int (2 : Int32)), .val (.ref b11), .val (.long (own_need 2 x1)), .second, .val (.long (0 : Int64)), .second] [(.long (0 : Int64)), (.long (own_need 2 x1))])) ?_ fun t_ k_ => XS.lload X15.here hx rfl (hb hby at_117) rfl  k_
      refine own_pre (B := T15.setTop (mkF m 120 #[.val (.int x0), .val (.int x1), .val (.int (2 : Int32)), .val (.ref b11), .val (.long (own_need 2 x1)), .second, .val (.long (0 : Int64)), .second] [(.int (lcmpW (own_need 2 x1) (0 : Int64)))])) ?_ fun t_ k_ => XS.lcmp X15.here hx rfl (hb hby at_119) rfl k_
      refine own_pre (B := T15.setTop (mkF m 123 #[.val (.int x0), .val (.int x1), .val (.int (2 : Int32)), .val (.ref b11), .val (.long (own_need 2 x1)), .second, .val (.long (0 : Int64)), .second] [])) ?_ fun t_ k_ => XS.ifNo X15.here hx rfl (hb hby at_120) rfl ((if0 _ _).trans (teq ((lw_eq (own_need 2 x1) (0 : Int64)).mpr (own_l0 2 (by decide) x1 h86_16))).2) k_
      refine own_pre (B := T15.setTop (mkF m 124 #[.val (.int x0), .val (.int x1), .val (.int (2 : Int32)), .val (.ref b11), .val (.long (own_need 2 x1)), .second, .val (.long (0 : Int64)), .second] [(.int (1 : Int32))])) ?_ fun t_ k_ => XS.iconst X15.here hx rfl (hb hby at_123) k_
      refine own_pre (B := T15.setTop (mkF m 128 #[.val (.int x0), .val (.int x1), .val (.int (2 : Int32)), .val (.ref b11), .val (.long (own_need 2 x1)), .second, .val (.long (0 : Int64)), .second] [(.int (1 : Int32))])) ?_ fun t_ k_ => XS.goto X15.here hx rfl (pc0 := 124) (pc' := 128) rfl (hb hby at_124) (by decide) (by decide) k_
      refine own_retN X15 hx hlk (t := .boolean) (z' := (1 : Int32)) Bd.returns (by simp) (hb hby at_128) (by decide) ?_ (by decide) (by decide)
      exact ⟨rfl, N15⟩
  · skip
    obtain ⟨T18, h18, X18, e18, E18, A18, D18, -, st18⟩ := newO X0 hx hZ hown (hw _ (List.mem_of_getElem? (i := 0) rfl)) (hw _ (List.mem_of_getElem? (i := 1) rfl)) (hw _ (List.mem_of_getElem? (i := 2) rfl)) e0 (g := (mkF m 5 #[.val (.int x0), .val (.int x1), .val (.int (3 : Int32)), .unset, .unset, .unset, .unset, .unset] [])) rfl (hb hby at_5) (by decide) (by decide)
    obtain ⟨b18, g18⟩ : ∃ z, z = h0.size := ⟨_, rfl⟩
    rw [← g18] at A18 D18 st18
    have Z18 : n0 ≤ h18.size := Nat.le_trans Z0 E18.1
    have gz18 : n0 ≤ b18 := Nat.le_trans Z0 (Nat.le_of_eq g18.symm)
    have F18_typeOf : Fld Z h18 b18 "com/example/nimfield/nimfield/FewestCoins" "typeOf" "[I" .null := D18 (Or.inr (hw _ (List.mem_of_getElem? (i := 11) rfl))) (ty := (.array .int)) (by decide)
    have F18_sizes : Fld Z h18 b18 "com/example/nimfield/nimfield/FewestCoins" "sizes" "[I" .null := D18 (Or.inl (hw _ (List.mem_of_getElem? (i := 13) rfl))) (ty := (.array .int)) (by decide)
    have F18_table : Fld Z h18 b18 "com/example/nimfield/nimfield/FewestCoins" "table" "[B" .null := D18 (Or.inl (hw _ (List.mem_of_getElem? (i := 16) rfl))) (ty := (.array .byte)) (by decide)
    have F18_bits : Fld Z h18 b18 "com/example/nimfield/nimfield/FewestCoins" "bits" "I" (.int (0 : Int32)) := D18 (Or.inl (hw _ (List.mem_of_getElem? (i := 31) rfl))) (ty := .int) (by decide)
    refine own_pre (B := T18.setTop (mkF m 8 #[.val (.int x0), .val (.int x1), .val (.int (3 : Int32)), .unset, .unset, .unset, .unset, .unset] [(.ref b18)])) ?_ st18
    refine own_pre (B := T18.setTop (mkF m 9 #[.val (.int x0), .val (.int x1), .val (.int (3 : Int32)), .unset, .unset, .unset, .unset, .unset] [(.ref b18), (.ref b18)])) ?_ fun t_ k_ => XS.dup X18.here hx rfl (hb hby at_8) rfl rfl k_
    obtain ⟨_, _, ⟨T19, L19, k19, n19⟩, -, X19, ⟨Lc19, hQ19, l19, y19, z19⟩, st19⟩ := X18.specialBack hx (y := (⟨"com/example/nimfield/nimfield/FewestCoins", "<init>", "()V"⟩ : MethodName)) rfl hown (mvT hZ (hw _ (List.mem_of_getElem? (i := 3) rfl))) (mvT hZ (hw _ (List.mem_of_getElem? (i := 4) rfl))) (mvT hZ (hw _ (List.mem_of_getElem? (i := 5) rfl))) (by decide) (backOf (W := 1) (rm1 l Z a0 hw [] b18 h18 n0 Z18 A18 F18_bits F18_typeOf F18_sizes F18_table gz18) hZ (hw _ (List.mem_of_getElem? (i := 5) rfl)) (hw _ (List.mem_of_getElem? (i := 2) rfl)) (by decide) (by decide)) (g := (mkF m 9 #[.val (.int x0), .val (.int x1), .val (.int (3 : Int32)), .unset, .unset, .unset, .unset, .unset] [(.ref b18), (.ref b18)])) rfl (by rw [hml]; rfl) (Steps.refl _) (a := b18) (argsL := []) (rest := [(.ref b18)]) (lenOf pd___V rfl) rfl (by show 2 * 0 + _ ≤ _; exact Nat.le_of_eq rfl) (hb hby at_9) (fun _ _ => ⟨rfl, e18, (by decide : 1 + 3 ≤ _), (by decide : 4 + 34 ≤ _)⟩)
    dsimp only [Pt.U, Pt.locs, Pt.cells, Pt.slots] at X19 l19 y19 z19 st19 hQ19
    subst l19 y19 z19
    obtain ⟨rfl, Nq19, K19, t, sa, tb, E19, ⟨gt, gs, gb, n1, n2, n3, n4, n5, n6⟩, Fb19, Ft19, Fs19, Fta19, At19, As19, Ab19⟩ := hQ19
    have N19 := Fr.app N0 Nq19
    have Z19 := Nat.le_trans Z18 K19.1
    refine own_pre (B := T19.setTop (mkF m 12 #[.val (.int x0), .val (.int x1), .val (.int (3 : Int32)), .unset, .unset, .unset, .unset, .unset] [(.ref b18)])) ?_ (fun t_ k_ => st19.trans k_)
    refine own_pre (B := T19.setTop (mkF m 13 #[.val (.int x0), .val (.int x1), .val (.int (3 : Int32)), .val (.ref b18), .unset, .unset, .unset, .unset] [])) ?_ fun t_ k_ => XS.astoreN X19.here hx rfl (hb hby at_12) rfl rfl (l' := #[.val (.int x0), .val (.int x1), .val (.int (3 : Int32)), .val (.ref b18), .unset, .unset, .unset, .unset]) rfl k_
    refine own_pre (B := T19.setTop (mkF m 14 #[.val (.int x0), .val (.int x1), .val (.int (3 : Int32)), .val (.ref b18), .unset, .unset, .unset, .unset] [(.int (3 : Int32))])) ?_ fun t_ k_ => XS.iloadN X19.here hx rfl (hb hby at_13) rfl  k_
    refine own_pre (B := T19.setTop (mkF m 15 #[.val (.int x0), .val (.int x1), .val (.int (3 : Int32)), .val (.ref b18), .unset, .unset, .unset, .unset] [(.int (1 : Int32)), (.int (3 : Int32))])) ?_ fun t_ k_ => XS.iconst X19.here hx rfl (hb hby at_14) k_
    refine own_pre (B := T19.setTop (mkF m 18 #[.val (.int x0), .val (.int x1), .val (.int (3 : Int32)), .val (.ref b18), .unset, .unset, .unset, .unset] [])) ?_ fun t_ k_ => XS.icmpNo X19.here hx rfl (hb hby at_15) rfl (flt (by decide : ¬ ((3 : Int32) < (1 : Int32)))).1 k_
    refine own_pre (B := T19.setTop (mkF m 19 #[.val (.int x0), .val (.int x1), .val (.int (3 : Int32)), .val (.ref b18), .unset, .unset, .unset, .unset] [(.ref b18)])) ?_ fun t_ k_ => XS.aloadN X19.here hx rfl (hb hby at_18) rfl rfl k_
    obtain ⟨cq20, kq20, q20a, q20b, q20c⟩ := isOf hZ rfl E19
    obtain ⟨_, _, ⟨T20, L20, k20, n20⟩, -, X20, ⟨Lc20, hQ20, l20, y20, z20⟩, st20⟩ := X19.virtualBack hx (y := (⟨"com/example/nimfield/nimfield/FewestCoins", "addCheckCoin", "()V"⟩ : MethodName)) (z := (⟨"com/example/nimfield/nimfield/FewestCoins", "addCheckCoin", "()V"⟩ : MethodName)) hown (mvT hZ (hw _ (List.mem_of_getElem? (i := 38) rfl))) (mvT hZ (hw _ (List.mem_of_getElem? (i := 39) rfl))) (notFace_of_selects (args := #[]) (mvT hZ (hw _ (List.mem_of_getElem? (i := 41) rfl)))) (mvT hZ (hw _ (List.mem_of_getElem? (i := 41) rfl))) (mvT hZ (hw _ (List.mem_of_getElem? (i := 40) rfl))) (by decide) (backOf (W := 0) (rm6 l Z a0 hw [] b18 t sa tb 0 T19.heap n0 Z19 E19 Fb19 Ft19 Fs19 Fta19 At19 As19 Ab19 n1 n2 n3 n4 n5 n6 gz18 gt gs (by decide)) hZ (hw _ (List.mem_of_getElem? (i := 42) rfl)) (hw _ (List.mem_of_getElem? (i := 2) rfl)) (by decide) (by decide)) q20a q20c (g := (mkF m 19 #[.val (.int x0), .val (.int x1), .val (.int (3 : Int32)), .val (.ref b18), .unset, .unset, .unset, .unset] [(.ref b18)])) rfl (by rw [hml]; rfl) (Steps.refl _) (argsL := []) (rest := []) (lenOf pd___V rfl) rfl (by show 2 * 0 + _ ≤ _; exact Nat.le_of_eq rfl) (hb hby at_19) (fun _ _ => ⟨rfl, rfl, (by decide : 4 + 0 ≤ _), (by decide : 38 + 0 ≤ _)⟩)
    dsimp only [Pt.U, Pt.locs, Pt.cells, Pt.slots] at X20 l20 y20 z20 st20 hQ20
    subst l20 y20 z20
    obtain ⟨rfl, Nq20, K20, E20, Fb20, Ft20, Fs20, Fta20, At20, As20, Ab20⟩ := hQ20
    have N20 := Fr.app N19 Nq20
    have Z20 := Nat.le_trans Z19 K20.1
    refine own_pre (B := T20.setTop (mkF m 22 #[.val (.int x0), .val (.int x1), .val (.int (3 : Int32)), .val (.ref b18), .unset, .unset, .unset, .unset] [])) ?_ (fun t_ k_ => st20.trans k_)
    refine own_pre (B := T20.setTop (mkF m 23 #[.val (.int x0), .val (.int x1), .val (.int (3 : Int32)), .val (.ref b18), .unset, .unset, .unset, .unset] [(.int (3 : Int32))])) ?_ fun t_ k_ => XS.iloadN X20.here hx rfl (hb hby at_22) rfl  k_
    refine own_pre (B := T20.setTop (mkF m 24 #[.val (.int x0), .val (.int x1), .val (.int (3 : Int32)), .val (.ref b18), .unset, .unset, .unset, .unset] [(.int (2 : Int32)), (.int (3 : Int32))])) ?_ fun t_ k_ => XS.iconst X20.here hx rfl (hb hby at_23) k_
    refine own_pre (B := T20.setTop (mkF m 27 #[.val (.int x0), .val (.int x1), .val (.int (3 : Int32)), .val (.ref b18), .unset, .unset, .unset, .unset] [])) ?_ fun t_ k_ => XS.icmpNo X20.here hx rfl (hb hby at_24) rfl (flt (by decide : ¬ ((3 : Int32) < (2 : Int32)))).1 k_
    refine own_pre (B := T20.setTop (mkF m 28 #[.val (.int x0), .val (.int x1), .val (.int (3 : Int32)), .val (.ref b18), .unset, .unset, .unset, .unset] [(.ref b18)])) ?_ fun t_ k_ => XS.aloadN X20.here hx rfl (hb hby at_27) rfl rfl k_
    obtain ⟨cq21, kq21, q21a, q21b, q21c⟩ := isOf hZ rfl E20
    obtain ⟨_, _, ⟨T21, L21, k21, n21⟩, -, X21, ⟨Lc21, hQ21, l21, y21, z21⟩, st21⟩ := X20.virtualBack hx (y := (⟨"com/example/nimfield/nimfield/FewestCoins", "addCheckCoin", "()V"⟩ : MethodName)) (z := (⟨"com/example/nimfield/nimfield/FewestCoins", "addCheckCoin", "()V"⟩ : MethodName)) hown (mvT hZ (hw _ (List.mem_of_getElem? (i := 38) rfl))) (mvT hZ (hw _ (List.mem_of_getElem? (i := 39) rfl))) (notFace_of_selects (args := #[]) (mvT hZ (hw _ (List.mem_of_getElem? (i := 41) rfl)))) (mvT hZ (hw _ (List.mem_of_getElem? (i := 41) rfl))) (mvT hZ (hw _ (List.mem_of_getElem? (i := 40) rfl))) (by decide) (backOf (W := 0) (rm6 l Z a0 hw [] b18 t sa tb 1 T20.heap n0 Z20 E20 Fb20 Ft20 Fs20 Fta20 At20 As20 Ab20 n1 n2 n3 n4 n5 n6 gz18 gt gs (by decide)) hZ (hw _ (List.mem_of_getElem? (i := 42) rfl)) (hw _ (List.mem_of_getElem? (i := 2) rfl)) (by decide) (by decide)) q21a q21c (g := (mkF m 28 #[.val (.int x0), .val (.int x1), .val (.int (3 : Int32)), .val (.ref b18), .unset, .unset, .unset, .unset] [(.ref b18)])) rfl (by rw [hml]; rfl) (Steps.refl _) (argsL := []) (rest := []) (lenOf pd___V rfl) rfl (by show 2 * 0 + _ ≤ _; exact Nat.le_of_eq rfl) (hb hby at_28) (fun _ _ => ⟨rfl, rfl, (by decide : 4 + 0 ≤ _), (by decide : 38 + 0 ≤ _)⟩)
    dsimp only [Pt.U, Pt.locs, Pt.cells, Pt.slots] at X21 l21 y21 z21 st21 hQ21
    subst l21 y21 z21
    obtain ⟨rfl, Nq21, K21, E21, Fb21, Ft21, Fs21, Fta21, At21, As21, Ab21⟩ := hQ21
    have N21 := Fr.app N20 Nq21
    have Z21 := Nat.le_trans Z20 K21.1
    refine own_pre (B := T21.setTop (mkF m 31 #[.val (.int x0), .val (.int x1), .val (.int (3 : Int32)), .val (.ref b18), .unset, .unset, .unset, .unset] [])) ?_ (fun t_ k_ => st21.trans k_)
    refine own_pre (B := T21.setTop (mkF m 32 #[.val (.int x0), .val (.int x1), .val (.int (3 : Int32)), .val (.ref b18), .unset, .unset, .unset, .unset] [(.int (3 : Int32))])) ?_ fun t_ k_ => XS.iloadN X21.here hx rfl (hb hby at_31) rfl  k_
    refine own_pre (B := T21.setTop (mkF m 33 #[.val (.int x0), .val (.int x1), .val (.int (3 : Int32)), .val (.ref b18), .unset, .unset, .unset, .unset] [(.int (3 : Int32)), (.int (3 : Int32))])) ?_ fun t_ k_ => XS.iconst X21.here hx rfl (hb hby at_32) k_
    refine own_pre (B := T21.setTop (mkF m 36 #[.val (.int x0), .val (.int x1), .val (.int (3 : Int32)), .val (.ref b18), .unset, .unset, .unset, .unset] [])) ?_ fun t_ k_ => XS.icmpNo X21.here hx rfl (hb hby at_33) rfl (flt (by decide : ¬ ((3 : Int32) < (3 : Int32)))).1 k_
    refine own_pre (B := T21.setTop (mkF m 37 #[.val (.int x0), .val (.int x1), .val (.int (3 : Int32)), .val (.ref b18), .unset, .unset, .unset, .unset] [(.ref b18)])) ?_ fun t_ k_ => XS.aloadN X21.here hx rfl (hb hby at_36) rfl rfl k_
    obtain ⟨cq22, kq22, q22a, q22b, q22c⟩ := isOf hZ rfl E21
    obtain ⟨_, _, ⟨T22, L22, k22, n22⟩, -, X22, ⟨Lc22, hQ22, l22, y22, z22⟩, st22⟩ := X21.virtualBack hx (y := (⟨"com/example/nimfield/nimfield/FewestCoins", "addCheckCoin", "()V"⟩ : MethodName)) (z := (⟨"com/example/nimfield/nimfield/FewestCoins", "addCheckCoin", "()V"⟩ : MethodName)) hown (mvT hZ (hw _ (List.mem_of_getElem? (i := 38) rfl))) (mvT hZ (hw _ (List.mem_of_getElem? (i := 39) rfl))) (notFace_of_selects (args := #[]) (mvT hZ (hw _ (List.mem_of_getElem? (i := 41) rfl)))) (mvT hZ (hw _ (List.mem_of_getElem? (i := 41) rfl))) (mvT hZ (hw _ (List.mem_of_getElem? (i := 40) rfl))) (by decide) (backOf (W := 0) (rm6 l Z a0 hw [] b18 t sa tb 2 T21.heap n0 Z21 E21 Fb21 Ft21 Fs21 Fta21 At21 As21 Ab21 n1 n2 n3 n4 n5 n6 gz18 gt gs (by decide)) hZ (hw _ (List.mem_of_getElem? (i := 42) rfl)) (hw _ (List.mem_of_getElem? (i := 2) rfl)) (by decide) (by decide)) q22a q22c (g := (mkF m 37 #[.val (.int x0), .val (.int x1), .val (.int (3 : Int32)), .val (.ref b18), .unset, .unset, .unset, .unset] [(.ref b18)])) rfl (by rw [hml]; rfl) (Steps.refl _) (argsL := []) (rest := []) (lenOf pd___V rfl) rfl (by show 2 * 0 + _ ≤ _; exact Nat.le_of_eq rfl) (hb hby at_37) (fun _ _ => ⟨rfl, rfl, (by decide : 4 + 0 ≤ _), (by decide : 38 + 0 ≤ _)⟩)
    dsimp only [Pt.U, Pt.locs, Pt.cells, Pt.slots] at X22 l22 y22 z22 st22 hQ22
    subst l22 y22 z22
    obtain ⟨rfl, Nq22, K22, E22, Fb22, Ft22, Fs22, Fta22, At22, As22, Ab22⟩ := hQ22
    have N22 := Fr.app N21 Nq22
    have Z22 := Nat.le_trans Z21 K22.1
    refine own_pre (B := T22.setTop (mkF m 40 #[.val (.int x0), .val (.int x1), .val (.int (3 : Int32)), .val (.ref b18), .unset, .unset, .unset, .unset] [])) ?_ (fun t_ k_ => st22.trans k_)
    refine own_pre (B := T22.setTop (mkF m 41 #[.val (.int x0), .val (.int x1), .val (.int (3 : Int32)), .val (.ref b18), .unset, .unset, .unset, .unset] [(.int (3 : Int32))])) ?_ fun t_ k_ => XS.iloadN X22.here hx rfl (hb hby at_40) rfl  k_
    refine own_pre (B := T22.setTop (mkF m 42 #[.val (.int x0), .val (.int x1), .val (.int (3 : Int32)), .val (.ref b18), .unset, .unset, .unset, .unset] [(.int (4 : Int32)), (.int (3 : Int32))])) ?_ fun t_ k_ => XS.iconst X22.here hx rfl (hb hby at_41) k_
    refine own_pre (B := T22.setTop (mkF m 49 #[.val (.int x0), .val (.int x1), .val (.int (3 : Int32)), .val (.ref b18), .unset, .unset, .unset, .unset] [])) ?_ fun t_ k_ => XS.icmpYes X22.here hx rfl (pc0 := 42) (pc' := 49) rfl (hb hby at_42) rfl (tlt (by decide : ((3 : Int32) < (4 : Int32)))).1 (by decide) (by decide) k_
    refine own_pre (B := T22.setTop (mkF m 50 #[.val (.int x0), .val (.int x1), .val (.int (3 : Int32)), .val (.ref b18), .unset, .unset, .unset, .unset] [(.int (3 : Int32))])) ?_ fun t_ k_ => XS.iloadN X22.here hx rfl (hb hby at_49) rfl  k_
    refine own_pre (B := T22.setTop (mkF m 51 #[.val (.int x0), .val (.int x1), .val (.int (3 : Int32)), .val (.ref b18), .unset, .unset, .unset, .unset] [(.int (5 : Int32)), (.int (3 : Int32))])) ?_ fun t_ k_ => XS.iconst X22.here hx rfl (hb hby at_50) k_
    refine own_pre (B := T22.setTop (mkF m 58 #[.val (.int x0), .val (.int x1), .val (.int (3 : Int32)), .val (.ref b18), .unset, .unset, .unset, .unset] [])) ?_ fun t_ k_ => XS.icmpYes X22.here hx rfl (pc0 := 51) (pc' := 58) rfl (hb hby at_51) rfl (tlt (by decide : ((3 : Int32) < (5 : Int32)))).1 (by decide) (by decide) k_
    refine own_pre (B := T22.setTop (mkF m 59 #[.val (.int x0), .val (.int x1), .val (.int (3 : Int32)), .val (.ref b18), .unset, .unset, .unset, .unset] [(.int (3 : Int32))])) ?_ fun t_ k_ => XS.iloadN X22.here hx rfl (hb hby at_58) rfl  k_
    refine own_pre (B := T22.setTop (mkF m 61 #[.val (.int x0), .val (.int x1), .val (.int (3 : Int32)), .val (.ref b18), .unset, .unset, .unset, .unset] [(.int (6 : Int32)), (.int (3 : Int32))])) ?_ fun t_ k_ => XS.bipush X22.here hx rfl (hb hby at_59) k_
    refine own_pre (B := T22.setTop (mkF m 68 #[.val (.int x0), .val (.int x1), .val (.int (3 : Int32)), .val (.ref b18), .unset, .unset, .unset, .unset] [])) ?_ fun t_ k_ => XS.icmpYes X22.here hx rfl (pc0 := 61) (pc' := 68) rfl (hb hby at_61) rfl (tlt (by decide : ((3 : Int32) < (6 : Int32)))).1 (by decide) (by decide) k_
    refine own_pre (B := T22.setTop (mkF m 69 #[.val (.int x0), .val (.int x1), .val (.int (3 : Int32)), .val (.ref b18), .unset, .unset, .unset, .unset] [(.int (3 : Int32))])) ?_ fun t_ k_ => XS.iloadN X22.here hx rfl (hb hby at_68) rfl  k_
    refine own_pre (B := T22.setTop (mkF m 71 #[.val (.int x0), .val (.int x1), .val (.int (3 : Int32)), .val (.ref b18), .unset, .unset, .unset, .unset] [(.int (7 : Int32)), (.int (3 : Int32))])) ?_ fun t_ k_ => XS.bipush X22.here hx rfl (hb hby at_69) k_
    refine own_pre (B := T22.setTop (mkF m 78 #[.val (.int x0), .val (.int x1), .val (.int (3 : Int32)), .val (.ref b18), .unset, .unset, .unset, .unset] [])) ?_ fun t_ k_ => XS.icmpYes X22.here hx rfl (pc0 := 71) (pc' := 78) rfl (hb hby at_71) rfl (tlt (by decide : ((3 : Int32) < (7 : Int32)))).1 (by decide) (by decide) k_
    refine own_pre (B := T22.setTop (mkF m 79 #[.val (.int x0), .val (.int x1), .val (.int (3 : Int32)), .val (.ref b18), .unset, .unset, .unset, .unset] [(.ref b18)])) ?_ fun t_ k_ => XS.aloadN X22.here hx rfl (hb hby at_78) rfl rfl k_
    refine own_pre (B := T22.setTop (mkF m 80 #[.val (.int x0), .val (.int x1), .val (.int (3 : Int32)), .val (.ref b18), .unset, .unset, .unset, .unset] [(.int x1), (.ref b18)])) ?_ fun t_ k_ => XS.iloadN X22.here hx rfl (hb hby at_79) rfl  k_
    obtain ⟨cq23, kq23, q23a, q23b, q23c⟩ := isOf hZ rfl E22
    obtain ⟨_, _, ⟨T23, L23, k23, n23⟩, -, X23, ⟨Lc23, hQ23, l23, y23, z23⟩, st23⟩ := X22.virtualBack hx (y := (⟨"com/example/nimfield/nimfield/FewestCoins", "leastNeeding", "(I)J"⟩ : MethodName)) (z := (⟨"com/example/nimfield/nimfield/FewestCoins", "leastNeeding", "(I)J"⟩ : MethodName)) hown (mvT hZ (hw _ (List.mem_of_getElem? (i := 17) rfl))) (mvT hZ (hw _ (List.mem_of_getElem? (i := 18) rfl))) (notFace_of_selects (args := #[]) (mvT hZ (hw _ (List.mem_of_getElem? (i := 20) rfl)))) (mvT hZ (hw _ (List.mem_of_getElem? (i := 20) rfl))) (mvT hZ (hw _ (List.mem_of_getElem? (i := 19) rfl))) (by decide) (backOf (W := 0) (rm3 l Z a0 hw [] b18 x1 t sa tb 3 T22.heap n0 Z22 E22 Fb22 Ft22 Fs22 Fta22 At22 As22 Ab22 (by decide)) hZ (hw _ (List.mem_of_getElem? (i := 21) rfl)) (hw _ (List.mem_of_getElem? (i := 2) rfl)) (by decide) (by decide)) q23a q23c (g := (mkF m 80 #[.val (.int x0), .val (.int x1), .val (.int (3 : Int32)), .val (.ref b18), .unset, .unset, .unset, .unset] [(.int x1), (.ref b18)])) rfl (by rw [hml]; rfl) (Steps.refl _) (argsL := [(.int x1)]) (rest := []) (lenOf pd__I_J rfl) rfl (by show 2 * 0 + _ ≤ _; exact Nat.le_of_eq rfl) (hb hby at_80) (fun _ _ => ⟨rfl, rfl, (by decide : 4 + 4 ≤ _), (by decide : 38 + 11 ≤ _)⟩)
    dsimp only [Pt.U, Pt.locs, Pt.cells, Pt.slots] at X23 l23 y23 z23 st23 hQ23
    subst l23 y23 z23
    obtain ⟨rfl, Nq23, K23⟩ := hQ23
    have N23 := Fr.app N22 Nq23
    have Z23 := Nat.le_trans Z22 K23.1
    refine own_pre (B := T23.setTop (mkF m 83 #[.val (.int x0), .val (.int x1), .val (.int (3 : Int32)), .val (.ref b18), .unset, .unset, .unset, .unset] [(.long (own_need 3 x1))])) ?_ (fun t_ k_ => st23.trans k_)
    refine own_pre (B := T23.setTop (mkF m 85 #[.val (.int x0), .val (.int x1), .val (.int (3 : Int32)), .val (.ref b18), .val (.long (own_need 3 x1)), .second, .unset, .unset] [])) ?_ fun t_ k_ => XS.lstore X23.here hx rfl (hb hby at_83) rfl  (l' := #[.val (.int x0), .val (.int x1), .val (.int (3 : Int32)), .val (.ref b18), .val (.long (own_need 3 x1)), .second, .unset, .unset]) rfl k_
    refine own_pre (B := T23.setTop (mkF m 86 #[.val (.int x0), .val (.int x1), .val (.int (3 : Int32)), .val (.ref b18), .val (.long (own_need 3 x1)), .second, .unset, .unset] [(.int x1)])) ?_ fun t_ k_ => XS.iloadN X23.here hx rfl (hb hby at_85) rfl  k_
    by_cases h86_24 : (0 : Int32) < x1
    · skip
      refine own_pre (B := T23.setTop (mkF m 95 #[.val (.int x0), .val (.int x1), .val (.int (3 : Int32)), .val (.ref b18), .val (.long (own_need 3 x1)), .second, .unset, .unset] [])) ?_ fun t_ k_ => XS.ifYes X23.here hx rfl (pc0 := 86) (pc' := 95) rfl (hb hby at_86) rfl ((if0 _ _).trans (tlt h86_24).2.2.1) (by decide) (by decide) k_
      refine own_pre (B := T23.setTop (mkF m 96 #[.val (.int x0), .val (.int x1), .val (.int (3 : Int32)), .val (.ref b18), .val (.long (own_need 3 x1)), .second, .unset, .unset] [(.int x1)])) ?_ fun t_ k_ => XS.iloadN X23.here hx rfl (hb hby at_95) rfl  k_
      refine own_pre (B := T23.setTop (mkF m 97 #[.val (.int x0), .val (.int x1), .val (.int (3 : Int32)), .val (.ref b18), .val (.long (own_need 3 x1)), .second, .unset, .unset] [(.int (3 : Int32)), (.int x1)])) ?_ fun t_ k_ => XS.iloadN X23.here hx rfl (hb hby at_96) rfl  k_
      by_cases h97_25 : (3 : Int32) < x1
      · skip
        refine own_pre (B := T23.setTop (mkF m 110 #[.val (.int x0), .val (.int x1), .val (.int (3 : Int32)), .val (.ref b18), .val (.long (own_need 3 x1)), .second, .unset, .unset] [])) ?_ fun t_ k_ => XS.icmpYes X23.here hx rfl (pc0 := 97) (pc' := 110) rfl (hb hby at_97) rfl (tlt h97_25).2.2.1 (by decide) (by decide) k_
        refine own_pre (B := T23.setTop (mkF m 113 #[.val (.int x0), .val (.int x1), .val (.int (3 : Int32)), .val (.ref b18), .val (.long (own_need 3 x1)), .second, .unset, .unset] [(.long (-1 : Int64))])) ?_ (X23.ldc2Long hx hown (mvT hZ (hw _ (List.mem_of_getElem? (i := 37) rfl))) (g := (mkF m 110 #[.val (.int x0), .val (.int x1), .val (.int (3 : Int32)), .val (.ref b18), .val (.long (own_need 3 x1)), .second, .unset, .unset] [])) rfl (hb hby at_110))
        refine own_pre (B := T23.setTop (mkF m 115 #[.val (.int x0), .val (.int x1), .val (.int (3 : Int32)), .val (.ref b18), .val (.long (own_need 3 x1)), .second, .val (.long (-1 : Int64)), .second] [])) ?_ fun t_ k_ => XS.lstore X23.here hx rfl (hb hby at_113) rfl  (l' := #[.val (.int x0), .val (.int x1), .val (.int (3 : Int32)), .val (.ref b18), .val (.long (own_need 3 x1)), .second, .val (.long (-1 : Int64)), .second]) rfl k_
        refine own_pre (B := T23.setTop (mkF m 117 #[.val (.int x0), .val (.int x1), .val (.int (3 : Int32)), .val (.ref b18), .val (.long (own_need 3 x1)), .second, .val (.long (-1 : Int64)), .second] [(.long (own_need 3 x1))])) ?_ fun t_ k_ => XS.lload X23.here hx rfl (hb hby at_115) rfl  k_
        refine own_pre (B := T23.setTop (mkF m 119 #[.val (.int x0), .val (.int x1), .val (.int (3 : Int32)), .val (.ref b18), .val (.long (own_need 3 x1)), .second, .val (.long (-1 : Int64)), .second] [(.long (-1 : Int64)), (.long (own_need 3 x1))])) ?_ fun t_ k_ => XS.lload X23.here hx rfl (hb hby at_117) rfl  k_
        refine own_pre (B := T23.setTop (mkF m 120 #[.val (.int x0), .val (.int x1), .val (.int (3 : Int32)), .val (.ref b18), .val (.long (own_need 3 x1)), .second, .val (.long (-1 : Int64)), .second] [(.int (lcmpW (own_need 3 x1) (-1 : Int64)))])) ?_ fun t_ k_ => XS.lcmp X23.here hx rfl (hb hby at_119) rfl k_
        refine own_pre (B := T23.setTop (mkF m 123 #[.val (.int x0), .val (.int x1), .val (.int (3 : Int32)), .val (.ref b18), .val (.long (own_need 3 x1)), .second, .val (.long (-1 : Int64)), .second] [])) ?_ fun t_ k_ => XS.ifNo X23.here hx rfl (hb hby at_120) rfl ((if0 _ _).trans (teq ((lw_eq (own_need 3 x1) (-1 : Int64)).mpr (own_l2 3 (by decide) x1 h86_24 h97_25))).2) k_
        refine own_pre (B := T23.setTop (mkF m 124 #[.val (.int x0), .val (.int x1), .val (.int (3 : Int32)), .val (.ref b18), .val (.long (own_need 3 x1)), .second, .val (.long (-1 : Int64)), .second] [(.int (1 : Int32))])) ?_ fun t_ k_ => XS.iconst X23.here hx rfl (hb hby at_123) k_
        refine own_pre (B := T23.setTop (mkF m 128 #[.val (.int x0), .val (.int x1), .val (.int (3 : Int32)), .val (.ref b18), .val (.long (own_need 3 x1)), .second, .val (.long (-1 : Int64)), .second] [(.int (1 : Int32))])) ?_ fun t_ k_ => XS.goto X23.here hx rfl (pc0 := 124) (pc' := 128) rfl (hb hby at_124) (by decide) (by decide) k_
        refine own_retN X23 hx hlk (t := .boolean) (z' := (1 : Int32)) Bd.returns (by simp) (hb hby at_128) (by decide) ?_ (by decide) (by decide)
        exact ⟨rfl, N23⟩
      · skip
        refine own_pre (B := T23.setTop (mkF m 100 #[.val (.int x0), .val (.int x1), .val (.int (3 : Int32)), .val (.ref b18), .val (.long (own_need 3 x1)), .second, .unset, .unset] [])) ?_ fun t_ k_ => XS.icmpNo X23.here hx rfl (hb hby at_97) rfl (flt h97_25).2.2.1 k_
        refine own_pre (B := T23.setTop (mkF m 101 #[.val (.int x0), .val (.int x1), .val (.int (3 : Int32)), .val (.ref b18), .val (.long (own_need 3 x1)), .second, .unset, .unset] [(.long (1 : Int64))])) ?_ fun t_ k_ => XS.lconst X23.here hx rfl (hb hby at_100) k_
        refine own_pre (B := T23.setTop (mkF m 102 #[.val (.int x0), .val (.int x1), .val (.int (3 : Int32)), .val (.ref b18), .val (.long (own_need 3 x1)), .second, .unset, .unset] [(.int x1), (.long (1 : Int64))])) ?_ fun t_ k_ => XS.iloadN X23.here hx rfl (hb hby at_101) rfl  k_
        refine own_pre (B := T23.setTop (mkF m 103 #[.val (.int x0), .val (.int x1), .val (.int (3 : Int32)), .val (.ref b18), .val (.long (own_need 3 x1)), .second, .unset, .unset] [(.long ((1 : Int64) <<< (x1 &&& 0x3f).toInt64))])) ?_ fun t_ k_ => XS.lshl X23.here hx rfl (hb hby at_102) rfl k_
        refine own_pre (B := T23.setTop (mkF m 104 #[.val (.int x0), .val (.int x1), .val (.int (3 : Int32)), .val (.ref b18), .val (.long (own_need 3 x1)), .second, .unset, .unset] [(.long (1 : Int64)), (.long ((1 : Int64) <<< (x1 &&& 0x3f).toInt64))])) ?_ fun t_ k_ => XS.lconst X23.here hx rfl (hb hby at_103) k_
        refine own_pre (B := T23.setTop (mkF m 105 #[.val (.int x0), .val (.int x1), .val (.int (3 : Int32)), .val (.ref b18), .val (.long (own_need 3 x1)), .second, .unset, .unset] [(.long (((1 : Int64) <<< (x1 &&& 0x3f).toInt64) - (1 : Int64)))])) ?_ fun t_ k_ => XS.lsub X23.here hx rfl (hb hby at_104) rfl k_
        refine own_pre (B := T23.setTop (mkF m 107 #[.val (.int x0), .val (.int x1), .val (.int (3 : Int32)), .val (.ref b18), .val (.long (own_need 3 x1)), .second, .val (.long (((1 : Int64) <<< (x1 &&& 0x3f).toInt64) - (1 : Int64))), .second] [])) ?_ fun t_ k_ => XS.lstore X23.here hx rfl (hb hby at_105) rfl  (l' := #[.val (.int x0), .val (.int x1), .val (.int (3 : Int32)), .val (.ref b18), .val (.long (own_need 3 x1)), .second, .val (.long (((1 : Int64) <<< (x1 &&& 0x3f).toInt64) - (1 : Int64))), .second]) rfl k_
        refine own_pre (B := T23.setTop (mkF m 115 #[.val (.int x0), .val (.int x1), .val (.int (3 : Int32)), .val (.ref b18), .val (.long (own_need 3 x1)), .second, .val (.long (((1 : Int64) <<< (x1 &&& 0x3f).toInt64) - (1 : Int64))), .second] [])) ?_ fun t_ k_ => XS.goto X23.here hx rfl (pc0 := 107) (pc' := 115) rfl (hb hby at_107) (by decide) (by decide) k_
        refine own_pre (B := T23.setTop (mkF m 117 #[.val (.int x0), .val (.int x1), .val (.int (3 : Int32)), .val (.ref b18), .val (.long (own_need 3 x1)), .second, .val (.long (((1 : Int64) <<< (x1 &&& 0x3f).toInt64) - (1 : Int64))), .second] [(.long (own_need 3 x1))])) ?_ fun t_ k_ => XS.lload X23.here hx rfl (hb hby at_115) rfl  k_
        refine own_pre (B := T23.setTop (mkF m 119 #[.val (.int x0), .val (.int x1), .val (.int (3 : Int32)), .val (.ref b18), .val (.long (own_need 3 x1)), .second, .val (.long (((1 : Int64) <<< (x1 &&& 0x3f).toInt64) - (1 : Int64))), .second] [(.long (((1 : Int64) <<< (x1 &&& 0x3f).toInt64) - (1 : Int64))), (.long (own_need 3 x1))])) ?_ fun t_ k_ => XS.lload X23.here hx rfl (hb hby at_117) rfl  k_
        refine own_pre (B := T23.setTop (mkF m 120 #[.val (.int x0), .val (.int x1), .val (.int (3 : Int32)), .val (.ref b18), .val (.long (own_need 3 x1)), .second, .val (.long (((1 : Int64) <<< (x1 &&& 0x3f).toInt64) - (1 : Int64))), .second] [(.int (lcmpW (own_need 3 x1) (((1 : Int64) <<< (x1 &&& 0x3f).toInt64) - (1 : Int64))))])) ?_ fun t_ k_ => XS.lcmp X23.here hx rfl (hb hby at_119) rfl k_
        refine own_pre (B := T23.setTop (mkF m 123 #[.val (.int x0), .val (.int x1), .val (.int (3 : Int32)), .val (.ref b18), .val (.long (own_need 3 x1)), .second, .val (.long (((1 : Int64) <<< (x1 &&& 0x3f).toInt64) - (1 : Int64))), .second] [])) ?_ fun t_ k_ => XS.ifNo X23.here hx rfl (hb hby at_120) rfl ((if0 _ _).trans (teq ((lw_eq (own_need 3 x1) (((1 : Int64) <<< (x1 &&& 0x3f).toInt64) - (1 : Int64))).mpr (own_l1 3 (by decide) x1 h86_24 h97_25))).2) k_
        refine own_pre (B := T23.setTop (mkF m 124 #[.val (.int x0), .val (.int x1), .val (.int (3 : Int32)), .val (.ref b18), .val (.long (own_need 3 x1)), .second, .val (.long (((1 : Int64) <<< (x1 &&& 0x3f).toInt64) - (1 : Int64))), .second] [(.int (1 : Int32))])) ?_ fun t_ k_ => XS.iconst X23.here hx rfl (hb hby at_123) k_
        refine own_pre (B := T23.setTop (mkF m 128 #[.val (.int x0), .val (.int x1), .val (.int (3 : Int32)), .val (.ref b18), .val (.long (own_need 3 x1)), .second, .val (.long (((1 : Int64) <<< (x1 &&& 0x3f).toInt64) - (1 : Int64))), .second] [(.int (1 : Int32))])) ?_ fun t_ k_ => XS.goto X23.here hx rfl (pc0 := 124) (pc' := 128) rfl (hb hby at_124) (by decide) (by decide) k_
        refine own_retN X23 hx hlk (t := .boolean) (z' := (1 : Int32)) Bd.returns (by simp) (hb hby at_128) (by decide) ?_ (by decide) (by decide)
        exact ⟨rfl, N23⟩
    · skip
      refine own_pre (B := T23.setTop (mkF m 89 #[.val (.int x0), .val (.int x1), .val (.int (3 : Int32)), .val (.ref b18), .val (.long (own_need 3 x1)), .second, .unset, .unset] [])) ?_ fun t_ k_ => XS.ifNo X23.here hx rfl (hb hby at_86) rfl ((if0 _ _).trans (flt h86_24).2.2.1) k_
      refine own_pre (B := T23.setTop (mkF m 90 #[.val (.int x0), .val (.int x1), .val (.int (3 : Int32)), .val (.ref b18), .val (.long (own_need 3 x1)), .second, .unset, .unset] [(.long (0 : Int64))])) ?_ fun t_ k_ => XS.lconst X23.here hx rfl (hb hby at_89) k_
      refine own_pre (B := T23.setTop (mkF m 92 #[.val (.int x0), .val (.int x1), .val (.int (3 : Int32)), .val (.ref b18), .val (.long (own_need 3 x1)), .second, .val (.long (0 : Int64)), .second] [])) ?_ fun t_ k_ => XS.lstore X23.here hx rfl (hb hby at_90) rfl  (l' := #[.val (.int x0), .val (.int x1), .val (.int (3 : Int32)), .val (.ref b18), .val (.long (own_need 3 x1)), .second, .val (.long (0 : Int64)), .second]) rfl k_
      refine own_pre (B := T23.setTop (mkF m 115 #[.val (.int x0), .val (.int x1), .val (.int (3 : Int32)), .val (.ref b18), .val (.long (own_need 3 x1)), .second, .val (.long (0 : Int64)), .second] [])) ?_ fun t_ k_ => XS.goto X23.here hx rfl (pc0 := 92) (pc' := 115) rfl (hb hby at_92) (by decide) (by decide) k_
      refine own_pre (B := T23.setTop (mkF m 117 #[.val (.int x0), .val (.int x1), .val (.int (3 : Int32)), .val (.ref b18), .val (.long (own_need 3 x1)), .second, .val (.long (0 : Int64)), .second] [(.long (own_need 3 x1))])) ?_ fun t_ k_ => XS.lload X23.here hx rfl (hb hby at_115) rfl  k_
      refine own_pre (B := T23.setTop (mkF m 119 #[.val (.int x0), .val (.int x1), .val (.int (3 : Int32)), .val (.ref b18), .val (.long (own_need 3 x1)), .second, .val (.long (0 : Int64)), .second] [(.long (0 : Int64)), (.long (own_need 3 x1))])) ?_ fun t_ k_ => XS.lload X23.here hx rfl (hb hby at_117) rfl  k_
      refine own_pre (B := T23.setTop (mkF m 120 #[.val (.int x0), .val (.int x1), .val (.int (3 : Int32)), .val (.ref b18), .val (.long (own_need 3 x1)), .second, .val (.long (0 : Int64)), .second] [(.int (lcmpW (own_need 3 x1) (0 : Int64)))])) ?_ fun t_ k_ => XS.lcmp X23.here hx rfl (hb hby at_119) rfl k_
      refine own_pre (B := T23.setTop (mkF m 123 #[.val (.int x0), .val (.int x1), .val (.int (3 : Int32)), .val (.ref b18), .val (.long (own_need 3 x1)), .second, .val (.long (0 : Int64)), .second] [])) ?_ fun t_ k_ => XS.ifNo X23.here hx rfl (hb hby at_120) rfl ((if0 _ _).trans (teq ((lw_eq (own_need 3 x1) (0 : Int64)).mpr (own_l0 3 (by decide) x1 h86_24))).2) k_
      refine own_pre (B := T23.setTop (mkF m 124 #[.val (.int x0), .val (.int x1), .val (.int (3 : Int32)), .val (.ref b18), .val (.long (own_need 3 x1)), .second, .val (.long (0 : Int64)), .second] [(.int (1 : Int32))])) ?_ fun t_ k_ => XS.iconst X23.here hx rfl (hb hby at_123) k_
      refine own_pre (B := T23.setTop (mkF m 128 #[.val (.int x0), .val (.int x1), .val (.int (3 : Int32)), .val (.ref b18), .val (.long (own_need 3 x1)), .second, .val (.long (0 : Int64)), .second] [(.int (1 : Int32))])) ?_ fun t_ k_ => XS.goto X23.here hx rfl (pc0 := 124) (pc' := 128) rfl (hb hby at_124) (by decide) (by decide) k_
      refine own_retN X23 hx hlk (t := .boolean) (z' := (1 : Int32)) Bd.returns (by simp) (hb hby at_128) (by decide) ?_ (by decide) (by decide)
      exact ⟨rfl, N23⟩
  · skip
    obtain ⟨T26, h26, X26, e26, E26, A26, D26, -, st26⟩ := newO X0 hx hZ hown (hw _ (List.mem_of_getElem? (i := 0) rfl)) (hw _ (List.mem_of_getElem? (i := 1) rfl)) (hw _ (List.mem_of_getElem? (i := 2) rfl)) e0 (g := (mkF m 5 #[.val (.int x0), .val (.int x1), .val (.int (4 : Int32)), .unset, .unset, .unset, .unset, .unset] [])) rfl (hb hby at_5) (by decide) (by decide)
    obtain ⟨b26, g26⟩ : ∃ z, z = h0.size := ⟨_, rfl⟩
    rw [← g26] at A26 D26 st26
    have Z26 : n0 ≤ h26.size := Nat.le_trans Z0 E26.1
    have gz26 : n0 ≤ b26 := Nat.le_trans Z0 (Nat.le_of_eq g26.symm)
    have F26_typeOf : Fld Z h26 b26 "com/example/nimfield/nimfield/FewestCoins" "typeOf" "[I" .null := D26 (Or.inr (hw _ (List.mem_of_getElem? (i := 11) rfl))) (ty := (.array .int)) (by decide)
    have F26_sizes : Fld Z h26 b26 "com/example/nimfield/nimfield/FewestCoins" "sizes" "[I" .null := D26 (Or.inl (hw _ (List.mem_of_getElem? (i := 13) rfl))) (ty := (.array .int)) (by decide)
    have F26_table : Fld Z h26 b26 "com/example/nimfield/nimfield/FewestCoins" "table" "[B" .null := D26 (Or.inl (hw _ (List.mem_of_getElem? (i := 16) rfl))) (ty := (.array .byte)) (by decide)
    have F26_bits : Fld Z h26 b26 "com/example/nimfield/nimfield/FewestCoins" "bits" "I" (.int (0 : Int32)) := D26 (Or.inl (hw _ (List.mem_of_getElem? (i := 31) rfl))) (ty := .int) (by decide)
    refine own_pre (B := T26.setTop (mkF m 8 #[.val (.int x0), .val (.int x1), .val (.int (4 : Int32)), .unset, .unset, .unset, .unset, .unset] [(.ref b26)])) ?_ st26
    refine own_pre (B := T26.setTop (mkF m 9 #[.val (.int x0), .val (.int x1), .val (.int (4 : Int32)), .unset, .unset, .unset, .unset, .unset] [(.ref b26), (.ref b26)])) ?_ fun t_ k_ => XS.dup X26.here hx rfl (hb hby at_8) rfl rfl k_
    obtain ⟨_, _, ⟨T27, L27, k27, n27⟩, -, X27, ⟨Lc27, hQ27, l27, y27, z27⟩, st27⟩ := X26.specialBack hx (y := (⟨"com/example/nimfield/nimfield/FewestCoins", "<init>", "()V"⟩ : MethodName)) rfl hown (mvT hZ (hw _ (List.mem_of_getElem? (i := 3) rfl))) (mvT hZ (hw _ (List.mem_of_getElem? (i := 4) rfl))) (mvT hZ (hw _ (List.mem_of_getElem? (i := 5) rfl))) (by decide) (backOf (W := 1) (rm1 l Z a0 hw [] b26 h26 n0 Z26 A26 F26_bits F26_typeOf F26_sizes F26_table gz26) hZ (hw _ (List.mem_of_getElem? (i := 5) rfl)) (hw _ (List.mem_of_getElem? (i := 2) rfl)) (by decide) (by decide)) (g := (mkF m 9 #[.val (.int x0), .val (.int x1), .val (.int (4 : Int32)), .unset, .unset, .unset, .unset, .unset] [(.ref b26), (.ref b26)])) rfl (by rw [hml]; rfl) (Steps.refl _) (a := b26) (argsL := []) (rest := [(.ref b26)]) (lenOf pd___V rfl) rfl (by show 2 * 0 + _ ≤ _; exact Nat.le_of_eq rfl) (hb hby at_9) (fun _ _ => ⟨rfl, e26, (by decide : 1 + 3 ≤ _), (by decide : 4 + 34 ≤ _)⟩)
    dsimp only [Pt.U, Pt.locs, Pt.cells, Pt.slots] at X27 l27 y27 z27 st27 hQ27
    subst l27 y27 z27
    obtain ⟨rfl, Nq27, K27, t, sa, tb, E27, ⟨gt, gs, gb, n1, n2, n3, n4, n5, n6⟩, Fb27, Ft27, Fs27, Fta27, At27, As27, Ab27⟩ := hQ27
    have N27 := Fr.app N0 Nq27
    have Z27 := Nat.le_trans Z26 K27.1
    refine own_pre (B := T27.setTop (mkF m 12 #[.val (.int x0), .val (.int x1), .val (.int (4 : Int32)), .unset, .unset, .unset, .unset, .unset] [(.ref b26)])) ?_ (fun t_ k_ => st27.trans k_)
    refine own_pre (B := T27.setTop (mkF m 13 #[.val (.int x0), .val (.int x1), .val (.int (4 : Int32)), .val (.ref b26), .unset, .unset, .unset, .unset] [])) ?_ fun t_ k_ => XS.astoreN X27.here hx rfl (hb hby at_12) rfl rfl (l' := #[.val (.int x0), .val (.int x1), .val (.int (4 : Int32)), .val (.ref b26), .unset, .unset, .unset, .unset]) rfl k_
    refine own_pre (B := T27.setTop (mkF m 14 #[.val (.int x0), .val (.int x1), .val (.int (4 : Int32)), .val (.ref b26), .unset, .unset, .unset, .unset] [(.int (4 : Int32))])) ?_ fun t_ k_ => XS.iloadN X27.here hx rfl (hb hby at_13) rfl  k_
    refine own_pre (B := T27.setTop (mkF m 15 #[.val (.int x0), .val (.int x1), .val (.int (4 : Int32)), .val (.ref b26), .unset, .unset, .unset, .unset] [(.int (1 : Int32)), (.int (4 : Int32))])) ?_ fun t_ k_ => XS.iconst X27.here hx rfl (hb hby at_14) k_
    refine own_pre (B := T27.setTop (mkF m 18 #[.val (.int x0), .val (.int x1), .val (.int (4 : Int32)), .val (.ref b26), .unset, .unset, .unset, .unset] [])) ?_ fun t_ k_ => XS.icmpNo X27.here hx rfl (hb hby at_15) rfl (flt (by decide : ¬ ((4 : Int32) < (1 : Int32)))).1 k_
    refine own_pre (B := T27.setTop (mkF m 19 #[.val (.int x0), .val (.int x1), .val (.int (4 : Int32)), .val (.ref b26), .unset, .unset, .unset, .unset] [(.ref b26)])) ?_ fun t_ k_ => XS.aloadN X27.here hx rfl (hb hby at_18) rfl rfl k_
    obtain ⟨cq28, kq28, q28a, q28b, q28c⟩ := isOf hZ rfl E27
    obtain ⟨_, _, ⟨T28, L28, k28, n28⟩, -, X28, ⟨Lc28, hQ28, l28, y28, z28⟩, st28⟩ := X27.virtualBack hx (y := (⟨"com/example/nimfield/nimfield/FewestCoins", "addCheckCoin", "()V"⟩ : MethodName)) (z := (⟨"com/example/nimfield/nimfield/FewestCoins", "addCheckCoin", "()V"⟩ : MethodName)) hown (mvT hZ (hw _ (List.mem_of_getElem? (i := 38) rfl))) (mvT hZ (hw _ (List.mem_of_getElem? (i := 39) rfl))) (notFace_of_selects (args := #[]) (mvT hZ (hw _ (List.mem_of_getElem? (i := 41) rfl)))) (mvT hZ (hw _ (List.mem_of_getElem? (i := 41) rfl))) (mvT hZ (hw _ (List.mem_of_getElem? (i := 40) rfl))) (by decide) (backOf (W := 0) (rm6 l Z a0 hw [] b26 t sa tb 0 T27.heap n0 Z27 E27 Fb27 Ft27 Fs27 Fta27 At27 As27 Ab27 n1 n2 n3 n4 n5 n6 gz26 gt gs (by decide)) hZ (hw _ (List.mem_of_getElem? (i := 42) rfl)) (hw _ (List.mem_of_getElem? (i := 2) rfl)) (by decide) (by decide)) q28a q28c (g := (mkF m 19 #[.val (.int x0), .val (.int x1), .val (.int (4 : Int32)), .val (.ref b26), .unset, .unset, .unset, .unset] [(.ref b26)])) rfl (by rw [hml]; rfl) (Steps.refl _) (argsL := []) (rest := []) (lenOf pd___V rfl) rfl (by show 2 * 0 + _ ≤ _; exact Nat.le_of_eq rfl) (hb hby at_19) (fun _ _ => ⟨rfl, rfl, (by decide : 4 + 0 ≤ _), (by decide : 38 + 0 ≤ _)⟩)
    dsimp only [Pt.U, Pt.locs, Pt.cells, Pt.slots] at X28 l28 y28 z28 st28 hQ28
    subst l28 y28 z28
    obtain ⟨rfl, Nq28, K28, E28, Fb28, Ft28, Fs28, Fta28, At28, As28, Ab28⟩ := hQ28
    have N28 := Fr.app N27 Nq28
    have Z28 := Nat.le_trans Z27 K28.1
    refine own_pre (B := T28.setTop (mkF m 22 #[.val (.int x0), .val (.int x1), .val (.int (4 : Int32)), .val (.ref b26), .unset, .unset, .unset, .unset] [])) ?_ (fun t_ k_ => st28.trans k_)
    refine own_pre (B := T28.setTop (mkF m 23 #[.val (.int x0), .val (.int x1), .val (.int (4 : Int32)), .val (.ref b26), .unset, .unset, .unset, .unset] [(.int (4 : Int32))])) ?_ fun t_ k_ => XS.iloadN X28.here hx rfl (hb hby at_22) rfl  k_
    refine own_pre (B := T28.setTop (mkF m 24 #[.val (.int x0), .val (.int x1), .val (.int (4 : Int32)), .val (.ref b26), .unset, .unset, .unset, .unset] [(.int (2 : Int32)), (.int (4 : Int32))])) ?_ fun t_ k_ => XS.iconst X28.here hx rfl (hb hby at_23) k_
    refine own_pre (B := T28.setTop (mkF m 27 #[.val (.int x0), .val (.int x1), .val (.int (4 : Int32)), .val (.ref b26), .unset, .unset, .unset, .unset] [])) ?_ fun t_ k_ => XS.icmpNo X28.here hx rfl (hb hby at_24) rfl (flt (by decide : ¬ ((4 : Int32) < (2 : Int32)))).1 k_
    refine own_pre (B := T28.setTop (mkF m 28 #[.val (.int x0), .val (.int x1), .val (.int (4 : Int32)), .val (.ref b26), .unset, .unset, .unset, .unset] [(.ref b26)])) ?_ fun t_ k_ => XS.aloadN X28.here hx rfl (hb hby at_27) rfl rfl k_
    obtain ⟨cq29, kq29, q29a, q29b, q29c⟩ := isOf hZ rfl E28
    obtain ⟨_, _, ⟨T29, L29, k29, n29⟩, -, X29, ⟨Lc29, hQ29, l29, y29, z29⟩, st29⟩ := X28.virtualBack hx (y := (⟨"com/example/nimfield/nimfield/FewestCoins", "addCheckCoin", "()V"⟩ : MethodName)) (z := (⟨"com/example/nimfield/nimfield/FewestCoins", "addCheckCoin", "()V"⟩ : MethodName)) hown (mvT hZ (hw _ (List.mem_of_getElem? (i := 38) rfl))) (mvT hZ (hw _ (List.mem_of_getElem? (i := 39) rfl))) (notFace_of_selects (args := #[]) (mvT hZ (hw _ (List.mem_of_getElem? (i := 41) rfl)))) (mvT hZ (hw _ (List.mem_of_getElem? (i := 41) rfl))) (mvT hZ (hw _ (List.mem_of_getElem? (i := 40) rfl))) (by decide) (backOf (W := 0) (rm6 l Z a0 hw [] b26 t sa tb 1 T28.heap n0 Z28 E28 Fb28 Ft28 Fs28 Fta28 At28 As28 Ab28 n1 n2 n3 n4 n5 n6 gz26 gt gs (by decide)) hZ (hw _ (List.mem_of_getElem? (i := 42) rfl)) (hw _ (List.mem_of_getElem? (i := 2) rfl)) (by decide) (by decide)) q29a q29c (g := (mkF m 28 #[.val (.int x0), .val (.int x1), .val (.int (4 : Int32)), .val (.ref b26), .unset, .unset, .unset, .unset] [(.ref b26)])) rfl (by rw [hml]; rfl) (Steps.refl _) (argsL := []) (rest := []) (lenOf pd___V rfl) rfl (by show 2 * 0 + _ ≤ _; exact Nat.le_of_eq rfl) (hb hby at_28) (fun _ _ => ⟨rfl, rfl, (by decide : 4 + 0 ≤ _), (by decide : 38 + 0 ≤ _)⟩)
    dsimp only [Pt.U, Pt.locs, Pt.cells, Pt.slots] at X29 l29 y29 z29 st29 hQ29
    subst l29 y29 z29
    obtain ⟨rfl, Nq29, K29, E29, Fb29, Ft29, Fs29, Fta29, At29, As29, Ab29⟩ := hQ29
    have N29 := Fr.app N28 Nq29
    have Z29 := Nat.le_trans Z28 K29.1
    refine own_pre (B := T29.setTop (mkF m 31 #[.val (.int x0), .val (.int x1), .val (.int (4 : Int32)), .val (.ref b26), .unset, .unset, .unset, .unset] [])) ?_ (fun t_ k_ => st29.trans k_)
    refine own_pre (B := T29.setTop (mkF m 32 #[.val (.int x0), .val (.int x1), .val (.int (4 : Int32)), .val (.ref b26), .unset, .unset, .unset, .unset] [(.int (4 : Int32))])) ?_ fun t_ k_ => XS.iloadN X29.here hx rfl (hb hby at_31) rfl  k_
    refine own_pre (B := T29.setTop (mkF m 33 #[.val (.int x0), .val (.int x1), .val (.int (4 : Int32)), .val (.ref b26), .unset, .unset, .unset, .unset] [(.int (3 : Int32)), (.int (4 : Int32))])) ?_ fun t_ k_ => XS.iconst X29.here hx rfl (hb hby at_32) k_
    refine own_pre (B := T29.setTop (mkF m 36 #[.val (.int x0), .val (.int x1), .val (.int (4 : Int32)), .val (.ref b26), .unset, .unset, .unset, .unset] [])) ?_ fun t_ k_ => XS.icmpNo X29.here hx rfl (hb hby at_33) rfl (flt (by decide : ¬ ((4 : Int32) < (3 : Int32)))).1 k_
    refine own_pre (B := T29.setTop (mkF m 37 #[.val (.int x0), .val (.int x1), .val (.int (4 : Int32)), .val (.ref b26), .unset, .unset, .unset, .unset] [(.ref b26)])) ?_ fun t_ k_ => XS.aloadN X29.here hx rfl (hb hby at_36) rfl rfl k_
    obtain ⟨cq30, kq30, q30a, q30b, q30c⟩ := isOf hZ rfl E29
    obtain ⟨_, _, ⟨T30, L30, k30, n30⟩, -, X30, ⟨Lc30, hQ30, l30, y30, z30⟩, st30⟩ := X29.virtualBack hx (y := (⟨"com/example/nimfield/nimfield/FewestCoins", "addCheckCoin", "()V"⟩ : MethodName)) (z := (⟨"com/example/nimfield/nimfield/FewestCoins", "addCheckCoin", "()V"⟩ : MethodName)) hown (mvT hZ (hw _ (List.mem_of_getElem? (i := 38) rfl))) (mvT hZ (hw _ (List.mem_of_getElem? (i := 39) rfl))) (notFace_of_selects (args := #[]) (mvT hZ (hw _ (List.mem_of_getElem? (i := 41) rfl)))) (mvT hZ (hw _ (List.mem_of_getElem? (i := 41) rfl))) (mvT hZ (hw _ (List.mem_of_getElem? (i := 40) rfl))) (by decide) (backOf (W := 0) (rm6 l Z a0 hw [] b26 t sa tb 2 T29.heap n0 Z29 E29 Fb29 Ft29 Fs29 Fta29 At29 As29 Ab29 n1 n2 n3 n4 n5 n6 gz26 gt gs (by decide)) hZ (hw _ (List.mem_of_getElem? (i := 42) rfl)) (hw _ (List.mem_of_getElem? (i := 2) rfl)) (by decide) (by decide)) q30a q30c (g := (mkF m 37 #[.val (.int x0), .val (.int x1), .val (.int (4 : Int32)), .val (.ref b26), .unset, .unset, .unset, .unset] [(.ref b26)])) rfl (by rw [hml]; rfl) (Steps.refl _) (argsL := []) (rest := []) (lenOf pd___V rfl) rfl (by show 2 * 0 + _ ≤ _; exact Nat.le_of_eq rfl) (hb hby at_37) (fun _ _ => ⟨rfl, rfl, (by decide : 4 + 0 ≤ _), (by decide : 38 + 0 ≤ _)⟩)
    dsimp only [Pt.U, Pt.locs, Pt.cells, Pt.slots] at X30 l30 y30 z30 st30 hQ30
    subst l30 y30 z30
    obtain ⟨rfl, Nq30, K30, E30, Fb30, Ft30, Fs30, Fta30, At30, As30, Ab30⟩ := hQ30
    have N30 := Fr.app N29 Nq30
    have Z30 := Nat.le_trans Z29 K30.1
    refine own_pre (B := T30.setTop (mkF m 40 #[.val (.int x0), .val (.int x1), .val (.int (4 : Int32)), .val (.ref b26), .unset, .unset, .unset, .unset] [])) ?_ (fun t_ k_ => st30.trans k_)
    refine own_pre (B := T30.setTop (mkF m 41 #[.val (.int x0), .val (.int x1), .val (.int (4 : Int32)), .val (.ref b26), .unset, .unset, .unset, .unset] [(.int (4 : Int32))])) ?_ fun t_ k_ => XS.iloadN X30.here hx rfl (hb hby at_40) rfl  k_
    refine own_pre (B := T30.setTop (mkF m 42 #[.val (.int x0), .val (.int x1), .val (.int (4 : Int32)), .val (.ref b26), .unset, .unset, .unset, .unset] [(.int (4 : Int32)), (.int (4 : Int32))])) ?_ fun t_ k_ => XS.iconst X30.here hx rfl (hb hby at_41) k_
    refine own_pre (B := T30.setTop (mkF m 45 #[.val (.int x0), .val (.int x1), .val (.int (4 : Int32)), .val (.ref b26), .unset, .unset, .unset, .unset] [])) ?_ fun t_ k_ => XS.icmpNo X30.here hx rfl (hb hby at_42) rfl (flt (by decide : ¬ ((4 : Int32) < (4 : Int32)))).1 k_
    refine own_pre (B := T30.setTop (mkF m 46 #[.val (.int x0), .val (.int x1), .val (.int (4 : Int32)), .val (.ref b26), .unset, .unset, .unset, .unset] [(.ref b26)])) ?_ fun t_ k_ => XS.aloadN X30.here hx rfl (hb hby at_45) rfl rfl k_
    obtain ⟨cq31, kq31, q31a, q31b, q31c⟩ := isOf hZ rfl E30
    obtain ⟨_, _, ⟨T31, L31, k31, n31⟩, -, X31, ⟨Lc31, hQ31, l31, y31, z31⟩, st31⟩ := X30.virtualBack hx (y := (⟨"com/example/nimfield/nimfield/FewestCoins", "addCheckCoin", "()V"⟩ : MethodName)) (z := (⟨"com/example/nimfield/nimfield/FewestCoins", "addCheckCoin", "()V"⟩ : MethodName)) hown (mvT hZ (hw _ (List.mem_of_getElem? (i := 38) rfl))) (mvT hZ (hw _ (List.mem_of_getElem? (i := 39) rfl))) (notFace_of_selects (args := #[]) (mvT hZ (hw _ (List.mem_of_getElem? (i := 41) rfl)))) (mvT hZ (hw _ (List.mem_of_getElem? (i := 41) rfl))) (mvT hZ (hw _ (List.mem_of_getElem? (i := 40) rfl))) (by decide) (backOf (W := 0) (rm6 l Z a0 hw [] b26 t sa tb 3 T30.heap n0 Z30 E30 Fb30 Ft30 Fs30 Fta30 At30 As30 Ab30 n1 n2 n3 n4 n5 n6 gz26 gt gs (by decide)) hZ (hw _ (List.mem_of_getElem? (i := 42) rfl)) (hw _ (List.mem_of_getElem? (i := 2) rfl)) (by decide) (by decide)) q31a q31c (g := (mkF m 46 #[.val (.int x0), .val (.int x1), .val (.int (4 : Int32)), .val (.ref b26), .unset, .unset, .unset, .unset] [(.ref b26)])) rfl (by rw [hml]; rfl) (Steps.refl _) (argsL := []) (rest := []) (lenOf pd___V rfl) rfl (by show 2 * 0 + _ ≤ _; exact Nat.le_of_eq rfl) (hb hby at_46) (fun _ _ => ⟨rfl, rfl, (by decide : 4 + 0 ≤ _), (by decide : 38 + 0 ≤ _)⟩)
    dsimp only [Pt.U, Pt.locs, Pt.cells, Pt.slots] at X31 l31 y31 z31 st31 hQ31
    subst l31 y31 z31
    obtain ⟨rfl, Nq31, K31, E31, Fb31, Ft31, Fs31, Fta31, At31, As31, Ab31⟩ := hQ31
    have N31 := Fr.app N30 Nq31
    have Z31 := Nat.le_trans Z30 K31.1
    refine own_pre (B := T31.setTop (mkF m 49 #[.val (.int x0), .val (.int x1), .val (.int (4 : Int32)), .val (.ref b26), .unset, .unset, .unset, .unset] [])) ?_ (fun t_ k_ => st31.trans k_)
    refine own_pre (B := T31.setTop (mkF m 50 #[.val (.int x0), .val (.int x1), .val (.int (4 : Int32)), .val (.ref b26), .unset, .unset, .unset, .unset] [(.int (4 : Int32))])) ?_ fun t_ k_ => XS.iloadN X31.here hx rfl (hb hby at_49) rfl  k_
    refine own_pre (B := T31.setTop (mkF m 51 #[.val (.int x0), .val (.int x1), .val (.int (4 : Int32)), .val (.ref b26), .unset, .unset, .unset, .unset] [(.int (5 : Int32)), (.int (4 : Int32))])) ?_ fun t_ k_ => XS.iconst X31.here hx rfl (hb hby at_50) k_
    refine own_pre (B := T31.setTop (mkF m 58 #[.val (.int x0), .val (.int x1), .val (.int (4 : Int32)), .val (.ref b26), .unset, .unset, .unset, .unset] [])) ?_ fun t_ k_ => XS.icmpYes X31.here hx rfl (pc0 := 51) (pc' := 58) rfl (hb hby at_51) rfl (tlt (by decide : ((4 : Int32) < (5 : Int32)))).1 (by decide) (by decide) k_
    refine own_pre (B := T31.setTop (mkF m 59 #[.val (.int x0), .val (.int x1), .val (.int (4 : Int32)), .val (.ref b26), .unset, .unset, .unset, .unset] [(.int (4 : Int32))])) ?_ fun t_ k_ => XS.iloadN X31.here hx rfl (hb hby at_58) rfl  k_
    refine own_pre (B := T31.setTop (mkF m 61 #[.val (.int x0), .val (.int x1), .val (.int (4 : Int32)), .val (.ref b26), .unset, .unset, .unset, .unset] [(.int (6 : Int32)), (.int (4 : Int32))])) ?_ fun t_ k_ => XS.bipush X31.here hx rfl (hb hby at_59) k_
    refine own_pre (B := T31.setTop (mkF m 68 #[.val (.int x0), .val (.int x1), .val (.int (4 : Int32)), .val (.ref b26), .unset, .unset, .unset, .unset] [])) ?_ fun t_ k_ => XS.icmpYes X31.here hx rfl (pc0 := 61) (pc' := 68) rfl (hb hby at_61) rfl (tlt (by decide : ((4 : Int32) < (6 : Int32)))).1 (by decide) (by decide) k_
    refine own_pre (B := T31.setTop (mkF m 69 #[.val (.int x0), .val (.int x1), .val (.int (4 : Int32)), .val (.ref b26), .unset, .unset, .unset, .unset] [(.int (4 : Int32))])) ?_ fun t_ k_ => XS.iloadN X31.here hx rfl (hb hby at_68) rfl  k_
    refine own_pre (B := T31.setTop (mkF m 71 #[.val (.int x0), .val (.int x1), .val (.int (4 : Int32)), .val (.ref b26), .unset, .unset, .unset, .unset] [(.int (7 : Int32)), (.int (4 : Int32))])) ?_ fun t_ k_ => XS.bipush X31.here hx rfl (hb hby at_69) k_
    refine own_pre (B := T31.setTop (mkF m 78 #[.val (.int x0), .val (.int x1), .val (.int (4 : Int32)), .val (.ref b26), .unset, .unset, .unset, .unset] [])) ?_ fun t_ k_ => XS.icmpYes X31.here hx rfl (pc0 := 71) (pc' := 78) rfl (hb hby at_71) rfl (tlt (by decide : ((4 : Int32) < (7 : Int32)))).1 (by decide) (by decide) k_
    refine own_pre (B := T31.setTop (mkF m 79 #[.val (.int x0), .val (.int x1), .val (.int (4 : Int32)), .val (.ref b26), .unset, .unset, .unset, .unset] [(.ref b26)])) ?_ fun t_ k_ => XS.aloadN X31.here hx rfl (hb hby at_78) rfl rfl k_
    refine own_pre (B := T31.setTop (mkF m 80 #[.val (.int x0), .val (.int x1), .val (.int (4 : Int32)), .val (.ref b26), .unset, .unset, .unset, .unset] [(.int x1), (.ref b26)])) ?_ fun t_ k_ => XS.iloadN X31.here hx rfl (hb hby at_79) rfl  k_
    obtain ⟨cq32, kq32, q32a, q32b, q32c⟩ := isOf hZ rfl E31
    obtain ⟨_, _, ⟨T32, L32, k32, n32⟩, -, X32, ⟨Lc32, hQ32, l32, y32, z32⟩, st32⟩ := X31.virtualBack hx (y := (⟨"com/example/nimfield/nimfield/FewestCoins", "leastNeeding", "(I)J"⟩ : MethodName)) (z := (⟨"com/example/nimfield/nimfield/FewestCoins", "leastNeeding", "(I)J"⟩ : MethodName)) hown (mvT hZ (hw _ (List.mem_of_getElem? (i := 17) rfl))) (mvT hZ (hw _ (List.mem_of_getElem? (i := 18) rfl))) (notFace_of_selects (args := #[]) (mvT hZ (hw _ (List.mem_of_getElem? (i := 20) rfl)))) (mvT hZ (hw _ (List.mem_of_getElem? (i := 20) rfl))) (mvT hZ (hw _ (List.mem_of_getElem? (i := 19) rfl))) (by decide) (backOf (W := 0) (rm3 l Z a0 hw [] b26 x1 t sa tb 4 T31.heap n0 Z31 E31 Fb31 Ft31 Fs31 Fta31 At31 As31 Ab31 (by decide)) hZ (hw _ (List.mem_of_getElem? (i := 21) rfl)) (hw _ (List.mem_of_getElem? (i := 2) rfl)) (by decide) (by decide)) q32a q32c (g := (mkF m 80 #[.val (.int x0), .val (.int x1), .val (.int (4 : Int32)), .val (.ref b26), .unset, .unset, .unset, .unset] [(.int x1), (.ref b26)])) rfl (by rw [hml]; rfl) (Steps.refl _) (argsL := [(.int x1)]) (rest := []) (lenOf pd__I_J rfl) rfl (by show 2 * 0 + _ ≤ _; exact Nat.le_of_eq rfl) (hb hby at_80) (fun _ _ => ⟨rfl, rfl, (by decide : 4 + 4 ≤ _), (by decide : 38 + 11 ≤ _)⟩)
    dsimp only [Pt.U, Pt.locs, Pt.cells, Pt.slots] at X32 l32 y32 z32 st32 hQ32
    subst l32 y32 z32
    obtain ⟨rfl, Nq32, K32⟩ := hQ32
    have N32 := Fr.app N31 Nq32
    have Z32 := Nat.le_trans Z31 K32.1
    refine own_pre (B := T32.setTop (mkF m 83 #[.val (.int x0), .val (.int x1), .val (.int (4 : Int32)), .val (.ref b26), .unset, .unset, .unset, .unset] [(.long (own_need 4 x1))])) ?_ (fun t_ k_ => st32.trans k_)
    refine own_pre (B := T32.setTop (mkF m 85 #[.val (.int x0), .val (.int x1), .val (.int (4 : Int32)), .val (.ref b26), .val (.long (own_need 4 x1)), .second, .unset, .unset] [])) ?_ fun t_ k_ => XS.lstore X32.here hx rfl (hb hby at_83) rfl  (l' := #[.val (.int x0), .val (.int x1), .val (.int (4 : Int32)), .val (.ref b26), .val (.long (own_need 4 x1)), .second, .unset, .unset]) rfl k_
    refine own_pre (B := T32.setTop (mkF m 86 #[.val (.int x0), .val (.int x1), .val (.int (4 : Int32)), .val (.ref b26), .val (.long (own_need 4 x1)), .second, .unset, .unset] [(.int x1)])) ?_ fun t_ k_ => XS.iloadN X32.here hx rfl (hb hby at_85) rfl  k_
    by_cases h86_33 : (0 : Int32) < x1
    · skip
      refine own_pre (B := T32.setTop (mkF m 95 #[.val (.int x0), .val (.int x1), .val (.int (4 : Int32)), .val (.ref b26), .val (.long (own_need 4 x1)), .second, .unset, .unset] [])) ?_ fun t_ k_ => XS.ifYes X32.here hx rfl (pc0 := 86) (pc' := 95) rfl (hb hby at_86) rfl ((if0 _ _).trans (tlt h86_33).2.2.1) (by decide) (by decide) k_
      refine own_pre (B := T32.setTop (mkF m 96 #[.val (.int x0), .val (.int x1), .val (.int (4 : Int32)), .val (.ref b26), .val (.long (own_need 4 x1)), .second, .unset, .unset] [(.int x1)])) ?_ fun t_ k_ => XS.iloadN X32.here hx rfl (hb hby at_95) rfl  k_
      refine own_pre (B := T32.setTop (mkF m 97 #[.val (.int x0), .val (.int x1), .val (.int (4 : Int32)), .val (.ref b26), .val (.long (own_need 4 x1)), .second, .unset, .unset] [(.int (4 : Int32)), (.int x1)])) ?_ fun t_ k_ => XS.iloadN X32.here hx rfl (hb hby at_96) rfl  k_
      by_cases h97_34 : (4 : Int32) < x1
      · skip
        refine own_pre (B := T32.setTop (mkF m 110 #[.val (.int x0), .val (.int x1), .val (.int (4 : Int32)), .val (.ref b26), .val (.long (own_need 4 x1)), .second, .unset, .unset] [])) ?_ fun t_ k_ => XS.icmpYes X32.here hx rfl (pc0 := 97) (pc' := 110) rfl (hb hby at_97) rfl (tlt h97_34).2.2.1 (by decide) (by decide) k_
        refine own_pre (B := T32.setTop (mkF m 113 #[.val (.int x0), .val (.int x1), .val (.int (4 : Int32)), .val (.ref b26), .val (.long (own_need 4 x1)), .second, .unset, .unset] [(.long (-1 : Int64))])) ?_ (X32.ldc2Long hx hown (mvT hZ (hw _ (List.mem_of_getElem? (i := 37) rfl))) (g := (mkF m 110 #[.val (.int x0), .val (.int x1), .val (.int (4 : Int32)), .val (.ref b26), .val (.long (own_need 4 x1)), .second, .unset, .unset] [])) rfl (hb hby at_110))
        refine own_pre (B := T32.setTop (mkF m 115 #[.val (.int x0), .val (.int x1), .val (.int (4 : Int32)), .val (.ref b26), .val (.long (own_need 4 x1)), .second, .val (.long (-1 : Int64)), .second] [])) ?_ fun t_ k_ => XS.lstore X32.here hx rfl (hb hby at_113) rfl  (l' := #[.val (.int x0), .val (.int x1), .val (.int (4 : Int32)), .val (.ref b26), .val (.long (own_need 4 x1)), .second, .val (.long (-1 : Int64)), .second]) rfl k_
        refine own_pre (B := T32.setTop (mkF m 117 #[.val (.int x0), .val (.int x1), .val (.int (4 : Int32)), .val (.ref b26), .val (.long (own_need 4 x1)), .second, .val (.long (-1 : Int64)), .second] [(.long (own_need 4 x1))])) ?_ fun t_ k_ => XS.lload X32.here hx rfl (hb hby at_115) rfl  k_
        refine own_pre (B := T32.setTop (mkF m 119 #[.val (.int x0), .val (.int x1), .val (.int (4 : Int32)), .val (.ref b26), .val (.long (own_need 4 x1)), .second, .val (.long (-1 : Int64)), .second] [(.long (-1 : Int64)), (.long (own_need 4 x1))])) ?_ fun t_ k_ => XS.lload X32.here hx rfl (hb hby at_117) rfl  k_
        refine own_pre (B := T32.setTop (mkF m 120 #[.val (.int x0), .val (.int x1), .val (.int (4 : Int32)), .val (.ref b26), .val (.long (own_need 4 x1)), .second, .val (.long (-1 : Int64)), .second] [(.int (lcmpW (own_need 4 x1) (-1 : Int64)))])) ?_ fun t_ k_ => XS.lcmp X32.here hx rfl (hb hby at_119) rfl k_
        refine own_pre (B := T32.setTop (mkF m 123 #[.val (.int x0), .val (.int x1), .val (.int (4 : Int32)), .val (.ref b26), .val (.long (own_need 4 x1)), .second, .val (.long (-1 : Int64)), .second] [])) ?_ fun t_ k_ => XS.ifNo X32.here hx rfl (hb hby at_120) rfl ((if0 _ _).trans (teq ((lw_eq (own_need 4 x1) (-1 : Int64)).mpr (own_l2 4 (by decide) x1 h86_33 h97_34))).2) k_
        refine own_pre (B := T32.setTop (mkF m 124 #[.val (.int x0), .val (.int x1), .val (.int (4 : Int32)), .val (.ref b26), .val (.long (own_need 4 x1)), .second, .val (.long (-1 : Int64)), .second] [(.int (1 : Int32))])) ?_ fun t_ k_ => XS.iconst X32.here hx rfl (hb hby at_123) k_
        refine own_pre (B := T32.setTop (mkF m 128 #[.val (.int x0), .val (.int x1), .val (.int (4 : Int32)), .val (.ref b26), .val (.long (own_need 4 x1)), .second, .val (.long (-1 : Int64)), .second] [(.int (1 : Int32))])) ?_ fun t_ k_ => XS.goto X32.here hx rfl (pc0 := 124) (pc' := 128) rfl (hb hby at_124) (by decide) (by decide) k_
        refine own_retN X32 hx hlk (t := .boolean) (z' := (1 : Int32)) Bd.returns (by simp) (hb hby at_128) (by decide) ?_ (by decide) (by decide)
        exact ⟨rfl, N32⟩
      · skip
        refine own_pre (B := T32.setTop (mkF m 100 #[.val (.int x0), .val (.int x1), .val (.int (4 : Int32)), .val (.ref b26), .val (.long (own_need 4 x1)), .second, .unset, .unset] [])) ?_ fun t_ k_ => XS.icmpNo X32.here hx rfl (hb hby at_97) rfl (flt h97_34).2.2.1 k_
        refine own_pre (B := T32.setTop (mkF m 101 #[.val (.int x0), .val (.int x1), .val (.int (4 : Int32)), .val (.ref b26), .val (.long (own_need 4 x1)), .second, .unset, .unset] [(.long (1 : Int64))])) ?_ fun t_ k_ => XS.lconst X32.here hx rfl (hb hby at_100) k_
        refine own_pre (B := T32.setTop (mkF m 102 #[.val (.int x0), .val (.int x1), .val (.int (4 : Int32)), .val (.ref b26), .val (.long (own_need 4 x1)), .second, .unset, .unset] [(.int x1), (.long (1 : Int64))])) ?_ fun t_ k_ => XS.iloadN X32.here hx rfl (hb hby at_101) rfl  k_
        refine own_pre (B := T32.setTop (mkF m 103 #[.val (.int x0), .val (.int x1), .val (.int (4 : Int32)), .val (.ref b26), .val (.long (own_need 4 x1)), .second, .unset, .unset] [(.long ((1 : Int64) <<< (x1 &&& 0x3f).toInt64))])) ?_ fun t_ k_ => XS.lshl X32.here hx rfl (hb hby at_102) rfl k_
        refine own_pre (B := T32.setTop (mkF m 104 #[.val (.int x0), .val (.int x1), .val (.int (4 : Int32)), .val (.ref b26), .val (.long (own_need 4 x1)), .second, .unset, .unset] [(.long (1 : Int64)), (.long ((1 : Int64) <<< (x1 &&& 0x3f).toInt64))])) ?_ fun t_ k_ => XS.lconst X32.here hx rfl (hb hby at_103) k_
        refine own_pre (B := T32.setTop (mkF m 105 #[.val (.int x0), .val (.int x1), .val (.int (4 : Int32)), .val (.ref b26), .val (.long (own_need 4 x1)), .second, .unset, .unset] [(.long (((1 : Int64) <<< (x1 &&& 0x3f).toInt64) - (1 : Int64)))])) ?_ fun t_ k_ => XS.lsub X32.here hx rfl (hb hby at_104) rfl k_
        refine own_pre (B := T32.setTop (mkF m 107 #[.val (.int x0), .val (.int x1), .val (.int (4 : Int32)), .val (.ref b26), .val (.long (own_need 4 x1)), .second, .val (.long (((1 : Int64) <<< (x1 &&& 0x3f).toInt64) - (1 : Int64))), .second] [])) ?_ fun t_ k_ => XS.lstore X32.here hx rfl (hb hby at_105) rfl  (l' := #[.val (.int x0), .val (.int x1), .val (.int (4 : Int32)), .val (.ref b26), .val (.long (own_need 4 x1)), .second, .val (.long (((1 : Int64) <<< (x1 &&& 0x3f).toInt64) - (1 : Int64))), .second]) rfl k_
        refine own_pre (B := T32.setTop (mkF m 115 #[.val (.int x0), .val (.int x1), .val (.int (4 : Int32)), .val (.ref b26), .val (.long (own_need 4 x1)), .second, .val (.long (((1 : Int64) <<< (x1 &&& 0x3f).toInt64) - (1 : Int64))), .second] [])) ?_ fun t_ k_ => XS.goto X32.here hx rfl (pc0 := 107) (pc' := 115) rfl (hb hby at_107) (by decide) (by decide) k_
        refine own_pre (B := T32.setTop (mkF m 117 #[.val (.int x0), .val (.int x1), .val (.int (4 : Int32)), .val (.ref b26), .val (.long (own_need 4 x1)), .second, .val (.long (((1 : Int64) <<< (x1 &&& 0x3f).toInt64) - (1 : Int64))), .second] [(.long (own_need 4 x1))])) ?_ fun t_ k_ => XS.lload X32.here hx rfl (hb hby at_115) rfl  k_
        refine own_pre (B := T32.setTop (mkF m 119 #[.val (.int x0), .val (.int x1), .val (.int (4 : Int32)), .val (.ref b26), .val (.long (own_need 4 x1)), .second, .val (.long (((1 : Int64) <<< (x1 &&& 0x3f).toInt64) - (1 : Int64))), .second] [(.long (((1 : Int64) <<< (x1 &&& 0x3f).toInt64) - (1 : Int64))), (.long (own_need 4 x1))])) ?_ fun t_ k_ => XS.lload X32.here hx rfl (hb hby at_117) rfl  k_
        refine own_pre (B := T32.setTop (mkF m 120 #[.val (.int x0), .val (.int x1), .val (.int (4 : Int32)), .val (.ref b26), .val (.long (own_need 4 x1)), .second, .val (.long (((1 : Int64) <<< (x1 &&& 0x3f).toInt64) - (1 : Int64))), .second] [(.int (lcmpW (own_need 4 x1) (((1 : Int64) <<< (x1 &&& 0x3f).toInt64) - (1 : Int64))))])) ?_ fun t_ k_ => XS.lcmp X32.here hx rfl (hb hby at_119) rfl k_
        refine own_pre (B := T32.setTop (mkF m 123 #[.val (.int x0), .val (.int x1), .val (.int (4 : Int32)), .val (.ref b26), .val (.long (own_need 4 x1)), .second, .val (.long (((1 : Int64) <<< (x1 &&& 0x3f).toInt64) - (1 : Int64))), .second] [])) ?_ fun t_ k_ => XS.ifNo X32.here hx rfl (hb hby at_120) rfl ((if0 _ _).trans (teq ((lw_eq (own_need 4 x1) (((1 : Int64) <<< (x1 &&& 0x3f).toInt64) - (1 : Int64))).mpr (own_l1 4 (by decide) x1 h86_33 h97_34))).2) k_
        refine own_pre (B := T32.setTop (mkF m 124 #[.val (.int x0), .val (.int x1), .val (.int (4 : Int32)), .val (.ref b26), .val (.long (own_need 4 x1)), .second, .val (.long (((1 : Int64) <<< (x1 &&& 0x3f).toInt64) - (1 : Int64))), .second] [(.int (1 : Int32))])) ?_ fun t_ k_ => XS.iconst X32.here hx rfl (hb hby at_123) k_
        refine own_pre (B := T32.setTop (mkF m 128 #[.val (.int x0), .val (.int x1), .val (.int (4 : Int32)), .val (.ref b26), .val (.long (own_need 4 x1)), .second, .val (.long (((1 : Int64) <<< (x1 &&& 0x3f).toInt64) - (1 : Int64))), .second] [(.int (1 : Int32))])) ?_ fun t_ k_ => XS.goto X32.here hx rfl (pc0 := 124) (pc' := 128) rfl (hb hby at_124) (by decide) (by decide) k_
        refine own_retN X32 hx hlk (t := .boolean) (z' := (1 : Int32)) Bd.returns (by simp) (hb hby at_128) (by decide) ?_ (by decide) (by decide)
        exact ⟨rfl, N32⟩
    · skip
      refine own_pre (B := T32.setTop (mkF m 89 #[.val (.int x0), .val (.int x1), .val (.int (4 : Int32)), .val (.ref b26), .val (.long (own_need 4 x1)), .second, .unset, .unset] [])) ?_ fun t_ k_ => XS.ifNo X32.here hx rfl (hb hby at_86) rfl ((if0 _ _).trans (flt h86_33).2.2.1) k_
      refine own_pre (B := T32.setTop (mkF m 90 #[.val (.int x0), .val (.int x1), .val (.int (4 : Int32)), .val (.ref b26), .val (.long (own_need 4 x1)), .second, .unset, .unset] [(.long (0 : Int64))])) ?_ fun t_ k_ => XS.lconst X32.here hx rfl (hb hby at_89) k_
      refine own_pre (B := T32.setTop (mkF m 92 #[.val (.int x0), .val (.int x1), .val (.int (4 : Int32)), .val (.ref b26), .val (.long (own_need 4 x1)), .second, .val (.long (0 : Int64)), .second] [])) ?_ fun t_ k_ => XS.lstore X32.here hx rfl (hb hby at_90) rfl  (l' := #[.val (.int x0), .val (.int x1), .val (.int (4 : Int32)), .val (.ref b26), .val (.long (own_need 4 x1)), .second, .val (.long (0 : Int64)), .second]) rfl k_
      refine own_pre (B := T32.setTop (mkF m 115 #[.val (.int x0), .val (.int x1), .val (.int (4 : Int32)), .val (.ref b26), .val (.long (own_need 4 x1)), .second, .val (.long (0 : Int64)), .second] [])) ?_ fun t_ k_ => XS.goto X32.here hx rfl (pc0 := 92) (pc' := 115) rfl (hb hby at_92) (by decide) (by decide) k_
      refine own_pre (B := T32.setTop (mkF m 117 #[.val (.int x0), .val (.int x1), .val (.int (4 : Int32)), .val (.ref b26), .val (.long (own_need 4 x1)), .second, .val (.long (0 : Int64)), .second] [(.long (own_need 4 x1))])) ?_ fun t_ k_ => XS.lload X32.here hx rfl (hb hby at_115) rfl  k_
      refine own_pre (B := T32.setTop (mkF m 119 #[.val (.int x0), .val (.int x1), .val (.int (4 : Int32)), .val (.ref b26), .val (.long (own_need 4 x1)), .second, .val (.long (0 : Int64)), .second] [(.long (0 : Int64)), (.long (own_need 4 x1))])) ?_ fun t_ k_ => XS.lload X32.here hx rfl (hb hby at_117) rfl  k_
      refine own_pre (B := T32.setTop (mkF m 120 #[.val (.int x0), .val (.int x1), .val (.int (4 : Int32)), .val (.ref b26), .val (.long (own_need 4 x1)), .second, .val (.long (0 : Int64)), .second] [(.int (lcmpW (own_need 4 x1) (0 : Int64)))])) ?_ fun t_ k_ => XS.lcmp X32.here hx rfl (hb hby at_119) rfl k_
      refine own_pre (B := T32.setTop (mkF m 123 #[.val (.int x0), .val (.int x1), .val (.int (4 : Int32)), .val (.ref b26), .val (.long (own_need 4 x1)), .second, .val (.long (0 : Int64)), .second] [])) ?_ fun t_ k_ => XS.ifNo X32.here hx rfl (hb hby at_120) rfl ((if0 _ _).trans (teq ((lw_eq (own_need 4 x1) (0 : Int64)).mpr (own_l0 4 (by decide) x1 h86_33))).2) k_
      refine own_pre (B := T32.setTop (mkF m 124 #[.val (.int x0), .val (.int x1), .val (.int (4 : Int32)), .val (.ref b26), .val (.long (own_need 4 x1)), .second, .val (.long (0 : Int64)), .second] [(.int (1 : Int32))])) ?_ fun t_ k_ => XS.iconst X32.here hx rfl (hb hby at_123) k_
      refine own_pre (B := T32.setTop (mkF m 128 #[.val (.int x0), .val (.int x1), .val (.int (4 : Int32)), .val (.ref b26), .val (.long (own_need 4 x1)), .second, .val (.long (0 : Int64)), .second] [(.int (1 : Int32))])) ?_ fun t_ k_ => XS.goto X32.here hx rfl (pc0 := 124) (pc' := 128) rfl (hb hby at_124) (by decide) (by decide) k_
      refine own_retN X32 hx hlk (t := .boolean) (z' := (1 : Int32)) Bd.returns (by simp) (hb hby at_128) (by decide) ?_ (by decide) (by decide)
      exact ⟨rfl, N32⟩
  · skip
    obtain ⟨T35, h35, X35, e35, E35, A35, D35, -, st35⟩ := newO X0 hx hZ hown (hw _ (List.mem_of_getElem? (i := 0) rfl)) (hw _ (List.mem_of_getElem? (i := 1) rfl)) (hw _ (List.mem_of_getElem? (i := 2) rfl)) e0 (g := (mkF m 5 #[.val (.int x0), .val (.int x1), .val (.int (5 : Int32)), .unset, .unset, .unset, .unset, .unset] [])) rfl (hb hby at_5) (by decide) (by decide)
    obtain ⟨b35, g35⟩ : ∃ z, z = h0.size := ⟨_, rfl⟩
    rw [← g35] at A35 D35 st35
    have Z35 : n0 ≤ h35.size := Nat.le_trans Z0 E35.1
    have gz35 : n0 ≤ b35 := Nat.le_trans Z0 (Nat.le_of_eq g35.symm)
    have F35_typeOf : Fld Z h35 b35 "com/example/nimfield/nimfield/FewestCoins" "typeOf" "[I" .null := D35 (Or.inr (hw _ (List.mem_of_getElem? (i := 11) rfl))) (ty := (.array .int)) (by decide)
    have F35_sizes : Fld Z h35 b35 "com/example/nimfield/nimfield/FewestCoins" "sizes" "[I" .null := D35 (Or.inl (hw _ (List.mem_of_getElem? (i := 13) rfl))) (ty := (.array .int)) (by decide)
    have F35_table : Fld Z h35 b35 "com/example/nimfield/nimfield/FewestCoins" "table" "[B" .null := D35 (Or.inl (hw _ (List.mem_of_getElem? (i := 16) rfl))) (ty := (.array .byte)) (by decide)
    have F35_bits : Fld Z h35 b35 "com/example/nimfield/nimfield/FewestCoins" "bits" "I" (.int (0 : Int32)) := D35 (Or.inl (hw _ (List.mem_of_getElem? (i := 31) rfl))) (ty := .int) (by decide)
    refine own_pre (B := T35.setTop (mkF m 8 #[.val (.int x0), .val (.int x1), .val (.int (5 : Int32)), .unset, .unset, .unset, .unset, .unset] [(.ref b35)])) ?_ st35
    refine own_pre (B := T35.setTop (mkF m 9 #[.val (.int x0), .val (.int x1), .val (.int (5 : Int32)), .unset, .unset, .unset, .unset, .unset] [(.ref b35), (.ref b35)])) ?_ fun t_ k_ => XS.dup X35.here hx rfl (hb hby at_8) rfl rfl k_
    obtain ⟨_, _, ⟨T36, L36, k36, n36⟩, -, X36, ⟨Lc36, hQ36, l36, y36, z36⟩, st36⟩ := X35.specialBack hx (y := (⟨"com/example/nimfield/nimfield/FewestCoins", "<init>", "()V"⟩ : MethodName)) rfl hown (mvT hZ (hw _ (List.mem_of_getElem? (i := 3) rfl))) (mvT hZ (hw _ (List.mem_of_getElem? (i := 4) rfl))) (mvT hZ (hw _ (List.mem_of_getElem? (i := 5) rfl))) (by decide) (backOf (W := 1) (rm1 l Z a0 hw [] b35 h35 n0 Z35 A35 F35_bits F35_typeOf F35_sizes F35_table gz35) hZ (hw _ (List.mem_of_getElem? (i := 5) rfl)) (hw _ (List.mem_of_getElem? (i := 2) rfl)) (by decide) (by decide)) (g := (mkF m 9 #[.val (.int x0), .val (.int x1), .val (.int (5 : Int32)), .unset, .unset, .unset, .unset, .unset] [(.ref b35), (.ref b35)])) rfl (by rw [hml]; rfl) (Steps.refl _) (a := b35) (argsL := []) (rest := [(.ref b35)]) (lenOf pd___V rfl) rfl (by show 2 * 0 + _ ≤ _; exact Nat.le_of_eq rfl) (hb hby at_9) (fun _ _ => ⟨rfl, e35, (by decide : 1 + 3 ≤ _), (by decide : 4 + 34 ≤ _)⟩)
    dsimp only [Pt.U, Pt.locs, Pt.cells, Pt.slots] at X36 l36 y36 z36 st36 hQ36
    subst l36 y36 z36
    obtain ⟨rfl, Nq36, K36, t, sa, tb, E36, ⟨gt, gs, gb, n1, n2, n3, n4, n5, n6⟩, Fb36, Ft36, Fs36, Fta36, At36, As36, Ab36⟩ := hQ36
    have N36 := Fr.app N0 Nq36
    have Z36 := Nat.le_trans Z35 K36.1
    refine own_pre (B := T36.setTop (mkF m 12 #[.val (.int x0), .val (.int x1), .val (.int (5 : Int32)), .unset, .unset, .unset, .unset, .unset] [(.ref b35)])) ?_ (fun t_ k_ => st36.trans k_)
    refine own_pre (B := T36.setTop (mkF m 13 #[.val (.int x0), .val (.int x1), .val (.int (5 : Int32)), .val (.ref b35), .unset, .unset, .unset, .unset] [])) ?_ fun t_ k_ => XS.astoreN X36.here hx rfl (hb hby at_12) rfl rfl (l' := #[.val (.int x0), .val (.int x1), .val (.int (5 : Int32)), .val (.ref b35), .unset, .unset, .unset, .unset]) rfl k_
    refine own_pre (B := T36.setTop (mkF m 14 #[.val (.int x0), .val (.int x1), .val (.int (5 : Int32)), .val (.ref b35), .unset, .unset, .unset, .unset] [(.int (5 : Int32))])) ?_ fun t_ k_ => XS.iloadN X36.here hx rfl (hb hby at_13) rfl  k_
    refine own_pre (B := T36.setTop (mkF m 15 #[.val (.int x0), .val (.int x1), .val (.int (5 : Int32)), .val (.ref b35), .unset, .unset, .unset, .unset] [(.int (1 : Int32)), (.int (5 : Int32))])) ?_ fun t_ k_ => XS.iconst X36.here hx rfl (hb hby at_14) k_
    refine own_pre (B := T36.setTop (mkF m 18 #[.val (.int x0), .val (.int x1), .val (.int (5 : Int32)), .val (.ref b35), .unset, .unset, .unset, .unset] [])) ?_ fun t_ k_ => XS.icmpNo X36.here hx rfl (hb hby at_15) rfl (flt (by decide : ¬ ((5 : Int32) < (1 : Int32)))).1 k_
    refine own_pre (B := T36.setTop (mkF m 19 #[.val (.int x0), .val (.int x1), .val (.int (5 : Int32)), .val (.ref b35), .unset, .unset, .unset, .unset] [(.ref b35)])) ?_ fun t_ k_ => XS.aloadN X36.here hx rfl (hb hby at_18) rfl rfl k_
    obtain ⟨cq37, kq37, q37a, q37b, q37c⟩ := isOf hZ rfl E36
    obtain ⟨_, _, ⟨T37, L37, k37, n37⟩, -, X37, ⟨Lc37, hQ37, l37, y37, z37⟩, st37⟩ := X36.virtualBack hx (y := (⟨"com/example/nimfield/nimfield/FewestCoins", "addCheckCoin", "()V"⟩ : MethodName)) (z := (⟨"com/example/nimfield/nimfield/FewestCoins", "addCheckCoin", "()V"⟩ : MethodName)) hown (mvT hZ (hw _ (List.mem_of_getElem? (i := 38) rfl))) (mvT hZ (hw _ (List.mem_of_getElem? (i := 39) rfl))) (notFace_of_selects (args := #[]) (mvT hZ (hw _ (List.mem_of_getElem? (i := 41) rfl)))) (mvT hZ (hw _ (List.mem_of_getElem? (i := 41) rfl))) (mvT hZ (hw _ (List.mem_of_getElem? (i := 40) rfl))) (by decide) (backOf (W := 0) (rm6 l Z a0 hw [] b35 t sa tb 0 T36.heap n0 Z36 E36 Fb36 Ft36 Fs36 Fta36 At36 As36 Ab36 n1 n2 n3 n4 n5 n6 gz35 gt gs (by decide)) hZ (hw _ (List.mem_of_getElem? (i := 42) rfl)) (hw _ (List.mem_of_getElem? (i := 2) rfl)) (by decide) (by decide)) q37a q37c (g := (mkF m 19 #[.val (.int x0), .val (.int x1), .val (.int (5 : Int32)), .val (.ref b35), .unset, .unset, .unset, .unset] [(.ref b35)])) rfl (by rw [hml]; rfl) (Steps.refl _) (argsL := []) (rest := []) (lenOf pd___V rfl) rfl (by show 2 * 0 + _ ≤ _; exact Nat.le_of_eq rfl) (hb hby at_19) (fun _ _ => ⟨rfl, rfl, (by decide : 4 + 0 ≤ _), (by decide : 38 + 0 ≤ _)⟩)
    dsimp only [Pt.U, Pt.locs, Pt.cells, Pt.slots] at X37 l37 y37 z37 st37 hQ37
    subst l37 y37 z37
    obtain ⟨rfl, Nq37, K37, E37, Fb37, Ft37, Fs37, Fta37, At37, As37, Ab37⟩ := hQ37
    have N37 := Fr.app N36 Nq37
    have Z37 := Nat.le_trans Z36 K37.1
    refine own_pre (B := T37.setTop (mkF m 22 #[.val (.int x0), .val (.int x1), .val (.int (5 : Int32)), .val (.ref b35), .unset, .unset, .unset, .unset] [])) ?_ (fun t_ k_ => st37.trans k_)
    refine own_pre (B := T37.setTop (mkF m 23 #[.val (.int x0), .val (.int x1), .val (.int (5 : Int32)), .val (.ref b35), .unset, .unset, .unset, .unset] [(.int (5 : Int32))])) ?_ fun t_ k_ => XS.iloadN X37.here hx rfl (hb hby at_22) rfl  k_
    refine own_pre (B := T37.setTop (mkF m 24 #[.val (.int x0), .val (.int x1), .val (.int (5 : Int32)), .val (.ref b35), .unset, .unset, .unset, .unset] [(.int (2 : Int32)), (.int (5 : Int32))])) ?_ fun t_ k_ => XS.iconst X37.here hx rfl (hb hby at_23) k_
    refine own_pre (B := T37.setTop (mkF m 27 #[.val (.int x0), .val (.int x1), .val (.int (5 : Int32)), .val (.ref b35), .unset, .unset, .unset, .unset] [])) ?_ fun t_ k_ => XS.icmpNo X37.here hx rfl (hb hby at_24) rfl (flt (by decide : ¬ ((5 : Int32) < (2 : Int32)))).1 k_
    refine own_pre (B := T37.setTop (mkF m 28 #[.val (.int x0), .val (.int x1), .val (.int (5 : Int32)), .val (.ref b35), .unset, .unset, .unset, .unset] [(.ref b35)])) ?_ fun t_ k_ => XS.aloadN X37.here hx rfl (hb hby at_27) rfl rfl k_
    obtain ⟨cq38, kq38, q38a, q38b, q38c⟩ := isOf hZ rfl E37
    obtain ⟨_, _, ⟨T38, L38, k38, n38⟩, -, X38, ⟨Lc38, hQ38, l38, y38, z38⟩, st38⟩ := X37.virtualBack hx (y := (⟨"com/example/nimfield/nimfield/FewestCoins", "addCheckCoin", "()V"⟩ : MethodName)) (z := (⟨"com/example/nimfield/nimfield/FewestCoins", "addCheckCoin", "()V"⟩ : MethodName)) hown (mvT hZ (hw _ (List.mem_of_getElem? (i := 38) rfl))) (mvT hZ (hw _ (List.mem_of_getElem? (i := 39) rfl))) (notFace_of_selects (args := #[]) (mvT hZ (hw _ (List.mem_of_getElem? (i := 41) rfl)))) (mvT hZ (hw _ (List.mem_of_getElem? (i := 41) rfl))) (mvT hZ (hw _ (List.mem_of_getElem? (i := 40) rfl))) (by decide) (backOf (W := 0) (rm6 l Z a0 hw [] b35 t sa tb 1 T37.heap n0 Z37 E37 Fb37 Ft37 Fs37 Fta37 At37 As37 Ab37 n1 n2 n3 n4 n5 n6 gz35 gt gs (by decide)) hZ (hw _ (List.mem_of_getElem? (i := 42) rfl)) (hw _ (List.mem_of_getElem? (i := 2) rfl)) (by decide) (by decide)) q38a q38c (g := (mkF m 28 #[.val (.int x0), .val (.int x1), .val (.int (5 : Int32)), .val (.ref b35), .unset, .unset, .unset, .unset] [(.ref b35)])) rfl (by rw [hml]; rfl) (Steps.refl _) (argsL := []) (rest := []) (lenOf pd___V rfl) rfl (by show 2 * 0 + _ ≤ _; exact Nat.le_of_eq rfl) (hb hby at_28) (fun _ _ => ⟨rfl, rfl, (by decide : 4 + 0 ≤ _), (by decide : 38 + 0 ≤ _)⟩)
    dsimp only [Pt.U, Pt.locs, Pt.cells, Pt.slots] at X38 l38 y38 z38 st38 hQ38
    subst l38 y38 z38
    obtain ⟨rfl, Nq38, K38, E38, Fb38, Ft38, Fs38, Fta38, At38, As38, Ab38⟩ := hQ38
    have N38 := Fr.app N37 Nq38
    have Z38 := Nat.le_trans Z37 K38.1
    refine own_pre (B := T38.setTop (mkF m 31 #[.val (.int x0), .val (.int x1), .val (.int (5 : Int32)), .val (.ref b35), .unset, .unset, .unset, .unset] [])) ?_ (fun t_ k_ => st38.trans k_)
    refine own_pre (B := T38.setTop (mkF m 32 #[.val (.int x0), .val (.int x1), .val (.int (5 : Int32)), .val (.ref b35), .unset, .unset, .unset, .unset] [(.int (5 : Int32))])) ?_ fun t_ k_ => XS.iloadN X38.here hx rfl (hb hby at_31) rfl  k_
    refine own_pre (B := T38.setTop (mkF m 33 #[.val (.int x0), .val (.int x1), .val (.int (5 : Int32)), .val (.ref b35), .unset, .unset, .unset, .unset] [(.int (3 : Int32)), (.int (5 : Int32))])) ?_ fun t_ k_ => XS.iconst X38.here hx rfl (hb hby at_32) k_
    refine own_pre (B := T38.setTop (mkF m 36 #[.val (.int x0), .val (.int x1), .val (.int (5 : Int32)), .val (.ref b35), .unset, .unset, .unset, .unset] [])) ?_ fun t_ k_ => XS.icmpNo X38.here hx rfl (hb hby at_33) rfl (flt (by decide : ¬ ((5 : Int32) < (3 : Int32)))).1 k_
    refine own_pre (B := T38.setTop (mkF m 37 #[.val (.int x0), .val (.int x1), .val (.int (5 : Int32)), .val (.ref b35), .unset, .unset, .unset, .unset] [(.ref b35)])) ?_ fun t_ k_ => XS.aloadN X38.here hx rfl (hb hby at_36) rfl rfl k_
    obtain ⟨cq39, kq39, q39a, q39b, q39c⟩ := isOf hZ rfl E38
    obtain ⟨_, _, ⟨T39, L39, k39, n39⟩, -, X39, ⟨Lc39, hQ39, l39, y39, z39⟩, st39⟩ := X38.virtualBack hx (y := (⟨"com/example/nimfield/nimfield/FewestCoins", "addCheckCoin", "()V"⟩ : MethodName)) (z := (⟨"com/example/nimfield/nimfield/FewestCoins", "addCheckCoin", "()V"⟩ : MethodName)) hown (mvT hZ (hw _ (List.mem_of_getElem? (i := 38) rfl))) (mvT hZ (hw _ (List.mem_of_getElem? (i := 39) rfl))) (notFace_of_selects (args := #[]) (mvT hZ (hw _ (List.mem_of_getElem? (i := 41) rfl)))) (mvT hZ (hw _ (List.mem_of_getElem? (i := 41) rfl))) (mvT hZ (hw _ (List.mem_of_getElem? (i := 40) rfl))) (by decide) (backOf (W := 0) (rm6 l Z a0 hw [] b35 t sa tb 2 T38.heap n0 Z38 E38 Fb38 Ft38 Fs38 Fta38 At38 As38 Ab38 n1 n2 n3 n4 n5 n6 gz35 gt gs (by decide)) hZ (hw _ (List.mem_of_getElem? (i := 42) rfl)) (hw _ (List.mem_of_getElem? (i := 2) rfl)) (by decide) (by decide)) q39a q39c (g := (mkF m 37 #[.val (.int x0), .val (.int x1), .val (.int (5 : Int32)), .val (.ref b35), .unset, .unset, .unset, .unset] [(.ref b35)])) rfl (by rw [hml]; rfl) (Steps.refl _) (argsL := []) (rest := []) (lenOf pd___V rfl) rfl (by show 2 * 0 + _ ≤ _; exact Nat.le_of_eq rfl) (hb hby at_37) (fun _ _ => ⟨rfl, rfl, (by decide : 4 + 0 ≤ _), (by decide : 38 + 0 ≤ _)⟩)
    dsimp only [Pt.U, Pt.locs, Pt.cells, Pt.slots] at X39 l39 y39 z39 st39 hQ39
    subst l39 y39 z39
    obtain ⟨rfl, Nq39, K39, E39, Fb39, Ft39, Fs39, Fta39, At39, As39, Ab39⟩ := hQ39
    have N39 := Fr.app N38 Nq39
    have Z39 := Nat.le_trans Z38 K39.1
    refine own_pre (B := T39.setTop (mkF m 40 #[.val (.int x0), .val (.int x1), .val (.int (5 : Int32)), .val (.ref b35), .unset, .unset, .unset, .unset] [])) ?_ (fun t_ k_ => st39.trans k_)
    refine own_pre (B := T39.setTop (mkF m 41 #[.val (.int x0), .val (.int x1), .val (.int (5 : Int32)), .val (.ref b35), .unset, .unset, .unset, .unset] [(.int (5 : Int32))])) ?_ fun t_ k_ => XS.iloadN X39.here hx rfl (hb hby at_40) rfl  k_
    refine own_pre (B := T39.setTop (mkF m 42 #[.val (.int x0), .val (.int x1), .val (.int (5 : Int32)), .val (.ref b35), .unset, .unset, .unset, .unset] [(.int (4 : Int32)), (.int (5 : Int32))])) ?_ fun t_ k_ => XS.iconst X39.here hx rfl (hb hby at_41) k_
    refine own_pre (B := T39.setTop (mkF m 45 #[.val (.int x0), .val (.int x1), .val (.int (5 : Int32)), .val (.ref b35), .unset, .unset, .unset, .unset] [])) ?_ fun t_ k_ => XS.icmpNo X39.here hx rfl (hb hby at_42) rfl (flt (by decide : ¬ ((5 : Int32) < (4 : Int32)))).1 k_
    refine own_pre (B := T39.setTop (mkF m 46 #[.val (.int x0), .val (.int x1), .val (.int (5 : Int32)), .val (.ref b35), .unset, .unset, .unset, .unset] [(.ref b35)])) ?_ fun t_ k_ => XS.aloadN X39.here hx rfl (hb hby at_45) rfl rfl k_
    obtain ⟨cq40, kq40, q40a, q40b, q40c⟩ := isOf hZ rfl E39
    obtain ⟨_, _, ⟨T40, L40, k40, n40⟩, -, X40, ⟨Lc40, hQ40, l40, y40, z40⟩, st40⟩ := X39.virtualBack hx (y := (⟨"com/example/nimfield/nimfield/FewestCoins", "addCheckCoin", "()V"⟩ : MethodName)) (z := (⟨"com/example/nimfield/nimfield/FewestCoins", "addCheckCoin", "()V"⟩ : MethodName)) hown (mvT hZ (hw _ (List.mem_of_getElem? (i := 38) rfl))) (mvT hZ (hw _ (List.mem_of_getElem? (i := 39) rfl))) (notFace_of_selects (args := #[]) (mvT hZ (hw _ (List.mem_of_getElem? (i := 41) rfl)))) (mvT hZ (hw _ (List.mem_of_getElem? (i := 41) rfl))) (mvT hZ (hw _ (List.mem_of_getElem? (i := 40) rfl))) (by decide) (backOf (W := 0) (rm6 l Z a0 hw [] b35 t sa tb 3 T39.heap n0 Z39 E39 Fb39 Ft39 Fs39 Fta39 At39 As39 Ab39 n1 n2 n3 n4 n5 n6 gz35 gt gs (by decide)) hZ (hw _ (List.mem_of_getElem? (i := 42) rfl)) (hw _ (List.mem_of_getElem? (i := 2) rfl)) (by decide) (by decide)) q40a q40c (g := (mkF m 46 #[.val (.int x0), .val (.int x1), .val (.int (5 : Int32)), .val (.ref b35), .unset, .unset, .unset, .unset] [(.ref b35)])) rfl (by rw [hml]; rfl) (Steps.refl _) (argsL := []) (rest := []) (lenOf pd___V rfl) rfl (by show 2 * 0 + _ ≤ _; exact Nat.le_of_eq rfl) (hb hby at_46) (fun _ _ => ⟨rfl, rfl, (by decide : 4 + 0 ≤ _), (by decide : 38 + 0 ≤ _)⟩)
    dsimp only [Pt.U, Pt.locs, Pt.cells, Pt.slots] at X40 l40 y40 z40 st40 hQ40
    subst l40 y40 z40
    obtain ⟨rfl, Nq40, K40, E40, Fb40, Ft40, Fs40, Fta40, At40, As40, Ab40⟩ := hQ40
    have N40 := Fr.app N39 Nq40
    have Z40 := Nat.le_trans Z39 K40.1
    refine own_pre (B := T40.setTop (mkF m 49 #[.val (.int x0), .val (.int x1), .val (.int (5 : Int32)), .val (.ref b35), .unset, .unset, .unset, .unset] [])) ?_ (fun t_ k_ => st40.trans k_)
    refine own_pre (B := T40.setTop (mkF m 50 #[.val (.int x0), .val (.int x1), .val (.int (5 : Int32)), .val (.ref b35), .unset, .unset, .unset, .unset] [(.int (5 : Int32))])) ?_ fun t_ k_ => XS.iloadN X40.here hx rfl (hb hby at_49) rfl  k_
    refine own_pre (B := T40.setTop (mkF m 51 #[.val (.int x0), .val (.int x1), .val (.int (5 : Int32)), .val (.ref b35), .unset, .unset, .unset, .unset] [(.int (5 : Int32)), (.int (5 : Int32))])) ?_ fun t_ k_ => XS.iconst X40.here hx rfl (hb hby at_50) k_
    refine own_pre (B := T40.setTop (mkF m 54 #[.val (.int x0), .val (.int x1), .val (.int (5 : Int32)), .val (.ref b35), .unset, .unset, .unset, .unset] [])) ?_ fun t_ k_ => XS.icmpNo X40.here hx rfl (hb hby at_51) rfl (flt (by decide : ¬ ((5 : Int32) < (5 : Int32)))).1 k_
    refine own_pre (B := T40.setTop (mkF m 55 #[.val (.int x0), .val (.int x1), .val (.int (5 : Int32)), .val (.ref b35), .unset, .unset, .unset, .unset] [(.ref b35)])) ?_ fun t_ k_ => XS.aloadN X40.here hx rfl (hb hby at_54) rfl rfl k_
    obtain ⟨cq41, kq41, q41a, q41b, q41c⟩ := isOf hZ rfl E40
    obtain ⟨_, _, ⟨T41, L41, k41, n41⟩, -, X41, ⟨Lc41, hQ41, l41, y41, z41⟩, st41⟩ := X40.virtualBack hx (y := (⟨"com/example/nimfield/nimfield/FewestCoins", "addCheckCoin", "()V"⟩ : MethodName)) (z := (⟨"com/example/nimfield/nimfield/FewestCoins", "addCheckCoin", "()V"⟩ : MethodName)) hown (mvT hZ (hw _ (List.mem_of_getElem? (i := 38) rfl))) (mvT hZ (hw _ (List.mem_of_getElem? (i := 39) rfl))) (notFace_of_selects (args := #[]) (mvT hZ (hw _ (List.mem_of_getElem? (i := 41) rfl)))) (mvT hZ (hw _ (List.mem_of_getElem? (i := 41) rfl))) (mvT hZ (hw _ (List.mem_of_getElem? (i := 40) rfl))) (by decide) (backOf (W := 0) (rm6 l Z a0 hw [] b35 t sa tb 4 T40.heap n0 Z40 E40 Fb40 Ft40 Fs40 Fta40 At40 As40 Ab40 n1 n2 n3 n4 n5 n6 gz35 gt gs (by decide)) hZ (hw _ (List.mem_of_getElem? (i := 42) rfl)) (hw _ (List.mem_of_getElem? (i := 2) rfl)) (by decide) (by decide)) q41a q41c (g := (mkF m 55 #[.val (.int x0), .val (.int x1), .val (.int (5 : Int32)), .val (.ref b35), .unset, .unset, .unset, .unset] [(.ref b35)])) rfl (by rw [hml]; rfl) (Steps.refl _) (argsL := []) (rest := []) (lenOf pd___V rfl) rfl (by show 2 * 0 + _ ≤ _; exact Nat.le_of_eq rfl) (hb hby at_55) (fun _ _ => ⟨rfl, rfl, (by decide : 4 + 0 ≤ _), (by decide : 38 + 0 ≤ _)⟩)
    dsimp only [Pt.U, Pt.locs, Pt.cells, Pt.slots] at X41 l41 y41 z41 st41 hQ41
    subst l41 y41 z41
    obtain ⟨rfl, Nq41, K41, E41, Fb41, Ft41, Fs41, Fta41, At41, As41, Ab41⟩ := hQ41
    have N41 := Fr.app N40 Nq41
    have Z41 := Nat.le_trans Z40 K41.1
    refine own_pre (B := T41.setTop (mkF m 58 #[.val (.int x0), .val (.int x1), .val (.int (5 : Int32)), .val (.ref b35), .unset, .unset, .unset, .unset] [])) ?_ (fun t_ k_ => st41.trans k_)
    refine own_pre (B := T41.setTop (mkF m 59 #[.val (.int x0), .val (.int x1), .val (.int (5 : Int32)), .val (.ref b35), .unset, .unset, .unset, .unset] [(.int (5 : Int32))])) ?_ fun t_ k_ => XS.iloadN X41.here hx rfl (hb hby at_58) rfl  k_
    refine own_pre (B := T41.setTop (mkF m 61 #[.val (.int x0), .val (.int x1), .val (.int (5 : Int32)), .val (.ref b35), .unset, .unset, .unset, .unset] [(.int (6 : Int32)), (.int (5 : Int32))])) ?_ fun t_ k_ => XS.bipush X41.here hx rfl (hb hby at_59) k_
    refine own_pre (B := T41.setTop (mkF m 68 #[.val (.int x0), .val (.int x1), .val (.int (5 : Int32)), .val (.ref b35), .unset, .unset, .unset, .unset] [])) ?_ fun t_ k_ => XS.icmpYes X41.here hx rfl (pc0 := 61) (pc' := 68) rfl (hb hby at_61) rfl (tlt (by decide : ((5 : Int32) < (6 : Int32)))).1 (by decide) (by decide) k_
    refine own_pre (B := T41.setTop (mkF m 69 #[.val (.int x0), .val (.int x1), .val (.int (5 : Int32)), .val (.ref b35), .unset, .unset, .unset, .unset] [(.int (5 : Int32))])) ?_ fun t_ k_ => XS.iloadN X41.here hx rfl (hb hby at_68) rfl  k_
    refine own_pre (B := T41.setTop (mkF m 71 #[.val (.int x0), .val (.int x1), .val (.int (5 : Int32)), .val (.ref b35), .unset, .unset, .unset, .unset] [(.int (7 : Int32)), (.int (5 : Int32))])) ?_ fun t_ k_ => XS.bipush X41.here hx rfl (hb hby at_69) k_
    refine own_pre (B := T41.setTop (mkF m 78 #[.val (.int x0), .val (.int x1), .val (.int (5 : Int32)), .val (.ref b35), .unset, .unset, .unset, .unset] [])) ?_ fun t_ k_ => XS.icmpYes X41.here hx rfl (pc0 := 71) (pc' := 78) rfl (hb hby at_71) rfl (tlt (by decide : ((5 : Int32) < (7 : Int32)))).1 (by decide) (by decide) k_
    refine own_pre (B := T41.setTop (mkF m 79 #[.val (.int x0), .val (.int x1), .val (.int (5 : Int32)), .val (.ref b35), .unset, .unset, .unset, .unset] [(.ref b35)])) ?_ fun t_ k_ => XS.aloadN X41.here hx rfl (hb hby at_78) rfl rfl k_
    refine own_pre (B := T41.setTop (mkF m 80 #[.val (.int x0), .val (.int x1), .val (.int (5 : Int32)), .val (.ref b35), .unset, .unset, .unset, .unset] [(.int x1), (.ref b35)])) ?_ fun t_ k_ => XS.iloadN X41.here hx rfl (hb hby at_79) rfl  k_
    obtain ⟨cq42, kq42, q42a, q42b, q42c⟩ := isOf hZ rfl E41
    obtain ⟨_, _, ⟨T42, L42, k42, n42⟩, -, X42, ⟨Lc42, hQ42, l42, y42, z42⟩, st42⟩ := X41.virtualBack hx (y := (⟨"com/example/nimfield/nimfield/FewestCoins", "leastNeeding", "(I)J"⟩ : MethodName)) (z := (⟨"com/example/nimfield/nimfield/FewestCoins", "leastNeeding", "(I)J"⟩ : MethodName)) hown (mvT hZ (hw _ (List.mem_of_getElem? (i := 17) rfl))) (mvT hZ (hw _ (List.mem_of_getElem? (i := 18) rfl))) (notFace_of_selects (args := #[]) (mvT hZ (hw _ (List.mem_of_getElem? (i := 20) rfl)))) (mvT hZ (hw _ (List.mem_of_getElem? (i := 20) rfl))) (mvT hZ (hw _ (List.mem_of_getElem? (i := 19) rfl))) (by decide) (backOf (W := 0) (rm3 l Z a0 hw [] b35 x1 t sa tb 5 T41.heap n0 Z41 E41 Fb41 Ft41 Fs41 Fta41 At41 As41 Ab41 (by decide)) hZ (hw _ (List.mem_of_getElem? (i := 21) rfl)) (hw _ (List.mem_of_getElem? (i := 2) rfl)) (by decide) (by decide)) q42a q42c (g := (mkF m 80 #[.val (.int x0), .val (.int x1), .val (.int (5 : Int32)), .val (.ref b35), .unset, .unset, .unset, .unset] [(.int x1), (.ref b35)])) rfl (by rw [hml]; rfl) (Steps.refl _) (argsL := [(.int x1)]) (rest := []) (lenOf pd__I_J rfl) rfl (by show 2 * 0 + _ ≤ _; exact Nat.le_of_eq rfl) (hb hby at_80) (fun _ _ => ⟨rfl, rfl, (by decide : 4 + 4 ≤ _), (by decide : 38 + 11 ≤ _)⟩)
    dsimp only [Pt.U, Pt.locs, Pt.cells, Pt.slots] at X42 l42 y42 z42 st42 hQ42
    subst l42 y42 z42
    obtain ⟨rfl, Nq42, K42⟩ := hQ42
    have N42 := Fr.app N41 Nq42
    have Z42 := Nat.le_trans Z41 K42.1
    refine own_pre (B := T42.setTop (mkF m 83 #[.val (.int x0), .val (.int x1), .val (.int (5 : Int32)), .val (.ref b35), .unset, .unset, .unset, .unset] [(.long (own_need 5 x1))])) ?_ (fun t_ k_ => st42.trans k_)
    refine own_pre (B := T42.setTop (mkF m 85 #[.val (.int x0), .val (.int x1), .val (.int (5 : Int32)), .val (.ref b35), .val (.long (own_need 5 x1)), .second, .unset, .unset] [])) ?_ fun t_ k_ => XS.lstore X42.here hx rfl (hb hby at_83) rfl  (l' := #[.val (.int x0), .val (.int x1), .val (.int (5 : Int32)), .val (.ref b35), .val (.long (own_need 5 x1)), .second, .unset, .unset]) rfl k_
    refine own_pre (B := T42.setTop (mkF m 86 #[.val (.int x0), .val (.int x1), .val (.int (5 : Int32)), .val (.ref b35), .val (.long (own_need 5 x1)), .second, .unset, .unset] [(.int x1)])) ?_ fun t_ k_ => XS.iloadN X42.here hx rfl (hb hby at_85) rfl  k_
    by_cases h86_43 : (0 : Int32) < x1
    · skip
      refine own_pre (B := T42.setTop (mkF m 95 #[.val (.int x0), .val (.int x1), .val (.int (5 : Int32)), .val (.ref b35), .val (.long (own_need 5 x1)), .second, .unset, .unset] [])) ?_ fun t_ k_ => XS.ifYes X42.here hx rfl (pc0 := 86) (pc' := 95) rfl (hb hby at_86) rfl ((if0 _ _).trans (tlt h86_43).2.2.1) (by decide) (by decide) k_
      refine own_pre (B := T42.setTop (mkF m 96 #[.val (.int x0), .val (.int x1), .val (.int (5 : Int32)), .val (.ref b35), .val (.long (own_need 5 x1)), .second, .unset, .unset] [(.int x1)])) ?_ fun t_ k_ => XS.iloadN X42.here hx rfl (hb hby at_95) rfl  k_
      refine own_pre (B := T42.setTop (mkF m 97 #[.val (.int x0), .val (.int x1), .val (.int (5 : Int32)), .val (.ref b35), .val (.long (own_need 5 x1)), .second, .unset, .unset] [(.int (5 : Int32)), (.int x1)])) ?_ fun t_ k_ => XS.iloadN X42.here hx rfl (hb hby at_96) rfl  k_
      by_cases h97_44 : (5 : Int32) < x1
      · skip
        refine own_pre (B := T42.setTop (mkF m 110 #[.val (.int x0), .val (.int x1), .val (.int (5 : Int32)), .val (.ref b35), .val (.long (own_need 5 x1)), .second, .unset, .unset] [])) ?_ fun t_ k_ => XS.icmpYes X42.here hx rfl (pc0 := 97) (pc' := 110) rfl (hb hby at_97) rfl (tlt h97_44).2.2.1 (by decide) (by decide) k_
        refine own_pre (B := T42.setTop (mkF m 113 #[.val (.int x0), .val (.int x1), .val (.int (5 : Int32)), .val (.ref b35), .val (.long (own_need 5 x1)), .second, .unset, .unset] [(.long (-1 : Int64))])) ?_ (X42.ldc2Long hx hown (mvT hZ (hw _ (List.mem_of_getElem? (i := 37) rfl))) (g := (mkF m 110 #[.val (.int x0), .val (.int x1), .val (.int (5 : Int32)), .val (.ref b35), .val (.long (own_need 5 x1)), .second, .unset, .unset] [])) rfl (hb hby at_110))
        refine own_pre (B := T42.setTop (mkF m 115 #[.val (.int x0), .val (.int x1), .val (.int (5 : Int32)), .val (.ref b35), .val (.long (own_need 5 x1)), .second, .val (.long (-1 : Int64)), .second] [])) ?_ fun t_ k_ => XS.lstore X42.here hx rfl (hb hby at_113) rfl  (l' := #[.val (.int x0), .val (.int x1), .val (.int (5 : Int32)), .val (.ref b35), .val (.long (own_need 5 x1)), .second, .val (.long (-1 : Int64)), .second]) rfl k_
        refine own_pre (B := T42.setTop (mkF m 117 #[.val (.int x0), .val (.int x1), .val (.int (5 : Int32)), .val (.ref b35), .val (.long (own_need 5 x1)), .second, .val (.long (-1 : Int64)), .second] [(.long (own_need 5 x1))])) ?_ fun t_ k_ => XS.lload X42.here hx rfl (hb hby at_115) rfl  k_
        refine own_pre (B := T42.setTop (mkF m 119 #[.val (.int x0), .val (.int x1), .val (.int (5 : Int32)), .val (.ref b35), .val (.long (own_need 5 x1)), .second, .val (.long (-1 : Int64)), .second] [(.long (-1 : Int64)), (.long (own_need 5 x1))])) ?_ fun t_ k_ => XS.lload X42.here hx rfl (hb hby at_117) rfl  k_
        refine own_pre (B := T42.setTop (mkF m 120 #[.val (.int x0), .val (.int x1), .val (.int (5 : Int32)), .val (.ref b35), .val (.long (own_need 5 x1)), .second, .val (.long (-1 : Int64)), .second] [(.int (lcmpW (own_need 5 x1) (-1 : Int64)))])) ?_ fun t_ k_ => XS.lcmp X42.here hx rfl (hb hby at_119) rfl k_
        refine own_pre (B := T42.setTop (mkF m 123 #[.val (.int x0), .val (.int x1), .val (.int (5 : Int32)), .val (.ref b35), .val (.long (own_need 5 x1)), .second, .val (.long (-1 : Int64)), .second] [])) ?_ fun t_ k_ => XS.ifNo X42.here hx rfl (hb hby at_120) rfl ((if0 _ _).trans (teq ((lw_eq (own_need 5 x1) (-1 : Int64)).mpr (own_l2 5 (by decide) x1 h86_43 h97_44))).2) k_
        refine own_pre (B := T42.setTop (mkF m 124 #[.val (.int x0), .val (.int x1), .val (.int (5 : Int32)), .val (.ref b35), .val (.long (own_need 5 x1)), .second, .val (.long (-1 : Int64)), .second] [(.int (1 : Int32))])) ?_ fun t_ k_ => XS.iconst X42.here hx rfl (hb hby at_123) k_
        refine own_pre (B := T42.setTop (mkF m 128 #[.val (.int x0), .val (.int x1), .val (.int (5 : Int32)), .val (.ref b35), .val (.long (own_need 5 x1)), .second, .val (.long (-1 : Int64)), .second] [(.int (1 : Int32))])) ?_ fun t_ k_ => XS.goto X42.here hx rfl (pc0 := 124) (pc' := 128) rfl (hb hby at_124) (by decide) (by decide) k_
        refine own_retN X42 hx hlk (t := .boolean) (z' := (1 : Int32)) Bd.returns (by simp) (hb hby at_128) (by decide) ?_ (by decide) (by decide)
        exact ⟨rfl, N42⟩
      · skip
        refine own_pre (B := T42.setTop (mkF m 100 #[.val (.int x0), .val (.int x1), .val (.int (5 : Int32)), .val (.ref b35), .val (.long (own_need 5 x1)), .second, .unset, .unset] [])) ?_ fun t_ k_ => XS.icmpNo X42.here hx rfl (hb hby at_97) rfl (flt h97_44).2.2.1 k_
        refine own_pre (B := T42.setTop (mkF m 101 #[.val (.int x0), .val (.int x1), .val (.int (5 : Int32)), .val (.ref b35), .val (.long (own_need 5 x1)), .second, .unset, .unset] [(.long (1 : Int64))])) ?_ fun t_ k_ => XS.lconst X42.here hx rfl (hb hby at_100) k_
        refine own_pre (B := T42.setTop (mkF m 102 #[.val (.int x0), .val (.int x1), .val (.int (5 : Int32)), .val (.ref b35), .val (.long (own_need 5 x1)), .second, .unset, .unset] [(.int x1), (.long (1 : Int64))])) ?_ fun t_ k_ => XS.iloadN X42.here hx rfl (hb hby at_101) rfl  k_
        refine own_pre (B := T42.setTop (mkF m 103 #[.val (.int x0), .val (.int x1), .val (.int (5 : Int32)), .val (.ref b35), .val (.long (own_need 5 x1)), .second, .unset, .unset] [(.long ((1 : Int64) <<< (x1 &&& 0x3f).toInt64))])) ?_ fun t_ k_ => XS.lshl X42.here hx rfl (hb hby at_102) rfl k_
        refine own_pre (B := T42.setTop (mkF m 104 #[.val (.int x0), .val (.int x1), .val (.int (5 : Int32)), .val (.ref b35), .val (.long (own_need 5 x1)), .second, .unset, .unset] [(.long (1 : Int64)), (.long ((1 : Int64) <<< (x1 &&& 0x3f).toInt64))])) ?_ fun t_ k_ => XS.lconst X42.here hx rfl (hb hby at_103) k_
        refine own_pre (B := T42.setTop (mkF m 105 #[.val (.int x0), .val (.int x1), .val (.int (5 : Int32)), .val (.ref b35), .val (.long (own_need 5 x1)), .second, .unset, .unset] [(.long (((1 : Int64) <<< (x1 &&& 0x3f).toInt64) - (1 : Int64)))])) ?_ fun t_ k_ => XS.lsub X42.here hx rfl (hb hby at_104) rfl k_
        refine own_pre (B := T42.setTop (mkF m 107 #[.val (.int x0), .val (.int x1), .val (.int (5 : Int32)), .val (.ref b35), .val (.long (own_need 5 x1)), .second, .val (.long (((1 : Int64) <<< (x1 &&& 0x3f).toInt64) - (1 : Int64))), .second] [])) ?_ fun t_ k_ => XS.lstore X42.here hx rfl (hb hby at_105) rfl  (l' := #[.val (.int x0), .val (.int x1), .val (.int (5 : Int32)), .val (.ref b35), .val (.long (own_need 5 x1)), .second, .val (.long (((1 : Int64) <<< (x1 &&& 0x3f).toInt64) - (1 : Int64))), .second]) rfl k_
        refine own_pre (B := T42.setTop (mkF m 115 #[.val (.int x0), .val (.int x1), .val (.int (5 : Int32)), .val (.ref b35), .val (.long (own_need 5 x1)), .second, .val (.long (((1 : Int64) <<< (x1 &&& 0x3f).toInt64) - (1 : Int64))), .second] [])) ?_ fun t_ k_ => XS.goto X42.here hx rfl (pc0 := 107) (pc' := 115) rfl (hb hby at_107) (by decide) (by decide) k_
        refine own_pre (B := T42.setTop (mkF m 117 #[.val (.int x0), .val (.int x1), .val (.int (5 : Int32)), .val (.ref b35), .val (.long (own_need 5 x1)), .second, .val (.long (((1 : Int64) <<< (x1 &&& 0x3f).toInt64) - (1 : Int64))), .second] [(.long (own_need 5 x1))])) ?_ fun t_ k_ => XS.lload X42.here hx rfl (hb hby at_115) rfl  k_
        refine own_pre (B := T42.setTop (mkF m 119 #[.val (.int x0), .val (.int x1), .val (.int (5 : Int32)), .val (.ref b35), .val (.long (own_need 5 x1)), .second, .val (.long (((1 : Int64) <<< (x1 &&& 0x3f).toInt64) - (1 : Int64))), .second] [(.long (((1 : Int64) <<< (x1 &&& 0x3f).toInt64) - (1 : Int64))), (.long (own_need 5 x1))])) ?_ fun t_ k_ => XS.lload X42.here hx rfl (hb hby at_117) rfl  k_
        refine own_pre (B := T42.setTop (mkF m 120 #[.val (.int x0), .val (.int x1), .val (.int (5 : Int32)), .val (.ref b35), .val (.long (own_need 5 x1)), .second, .val (.long (((1 : Int64) <<< (x1 &&& 0x3f).toInt64) - (1 : Int64))), .second] [(.int (lcmpW (own_need 5 x1) (((1 : Int64) <<< (x1 &&& 0x3f).toInt64) - (1 : Int64))))])) ?_ fun t_ k_ => XS.lcmp X42.here hx rfl (hb hby at_119) rfl k_
        refine own_pre (B := T42.setTop (mkF m 123 #[.val (.int x0), .val (.int x1), .val (.int (5 : Int32)), .val (.ref b35), .val (.long (own_need 5 x1)), .second, .val (.long (((1 : Int64) <<< (x1 &&& 0x3f).toInt64) - (1 : Int64))), .second] [])) ?_ fun t_ k_ => XS.ifNo X42.here hx rfl (hb hby at_120) rfl ((if0 _ _).trans (teq ((lw_eq (own_need 5 x1) (((1 : Int64) <<< (x1 &&& 0x3f).toInt64) - (1 : Int64))).mpr (own_l1 5 (by decide) x1 h86_43 h97_44))).2) k_
        refine own_pre (B := T42.setTop (mkF m 124 #[.val (.int x0), .val (.int x1), .val (.int (5 : Int32)), .val (.ref b35), .val (.long (own_need 5 x1)), .second, .val (.long (((1 : Int64) <<< (x1 &&& 0x3f).toInt64) - (1 : Int64))), .second] [(.int (1 : Int32))])) ?_ fun t_ k_ => XS.iconst X42.here hx rfl (hb hby at_123) k_
        refine own_pre (B := T42.setTop (mkF m 128 #[.val (.int x0), .val (.int x1), .val (.int (5 : Int32)), .val (.ref b35), .val (.long (own_need 5 x1)), .second, .val (.long (((1 : Int64) <<< (x1 &&& 0x3f).toInt64) - (1 : Int64))), .second] [(.int (1 : Int32))])) ?_ fun t_ k_ => XS.goto X42.here hx rfl (pc0 := 124) (pc' := 128) rfl (hb hby at_124) (by decide) (by decide) k_
        refine own_retN X42 hx hlk (t := .boolean) (z' := (1 : Int32)) Bd.returns (by simp) (hb hby at_128) (by decide) ?_ (by decide) (by decide)
        exact ⟨rfl, N42⟩
    · skip
      refine own_pre (B := T42.setTop (mkF m 89 #[.val (.int x0), .val (.int x1), .val (.int (5 : Int32)), .val (.ref b35), .val (.long (own_need 5 x1)), .second, .unset, .unset] [])) ?_ fun t_ k_ => XS.ifNo X42.here hx rfl (hb hby at_86) rfl ((if0 _ _).trans (flt h86_43).2.2.1) k_
      refine own_pre (B := T42.setTop (mkF m 90 #[.val (.int x0), .val (.int x1), .val (.int (5 : Int32)), .val (.ref b35), .val (.long (own_need 5 x1)), .second, .unset, .unset] [(.long (0 : Int64))])) ?_ fun t_ k_ => XS.lconst X42.here hx rfl (hb hby at_89) k_
      refine own_pre (B := T42.setTop (mkF m 92 #[.val (.int x0), .val (.int x1), .val (.int (5 : Int32)), .val (.ref b35), .val (.long (own_need 5 x1)), .second, .val (.long (0 : Int64)), .second] [])) ?_ fun t_ k_ => XS.lstore X42.here hx rfl (hb hby at_90) rfl  (l' := #[.val (.int x0), .val (.int x1), .val (.int (5 : Int32)), .val (.ref b35), .val (.long (own_need 5 x1)), .second, .val (.long (0 : Int64)), .second]) rfl k_
      refine own_pre (B := T42.setTop (mkF m 115 #[.val (.int x0), .val (.int x1), .val (.int (5 : Int32)), .val (.ref b35), .val (.long (own_need 5 x1)), .second, .val (.long (0 : Int64)), .second] [])) ?_ fun t_ k_ => XS.goto X42.here hx rfl (pc0 := 92) (pc' := 115) rfl (hb hby at_92) (by decide) (by decide) k_
      refine own_pre (B := T42.setTop (mkF m 117 #[.val (.int x0), .val (.int x1), .val (.int (5 : Int32)), .val (.ref b35), .val (.long (own_need 5 x1)), .second, .val (.long (0 : Int64)), .second] [(.long (own_need 5 x1))])) ?_ fun t_ k_ => XS.lload X42.here hx rfl (hb hby at_115) rfl  k_
      refine own_pre (B := T42.setTop (mkF m 119 #[.val (.int x0), .val (.int x1), .val (.int (5 : Int32)), .val (.ref b35), .val (.long (own_need 5 x1)), .second, .val (.long (0 : Int64)), .second] [(.long (0 : Int64)), (.long (own_need 5 x1))])) ?_ fun t_ k_ => XS.lload X42.here hx rfl (hb hby at_117) rfl  k_
      refine own_pre (B := T42.setTop (mkF m 120 #[.val (.int x0), .val (.int x1), .val (.int (5 : Int32)), .val (.ref b35), .val (.long (own_need 5 x1)), .second, .val (.long (0 : Int64)), .second] [(.int (lcmpW (own_need 5 x1) (0 : Int64)))])) ?_ fun t_ k_ => XS.lcmp X42.here hx rfl (hb hby at_119) rfl k_
      refine own_pre (B := T42.setTop (mkF m 123 #[.val (.int x0), .val (.int x1), .val (.int (5 : Int32)), .val (.ref b35), .val (.long (own_need 5 x1)), .second, .val (.long (0 : Int64)), .second] [])) ?_ fun t_ k_ => XS.ifNo X42.here hx rfl (hb hby at_120) rfl ((if0 _ _).trans (teq ((lw_eq (own_need 5 x1) (0 : Int64)).mpr (own_l0 5 (by decide) x1 h86_43))).2) k_
      refine own_pre (B := T42.setTop (mkF m 124 #[.val (.int x0), .val (.int x1), .val (.int (5 : Int32)), .val (.ref b35), .val (.long (own_need 5 x1)), .second, .val (.long (0 : Int64)), .second] [(.int (1 : Int32))])) ?_ fun t_ k_ => XS.iconst X42.here hx rfl (hb hby at_123) k_
      refine own_pre (B := T42.setTop (mkF m 128 #[.val (.int x0), .val (.int x1), .val (.int (5 : Int32)), .val (.ref b35), .val (.long (own_need 5 x1)), .second, .val (.long (0 : Int64)), .second] [(.int (1 : Int32))])) ?_ fun t_ k_ => XS.goto X42.here hx rfl (pc0 := 124) (pc' := 128) rfl (hb hby at_124) (by decide) (by decide) k_
      refine own_retN X42 hx hlk (t := .boolean) (z' := (1 : Int32)) Bd.returns (by simp) (hb hby at_128) (by decide) ?_ (by decide) (by decide)
      exact ⟨rfl, N42⟩
  · skip
    obtain ⟨T45, h45, X45, e45, E45, A45, D45, -, st45⟩ := newO X0 hx hZ hown (hw _ (List.mem_of_getElem? (i := 0) rfl)) (hw _ (List.mem_of_getElem? (i := 1) rfl)) (hw _ (List.mem_of_getElem? (i := 2) rfl)) e0 (g := (mkF m 5 #[.val (.int x0), .val (.int x1), .val (.int (6 : Int32)), .unset, .unset, .unset, .unset, .unset] [])) rfl (hb hby at_5) (by decide) (by decide)
    obtain ⟨b45, g45⟩ : ∃ z, z = h0.size := ⟨_, rfl⟩
    rw [← g45] at A45 D45 st45
    have Z45 : n0 ≤ h45.size := Nat.le_trans Z0 E45.1
    have gz45 : n0 ≤ b45 := Nat.le_trans Z0 (Nat.le_of_eq g45.symm)
    have F45_typeOf : Fld Z h45 b45 "com/example/nimfield/nimfield/FewestCoins" "typeOf" "[I" .null := D45 (Or.inr (hw _ (List.mem_of_getElem? (i := 11) rfl))) (ty := (.array .int)) (by decide)
    have F45_sizes : Fld Z h45 b45 "com/example/nimfield/nimfield/FewestCoins" "sizes" "[I" .null := D45 (Or.inl (hw _ (List.mem_of_getElem? (i := 13) rfl))) (ty := (.array .int)) (by decide)
    have F45_table : Fld Z h45 b45 "com/example/nimfield/nimfield/FewestCoins" "table" "[B" .null := D45 (Or.inl (hw _ (List.mem_of_getElem? (i := 16) rfl))) (ty := (.array .byte)) (by decide)
    have F45_bits : Fld Z h45 b45 "com/example/nimfield/nimfield/FewestCoins" "bits" "I" (.int (0 : Int32)) := D45 (Or.inl (hw _ (List.mem_of_getElem? (i := 31) rfl))) (ty := .int) (by decide)
    refine own_pre (B := T45.setTop (mkF m 8 #[.val (.int x0), .val (.int x1), .val (.int (6 : Int32)), .unset, .unset, .unset, .unset, .unset] [(.ref b45)])) ?_ st45
    refine own_pre (B := T45.setTop (mkF m 9 #[.val (.int x0), .val (.int x1), .val (.int (6 : Int32)), .unset, .unset, .unset, .unset, .unset] [(.ref b45), (.ref b45)])) ?_ fun t_ k_ => XS.dup X45.here hx rfl (hb hby at_8) rfl rfl k_
    obtain ⟨_, _, ⟨T46, L46, k46, n46⟩, -, X46, ⟨Lc46, hQ46, l46, y46, z46⟩, st46⟩ := X45.specialBack hx (y := (⟨"com/example/nimfield/nimfield/FewestCoins", "<init>", "()V"⟩ : MethodName)) rfl hown (mvT hZ (hw _ (List.mem_of_getElem? (i := 3) rfl))) (mvT hZ (hw _ (List.mem_of_getElem? (i := 4) rfl))) (mvT hZ (hw _ (List.mem_of_getElem? (i := 5) rfl))) (by decide) (backOf (W := 1) (rm1 l Z a0 hw [] b45 h45 n0 Z45 A45 F45_bits F45_typeOf F45_sizes F45_table gz45) hZ (hw _ (List.mem_of_getElem? (i := 5) rfl)) (hw _ (List.mem_of_getElem? (i := 2) rfl)) (by decide) (by decide)) (g := (mkF m 9 #[.val (.int x0), .val (.int x1), .val (.int (6 : Int32)), .unset, .unset, .unset, .unset, .unset] [(.ref b45), (.ref b45)])) rfl (by rw [hml]; rfl) (Steps.refl _) (a := b45) (argsL := []) (rest := [(.ref b45)]) (lenOf pd___V rfl) rfl (by show 2 * 0 + _ ≤ _; exact Nat.le_of_eq rfl) (hb hby at_9) (fun _ _ => ⟨rfl, e45, (by decide : 1 + 3 ≤ _), (by decide : 4 + 34 ≤ _)⟩)
    dsimp only [Pt.U, Pt.locs, Pt.cells, Pt.slots] at X46 l46 y46 z46 st46 hQ46
    subst l46 y46 z46
    obtain ⟨rfl, Nq46, K46, t, sa, tb, E46, ⟨gt, gs, gb, n1, n2, n3, n4, n5, n6⟩, Fb46, Ft46, Fs46, Fta46, At46, As46, Ab46⟩ := hQ46
    have N46 := Fr.app N0 Nq46
    have Z46 := Nat.le_trans Z45 K46.1
    refine own_pre (B := T46.setTop (mkF m 12 #[.val (.int x0), .val (.int x1), .val (.int (6 : Int32)), .unset, .unset, .unset, .unset, .unset] [(.ref b45)])) ?_ (fun t_ k_ => st46.trans k_)
    refine own_pre (B := T46.setTop (mkF m 13 #[.val (.int x0), .val (.int x1), .val (.int (6 : Int32)), .val (.ref b45), .unset, .unset, .unset, .unset] [])) ?_ fun t_ k_ => XS.astoreN X46.here hx rfl (hb hby at_12) rfl rfl (l' := #[.val (.int x0), .val (.int x1), .val (.int (6 : Int32)), .val (.ref b45), .unset, .unset, .unset, .unset]) rfl k_
    refine own_pre (B := T46.setTop (mkF m 14 #[.val (.int x0), .val (.int x1), .val (.int (6 : Int32)), .val (.ref b45), .unset, .unset, .unset, .unset] [(.int (6 : Int32))])) ?_ fun t_ k_ => XS.iloadN X46.here hx rfl (hb hby at_13) rfl  k_
    refine own_pre (B := T46.setTop (mkF m 15 #[.val (.int x0), .val (.int x1), .val (.int (6 : Int32)), .val (.ref b45), .unset, .unset, .unset, .unset] [(.int (1 : Int32)), (.int (6 : Int32))])) ?_ fun t_ k_ => XS.iconst X46.here hx rfl (hb hby at_14) k_
    refine own_pre (B := T46.setTop (mkF m 18 #[.val (.int x0), .val (.int x1), .val (.int (6 : Int32)), .val (.ref b45), .unset, .unset, .unset, .unset] [])) ?_ fun t_ k_ => XS.icmpNo X46.here hx rfl (hb hby at_15) rfl (flt (by decide : ¬ ((6 : Int32) < (1 : Int32)))).1 k_
    refine own_pre (B := T46.setTop (mkF m 19 #[.val (.int x0), .val (.int x1), .val (.int (6 : Int32)), .val (.ref b45), .unset, .unset, .unset, .unset] [(.ref b45)])) ?_ fun t_ k_ => XS.aloadN X46.here hx rfl (hb hby at_18) rfl rfl k_
    obtain ⟨cq47, kq47, q47a, q47b, q47c⟩ := isOf hZ rfl E46
    obtain ⟨_, _, ⟨T47, L47, k47, n47⟩, -, X47, ⟨Lc47, hQ47, l47, y47, z47⟩, st47⟩ := X46.virtualBack hx (y := (⟨"com/example/nimfield/nimfield/FewestCoins", "addCheckCoin", "()V"⟩ : MethodName)) (z := (⟨"com/example/nimfield/nimfield/FewestCoins", "addCheckCoin", "()V"⟩ : MethodName)) hown (mvT hZ (hw _ (List.mem_of_getElem? (i := 38) rfl))) (mvT hZ (hw _ (List.mem_of_getElem? (i := 39) rfl))) (notFace_of_selects (args := #[]) (mvT hZ (hw _ (List.mem_of_getElem? (i := 41) rfl)))) (mvT hZ (hw _ (List.mem_of_getElem? (i := 41) rfl))) (mvT hZ (hw _ (List.mem_of_getElem? (i := 40) rfl))) (by decide) (backOf (W := 0) (rm6 l Z a0 hw [] b45 t sa tb 0 T46.heap n0 Z46 E46 Fb46 Ft46 Fs46 Fta46 At46 As46 Ab46 n1 n2 n3 n4 n5 n6 gz45 gt gs (by decide)) hZ (hw _ (List.mem_of_getElem? (i := 42) rfl)) (hw _ (List.mem_of_getElem? (i := 2) rfl)) (by decide) (by decide)) q47a q47c (g := (mkF m 19 #[.val (.int x0), .val (.int x1), .val (.int (6 : Int32)), .val (.ref b45), .unset, .unset, .unset, .unset] [(.ref b45)])) rfl (by rw [hml]; rfl) (Steps.refl _) (argsL := []) (rest := []) (lenOf pd___V rfl) rfl (by show 2 * 0 + _ ≤ _; exact Nat.le_of_eq rfl) (hb hby at_19) (fun _ _ => ⟨rfl, rfl, (by decide : 4 + 0 ≤ _), (by decide : 38 + 0 ≤ _)⟩)
    dsimp only [Pt.U, Pt.locs, Pt.cells, Pt.slots] at X47 l47 y47 z47 st47 hQ47
    subst l47 y47 z47
    obtain ⟨rfl, Nq47, K47, E47, Fb47, Ft47, Fs47, Fta47, At47, As47, Ab47⟩ := hQ47
    have N47 := Fr.app N46 Nq47
    have Z47 := Nat.le_trans Z46 K47.1
    refine own_pre (B := T47.setTop (mkF m 22 #[.val (.int x0), .val (.int x1), .val (.int (6 : Int32)), .val (.ref b45), .unset, .unset, .unset, .unset] [])) ?_ (fun t_ k_ => st47.trans k_)
    refine own_pre (B := T47.setTop (mkF m 23 #[.val (.int x0), .val (.int x1), .val (.int (6 : Int32)), .val (.ref b45), .unset, .unset, .unset, .unset] [(.int (6 : Int32))])) ?_ fun t_ k_ => XS.iloadN X47.here hx rfl (hb hby at_22) rfl  k_
    refine own_pre (B := T47.setTop (mkF m 24 #[.val (.int x0), .val (.int x1), .val (.int (6 : Int32)), .val (.ref b45), .unset, .unset, .unset, .unset] [(.int (2 : Int32)), (.int (6 : Int32))])) ?_ fun t_ k_ => XS.iconst X47.here hx rfl (hb hby at_23) k_
    refine own_pre (B := T47.setTop (mkF m 27 #[.val (.int x0), .val (.int x1), .val (.int (6 : Int32)), .val (.ref b45), .unset, .unset, .unset, .unset] [])) ?_ fun t_ k_ => XS.icmpNo X47.here hx rfl (hb hby at_24) rfl (flt (by decide : ¬ ((6 : Int32) < (2 : Int32)))).1 k_
    refine own_pre (B := T47.setTop (mkF m 28 #[.val (.int x0), .val (.int x1), .val (.int (6 : Int32)), .val (.ref b45), .unset, .unset, .unset, .unset] [(.ref b45)])) ?_ fun t_ k_ => XS.aloadN X47.here hx rfl (hb hby at_27) rfl rfl k_
    obtain ⟨cq48, kq48, q48a, q48b, q48c⟩ := isOf hZ rfl E47
    obtain ⟨_, _, ⟨T48, L48, k48, n48⟩, -, X48, ⟨Lc48, hQ48, l48, y48, z48⟩, st48⟩ := X47.virtualBack hx (y := (⟨"com/example/nimfield/nimfield/FewestCoins", "addCheckCoin", "()V"⟩ : MethodName)) (z := (⟨"com/example/nimfield/nimfield/FewestCoins", "addCheckCoin", "()V"⟩ : MethodName)) hown (mvT hZ (hw _ (List.mem_of_getElem? (i := 38) rfl))) (mvT hZ (hw _ (List.mem_of_getElem? (i := 39) rfl))) (notFace_of_selects (args := #[]) (mvT hZ (hw _ (List.mem_of_getElem? (i := 41) rfl)))) (mvT hZ (hw _ (List.mem_of_getElem? (i := 41) rfl))) (mvT hZ (hw _ (List.mem_of_getElem? (i := 40) rfl))) (by decide) (backOf (W := 0) (rm6 l Z a0 hw [] b45 t sa tb 1 T47.heap n0 Z47 E47 Fb47 Ft47 Fs47 Fta47 At47 As47 Ab47 n1 n2 n3 n4 n5 n6 gz45 gt gs (by decide)) hZ (hw _ (List.mem_of_getElem? (i := 42) rfl)) (hw _ (List.mem_of_getElem? (i := 2) rfl)) (by decide) (by decide)) q48a q48c (g := (mkF m 28 #[.val (.int x0), .val (.int x1), .val (.int (6 : Int32)), .val (.ref b45), .unset, .unset, .unset, .unset] [(.ref b45)])) rfl (by rw [hml]; rfl) (Steps.refl _) (argsL := []) (rest := []) (lenOf pd___V rfl) rfl (by show 2 * 0 + _ ≤ _; exact Nat.le_of_eq rfl) (hb hby at_28) (fun _ _ => ⟨rfl, rfl, (by decide : 4 + 0 ≤ _), (by decide : 38 + 0 ≤ _)⟩)
    dsimp only [Pt.U, Pt.locs, Pt.cells, Pt.slots] at X48 l48 y48 z48 st48 hQ48
    subst l48 y48 z48
    obtain ⟨rfl, Nq48, K48, E48, Fb48, Ft48, Fs48, Fta48, At48, As48, Ab48⟩ := hQ48
    have N48 := Fr.app N47 Nq48
    have Z48 := Nat.le_trans Z47 K48.1
    refine own_pre (B := T48.setTop (mkF m 31 #[.val (.int x0), .val (.int x1), .val (.int (6 : Int32)), .val (.ref b45), .unset, .unset, .unset, .unset] [])) ?_ (fun t_ k_ => st48.trans k_)
    refine own_pre (B := T48.setTop (mkF m 32 #[.val (.int x0), .val (.int x1), .val (.int (6 : Int32)), .val (.ref b45), .unset, .unset, .unset, .unset] [(.int (6 : Int32))])) ?_ fun t_ k_ => XS.iloadN X48.here hx rfl (hb hby at_31) rfl  k_
    refine own_pre (B := T48.setTop (mkF m 33 #[.val (.int x0), .val (.int x1), .val (.int (6 : Int32)), .val (.ref b45), .unset, .unset, .unset, .unset] [(.int (3 : Int32)), (.int (6 : Int32))])) ?_ fun t_ k_ => XS.iconst X48.here hx rfl (hb hby at_32) k_
    refine own_pre (B := T48.setTop (mkF m 36 #[.val (.int x0), .val (.int x1), .val (.int (6 : Int32)), .val (.ref b45), .unset, .unset, .unset, .unset] [])) ?_ fun t_ k_ => XS.icmpNo X48.here hx rfl (hb hby at_33) rfl (flt (by decide : ¬ ((6 : Int32) < (3 : Int32)))).1 k_
    refine own_pre (B := T48.setTop (mkF m 37 #[.val (.int x0), .val (.int x1), .val (.int (6 : Int32)), .val (.ref b45), .unset, .unset, .unset, .unset] [(.ref b45)])) ?_ fun t_ k_ => XS.aloadN X48.here hx rfl (hb hby at_36) rfl rfl k_
    obtain ⟨cq49, kq49, q49a, q49b, q49c⟩ := isOf hZ rfl E48
    obtain ⟨_, _, ⟨T49, L49, k49, n49⟩, -, X49, ⟨Lc49, hQ49, l49, y49, z49⟩, st49⟩ := X48.virtualBack hx (y := (⟨"com/example/nimfield/nimfield/FewestCoins", "addCheckCoin", "()V"⟩ : MethodName)) (z := (⟨"com/example/nimfield/nimfield/FewestCoins", "addCheckCoin", "()V"⟩ : MethodName)) hown (mvT hZ (hw _ (List.mem_of_getElem? (i := 38) rfl))) (mvT hZ (hw _ (List.mem_of_getElem? (i := 39) rfl))) (notFace_of_selects (args := #[]) (mvT hZ (hw _ (List.mem_of_getElem? (i := 41) rfl)))) (mvT hZ (hw _ (List.mem_of_getElem? (i := 41) rfl))) (mvT hZ (hw _ (List.mem_of_getElem? (i := 40) rfl))) (by decide) (backOf (W := 0) (rm6 l Z a0 hw [] b45 t sa tb 2 T48.heap n0 Z48 E48 Fb48 Ft48 Fs48 Fta48 At48 As48 Ab48 n1 n2 n3 n4 n5 n6 gz45 gt gs (by decide)) hZ (hw _ (List.mem_of_getElem? (i := 42) rfl)) (hw _ (List.mem_of_getElem? (i := 2) rfl)) (by decide) (by decide)) q49a q49c (g := (mkF m 37 #[.val (.int x0), .val (.int x1), .val (.int (6 : Int32)), .val (.ref b45), .unset, .unset, .unset, .unset] [(.ref b45)])) rfl (by rw [hml]; rfl) (Steps.refl _) (argsL := []) (rest := []) (lenOf pd___V rfl) rfl (by show 2 * 0 + _ ≤ _; exact Nat.le_of_eq rfl) (hb hby at_37) (fun _ _ => ⟨rfl, rfl, (by decide : 4 + 0 ≤ _), (by decide : 38 + 0 ≤ _)⟩)
    dsimp only [Pt.U, Pt.locs, Pt.cells, Pt.slots] at X49 l49 y49 z49 st49 hQ49
    subst l49 y49 z49
    obtain ⟨rfl, Nq49, K49, E49, Fb49, Ft49, Fs49, Fta49, At49, As49, Ab49⟩ := hQ49
    have N49 := Fr.app N48 Nq49
    have Z49 := Nat.le_trans Z48 K49.1
    refine own_pre (B := T49.setTop (mkF m 40 #[.val (.int x0), .val (.int x1), .val (.int (6 : Int32)), .val (.ref b45), .unset, .unset, .unset, .unset] [])) ?_ (fun t_ k_ => st49.trans k_)
    refine own_pre (B := T49.setTop (mkF m 41 #[.val (.int x0), .val (.int x1), .val (.int (6 : Int32)), .val (.ref b45), .unset, .unset, .unset, .unset] [(.int (6 : Int32))])) ?_ fun t_ k_ => XS.iloadN X49.here hx rfl (hb hby at_40) rfl  k_
    refine own_pre (B := T49.setTop (mkF m 42 #[.val (.int x0), .val (.int x1), .val (.int (6 : Int32)), .val (.ref b45), .unset, .unset, .unset, .unset] [(.int (4 : Int32)), (.int (6 : Int32))])) ?_ fun t_ k_ => XS.iconst X49.here hx rfl (hb hby at_41) k_
    refine own_pre (B := T49.setTop (mkF m 45 #[.val (.int x0), .val (.int x1), .val (.int (6 : Int32)), .val (.ref b45), .unset, .unset, .unset, .unset] [])) ?_ fun t_ k_ => XS.icmpNo X49.here hx rfl (hb hby at_42) rfl (flt (by decide : ¬ ((6 : Int32) < (4 : Int32)))).1 k_
    refine own_pre (B := T49.setTop (mkF m 46 #[.val (.int x0), .val (.int x1), .val (.int (6 : Int32)), .val (.ref b45), .unset, .unset, .unset, .unset] [(.ref b45)])) ?_ fun t_ k_ => XS.aloadN X49.here hx rfl (hb hby at_45) rfl rfl k_
    obtain ⟨cq50, kq50, q50a, q50b, q50c⟩ := isOf hZ rfl E49
    obtain ⟨_, _, ⟨T50, L50, k50, n50⟩, -, X50, ⟨Lc50, hQ50, l50, y50, z50⟩, st50⟩ := X49.virtualBack hx (y := (⟨"com/example/nimfield/nimfield/FewestCoins", "addCheckCoin", "()V"⟩ : MethodName)) (z := (⟨"com/example/nimfield/nimfield/FewestCoins", "addCheckCoin", "()V"⟩ : MethodName)) hown (mvT hZ (hw _ (List.mem_of_getElem? (i := 38) rfl))) (mvT hZ (hw _ (List.mem_of_getElem? (i := 39) rfl))) (notFace_of_selects (args := #[]) (mvT hZ (hw _ (List.mem_of_getElem? (i := 41) rfl)))) (mvT hZ (hw _ (List.mem_of_getElem? (i := 41) rfl))) (mvT hZ (hw _ (List.mem_of_getElem? (i := 40) rfl))) (by decide) (backOf (W := 0) (rm6 l Z a0 hw [] b45 t sa tb 3 T49.heap n0 Z49 E49 Fb49 Ft49 Fs49 Fta49 At49 As49 Ab49 n1 n2 n3 n4 n5 n6 gz45 gt gs (by decide)) hZ (hw _ (List.mem_of_getElem? (i := 42) rfl)) (hw _ (List.mem_of_getElem? (i := 2) rfl)) (by decide) (by decide)) q50a q50c (g := (mkF m 46 #[.val (.int x0), .val (.int x1), .val (.int (6 : Int32)), .val (.ref b45), .unset, .unset, .unset, .unset] [(.ref b45)])) rfl (by rw [hml]; rfl) (Steps.refl _) (argsL := []) (rest := []) (lenOf pd___V rfl) rfl (by show 2 * 0 + _ ≤ _; exact Nat.le_of_eq rfl) (hb hby at_46) (fun _ _ => ⟨rfl, rfl, (by decide : 4 + 0 ≤ _), (by decide : 38 + 0 ≤ _)⟩)
    dsimp only [Pt.U, Pt.locs, Pt.cells, Pt.slots] at X50 l50 y50 z50 st50 hQ50
    subst l50 y50 z50
    obtain ⟨rfl, Nq50, K50, E50, Fb50, Ft50, Fs50, Fta50, At50, As50, Ab50⟩ := hQ50
    have N50 := Fr.app N49 Nq50
    have Z50 := Nat.le_trans Z49 K50.1
    refine own_pre (B := T50.setTop (mkF m 49 #[.val (.int x0), .val (.int x1), .val (.int (6 : Int32)), .val (.ref b45), .unset, .unset, .unset, .unset] [])) ?_ (fun t_ k_ => st50.trans k_)
    refine own_pre (B := T50.setTop (mkF m 50 #[.val (.int x0), .val (.int x1), .val (.int (6 : Int32)), .val (.ref b45), .unset, .unset, .unset, .unset] [(.int (6 : Int32))])) ?_ fun t_ k_ => XS.iloadN X50.here hx rfl (hb hby at_49) rfl  k_
    refine own_pre (B := T50.setTop (mkF m 51 #[.val (.int x0), .val (.int x1), .val (.int (6 : Int32)), .val (.ref b45), .unset, .unset, .unset, .unset] [(.int (5 : Int32)), (.int (6 : Int32))])) ?_ fun t_ k_ => XS.iconst X50.here hx rfl (hb hby at_50) k_
    refine own_pre (B := T50.setTop (mkF m 54 #[.val (.int x0), .val (.int x1), .val (.int (6 : Int32)), .val (.ref b45), .unset, .unset, .unset, .unset] [])) ?_ fun t_ k_ => XS.icmpNo X50.here hx rfl (hb hby at_51) rfl (flt (by decide : ¬ ((6 : Int32) < (5 : Int32)))).1 k_
    refine own_pre (B := T50.setTop (mkF m 55 #[.val (.int x0), .val (.int x1), .val (.int (6 : Int32)), .val (.ref b45), .unset, .unset, .unset, .unset] [(.ref b45)])) ?_ fun t_ k_ => XS.aloadN X50.here hx rfl (hb hby at_54) rfl rfl k_
    obtain ⟨cq51, kq51, q51a, q51b, q51c⟩ := isOf hZ rfl E50
    obtain ⟨_, _, ⟨T51, L51, k51, n51⟩, -, X51, ⟨Lc51, hQ51, l51, y51, z51⟩, st51⟩ := X50.virtualBack hx (y := (⟨"com/example/nimfield/nimfield/FewestCoins", "addCheckCoin", "()V"⟩ : MethodName)) (z := (⟨"com/example/nimfield/nimfield/FewestCoins", "addCheckCoin", "()V"⟩ : MethodName)) hown (mvT hZ (hw _ (List.mem_of_getElem? (i := 38) rfl))) (mvT hZ (hw _ (List.mem_of_getElem? (i := 39) rfl))) (notFace_of_selects (args := #[]) (mvT hZ (hw _ (List.mem_of_getElem? (i := 41) rfl)))) (mvT hZ (hw _ (List.mem_of_getElem? (i := 41) rfl))) (mvT hZ (hw _ (List.mem_of_getElem? (i := 40) rfl))) (by decide) (backOf (W := 0) (rm6 l Z a0 hw [] b45 t sa tb 4 T50.heap n0 Z50 E50 Fb50 Ft50 Fs50 Fta50 At50 As50 Ab50 n1 n2 n3 n4 n5 n6 gz45 gt gs (by decide)) hZ (hw _ (List.mem_of_getElem? (i := 42) rfl)) (hw _ (List.mem_of_getElem? (i := 2) rfl)) (by decide) (by decide)) q51a q51c (g := (mkF m 55 #[.val (.int x0), .val (.int x1), .val (.int (6 : Int32)), .val (.ref b45), .unset, .unset, .unset, .unset] [(.ref b45)])) rfl (by rw [hml]; rfl) (Steps.refl _) (argsL := []) (rest := []) (lenOf pd___V rfl) rfl (by show 2 * 0 + _ ≤ _; exact Nat.le_of_eq rfl) (hb hby at_55) (fun _ _ => ⟨rfl, rfl, (by decide : 4 + 0 ≤ _), (by decide : 38 + 0 ≤ _)⟩)
    dsimp only [Pt.U, Pt.locs, Pt.cells, Pt.slots] at X51 l51 y51 z51 st51 hQ51
    subst l51 y51 z51
    obtain ⟨rfl, Nq51, K51, E51, Fb51, Ft51, Fs51, Fta51, At51, As51, Ab51⟩ := hQ51
    have N51 := Fr.app N50 Nq51
    have Z51 := Nat.le_trans Z50 K51.1
    refine own_pre (B := T51.setTop (mkF m 58 #[.val (.int x0), .val (.int x1), .val (.int (6 : Int32)), .val (.ref b45), .unset, .unset, .unset, .unset] [])) ?_ (fun t_ k_ => st51.trans k_)
    refine own_pre (B := T51.setTop (mkF m 59 #[.val (.int x0), .val (.int x1), .val (.int (6 : Int32)), .val (.ref b45), .unset, .unset, .unset, .unset] [(.int (6 : Int32))])) ?_ fun t_ k_ => XS.iloadN X51.here hx rfl (hb hby at_58) rfl  k_
    refine own_pre (B := T51.setTop (mkF m 61 #[.val (.int x0), .val (.int x1), .val (.int (6 : Int32)), .val (.ref b45), .unset, .unset, .unset, .unset] [(.int (6 : Int32)), (.int (6 : Int32))])) ?_ fun t_ k_ => XS.bipush X51.here hx rfl (hb hby at_59) k_
    refine own_pre (B := T51.setTop (mkF m 64 #[.val (.int x0), .val (.int x1), .val (.int (6 : Int32)), .val (.ref b45), .unset, .unset, .unset, .unset] [])) ?_ fun t_ k_ => XS.icmpNo X51.here hx rfl (hb hby at_61) rfl (flt (by decide : ¬ ((6 : Int32) < (6 : Int32)))).1 k_
    refine own_pre (B := T51.setTop (mkF m 65 #[.val (.int x0), .val (.int x1), .val (.int (6 : Int32)), .val (.ref b45), .unset, .unset, .unset, .unset] [(.ref b45)])) ?_ fun t_ k_ => XS.aloadN X51.here hx rfl (hb hby at_64) rfl rfl k_
    obtain ⟨cq52, kq52, q52a, q52b, q52c⟩ := isOf hZ rfl E51
    obtain ⟨_, _, ⟨T52, L52, k52, n52⟩, -, X52, ⟨Lc52, hQ52, l52, y52, z52⟩, st52⟩ := X51.virtualBack hx (y := (⟨"com/example/nimfield/nimfield/FewestCoins", "addCheckCoin", "()V"⟩ : MethodName)) (z := (⟨"com/example/nimfield/nimfield/FewestCoins", "addCheckCoin", "()V"⟩ : MethodName)) hown (mvT hZ (hw _ (List.mem_of_getElem? (i := 38) rfl))) (mvT hZ (hw _ (List.mem_of_getElem? (i := 39) rfl))) (notFace_of_selects (args := #[]) (mvT hZ (hw _ (List.mem_of_getElem? (i := 41) rfl)))) (mvT hZ (hw _ (List.mem_of_getElem? (i := 41) rfl))) (mvT hZ (hw _ (List.mem_of_getElem? (i := 40) rfl))) (by decide) (backOf (W := 0) (rm6 l Z a0 hw [] b45 t sa tb 5 T51.heap n0 Z51 E51 Fb51 Ft51 Fs51 Fta51 At51 As51 Ab51 n1 n2 n3 n4 n5 n6 gz45 gt gs (by decide)) hZ (hw _ (List.mem_of_getElem? (i := 42) rfl)) (hw _ (List.mem_of_getElem? (i := 2) rfl)) (by decide) (by decide)) q52a q52c (g := (mkF m 65 #[.val (.int x0), .val (.int x1), .val (.int (6 : Int32)), .val (.ref b45), .unset, .unset, .unset, .unset] [(.ref b45)])) rfl (by rw [hml]; rfl) (Steps.refl _) (argsL := []) (rest := []) (lenOf pd___V rfl) rfl (by show 2 * 0 + _ ≤ _; exact Nat.le_of_eq rfl) (hb hby at_65) (fun _ _ => ⟨rfl, rfl, (by decide : 4 + 0 ≤ _), (by decide : 38 + 0 ≤ _)⟩)
    dsimp only [Pt.U, Pt.locs, Pt.cells, Pt.slots] at X52 l52 y52 z52 st52 hQ52
    subst l52 y52 z52
    obtain ⟨rfl, Nq52, K52, E52, Fb52, Ft52, Fs52, Fta52, At52, As52, Ab52⟩ := hQ52
    have N52 := Fr.app N51 Nq52
    have Z52 := Nat.le_trans Z51 K52.1
    refine own_pre (B := T52.setTop (mkF m 68 #[.val (.int x0), .val (.int x1), .val (.int (6 : Int32)), .val (.ref b45), .unset, .unset, .unset, .unset] [])) ?_ (fun t_ k_ => st52.trans k_)
    refine own_pre (B := T52.setTop (mkF m 69 #[.val (.int x0), .val (.int x1), .val (.int (6 : Int32)), .val (.ref b45), .unset, .unset, .unset, .unset] [(.int (6 : Int32))])) ?_ fun t_ k_ => XS.iloadN X52.here hx rfl (hb hby at_68) rfl  k_
    refine own_pre (B := T52.setTop (mkF m 71 #[.val (.int x0), .val (.int x1), .val (.int (6 : Int32)), .val (.ref b45), .unset, .unset, .unset, .unset] [(.int (7 : Int32)), (.int (6 : Int32))])) ?_ fun t_ k_ => XS.bipush X52.here hx rfl (hb hby at_69) k_
    refine own_pre (B := T52.setTop (mkF m 78 #[.val (.int x0), .val (.int x1), .val (.int (6 : Int32)), .val (.ref b45), .unset, .unset, .unset, .unset] [])) ?_ fun t_ k_ => XS.icmpYes X52.here hx rfl (pc0 := 71) (pc' := 78) rfl (hb hby at_71) rfl (tlt (by decide : ((6 : Int32) < (7 : Int32)))).1 (by decide) (by decide) k_
    refine own_pre (B := T52.setTop (mkF m 79 #[.val (.int x0), .val (.int x1), .val (.int (6 : Int32)), .val (.ref b45), .unset, .unset, .unset, .unset] [(.ref b45)])) ?_ fun t_ k_ => XS.aloadN X52.here hx rfl (hb hby at_78) rfl rfl k_
    refine own_pre (B := T52.setTop (mkF m 80 #[.val (.int x0), .val (.int x1), .val (.int (6 : Int32)), .val (.ref b45), .unset, .unset, .unset, .unset] [(.int x1), (.ref b45)])) ?_ fun t_ k_ => XS.iloadN X52.here hx rfl (hb hby at_79) rfl  k_
    obtain ⟨cq53, kq53, q53a, q53b, q53c⟩ := isOf hZ rfl E52
    obtain ⟨_, _, ⟨T53, L53, k53, n53⟩, -, X53, ⟨Lc53, hQ53, l53, y53, z53⟩, st53⟩ := X52.virtualBack hx (y := (⟨"com/example/nimfield/nimfield/FewestCoins", "leastNeeding", "(I)J"⟩ : MethodName)) (z := (⟨"com/example/nimfield/nimfield/FewestCoins", "leastNeeding", "(I)J"⟩ : MethodName)) hown (mvT hZ (hw _ (List.mem_of_getElem? (i := 17) rfl))) (mvT hZ (hw _ (List.mem_of_getElem? (i := 18) rfl))) (notFace_of_selects (args := #[]) (mvT hZ (hw _ (List.mem_of_getElem? (i := 20) rfl)))) (mvT hZ (hw _ (List.mem_of_getElem? (i := 20) rfl))) (mvT hZ (hw _ (List.mem_of_getElem? (i := 19) rfl))) (by decide) (backOf (W := 0) (rm3 l Z a0 hw [] b45 x1 t sa tb 6 T52.heap n0 Z52 E52 Fb52 Ft52 Fs52 Fta52 At52 As52 Ab52 (by decide)) hZ (hw _ (List.mem_of_getElem? (i := 21) rfl)) (hw _ (List.mem_of_getElem? (i := 2) rfl)) (by decide) (by decide)) q53a q53c (g := (mkF m 80 #[.val (.int x0), .val (.int x1), .val (.int (6 : Int32)), .val (.ref b45), .unset, .unset, .unset, .unset] [(.int x1), (.ref b45)])) rfl (by rw [hml]; rfl) (Steps.refl _) (argsL := [(.int x1)]) (rest := []) (lenOf pd__I_J rfl) rfl (by show 2 * 0 + _ ≤ _; exact Nat.le_of_eq rfl) (hb hby at_80) (fun _ _ => ⟨rfl, rfl, (by decide : 4 + 4 ≤ _), (by decide : 38 + 11 ≤ _)⟩)
    dsimp only [Pt.U, Pt.locs, Pt.cells, Pt.slots] at X53 l53 y53 z53 st53 hQ53
    subst l53 y53 z53
    obtain ⟨rfl, Nq53, K53⟩ := hQ53
    have N53 := Fr.app N52 Nq53
    have Z53 := Nat.le_trans Z52 K53.1
    refine own_pre (B := T53.setTop (mkF m 83 #[.val (.int x0), .val (.int x1), .val (.int (6 : Int32)), .val (.ref b45), .unset, .unset, .unset, .unset] [(.long (own_need 6 x1))])) ?_ (fun t_ k_ => st53.trans k_)
    refine own_pre (B := T53.setTop (mkF m 85 #[.val (.int x0), .val (.int x1), .val (.int (6 : Int32)), .val (.ref b45), .val (.long (own_need 6 x1)), .second, .unset, .unset] [])) ?_ fun t_ k_ => XS.lstore X53.here hx rfl (hb hby at_83) rfl  (l' := #[.val (.int x0), .val (.int x1), .val (.int (6 : Int32)), .val (.ref b45), .val (.long (own_need 6 x1)), .second, .unset, .unset]) rfl k_
    refine own_pre (B := T53.setTop (mkF m 86 #[.val (.int x0), .val (.int x1), .val (.int (6 : Int32)), .val (.ref b45), .val (.long (own_need 6 x1)), .second, .unset, .unset] [(.int x1)])) ?_ fun t_ k_ => XS.iloadN X53.here hx rfl (hb hby at_85) rfl  k_
    by_cases h86_54 : (0 : Int32) < x1
    · skip
      refine own_pre (B := T53.setTop (mkF m 95 #[.val (.int x0), .val (.int x1), .val (.int (6 : Int32)), .val (.ref b45), .val (.long (own_need 6 x1)), .second, .unset, .unset] [])) ?_ fun t_ k_ => XS.ifYes X53.here hx rfl (pc0 := 86) (pc' := 95) rfl (hb hby at_86) rfl ((if0 _ _).trans (tlt h86_54).2.2.1) (by decide) (by decide) k_
      refine own_pre (B := T53.setTop (mkF m 96 #[.val (.int x0), .val (.int x1), .val (.int (6 : Int32)), .val (.ref b45), .val (.long (own_need 6 x1)), .second, .unset, .unset] [(.int x1)])) ?_ fun t_ k_ => XS.iloadN X53.here hx rfl (hb hby at_95) rfl  k_
      refine own_pre (B := T53.setTop (mkF m 97 #[.val (.int x0), .val (.int x1), .val (.int (6 : Int32)), .val (.ref b45), .val (.long (own_need 6 x1)), .second, .unset, .unset] [(.int (6 : Int32)), (.int x1)])) ?_ fun t_ k_ => XS.iloadN X53.here hx rfl (hb hby at_96) rfl  k_
      by_cases h97_55 : (6 : Int32) < x1
      · skip
        refine own_pre (B := T53.setTop (mkF m 110 #[.val (.int x0), .val (.int x1), .val (.int (6 : Int32)), .val (.ref b45), .val (.long (own_need 6 x1)), .second, .unset, .unset] [])) ?_ fun t_ k_ => XS.icmpYes X53.here hx rfl (pc0 := 97) (pc' := 110) rfl (hb hby at_97) rfl (tlt h97_55).2.2.1 (by decide) (by decide) k_
        refine own_pre (B := T53.setTop (mkF m 113 #[.val (.int x0), .val (.int x1), .val (.int (6 : Int32)), .val (.ref b45), .val (.long (own_need 6 x1)), .second, .unset, .unset] [(.long (-1 : Int64))])) ?_ (X53.ldc2Long hx hown (mvT hZ (hw _ (List.mem_of_getElem? (i := 37) rfl))) (g := (mkF m 110 #[.val (.int x0), .val (.int x1), .val (.int (6 : Int32)), .val (.ref b45), .val (.long (own_need 6 x1)), .second, .unset, .unset] [])) rfl (hb hby at_110))
        refine own_pre (B := T53.setTop (mkF m 115 #[.val (.int x0), .val (.int x1), .val (.int (6 : Int32)), .val (.ref b45), .val (.long (own_need 6 x1)), .second, .val (.long (-1 : Int64)), .second] [])) ?_ fun t_ k_ => XS.lstore X53.here hx rfl (hb hby at_113) rfl  (l' := #[.val (.int x0), .val (.int x1), .val (.int (6 : Int32)), .val (.ref b45), .val (.long (own_need 6 x1)), .second, .val (.long (-1 : Int64)), .second]) rfl k_
        refine own_pre (B := T53.setTop (mkF m 117 #[.val (.int x0), .val (.int x1), .val (.int (6 : Int32)), .val (.ref b45), .val (.long (own_need 6 x1)), .second, .val (.long (-1 : Int64)), .second] [(.long (own_need 6 x1))])) ?_ fun t_ k_ => XS.lload X53.here hx rfl (hb hby at_115) rfl  k_
        refine own_pre (B := T53.setTop (mkF m 119 #[.val (.int x0), .val (.int x1), .val (.int (6 : Int32)), .val (.ref b45), .val (.long (own_need 6 x1)), .second, .val (.long (-1 : Int64)), .second] [(.long (-1 : Int64)), (.long (own_need 6 x1))])) ?_ fun t_ k_ => XS.lload X53.here hx rfl (hb hby at_117) rfl  k_
        refine own_pre (B := T53.setTop (mkF m 120 #[.val (.int x0), .val (.int x1), .val (.int (6 : Int32)), .val (.ref b45), .val (.long (own_need 6 x1)), .second, .val (.long (-1 : Int64)), .second] [(.int (lcmpW (own_need 6 x1) (-1 : Int64)))])) ?_ fun t_ k_ => XS.lcmp X53.here hx rfl (hb hby at_119) rfl k_
        refine own_pre (B := T53.setTop (mkF m 123 #[.val (.int x0), .val (.int x1), .val (.int (6 : Int32)), .val (.ref b45), .val (.long (own_need 6 x1)), .second, .val (.long (-1 : Int64)), .second] [])) ?_ fun t_ k_ => XS.ifNo X53.here hx rfl (hb hby at_120) rfl ((if0 _ _).trans (teq ((lw_eq (own_need 6 x1) (-1 : Int64)).mpr (own_l2 6 (by decide) x1 h86_54 h97_55))).2) k_
        refine own_pre (B := T53.setTop (mkF m 124 #[.val (.int x0), .val (.int x1), .val (.int (6 : Int32)), .val (.ref b45), .val (.long (own_need 6 x1)), .second, .val (.long (-1 : Int64)), .second] [(.int (1 : Int32))])) ?_ fun t_ k_ => XS.iconst X53.here hx rfl (hb hby at_123) k_
        refine own_pre (B := T53.setTop (mkF m 128 #[.val (.int x0), .val (.int x1), .val (.int (6 : Int32)), .val (.ref b45), .val (.long (own_need 6 x1)), .second, .val (.long (-1 : Int64)), .second] [(.int (1 : Int32))])) ?_ fun t_ k_ => XS.goto X53.here hx rfl (pc0 := 124) (pc' := 128) rfl (hb hby at_124) (by decide) (by decide) k_
        refine own_retN X53 hx hlk (t := .boolean) (z' := (1 : Int32)) Bd.returns (by simp) (hb hby at_128) (by decide) ?_ (by decide) (by decide)
        exact ⟨rfl, N53⟩
      · skip
        refine own_pre (B := T53.setTop (mkF m 100 #[.val (.int x0), .val (.int x1), .val (.int (6 : Int32)), .val (.ref b45), .val (.long (own_need 6 x1)), .second, .unset, .unset] [])) ?_ fun t_ k_ => XS.icmpNo X53.here hx rfl (hb hby at_97) rfl (flt h97_55).2.2.1 k_
        refine own_pre (B := T53.setTop (mkF m 101 #[.val (.int x0), .val (.int x1), .val (.int (6 : Int32)), .val (.ref b45), .val (.long (own_need 6 x1)), .second, .unset, .unset] [(.long (1 : Int64))])) ?_ fun t_ k_ => XS.lconst X53.here hx rfl (hb hby at_100) k_
        refine own_pre (B := T53.setTop (mkF m 102 #[.val (.int x0), .val (.int x1), .val (.int (6 : Int32)), .val (.ref b45), .val (.long (own_need 6 x1)), .second, .unset, .unset] [(.int x1), (.long (1 : Int64))])) ?_ fun t_ k_ => XS.iloadN X53.here hx rfl (hb hby at_101) rfl  k_
        refine own_pre (B := T53.setTop (mkF m 103 #[.val (.int x0), .val (.int x1), .val (.int (6 : Int32)), .val (.ref b45), .val (.long (own_need 6 x1)), .second, .unset, .unset] [(.long ((1 : Int64) <<< (x1 &&& 0x3f).toInt64))])) ?_ fun t_ k_ => XS.lshl X53.here hx rfl (hb hby at_102) rfl k_
        refine own_pre (B := T53.setTop (mkF m 104 #[.val (.int x0), .val (.int x1), .val (.int (6 : Int32)), .val (.ref b45), .val (.long (own_need 6 x1)), .second, .unset, .unset] [(.long (1 : Int64)), (.long ((1 : Int64) <<< (x1 &&& 0x3f).toInt64))])) ?_ fun t_ k_ => XS.lconst X53.here hx rfl (hb hby at_103) k_
        refine own_pre (B := T53.setTop (mkF m 105 #[.val (.int x0), .val (.int x1), .val (.int (6 : Int32)), .val (.ref b45), .val (.long (own_need 6 x1)), .second, .unset, .unset] [(.long (((1 : Int64) <<< (x1 &&& 0x3f).toInt64) - (1 : Int64)))])) ?_ fun t_ k_ => XS.lsub X53.here hx rfl (hb hby at_104) rfl k_
        refine own_pre (B := T53.setTop (mkF m 107 #[.val (.int x0), .val (.int x1), .val (.int (6 : Int32)), .val (.ref b45), .val (.long (own_need 6 x1)), .second, .val (.long (((1 : Int64) <<< (x1 &&& 0x3f).toInt64) - (1 : Int64))), .second] [])) ?_ fun t_ k_ => XS.lstore X53.here hx rfl (hb hby at_105) rfl  (l' := #[.val (.int x0), .val (.int x1), .val (.int (6 : Int32)), .val (.ref b45), .val (.long (own_need 6 x1)), .second, .val (.long (((1 : Int64) <<< (x1 &&& 0x3f).toInt64) - (1 : Int64))), .second]) rfl k_
        refine own_pre (B := T53.setTop (mkF m 115 #[.val (.int x0), .val (.int x1), .val (.int (6 : Int32)), .val (.ref b45), .val (.long (own_need 6 x1)), .second, .val (.long (((1 : Int64) <<< (x1 &&& 0x3f).toInt64) - (1 : Int64))), .second] [])) ?_ fun t_ k_ => XS.goto X53.here hx rfl (pc0 := 107) (pc' := 115) rfl (hb hby at_107) (by decide) (by decide) k_
        refine own_pre (B := T53.setTop (mkF m 117 #[.val (.int x0), .val (.int x1), .val (.int (6 : Int32)), .val (.ref b45), .val (.long (own_need 6 x1)), .second, .val (.long (((1 : Int64) <<< (x1 &&& 0x3f).toInt64) - (1 : Int64))), .second] [(.long (own_need 6 x1))])) ?_ fun t_ k_ => XS.lload X53.here hx rfl (hb hby at_115) rfl  k_
        refine own_pre (B := T53.setTop (mkF m 119 #[.val (.int x0), .val (.int x1), .val (.int (6 : Int32)), .val (.ref b45), .val (.long (own_need 6 x1)), .second, .val (.long (((1 : Int64) <<< (x1 &&& 0x3f).toInt64) - (1 : Int64))), .second] [(.long (((1 : Int64) <<< (x1 &&& 0x3f).toInt64) - (1 : Int64))), (.long (own_need 6 x1))])) ?_ fun t_ k_ => XS.lload X53.here hx rfl (hb hby at_117) rfl  k_
        refine own_pre (B := T53.setTop (mkF m 120 #[.val (.int x0), .val (.int x1), .val (.int (6 : Int32)), .val (.ref b45), .val (.long (own_need 6 x1)), .second, .val (.long (((1 : Int64) <<< (x1 &&& 0x3f).toInt64) - (1 : Int64))), .second] [(.int (lcmpW (own_need 6 x1) (((1 : Int64) <<< (x1 &&& 0x3f).toInt64) - (1 : Int64))))])) ?_ fun t_ k_ => XS.lcmp X53.here hx rfl (hb hby at_119) rfl k_
        refine own_pre (B := T53.setTop (mkF m 123 #[.val (.int x0), .val (.int x1), .val (.int (6 : Int32)), .val (.ref b45), .val (.long (own_need 6 x1)), .second, .val (.long (((1 : Int64) <<< (x1 &&& 0x3f).toInt64) - (1 : Int64))), .second] [])) ?_ fun t_ k_ => XS.ifNo X53.here hx rfl (hb hby at_120) rfl ((if0 _ _).trans (teq ((lw_eq (own_need 6 x1) (((1 : Int64) <<< (x1 &&& 0x3f).toInt64) - (1 : Int64))).mpr (own_l1 6 (by decide) x1 h86_54 h97_55))).2) k_
        refine own_pre (B := T53.setTop (mkF m 124 #[.val (.int x0), .val (.int x1), .val (.int (6 : Int32)), .val (.ref b45), .val (.long (own_need 6 x1)), .second, .val (.long (((1 : Int64) <<< (x1 &&& 0x3f).toInt64) - (1 : Int64))), .second] [(.int (1 : Int32))])) ?_ fun t_ k_ => XS.iconst X53.here hx rfl (hb hby at_123) k_
        refine own_pre (B := T53.setTop (mkF m 128 #[.val (.int x0), .val (.int x1), .val (.int (6 : Int32)), .val (.ref b45), .val (.long (own_need 6 x1)), .second, .val (.long (((1 : Int64) <<< (x1 &&& 0x3f).toInt64) - (1 : Int64))), .second] [(.int (1 : Int32))])) ?_ fun t_ k_ => XS.goto X53.here hx rfl (pc0 := 124) (pc' := 128) rfl (hb hby at_124) (by decide) (by decide) k_
        refine own_retN X53 hx hlk (t := .boolean) (z' := (1 : Int32)) Bd.returns (by simp) (hb hby at_128) (by decide) ?_ (by decide) (by decide)
        exact ⟨rfl, N53⟩
    · skip
      refine own_pre (B := T53.setTop (mkF m 89 #[.val (.int x0), .val (.int x1), .val (.int (6 : Int32)), .val (.ref b45), .val (.long (own_need 6 x1)), .second, .unset, .unset] [])) ?_ fun t_ k_ => XS.ifNo X53.here hx rfl (hb hby at_86) rfl ((if0 _ _).trans (flt h86_54).2.2.1) k_
      refine own_pre (B := T53.setTop (mkF m 90 #[.val (.int x0), .val (.int x1), .val (.int (6 : Int32)), .val (.ref b45), .val (.long (own_need 6 x1)), .second, .unset, .unset] [(.long (0 : Int64))])) ?_ fun t_ k_ => XS.lconst X53.here hx rfl (hb hby at_89) k_
      refine own_pre (B := T53.setTop (mkF m 92 #[.val (.int x0), .val (.int x1), .val (.int (6 : Int32)), .val (.ref b45), .val (.long (own_need 6 x1)), .second, .val (.long (0 : Int64)), .second] [])) ?_ fun t_ k_ => XS.lstore X53.here hx rfl (hb hby at_90) rfl  (l' := #[.val (.int x0), .val (.int x1), .val (.int (6 : Int32)), .val (.ref b45), .val (.long (own_need 6 x1)), .second, .val (.long (0 : Int64)), .second]) rfl k_
      refine own_pre (B := T53.setTop (mkF m 115 #[.val (.int x0), .val (.int x1), .val (.int (6 : Int32)), .val (.ref b45), .val (.long (own_need 6 x1)), .second, .val (.long (0 : Int64)), .second] [])) ?_ fun t_ k_ => XS.goto X53.here hx rfl (pc0 := 92) (pc' := 115) rfl (hb hby at_92) (by decide) (by decide) k_
      refine own_pre (B := T53.setTop (mkF m 117 #[.val (.int x0), .val (.int x1), .val (.int (6 : Int32)), .val (.ref b45), .val (.long (own_need 6 x1)), .second, .val (.long (0 : Int64)), .second] [(.long (own_need 6 x1))])) ?_ fun t_ k_ => XS.lload X53.here hx rfl (hb hby at_115) rfl  k_
      refine own_pre (B := T53.setTop (mkF m 119 #[.val (.int x0), .val (.int x1), .val (.int (6 : Int32)), .val (.ref b45), .val (.long (own_need 6 x1)), .second, .val (.long (0 : Int64)), .second] [(.long (0 : Int64)), (.long (own_need 6 x1))])) ?_ fun t_ k_ => XS.lload X53.here hx rfl (hb hby at_117) rfl  k_
      refine own_pre (B := T53.setTop (mkF m 120 #[.val (.int x0), .val (.int x1), .val (.int (6 : Int32)), .val (.ref b45), .val (.long (own_need 6 x1)), .second, .val (.long (0 : Int64)), .second] [(.int (lcmpW (own_need 6 x1) (0 : Int64)))])) ?_ fun t_ k_ => XS.lcmp X53.here hx rfl (hb hby at_119) rfl k_
      refine own_pre (B := T53.setTop (mkF m 123 #[.val (.int x0), .val (.int x1), .val (.int (6 : Int32)), .val (.ref b45), .val (.long (own_need 6 x1)), .second, .val (.long (0 : Int64)), .second] [])) ?_ fun t_ k_ => XS.ifNo X53.here hx rfl (hb hby at_120) rfl ((if0 _ _).trans (teq ((lw_eq (own_need 6 x1) (0 : Int64)).mpr (own_l0 6 (by decide) x1 h86_54))).2) k_
      refine own_pre (B := T53.setTop (mkF m 124 #[.val (.int x0), .val (.int x1), .val (.int (6 : Int32)), .val (.ref b45), .val (.long (own_need 6 x1)), .second, .val (.long (0 : Int64)), .second] [(.int (1 : Int32))])) ?_ fun t_ k_ => XS.iconst X53.here hx rfl (hb hby at_123) k_
      refine own_pre (B := T53.setTop (mkF m 128 #[.val (.int x0), .val (.int x1), .val (.int (6 : Int32)), .val (.ref b45), .val (.long (own_need 6 x1)), .second, .val (.long (0 : Int64)), .second] [(.int (1 : Int32))])) ?_ fun t_ k_ => XS.goto X53.here hx rfl (pc0 := 124) (pc' := 128) rfl (hb hby at_124) (by decide) (by decide) k_
      refine own_retN X53 hx hlk (t := .boolean) (z' := (1 : Int32)) Bd.returns (by simp) (hb hby at_128) (by decide) ?_ (by decide) (by decide)
      exact ⟨rfl, N53⟩
  · skip
    obtain ⟨T56, h56, X56, e56, E56, A56, D56, -, st56⟩ := newO X0 hx hZ hown (hw _ (List.mem_of_getElem? (i := 0) rfl)) (hw _ (List.mem_of_getElem? (i := 1) rfl)) (hw _ (List.mem_of_getElem? (i := 2) rfl)) e0 (g := (mkF m 5 #[.val (.int x0), .val (.int x1), .val (.int (7 : Int32)), .unset, .unset, .unset, .unset, .unset] [])) rfl (hb hby at_5) (by decide) (by decide)
    obtain ⟨b56, g56⟩ : ∃ z, z = h0.size := ⟨_, rfl⟩
    rw [← g56] at A56 D56 st56
    have Z56 : n0 ≤ h56.size := Nat.le_trans Z0 E56.1
    have gz56 : n0 ≤ b56 := Nat.le_trans Z0 (Nat.le_of_eq g56.symm)
    have F56_typeOf : Fld Z h56 b56 "com/example/nimfield/nimfield/FewestCoins" "typeOf" "[I" .null := D56 (Or.inr (hw _ (List.mem_of_getElem? (i := 11) rfl))) (ty := (.array .int)) (by decide)
    have F56_sizes : Fld Z h56 b56 "com/example/nimfield/nimfield/FewestCoins" "sizes" "[I" .null := D56 (Or.inl (hw _ (List.mem_of_getElem? (i := 13) rfl))) (ty := (.array .int)) (by decide)
    have F56_table : Fld Z h56 b56 "com/example/nimfield/nimfield/FewestCoins" "table" "[B" .null := D56 (Or.inl (hw _ (List.mem_of_getElem? (i := 16) rfl))) (ty := (.array .byte)) (by decide)
    have F56_bits : Fld Z h56 b56 "com/example/nimfield/nimfield/FewestCoins" "bits" "I" (.int (0 : Int32)) := D56 (Or.inl (hw _ (List.mem_of_getElem? (i := 31) rfl))) (ty := .int) (by decide)
    refine own_pre (B := T56.setTop (mkF m 8 #[.val (.int x0), .val (.int x1), .val (.int (7 : Int32)), .unset, .unset, .unset, .unset, .unset] [(.ref b56)])) ?_ st56
    refine own_pre (B := T56.setTop (mkF m 9 #[.val (.int x0), .val (.int x1), .val (.int (7 : Int32)), .unset, .unset, .unset, .unset, .unset] [(.ref b56), (.ref b56)])) ?_ fun t_ k_ => XS.dup X56.here hx rfl (hb hby at_8) rfl rfl k_
    obtain ⟨_, _, ⟨T57, L57, k57, n57⟩, -, X57, ⟨Lc57, hQ57, l57, y57, z57⟩, st57⟩ := X56.specialBack hx (y := (⟨"com/example/nimfield/nimfield/FewestCoins", "<init>", "()V"⟩ : MethodName)) rfl hown (mvT hZ (hw _ (List.mem_of_getElem? (i := 3) rfl))) (mvT hZ (hw _ (List.mem_of_getElem? (i := 4) rfl))) (mvT hZ (hw _ (List.mem_of_getElem? (i := 5) rfl))) (by decide) (backOf (W := 1) (rm1 l Z a0 hw [] b56 h56 n0 Z56 A56 F56_bits F56_typeOf F56_sizes F56_table gz56) hZ (hw _ (List.mem_of_getElem? (i := 5) rfl)) (hw _ (List.mem_of_getElem? (i := 2) rfl)) (by decide) (by decide)) (g := (mkF m 9 #[.val (.int x0), .val (.int x1), .val (.int (7 : Int32)), .unset, .unset, .unset, .unset, .unset] [(.ref b56), (.ref b56)])) rfl (by rw [hml]; rfl) (Steps.refl _) (a := b56) (argsL := []) (rest := [(.ref b56)]) (lenOf pd___V rfl) rfl (by show 2 * 0 + _ ≤ _; exact Nat.le_of_eq rfl) (hb hby at_9) (fun _ _ => ⟨rfl, e56, (by decide : 1 + 3 ≤ _), (by decide : 4 + 34 ≤ _)⟩)
    dsimp only [Pt.U, Pt.locs, Pt.cells, Pt.slots] at X57 l57 y57 z57 st57 hQ57
    subst l57 y57 z57
    obtain ⟨rfl, Nq57, K57, t, sa, tb, E57, ⟨gt, gs, gb, n1, n2, n3, n4, n5, n6⟩, Fb57, Ft57, Fs57, Fta57, At57, As57, Ab57⟩ := hQ57
    have N57 := Fr.app N0 Nq57
    have Z57 := Nat.le_trans Z56 K57.1
    refine own_pre (B := T57.setTop (mkF m 12 #[.val (.int x0), .val (.int x1), .val (.int (7 : Int32)), .unset, .unset, .unset, .unset, .unset] [(.ref b56)])) ?_ (fun t_ k_ => st57.trans k_)
    refine own_pre (B := T57.setTop (mkF m 13 #[.val (.int x0), .val (.int x1), .val (.int (7 : Int32)), .val (.ref b56), .unset, .unset, .unset, .unset] [])) ?_ fun t_ k_ => XS.astoreN X57.here hx rfl (hb hby at_12) rfl rfl (l' := #[.val (.int x0), .val (.int x1), .val (.int (7 : Int32)), .val (.ref b56), .unset, .unset, .unset, .unset]) rfl k_
    refine own_pre (B := T57.setTop (mkF m 14 #[.val (.int x0), .val (.int x1), .val (.int (7 : Int32)), .val (.ref b56), .unset, .unset, .unset, .unset] [(.int (7 : Int32))])) ?_ fun t_ k_ => XS.iloadN X57.here hx rfl (hb hby at_13) rfl  k_
    refine own_pre (B := T57.setTop (mkF m 15 #[.val (.int x0), .val (.int x1), .val (.int (7 : Int32)), .val (.ref b56), .unset, .unset, .unset, .unset] [(.int (1 : Int32)), (.int (7 : Int32))])) ?_ fun t_ k_ => XS.iconst X57.here hx rfl (hb hby at_14) k_
    refine own_pre (B := T57.setTop (mkF m 18 #[.val (.int x0), .val (.int x1), .val (.int (7 : Int32)), .val (.ref b56), .unset, .unset, .unset, .unset] [])) ?_ fun t_ k_ => XS.icmpNo X57.here hx rfl (hb hby at_15) rfl (flt (by decide : ¬ ((7 : Int32) < (1 : Int32)))).1 k_
    refine own_pre (B := T57.setTop (mkF m 19 #[.val (.int x0), .val (.int x1), .val (.int (7 : Int32)), .val (.ref b56), .unset, .unset, .unset, .unset] [(.ref b56)])) ?_ fun t_ k_ => XS.aloadN X57.here hx rfl (hb hby at_18) rfl rfl k_
    obtain ⟨cq58, kq58, q58a, q58b, q58c⟩ := isOf hZ rfl E57
    obtain ⟨_, _, ⟨T58, L58, k58, n58⟩, -, X58, ⟨Lc58, hQ58, l58, y58, z58⟩, st58⟩ := X57.virtualBack hx (y := (⟨"com/example/nimfield/nimfield/FewestCoins", "addCheckCoin", "()V"⟩ : MethodName)) (z := (⟨"com/example/nimfield/nimfield/FewestCoins", "addCheckCoin", "()V"⟩ : MethodName)) hown (mvT hZ (hw _ (List.mem_of_getElem? (i := 38) rfl))) (mvT hZ (hw _ (List.mem_of_getElem? (i := 39) rfl))) (notFace_of_selects (args := #[]) (mvT hZ (hw _ (List.mem_of_getElem? (i := 41) rfl)))) (mvT hZ (hw _ (List.mem_of_getElem? (i := 41) rfl))) (mvT hZ (hw _ (List.mem_of_getElem? (i := 40) rfl))) (by decide) (backOf (W := 0) (rm6 l Z a0 hw [] b56 t sa tb 0 T57.heap n0 Z57 E57 Fb57 Ft57 Fs57 Fta57 At57 As57 Ab57 n1 n2 n3 n4 n5 n6 gz56 gt gs (by decide)) hZ (hw _ (List.mem_of_getElem? (i := 42) rfl)) (hw _ (List.mem_of_getElem? (i := 2) rfl)) (by decide) (by decide)) q58a q58c (g := (mkF m 19 #[.val (.int x0), .val (.int x1), .val (.int (7 : Int32)), .val (.ref b56), .unset, .unset, .unset, .unset] [(.ref b56)])) rfl (by rw [hml]; rfl) (Steps.refl _) (argsL := []) (rest := []) (lenOf pd___V rfl) rfl (by show 2 * 0 + _ ≤ _; exact Nat.le_of_eq rfl) (hb hby at_19) (fun _ _ => ⟨rfl, rfl, (by decide : 4 + 0 ≤ _), (by decide : 38 + 0 ≤ _)⟩)
    dsimp only [Pt.U, Pt.locs, Pt.cells, Pt.slots] at X58 l58 y58 z58 st58 hQ58
    subst l58 y58 z58
    obtain ⟨rfl, Nq58, K58, E58, Fb58, Ft58, Fs58, Fta58, At58, As58, Ab58⟩ := hQ58
    have N58 := Fr.app N57 Nq58
    have Z58 := Nat.le_trans Z57 K58.1
    refine own_pre (B := T58.setTop (mkF m 22 #[.val (.int x0), .val (.int x1), .val (.int (7 : Int32)), .val (.ref b56), .unset, .unset, .unset, .unset] [])) ?_ (fun t_ k_ => st58.trans k_)
    refine own_pre (B := T58.setTop (mkF m 23 #[.val (.int x0), .val (.int x1), .val (.int (7 : Int32)), .val (.ref b56), .unset, .unset, .unset, .unset] [(.int (7 : Int32))])) ?_ fun t_ k_ => XS.iloadN X58.here hx rfl (hb hby at_22) rfl  k_
    refine own_pre (B := T58.setTop (mkF m 24 #[.val (.int x0), .val (.int x1), .val (.int (7 : Int32)), .val (.ref b56), .unset, .unset, .unset, .unset] [(.int (2 : Int32)), (.int (7 : Int32))])) ?_ fun t_ k_ => XS.iconst X58.here hx rfl (hb hby at_23) k_
    refine own_pre (B := T58.setTop (mkF m 27 #[.val (.int x0), .val (.int x1), .val (.int (7 : Int32)), .val (.ref b56), .unset, .unset, .unset, .unset] [])) ?_ fun t_ k_ => XS.icmpNo X58.here hx rfl (hb hby at_24) rfl (flt (by decide : ¬ ((7 : Int32) < (2 : Int32)))).1 k_
    refine own_pre (B := T58.setTop (mkF m 28 #[.val (.int x0), .val (.int x1), .val (.int (7 : Int32)), .val (.ref b56), .unset, .unset, .unset, .unset] [(.ref b56)])) ?_ fun t_ k_ => XS.aloadN X58.here hx rfl (hb hby at_27) rfl rfl k_
    obtain ⟨cq59, kq59, q59a, q59b, q59c⟩ := isOf hZ rfl E58
    obtain ⟨_, _, ⟨T59, L59, k59, n59⟩, -, X59, ⟨Lc59, hQ59, l59, y59, z59⟩, st59⟩ := X58.virtualBack hx (y := (⟨"com/example/nimfield/nimfield/FewestCoins", "addCheckCoin", "()V"⟩ : MethodName)) (z := (⟨"com/example/nimfield/nimfield/FewestCoins", "addCheckCoin", "()V"⟩ : MethodName)) hown (mvT hZ (hw _ (List.mem_of_getElem? (i := 38) rfl))) (mvT hZ (hw _ (List.mem_of_getElem? (i := 39) rfl))) (notFace_of_selects (args := #[]) (mvT hZ (hw _ (List.mem_of_getElem? (i := 41) rfl)))) (mvT hZ (hw _ (List.mem_of_getElem? (i := 41) rfl))) (mvT hZ (hw _ (List.mem_of_getElem? (i := 40) rfl))) (by decide) (backOf (W := 0) (rm6 l Z a0 hw [] b56 t sa tb 1 T58.heap n0 Z58 E58 Fb58 Ft58 Fs58 Fta58 At58 As58 Ab58 n1 n2 n3 n4 n5 n6 gz56 gt gs (by decide)) hZ (hw _ (List.mem_of_getElem? (i := 42) rfl)) (hw _ (List.mem_of_getElem? (i := 2) rfl)) (by decide) (by decide)) q59a q59c (g := (mkF m 28 #[.val (.int x0), .val (.int x1), .val (.int (7 : Int32)), .val (.ref b56), .unset, .unset, .unset, .unset] [(.ref b56)])) rfl (by rw [hml]; rfl) (Steps.refl _) (argsL := []) (rest := []) (lenOf pd___V rfl) rfl (by show 2 * 0 + _ ≤ _; exact Nat.le_of_eq rfl) (hb hby at_28) (fun _ _ => ⟨rfl, rfl, (by decide : 4 + 0 ≤ _), (by decide : 38 + 0 ≤ _)⟩)
    dsimp only [Pt.U, Pt.locs, Pt.cells, Pt.slots] at X59 l59 y59 z59 st59 hQ59
    subst l59 y59 z59
    obtain ⟨rfl, Nq59, K59, E59, Fb59, Ft59, Fs59, Fta59, At59, As59, Ab59⟩ := hQ59
    have N59 := Fr.app N58 Nq59
    have Z59 := Nat.le_trans Z58 K59.1
    refine own_pre (B := T59.setTop (mkF m 31 #[.val (.int x0), .val (.int x1), .val (.int (7 : Int32)), .val (.ref b56), .unset, .unset, .unset, .unset] [])) ?_ (fun t_ k_ => st59.trans k_)
    refine own_pre (B := T59.setTop (mkF m 32 #[.val (.int x0), .val (.int x1), .val (.int (7 : Int32)), .val (.ref b56), .unset, .unset, .unset, .unset] [(.int (7 : Int32))])) ?_ fun t_ k_ => XS.iloadN X59.here hx rfl (hb hby at_31) rfl  k_
    refine own_pre (B := T59.setTop (mkF m 33 #[.val (.int x0), .val (.int x1), .val (.int (7 : Int32)), .val (.ref b56), .unset, .unset, .unset, .unset] [(.int (3 : Int32)), (.int (7 : Int32))])) ?_ fun t_ k_ => XS.iconst X59.here hx rfl (hb hby at_32) k_
    refine own_pre (B := T59.setTop (mkF m 36 #[.val (.int x0), .val (.int x1), .val (.int (7 : Int32)), .val (.ref b56), .unset, .unset, .unset, .unset] [])) ?_ fun t_ k_ => XS.icmpNo X59.here hx rfl (hb hby at_33) rfl (flt (by decide : ¬ ((7 : Int32) < (3 : Int32)))).1 k_
    refine own_pre (B := T59.setTop (mkF m 37 #[.val (.int x0), .val (.int x1), .val (.int (7 : Int32)), .val (.ref b56), .unset, .unset, .unset, .unset] [(.ref b56)])) ?_ fun t_ k_ => XS.aloadN X59.here hx rfl (hb hby at_36) rfl rfl k_
    obtain ⟨cq60, kq60, q60a, q60b, q60c⟩ := isOf hZ rfl E59
    obtain ⟨_, _, ⟨T60, L60, k60, n60⟩, -, X60, ⟨Lc60, hQ60, l60, y60, z60⟩, st60⟩ := X59.virtualBack hx (y := (⟨"com/example/nimfield/nimfield/FewestCoins", "addCheckCoin", "()V"⟩ : MethodName)) (z := (⟨"com/example/nimfield/nimfield/FewestCoins", "addCheckCoin", "()V"⟩ : MethodName)) hown (mvT hZ (hw _ (List.mem_of_getElem? (i := 38) rfl))) (mvT hZ (hw _ (List.mem_of_getElem? (i := 39) rfl))) (notFace_of_selects (args := #[]) (mvT hZ (hw _ (List.mem_of_getElem? (i := 41) rfl)))) (mvT hZ (hw _ (List.mem_of_getElem? (i := 41) rfl))) (mvT hZ (hw _ (List.mem_of_getElem? (i := 40) rfl))) (by decide) (backOf (W := 0) (rm6 l Z a0 hw [] b56 t sa tb 2 T59.heap n0 Z59 E59 Fb59 Ft59 Fs59 Fta59 At59 As59 Ab59 n1 n2 n3 n4 n5 n6 gz56 gt gs (by decide)) hZ (hw _ (List.mem_of_getElem? (i := 42) rfl)) (hw _ (List.mem_of_getElem? (i := 2) rfl)) (by decide) (by decide)) q60a q60c (g := (mkF m 37 #[.val (.int x0), .val (.int x1), .val (.int (7 : Int32)), .val (.ref b56), .unset, .unset, .unset, .unset] [(.ref b56)])) rfl (by rw [hml]; rfl) (Steps.refl _) (argsL := []) (rest := []) (lenOf pd___V rfl) rfl (by show 2 * 0 + _ ≤ _; exact Nat.le_of_eq rfl) (hb hby at_37) (fun _ _ => ⟨rfl, rfl, (by decide : 4 + 0 ≤ _), (by decide : 38 + 0 ≤ _)⟩)
    dsimp only [Pt.U, Pt.locs, Pt.cells, Pt.slots] at X60 l60 y60 z60 st60 hQ60
    subst l60 y60 z60
    obtain ⟨rfl, Nq60, K60, E60, Fb60, Ft60, Fs60, Fta60, At60, As60, Ab60⟩ := hQ60
    have N60 := Fr.app N59 Nq60
    have Z60 := Nat.le_trans Z59 K60.1
    refine own_pre (B := T60.setTop (mkF m 40 #[.val (.int x0), .val (.int x1), .val (.int (7 : Int32)), .val (.ref b56), .unset, .unset, .unset, .unset] [])) ?_ (fun t_ k_ => st60.trans k_)
    refine own_pre (B := T60.setTop (mkF m 41 #[.val (.int x0), .val (.int x1), .val (.int (7 : Int32)), .val (.ref b56), .unset, .unset, .unset, .unset] [(.int (7 : Int32))])) ?_ fun t_ k_ => XS.iloadN X60.here hx rfl (hb hby at_40) rfl  k_
    refine own_pre (B := T60.setTop (mkF m 42 #[.val (.int x0), .val (.int x1), .val (.int (7 : Int32)), .val (.ref b56), .unset, .unset, .unset, .unset] [(.int (4 : Int32)), (.int (7 : Int32))])) ?_ fun t_ k_ => XS.iconst X60.here hx rfl (hb hby at_41) k_
    refine own_pre (B := T60.setTop (mkF m 45 #[.val (.int x0), .val (.int x1), .val (.int (7 : Int32)), .val (.ref b56), .unset, .unset, .unset, .unset] [])) ?_ fun t_ k_ => XS.icmpNo X60.here hx rfl (hb hby at_42) rfl (flt (by decide : ¬ ((7 : Int32) < (4 : Int32)))).1 k_
    refine own_pre (B := T60.setTop (mkF m 46 #[.val (.int x0), .val (.int x1), .val (.int (7 : Int32)), .val (.ref b56), .unset, .unset, .unset, .unset] [(.ref b56)])) ?_ fun t_ k_ => XS.aloadN X60.here hx rfl (hb hby at_45) rfl rfl k_
    obtain ⟨cq61, kq61, q61a, q61b, q61c⟩ := isOf hZ rfl E60
    obtain ⟨_, _, ⟨T61, L61, k61, n61⟩, -, X61, ⟨Lc61, hQ61, l61, y61, z61⟩, st61⟩ := X60.virtualBack hx (y := (⟨"com/example/nimfield/nimfield/FewestCoins", "addCheckCoin", "()V"⟩ : MethodName)) (z := (⟨"com/example/nimfield/nimfield/FewestCoins", "addCheckCoin", "()V"⟩ : MethodName)) hown (mvT hZ (hw _ (List.mem_of_getElem? (i := 38) rfl))) (mvT hZ (hw _ (List.mem_of_getElem? (i := 39) rfl))) (notFace_of_selects (args := #[]) (mvT hZ (hw _ (List.mem_of_getElem? (i := 41) rfl)))) (mvT hZ (hw _ (List.mem_of_getElem? (i := 41) rfl))) (mvT hZ (hw _ (List.mem_of_getElem? (i := 40) rfl))) (by decide) (backOf (W := 0) (rm6 l Z a0 hw [] b56 t sa tb 3 T60.heap n0 Z60 E60 Fb60 Ft60 Fs60 Fta60 At60 As60 Ab60 n1 n2 n3 n4 n5 n6 gz56 gt gs (by decide)) hZ (hw _ (List.mem_of_getElem? (i := 42) rfl)) (hw _ (List.mem_of_getElem? (i := 2) rfl)) (by decide) (by decide)) q61a q61c (g := (mkF m 46 #[.val (.int x0), .val (.int x1), .val (.int (7 : Int32)), .val (.ref b56), .unset, .unset, .unset, .unset] [(.ref b56)])) rfl (by rw [hml]; rfl) (Steps.refl _) (argsL := []) (rest := []) (lenOf pd___V rfl) rfl (by show 2 * 0 + _ ≤ _; exact Nat.le_of_eq rfl) (hb hby at_46) (fun _ _ => ⟨rfl, rfl, (by decide : 4 + 0 ≤ _), (by decide : 38 + 0 ≤ _)⟩)
    dsimp only [Pt.U, Pt.locs, Pt.cells, Pt.slots] at X61 l61 y61 z61 st61 hQ61
    subst l61 y61 z61
    obtain ⟨rfl, Nq61, K61, E61, Fb61, Ft61, Fs61, Fta61, At61, As61, Ab61⟩ := hQ61
    have N61 := Fr.app N60 Nq61
    have Z61 := Nat.le_trans Z60 K61.1
    refine own_pre (B := T61.setTop (mkF m 49 #[.val (.int x0), .val (.int x1), .val (.int (7 : Int32)), .val (.ref b56), .unset, .unset, .unset, .unset] [])) ?_ (fun t_ k_ => st61.trans k_)
    refine own_pre (B := T61.setTop (mkF m 50 #[.val (.int x0), .val (.int x1), .val (.int (7 : Int32)), .val (.ref b56), .unset, .unset, .unset, .unset] [(.int (7 : Int32))])) ?_ fun t_ k_ => XS.iloadN X61.here hx rfl (hb hby at_49) rfl  k_
    refine own_pre (B := T61.setTop (mkF m 51 #[.val (.int x0), .val (.int x1), .val (.int (7 : Int32)), .val (.ref b56), .unset, .unset, .unset, .unset] [(.int (5 : Int32)), (.int (7 : Int32))])) ?_ fun t_ k_ => XS.iconst X61.here hx rfl (hb hby at_50) k_
    refine own_pre (B := T61.setTop (mkF m 54 #[.val (.int x0), .val (.int x1), .val (.int (7 : Int32)), .val (.ref b56), .unset, .unset, .unset, .unset] [])) ?_ fun t_ k_ => XS.icmpNo X61.here hx rfl (hb hby at_51) rfl (flt (by decide : ¬ ((7 : Int32) < (5 : Int32)))).1 k_
    refine own_pre (B := T61.setTop (mkF m 55 #[.val (.int x0), .val (.int x1), .val (.int (7 : Int32)), .val (.ref b56), .unset, .unset, .unset, .unset] [(.ref b56)])) ?_ fun t_ k_ => XS.aloadN X61.here hx rfl (hb hby at_54) rfl rfl k_
    obtain ⟨cq62, kq62, q62a, q62b, q62c⟩ := isOf hZ rfl E61
    obtain ⟨_, _, ⟨T62, L62, k62, n62⟩, -, X62, ⟨Lc62, hQ62, l62, y62, z62⟩, st62⟩ := X61.virtualBack hx (y := (⟨"com/example/nimfield/nimfield/FewestCoins", "addCheckCoin", "()V"⟩ : MethodName)) (z := (⟨"com/example/nimfield/nimfield/FewestCoins", "addCheckCoin", "()V"⟩ : MethodName)) hown (mvT hZ (hw _ (List.mem_of_getElem? (i := 38) rfl))) (mvT hZ (hw _ (List.mem_of_getElem? (i := 39) rfl))) (notFace_of_selects (args := #[]) (mvT hZ (hw _ (List.mem_of_getElem? (i := 41) rfl)))) (mvT hZ (hw _ (List.mem_of_getElem? (i := 41) rfl))) (mvT hZ (hw _ (List.mem_of_getElem? (i := 40) rfl))) (by decide) (backOf (W := 0) (rm6 l Z a0 hw [] b56 t sa tb 4 T61.heap n0 Z61 E61 Fb61 Ft61 Fs61 Fta61 At61 As61 Ab61 n1 n2 n3 n4 n5 n6 gz56 gt gs (by decide)) hZ (hw _ (List.mem_of_getElem? (i := 42) rfl)) (hw _ (List.mem_of_getElem? (i := 2) rfl)) (by decide) (by decide)) q62a q62c (g := (mkF m 55 #[.val (.int x0), .val (.int x1), .val (.int (7 : Int32)), .val (.ref b56), .unset, .unset, .unset, .unset] [(.ref b56)])) rfl (by rw [hml]; rfl) (Steps.refl _) (argsL := []) (rest := []) (lenOf pd___V rfl) rfl (by show 2 * 0 + _ ≤ _; exact Nat.le_of_eq rfl) (hb hby at_55) (fun _ _ => ⟨rfl, rfl, (by decide : 4 + 0 ≤ _), (by decide : 38 + 0 ≤ _)⟩)
    dsimp only [Pt.U, Pt.locs, Pt.cells, Pt.slots] at X62 l62 y62 z62 st62 hQ62
    subst l62 y62 z62
    obtain ⟨rfl, Nq62, K62, E62, Fb62, Ft62, Fs62, Fta62, At62, As62, Ab62⟩ := hQ62
    have N62 := Fr.app N61 Nq62
    have Z62 := Nat.le_trans Z61 K62.1
    refine own_pre (B := T62.setTop (mkF m 58 #[.val (.int x0), .val (.int x1), .val (.int (7 : Int32)), .val (.ref b56), .unset, .unset, .unset, .unset] [])) ?_ (fun t_ k_ => st62.trans k_)
    refine own_pre (B := T62.setTop (mkF m 59 #[.val (.int x0), .val (.int x1), .val (.int (7 : Int32)), .val (.ref b56), .unset, .unset, .unset, .unset] [(.int (7 : Int32))])) ?_ fun t_ k_ => XS.iloadN X62.here hx rfl (hb hby at_58) rfl  k_
    refine own_pre (B := T62.setTop (mkF m 61 #[.val (.int x0), .val (.int x1), .val (.int (7 : Int32)), .val (.ref b56), .unset, .unset, .unset, .unset] [(.int (6 : Int32)), (.int (7 : Int32))])) ?_ fun t_ k_ => XS.bipush X62.here hx rfl (hb hby at_59) k_
    refine own_pre (B := T62.setTop (mkF m 64 #[.val (.int x0), .val (.int x1), .val (.int (7 : Int32)), .val (.ref b56), .unset, .unset, .unset, .unset] [])) ?_ fun t_ k_ => XS.icmpNo X62.here hx rfl (hb hby at_61) rfl (flt (by decide : ¬ ((7 : Int32) < (6 : Int32)))).1 k_
    refine own_pre (B := T62.setTop (mkF m 65 #[.val (.int x0), .val (.int x1), .val (.int (7 : Int32)), .val (.ref b56), .unset, .unset, .unset, .unset] [(.ref b56)])) ?_ fun t_ k_ => XS.aloadN X62.here hx rfl (hb hby at_64) rfl rfl k_
    obtain ⟨cq63, kq63, q63a, q63b, q63c⟩ := isOf hZ rfl E62
    obtain ⟨_, _, ⟨T63, L63, k63, n63⟩, -, X63, ⟨Lc63, hQ63, l63, y63, z63⟩, st63⟩ := X62.virtualBack hx (y := (⟨"com/example/nimfield/nimfield/FewestCoins", "addCheckCoin", "()V"⟩ : MethodName)) (z := (⟨"com/example/nimfield/nimfield/FewestCoins", "addCheckCoin", "()V"⟩ : MethodName)) hown (mvT hZ (hw _ (List.mem_of_getElem? (i := 38) rfl))) (mvT hZ (hw _ (List.mem_of_getElem? (i := 39) rfl))) (notFace_of_selects (args := #[]) (mvT hZ (hw _ (List.mem_of_getElem? (i := 41) rfl)))) (mvT hZ (hw _ (List.mem_of_getElem? (i := 41) rfl))) (mvT hZ (hw _ (List.mem_of_getElem? (i := 40) rfl))) (by decide) (backOf (W := 0) (rm6 l Z a0 hw [] b56 t sa tb 5 T62.heap n0 Z62 E62 Fb62 Ft62 Fs62 Fta62 At62 As62 Ab62 n1 n2 n3 n4 n5 n6 gz56 gt gs (by decide)) hZ (hw _ (List.mem_of_getElem? (i := 42) rfl)) (hw _ (List.mem_of_getElem? (i := 2) rfl)) (by decide) (by decide)) q63a q63c (g := (mkF m 65 #[.val (.int x0), .val (.int x1), .val (.int (7 : Int32)), .val (.ref b56), .unset, .unset, .unset, .unset] [(.ref b56)])) rfl (by rw [hml]; rfl) (Steps.refl _) (argsL := []) (rest := []) (lenOf pd___V rfl) rfl (by show 2 * 0 + _ ≤ _; exact Nat.le_of_eq rfl) (hb hby at_65) (fun _ _ => ⟨rfl, rfl, (by decide : 4 + 0 ≤ _), (by decide : 38 + 0 ≤ _)⟩)
    dsimp only [Pt.U, Pt.locs, Pt.cells, Pt.slots] at X63 l63 y63 z63 st63 hQ63
    subst l63 y63 z63
    obtain ⟨rfl, Nq63, K63, E63, Fb63, Ft63, Fs63, Fta63, At63, As63, Ab63⟩ := hQ63
    have N63 := Fr.app N62 Nq63
    have Z63 := Nat.le_trans Z62 K63.1
    refine own_pre (B := T63.setTop (mkF m 68 #[.val (.int x0), .val (.int x1), .val (.int (7 : Int32)), .val (.ref b56), .unset, .unset, .unset, .unset] [])) ?_ (fun t_ k_ => st63.trans k_)
    refine own_pre (B := T63.setTop (mkF m 69 #[.val (.int x0), .val (.int x1), .val (.int (7 : Int32)), .val (.ref b56), .unset, .unset, .unset, .unset] [(.int (7 : Int32))])) ?_ fun t_ k_ => XS.iloadN X63.here hx rfl (hb hby at_68) rfl  k_
    refine own_pre (B := T63.setTop (mkF m 71 #[.val (.int x0), .val (.int x1), .val (.int (7 : Int32)), .val (.ref b56), .unset, .unset, .unset, .unset] [(.int (7 : Int32)), (.int (7 : Int32))])) ?_ fun t_ k_ => XS.bipush X63.here hx rfl (hb hby at_69) k_
    refine own_pre (B := T63.setTop (mkF m 74 #[.val (.int x0), .val (.int x1), .val (.int (7 : Int32)), .val (.ref b56), .unset, .unset, .unset, .unset] [])) ?_ fun t_ k_ => XS.icmpNo X63.here hx rfl (hb hby at_71) rfl (flt (by decide : ¬ ((7 : Int32) < (7 : Int32)))).1 k_
    refine own_pre (B := T63.setTop (mkF m 75 #[.val (.int x0), .val (.int x1), .val (.int (7 : Int32)), .val (.ref b56), .unset, .unset, .unset, .unset] [(.ref b56)])) ?_ fun t_ k_ => XS.aloadN X63.here hx rfl (hb hby at_74) rfl rfl k_
    obtain ⟨cq64, kq64, q64a, q64b, q64c⟩ := isOf hZ rfl E63
    obtain ⟨_, _, ⟨T64, L64, k64, n64⟩, -, X64, ⟨Lc64, hQ64, l64, y64, z64⟩, st64⟩ := X63.virtualBack hx (y := (⟨"com/example/nimfield/nimfield/FewestCoins", "addCheckCoin", "()V"⟩ : MethodName)) (z := (⟨"com/example/nimfield/nimfield/FewestCoins", "addCheckCoin", "()V"⟩ : MethodName)) hown (mvT hZ (hw _ (List.mem_of_getElem? (i := 38) rfl))) (mvT hZ (hw _ (List.mem_of_getElem? (i := 39) rfl))) (notFace_of_selects (args := #[]) (mvT hZ (hw _ (List.mem_of_getElem? (i := 41) rfl)))) (mvT hZ (hw _ (List.mem_of_getElem? (i := 41) rfl))) (mvT hZ (hw _ (List.mem_of_getElem? (i := 40) rfl))) (by decide) (backOf (W := 0) (rm6 l Z a0 hw [] b56 t sa tb 6 T63.heap n0 Z63 E63 Fb63 Ft63 Fs63 Fta63 At63 As63 Ab63 n1 n2 n3 n4 n5 n6 gz56 gt gs (by decide)) hZ (hw _ (List.mem_of_getElem? (i := 42) rfl)) (hw _ (List.mem_of_getElem? (i := 2) rfl)) (by decide) (by decide)) q64a q64c (g := (mkF m 75 #[.val (.int x0), .val (.int x1), .val (.int (7 : Int32)), .val (.ref b56), .unset, .unset, .unset, .unset] [(.ref b56)])) rfl (by rw [hml]; rfl) (Steps.refl _) (argsL := []) (rest := []) (lenOf pd___V rfl) rfl (by show 2 * 0 + _ ≤ _; exact Nat.le_of_eq rfl) (hb hby at_75) (fun _ _ => ⟨rfl, rfl, (by decide : 4 + 0 ≤ _), (by decide : 38 + 0 ≤ _)⟩)
    dsimp only [Pt.U, Pt.locs, Pt.cells, Pt.slots] at X64 l64 y64 z64 st64 hQ64
    subst l64 y64 z64
    obtain ⟨rfl, Nq64, K64, E64, Fb64, Ft64, Fs64, Fta64, At64, As64, Ab64⟩ := hQ64
    have N64 := Fr.app N63 Nq64
    have Z64 := Nat.le_trans Z63 K64.1
    refine own_pre (B := T64.setTop (mkF m 78 #[.val (.int x0), .val (.int x1), .val (.int (7 : Int32)), .val (.ref b56), .unset, .unset, .unset, .unset] [])) ?_ (fun t_ k_ => st64.trans k_)
    refine own_pre (B := T64.setTop (mkF m 79 #[.val (.int x0), .val (.int x1), .val (.int (7 : Int32)), .val (.ref b56), .unset, .unset, .unset, .unset] [(.ref b56)])) ?_ fun t_ k_ => XS.aloadN X64.here hx rfl (hb hby at_78) rfl rfl k_
    refine own_pre (B := T64.setTop (mkF m 80 #[.val (.int x0), .val (.int x1), .val (.int (7 : Int32)), .val (.ref b56), .unset, .unset, .unset, .unset] [(.int x1), (.ref b56)])) ?_ fun t_ k_ => XS.iloadN X64.here hx rfl (hb hby at_79) rfl  k_
    obtain ⟨cq65, kq65, q65a, q65b, q65c⟩ := isOf hZ rfl E64
    obtain ⟨_, _, ⟨T65, L65, k65, n65⟩, -, X65, ⟨Lc65, hQ65, l65, y65, z65⟩, st65⟩ := X64.virtualBack hx (y := (⟨"com/example/nimfield/nimfield/FewestCoins", "leastNeeding", "(I)J"⟩ : MethodName)) (z := (⟨"com/example/nimfield/nimfield/FewestCoins", "leastNeeding", "(I)J"⟩ : MethodName)) hown (mvT hZ (hw _ (List.mem_of_getElem? (i := 17) rfl))) (mvT hZ (hw _ (List.mem_of_getElem? (i := 18) rfl))) (notFace_of_selects (args := #[]) (mvT hZ (hw _ (List.mem_of_getElem? (i := 20) rfl)))) (mvT hZ (hw _ (List.mem_of_getElem? (i := 20) rfl))) (mvT hZ (hw _ (List.mem_of_getElem? (i := 19) rfl))) (by decide) (backOf (W := 0) (rm3 l Z a0 hw [] b56 x1 t sa tb 7 T64.heap n0 Z64 E64 Fb64 Ft64 Fs64 Fta64 At64 As64 Ab64 (by decide)) hZ (hw _ (List.mem_of_getElem? (i := 21) rfl)) (hw _ (List.mem_of_getElem? (i := 2) rfl)) (by decide) (by decide)) q65a q65c (g := (mkF m 80 #[.val (.int x0), .val (.int x1), .val (.int (7 : Int32)), .val (.ref b56), .unset, .unset, .unset, .unset] [(.int x1), (.ref b56)])) rfl (by rw [hml]; rfl) (Steps.refl _) (argsL := [(.int x1)]) (rest := []) (lenOf pd__I_J rfl) rfl (by show 2 * 0 + _ ≤ _; exact Nat.le_of_eq rfl) (hb hby at_80) (fun _ _ => ⟨rfl, rfl, (by decide : 4 + 4 ≤ _), (by decide : 38 + 11 ≤ _)⟩)
    dsimp only [Pt.U, Pt.locs, Pt.cells, Pt.slots] at X65 l65 y65 z65 st65 hQ65
    subst l65 y65 z65
    obtain ⟨rfl, Nq65, K65⟩ := hQ65
    have N65 := Fr.app N64 Nq65
    have Z65 := Nat.le_trans Z64 K65.1
    refine own_pre (B := T65.setTop (mkF m 83 #[.val (.int x0), .val (.int x1), .val (.int (7 : Int32)), .val (.ref b56), .unset, .unset, .unset, .unset] [(.long (own_need 7 x1))])) ?_ (fun t_ k_ => st65.trans k_)
    refine own_pre (B := T65.setTop (mkF m 85 #[.val (.int x0), .val (.int x1), .val (.int (7 : Int32)), .val (.ref b56), .val (.long (own_need 7 x1)), .second, .unset, .unset] [])) ?_ fun t_ k_ => XS.lstore X65.here hx rfl (hb hby at_83) rfl  (l' := #[.val (.int x0), .val (.int x1), .val (.int (7 : Int32)), .val (.ref b56), .val (.long (own_need 7 x1)), .second, .unset, .unset]) rfl k_
    refine own_pre (B := T65.setTop (mkF m 86 #[.val (.int x0), .val (.int x1), .val (.int (7 : Int32)), .val (.ref b56), .val (.long (own_need 7 x1)), .second, .unset, .unset] [(.int x1)])) ?_ fun t_ k_ => XS.iloadN X65.here hx rfl (hb hby at_85) rfl  k_
    by_cases h86_66 : (0 : Int32) < x1
    · skip
      refine own_pre (B := T65.setTop (mkF m 95 #[.val (.int x0), .val (.int x1), .val (.int (7 : Int32)), .val (.ref b56), .val (.long (own_need 7 x1)), .second, .unset, .unset] [])) ?_ fun t_ k_ => XS.ifYes X65.here hx rfl (pc0 := 86) (pc' := 95) rfl (hb hby at_86) rfl ((if0 _ _).trans (tlt h86_66).2.2.1) (by decide) (by decide) k_
      refine own_pre (B := T65.setTop (mkF m 96 #[.val (.int x0), .val (.int x1), .val (.int (7 : Int32)), .val (.ref b56), .val (.long (own_need 7 x1)), .second, .unset, .unset] [(.int x1)])) ?_ fun t_ k_ => XS.iloadN X65.here hx rfl (hb hby at_95) rfl  k_
      refine own_pre (B := T65.setTop (mkF m 97 #[.val (.int x0), .val (.int x1), .val (.int (7 : Int32)), .val (.ref b56), .val (.long (own_need 7 x1)), .second, .unset, .unset] [(.int (7 : Int32)), (.int x1)])) ?_ fun t_ k_ => XS.iloadN X65.here hx rfl (hb hby at_96) rfl  k_
      by_cases h97_67 : (7 : Int32) < x1
      · skip
        refine own_pre (B := T65.setTop (mkF m 110 #[.val (.int x0), .val (.int x1), .val (.int (7 : Int32)), .val (.ref b56), .val (.long (own_need 7 x1)), .second, .unset, .unset] [])) ?_ fun t_ k_ => XS.icmpYes X65.here hx rfl (pc0 := 97) (pc' := 110) rfl (hb hby at_97) rfl (tlt h97_67).2.2.1 (by decide) (by decide) k_
        refine own_pre (B := T65.setTop (mkF m 113 #[.val (.int x0), .val (.int x1), .val (.int (7 : Int32)), .val (.ref b56), .val (.long (own_need 7 x1)), .second, .unset, .unset] [(.long (-1 : Int64))])) ?_ (X65.ldc2Long hx hown (mvT hZ (hw _ (List.mem_of_getElem? (i := 37) rfl))) (g := (mkF m 110 #[.val (.int x0), .val (.int x1), .val (.int (7 : Int32)), .val (.ref b56), .val (.long (own_need 7 x1)), .second, .unset, .unset] [])) rfl (hb hby at_110))
        refine own_pre (B := T65.setTop (mkF m 115 #[.val (.int x0), .val (.int x1), .val (.int (7 : Int32)), .val (.ref b56), .val (.long (own_need 7 x1)), .second, .val (.long (-1 : Int64)), .second] [])) ?_ fun t_ k_ => XS.lstore X65.here hx rfl (hb hby at_113) rfl  (l' := #[.val (.int x0), .val (.int x1), .val (.int (7 : Int32)), .val (.ref b56), .val (.long (own_need 7 x1)), .second, .val (.long (-1 : Int64)), .second]) rfl k_
        refine own_pre (B := T65.setTop (mkF m 117 #[.val (.int x0), .val (.int x1), .val (.int (7 : Int32)), .val (.ref b56), .val (.long (own_need 7 x1)), .second, .val (.long (-1 : Int64)), .second] [(.long (own_need 7 x1))])) ?_ fun t_ k_ => XS.lload X65.here hx rfl (hb hby at_115) rfl  k_
        refine own_pre (B := T65.setTop (mkF m 119 #[.val (.int x0), .val (.int x1), .val (.int (7 : Int32)), .val (.ref b56), .val (.long (own_need 7 x1)), .second, .val (.long (-1 : Int64)), .second] [(.long (-1 : Int64)), (.long (own_need 7 x1))])) ?_ fun t_ k_ => XS.lload X65.here hx rfl (hb hby at_117) rfl  k_
        refine own_pre (B := T65.setTop (mkF m 120 #[.val (.int x0), .val (.int x1), .val (.int (7 : Int32)), .val (.ref b56), .val (.long (own_need 7 x1)), .second, .val (.long (-1 : Int64)), .second] [(.int (lcmpW (own_need 7 x1) (-1 : Int64)))])) ?_ fun t_ k_ => XS.lcmp X65.here hx rfl (hb hby at_119) rfl k_
        refine own_pre (B := T65.setTop (mkF m 123 #[.val (.int x0), .val (.int x1), .val (.int (7 : Int32)), .val (.ref b56), .val (.long (own_need 7 x1)), .second, .val (.long (-1 : Int64)), .second] [])) ?_ fun t_ k_ => XS.ifNo X65.here hx rfl (hb hby at_120) rfl ((if0 _ _).trans (teq ((lw_eq (own_need 7 x1) (-1 : Int64)).mpr (own_l2 7 (by decide) x1 h86_66 h97_67))).2) k_
        refine own_pre (B := T65.setTop (mkF m 124 #[.val (.int x0), .val (.int x1), .val (.int (7 : Int32)), .val (.ref b56), .val (.long (own_need 7 x1)), .second, .val (.long (-1 : Int64)), .second] [(.int (1 : Int32))])) ?_ fun t_ k_ => XS.iconst X65.here hx rfl (hb hby at_123) k_
        refine own_pre (B := T65.setTop (mkF m 128 #[.val (.int x0), .val (.int x1), .val (.int (7 : Int32)), .val (.ref b56), .val (.long (own_need 7 x1)), .second, .val (.long (-1 : Int64)), .second] [(.int (1 : Int32))])) ?_ fun t_ k_ => XS.goto X65.here hx rfl (pc0 := 124) (pc' := 128) rfl (hb hby at_124) (by decide) (by decide) k_
        refine own_retN X65 hx hlk (t := .boolean) (z' := (1 : Int32)) Bd.returns (by simp) (hb hby at_128) (by decide) ?_ (by decide) (by decide)
        exact ⟨rfl, N65⟩
      · skip
        refine own_pre (B := T65.setTop (mkF m 100 #[.val (.int x0), .val (.int x1), .val (.int (7 : Int32)), .val (.ref b56), .val (.long (own_need 7 x1)), .second, .unset, .unset] [])) ?_ fun t_ k_ => XS.icmpNo X65.here hx rfl (hb hby at_97) rfl (flt h97_67).2.2.1 k_
        refine own_pre (B := T65.setTop (mkF m 101 #[.val (.int x0), .val (.int x1), .val (.int (7 : Int32)), .val (.ref b56), .val (.long (own_need 7 x1)), .second, .unset, .unset] [(.long (1 : Int64))])) ?_ fun t_ k_ => XS.lconst X65.here hx rfl (hb hby at_100) k_
        refine own_pre (B := T65.setTop (mkF m 102 #[.val (.int x0), .val (.int x1), .val (.int (7 : Int32)), .val (.ref b56), .val (.long (own_need 7 x1)), .second, .unset, .unset] [(.int x1), (.long (1 : Int64))])) ?_ fun t_ k_ => XS.iloadN X65.here hx rfl (hb hby at_101) rfl  k_
        refine own_pre (B := T65.setTop (mkF m 103 #[.val (.int x0), .val (.int x1), .val (.int (7 : Int32)), .val (.ref b56), .val (.long (own_need 7 x1)), .second, .unset, .unset] [(.long ((1 : Int64) <<< (x1 &&& 0x3f).toInt64))])) ?_ fun t_ k_ => XS.lshl X65.here hx rfl (hb hby at_102) rfl k_
        refine own_pre (B := T65.setTop (mkF m 104 #[.val (.int x0), .val (.int x1), .val (.int (7 : Int32)), .val (.ref b56), .val (.long (own_need 7 x1)), .second, .unset, .unset] [(.long (1 : Int64)), (.long ((1 : Int64) <<< (x1 &&& 0x3f).toInt64))])) ?_ fun t_ k_ => XS.lconst X65.here hx rfl (hb hby at_103) k_
        refine own_pre (B := T65.setTop (mkF m 105 #[.val (.int x0), .val (.int x1), .val (.int (7 : Int32)), .val (.ref b56), .val (.long (own_need 7 x1)), .second, .unset, .unset] [(.long (((1 : Int64) <<< (x1 &&& 0x3f).toInt64) - (1 : Int64)))])) ?_ fun t_ k_ => XS.lsub X65.here hx rfl (hb hby at_104) rfl k_
        refine own_pre (B := T65.setTop (mkF m 107 #[.val (.int x0), .val (.int x1), .val (.int (7 : Int32)), .val (.ref b56), .val (.long (own_need 7 x1)), .second, .val (.long (((1 : Int64) <<< (x1 &&& 0x3f).toInt64) - (1 : Int64))), .second] [])) ?_ fun t_ k_ => XS.lstore X65.here hx rfl (hb hby at_105) rfl  (l' := #[.val (.int x0), .val (.int x1), .val (.int (7 : Int32)), .val (.ref b56), .val (.long (own_need 7 x1)), .second, .val (.long (((1 : Int64) <<< (x1 &&& 0x3f).toInt64) - (1 : Int64))), .second]) rfl k_
        refine own_pre (B := T65.setTop (mkF m 115 #[.val (.int x0), .val (.int x1), .val (.int (7 : Int32)), .val (.ref b56), .val (.long (own_need 7 x1)), .second, .val (.long (((1 : Int64) <<< (x1 &&& 0x3f).toInt64) - (1 : Int64))), .second] [])) ?_ fun t_ k_ => XS.goto X65.here hx rfl (pc0 := 107) (pc' := 115) rfl (hb hby at_107) (by decide) (by decide) k_
        refine own_pre (B := T65.setTop (mkF m 117 #[.val (.int x0), .val (.int x1), .val (.int (7 : Int32)), .val (.ref b56), .val (.long (own_need 7 x1)), .second, .val (.long (((1 : Int64) <<< (x1 &&& 0x3f).toInt64) - (1 : Int64))), .second] [(.long (own_need 7 x1))])) ?_ fun t_ k_ => XS.lload X65.here hx rfl (hb hby at_115) rfl  k_
        refine own_pre (B := T65.setTop (mkF m 119 #[.val (.int x0), .val (.int x1), .val (.int (7 : Int32)), .val (.ref b56), .val (.long (own_need 7 x1)), .second, .val (.long (((1 : Int64) <<< (x1 &&& 0x3f).toInt64) - (1 : Int64))), .second] [(.long (((1 : Int64) <<< (x1 &&& 0x3f).toInt64) - (1 : Int64))), (.long (own_need 7 x1))])) ?_ fun t_ k_ => XS.lload X65.here hx rfl (hb hby at_117) rfl  k_
        refine own_pre (B := T65.setTop (mkF m 120 #[.val (.int x0), .val (.int x1), .val (.int (7 : Int32)), .val (.ref b56), .val (.long (own_need 7 x1)), .second, .val (.long (((1 : Int64) <<< (x1 &&& 0x3f).toInt64) - (1 : Int64))), .second] [(.int (lcmpW (own_need 7 x1) (((1 : Int64) <<< (x1 &&& 0x3f).toInt64) - (1 : Int64))))])) ?_ fun t_ k_ => XS.lcmp X65.here hx rfl (hb hby at_119) rfl k_
        refine own_pre (B := T65.setTop (mkF m 123 #[.val (.int x0), .val (.int x1), .val (.int (7 : Int32)), .val (.ref b56), .val (.long (own_need 7 x1)), .second, .val (.long (((1 : Int64) <<< (x1 &&& 0x3f).toInt64) - (1 : Int64))), .second] [])) ?_ fun t_ k_ => XS.ifNo X65.here hx rfl (hb hby at_120) rfl ((if0 _ _).trans (teq ((lw_eq (own_need 7 x1) (((1 : Int64) <<< (x1 &&& 0x3f).toInt64) - (1 : Int64))).mpr (own_l1 7 (by decide) x1 h86_66 h97_67))).2) k_
        refine own_pre (B := T65.setTop (mkF m 124 #[.val (.int x0), .val (.int x1), .val (.int (7 : Int32)), .val (.ref b56), .val (.long (own_need 7 x1)), .second, .val (.long (((1 : Int64) <<< (x1 &&& 0x3f).toInt64) - (1 : Int64))), .second] [(.int (1 : Int32))])) ?_ fun t_ k_ => XS.iconst X65.here hx rfl (hb hby at_123) k_
        refine own_pre (B := T65.setTop (mkF m 128 #[.val (.int x0), .val (.int x1), .val (.int (7 : Int32)), .val (.ref b56), .val (.long (own_need 7 x1)), .second, .val (.long (((1 : Int64) <<< (x1 &&& 0x3f).toInt64) - (1 : Int64))), .second] [(.int (1 : Int32))])) ?_ fun t_ k_ => XS.goto X65.here hx rfl (pc0 := 124) (pc' := 128) rfl (hb hby at_124) (by decide) (by decide) k_
        refine own_retN X65 hx hlk (t := .boolean) (z' := (1 : Int32)) Bd.returns (by simp) (hb hby at_128) (by decide) ?_ (by decide) (by decide)
        exact ⟨rfl, N65⟩
    · skip
      refine own_pre (B := T65.setTop (mkF m 89 #[.val (.int x0), .val (.int x1), .val (.int (7 : Int32)), .val (.ref b56), .val (.long (own_need 7 x1)), .second, .unset, .unset] [])) ?_ fun t_ k_ => XS.ifNo X65.here hx rfl (hb hby at_86) rfl ((if0 _ _).trans (flt h86_66).2.2.1) k_
      refine own_pre (B := T65.setTop (mkF m 90 #[.val (.int x0), .val (.int x1), .val (.int (7 : Int32)), .val (.ref b56), .val (.long (own_need 7 x1)), .second, .unset, .unset] [(.long (0 : Int64))])) ?_ fun t_ k_ => XS.lconst X65.here hx rfl (hb hby at_89) k_
      refine own_pre (B := T65.setTop (mkF m 92 #[.val (.int x0), .val (.int x1), .val (.int (7 : Int32)), .val (.ref b56), .val (.long (own_need 7 x1)), .second, .val (.long (0 : Int64)), .second] [])) ?_ fun t_ k_ => XS.lstore X65.here hx rfl (hb hby at_90) rfl  (l' := #[.val (.int x0), .val (.int x1), .val (.int (7 : Int32)), .val (.ref b56), .val (.long (own_need 7 x1)), .second, .val (.long (0 : Int64)), .second]) rfl k_
      refine own_pre (B := T65.setTop (mkF m 115 #[.val (.int x0), .val (.int x1), .val (.int (7 : Int32)), .val (.ref b56), .val (.long (own_need 7 x1)), .second, .val (.long (0 : Int64)), .second] [])) ?_ fun t_ k_ => XS.goto X65.here hx rfl (pc0 := 92) (pc' := 115) rfl (hb hby at_92) (by decide) (by decide) k_
      refine own_pre (B := T65.setTop (mkF m 117 #[.val (.int x0), .val (.int x1), .val (.int (7 : Int32)), .val (.ref b56), .val (.long (own_need 7 x1)), .second, .val (.long (0 : Int64)), .second] [(.long (own_need 7 x1))])) ?_ fun t_ k_ => XS.lload X65.here hx rfl (hb hby at_115) rfl  k_
      refine own_pre (B := T65.setTop (mkF m 119 #[.val (.int x0), .val (.int x1), .val (.int (7 : Int32)), .val (.ref b56), .val (.long (own_need 7 x1)), .second, .val (.long (0 : Int64)), .second] [(.long (0 : Int64)), (.long (own_need 7 x1))])) ?_ fun t_ k_ => XS.lload X65.here hx rfl (hb hby at_117) rfl  k_
      refine own_pre (B := T65.setTop (mkF m 120 #[.val (.int x0), .val (.int x1), .val (.int (7 : Int32)), .val (.ref b56), .val (.long (own_need 7 x1)), .second, .val (.long (0 : Int64)), .second] [(.int (lcmpW (own_need 7 x1) (0 : Int64)))])) ?_ fun t_ k_ => XS.lcmp X65.here hx rfl (hb hby at_119) rfl k_
      refine own_pre (B := T65.setTop (mkF m 123 #[.val (.int x0), .val (.int x1), .val (.int (7 : Int32)), .val (.ref b56), .val (.long (own_need 7 x1)), .second, .val (.long (0 : Int64)), .second] [])) ?_ fun t_ k_ => XS.ifNo X65.here hx rfl (hb hby at_120) rfl ((if0 _ _).trans (teq ((lw_eq (own_need 7 x1) (0 : Int64)).mpr (own_l0 7 (by decide) x1 h86_66))).2) k_
      refine own_pre (B := T65.setTop (mkF m 124 #[.val (.int x0), .val (.int x1), .val (.int (7 : Int32)), .val (.ref b56), .val (.long (own_need 7 x1)), .second, .val (.long (0 : Int64)), .second] [(.int (1 : Int32))])) ?_ fun t_ k_ => XS.iconst X65.here hx rfl (hb hby at_123) k_
      refine own_pre (B := T65.setTop (mkF m 128 #[.val (.int x0), .val (.int x1), .val (.int (7 : Int32)), .val (.ref b56), .val (.long (own_need 7 x1)), .second, .val (.long (0 : Int64)), .second] [(.int (1 : Int32))])) ?_ fun t_ k_ => XS.goto X65.here hx rfl (pc0 := 124) (pc' := 128) rfl (hb hby at_124) (by decide) (by decide) k_
      refine own_retN X65 hx hlk (t := .boolean) (z' := (1 : Int32)) Bd.returns (by simp) (hb hby at_128) (by decide) ?_ (by decide) (by decide)
      exact ⟨rfl, N65⟩
set_option maxRecDepth 65536 in
set_option maxHeartbeats 40000000 in
theorem comes_1 {Post : Tables → Env → Array Value → State → Outcome → State → Prop} (hpost : ∀ tb e args s v u, (limb_1_1.after args s (.returned v) u = true ∧ limb_1_2.after args s (.returned v) u = true ∧ True) → FrameEnd s (.returned v) u (Jvm.fieldLocs frame_1_writes args s ++ Jvm.arrayLocs frame_1_arrays args s ++ Jvm.staticLocs frame_1_statics s) 24 192 → Post tb e args s (.returned v) u) :
    ArmFor flags0 classFile x code maxLocals ret World_1 tables_1 room_1 Calls_1 rest_1 Pre_1 Post := by
  intro l hfl _ _ p e ha hc hk s m args below hf hA hF happ hP
  obtain ⟨hcalls, hrest, hpre⟩ := hP
  obtain ⟨-, -, -, hnamed, -, -, -, hat⟩ := (Spec.applies_iff hf).mp happ
  obtain ⟨hg, hn⟩ := and_e (Cond.before_iff.mp (show (Jvm.Cond.and given_1 narrow_1).before args s = true from hpre))
  obtain ⟨g1, g2⟩ := and_e hg
  obtain ⟨g3, g4⟩ := and_e g2
  obtain ⟨w0, w1, rfl⟩ : ∃ w0 w1 : Value, args = #[w0, w1] := by
    have hs : args.size = 2 := by simpa [Cond.value, given_1] using g1
    obtain ⟨L⟩ := args
    match L, hs with
    | [w0, w1], _ => exact ⟨w0, w1, rfl⟩
  have hw := fun d (hd : d ∈ tables_1) => atoms_spec (ws := Jvm.Cond.code x code maxLocals ret :: tables_1) hat d (List.mem_cons_of_mem _ hd)
  have hfit : Fit s := fun {y c} hc i hi => by
    obtain ⟨ha, rfl⟩ := Array.getElem?_eq_some_iff.mp hc
    have q := List.all_eq_true.mp ((Array.all_eq_true_iff_forall_mem.mp hF) _ (Array.getElem_mem ha)) i (List.mem_range.mpr hi)
    simpa [Array.getElem?_eq_getElem hi] using q
  obtain ⟨i0, ei0⟩ := is_v g3
  obtain rfl : w0 = (.int i0) := Option.some.inj ei0
  obtain ⟨i1, ei1⟩ := is_v g4
  obtain rfl : w1 = (.int i1) := Option.some.inj ei1
  obtain ⟨n, o, h1, h2, h3, _, L, rfl, ⟨rfl, N⟩, hq⟩ := rm0 l s _ hw tables_1 i0 i1  s.heap s.heap.size (Nat.le_refl _)  p e ha hc hk s m _ below hf ((Spec.applies_iff_loose hf).mp happ).1 ⟨rfl, State.Warmed39.refl s, rfl⟩ trivial
  refine ⟨n, _, h1, h2, h3, hpost _ _ _ _ _ _ ⟨Cond.after_iff.mpr rfl, Cond.after_iff.mpr (eq_i res_at (Term.int_eval (1)) rfl), trivial⟩ ⟨hq.1, hq.2.1, (hq.2.2.sift fun y hy => Or.inr (N y hy)).mono (by decide) (by decide)⟩⟩
theorem main_1_1 : Claimed_1_1 := comes_1 fun _ _ _ _ _ _ h hF => ⟨h.1, hF⟩
theorem main_1_2 : Claimed_1_2 := comes_1 fun _ _ _ _ _ _ h hF => ⟨h.2.1, hF⟩
end Jvm.Pilot.@@N@@
namespace Jvm.Pilot.@@N@@
open Jvm Jvm.ClassFile Sem Op Lib Jvm.Free Jvm.Stand Jvm.Pilot.@@N@@.Jvm.D
/-! MADE BY PROGRAM (witnessworld.py) out of the Statement's table words and the real class files: 12 classes; the members and pool entries that the words name. The judged class is class 1, her method 1. -/
namespace start1
open Jvm.ClassFile
def u (s : String) : CpInfo := .utf8 (stringToUtf16 s)
/-- a pool by its gaps: so many unusable entries, then the entry; so many at the end -/
def gap : Nat → List CpInfo → List CpInfo
  | 0, r => r
  | n + 1, r => .unusable :: gap n r
def poolList (es : List (Nat × CpInfo)) (last : Nat) : List CpInfo := es.foldr (fun e r => gap e.1 (e.2 :: r)) (gap last [])
def pool (es : List (Nat × CpInfo)) (last : Nat) : Array CpInfo := ⟨poolList es last⟩
def fileOf (pool : Array CpInfo) (this : Nat) (attrs : Array Attribute := #[]) (ms : Array MethodInfo := #[]) (fl : Nat := 33) (sup : Nat := 0) (ifs : Array Nat := #[]) (fds : Array FieldInfo := #[]) : ClassFile where
  minorVersion := 0
  majorVersion := 65
  constantPool := pool
  accessFlags := fl
  thisClass := this
  superClass := sup
  interfaces := ifs
  fields := fds
  methods := ms
  attributes := attrs
def plain (name : String) (sup : Option ClassId) : Class where
  name := name
  kind := .ordinary
  loader := none
  accessFlags := 33
  super := sup
  interfaces := #[]
  cf := none
  fields := #[]
  methods := #[]
  instanceTypes := #[]
  staticTypes := #[]
  resolved := #[]
  callSites := []
  init := .initialized
  statics := none
  mirror := none

def pool0 : Array CpInfo := pool [(5, u "<init>"), (0, u "()V"), (1, .class_ 10), (1, u "java/lang/Object")] 113

def k0c0 : Code := { maxStack := 0, maxLocals := 1, code := object_method_1_code, exceptionTable := #[], attributes := #[] }
def k0m0 : Method := { name := "<init>", desc := "()V", sig := { parameters := [], returnType := none }, accessFlags := 1, code := some k0c0 }
/-- java/lang/Object -/
def k0 : Class := { plain "java/lang/Object" none with
  accessFlags := 33
  interfaces := #[]
  cf := some (fileOf pool0 8 #[] #[{ accessFlags := 1, nameIndex := 5, descriptorIndex := 6, attributes := #[] }] 33 0 #[] #[])
  fields := #[]
  methods := #[k0m0]
  instanceTypes := #[]
  staticTypes := #[]
  resolved := Array.replicate 124 none
  statics := none }

def pool1 : Array CpInfo := pool [(2, .class_ 4), (0, .nameAndType 5 6), (0, u "java/lang/Object"), (0, u "<init>"), (0, u "()V"), (0, .class_ 8), (0, u "com/example/nimfield/nimfield/FewestCoins"), (0, .methodref 7 3), (0, .methodref 7 11), (0, .nameAndType 12 6), (0, u "addCheckCoin"), (0, .methodref 7 14), (0, .nameAndType 15 16), (0, u "leastNeeding"), (0, u "(I)J"), (0, .long 18446744073709551615), (1, .class_ 20), (0, u "com/example/nimfield/nimfield/FewestCoinsAddCheckCoinPinLaw"), (2, u "law"), (0, u "(II)Z")] 3

def k1m0 : Method := { name := "<init>", desc := "()V", sig := { parameters := [], returnType := none }, accessFlags := 1, code := none }
def k1c1 : Code := { maxStack := 4, maxLocals := 8, code := code, exceptionTable := #[], attributes := #[] }
def k1m1 : Method := { name := "law", desc := "(II)Z", sig := { parameters := [.int, .int], returnType := some .boolean }, accessFlags := 9, code := some k1c1 }
/-- com/example/nimfield/nimfield/FewestCoinsAddCheckCoinPinLaw -/
def k1 : Class := { plain "com/example/nimfield/nimfield/FewestCoinsAddCheckCoinPinLaw" (some 0) with
  accessFlags := 49
  interfaces := #[]
  cf := some (fileOf pool1 19 #[] #[{ accessFlags := 1, nameIndex := 5, descriptorIndex := 6, attributes := #[] }, { accessFlags := 9, nameIndex := 23, descriptorIndex := 24, attributes := #[] }] 49 2 #[] #[])
  fields := #[]
  methods := #[k1m0, k1m1]
  instanceTypes := #[]
  staticTypes := #[]
  resolved := Array.replicate 28 none
  statics := none }

def pool2 : Array CpInfo := pool [(1, .methodref 2 3), (0, .class_ 4), (0, .nameAndType 5 6), (0, u "java/lang/Object"), (0, u "<init>"), (0, u "()V"), (2, .fieldref 10 11), (0, .class_ 12), (0, .nameAndType 13 14), (0, u "com/example/nimfield/nimfield/FewestCoins"), (0, u "typeOf"), (0, u "[I"), (0, .fieldref 10 16), (0, .nameAndType 17 14), (0, u "sizes"), (0, .fieldref 10 19), (0, .nameAndType 20 21), (0, u "table"), (0, u "[B"), (0, .methodref 10 23), (0, .nameAndType 24 25), (0, u "lowestBits"), (0, u "()[[J"), (0, .long 18446744073709551615), (1, .methodref 29 30), (0, .class_ 31), (0, .nameAndType 32 33), (0, u "java/lang/Math"), (0, u "max"), (0, u "(II)I"), (0, .fieldref 10 35), (0, .nameAndType 36 37), (0, u "bits"), (0, u "I"), (12, .class_ 51), (0, u "[J"), (2, u "leastNeeding"), (0, u "(I)J"), (4, u "addCheckCoin")] 5

def k2c0 : Code := { maxStack := 5, maxLocals := 1, code := prog_2_method_1_code, exceptionTable := #[], attributes := #[] }
def k2m0 : Method := { name := "<init>", desc := "()V", sig := { parameters := [], returnType := none }, accessFlags := 0, code := some k2c0 }
def k2c1 : Code := { maxStack := 9, maxLocals := 12, code := prog_2_method_2_code, exceptionTable := #[], attributes := #[] }
def k2m1 : Method := { name := "leastNeeding", desc := "(I)J", sig := { parameters := [.int], returnType := some .long }, accessFlags := 0, code := some k2c1 }
def k2c2 : Code := { maxStack := 5, maxLocals := 1, code := prog_2_method_3_code, exceptionTable := #[], attributes := #[] }
def k2m2 : Method := { name := "addCheckCoin", desc := "()V", sig := { parameters := [], returnType := none }, accessFlags := 0, code := some k2c2 }
def k2c3 : Code := { maxStack := 7, maxLocals := 5, code := prog_2_method_5_code, exceptionTable := #[], attributes := #[] }
def k2m3 : Method := { name := "lowestBits", desc := "()[[J", sig := { parameters := [], returnType := some (.array (.array .long)) }, accessFlags := 2, code := some k2c3 }
/-- com/example/nimfield/nimfield/FewestCoins -/
def k2 : Class := { plain "com/example/nimfield/nimfield/FewestCoins" (some 0) with
  accessFlags := 48
  interfaces := #[]
  cf := some (fileOf pool2 10 #[] #[{ accessFlags := 0, nameIndex := 5, descriptorIndex := 6, attributes := #[] }, { accessFlags := 0, nameIndex := 54, descriptorIndex := 55, attributes := #[] }, { accessFlags := 0, nameIndex := 60, descriptorIndex := 6, attributes := #[] }, { accessFlags := 2, nameIndex := 24, descriptorIndex := 25, attributes := #[] }] 48 2 #[] #[{ accessFlags := 2, nameIndex := 36, descriptorIndex := 37, attributes := #[] }, { accessFlags := 18, nameIndex := 13, descriptorIndex := 14, attributes := #[] }, { accessFlags := 2, nameIndex := 17, descriptorIndex := 14, attributes := #[] }, { accessFlags := 2, nameIndex := 20, descriptorIndex := 21, attributes := #[] }])
  fields := #[{ name := "bits", type := .int, accessFlags := 2, slot := 0, constantValue := 0 }, { name := "typeOf", type := (.array .int), accessFlags := 18, slot := 1, constantValue := 0 }, { name := "sizes", type := (.array .int), accessFlags := 2, slot := 2, constantValue := 0 }, { name := "table", type := (.array .byte), accessFlags := 2, slot := 3, constantValue := 0 }]
  methods := #[k2m0, k2m1, k2m2, k2m3]
  instanceTypes := #[.int, (.array .int), (.array .int), (.array .byte)]
  staticTypes := #[]
  resolved := Array.replicate 66 none
  statics := none }

def pool3 : Array CpInfo := pool [(1, .class_ 2), (0, u "java/lang/Math"), (1, .class_ 6), (1, u "java/lang/Object"), (0, u "<init>"), (0, u "()V"), (89, .class_ 100), (1, u "java/lang/Math$RandomNumberGeneratorHolder"), (71, u "negativeZeroFloatBits"), (0, u "J"), (2, u "negativeZeroDoubleBits"), (21, u "max"), (46, u "$assertionsDisabled"), (0, u "Z"), (88, u "(II)I"), (2, u "twoToTheDoubleScaleDown"), (0, u "D"), (4, u "twoToTheDoubleScaleUp"), (9, u "E"), (3, u "PI"), (2, u "TAU"), (2, u "DEGREES_TO_RADIANS"), (0, u "RADIANS_TO_DEGREES")] 94

def k3m0 : Method := { name := "<init>", desc := "()V", sig := { parameters := [], returnType := none }, accessFlags := 2, code := none }
def k3c1 : Code := { maxStack := 2, maxLocals := 2, code := jdk_29_method_65_code, exceptionTable := #[], attributes := #[] }
def k3m1 : Method := { name := "max", desc := "(II)I", sig := { parameters := [.int, .int], returnType := some .int }, accessFlags := 9, code := some k3c1 }
/-- java/lang/Math -/
def k3 : Class := { plain "java/lang/Math" (some 0) with
  accessFlags := 49
  interfaces := #[]
  cf := some (fileOf pool3 1 #[.nestMembers #[98]] #[{ accessFlags := 2, nameIndex := 7, descriptorIndex := 8, attributes := #[] }, { accessFlags := 9, nameIndex := 198, descriptorIndex := 335, attributes := #[] }] 49 4 #[] #[{ accessFlags := 25, nameIndex := 354, descriptorIndex := 339, attributes := #[] }, { accessFlags := 25, nameIndex := 358, descriptorIndex := 339, attributes := #[] }, { accessFlags := 25, nameIndex := 361, descriptorIndex := 339, attributes := #[] }, { accessFlags := 26, nameIndex := 364, descriptorIndex := 339, attributes := #[] }, { accessFlags := 26, nameIndex := 365, descriptorIndex := 339, attributes := #[] }, { accessFlags := 26, nameIndex := 172, descriptorIndex := 173, attributes := #[] }, { accessFlags := 26, nameIndex := 176, descriptorIndex := 173, attributes := #[] }, { accessFlags := 8, nameIndex := 344, descriptorIndex := 339, attributes := #[] }, { accessFlags := 8, nameIndex := 338, descriptorIndex := 339, attributes := #[] }, { accessFlags := 4120, nameIndex := 245, descriptorIndex := 246, attributes := #[] }])
  fields := #[{ name := "E", type := .double, accessFlags := 25, slot := 0, constantValue := 0 }, { name := "PI", type := .double, accessFlags := 25, slot := 1, constantValue := 0 }, { name := "TAU", type := .double, accessFlags := 25, slot := 2, constantValue := 0 }, { name := "DEGREES_TO_RADIANS", type := .double, accessFlags := 26, slot := 3, constantValue := 0 }, { name := "RADIANS_TO_DEGREES", type := .double, accessFlags := 26, slot := 4, constantValue := 0 }, { name := "negativeZeroFloatBits", type := .long, accessFlags := 26, slot := 5, constantValue := 0 }, { name := "negativeZeroDoubleBits", type := .long, accessFlags := 26, slot := 6, constantValue := 0 }, { name := "twoToTheDoubleScaleUp", type := .double, accessFlags := 8, slot := 7, constantValue := 0 }, { name := "twoToTheDoubleScaleDown", type := .double, accessFlags := 8, slot := 8, constantValue := 0 }, { name := "$assertionsDisabled", type := .boolean, accessFlags := 4120, slot := 9, constantValue := 0 }]
  methods := #[k3m0, k3m1]
  instanceTypes := #[]
  staticTypes := #[.double, .double, .double, .double, .double, .long, .long, .double, .double, .boolean]
  resolved := Array.replicate 460 none
  statics := none }

def pool4 : Array CpInfo := pool [(1, u "java/lang/Cloneable"), (0, .class_ 1), (0, u "java/lang/Object"), (0, .class_ 3)] 3

/-- java/lang/Cloneable -/
def k4 : Class := { plain "java/lang/Cloneable" (some 0) with
  accessFlags := 1537
  interfaces := #[]
  cf := some (fileOf pool4 2 #[] #[] 1537 4 #[] #[])
  fields := #[]
  methods := #[]
  instanceTypes := #[]
  staticTypes := #[]
  resolved := Array.replicate 8 none
  statics := none }

def pool5 : Array CpInfo := pool [(1, u "java/io/Serializable"), (0, .class_ 1), (0, u "java/lang/Object"), (0, .class_ 3)] 3

/-- java/io/Serializable -/
def k5 : Class := { plain "java/io/Serializable" (some 0) with
  accessFlags := 1537
  interfaces := #[]
  cf := some (fileOf pool5 2 #[] #[] 1537 4 #[] #[])
  fields := #[]
  methods := #[]
  instanceTypes := #[]
  staticTypes := #[]
  resolved := Array.replicate 8 none
  statics := none }

/-- the primitive byte -/
def k6 : Class := { plain "byte" none with kind := .primitive 'B', accessFlags := 0x411 }
/-- [B -/
def k7 : Class := { plain "[B" (some 0) with kind := .array 6 .byte, interfaces := #[4, 5], accessFlags := 1041 }

/-- the primitive int -/
def k8 : Class := { plain "int" none with kind := .primitive 'I', accessFlags := 0x411 }
/-- [I -/
def k9 : Class := { plain "[I" (some 0) with kind := .array 8 .int, interfaces := #[4, 5], accessFlags := 1041 }

/-- the primitive long -/
def k10 : Class := { plain "long" none with kind := .primitive 'J', accessFlags := 0x411 }
/-- [J -/
def k11 : Class := { plain "[J" (some 0) with kind := .array 10 .long, interfaces := #[4, 5], accessFlags := 1041 }
/-- [[J -/
def k12 : Class := { plain "[[J" (some 0) with kind := .array 11 (.array .long), interfaces := #[4, 5], accessFlags := 1041 }

def heap : Heap := #[]
def classes : Array Class := #[k0, k1, k2, k3, k4, k5, k6, k7, k8, k9, k10, k11, k12]
def interned : List (Array UInt16 × Addr) := []
def slotsUsed : Nat := 0
def theMethod : MethodId := ⟨1, 1⟩
def args0 : Array Value := #[.int 3, .int 2]
def aboutOver (below : List Frame) : State where
  vm := { classes := classes, interned := interned.toArray }
  heap := heap
  slotsUsed := slotsUsed
  threads := #[{ frames := .invoking theMethod args0 :: below }]
def below0 : List Frame := [.native { method := ⟨0, 0⟩, args := #[] }]
def about1 : State := aboutOver below0
def p0 : Program := .bare "" "" ""
def e0 : Env := launch0.env 0 0 0
theorem w_frames : about1.frames = Frame.invoking theMethod args0 :: below0 := rfl
set_option maxRecDepth 65536 in
theorem w_args : argsFit about1.vm theMethod args0 = true := by decide +kernel
set_option maxRecDepth 65536 in
theorem w_heap : heapFits about1 = true := by decide +kernel
set_option maxRecDepth 65536 in
theorem w_runnable : about1.curStatus? = some .runnable := by decide +kernel
set_option maxRecDepth 65536 in
theorem w_alone : about1.alone = true := by decide +kernel
set_option maxRecDepth 65536 in
theorem w_named : about1.methodNamed? x = some theMethod := by decide +kernel
set_option maxRecDepth 65536 in
theorem w_hears : about1.hears theMethod below0 = true := by decide +kernel
set_option maxRecDepth 65536 in
theorem w_ripe : about1.ripe theMethod args0 below0 = true := by decide +kernel
theorem w_running : about1.status = .running := rfl
set_option maxRecDepth 65536 in
theorem w_room : about1.hasRoom e0.platform room_1 = true :=
  launch0.hasRoom_least _ room_1 (by decide +kernel) (by decide +kernel) (by decide +kernel) (by decide +kernel) (by decide +kernel) (by decide +kernel)
theorem allAtoms_all (ts : List Jvm.Cond) (a : Array Jvm.Value) (st : Jvm.State) : (allAtoms ts).before a st = ts.all (fun c => c.before a st) := by
  induction ts with
  | nil => rfl
  | cons c t ih =>
    show (Jvm.Cond.and c (allAtoms t)).before a st = _
    rw [Jvm.Cond.before_and, ih, List.all_cons]
def words1 : List Jvm.Cond := Jvm.Cond.code x code maxLocals ret :: tables_1
/-- a 'code' word, met by the world's own term for the bytes: nothing is compared byte by byte -/
theorem code_word {y : MethodName} {bytes : ByteArray} {mx : Nat} {rt : Option FieldType} {a : Array Value} {s : State} {m : MethodId} {meth : Method} {c : Code} (h1 : s.methodNamed? y = some m) (h2 : s.vm.method? m = some meth) (h3 : meth.code = some c) (h4 : c.code = bytes)
    (h5 : (c.maxLocals == mx && c.exceptionTable.isEmpty && decide (c.maxStack ≤ mostOperands) && decide (meth.sig.returnType = rt) && !meth.locks && decide (parseMethodDescriptor y.desc = some meth.sig)) = true) : (Jvm.Cond.code y bytes mx rt).before a s = true := by
  simp only [Bool.and_eq_true, beq_iff_eq, Bool.not_eq_true', decide_eq_true_eq] at h5
  obtain ⟨⟨⟨⟨⟨g1, g2⟩, g3⟩, g4⟩, g5⟩, g6⟩ := h5
  simp [Cond.before, Cond.holds, Cond.value, h1, h2, h3, h4, g1, g2, g3, g4, g5, g6]
def isCode : Jvm.Cond → Bool
  | .code _ _ _ _ => true
  | _ => false
theorem all_split {L : List Jvm.Cond} {P : Jvm.Cond → Bool} (h1 : L.all (fun c => isCode c || P c) = true) (h2 : ∀ c ∈ L.filter isCode, P c = true) : L.all P = true := by
  refine List.all_eq_true.mpr fun c hc => ?_
  have h := List.all_eq_true.mp h1 c hc
  rcases Bool.eq_false_or_eq_true (isCode c) with hi | hi
  · exact h2 c (List.mem_filter.mpr ⟨hc, hi⟩)
  · simpa [hi] using h
set_option maxRecDepth 65536 in
theorem w_c0 : (Jvm.Cond.code x code maxLocals ret).before args0 about1 = true := code_word (m := ⟨1, 1⟩) (meth := k1m1) (c := k1c1) (by decide +kernel) rfl rfl rfl (by decide +kernel)
set_option maxRecDepth 65536 in
theorem w_c1 : (Jvm.Cond.code ({ cls := "com/example/nimfield/nimfield/FewestCoins", name := "<init>", desc := "()V" } : Jvm.MethodName) prog_2_method_1_code (1 : Nat) (Option.none : Option Jvm.ClassFile.FieldType)).before args0 about1 = true := code_word (m := ⟨2, 0⟩) (meth := k2m0) (c := k2c0) (by decide +kernel) rfl rfl rfl (by decide +kernel)
set_option maxRecDepth 65536 in
theorem w_c2 : (Jvm.Cond.code ({ cls := "java/lang/Object", name := "<init>", desc := "()V" } : Jvm.MethodName) object_method_1_code (1 : Nat) (Option.none : Option Jvm.ClassFile.FieldType)).before args0 about1 = true := code_word (m := ⟨0, 0⟩) (meth := k0m0) (c := k0c0) (by decide +kernel) rfl rfl rfl (by decide +kernel)
set_option maxRecDepth 65536 in
theorem w_c3 : (Jvm.Cond.code ({ cls := "com/example/nimfield/nimfield/FewestCoins", name := "leastNeeding", desc := "(I)J" } : Jvm.MethodName) prog_2_method_2_code (12 : Nat) (Option.some Jvm.ClassFile.FieldType.long)).before args0 about1 = true := code_word (m := ⟨2, 1⟩) (meth := k2m1) (c := k2c1) (by decide +kernel) rfl rfl rfl (by decide +kernel)
set_option maxRecDepth 65536 in
theorem w_c4 : (Jvm.Cond.code ({ cls := "com/example/nimfield/nimfield/FewestCoins", name := "lowestBits", desc := "()[[J" } : Jvm.MethodName) prog_2_method_5_code (5 : Nat) (Option.some (Jvm.ClassFile.FieldType.array (Jvm.ClassFile.FieldType.array Jvm.ClassFile.FieldType.long)))).before args0 about1 = true := code_word (m := ⟨2, 3⟩) (meth := k2m3) (c := k2c3) (by decide +kernel) rfl rfl rfl (by decide +kernel)
set_option maxRecDepth 65536 in
theorem w_c5 : (Jvm.Cond.code ({ cls := "java/lang/Math", name := "max", desc := "(II)I" } : Jvm.MethodName) jdk_29_method_65_code (2 : Nat) (Option.some Jvm.ClassFile.FieldType.int)).before args0 about1 = true := code_word (m := ⟨3, 1⟩) (meth := k3m1) (c := k3c1) (by decide +kernel) rfl rfl rfl (by decide +kernel)
set_option maxRecDepth 65536 in
theorem w_c6 : (Jvm.Cond.code ({ cls := "com/example/nimfield/nimfield/FewestCoins", name := "addCheckCoin", desc := "()V" } : Jvm.MethodName) prog_2_method_3_code (1 : Nat) (Option.none : Option Jvm.ClassFile.FieldType)).before args0 about1 = true := code_word (m := ⟨2, 2⟩) (meth := k2m2) (c := k2c2) (by decide +kernel) rfl rfl rfl (by decide +kernel)
def codes1 : List Jvm.Cond := [Jvm.Cond.code x code maxLocals ret, Jvm.Cond.code ({ cls := "com/example/nimfield/nimfield/FewestCoins", name := "<init>", desc := "()V" } : Jvm.MethodName) prog_2_method_1_code (1 : Nat) (Option.none : Option Jvm.ClassFile.FieldType), Jvm.Cond.code ({ cls := "java/lang/Object", name := "<init>", desc := "()V" } : Jvm.MethodName) object_method_1_code (1 : Nat) (Option.none : Option Jvm.ClassFile.FieldType), Jvm.Cond.code ({ cls := "com/example/nimfield/nimfield/FewestCoins", name := "leastNeeding", desc := "(I)J" } : Jvm.MethodName) prog_2_method_2_code (12 : Nat) (Option.some Jvm.ClassFile.FieldType.long), Jvm.Cond.code ({ cls := "com/example/nimfield/nimfield/FewestCoins", name := "lowestBits", desc := "()[[J" } : Jvm.MethodName) prog_2_method_5_code (5 : Nat) (Option.some (Jvm.ClassFile.FieldType.array (Jvm.ClassFile.FieldType.array Jvm.ClassFile.FieldType.long))), Jvm.Cond.code ({ cls := "java/lang/Math", name := "max", desc := "(II)I" } : Jvm.MethodName) jdk_29_method_65_code (2 : Nat) (Option.some Jvm.ClassFile.FieldType.int), Jvm.Cond.code ({ cls := "com/example/nimfield/nimfield/FewestCoins", name := "addCheckCoin", desc := "()V" } : Jvm.MethodName) prog_2_method_3_code (1 : Nat) (Option.none : Option Jvm.ClassFile.FieldType)]
set_option maxRecDepth 65536 in
theorem codes_eq : words1.filter isCode = codes1 := rfl
theorem w_codes : ∀ c ∈ words1.filter isCode, c.before args0 about1 = true := by
  rw [codes_eq]
  intro c hc
  simp only [codes1, List.mem_cons, List.not_mem_nil, or_false] at hc
  rcases hc with rfl | rfl | rfl | rfl | rfl | rfl | rfl
  · exact w_c0
  · exact w_c1
  · exact w_c2
  · exact w_c3
  · exact w_c4
  · exact w_c5
  · exact w_c6
set_option maxRecDepth 65536 in
theorem w_t1 : (words1.take 24).all (fun c => isCode c || c.before args0 about1) = true := by decide +kernel
set_option maxRecDepth 65536 in
theorem w_t2 : (words1.drop 24).all (fun c => isCode c || c.before args0 about1) = true := by decide +kernel
theorem w_tables : (allAtoms (Jvm.Cond.code x code maxLocals ret :: tables_1)).before args0 about1 = true := by
  rw [allAtoms_all]
  show words1.all (fun c => c.before args0 about1) = true
  refine all_split ?_ w_codes
  rw [← List.take_append_drop 24 words1, List.all_append, w_t1, w_t2]
  rfl
set_option maxRecDepth 65536 in
theorem w_case : (Jvm.Cond.and given_1 narrow_1).before args0 about1 = true := by decide +kernel
theorem w_applies : (headSpec (Jvm.Cond.code x code maxLocals ret :: tables_1) room_1).applies x e0.platform about1 = true :=
  (Spec.applies_iff w_frames).mpr ⟨w_running, w_runnable, w_alone, w_named, w_hears, w_ripe, w_room, w_tables⟩
theorem atStart : AtStart classFile x code maxLocals ret World_1 tables_1 room_1 Calls_1 rest_1 Pre_1 launch0 p0 e0 about1 theMethod args0 below0 :=
  ⟨lists_1, trivial, launch0.admits_env _ _ _, launch0.least_env, fairChoices_fair.cas, fairChoices_fair.clock, w_frames, w_args, w_heap, w_applies, trivial, trivial, w_case⟩
end start1
theorem witness_1 : WitnessClaimed_1 := ⟨start1.p0, start1.e0, start1.about1, start1.theMethod, start1.args0, start1.below0, start1.atStart⟩
end Jvm.Pilot.@@N@@
