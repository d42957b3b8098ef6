import JvmDerived
import JvmDerived.Pilot.@@N@@Statement
import JvmDerived.Pilot.@@N@@Code
set_option linter.unusedVariables false
set_option linter.unusedSimpArgs false
namespace Jvm.Pilot.@@N@@
open Jvm Jvm.ClassFile Sem Op Lib Jvm.Free Jvm.Stand Jvm.LawKit Jvm.RoadKit Bundle Jvm.Pilot.@@N@@.Jvm.D
section Own
variable {p : Program} {l : Launch} {e : Env} {R : Room} {s : State} {m : MethodId} {args : Array Value} {below : List Frame} {meth : Method} {c : Code} {T : State} {locs : List Loc} {cells slots : Nat} {Z : State} {a0 : Array Value} {h : Heap}
/-- from the state A the body ends as Q says, with at most C cells and S slots made -/
def own_E (p : Program) (e : Env) (below : List Frame) (s : State) (Q : Option Value → Heap → List Loc → Prop) (C S : Nat) (A : State) : Prop :=
  ∃ s₂ o, Steps p.tables e below A s₂ ∧ s₂.status = .running ∧ Ended s₂ below o ∧ ∃ v L, o = .returned v ∧ Q v s₂.heap L ∧ FrameEnd s o s₂ L C S
theorem own_pre {Q : Option Value → Heap → List Loc → Prop} {C S : Nat} {A B : State} (h : own_E p e below s Q C S B) (k : ∀ t, Steps p.tables e below B t → Steps p.tables e below A t) : own_E p e below s Q C S A := by
  obtain ⟨s₂, o, h1, h2⟩ := h
  exact ⟨s₂, o, k _ h1, h2⟩
theorem own_out {Q : Option Value → Heap → List Loc → Prop} {C S : Nat} {A : State} (X : Stand p l e R s m args below meth c T locs cells slots) (hk : meth.locks = false) {v : Option Value} (hv : meth.sig.returnType = none → v = none)
    (st : ∀ fs, (∀ (f : JFrame) (acts : List Action), f.method = m → f.locked = none → f.entered = [] → (doReturn e (T.setTop f) acts v).1 = T.setFrames fs) → Steps p.tables e below A (T.setFrames fs))
    (hQ : Q v T.heap locs) (hc : cells ≤ C) (hs : slots ≤ S) : own_E p e below s Q C S A := by
  obtain ⟨fs, hr, hrun, hended, hW, hsame⟩ := X.leave (v := v) hv hk
  exact ⟨_, _, st fs hr, hrun, hended, _, _, rfl, hQ, ⟨_, rfl⟩, hW, hsame.mono hc hs⟩
theorem own_retN {Q : Option Value → Heap → List Loc → Prop} {C S : Nat} (X : Stand p l e R s m args below meth c T locs cells slots) (hx : p.tables.exec = Jvm.exec) (hk : meth.locks = false) {t : FieldType} {pc : Nat} {Ls : Array Slot} {z z' : Int32} {rest : List Value} (hret : meth.sig.returnType = some t) (ht : t = .boolean ∨ t = .byte ∨ t = .char ∨ t = .short) (hd : decode c.code pc = .ok (.ireturn, 1)) (hn : nar t z = z')
    (hQ : Q (some (.int z')) T.heap locs) (hc : cells ≤ C) (hs : slots ≤ S) : own_E p e below s Q C S (T.setTop (mkF m pc Ls (.int z :: rest))) := by
  subst hn
  exact own_out X hk (fun h => by rw [hret] at h; cases h) (fun fs hr => retN X hx hret ht hd hr) hQ hc hs
theorem own_retI {Q : Option Value → Heap → List Loc → Prop} {C S : Nat} (X : Stand p l e R s m args below meth c T locs cells slots) (hx : p.tables.exec = Jvm.exec) (hk : meth.locks = false) {pc : Nat} {Ls : Array Slot} {z : Int32} {rest : List Value} (hret : meth.sig.returnType = some .int) (hd : decode c.code pc = .ok (.ireturn, 1))
    (hQ : Q (some (.int z)) T.heap locs) (hc : cells ≤ C) (hs : slots ≤ S) : own_E p e below s Q C S (T.setTop (mkF m pc Ls (.int z :: rest))) :=
  own_out X hk (fun h => by rw [hret] at h; cases h) (fun fs hr => retOut X hx hret rfl (Or.inl ⟨rfl, Or.inl rfl, z, rfl⟩) hd hr) hQ hc hs
theorem own_retJ {Q : Option Value → Heap → List Loc → Prop} {C S : Nat} (X : Stand p l e R s m args below meth c T locs cells slots) (hx : p.tables.exec = Jvm.exec) (hk : meth.locks = false) {pc : Nat} {Ls : Array Slot} {z : Int64} {rest : List Value} (hret : meth.sig.returnType = some .long) (hd : decode c.code pc = .ok (.lreturn, 1))
    (hQ : Q (some (.long z)) T.heap locs) (hc : cells ≤ C) (hs : slots ≤ S) : own_E p e below s Q C S (T.setTop (mkF m pc Ls (.long z :: rest))) :=
  own_out X hk (fun h => by rw [hret] at h; cases h) (fun fs hr => retOut X hx hret rfl (Or.inr (Or.inl ⟨rfl, rfl, z, rfl⟩)) hd hr) hQ hc hs
theorem own_nar_ref {t : FieldType} {w : Value} (hw : w.isRef = true) (ht : t.isReference = true) : narrow t w = w := by
  rcases ref_cases hw with rfl | ⟨z, rfl⟩ <;> cases t <;> first | rfl | (cases ht; done)
theorem own_fit_ref {t : FieldType} {w : Value} (hw : w.isRef = true) (ht : t.isReference = true) : fits t w = true := by
  rcases ref_cases hw with rfl | ⟨z, rfl⟩ <;> cases t <;> first | rfl | (cases ht; done)
theorem own_retA {Q : Option Value → Heap → List Loc → Prop} {C S : Nat} (X : Stand p l e R s m args below meth c T locs cells slots) (hx : p.tables.exec = Jvm.exec) (hk : meth.locks = false) {t : FieldType} {pc : Nat} {Ls : Array Slot} {w : Value} {rest : List Value} (hret : meth.sig.returnType = some t) (ht : t.isReference = true) (hw : w.isRef = true) (hd : decode c.code pc = .ok (.areturn, 1))
    (hQ : Q (some w) T.heap locs) (hc : cells ≤ C) (hs : slots ≤ S) : own_E p e below s Q C S (T.setTop (mkF m pc Ls (w :: rest))) :=
  own_out X hk (fun h => by rw [hret] at h; cases h) (fun fs hr => retOut X hx hret (own_nar_ref hw ht) (Or.inr (Or.inr (Or.inr (Or.inr ⟨rfl, ht, hw⟩)))) hd hr) hQ hc hs
theorem own_retV {Q : Option Value → Heap → List Loc → Prop} {C S : Nat} (X : Stand p l e R s m args below meth c T locs cells slots) (hx : p.tables.exec = Jvm.exec) (hk : meth.locks = false) {pc : Nat} {Ls : Array Slot} (hret : meth.sig.returnType = none) (hd : decode c.code pc = .ok (.return_, 1))
    (hQ : Q none T.heap locs) (hc : cells ≤ C) (hs : slots ≤ S) : own_E p e below s Q C S (T.setTop (mkF m pc Ls [])) :=
  own_out X hk (fun _ => rfl) (fun fs hr => X.returnOut hx hret hd hr) hQ hc hs
theorem own_lrem {g : JFrame} {target : State} (X : Stand p l e R s m args below meth c T locs cells slots) (hx : p.tables.exec = Jvm.exec) (hg : g.method = m) {x y : Int64} {rest : List Value} (hd : decode c.code g.pc = .ok (.lrem, 1)) (hs : g.stack = .long y :: .long x :: rest) (hy : y ≠ 0)
    (hr : Steps p.tables e below (T.setTop { g with pc := g.pc + 1, stack := .long (x % y) :: rest }) target) : Steps p.tables e below (T.setTop g) target :=
  XS.lrem X.here hx hg hd hs hy (by rw [lrem_mod]; exact hr)
end Own
theorem own_fld {args : Array Value} {s : State} {t : Term} {x : Addr} {C n d : String} {k : Int32} (ev : t.eval args s none [] s = some (.ref x)) (h : (Cond.eq (Term.field t C n d) (Term.int k)).value args s none s [] = some true) : Fld s s.heap x C n d (.int k) := by
  refine Fld.start ?_
  obtain ⟨u, w, h1, h2, h3⟩ := cmp_v (Or.inl h)
  rw [fld_at ev] at h1
  have h2' : w = .int k := (Option.some.inj (h2.symm.trans (Term.int_eval k))).symm ▸ rfl
  subst h2'
  cases u <;> try (simp [Kin] at h3; done)
  rename_i z
  have q : (Cond.eq (Term.field t C n d) (Term.int k)).value args s none s [] = some (decide (z = k)) := by
    simp [Cond.value, fld_at ev, h1, Term.int_eval k]
  have : z = k := gotT q h
  rw [h1, this]
def own_rev (a a_ANCESTOR a_ANCESTOR_OR_SELF a_PRECEDING a_PRECEDING_SIBLING : Addr) : Int32 := if a = a_ANCESTOR then 1 else if a = a_ANCESTOR_OR_SELF then 1 else if a = a_PRECEDING then 1 else if a = a_PRECEDING_SIBLING then 1 else 0
theorem own_ix {x i : Int32} (h : ((x &&& (2147483647 : Int32)) % (13 : Int32)) = i) : i = (0 : Int32) ∨ i = (1 : Int32) ∨ i = (2 : Int32) ∨ i = (3 : Int32) ∨ i = (4 : Int32) ∨ i = (5 : Int32) ∨ i = (6 : Int32) ∨ i = (7 : Int32) ∨ i = (8 : Int32) ∨ i = (9 : Int32) ∨ i = (10 : Int32) ∨ i = (11 : Int32) ∨ i = (12 : Int32) := by
  have r := c_mask x 2147483647 31 (by decide) (by decide)
  have q := (c_irem (x &&& 2147483647) 13 13 (by decide)).1 (by omega)
  rw [h] at q
  simp only [← Int32.toInt_inj, Int32.reduceToInt]
  omega
theorem d1_0 : decode prog_112_method_6_code 0 = .ok (.aload_n 0, 1) := by decide +kernel
theorem d1_1 : decode prog_112_method_6_code 1 = .ok (.getstatic 3, 3) := by decide +kernel
theorem d1_4 : decode prog_112_method_6_code 4 = .ok (.if_acmp .eq 24, 3) := by decide +kernel
theorem d1_28 : decode prog_112_method_6_code 28 = .ok (.iconst 1, 1) := by decide +kernel
theorem d1_29 : decode prog_112_method_6_code 29 = .ok (.goto 4, 3) := by decide +kernel
theorem d1_33 : decode prog_112_method_6_code 33 = .ok (.ireturn, 1) := by decide +kernel
theorem d1_7 : decode prog_112_method_6_code 7 = .ok (.aload_n 0, 1) := by decide +kernel
theorem d1_8 : decode prog_112_method_6_code 8 = .ok (.getstatic 7, 3) := by decide +kernel
theorem d1_11 : decode prog_112_method_6_code 11 = .ok (.if_acmp .eq 17, 3) := by decide +kernel
theorem d1_14 : decode prog_112_method_6_code 14 = .ok (.aload_n 0, 1) := by decide +kernel
theorem d1_15 : decode prog_112_method_6_code 15 = .ok (.getstatic 34, 3) := by decide +kernel
theorem d1_18 : decode prog_112_method_6_code 18 = .ok (.if_acmp .eq 10, 3) := by decide +kernel
theorem d1_21 : decode prog_112_method_6_code 21 = .ok (.aload_n 0, 1) := by decide +kernel
theorem d1_22 : decode prog_112_method_6_code 22 = .ok (.getstatic 37, 3) := by decide +kernel
theorem d1_25 : decode prog_112_method_6_code 25 = .ok (.if_acmp .ne 7, 3) := by decide +kernel
theorem d1_32 : decode prog_112_method_6_code 32 = .ok (.iconst 0, 1) := by decide +kernel
theorem pn_com_example_kiungo_kiungo_pointer_Axis : plainName "com/example/kiungo/kiungo/pointer/Axis" = true := by first | (simp [plainName, overriddenIn]; done) | decide +kernel
set_option maxHeartbeats 4000000 in
theorem ef_1 (m : MethodId) (x0 : Addr) : entryFrame m #[(.ref x0)] 1 = mkF m 0 #[.val (.ref x0)] [] := by first | (simp [entryFrame, mkF, argsToLocals, Value.category]; done) | rfl
def Q1 (Z : State) (x0 : Addr) (a_ANCESTOR : Addr) (a_ANCESTOR_OR_SELF : Addr) (a_PRECEDING : Addr) (a_PRECEDING_SIBLING : Addr) (h0 : Heap) (n0 : Nat) (v : Option Value) (h : Heap) (L : List Loc) : Prop := v = some (.int (own_rev x0 a_ANCESTOR a_ANCESTOR_OR_SELF a_PRECEDING a_PRECEDING_SIBLING)) ∧ Fr n0 L ∧ h = h0
set_option maxRecDepth 65536 in
set_option maxHeartbeats 40000000 in
theorem rm1 (l : Launch) (Z : State) (a0 : Array Value) (hw : ∀ d ∈ tables_1, d.before a0 Z = true) (ws : List Jvm.Cond) (x0 : Addr) (a_ANCESTOR : Addr) (a_ANCESTOR_OR_SELF : Addr) (a_PRECEDING : Addr) (a_PRECEDING_SIBLING : Addr) (h0 : Heap) (n0 : Nat) (Z0 : n0 ≤ h0.size) (S_ANCESTOR : Sta Z h0 "com/example/kiungo/kiungo/pointer/Axis" "ANCESTOR" "Lcom/example/kiungo/kiungo/pointer/Axis;" (.ref a_ANCESTOR)) (S_ANCESTOR_OR_SELF : Sta Z h0 "com/example/kiungo/kiungo/pointer/Axis" "ANCESTOR_OR_SELF" "Lcom/example/kiungo/kiungo/pointer/Axis;" (.ref a_ANCESTOR_OR_SELF)) (S_PRECEDING : Sta Z h0 "com/example/kiungo/kiungo/pointer/Axis" "PRECEDING" "Lcom/example/kiungo/kiungo/pointer/Axis;" (.ref a_PRECEDING)) (S_PRECEDING_SIBLING : Sta Z h0 "com/example/kiungo/kiungo/pointer/Axis" "PRECEDING_SIBLING" "Lcom/example/kiungo/kiungo/pointer/Axis;" (.ref a_PRECEDING_SIBLING)) :
    MetFree l (⟨"com/example/kiungo/kiungo/pointer/Axis", "isReverse", "()Z"⟩ : MethodName) (head1 (Jvm.Cond.code (⟨"com/example/kiungo/kiungo/pointer/Axis", "isReverse", "()Z"⟩ : MethodName) prog_112_method_6_code 1 (some .boolean) :: ws) ({ frames := 0, cells := 0, slots := 0, locals := 0 } : Room)) (fun a U => a = #[(.ref x0)] ∧ Z.Warmed39 U.vm ∧ U.heap = h0) (fun _ _ _ _ _ => True) (fun _ U o U' => ∃ v L, o = .returned v ∧ Q1 Z x0 a_ANCESTOR a_ANCESTOR_OR_SELF a_PRECEDING a_PRECEDING_SIBLING h0 n0 v U'.heap L ∧ FrameEnd U o U' L ({ frames := 0, cells := 0, slots := 0, locals := 0 } : Room).cells ({ frames := 0, cells := 0, slots := 0, locals := 0 } : Room).slots) := by
  refine MetFree.of_bodySF (plainFor_of_name pn_com_example_kiungo_kiungo_pointer_Axis) hisR ?_
  intro p e s m args below meth c s₁ Bd hml0 hP hK
  obtain ⟨rfl, hZ, hh⟩ := hP
  have hx := Bd.exec
  have hby := Bd.bytes
  have hml : c.maxLocals = 1 := hml0
  have hown : s.vm.findClass "com/example/kiungo/kiungo/pointer/Axis" = some m.cls := findClass_of_methodNamed Bd.named
  have hnm := (name_of_methodNamed Bd.named Bd.method).1
  have hlk : meth.locks = false := BodyLoose.notSynchronized Bd
  have X0 : Stand p l e ({ frames := 0, cells := 0, slots := 0, locals := 0 } : Room) s m #[(.ref x0)] below meth c s₁ [] 0 0 := Stand.of_body Bd
  have e0 : s₁.heap = h0 := by rw [← hh, Bd.state]; rfl
  have N0 := Fr.nil n0
  show own_E p e below s (Q1 Z x0 a_ANCESTOR a_ANCESTOR_OR_SELF a_PRECEDING a_PRECEDING_SIBLING h0 n0) 0 0 (s₁.setTop (entryFrame m #[(.ref x0)] 1))
  refine own_pre (B := s₁.setTop (mkF m 0 #[.val (.ref x0)] [])) ?_ (fun t_ k_ => castTop (ef_1 m x0) k_)
  refine own_pre (B := s₁.setTop (mkF m 1 #[.val (.ref x0)] [(.ref x0)])) ?_ fun t_ k_ => XS.aloadN X0.here hx rfl (hb hby d1_0) rfl rfl k_
  obtain ⟨T1, X1, e1, st1⟩ := getS2 X0 hx hZ hown (host := "") (Or.inl (hw _ (List.mem_of_getElem? (i := 49) rfl))) Via.refl e0 S_ANCESTOR (g := (mkF m 1 #[.val (.ref x0)] [(.ref x0)])) rfl (hb hby d1_1)
  refine own_pre (B := T1.setTop (mkF m 4 #[.val (.ref x0)] [(.ref a_ANCESTOR), (.ref x0)])) ?_ st1
  by_cases h4_2 : x0 = a_ANCESTOR
  · skip
    refine own_pre (B := T1.setTop (mkF m 28 #[.val (.ref x0)] [])) ?_ fun t_ k_ => Jvm.RoadKit.acmp (g := (mkF m 4 #[.val (.ref x0)] [(.ref a_ANCESTOR), (.ref x0)])) X1 hx rfl rfl rfl (pc0 := 4) (pc' := 28) (same := true) rfl (hb hby d1_4) rfl (decide_eq_true (congrArg Value.ref h4_2)) (by decide) (by decide) k_
    refine own_pre (B := T1.setTop (mkF m 29 #[.val (.ref x0)] [(.int (1 : Int32))])) ?_ fun t_ k_ => XS.iconst X1.here hx rfl (hb hby d1_28) k_
    refine own_pre (B := T1.setTop (mkF m 33 #[.val (.ref x0)] [(.int (1 : Int32))])) ?_ fun t_ k_ => XS.goto X1.here hx rfl (pc0 := 29) (pc' := 33) rfl (hb hby d1_29) (by decide) (by decide) k_
    refine own_retN X1 hx hlk (t := .boolean) (z' := (1 : Int32)) Bd.returns (by simp) (hb hby d1_33) (by decide) ?_ (by decide) (by decide)
    rw [e1]
    exact ⟨by rw [own_rev, if_pos h4_2], N0, rfl⟩
  · skip
    refine own_pre (B := T1.setTop (mkF m 7 #[.val (.ref x0)] [])) ?_ fun t_ k_ => Jvm.RoadKit.acmp (g := (mkF m 4 #[.val (.ref x0)] [(.ref a_ANCESTOR), (.ref x0)])) X1 hx rfl rfl rfl (pc0 := 4) (pc' := 7) (same := false) rfl (hb hby d1_4) rfl (decide_eq_false fun q => h4_2 (Value.ref.inj q)) (by decide) (by decide) k_
    refine own_pre (B := T1.setTop (mkF m 8 #[.val (.ref x0)] [(.ref x0)])) ?_ fun t_ k_ => XS.aloadN X1.here hx rfl (hb hby d1_7) rfl rfl k_
    obtain ⟨T3, X3, e3, st3⟩ := getS2 X1 hx hZ hown (host := "") (Or.inl (hw _ (List.mem_of_getElem? (i := 51) rfl))) Via.refl e1 S_ANCESTOR_OR_SELF (g := (mkF m 8 #[.val (.ref x0)] [(.ref x0)])) rfl (hb hby d1_8)
    refine own_pre (B := T3.setTop (mkF m 11 #[.val (.ref x0)] [(.ref a_ANCESTOR_OR_SELF), (.ref x0)])) ?_ st3
    by_cases h11_4 : x0 = a_ANCESTOR_OR_SELF
    · skip
      refine own_pre (B := T3.setTop (mkF m 28 #[.val (.ref x0)] [])) ?_ fun t_ k_ => Jvm.RoadKit.acmp (g := (mkF m 11 #[.val (.ref x0)] [(.ref a_ANCESTOR_OR_SELF), (.ref x0)])) X3 hx rfl rfl rfl (pc0 := 11) (pc' := 28) (same := true) rfl (hb hby d1_11) rfl (decide_eq_true (congrArg Value.ref h11_4)) (by decide) (by decide) k_
      refine own_pre (B := T3.setTop (mkF m 29 #[.val (.ref x0)] [(.int (1 : Int32))])) ?_ fun t_ k_ => XS.iconst X3.here hx rfl (hb hby d1_28) k_
      refine own_pre (B := T3.setTop (mkF m 33 #[.val (.ref x0)] [(.int (1 : Int32))])) ?_ fun t_ k_ => XS.goto X3.here hx rfl (pc0 := 29) (pc' := 33) rfl (hb hby d1_29) (by decide) (by decide) k_
      refine own_retN X3 hx hlk (t := .boolean) (z' := (1 : Int32)) Bd.returns (by simp) (hb hby d1_33) (by decide) ?_ (by decide) (by decide)
      rw [e3]
      exact ⟨by rw [own_rev, if_neg h4_2, if_pos h11_4], N0, rfl⟩
    · skip
      refine own_pre (B := T3.setTop (mkF m 14 #[.val (.ref x0)] [])) ?_ fun t_ k_ => Jvm.RoadKit.acmp (g := (mkF m 11 #[.val (.ref x0)] [(.ref a_ANCESTOR_OR_SELF), (.ref x0)])) X3 hx rfl rfl rfl (pc0 := 11) (pc' := 14) (same := false) rfl (hb hby d1_11) rfl (decide_eq_false fun q => h11_4 (Value.ref.inj q)) (by decide) (by decide) k_
      refine own_pre (B := T3.setTop (mkF m 15 #[.val (.ref x0)] [(.ref x0)])) ?_ fun t_ k_ => XS.aloadN X3.here hx rfl (hb hby d1_14) rfl rfl k_
      obtain ⟨T5, X5, e5, st5⟩ := getS2 X3 hx hZ hown (host := "") (Or.inl (hw _ (List.mem_of_getElem? (i := 52) rfl))) Via.refl e3 S_PRECEDING (g := (mkF m 15 #[.val (.ref x0)] [(.ref x0)])) rfl (hb hby d1_15)
      refine own_pre (B := T5.setTop (mkF m 18 #[.val (.ref x0)] [(.ref a_PRECEDING), (.ref x0)])) ?_ st5
      by_cases h18_6 : x0 = a_PRECEDING
      · skip
        refine own_pre (B := T5.setTop (mkF m 28 #[.val (.ref x0)] [])) ?_ fun t_ k_ => Jvm.RoadKit.acmp (g := (mkF m 18 #[.val (.ref x0)] [(.ref a_PRECEDING), (.ref x0)])) X5 hx rfl rfl rfl (pc0 := 18) (pc' := 28) (same := true) rfl (hb hby d1_18) rfl (decide_eq_true (congrArg Value.ref h18_6)) (by decide) (by decide) k_
        refine own_pre (B := T5.setTop (mkF m 29 #[.val (.ref x0)] [(.int (1 : Int32))])) ?_ fun t_ k_ => XS.iconst X5.here hx rfl (hb hby d1_28) k_
        refine own_pre (B := T5.setTop (mkF m 33 #[.val (.ref x0)] [(.int (1 : Int32))])) ?_ fun t_ k_ => XS.goto X5.here hx rfl (pc0 := 29) (pc' := 33) rfl (hb hby d1_29) (by decide) (by decide) k_
        refine own_retN X5 hx hlk (t := .boolean) (z' := (1 : Int32)) Bd.returns (by simp) (hb hby d1_33) (by decide) ?_ (by decide) (by decide)
        rw [e5]
        exact ⟨by rw [own_rev, if_neg h4_2, if_neg h11_4, if_pos h18_6], N0, rfl⟩
      · skip
        refine own_pre (B := T5.setTop (mkF m 21 #[.val (.ref x0)] [])) ?_ fun t_ k_ => Jvm.RoadKit.acmp (g := (mkF m 18 #[.val (.ref x0)] [(.ref a_PRECEDING), (.ref x0)])) X5 hx rfl rfl rfl (pc0 := 18) (pc' := 21) (same := false) rfl (hb hby d1_18) rfl (decide_eq_false fun q => h18_6 (Value.ref.inj q)) (by decide) (by decide) k_
        refine own_pre (B := T5.setTop (mkF m 22 #[.val (.ref x0)] [(.ref x0)])) ?_ fun t_ k_ => XS.aloadN X5.here hx rfl (hb hby d1_21) rfl rfl k_
        obtain ⟨T7, X7, e7, st7⟩ := getS2 X5 hx hZ hown (host := "") (Or.inl (hw _ (List.mem_of_getElem? (i := 53) rfl))) Via.refl e5 S_PRECEDING_SIBLING (g := (mkF m 22 #[.val (.ref x0)] [(.ref x0)])) rfl (hb hby d1_22)
        refine own_pre (B := T7.setTop (mkF m 25 #[.val (.ref x0)] [(.ref a_PRECEDING_SIBLING), (.ref x0)])) ?_ st7
        by_cases h25_8 : x0 = a_PRECEDING_SIBLING
        · skip
          refine own_pre (B := T7.setTop (mkF m 28 #[.val (.ref x0)] [])) ?_ fun t_ k_ => Jvm.RoadKit.acmp (g := (mkF m 25 #[.val (.ref x0)] [(.ref a_PRECEDING_SIBLING), (.ref x0)])) X7 hx rfl rfl rfl (pc0 := 25) (pc' := 28) (same := true) rfl (hb hby d1_25) rfl (decide_eq_true (congrArg Value.ref h25_8)) (by decide) (by decide) k_
          refine own_pre (B := T7.setTop (mkF m 29 #[.val (.ref x0)] [(.int (1 : Int32))])) ?_ fun t_ k_ => XS.iconst X7.here hx rfl (hb hby d1_28) k_
          refine own_pre (B := T7.setTop (mkF m 33 #[.val (.ref x0)] [(.int (1 : Int32))])) ?_ fun t_ k_ => XS.goto X7.here hx rfl (pc0 := 29) (pc' := 33) rfl (hb hby d1_29) (by decide) (by decide) k_
          refine own_retN X7 hx hlk (t := .boolean) (z' := (1 : Int32)) Bd.returns (by simp) (hb hby d1_33) (by decide) ?_ (by decide) (by decide)
          rw [e7]
          exact ⟨by rw [own_rev, if_neg h4_2, if_neg h11_4, if_neg h18_6, if_pos h25_8], N0, rfl⟩
        · skip
          refine own_pre (B := T7.setTop (mkF m 32 #[.val (.ref x0)] [])) ?_ fun t_ k_ => Jvm.RoadKit.acmp (g := (mkF m 25 #[.val (.ref x0)] [(.ref a_PRECEDING_SIBLING), (.ref x0)])) X7 hx rfl rfl rfl (pc0 := 25) (pc' := 32) (same := false) rfl (hb hby d1_25) rfl (decide_eq_false fun q => h25_8 (Value.ref.inj q)) (by decide) (by decide) k_
          refine own_pre (B := T7.setTop (mkF m 33 #[.val (.ref x0)] [(.int (0 : Int32))])) ?_ fun t_ k_ => XS.iconst X7.here hx rfl (hb hby d1_32) k_
          refine own_retN X7 hx hlk (t := .boolean) (z' := (0 : Int32)) Bd.returns (by simp) (hb hby d1_33) (by decide) ?_ (by decide) (by decide)
          rw [e7]
          exact ⟨by rw [own_rev, if_neg h4_2, if_neg h11_4, if_neg h18_6, if_neg h25_8], N0, rfl⟩
theorem pd___Z : parseMethodDescriptor "()Z" = some ⟨[], some .boolean⟩ := by decide +kernel
theorem pn_com_example_kiungo_kiungo_pointer_AxisIsReversePinLaw : plainName "com/example/kiungo/kiungo/pointer/AxisIsReversePinLaw" = true := by first | (simp [plainName, overriddenIn]; done) | decide +kernel
set_option maxHeartbeats 4000000 in
theorem ef_0 (m : MethodId) (x0 : Int32) : entryFrame m #[(.int x0)] maxLocals = mkF m 0 #[.val (.int x0), .unset, .unset, .unset] [] := by first | (simp [entryFrame, mkF, argsToLocals, Value.category, maxLocals]; done) | rfl
def Q0 (Z : State) (x0 : Int32) (a_ANCESTOR : Addr) (a_ANCESTOR_OR_SELF : Addr) (a_ATTRIBUTE : Addr) (a_CHILD : Addr) (a_DESCENDANT : Addr) (a_DESCENDANT_OR_SELF : Addr) (a_FOLLOWING : Addr) (a_FOLLOWING_SIBLING : Addr) (a_NAMESPACE : Addr) (a_PARENT : Addr) (a_PRECEDING : Addr) (a_PRECEDING_SIBLING : Addr) (a_SELF : Addr) (h0 : Heap) (n0 : Nat) (v : Option Value) (h : Heap) (L : List Loc) : Prop := v = some (.int 1) ∧ Fr n0 L
set_option maxRecDepth 65536 in
set_option maxHeartbeats 40000000 in
theorem rm0 (l : Launch) (Z : State) (a0 : Array Value) (hw : ∀ d ∈ tables_1, d.before a0 Z = true) (ws : List Jvm.Cond) (x0 : Int32) (a_ANCESTOR : Addr) (a_ANCESTOR_OR_SELF : Addr) (a_ATTRIBUTE : Addr) (a_CHILD : Addr) (a_DESCENDANT : Addr) (a_DESCENDANT_OR_SELF : Addr) (a_FOLLOWING : Addr) (a_FOLLOWING_SIBLING : Addr) (a_NAMESPACE : Addr) (a_PARENT : Addr) (a_PRECEDING : Addr) (a_PRECEDING_SIBLING : Addr) (a_SELF : Addr) (h0 : Heap) (n0 : Nat) (Z0 : n0 ≤ h0.size) (S_ANCESTOR : Sta Z h0 "com/example/kiungo/kiungo/pointer/Axis" "ANCESTOR" "Lcom/example/kiungo/kiungo/pointer/Axis;" (.ref a_ANCESTOR)) (S_ANCESTOR_OR_SELF : Sta Z h0 "com/example/kiungo/kiungo/pointer/Axis" "ANCESTOR_OR_SELF" "Lcom/example/kiungo/kiungo/pointer/Axis;" (.ref a_ANCESTOR_OR_SELF)) (S_ATTRIBUTE : Sta Z h0 "com/example/kiungo/kiungo/pointer/Axis" "ATTRIBUTE" "Lcom/example/kiungo/kiungo/pointer/Axis;" (.ref a_ATTRIBUTE)) (S_CHILD : Sta Z h0 "com/example/kiungo/kiungo/pointer/Axis" "CHILD" "Lcom/example/kiungo/kiungo/pointer/Axis;" (.ref a_CHILD)) (S_DESCENDANT : Sta Z h0 "com/example/kiungo/kiungo/pointer/Axis" "DESCENDANT" "Lcom/example/kiungo/kiungo/pointer/Axis;" (.ref a_DESCENDANT)) (S_DESCENDANT_OR_SELF : Sta Z h0 "com/example/kiungo/kiungo/pointer/Axis" "DESCENDANT_OR_SELF" "Lcom/example/kiungo/kiungo/pointer/Axis;" (.ref a_DESCENDANT_OR_SELF)) (S_FOLLOWING : Sta Z h0 "com/example/kiungo/kiungo/pointer/Axis" "FOLLOWING" "Lcom/example/kiungo/kiungo/pointer/Axis;" (.ref a_FOLLOWING)) (S_FOLLOWING_SIBLING : Sta Z h0 "com/example/kiungo/kiungo/pointer/Axis" "FOLLOWING_SIBLING" "Lcom/example/kiungo/kiungo/pointer/Axis;" (.ref a_FOLLOWING_SIBLING)) (S_NAMESPACE : Sta Z h0 "com/example/kiungo/kiungo/pointer/Axis" "NAMESPACE" "Lcom/example/kiungo/kiungo/pointer/Axis;" (.ref a_NAMESPACE)) (S_PARENT : Sta Z h0 "com/example/kiungo/kiungo/pointer/Axis" "PARENT" "Lcom/example/kiungo/kiungo/pointer/Axis;" (.ref a_PARENT)) (S_PRECEDING : Sta Z h0 "com/example/kiungo/kiungo/pointer/Axis" "PRECEDING" "Lcom/example/kiungo/kiungo/pointer/Axis;" (.ref a_PRECEDING)) (S_PRECEDING_SIBLING : Sta Z h0 "com/example/kiungo/kiungo/pointer/Axis" "PRECEDING_SIBLING" "Lcom/example/kiungo/kiungo/pointer/Axis;" (.ref a_PRECEDING_SIBLING)) (S_SELF : Sta Z h0 "com/example/kiungo/kiungo/pointer/Axis" "SELF" "Lcom/example/kiungo/kiungo/pointer/Axis;" (.ref a_SELF)) (E_ANCESTOR : Exa Z h0 a_ANCESTOR "com/example/kiungo/kiungo/pointer/Axis$1") (E_ANCESTOR_OR_SELF : Exa Z h0 a_ANCESTOR_OR_SELF "com/example/kiungo/kiungo/pointer/Axis$2") (E_ATTRIBUTE : Exa Z h0 a_ATTRIBUTE "com/example/kiungo/kiungo/pointer/Axis$3") (E_CHILD : Exa Z h0 a_CHILD "com/example/kiungo/kiungo/pointer/Axis$4") (E_DESCENDANT : Exa Z h0 a_DESCENDANT "com/example/kiungo/kiungo/pointer/Axis$5") (E_DESCENDANT_OR_SELF : Exa Z h0 a_DESCENDANT_OR_SELF "com/example/kiungo/kiungo/pointer/Axis$6") (E_FOLLOWING : Exa Z h0 a_FOLLOWING "com/example/kiungo/kiungo/pointer/Axis$7") (E_FOLLOWING_SIBLING : Exa Z h0 a_FOLLOWING_SIBLING "com/example/kiungo/kiungo/pointer/Axis$8") (E_NAMESPACE : Exa Z h0 a_NAMESPACE "com/example/kiungo/kiungo/pointer/Axis$9") (E_PARENT : Exa Z h0 a_PARENT "com/example/kiungo/kiungo/pointer/Axis$10") (E_PRECEDING : Exa Z h0 a_PRECEDING "com/example/kiungo/kiungo/pointer/Axis$11") (E_PRECEDING_SIBLING : Exa Z h0 a_PRECEDING_SIBLING "com/example/kiungo/kiungo/pointer/Axis$12") (E_SELF : Exa Z h0 a_SELF "com/example/kiungo/kiungo/pointer/Axis$13") (ne_ANCESTOR_ANCESTOR_OR_SELF : a_ANCESTOR ≠ a_ANCESTOR_OR_SELF) (ne_ANCESTOR_PRECEDING : a_ANCESTOR ≠ a_PRECEDING) (ne_ANCESTOR_PRECEDING_SIBLING : a_ANCESTOR ≠ a_PRECEDING_SIBLING) (ne_ANCESTOR_OR_SELF_ANCESTOR : a_ANCESTOR_OR_SELF ≠ a_ANCESTOR) (ne_ANCESTOR_OR_SELF_PRECEDING : a_ANCESTOR_OR_SELF ≠ a_PRECEDING) (ne_ANCESTOR_OR_SELF_PRECEDING_SIBLING : a_ANCESTOR_OR_SELF ≠ a_PRECEDING_SIBLING) (ne_ATTRIBUTE_ANCESTOR : a_ATTRIBUTE ≠ a_ANCESTOR) (ne_ATTRIBUTE_ANCESTOR_OR_SELF : a_ATTRIBUTE ≠ a_ANCESTOR_OR_SELF) (ne_ATTRIBUTE_PRECEDING : a_ATTRIBUTE ≠ a_PRECEDING) (ne_ATTRIBUTE_PRECEDING_SIBLING : a_ATTRIBUTE ≠ a_PRECEDING_SIBLING) (ne_CHILD_ANCESTOR : a_CHILD ≠ a_ANCESTOR) (ne_CHILD_ANCESTOR_OR_SELF : a_CHILD ≠ a_ANCESTOR_OR_SELF) (ne_CHILD_PRECEDING : a_CHILD ≠ a_PRECEDING) (ne_CHILD_PRECEDING_SIBLING : a_CHILD ≠ a_PRECEDING_SIBLING) (ne_DESCENDANT_ANCESTOR : a_DESCENDANT ≠ a_ANCESTOR) (ne_DESCENDANT_ANCESTOR_OR_SELF : a_DESCENDANT ≠ a_ANCESTOR_OR_SELF) (ne_DESCENDANT_PRECEDING : a_DESCENDANT ≠ a_PRECEDING) (ne_DESCENDANT_PRECEDING_SIBLING : a_DESCENDANT ≠ a_PRECEDING_SIBLING) (ne_DESCENDANT_OR_SELF_ANCESTOR : a_DESCENDANT_OR_SELF ≠ a_ANCESTOR) (ne_DESCENDANT_OR_SELF_ANCESTOR_OR_SELF : a_DESCENDANT_OR_SELF ≠ a_ANCESTOR_OR_SELF) (ne_DESCENDANT_OR_SELF_PRECEDING : a_DESCENDANT_OR_SELF ≠ a_PRECEDING) (ne_DESCENDANT_OR_SELF_PRECEDING_SIBLING : a_DESCENDANT_OR_SELF ≠ a_PRECEDING_SIBLING) (ne_FOLLOWING_ANCESTOR : a_FOLLOWING ≠ a_ANCESTOR) (ne_FOLLOWING_ANCESTOR_OR_SELF : a_FOLLOWING ≠ a_ANCESTOR_OR_SELF) (ne_FOLLOWING_PRECEDING : a_FOLLOWING ≠ a_PRECEDING) (ne_FOLLOWING_PRECEDING_SIBLING : a_FOLLOWING ≠ a_PRECEDING_SIBLING) (ne_FOLLOWING_SIBLING_ANCESTOR : a_FOLLOWING_SIBLING ≠ a_ANCESTOR) (ne_FOLLOWING_SIBLING_ANCESTOR_OR_SELF : a_FOLLOWING_SIBLING ≠ a_ANCESTOR_OR_SELF) (ne_FOLLOWING_SIBLING_PRECEDING : a_FOLLOWING_SIBLING ≠ a_PRECEDING) (ne_FOLLOWING_SIBLING_PRECEDING_SIBLING : a_FOLLOWING_SIBLING ≠ a_PRECEDING_SIBLING) (ne_NAMESPACE_ANCESTOR : a_NAMESPACE ≠ a_ANCESTOR) (ne_NAMESPACE_ANCESTOR_OR_SELF : a_NAMESPACE ≠ a_ANCESTOR_OR_SELF) (ne_NAMESPACE_PRECEDING : a_NAMESPACE ≠ a_PRECEDING) (ne_NAMESPACE_PRECEDING_SIBLING : a_NAMESPACE ≠ a_PRECEDING_SIBLING) (ne_PARENT_ANCESTOR : a_PARENT ≠ a_ANCESTOR) (ne_PARENT_ANCESTOR_OR_SELF : a_PARENT ≠ a_ANCESTOR_OR_SELF) (ne_PARENT_PRECEDING : a_PARENT ≠ a_PRECEDING) (ne_PARENT_PRECEDING_SIBLING : a_PARENT ≠ a_PRECEDING_SIBLING) (ne_PRECEDING_ANCESTOR : a_PRECEDING ≠ a_ANCESTOR) (ne_PRECEDING_ANCESTOR_OR_SELF : a_PRECEDING ≠ a_ANCESTOR_OR_SELF) (ne_PRECEDING_PRECEDING_SIBLING : a_PRECEDING ≠ a_PRECEDING_SIBLING) (ne_PRECEDING_SIBLING_ANCESTOR : a_PRECEDING_SIBLING ≠ a_ANCESTOR) (ne_PRECEDING_SIBLING_ANCESTOR_OR_SELF : a_PRECEDING_SIBLING ≠ a_ANCESTOR_OR_SELF) (ne_PRECEDING_SIBLING_PRECEDING : a_PRECEDING_SIBLING ≠ a_PRECEDING) (ne_SELF_ANCESTOR : a_SELF ≠ a_ANCESTOR) (ne_SELF_ANCESTOR_OR_SELF : a_SELF ≠ a_ANCESTOR_OR_SELF) (ne_SELF_PRECEDING : a_SELF ≠ a_PRECEDING) (ne_SELF_PRECEDING_SIBLING : a_SELF ≠ a_PRECEDING_SIBLING) :
    MetFree l x (head1 (Jvm.Cond.code x code maxLocals ret :: ws) room_1) (fun a U => a = #[(.int x0)] ∧ Z.Warmed39 U.vm ∧ U.heap = h0) (fun _ _ _ _ _ => True) (fun _ U o U' => ∃ v L, o = .returned v ∧ Q0 Z x0 a_ANCESTOR a_ANCESTOR_OR_SELF a_ATTRIBUTE a_CHILD a_DESCENDANT a_DESCENDANT_OR_SELF a_FOLLOWING a_FOLLOWING_SIBLING a_NAMESPACE a_PARENT a_PRECEDING a_PRECEDING_SIBLING a_SELF h0 n0 v U'.heap L ∧ FrameEnd U o U' L 16 128) := by
  refine MetFree.of_bodySF (plainFor_of_name pn_com_example_kiungo_kiungo_pointer_AxisIsReversePinLaw) hisR ?_
  intro p e s m args below meth c s₁ Bd hml0 hP hK
  obtain ⟨rfl, hZ, hh⟩ := hP
  have hx := Bd.exec
  have hby := Bd.bytes
  have hml : c.maxLocals = 4 := hml0
  have hown : s.vm.findClass "com/example/kiungo/kiungo/pointer/AxisIsReversePinLaw" = some m.cls := findClass_of_methodNamed Bd.named
  have hnm := (name_of_methodNamed Bd.named Bd.method).1
  have hlk : meth.locks = false := BodyLoose.notSynchronized Bd
  have X0 : Stand p l e room_1 s m #[(.int x0)] below meth c s₁ [] 0 0 := Stand.of_body Bd
  have e0 : s₁.heap = h0 := by rw [← hh, Bd.state]; rfl
  have N0 := Fr.nil n0
  show own_E p e below s (Q0 Z x0 a_ANCESTOR a_ANCESTOR_OR_SELF a_ATTRIBUTE a_CHILD a_DESCENDANT a_DESCENDANT_OR_SELF a_FOLLOWING a_FOLLOWING_SIBLING a_NAMESPACE a_PARENT a_PRECEDING a_PRECEDING_SIBLING a_SELF h0 n0) 16 128 (s₁.setTop (entryFrame m #[(.int x0)] maxLocals))
  refine own_pre (B := s₁.setTop (mkF m 0 #[.val (.int x0), .unset, .unset, .unset] [])) ?_ (fun t_ k_ => castTop (ef_0 m x0) k_)
  refine own_pre (B := s₁.setTop (mkF m 2 #[.val (.int x0), .unset, .unset, .unset] [(.int (13 : Int32))])) ?_ fun t_ k_ => XS.bipush X0.here hx rfl (hb hby at_0) k_
  obtain ⟨T1, h1, k1, X1, e1, E1, A1, O1, st1⟩ := newR X0 hx hZ hown (hw _ (List.mem_of_getElem? (i := 0) rfl)) (hw _ (List.mem_of_getElem? (i := 1) rfl)) e0 (g := (mkF m 2 #[.val (.int x0), .unset, .unset, .unset] [(.int (13 : Int32))])) rfl (hb hby at_2) rfl (by decide) (cap := 13) (by decide) (by decide) (by decide) (by decide)
  obtain ⟨b1, g1⟩ : ∃ z, z = h0.size := ⟨_, rfl⟩
  rw [← g1] at A1 st1
  have ne2 : a_ANCESTOR ≠ b1 := Nat.ne_of_lt (Nat.lt_of_lt_of_le E_ANCESTOR.lt (Nat.le_of_eq g1.symm))
  have ne3 : a_ANCESTOR_OR_SELF ≠ b1 := Nat.ne_of_lt (Nat.lt_of_lt_of_le E_ANCESTOR_OR_SELF.lt (Nat.le_of_eq g1.symm))
  have ne4 : a_ATTRIBUTE ≠ b1 := Nat.ne_of_lt (Nat.lt_of_lt_of_le E_ATTRIBUTE.lt (Nat.le_of_eq g1.symm))
  have ne5 : a_CHILD ≠ b1 := Nat.ne_of_lt (Nat.lt_of_lt_of_le E_CHILD.lt (Nat.le_of_eq g1.symm))
  have ne6 : a_DESCENDANT ≠ b1 := Nat.ne_of_lt (Nat.lt_of_lt_of_le E_DESCENDANT.lt (Nat.le_of_eq g1.symm))
  have ne7 : a_DESCENDANT_OR_SELF ≠ b1 := Nat.ne_of_lt (Nat.lt_of_lt_of_le E_DESCENDANT_OR_SELF.lt (Nat.le_of_eq g1.symm))
  have ne8 : a_FOLLOWING ≠ b1 := Nat.ne_of_lt (Nat.lt_of_lt_of_le E_FOLLOWING.lt (Nat.le_of_eq g1.symm))
  have ne9 : a_FOLLOWING_SIBLING ≠ b1 := Nat.ne_of_lt (Nat.lt_of_lt_of_le E_FOLLOWING_SIBLING.lt (Nat.le_of_eq g1.symm))
  have ne10 : a_NAMESPACE ≠ b1 := Nat.ne_of_lt (Nat.lt_of_lt_of_le E_NAMESPACE.lt (Nat.le_of_eq g1.symm))
  have ne11 : a_PARENT ≠ b1 := Nat.ne_of_lt (Nat.lt_of_lt_of_le E_PARENT.lt (Nat.le_of_eq g1.symm))
  have ne12 : a_PRECEDING ≠ b1 := Nat.ne_of_lt (Nat.lt_of_lt_of_le E_PRECEDING.lt (Nat.le_of_eq g1.symm))
  have ne13 : a_PRECEDING_SIBLING ≠ b1 := Nat.ne_of_lt (Nat.lt_of_lt_of_le E_PRECEDING_SIBLING.lt (Nat.le_of_eq g1.symm))
  have ne14 : a_SELF ≠ b1 := Nat.ne_of_lt (Nat.lt_of_lt_of_le E_SELF.lt (Nat.le_of_eq g1.symm))
  have Z1 : n0 ≤ h1.size := Nat.le_trans Z0 E1.1
  have gz1 : n0 ≤ b1 := Nat.le_trans Z0 (Nat.le_of_eq g1.symm)
  have V1 : Arv Z h1 b1 k1 (.object "com/example/kiungo/kiungo/pointer/Axis") (13 : Int32) [.null, .null, .null, .null, .null, .null, .null, .null, .null, .null, .null, .null, .null] .null := (Arv.new A1 (by decide)).pad (pad_rep [] .null 13)
  refine own_pre (B := T1.setTop (mkF m 5 #[.val (.int x0), .unset, .unset, .unset] [(.ref b1)])) ?_ st1
  refine own_pre (B := T1.setTop (mkF m 6 #[.val (.int x0), .unset, .unset, .unset] [(.ref b1), (.ref b1)])) ?_ fun t_ k_ => XS.dup X1.here hx rfl (hb hby at_5) rfl rfl k_
  refine own_pre (B := T1.setTop (mkF m 7 #[.val (.int x0), .unset, .unset, .unset] [(.int (0 : Int32)), (.ref b1), (.ref b1)])) ?_ fun t_ k_ => XS.iconst X1.here hx rfl (hb hby at_6) k_
  have f15 := (S_ANCESTOR.ext E1)
  obtain ⟨T16, X16, e16, st16⟩ := getS2 X1 hx hZ hown (host := "") (Or.inl (hw _ (List.mem_of_getElem? (i := 2) rfl))) Via.refl e1 f15 (g := (mkF m 7 #[.val (.int x0), .unset, .unset, .unset] [(.int (0 : Int32)), (.ref b1), (.ref b1)])) rfl (hb hby at_7)
  refine own_pre (B := T16.setTop (mkF m 10 #[.val (.int x0), .unset, .unset, .unset] [(.ref a_ANCESTOR), (.int (0 : Int32)), (.ref b1), (.ref b1)])) ?_ st16
  obtain ⟨cl17, Ar17, q17, S17, Nn17, Hh17, Gg17⟩ := id V1
  have hin17 : ¬ ((0 : Int32) < 0 ∨ cl17.slots.size ≤ ((0 : Int32)).toNatClampNeg) := inb_of S17 ⟨by decide, by decide⟩
  have f18 := (E_ANCESTOR.ext E1)
  have Sto17 : Sto Z h1 b1 (.ref a_ANCESTOR) := Sto.ofV Ar17 q17 O1 (Ins.of_exa f18 (hw _ (List.mem_of_getElem? (i := 5) rfl)))
  obtain ⟨T17, h17, X17, e17, W17, st17⟩ := stR X16 hx hZ e16 Ar17 (j := (0 : Int32)) hin17 rfl Sto17 (g := (mkF m 10 #[.val (.int x0), .unset, .unset, .unset] [(.ref a_ANCESTOR), (.int (0 : Int32)), (.ref b1), (.ref b1)])) rfl rfl (hb hby at_10)
  have V17 : Arv Z h17 b1 k1 (.object "com/example/kiungo/kiungo/pointer/Axis") (13 : Int32) [(.ref a_ANCESTOR), .null, .null, .null, .null, .null, .null, .null, .null, .null, .null, .null, .null] .null := Arv.set Ar17 q17 S17 Nn17 Hh17 Gg17 (v := (.ref a_ANCESTOR)) rfl W17 0 rfl (Nat.le_of_ble_eq_true rfl)
  have N17 := Fr.snoc X17 N0 gz1
  have Z17 : n0 ≤ h17.size := Nat.le_trans Z1 (Keep.of_wr W17).1
  refine own_pre (B := T17.setTop (mkF m 11 #[.val (.int x0), .unset, .unset, .unset] [(.ref b1)])) ?_ st17
  refine own_pre (B := T17.setTop (mkF m 12 #[.val (.int x0), .unset, .unset, .unset] [(.ref b1), (.ref b1)])) ?_ fun t_ k_ => XS.dup X17.here hx rfl (hb hby at_11) rfl rfl k_
  refine own_pre (B := T17.setTop (mkF m 13 #[.val (.int x0), .unset, .unset, .unset] [(.int (1 : Int32)), (.ref b1), (.ref b1)])) ?_ fun t_ k_ => XS.iconst X17.here hx rfl (hb hby at_12) k_
  have f19 := ((S_ANCESTOR_OR_SELF.ext E1).wr W17)
  obtain ⟨T20, X20, e20, st20⟩ := getS2 X17 hx hZ hown (host := "") (Or.inl (hw _ (List.mem_of_getElem? (i := 6) rfl))) Via.refl e17 f19 (g := (mkF m 13 #[.val (.int x0), .unset, .unset, .unset] [(.int (1 : Int32)), (.ref b1), (.ref b1)])) rfl (hb hby at_13)
  refine own_pre (B := T20.setTop (mkF m 16 #[.val (.int x0), .unset, .unset, .unset] [(.ref a_ANCESTOR_OR_SELF), (.int (1 : Int32)), (.ref b1), (.ref b1)])) ?_ st20
  obtain ⟨cl21, Ar21, q21, S21, Nn21, Hh21, Gg21⟩ := id V17
  have hin21 : ¬ ((1 : Int32) < 0 ∨ cl21.slots.size ≤ ((1 : Int32)).toNatClampNeg) := inb_of S21 ⟨by decide, by decide⟩
  have f22 := ((E_ANCESTOR_OR_SELF.ext E1).wr W17)
  have Sto21 : Sto Z h17 b1 (.ref a_ANCESTOR_OR_SELF) := Sto.ofV Ar21 q21 O1 (Ins.of_exa f22 (hw _ (List.mem_of_getElem? (i := 8) rfl)))
  obtain ⟨T21, h21, X21, e21, W21, st21⟩ := stR X20 hx hZ e20 Ar21 (j := (1 : Int32)) hin21 rfl Sto21 (g := (mkF m 16 #[.val (.int x0), .unset, .unset, .unset] [(.ref a_ANCESTOR_OR_SELF), (.int (1 : Int32)), (.ref b1), (.ref b1)])) rfl rfl (hb hby at_16)
  have V21 : Arv Z h21 b1 k1 (.object "com/example/kiungo/kiungo/pointer/Axis") (13 : Int32) [(.ref a_ANCESTOR), (.ref a_ANCESTOR_OR_SELF), .null, .null, .null, .null, .null, .null, .null, .null, .null, .null, .null] .null := Arv.set Ar21 q21 S21 Nn21 Hh21 Gg21 (v := (.ref a_ANCESTOR_OR_SELF)) rfl W21 1 rfl (Nat.le_of_ble_eq_true rfl)
  have N21 := Fr.snoc X21 N17 gz1
  have Z21 : n0 ≤ h21.size := Nat.le_trans Z17 (Keep.of_wr W21).1
  refine own_pre (B := T21.setTop (mkF m 17 #[.val (.int x0), .unset, .unset, .unset] [(.ref b1)])) ?_ st21
  refine own_pre (B := T21.setTop (mkF m 18 #[.val (.int x0), .unset, .unset, .unset] [(.ref b1), (.ref b1)])) ?_ fun t_ k_ => XS.dup X21.here hx rfl (hb hby at_17) rfl rfl k_
  refine own_pre (B := T21.setTop (mkF m 19 #[.val (.int x0), .unset, .unset, .unset] [(.int (2 : Int32)), (.ref b1), (.ref b1)])) ?_ fun t_ k_ => XS.iconst X21.here hx rfl (hb hby at_18) k_
  have f23 := (((S_ATTRIBUTE.ext E1).wr W17).wr W21)
  obtain ⟨T24, X24, e24, st24⟩ := getS2 X21 hx hZ hown (host := "") (Or.inl (hw _ (List.mem_of_getElem? (i := 9) rfl))) Via.refl e21 f23 (g := (mkF m 19 #[.val (.int x0), .unset, .unset, .unset] [(.int (2 : Int32)), (.ref b1), (.ref b1)])) rfl (hb hby at_19)
  refine own_pre (B := T24.setTop (mkF m 22 #[.val (.int x0), .unset, .unset, .unset] [(.ref a_ATTRIBUTE), (.int (2 : Int32)), (.ref b1), (.ref b1)])) ?_ st24
  obtain ⟨cl25, Ar25, q25, S25, Nn25, Hh25, Gg25⟩ := id V21
  have hin25 : ¬ ((2 : Int32) < 0 ∨ cl25.slots.size ≤ ((2 : Int32)).toNatClampNeg) := inb_of S25 ⟨by decide, by decide⟩
  have f26 := (((E_ATTRIBUTE.ext E1).wr W17).wr W21)
  have Sto25 : Sto Z h21 b1 (.ref a_ATTRIBUTE) := Sto.ofV Ar25 q25 O1 (Ins.of_exa f26 (hw _ (List.mem_of_getElem? (i := 11) rfl)))
  obtain ⟨T25, h25, X25, e25, W25, st25⟩ := stR X24 hx hZ e24 Ar25 (j := (2 : Int32)) hin25 rfl Sto25 (g := (mkF m 22 #[.val (.int x0), .unset, .unset, .unset] [(.ref a_ATTRIBUTE), (.int (2 : Int32)), (.ref b1), (.ref b1)])) rfl rfl (hb hby at_22)
  have V25 : Arv Z h25 b1 k1 (.object "com/example/kiungo/kiungo/pointer/Axis") (13 : Int32) [(.ref a_ANCESTOR), (.ref a_ANCESTOR_OR_SELF), (.ref a_ATTRIBUTE), .null, .null, .null, .null, .null, .null, .null, .null, .null, .null] .null := Arv.set Ar25 q25 S25 Nn25 Hh25 Gg25 (v := (.ref a_ATTRIBUTE)) rfl W25 2 rfl (Nat.le_of_ble_eq_true rfl)
  have N25 := Fr.snoc X25 N21 gz1
  have Z25 : n0 ≤ h25.size := Nat.le_trans Z21 (Keep.of_wr W25).1
  refine own_pre (B := T25.setTop (mkF m 23 #[.val (.int x0), .unset, .unset, .unset] [(.ref b1)])) ?_ st25
  refine own_pre (B := T25.setTop (mkF m 24 #[.val (.int x0), .unset, .unset, .unset] [(.ref b1), (.ref b1)])) ?_ fun t_ k_ => XS.dup X25.here hx rfl (hb hby at_23) rfl rfl k_
  refine own_pre (B := T25.setTop (mkF m 25 #[.val (.int x0), .unset, .unset, .unset] [(.int (3 : Int32)), (.ref b1), (.ref b1)])) ?_ fun t_ k_ => XS.iconst X25.here hx rfl (hb hby at_24) k_
  have f27 := ((((S_CHILD.ext E1).wr W17).wr W21).wr W25)
  obtain ⟨T28, X28, e28, st28⟩ := getS2 X25 hx hZ hown (host := "") (Or.inl (hw _ (List.mem_of_getElem? (i := 12) rfl))) Via.refl e25 f27 (g := (mkF m 25 #[.val (.int x0), .unset, .unset, .unset] [(.int (3 : Int32)), (.ref b1), (.ref b1)])) rfl (hb hby at_25)
  refine own_pre (B := T28.setTop (mkF m 28 #[.val (.int x0), .unset, .unset, .unset] [(.ref a_CHILD), (.int (3 : Int32)), (.ref b1), (.ref b1)])) ?_ st28
  obtain ⟨cl29, Ar29, q29, S29, Nn29, Hh29, Gg29⟩ := id V25
  have hin29 : ¬ ((3 : Int32) < 0 ∨ cl29.slots.size ≤ ((3 : Int32)).toNatClampNeg) := inb_of S29 ⟨by decide, by decide⟩
  have f30 := ((((E_CHILD.ext E1).wr W17).wr W21).wr W25)
  have Sto29 : Sto Z h25 b1 (.ref a_CHILD) := Sto.ofV Ar29 q29 O1 (Ins.of_exa f30 (hw _ (List.mem_of_getElem? (i := 14) rfl)))
  obtain ⟨T29, h29, X29, e29, W29, st29⟩ := stR X28 hx hZ e28 Ar29 (j := (3 : Int32)) hin29 rfl Sto29 (g := (mkF m 28 #[.val (.int x0), .unset, .unset, .unset] [(.ref a_CHILD), (.int (3 : Int32)), (.ref b1), (.ref b1)])) rfl rfl (hb hby at_28)
  have V29 : Arv Z h29 b1 k1 (.object "com/example/kiungo/kiungo/pointer/Axis") (13 : Int32) [(.ref a_ANCESTOR), (.ref a_ANCESTOR_OR_SELF), (.ref a_ATTRIBUTE), (.ref a_CHILD), .null, .null, .null, .null, .null, .null, .null, .null, .null] .null := Arv.set Ar29 q29 S29 Nn29 Hh29 Gg29 (v := (.ref a_CHILD)) rfl W29 3 rfl (Nat.le_of_ble_eq_true rfl)
  have N29 := Fr.snoc X29 N25 gz1
  have Z29 : n0 ≤ h29.size := Nat.le_trans Z25 (Keep.of_wr W29).1
  refine own_pre (B := T29.setTop (mkF m 29 #[.val (.int x0), .unset, .unset, .unset] [(.ref b1)])) ?_ st29
  refine own_pre (B := T29.setTop (mkF m 30 #[.val (.int x0), .unset, .unset, .unset] [(.ref b1), (.ref b1)])) ?_ fun t_ k_ => XS.dup X29.here hx rfl (hb hby at_29) rfl rfl k_
  refine own_pre (B := T29.setTop (mkF m 31 #[.val (.int x0), .unset, .unset, .unset] [(.int (4 : Int32)), (.ref b1), (.ref b1)])) ?_ fun t_ k_ => XS.iconst X29.here hx rfl (hb hby at_30) k_
  have f31 := (((((S_DESCENDANT.ext E1).wr W17).wr W21).wr W25).wr W29)
  obtain ⟨T32, X32, e32, st32⟩ := getS2 X29 hx hZ hown (host := "") (Or.inl (hw _ (List.mem_of_getElem? (i := 15) rfl))) Via.refl e29 f31 (g := (mkF m 31 #[.val (.int x0), .unset, .unset, .unset] [(.int (4 : Int32)), (.ref b1), (.ref b1)])) rfl (hb hby at_31)
  refine own_pre (B := T32.setTop (mkF m 34 #[.val (.int x0), .unset, .unset, .unset] [(.ref a_DESCENDANT), (.int (4 : Int32)), (.ref b1), (.ref b1)])) ?_ st32
  obtain ⟨cl33, Ar33, q33, S33, Nn33, Hh33, Gg33⟩ := id V29
  have hin33 : ¬ ((4 : Int32) < 0 ∨ cl33.slots.size ≤ ((4 : Int32)).toNatClampNeg) := inb_of S33 ⟨by decide, by decide⟩
  have f34 := (((((E_DESCENDANT.ext E1).wr W17).wr W21).wr W25).wr W29)
  have Sto33 : Sto Z h29 b1 (.ref a_DESCENDANT) := Sto.ofV Ar33 q33 O1 (Ins.of_exa f34 (hw _ (List.mem_of_getElem? (i := 17) rfl)))
  obtain ⟨T33, h33, X33, e33, W33, st33⟩ := stR X32 hx hZ e32 Ar33 (j := (4 : Int32)) hin33 rfl Sto33 (g := (mkF m 34 #[.val (.int x0), .unset, .unset, .unset] [(.ref a_DESCENDANT), (.int (4 : Int32)), (.ref b1), (.ref b1)])) rfl rfl (hb hby at_34)
  have V33 : Arv Z h33 b1 k1 (.object "com/example/kiungo/kiungo/pointer/Axis") (13 : Int32) [(.ref a_ANCESTOR), (.ref a_ANCESTOR_OR_SELF), (.ref a_ATTRIBUTE), (.ref a_CHILD), (.ref a_DESCENDANT), .null, .null, .null, .null, .null, .null, .null, .null] .null := Arv.set Ar33 q33 S33 Nn33 Hh33 Gg33 (v := (.ref a_DESCENDANT)) rfl W33 4 rfl (Nat.le_of_ble_eq_true rfl)
  have N33 := Fr.snoc X33 N29 gz1
  have Z33 : n0 ≤ h33.size := Nat.le_trans Z29 (Keep.of_wr W33).1
  refine own_pre (B := T33.setTop (mkF m 35 #[.val (.int x0), .unset, .unset, .unset] [(.ref b1)])) ?_ st33
  refine own_pre (B := T33.setTop (mkF m 36 #[.val (.int x0), .unset, .unset, .unset] [(.ref b1), (.ref b1)])) ?_ fun t_ k_ => XS.dup X33.here hx rfl (hb hby at_35) rfl rfl k_
  refine own_pre (B := T33.setTop (mkF m 37 #[.val (.int x0), .unset, .unset, .unset] [(.int (5 : Int32)), (.ref b1), (.ref b1)])) ?_ fun t_ k_ => XS.iconst X33.here hx rfl (hb hby at_36) k_
  have f35 := ((((((S_DESCENDANT_OR_SELF.ext E1).wr W17).wr W21).wr W25).wr W29).wr W33)
  obtain ⟨T36, X36, e36, st36⟩ := getS2 X33 hx hZ hown (host := "") (Or.inl (hw _ (List.mem_of_getElem? (i := 18) rfl))) Via.refl e33 f35 (g := (mkF m 37 #[.val (.int x0), .unset, .unset, .unset] [(.int (5 : Int32)), (.ref b1), (.ref b1)])) rfl (hb hby at_37)
  refine own_pre (B := T36.setTop (mkF m 40 #[.val (.int x0), .unset, .unset, .unset] [(.ref a_DESCENDANT_OR_SELF), (.int (5 : Int32)), (.ref b1), (.ref b1)])) ?_ st36
  obtain ⟨cl37, Ar37, q37, S37, Nn37, Hh37, Gg37⟩ := id V33
  have hin37 : ¬ ((5 : Int32) < 0 ∨ cl37.slots.size ≤ ((5 : Int32)).toNatClampNeg) := inb_of S37 ⟨by decide, by decide⟩
  have f38 := ((((((E_DESCENDANT_OR_SELF.ext E1).wr W17).wr W21).wr W25).wr W29).wr W33)
  have Sto37 : Sto Z h33 b1 (.ref a_DESCENDANT_OR_SELF) := Sto.ofV Ar37 q37 O1 (Ins.of_exa f38 (hw _ (List.mem_of_getElem? (i := 20) rfl)))
  obtain ⟨T37, h37, X37, e37, W37, st37⟩ := stR X36 hx hZ e36 Ar37 (j := (5 : Int32)) hin37 rfl Sto37 (g := (mkF m 40 #[.val (.int x0), .unset, .unset, .unset] [(.ref a_DESCENDANT_OR_SELF), (.int (5 : Int32)), (.ref b1), (.ref b1)])) rfl rfl (hb hby at_40)
  have V37 : Arv Z h37 b1 k1 (.object "com/example/kiungo/kiungo/pointer/Axis") (13 : Int32) [(.ref a_ANCESTOR), (.ref a_ANCESTOR_OR_SELF), (.ref a_ATTRIBUTE), (.ref a_CHILD), (.ref a_DESCENDANT), (.ref a_DESCENDANT_OR_SELF), .null, .null, .null, .null, .null, .null, .null] .null := Arv.set Ar37 q37 S37 Nn37 Hh37 Gg37 (v := (.ref a_DESCENDANT_OR_SELF)) rfl W37 5 rfl (Nat.le_of_ble_eq_true rfl)
  have N37 := Fr.snoc X37 N33 gz1
  have Z37 : n0 ≤ h37.size := Nat.le_trans Z33 (Keep.of_wr W37).1
  refine own_pre (B := T37.setTop (mkF m 41 #[.val (.int x0), .unset, .unset, .unset] [(.ref b1)])) ?_ st37
  refine own_pre (B := T37.setTop (mkF m 42 #[.val (.int x0), .unset, .unset, .unset] [(.ref b1), (.ref b1)])) ?_ fun t_ k_ => XS.dup X37.here hx rfl (hb hby at_41) rfl rfl k_
  refine own_pre (B := T37.setTop (mkF m 44 #[.val (.int x0), .unset, .unset, .unset] [(.int (6 : Int32)), (.ref b1), (.ref b1)])) ?_ fun t_ k_ => XS.bipush X37.here hx rfl (hb hby at_42) k_
  have f39 := (((((((S_FOLLOWING.ext E1).wr W17).wr W21).wr W25).wr W29).wr W33).wr W37)
  obtain ⟨T40, X40, e40, st40⟩ := getS2 X37 hx hZ hown (host := "") (Or.inl (hw _ (List.mem_of_getElem? (i := 21) rfl))) Via.refl e37 f39 (g := (mkF m 44 #[.val (.int x0), .unset, .unset, .unset] [(.int (6 : Int32)), (.ref b1), (.ref b1)])) rfl (hb hby at_44)
  refine own_pre (B := T40.setTop (mkF m 47 #[.val (.int x0), .unset, .unset, .unset] [(.ref a_FOLLOWING), (.int (6 : Int32)), (.ref b1), (.ref b1)])) ?_ st40
  obtain ⟨cl41, Ar41, q41, S41, Nn41, Hh41, Gg41⟩ := id V37
  have hin41 : ¬ ((6 : Int32) < 0 ∨ cl41.slots.size ≤ ((6 : Int32)).toNatClampNeg) := inb_of S41 ⟨by decide, by decide⟩
  have f42 := (((((((E_FOLLOWING.ext E1).wr W17).wr W21).wr W25).wr W29).wr W33).wr W37)
  have Sto41 : Sto Z h37 b1 (.ref a_FOLLOWING) := Sto.ofV Ar41 q41 O1 (Ins.of_exa f42 (hw _ (List.mem_of_getElem? (i := 23) rfl)))
  obtain ⟨T41, h41, X41, e41, W41, st41⟩ := stR X40 hx hZ e40 Ar41 (j := (6 : Int32)) hin41 rfl Sto41 (g := (mkF m 47 #[.val (.int x0), .unset, .unset, .unset] [(.ref a_FOLLOWING), (.int (6 : Int32)), (.ref b1), (.ref b1)])) rfl rfl (hb hby at_47)
  have V41 : Arv Z h41 b1 k1 (.object "com/example/kiungo/kiungo/pointer/Axis") (13 : Int32) [(.ref a_ANCESTOR), (.ref a_ANCESTOR_OR_SELF), (.ref a_ATTRIBUTE), (.ref a_CHILD), (.ref a_DESCENDANT), (.ref a_DESCENDANT_OR_SELF), (.ref a_FOLLOWING), .null, .null, .null, .null, .null, .null] .null := Arv.set Ar41 q41 S41 Nn41 Hh41 Gg41 (v := (.ref a_FOLLOWING)) rfl W41 6 rfl (Nat.le_of_ble_eq_true rfl)
  have N41 := Fr.snoc X41 N37 gz1
  have Z41 : n0 ≤ h41.size := Nat.le_trans Z37 (Keep.of_wr W41).1
  refine own_pre (B := T41.setTop (mkF m 48 #[.val (.int x0), .unset, .unset, .unset] [(.ref b1)])) ?_ st41
  refine own_pre (B := T41.setTop (mkF m 49 #[.val (.int x0), .unset, .unset, .unset] [(.ref b1), (.ref b1)])) ?_ fun t_ k_ => XS.dup X41.here hx rfl (hb hby at_48) rfl rfl k_
  refine own_pre (B := T41.setTop (mkF m 51 #[.val (.int x0), .unset, .unset, .unset] [(.int (7 : Int32)), (.ref b1), (.ref b1)])) ?_ fun t_ k_ => XS.bipush X41.here hx rfl (hb hby at_49) k_
  have f43 := ((((((((S_FOLLOWING_SIBLING.ext E1).wr W17).wr W21).wr W25).wr W29).wr W33).wr W37).wr W41)
  obtain ⟨T44, X44, e44, st44⟩ := getS2 X41 hx hZ hown (host := "") (Or.inl (hw _ (List.mem_of_getElem? (i := 24) rfl))) Via.refl e41 f43 (g := (mkF m 51 #[.val (.int x0), .unset, .unset, .unset] [(.int (7 : Int32)), (.ref b1), (.ref b1)])) rfl (hb hby at_51)
  refine own_pre (B := T44.setTop (mkF m 54 #[.val (.int x0), .unset, .unset, .unset] [(.ref a_FOLLOWING_SIBLING), (.int (7 : Int32)), (.ref b1), (.ref b1)])) ?_ st44
  obtain ⟨cl45, Ar45, q45, S45, Nn45, Hh45, Gg45⟩ := id V41
  have hin45 : ¬ ((7 : Int32) < 0 ∨ cl45.slots.size ≤ ((7 : Int32)).toNatClampNeg) := inb_of S45 ⟨by decide, by decide⟩
  have f46 := ((((((((E_FOLLOWING_SIBLING.ext E1).wr W17).wr W21).wr W25).wr W29).wr W33).wr W37).wr W41)
  have Sto45 : Sto Z h41 b1 (.ref a_FOLLOWING_SIBLING) := Sto.ofV Ar45 q45 O1 (Ins.of_exa f46 (hw _ (List.mem_of_getElem? (i := 26) rfl)))
  obtain ⟨T45, h45, X45, e45, W45, st45⟩ := stR X44 hx hZ e44 Ar45 (j := (7 : Int32)) hin45 rfl Sto45 (g := (mkF m 54 #[.val (.int x0), .unset, .unset, .unset] [(.ref a_FOLLOWING_SIBLING), (.int (7 : Int32)), (.ref b1), (.ref b1)])) rfl rfl (hb hby at_54)
  have V45 : Arv Z h45 b1 k1 (.object "com/example/kiungo/kiungo/pointer/Axis") (13 : Int32) [(.ref a_ANCESTOR), (.ref a_ANCESTOR_OR_SELF), (.ref a_ATTRIBUTE), (.ref a_CHILD), (.ref a_DESCENDANT), (.ref a_DESCENDANT_OR_SELF), (.ref a_FOLLOWING), (.ref a_FOLLOWING_SIBLING), .null, .null, .null, .null, .null] .null := Arv.set Ar45 q45 S45 Nn45 Hh45 Gg45 (v := (.ref a_FOLLOWING_SIBLING)) rfl W45 7 rfl (Nat.le_of_ble_eq_true rfl)
  have N45 := Fr.snoc X45 N41 gz1
  have Z45 : n0 ≤ h45.size := Nat.le_trans Z41 (Keep.of_wr W45).1
  refine own_pre (B := T45.setTop (mkF m 55 #[.val (.int x0), .unset, .unset, .unset] [(.ref b1)])) ?_ st45
  refine own_pre (B := T45.setTop (mkF m 56 #[.val (.int x0), .unset, .unset, .unset] [(.ref b1), (.ref b1)])) ?_ fun t_ k_ => XS.dup X45.here hx rfl (hb hby at_55) rfl rfl k_
  refine own_pre (B := T45.setTop (mkF m 58 #[.val (.int x0), .unset, .unset, .unset] [(.int (8 : Int32)), (.ref b1), (.ref b1)])) ?_ fun t_ k_ => XS.bipush X45.here hx rfl (hb hby at_56) k_
  have f47 := (((((((((S_NAMESPACE.ext E1).wr W17).wr W21).wr W25).wr W29).wr W33).wr W37).wr W41).wr W45)
  obtain ⟨T48, X48, e48, st48⟩ := getS2 X45 hx hZ hown (host := "") (Or.inl (hw _ (List.mem_of_getElem? (i := 27) rfl))) Via.refl e45 f47 (g := (mkF m 58 #[.val (.int x0), .unset, .unset, .unset] [(.int (8 : Int32)), (.ref b1), (.ref b1)])) rfl (hb hby at_58)
  refine own_pre (B := T48.setTop (mkF m 61 #[.val (.int x0), .unset, .unset, .unset] [(.ref a_NAMESPACE), (.int (8 : Int32)), (.ref b1), (.ref b1)])) ?_ st48
  obtain ⟨cl49, Ar49, q49, S49, Nn49, Hh49, Gg49⟩ := id V45
  have hin49 : ¬ ((8 : Int32) < 0 ∨ cl49.slots.size ≤ ((8 : Int32)).toNatClampNeg) := inb_of S49 ⟨by decide, by decide⟩
  have f50 := (((((((((E_NAMESPACE.ext E1).wr W17).wr W21).wr W25).wr W29).wr W33).wr W37).wr W41).wr W45)
  have Sto49 : Sto Z h45 b1 (.ref a_NAMESPACE) := Sto.ofV Ar49 q49 O1 (Ins.of_exa f50 (hw _ (List.mem_of_getElem? (i := 29) rfl)))
  obtain ⟨T49, h49, X49, e49, W49, st49⟩ := stR X48 hx hZ e48 Ar49 (j := (8 : Int32)) hin49 rfl Sto49 (g := (mkF m 61 #[.val (.int x0), .unset, .unset, .unset] [(.ref a_NAMESPACE), (.int (8 : Int32)), (.ref b1), (.ref b1)])) rfl rfl (hb hby at_61)
  have V49 : Arv Z h49 b1 k1 (.object "com/example/kiungo/kiungo/pointer/Axis") (13 : Int32) [(.ref a_ANCESTOR), (.ref a_ANCESTOR_OR_SELF), (.ref a_ATTRIBUTE), (.ref a_CHILD), (.ref a_DESCENDANT), (.ref a_DESCENDANT_OR_SELF), (.ref a_FOLLOWING), (.ref a_FOLLOWING_SIBLING), (.ref a_NAMESPACE), .null, .null, .null, .null] .null := Arv.set Ar49 q49 S49 Nn49 Hh49 Gg49 (v := (.ref a_NAMESPACE)) rfl W49 8 rfl (Nat.le_of_ble_eq_true rfl)
  have N49 := Fr.snoc X49 N45 gz1
  have Z49 : n0 ≤ h49.size := Nat.le_trans Z45 (Keep.of_wr W49).1
  refine own_pre (B := T49.setTop (mkF m 62 #[.val (.int x0), .unset, .unset, .unset] [(.ref b1)])) ?_ st49
  refine own_pre (B := T49.setTop (mkF m 63 #[.val (.int x0), .unset, .unset, .unset] [(.ref b1), (.ref b1)])) ?_ fun t_ k_ => XS.dup X49.here hx rfl (hb hby at_62) rfl rfl k_
  refine own_pre (B := T49.setTop (mkF m 65 #[.val (.int x0), .unset, .unset, .unset] [(.int (9 : Int32)), (.ref b1), (.ref b1)])) ?_ fun t_ k_ => XS.bipush X49.here hx rfl (hb hby at_63) k_
  have f51 := ((((((((((S_PARENT.ext E1).wr W17).wr W21).wr W25).wr W29).wr W33).wr W37).wr W41).wr W45).wr W49)
  obtain ⟨T52, X52, e52, st52⟩ := getS2 X49 hx hZ hown (host := "") (Or.inl (hw _ (List.mem_of_getElem? (i := 30) rfl))) Via.refl e49 f51 (g := (mkF m 65 #[.val (.int x0), .unset, .unset, .unset] [(.int (9 : Int32)), (.ref b1), (.ref b1)])) rfl (hb hby at_65)
  refine own_pre (B := T52.setTop (mkF m 68 #[.val (.int x0), .unset, .unset, .unset] [(.ref a_PARENT), (.int (9 : Int32)), (.ref b1), (.ref b1)])) ?_ st52
  obtain ⟨cl53, Ar53, q53, S53, Nn53, Hh53, Gg53⟩ := id V49
  have hin53 : ¬ ((9 : Int32) < 0 ∨ cl53.slots.size ≤ ((9 : Int32)).toNatClampNeg) := inb_of S53 ⟨by decide, by decide⟩
  have f54 := ((((((((((E_PARENT.ext E1).wr W17).wr W21).wr W25).wr W29).wr W33).wr W37).wr W41).wr W45).wr W49)
  have Sto53 : Sto Z h49 b1 (.ref a_PARENT) := Sto.ofV Ar53 q53 O1 (Ins.of_exa f54 (hw _ (List.mem_of_getElem? (i := 32) rfl)))
  obtain ⟨T53, h53, X53, e53, W53, st53⟩ := stR X52 hx hZ e52 Ar53 (j := (9 : Int32)) hin53 rfl Sto53 (g := (mkF m 68 #[.val (.int x0), .unset, .unset, .unset] [(.ref a_PARENT), (.int (9 : Int32)), (.ref b1), (.ref b1)])) rfl rfl (hb hby at_68)
  have V53 : Arv Z h53 b1 k1 (.object "com/example/kiungo/kiungo/pointer/Axis") (13 : Int32) [(.ref a_ANCESTOR), (.ref a_ANCESTOR_OR_SELF), (.ref a_ATTRIBUTE), (.ref a_CHILD), (.ref a_DESCENDANT), (.ref a_DESCENDANT_OR_SELF), (.ref a_FOLLOWING), (.ref a_FOLLOWING_SIBLING), (.ref a_NAMESPACE), (.ref a_PARENT), .null, .null, .null] .null := Arv.set Ar53 q53 S53 Nn53 Hh53 Gg53 (v := (.ref a_PARENT)) rfl W53 9 rfl (Nat.le_of_ble_eq_true rfl)
  have N53 := Fr.snoc X53 N49 gz1
  have Z53 : n0 ≤ h53.size := Nat.le_trans Z49 (Keep.of_wr W53).1
  refine own_pre (B := T53.setTop (mkF m 69 #[.val (.int x0), .unset, .unset, .unset] [(.ref b1)])) ?_ st53
  refine own_pre (B := T53.setTop (mkF m 70 #[.val (.int x0), .unset, .unset, .unset] [(.ref b1), (.ref b1)])) ?_ fun t_ k_ => XS.dup X53.here hx rfl (hb hby at_69) rfl rfl k_
  refine own_pre (B := T53.setTop (mkF m 72 #[.val (.int x0), .unset, .unset, .unset] [(.int (10 : Int32)), (.ref b1), (.ref b1)])) ?_ fun t_ k_ => XS.bipush X53.here hx rfl (hb hby at_70) k_
  have f55 := (((((((((((S_PRECEDING.ext E1).wr W17).wr W21).wr W25).wr W29).wr W33).wr W37).wr W41).wr W45).wr W49).wr W53)
  obtain ⟨T56, X56, e56, st56⟩ := getS2 X53 hx hZ hown (host := "") (Or.inl (hw _ (List.mem_of_getElem? (i := 33) rfl))) Via.refl e53 f55 (g := (mkF m 72 #[.val (.int x0), .unset, .unset, .unset] [(.int (10 : Int32)), (.ref b1), (.ref b1)])) rfl (hb hby at_72)
  refine own_pre (B := T56.setTop (mkF m 75 #[.val (.int x0), .unset, .unset, .unset] [(.ref a_PRECEDING), (.int (10 : Int32)), (.ref b1), (.ref b1)])) ?_ st56
  obtain ⟨cl57, Ar57, q57, S57, Nn57, Hh57, Gg57⟩ := id V53
  have hin57 : ¬ ((10 : Int32) < 0 ∨ cl57.slots.size ≤ ((10 : Int32)).toNatClampNeg) := inb_of S57 ⟨by decide, by decide⟩
  have f58 := (((((((((((E_PRECEDING.ext E1).wr W17).wr W21).wr W25).wr W29).wr W33).wr W37).wr W41).wr W45).wr W49).wr W53)
  have Sto57 : Sto Z h53 b1 (.ref a_PRECEDING) := Sto.ofV Ar57 q57 O1 (Ins.of_exa f58 (hw _ (List.mem_of_getElem? (i := 35) rfl)))
  obtain ⟨T57, h57, X57, e57, W57, st57⟩ := stR X56 hx hZ e56 Ar57 (j := (10 : Int32)) hin57 rfl Sto57 (g := (mkF m 75 #[.val (.int x0), .unset, .unset, .unset] [(.ref a_PRECEDING), (.int (10 : Int32)), (.ref b1), (.ref b1)])) rfl rfl (hb hby at_75)
  have V57 : Arv Z h57 b1 k1 (.object "com/example/kiungo/kiungo/pointer/Axis") (13 : Int32) [(.ref a_ANCESTOR), (.ref a_ANCESTOR_OR_SELF), (.ref a_ATTRIBUTE), (.ref a_CHILD), (.ref a_DESCENDANT), (.ref a_DESCENDANT_OR_SELF), (.ref a_FOLLOWING), (.ref a_FOLLOWING_SIBLING), (.ref a_NAMESPACE), (.ref a_PARENT), (.ref a_PRECEDING), .null, .null] .null := Arv.set Ar57 q57 S57 Nn57 Hh57 Gg57 (v := (.ref a_PRECEDING)) rfl W57 10 rfl (Nat.le_of_ble_eq_true rfl)
  have N57 := Fr.snoc X57 N53 gz1
  have Z57 : n0 ≤ h57.size := Nat.le_trans Z53 (Keep.of_wr W57).1
  refine own_pre (B := T57.setTop (mkF m 76 #[.val (.int x0), .unset, .unset, .unset] [(.ref b1)])) ?_ st57
  refine own_pre (B := T57.setTop (mkF m 77 #[.val (.int x0), .unset, .unset, .unset] [(.ref b1), (.ref b1)])) ?_ fun t_ k_ => XS.dup X57.here hx rfl (hb hby at_76) rfl rfl k_
  refine own_pre (B := T57.setTop (mkF m 79 #[.val (.int x0), .unset, .unset, .unset] [(.int (11 : Int32)), (.ref b1), (.ref b1)])) ?_ fun t_ k_ => XS.bipush X57.here hx rfl (hb hby at_77) k_
  have f59 := ((((((((((((S_PRECEDING_SIBLING.ext E1).wr W17).wr W21).wr W25).wr W29).wr W33).wr W37).wr W41).wr W45).wr W49).wr W53).wr W57)
  obtain ⟨T60, X60, e60, st60⟩ := getS2 X57 hx hZ hown (host := "") (Or.inl (hw _ (List.mem_of_getElem? (i := 36) rfl))) Via.refl e57 f59 (g := (mkF m 79 #[.val (.int x0), .unset, .unset, .unset] [(.int (11 : Int32)), (.ref b1), (.ref b1)])) rfl (hb hby at_79)
  refine own_pre (B := T60.setTop (mkF m 82 #[.val (.int x0), .unset, .unset, .unset] [(.ref a_PRECEDING_SIBLING), (.int (11 : Int32)), (.ref b1), (.ref b1)])) ?_ st60
  obtain ⟨cl61, Ar61, q61, S61, Nn61, Hh61, Gg61⟩ := id V57
  have hin61 : ¬ ((11 : Int32) < 0 ∨ cl61.slots.size ≤ ((11 : Int32)).toNatClampNeg) := inb_of S61 ⟨by decide, by decide⟩
  have f62 := ((((((((((((E_PRECEDING_SIBLING.ext E1).wr W17).wr W21).wr W25).wr W29).wr W33).wr W37).wr W41).wr W45).wr W49).wr W53).wr W57)
  have Sto61 : Sto Z h57 b1 (.ref a_PRECEDING_SIBLING) := Sto.ofV Ar61 q61 O1 (Ins.of_exa f62 (hw _ (List.mem_of_getElem? (i := 38) rfl)))
  obtain ⟨T61, h61, X61, e61, W61, st61⟩ := stR X60 hx hZ e60 Ar61 (j := (11 : Int32)) hin61 rfl Sto61 (g := (mkF m 82 #[.val (.int x0), .unset, .unset, .unset] [(.ref a_PRECEDING_SIBLING), (.int (11 : Int32)), (.ref b1), (.ref b1)])) rfl rfl (hb hby at_82)
  have V61 : Arv Z h61 b1 k1 (.object "com/example/kiungo/kiungo/pointer/Axis") (13 : Int32) [(.ref a_ANCESTOR), (.ref a_ANCESTOR_OR_SELF), (.ref a_ATTRIBUTE), (.ref a_CHILD), (.ref a_DESCENDANT), (.ref a_DESCENDANT_OR_SELF), (.ref a_FOLLOWING), (.ref a_FOLLOWING_SIBLING), (.ref a_NAMESPACE), (.ref a_PARENT), (.ref a_PRECEDING), (.ref a_PRECEDING_SIBLING), .null] .null := Arv.set Ar61 q61 S61 Nn61 Hh61 Gg61 (v := (.ref a_PRECEDING_SIBLING)) rfl W61 11 rfl (Nat.le_of_ble_eq_true rfl)
  have N61 := Fr.snoc X61 N57 gz1
  have Z61 : n0 ≤ h61.size := Nat.le_trans Z57 (Keep.of_wr W61).1
  refine own_pre (B := T61.setTop (mkF m 83 #[.val (.int x0), .unset, .unset, .unset] [(.ref b1)])) ?_ st61
  refine own_pre (B := T61.setTop (mkF m 84 #[.val (.int x0), .unset, .unset, .unset] [(.ref b1), (.ref b1)])) ?_ fun t_ k_ => XS.dup X61.here hx rfl (hb hby at_83) rfl rfl k_
  refine own_pre (B := T61.setTop (mkF m 86 #[.val (.int x0), .unset, .unset, .unset] [(.int (12 : Int32)), (.ref b1), (.ref b1)])) ?_ fun t_ k_ => XS.bipush X61.here hx rfl (hb hby at_84) k_
  have f63 := (((((((((((((S_SELF.ext E1).wr W17).wr W21).wr W25).wr W29).wr W33).wr W37).wr W41).wr W45).wr W49).wr W53).wr W57).wr W61)
  obtain ⟨T64, X64, e64, st64⟩ := getS2 X61 hx hZ hown (host := "") (Or.inl (hw _ (List.mem_of_getElem? (i := 39) rfl))) Via.refl e61 f63 (g := (mkF m 86 #[.val (.int x0), .unset, .unset, .unset] [(.int (12 : Int32)), (.ref b1), (.ref b1)])) rfl (hb hby at_86)
  refine own_pre (B := T64.setTop (mkF m 89 #[.val (.int x0), .unset, .unset, .unset] [(.ref a_SELF), (.int (12 : Int32)), (.ref b1), (.ref b1)])) ?_ st64
  obtain ⟨cl65, Ar65, q65, S65, Nn65, Hh65, Gg65⟩ := id V61
  have hin65 : ¬ ((12 : Int32) < 0 ∨ cl65.slots.size ≤ ((12 : Int32)).toNatClampNeg) := inb_of S65 ⟨by decide, by decide⟩
  have f66 := (((((((((((((E_SELF.ext E1).wr W17).wr W21).wr W25).wr W29).wr W33).wr W37).wr W41).wr W45).wr W49).wr W53).wr W57).wr W61)
  have Sto65 : Sto Z h61 b1 (.ref a_SELF) := Sto.ofV Ar65 q65 O1 (Ins.of_exa f66 (hw _ (List.mem_of_getElem? (i := 41) rfl)))
  obtain ⟨T65, h65, X65, e65, W65, st65⟩ := stR X64 hx hZ e64 Ar65 (j := (12 : Int32)) hin65 rfl Sto65 (g := (mkF m 89 #[.val (.int x0), .unset, .unset, .unset] [(.ref a_SELF), (.int (12 : Int32)), (.ref b1), (.ref b1)])) rfl rfl (hb hby at_89)
  have V65 : Arv Z h65 b1 k1 (.object "com/example/kiungo/kiungo/pointer/Axis") (13 : Int32) [(.ref a_ANCESTOR), (.ref a_ANCESTOR_OR_SELF), (.ref a_ATTRIBUTE), (.ref a_CHILD), (.ref a_DESCENDANT), (.ref a_DESCENDANT_OR_SELF), (.ref a_FOLLOWING), (.ref a_FOLLOWING_SIBLING), (.ref a_NAMESPACE), (.ref a_PARENT), (.ref a_PRECEDING), (.ref a_PRECEDING_SIBLING), (.ref a_SELF)] .null := Arv.set Ar65 q65 S65 Nn65 Hh65 Gg65 (v := (.ref a_SELF)) rfl W65 12 rfl (Nat.le_of_ble_eq_true rfl)
  have N65 := Fr.snoc X65 N61 gz1
  have Z65 : n0 ≤ h65.size := Nat.le_trans Z61 (Keep.of_wr W65).1
  refine own_pre (B := T65.setTop (mkF m 90 #[.val (.int x0), .unset, .unset, .unset] [(.ref b1)])) ?_ st65
  refine own_pre (B := T65.setTop (mkF m 91 #[.val (.int x0), .val (.ref b1), .unset, .unset] [])) ?_ fun t_ k_ => XS.astoreN X65.here hx rfl (hb hby at_90) rfl rfl (l' := #[.val (.int x0), .val (.ref b1), .unset, .unset]) rfl k_
  refine own_pre (B := T65.setTop (mkF m 93 #[.val (.int x0), .val (.ref b1), .unset, .unset] [(.int (13 : Int32))])) ?_ fun t_ k_ => XS.bipush X65.here hx rfl (hb hby at_91) k_
  obtain ⟨T67, h67, k67, X67, e67, E67, A67, st67⟩ := newP X65 hx hZ (hw _ (List.mem_of_getElem? (i := 42) rfl)) e65 (g := (mkF m 93 #[.val (.int x0), .val (.ref b1), .unset, .unset] [(.int (13 : Int32))])) rfl (hb hby at_93) rfl (by decide) (cap := 13) (by decide) (by decide) (by decide) (by decide)
  obtain ⟨b67, g67⟩ : ∃ z, z = h65.size := ⟨_, rfl⟩
  rw [← g67] at A67 st67
  have f69 := (((((((((((((f18.wr W17).wr W21).wr W25).wr W29).wr W33).wr W37).wr W41).wr W45).wr W49).wr W53).wr W57).wr W61).wr W65)
  have ne68 : a_ANCESTOR ≠ b67 := Nat.ne_of_lt (Nat.lt_of_lt_of_le f69.lt (Nat.le_of_eq g67.symm))
  have f71 := ((((((((((((f22.wr W21).wr W25).wr W29).wr W33).wr W37).wr W41).wr W45).wr W49).wr W53).wr W57).wr W61).wr W65)
  have ne70 : a_ANCESTOR_OR_SELF ≠ b67 := Nat.ne_of_lt (Nat.lt_of_lt_of_le f71.lt (Nat.le_of_eq g67.symm))
  have f73 := (((((((((((f26.wr W25).wr W29).wr W33).wr W37).wr W41).wr W45).wr W49).wr W53).wr W57).wr W61).wr W65)
  have ne72 : a_ATTRIBUTE ≠ b67 := Nat.ne_of_lt (Nat.lt_of_lt_of_le f73.lt (Nat.le_of_eq g67.symm))
  have f75 := ((((((((((f30.wr W29).wr W33).wr W37).wr W41).wr W45).wr W49).wr W53).wr W57).wr W61).wr W65)
  have ne74 : a_CHILD ≠ b67 := Nat.ne_of_lt (Nat.lt_of_lt_of_le f75.lt (Nat.le_of_eq g67.symm))
  have f77 := (((((((((f34.wr W33).wr W37).wr W41).wr W45).wr W49).wr W53).wr W57).wr W61).wr W65)
  have ne76 : a_DESCENDANT ≠ b67 := Nat.ne_of_lt (Nat.lt_of_lt_of_le f77.lt (Nat.le_of_eq g67.symm))
  have f79 := ((((((((f38.wr W37).wr W41).wr W45).wr W49).wr W53).wr W57).wr W61).wr W65)
  have ne78 : a_DESCENDANT_OR_SELF ≠ b67 := Nat.ne_of_lt (Nat.lt_of_lt_of_le f79.lt (Nat.le_of_eq g67.symm))
  have f81 := (((((((f42.wr W41).wr W45).wr W49).wr W53).wr W57).wr W61).wr W65)
  have ne80 : a_FOLLOWING ≠ b67 := Nat.ne_of_lt (Nat.lt_of_lt_of_le f81.lt (Nat.le_of_eq g67.symm))
  have f83 := ((((((f46.wr W45).wr W49).wr W53).wr W57).wr W61).wr W65)
  have ne82 : a_FOLLOWING_SIBLING ≠ b67 := Nat.ne_of_lt (Nat.lt_of_lt_of_le f83.lt (Nat.le_of_eq g67.symm))
  have f85 := (((((f50.wr W49).wr W53).wr W57).wr W61).wr W65)
  have ne84 : a_NAMESPACE ≠ b67 := Nat.ne_of_lt (Nat.lt_of_lt_of_le f85.lt (Nat.le_of_eq g67.symm))
  have f87 := ((((f54.wr W53).wr W57).wr W61).wr W65)
  have ne86 : a_PARENT ≠ b67 := Nat.ne_of_lt (Nat.lt_of_lt_of_le f87.lt (Nat.le_of_eq g67.symm))
  have f89 := (((f58.wr W57).wr W61).wr W65)
  have ne88 : a_PRECEDING ≠ b67 := Nat.ne_of_lt (Nat.lt_of_lt_of_le f89.lt (Nat.le_of_eq g67.symm))
  have f91 := ((f62.wr W61).wr W65)
  have ne90 : a_PRECEDING_SIBLING ≠ b67 := Nat.ne_of_lt (Nat.lt_of_lt_of_le f91.lt (Nat.le_of_eq g67.symm))
  have f93 := (f66.wr W65)
  have ne92 : a_SELF ≠ b67 := Nat.ne_of_lt (Nat.lt_of_lt_of_le f93.lt (Nat.le_of_eq g67.symm))
  have ne94 : b1 ≠ b67 := Nat.ne_of_lt (Nat.lt_of_lt_of_le V65.lt (Nat.le_of_eq g67.symm))
  have Z67 : n0 ≤ h67.size := Nat.le_trans Z65 E67.1
  have gz67 : n0 ≤ b67 := Nat.le_trans Z65 (Nat.le_of_eq g67.symm)
  have V67 : Arv Z h67 b67 k67 .boolean (13 : Int32) [(.int (0 : Int32)), (.int (0 : Int32)), (.int (0 : Int32)), (.int (0 : Int32)), (.int (0 : Int32)), (.int (0 : Int32)), (.int (0 : Int32)), (.int (0 : Int32)), (.int (0 : Int32)), (.int (0 : Int32)), (.int (0 : Int32)), (.int (0 : Int32)), (.int (0 : Int32))] (.int (0 : Int32)) := (Arv.new A67 (by decide)).pad (pad_rep [] (.int (0 : Int32)) 13)
  refine own_pre (B := T67.setTop (mkF m 95 #[.val (.int x0), .val (.ref b1), .unset, .unset] [(.ref b67)])) ?_ st67
  refine own_pre (B := T67.setTop (mkF m 96 #[.val (.int x0), .val (.ref b1), .unset, .unset] [(.ref b67), (.ref b67)])) ?_ fun t_ k_ => XS.dup X67.here hx rfl (hb hby at_95) rfl rfl k_
  refine own_pre (B := T67.setTop (mkF m 97 #[.val (.int x0), .val (.ref b1), .unset, .unset] [(.int (0 : Int32)), (.ref b67), (.ref b67)])) ?_ fun t_ k_ => XS.iconst X67.here hx rfl (hb hby at_96) k_
  refine own_pre (B := T67.setTop (mkF m 98 #[.val (.int x0), .val (.ref b1), .unset, .unset] [(.int (1 : Int32)), (.int (0 : Int32)), (.ref b67), (.ref b67)])) ?_ fun t_ k_ => XS.iconst X67.here hx rfl (hb hby at_97) k_
  obtain ⟨cl95, Ar95, q95, S95, Nn95, Hh95, Gg95⟩ := id V67
  have hin95 : ¬ ((0 : Int32) < 0 ∨ cl95.slots.size ≤ ((0 : Int32)).toNatClampNeg) := inb_of S95 ⟨by decide, by decide⟩
  obtain ⟨T95, h95, X95, e95, W95, st95⟩ := stZ X67 hx hZ e67 Ar95 (j := (0 : Int32)) hin95 (g := (mkF m 98 #[.val (.int x0), .val (.ref b1), .unset, .unset] [(.int (1 : Int32)), (.int (0 : Int32)), (.ref b67), (.ref b67)])) rfl rfl (hb hby at_98)
  have V95 : Arv Z h95 b67 k67 .boolean (13 : Int32) [(.int (1 : Int32)), (.int (0 : Int32)), (.int (0 : Int32)), (.int (0 : Int32)), (.int (0 : Int32)), (.int (0 : Int32)), (.int (0 : Int32)), (.int (0 : Int32)), (.int (0 : Int32)), (.int (0 : Int32)), (.int (0 : Int32)), (.int (0 : Int32)), (.int (0 : Int32))] (.int (0 : Int32)) := Arv.set Ar95 q95 S95 Nn95 Hh95 Gg95 (v := (.int (1 : Int32))) (by first | rfl | exact fits_nar_bool _) W95 0 rfl (Nat.le_of_ble_eq_true rfl)
  have N95 := Fr.snoc X95 N65 gz67
  have Z95 : n0 ≤ h95.size := Nat.le_trans Z67 (Keep.of_wr W95).1
  refine own_pre (B := T95.setTop (mkF m 99 #[.val (.int x0), .val (.ref b1), .unset, .unset] [(.ref b67)])) ?_ st95
  refine own_pre (B := T95.setTop (mkF m 100 #[.val (.int x0), .val (.ref b1), .unset, .unset] [(.ref b67), (.ref b67)])) ?_ fun t_ k_ => XS.dup X95.here hx rfl (hb hby at_99) rfl rfl k_
  refine own_pre (B := T95.setTop (mkF m 101 #[.val (.int x0), .val (.ref b1), .unset, .unset] [(.int (1 : Int32)), (.ref b67), (.ref b67)])) ?_ fun t_ k_ => XS.iconst X95.here hx rfl (hb hby at_100) k_
  refine own_pre (B := T95.setTop (mkF m 102 #[.val (.int x0), .val (.ref b1), .unset, .unset] [(.int (1 : Int32)), (.int (1 : Int32)), (.ref b67), (.ref b67)])) ?_ fun t_ k_ => XS.iconst X95.here hx rfl (hb hby at_101) k_
  obtain ⟨cl96, Ar96, q96, S96, Nn96, Hh96, Gg96⟩ := id V95
  have hin96 : ¬ ((1 : Int32) < 0 ∨ cl96.slots.size ≤ ((1 : Int32)).toNatClampNeg) := inb_of S96 ⟨by decide, by decide⟩
  obtain ⟨T96, h96, X96, e96, W96, st96⟩ := stZ X95 hx hZ e95 Ar96 (j := (1 : Int32)) hin96 (g := (mkF m 102 #[.val (.int x0), .val (.ref b1), .unset, .unset] [(.int (1 : Int32)), (.int (1 : Int32)), (.ref b67), (.ref b67)])) rfl rfl (hb hby at_102)
  have V96 : Arv Z h96 b67 k67 .boolean (13 : Int32) [(.int (1 : Int32)), (.int (1 : Int32)), (.int (0 : Int32)), (.int (0 : Int32)), (.int (0 : Int32)), (.int (0 : Int32)), (.int (0 : Int32)), (.int (0 : Int32)), (.int (0 : Int32)), (.int (0 : Int32)), (.int (0 : Int32)), (.int (0 : Int32)), (.int (0 : Int32))] (.int (0 : Int32)) := Arv.set Ar96 q96 S96 Nn96 Hh96 Gg96 (v := (.int (1 : Int32))) (by first | rfl | exact fits_nar_bool _) W96 1 rfl (Nat.le_of_ble_eq_true rfl)
  have N96 := Fr.snoc X96 N95 gz67
  have Z96 : n0 ≤ h96.size := Nat.le_trans Z95 (Keep.of_wr W96).1
  refine own_pre (B := T96.setTop (mkF m 103 #[.val (.int x0), .val (.ref b1), .unset, .unset] [(.ref b67)])) ?_ st96
  refine own_pre (B := T96.setTop (mkF m 104 #[.val (.int x0), .val (.ref b1), .unset, .unset] [(.ref b67), (.ref b67)])) ?_ fun t_ k_ => XS.dup X96.here hx rfl (hb hby at_103) rfl rfl k_
  refine own_pre (B := T96.setTop (mkF m 105 #[.val (.int x0), .val (.ref b1), .unset, .unset] [(.int (2 : Int32)), (.ref b67), (.ref b67)])) ?_ fun t_ k_ => XS.iconst X96.here hx rfl (hb hby at_104) k_
  refine own_pre (B := T96.setTop (mkF m 106 #[.val (.int x0), .val (.ref b1), .unset, .unset] [(.int (0 : Int32)), (.int (2 : Int32)), (.ref b67), (.ref b67)])) ?_ fun t_ k_ => XS.iconst X96.here hx rfl (hb hby at_105) k_
  obtain ⟨cl97, Ar97, q97, S97, Nn97, Hh97, Gg97⟩ := id V96
  have hin97 : ¬ ((2 : Int32) < 0 ∨ cl97.slots.size ≤ ((2 : Int32)).toNatClampNeg) := inb_of S97 ⟨by decide, by decide⟩
  obtain ⟨T97, h97, X97, e97, W97, st97⟩ := stZ X96 hx hZ e96 Ar97 (j := (2 : Int32)) hin97 (g := (mkF m 106 #[.val (.int x0), .val (.ref b1), .unset, .unset] [(.int (0 : Int32)), (.int (2 : Int32)), (.ref b67), (.ref b67)])) rfl rfl (hb hby at_106)
  have V97 : Arv Z h97 b67 k67 .boolean (13 : Int32) [(.int (1 : Int32)), (.int (1 : Int32)), (.int (0 : Int32)), (.int (0 : Int32)), (.int (0 : Int32)), (.int (0 : Int32)), (.int (0 : Int32)), (.int (0 : Int32)), (.int (0 : Int32)), (.int (0 : Int32)), (.int (0 : Int32)), (.int (0 : Int32)), (.int (0 : Int32))] (.int (0 : Int32)) := Arv.set Ar97 q97 S97 Nn97 Hh97 Gg97 (v := (.int (0 : Int32))) (by first | rfl | exact fits_nar_bool _) W97 2 rfl (Nat.le_of_ble_eq_true rfl)
  have N97 := Fr.snoc X97 N96 gz67
  have Z97 : n0 ≤ h97.size := Nat.le_trans Z96 (Keep.of_wr W97).1
  refine own_pre (B := T97.setTop (mkF m 107 #[.val (.int x0), .val (.ref b1), .unset, .unset] [(.ref b67)])) ?_ st97
  refine own_pre (B := T97.setTop (mkF m 108 #[.val (.int x0), .val (.ref b1), .unset, .unset] [(.ref b67), (.ref b67)])) ?_ fun t_ k_ => XS.dup X97.here hx rfl (hb hby at_107) rfl rfl k_
  refine own_pre (B := T97.setTop (mkF m 109 #[.val (.int x0), .val (.ref b1), .unset, .unset] [(.int (3 : Int32)), (.ref b67), (.ref b67)])) ?_ fun t_ k_ => XS.iconst X97.here hx rfl (hb hby at_108) k_
  refine own_pre (B := T97.setTop (mkF m 110 #[.val (.int x0), .val (.ref b1), .unset, .unset] [(.int (0 : Int32)), (.int (3 : Int32)), (.ref b67), (.ref b67)])) ?_ fun t_ k_ => XS.iconst X97.here hx rfl (hb hby at_109) k_
  obtain ⟨cl98, Ar98, q98, S98, Nn98, Hh98, Gg98⟩ := id V97
  have hin98 : ¬ ((3 : Int32) < 0 ∨ cl98.slots.size ≤ ((3 : Int32)).toNatClampNeg) := inb_of S98 ⟨by decide, by decide⟩
  obtain ⟨T98, h98, X98, e98, W98, st98⟩ := stZ X97 hx hZ e97 Ar98 (j := (3 : Int32)) hin98 (g := (mkF m 110 #[.val (.int x0), .val (.ref b1), .unset, .unset] [(.int (0 : Int32)), (.int (3 : Int32)), (.ref b67), (.ref b67)])) rfl rfl (hb hby at_110)
  have V98 : Arv Z h98 b67 k67 .boolean (13 : Int32) [(.int (1 : Int32)), (.int (1 : Int32)), (.int (0 : Int32)), (.int (0 : Int32)), (.int (0 : Int32)), (.int (0 : Int32)), (.int (0 : Int32)), (.int (0 : Int32)), (.int (0 : Int32)), (.int (0 : Int32)), (.int (0 : Int32)), (.int (0 : Int32)), (.int (0 : Int32))] (.int (0 : Int32)) := Arv.set Ar98 q98 S98 Nn98 Hh98 Gg98 (v := (.int (0 : Int32))) (by first | rfl | exact fits_nar_bool _) W98 3 rfl (Nat.le_of_ble_eq_true rfl)
  have N98 := Fr.snoc X98 N97 gz67
  have Z98 : n0 ≤ h98.size := Nat.le_trans Z97 (Keep.of_wr W98).1
  refine own_pre (B := T98.setTop (mkF m 111 #[.val (.int x0), .val (.ref b1), .unset, .unset] [(.ref b67)])) ?_ st98
  refine own_pre (B := T98.setTop (mkF m 112 #[.val (.int x0), .val (.ref b1), .unset, .unset] [(.ref b67), (.ref b67)])) ?_ fun t_ k_ => XS.dup X98.here hx rfl (hb hby at_111) rfl rfl k_
  refine own_pre (B := T98.setTop (mkF m 113 #[.val (.int x0), .val (.ref b1), .unset, .unset] [(.int (4 : Int32)), (.ref b67), (.ref b67)])) ?_ fun t_ k_ => XS.iconst X98.here hx rfl (hb hby at_112) k_
  refine own_pre (B := T98.setTop (mkF m 114 #[.val (.int x0), .val (.ref b1), .unset, .unset] [(.int (0 : Int32)), (.int (4 : Int32)), (.ref b67), (.ref b67)])) ?_ fun t_ k_ => XS.iconst X98.here hx rfl (hb hby at_113) k_
  obtain ⟨cl99, Ar99, q99, S99, Nn99, Hh99, Gg99⟩ := id V98
  have hin99 : ¬ ((4 : Int32) < 0 ∨ cl99.slots.size ≤ ((4 : Int32)).toNatClampNeg) := inb_of S99 ⟨by decide, by decide⟩
  obtain ⟨T99, h99, X99, e99, W99, st99⟩ := stZ X98 hx hZ e98 Ar99 (j := (4 : Int32)) hin99 (g := (mkF m 114 #[.val (.int x0), .val (.ref b1), .unset, .unset] [(.int (0 : Int32)), (.int (4 : Int32)), (.ref b67), (.ref b67)])) rfl rfl (hb hby at_114)
  have V99 : Arv Z h99 b67 k67 .boolean (13 : Int32) [(.int (1 : Int32)), (.int (1 : Int32)), (.int (0 : Int32)), (.int (0 : Int32)), (.int (0 : Int32)), (.int (0 : Int32)), (.int (0 : Int32)), (.int (0 : Int32)), (.int (0 : Int32)), (.int (0 : Int32)), (.int (0 : Int32)), (.int (0 : Int32)), (.int (0 : Int32))] (.int (0 : Int32)) := Arv.set Ar99 q99 S99 Nn99 Hh99 Gg99 (v := (.int (0 : Int32))) (by first | rfl | exact fits_nar_bool _) W99 4 rfl (Nat.le_of_ble_eq_true rfl)
  have N99 := Fr.snoc X99 N98 gz67
  have Z99 : n0 ≤ h99.size := Nat.le_trans Z98 (Keep.of_wr W99).1
  refine own_pre (B := T99.setTop (mkF m 115 #[.val (.int x0), .val (.ref b1), .unset, .unset] [(.ref b67)])) ?_ st99
  refine own_pre (B := T99.setTop (mkF m 116 #[.val (.int x0), .val (.ref b1), .unset, .unset] [(.ref b67), (.ref b67)])) ?_ fun t_ k_ => XS.dup X99.here hx rfl (hb hby at_115) rfl rfl k_
  refine own_pre (B := T99.setTop (mkF m 117 #[.val (.int x0), .val (.ref b1), .unset, .unset] [(.int (5 : Int32)), (.ref b67), (.ref b67)])) ?_ fun t_ k_ => XS.iconst X99.here hx rfl (hb hby at_116) k_
  refine own_pre (B := T99.setTop (mkF m 118 #[.val (.int x0), .val (.ref b1), .unset, .unset] [(.int (0 : Int32)), (.int (5 : Int32)), (.ref b67), (.ref b67)])) ?_ fun t_ k_ => XS.iconst X99.here hx rfl (hb hby at_117) k_
  obtain ⟨cl100, Ar100, q100, S100, Nn100, Hh100, Gg100⟩ := id V99
  have hin100 : ¬ ((5 : Int32) < 0 ∨ cl100.slots.size ≤ ((5 : Int32)).toNatClampNeg) := inb_of S100 ⟨by decide, by decide⟩
  obtain ⟨T100, h100, X100, e100, W100, st100⟩ := stZ X99 hx hZ e99 Ar100 (j := (5 : Int32)) hin100 (g := (mkF m 118 #[.val (.int x0), .val (.ref b1), .unset, .unset] [(.int (0 : Int32)), (.int (5 : Int32)), (.ref b67), (.ref b67)])) rfl rfl (hb hby at_118)
  have V100 : Arv Z h100 b67 k67 .boolean (13 : Int32) [(.int (1 : Int32)), (.int (1 : Int32)), (.int (0 : Int32)), (.int (0 : Int32)), (.int (0 : Int32)), (.int (0 : Int32)), (.int (0 : Int32)), (.int (0 : Int32)), (.int (0 : Int32)), (.int (0 : Int32)), (.int (0 : Int32)), (.int (0 : Int32)), (.int (0 : Int32))] (.int (0 : Int32)) := Arv.set Ar100 q100 S100 Nn100 Hh100 Gg100 (v := (.int (0 : Int32))) (by first | rfl | exact fits_nar_bool _) W100 5 rfl (Nat.le_of_ble_eq_true rfl)
  have N100 := Fr.snoc X100 N99 gz67
  have Z100 : n0 ≤ h100.size := Nat.le_trans Z99 (Keep.of_wr W100).1
  refine own_pre (B := T100.setTop (mkF m 119 #[.val (.int x0), .val (.ref b1), .unset, .unset] [(.ref b67)])) ?_ st100
  refine own_pre (B := T100.setTop (mkF m 120 #[.val (.int x0), .val (.ref b1), .unset, .unset] [(.ref b67), (.ref b67)])) ?_ fun t_ k_ => XS.dup X100.here hx rfl (hb hby at_119) rfl rfl k_
  refine own_pre (B := T100.setTop (mkF m 122 #[.val (.int x0), .val (.ref b1), .unset, .unset] [(.int (6 : Int32)), (.ref b67), (.ref b67)])) ?_ fun t_ k_ => XS.bipush X100.here hx rfl (hb hby at_120) k_
  refine own_pre (B := T100.setTop (mkF m 123 #[.val (.int x0), .val (.ref b1), .unset, .unset] [(.int (0 : Int32)), (.int (6 : Int32)), (.ref b67), (.ref b67)])) ?_ fun t_ k_ => XS.iconst X100.here hx rfl (hb hby at_122) k_
  obtain ⟨cl101, Ar101, q101, S101, Nn101, Hh101, Gg101⟩ := id V100
  have hin101 : ¬ ((6 : Int32) < 0 ∨ cl101.slots.size ≤ ((6 : Int32)).toNatClampNeg) := inb_of S101 ⟨by decide, by decide⟩
  obtain ⟨T101, h101, X101, e101, W101, st101⟩ := stZ X100 hx hZ e100 Ar101 (j := (6 : Int32)) hin101 (g := (mkF m 123 #[.val (.int x0), .val (.ref b1), .unset, .unset] [(.int (0 : Int32)), (.int (6 : Int32)), (.ref b67), (.ref b67)])) rfl rfl (hb hby at_123)
  have V101 : Arv Z h101 b67 k67 .boolean (13 : Int32) [(.int (1 : Int32)), (.int (1 : Int32)), (.int (0 : Int32)), (.int (0 : Int32)), (.int (0 : Int32)), (.int (0 : Int32)), (.int (0 : Int32)), (.int (0 : Int32)), (.int (0 : Int32)), (.int (0 : Int32)), (.int (0 : Int32)), (.int (0 : Int32)), (.int (0 : Int32))] (.int (0 : Int32)) := Arv.set Ar101 q101 S101 Nn101 Hh101 Gg101 (v := (.int (0 : Int32))) (by first | rfl | exact fits_nar_bool _) W101 6 rfl (Nat.le_of_ble_eq_true rfl)
  have N101 := Fr.snoc X101 N100 gz67
  have Z101 : n0 ≤ h101.size := Nat.le_trans Z100 (Keep.of_wr W101).1
  refine own_pre (B := T101.setTop (mkF m 124 #[.val (.int x0), .val (.ref b1), .unset, .unset] [(.ref b67)])) ?_ st101
  refine own_pre (B := T101.setTop (mkF m 125 #[.val (.int x0), .val (.ref b1), .unset, .unset] [(.ref b67), (.ref b67)])) ?_ fun t_ k_ => XS.dup X101.here hx rfl (hb hby at_124) rfl rfl k_
  refine own_pre (B := T101.setTop (mkF m 127 #[.val (.int x0), .val (.ref b1), .unset, .unset] [(.int (7 : Int32)), (.ref b67), (.ref b67)])) ?_ fun t_ k_ => XS.bipush X101.here hx rfl (hb hby at_125) k_
  refine own_pre (B := T101.setTop (mkF m 128 #[.val (.int x0), .val (.ref b1), .unset, .unset] [(.int (0 : Int32)), (.int (7 : Int32)), (.ref b67), (.ref b67)])) ?_ fun t_ k_ => XS.iconst X101.here hx rfl (hb hby at_127) k_
  obtain ⟨cl102, Ar102, q102, S102, Nn102, Hh102, Gg102⟩ := id V101
  have hin102 : ¬ ((7 : Int32) < 0 ∨ cl102.slots.size ≤ ((7 : Int32)).toNatClampNeg) := inb_of S102 ⟨by decide, by decide⟩
  obtain ⟨T102, h102, X102, e102, W102, st102⟩ := stZ X101 hx hZ e101 Ar102 (j := (7 : Int32)) hin102 (g := (mkF m 128 #[.val (.int x0), .val (.ref b1), .unset, .unset] [(.int (0 : Int32)), (.int (7 : Int32)), (.ref b67), (.ref b67)])) rfl rfl (hb hby at_128)
  have V102 : Arv Z h102 b67 k67 .boolean (13 : Int32) [(.int (1 : Int32)), (.int (1 : Int32)), (.int (0 : Int32)), (.int (0 : Int32)), (.int (0 : Int32)), (.int (0 : Int32)), (.int (0 : Int32)), (.int (0 : Int32)), (.int (0 : Int32)), (.int (0 : Int32)), (.int (0 : Int32)), (.int (0 : Int32)), (.int (0 : Int32))] (.int (0 : Int32)) := Arv.set Ar102 q102 S102 Nn102 Hh102 Gg102 (v := (.int (0 : Int32))) (by first | rfl | exact fits_nar_bool _) W102 7 rfl (Nat.le_of_ble_eq_true rfl)
  have N102 := Fr.snoc X102 N101 gz67
  have Z102 : n0 ≤ h102.size := Nat.le_trans Z101 (Keep.of_wr W102).1
  refine own_pre (B := T102.setTop (mkF m 129 #[.val (.int x0), .val (.ref b1), .unset, .unset] [(.ref b67)])) ?_ st102
  refine own_pre (B := T102.setTop (mkF m 130 #[.val (.int x0), .val (.ref b1), .unset, .unset] [(.ref b67), (.ref b67)])) ?_ fun t_ k_ => XS.dup X102.here hx rfl (hb hby at_129) rfl rfl k_
  refine own_pre (B := T102.setTop (mkF m 132 #[.val (.int x0), .val (.ref b1), .unset, .unset] [(.int (8 : Int32)), (.ref b67), (.ref b67)])) ?_ fun t_ k_ => XS.bipush X102.here hx rfl (hb hby at_130) k_
  refine own_pre (B := T102.setTop (mkF m 133 #[.val (.int x0), .val (.ref b1), .unset, .unset] [(.int (0 : Int32)), (.int (8 : Int32)), (.ref b67), (.ref b67)])) ?_ fun t_ k_ => XS.iconst X102.here hx rfl (hb hby at_132) k_
  obtain ⟨cl103, Ar103, q103, S103, Nn103, Hh103, Gg103⟩ := id V102
  have hin103 : ¬ ((8 : Int32) < 0 ∨ cl103.slots.size ≤ ((8 : Int32)).toNatClampNeg) := inb_of S103 ⟨by decide, by decide⟩
  obtain ⟨T103, h103, X103, e103, W103, st103⟩ := stZ X102 hx hZ e102 Ar103 (j := (8 : Int32)) hin103 (g := (mkF m 133 #[.val (.int x0), .val (.ref b1), .unset, .unset] [(.int (0 : Int32)), (.int (8 : Int32)), (.ref b67), (.ref b67)])) rfl rfl (hb hby at_133)
  have V103 : Arv Z h103 b67 k67 .boolean (13 : Int32) [(.int (1 : Int32)), (.int (1 : Int32)), (.int (0 : Int32)), (.int (0 : Int32)), (.int (0 : Int32)), (.int (0 : Int32)), (.int (0 : Int32)), (.int (0 : Int32)), (.int (0 : Int32)), (.int (0 : Int32)), (.int (0 : Int32)), (.int (0 : Int32)), (.int (0 : Int32))] (.int (0 : Int32)) := Arv.set Ar103 q103 S103 Nn103 Hh103 Gg103 (v := (.int (0 : Int32))) (by first | rfl | exact fits_nar_bool _) W103 8 rfl (Nat.le_of_ble_eq_true rfl)
  have N103 := Fr.snoc X103 N102 gz67
  have Z103 : n0 ≤ h103.size := Nat.le_trans Z102 (Keep.of_wr W103).1
  refine own_pre (B := T103.setTop (mkF m 134 #[.val (.int x0), .val (.ref b1), .unset, .unset] [(.ref b67)])) ?_ st103
  refine own_pre (B := T103.setTop (mkF m 135 #[.val (.int x0), .val (.ref b1), .unset, .unset] [(.ref b67), (.ref b67)])) ?_ fun t_ k_ => XS.dup X103.here hx rfl (hb hby at_134) rfl rfl k_
  refine own_pre (B := T103.setTop (mkF m 137 #[.val (.int x0), .val (.ref b1), .unset, .unset] [(.int (9 : Int32)), (.ref b67), (.ref b67)])) ?_ fun t_ k_ => XS.bipush X103.here hx rfl (hb hby at_135) k_
  refine own_pre (B := T103.setTop (mkF m 138 #[.val (.int x0), .val (.ref b1), .unset, .unset] [(.int (0 : Int32)), (.int (9 : Int32)), (.ref b67), (.ref b67)])) ?_ fun t_ k_ => XS.iconst X103.here hx rfl (hb hby at_137) k_
  obtain ⟨cl104, Ar104, q104, S104, Nn104, Hh104, Gg104⟩ := id V103
  have hin104 : ¬ ((9 : Int32) < 0 ∨ cl104.slots.size ≤ ((9 : Int32)).toNatClampNeg) := inb_of S104 ⟨by decide, by decide⟩
  obtain ⟨T104, h104, X104, e104, W104, st104⟩ := stZ X103 hx hZ e103 Ar104 (j := (9 : Int32)) hin104 (g := (mkF m 138 #[.val (.int x0), .val (.ref b1), .unset, .unset] [(.int (0 : Int32)), (.int (9 : Int32)), (.ref b67), (.ref b67)])) rfl rfl (hb hby at_138)
  have V104 : Arv Z h104 b67 k67 .boolean (13 : Int32) [(.int (1 : Int32)), (.int (1 : Int32)), (.int (0 : Int32)), (.int (0 : Int32)), (.int (0 : Int32)), (.int (0 : Int32)), (.int (0 : Int32)), (.int (0 : Int32)), (.int (0 : Int32)), (.int (0 : Int32)), (.int (0 : Int32)), (.int (0 : Int32)), (.int (0 : Int32))] (.int (0 : Int32)) := Arv.set Ar104 q104 S104 Nn104 Hh104 Gg104 (v := (.int (0 : Int32))) (by first | rfl | exact fits_nar_bool _) W104 9 rfl (Nat.le_of_ble_eq_true rfl)
  have N104 := Fr.snoc X104 N103 gz67
  have Z104 : n0 ≤ h104.size := Nat.le_trans Z103 (Keep.of_wr W104).1
  refine own_pre (B := T104.setTop (mkF m 139 #[.val (.int x0), .val (.ref b1), .unset, .unset] [(.ref b67)])) ?_ st104
  refine own_pre (B := T104.setTop (mkF m 140 #[.val (.int x0), .val (.ref b1), .unset, .unset] [(.ref b67), (.ref b67)])) ?_ fun t_ k_ => XS.dup X104.here hx rfl (hb hby at_139) rfl rfl k_
  refine own_pre (B := T104.setTop (mkF m 142 #[.val (.int x0), .val (.ref b1), .unset, .unset] [(.int (10 : Int32)), (.ref b67), (.ref b67)])) ?_ fun t_ k_ => XS.bipush X104.here hx rfl (hb hby at_140) k_
  refine own_pre (B := T104.setTop (mkF m 143 #[.val (.int x0), .val (.ref b1), .unset, .unset] [(.int (1 : Int32)), (.int (10 : Int32)), (.ref b67), (.ref b67)])) ?_ fun t_ k_ => XS.iconst X104.here hx rfl (hb hby at_142) k_
  obtain ⟨cl105, Ar105, q105, S105, Nn105, Hh105, Gg105⟩ := id V104
  have hin105 : ¬ ((10 : Int32) < 0 ∨ cl105.slots.size ≤ ((10 : Int32)).toNatClampNeg) := inb_of S105 ⟨by decide, by decide⟩
  obtain ⟨T105, h105, X105, e105, W105, st105⟩ := stZ X104 hx hZ e104 Ar105 (j := (10 : Int32)) hin105 (g := (mkF m 143 #[.val (.int x0), .val (.ref b1), .unset, .unset] [(.int (1 : Int32)), (.int (10 : Int32)), (.ref b67), (.ref b67)])) rfl rfl (hb hby at_143)
  have V105 : Arv Z h105 b67 k67 .boolean (13 : Int32) [(.int (1 : Int32)), (.int (1 : Int32)), (.int (0 : Int32)), (.int (0 : Int32)), (.int (0 : Int32)), (.int (0 : Int32)), (.int (0 : Int32)), (.int (0 : Int32)), (.int (0 : Int32)), (.int (0 : Int32)), (.int (1 : Int32)), (.int (0 : Int32)), (.int (0 : Int32))] (.int (0 : Int32)) := Arv.set Ar105 q105 S105 Nn105 Hh105 Gg105 (v := (.int (1 : Int32))) (by first | rfl | exact fits_nar_bool _) W105 10 rfl (Nat.le_of_ble_eq_true rfl)
  have N105 := Fr.snoc X105 N104 gz67
  have Z105 : n0 ≤ h105.size := Nat.le_trans Z104 (Keep.of_wr W105).1
  refine own_pre (B := T105.setTop (mkF m 144 #[.val (.int x0), .val (.ref b1), .unset, .unset] [(.ref b67)])) ?_ st105
  refine own_pre (B := T105.setTop (mkF m 145 #[.val (.int x0), .val (.ref b1), .unset, .unset] [(.ref b67), (.ref b67)])) ?_ fun t_ k_ => XS.dup X105.here hx rfl (hb hby at_144) rfl rfl k_
  refine own_pre (B := T105.setTop (mkF m 147 #[.val (.int x0), .val (.ref b1), .unset, .unset] [(.int (11 : Int32)), (.ref b67), (.ref b67)])) ?_ fun t_ k_ => XS.bipush X105.here hx rfl (hb hby at_145) k_
  refine own_pre (B := T105.setTop (mkF m 148 #[.val (.int x0), .val (.ref b1), .unset, .unset] [(.int (1 : Int32)), (.int (11 : Int32)), (.ref b67), (.ref b67)])) ?_ fun t_ k_ => XS.iconst X105.here hx rfl (hb hby at_147) k_
  obtain ⟨cl106, Ar106, q106, S106, Nn106, Hh106, Gg106⟩ := id V105
  have hin106 : ¬ ((11 : Int32) < 0 ∨ cl106.slots.size ≤ ((11 : Int32)).toNatClampNeg) := inb_of S106 ⟨by decide, by decide⟩
  obtain ⟨T106, h106, X106, e106, W106, st106⟩ := stZ X105 hx hZ e105 Ar106 (j := (11 : Int32)) hin106 (g := (mkF m 148 #[.val (.int x0), .val (.ref b1), .unset, .unset] [(.int (1 : Int32)), (.int (11 : Int32)), (.ref b67), (.ref b67)])) rfl rfl (hb hby at_148)
  have V106 : Arv Z h106 b67 k67 .boolean (13 : Int32) [(.int (1 : Int32)), (.int (1 : Int32)), (.int (0 : Int32)), (.int (0 : Int32)), (.int (0 : Int32)), (.int (0 : Int32)), (.int (0 : Int32)), (.int (0 : Int32)), (.int (0 : Int32)), (.int (0 : Int32)), (.int (1 : Int32)), (.int (1 : Int32)), (.int (0 : Int32))] (.int (0 : Int32)) := Arv.set Ar106 q106 S106 Nn106 Hh106 Gg106 (v := (.int (1 : Int32))) (by first | rfl | exact fits_nar_bool _) W106 11 rfl (Nat.le_of_ble_eq_true rfl)
  have N106 := Fr.snoc X106 N105 gz67
  have Z106 : n0 ≤ h106.size := Nat.le_trans Z105 (Keep.of_wr W106).1
  refine own_pre (B := T106.setTop (mkF m 149 #[.val (.int x0), .val (.ref b1), .unset, .unset] [(.ref b67)])) ?_ st106
  refine own_pre (B := T106.setTop (mkF m 150 #[.val (.int x0), .val (.ref b1), .unset, .unset] [(.ref b67), (.ref b67)])) ?_ fun t_ k_ => XS.dup X106.here hx rfl (hb hby at_149) rfl rfl k_
  refine own_pre (B := T106.setTop (mkF m 152 #[.val (.int x0), .val (.ref b1), .unset, .unset] [(.int (12 : Int32)), (.ref b67), (.ref b67)])) ?_ fun t_ k_ => XS.bipush X106.here hx rfl (hb hby at_150) k_
  refine own_pre (B := T106.setTop (mkF m 153 #[.val (.int x0), .val (.ref b1), .unset, .unset] [(.int (0 : Int32)), (.int (12 : Int32)), (.ref b67), (.ref b67)])) ?_ fun t_ k_ => XS.iconst X106.here hx rfl (hb hby at_152) k_
  obtain ⟨cl107, Ar107, q107, S107, Nn107, Hh107, Gg107⟩ := id V106
  have hin107 : ¬ ((12 : Int32) < 0 ∨ cl107.slots.size ≤ ((12 : Int32)).toNatClampNeg) := inb_of S107 ⟨by decide, by decide⟩
  obtain ⟨T107, h107, X107, e107, W107, st107⟩ := stZ X106 hx hZ e106 Ar107 (j := (12 : Int32)) hin107 (g := (mkF m 153 #[.val (.int x0), .val (.ref b1), .unset, .unset] [(.int (0 : Int32)), (.int (12 : Int32)), (.ref b67), (.ref b67)])) rfl rfl (hb hby at_153)
  have V107 : Arv Z h107 b67 k67 .boolean (13 : Int32) [(.int (1 : Int32)), (.int (1 : Int32)), (.int (0 : Int32)), (.int (0 : Int32)), (.int (0 : Int32)), (.int (0 : Int32)), (.int (0 : Int32)), (.int (0 : Int32)), (.int (0 : Int32)), (.int (0 : Int32)), (.int (1 : Int32)), (.int (1 : Int32)), (.int (0 : Int32))] (.int (0 : Int32)) := Arv.set Ar107 q107 S107 Nn107 Hh107 Gg107 (v := (.int (0 : Int32))) (by first | rfl | exact fits_nar_bool _) W107 12 rfl (Nat.le_of_ble_eq_true rfl)
  have N107 := Fr.snoc X107 N106 gz67
  have Z107 : n0 ≤ h107.size := Nat.le_trans Z106 (Keep.of_wr W107).1
  refine own_pre (B := T107.setTop (mkF m 154 #[.val (.int x0), .val (.ref b1), .unset, .unset] [(.ref b67)])) ?_ st107
  refine own_pre (B := T107.setTop (mkF m 155 #[.val (.int x0), .val (.ref b1), .val (.ref b67), .unset] [])) ?_ fun t_ k_ => XS.astoreN X107.here hx rfl (hb hby at_154) rfl rfl (l' := #[.val (.int x0), .val (.ref b1), .val (.ref b67), .unset]) rfl k_
  refine own_pre (B := T107.setTop (mkF m 156 #[.val (.int x0), .val (.ref b1), .val (.ref b67), .unset] [(.int x0)])) ?_ fun t_ k_ => XS.iloadN X107.here hx rfl (hb hby at_155) rfl  k_
  refine own_pre (B := T107.setTop (mkF m 158 #[.val (.int x0), .val (.ref b1), .val (.ref b67), .unset] [(.int (2147483647 : Int32)), (.int x0)])) ?_ (X107.ldcInt hx hown (mvT hZ (hw _ (List.mem_of_getElem? (i := 43) rfl))) (g := (mkF m 156 #[.val (.int x0), .val (.ref b1), .val (.ref b67), .unset] [(.int x0)])) rfl (hb hby at_156))
  refine own_pre (B := T107.setTop (mkF m 159 #[.val (.int x0), .val (.ref b1), .val (.ref b67), .unset] [(.int (x0 &&& (2147483647 : Int32)))])) ?_ fun t_ k_ => XS.iand X107.here hx rfl (hb hby at_158) rfl k_
  refine own_pre (B := T107.setTop (mkF m 161 #[.val (.int x0), .val (.ref b1), .val (.ref b67), .unset] [(.int (13 : Int32)), (.int (x0 &&& (2147483647 : Int32)))])) ?_ fun t_ k_ => XS.bipush X107.here hx rfl (hb hby at_159) k_
  refine own_pre (B := T107.setTop (mkF m 162 #[.val (.int x0), .val (.ref b1), .val (.ref b67), .unset] [(.int ((x0 &&& (2147483647 : Int32)) % (13 : Int32)))])) ?_ fun t_ k_ => iremM X107 hx rfl (hb hby at_161) rfl (by decide) k_
  refine own_pre (B := T107.setTop (mkF m 163 #[.val (.int x0), .val (.ref b1), .val (.ref b67), .val (.int ((x0 &&& (2147483647 : Int32)) % (13 : Int32)))] [])) ?_ fun t_ k_ => XS.istoreN X107.here hx rfl (hb hby at_162) rfl  (l' := #[.val (.int x0), .val (.ref b1), .val (.ref b67), .val (.int ((x0 &&& (2147483647 : Int32)) % (13 : Int32)))]) rfl k_
  generalize hmix : ((x0 &&& (2147483647 : Int32)) % (13 : Int32)) = ix
  rcases own_ix hmix with rfl | rfl | rfl | rfl | rfl | rfl | rfl | rfl | rfl | rfl | rfl | rfl | rfl
  · skip
    refine own_pre (B := T107.setTop (mkF m 164 #[.val (.int x0), .val (.ref b1), .val (.ref b67), .val (.int (0 : Int32))] [(.ref b1)])) ?_ fun t_ k_ => XS.aloadN X107.here hx rfl (hb hby at_163) rfl rfl k_
    refine own_pre (B := T107.setTop (mkF m 165 #[.val (.int x0), .val (.ref b1), .val (.ref b67), .val (.int (0 : Int32))] [(.int (0 : Int32)), (.ref b1)])) ?_ fun t_ k_ => XS.iloadN X107.here hx rfl (hb hby at_164) rfl  k_
    have f109 := ((((((((((((((V65.ext E67).other W95 ne94).other W96 ne94).other W97 ne94).other W98 ne94).other W99 ne94).other W100 ne94).other W101 ne94).other W102 ne94).other W103 ne94).other W104 ne94).other W105 ne94).other W106 ne94).other W107 ne94)
    obtain ⟨cl108, Ar108, q108, S108, Nn108, Hh108, Gg108⟩ := id f109
    have hin108 : ¬ ((0 : Int32) < 0 ∨ cl108.slots.size ≤ ((0 : Int32)).toNatClampNeg) := inb_of S108 ⟨by decide, by decide⟩
    have hat108 : cl108.slots[((0 : Int32)).toNatClampNeg]? = some (.ref a_ANCESTOR) := Hh108.at hin108 rfl
    refine own_pre (B := T107.setTop (mkF m 166 #[.val (.int x0), .val (.ref b1), .val (.ref b67), .val (.int (0 : Int32))] [(.ref a_ANCESTOR)])) ?_ fun t_ k_ => X107.aaload hx (j := (0 : Int32)) (v := (.ref a_ANCESTOR)) (by rw [e107]; exact Ar108.1) (State.isArrayOf_alike hZ.alike Ar108.2.1) rfl Ar108.2.2 hin108 hat108 (g := (mkF m 165 #[.val (.int x0), .val (.ref b1), .val (.ref b67), .val (.int (0 : Int32))] [(.int (0 : Int32)), (.ref b1)])) rfl rfl (hb hby at_165) t_ k_
    have f111 := (((((((((((((((((((((((((((f15.wr W17).wr W21).wr W25).wr W29).wr W33).wr W37).wr W41).wr W45).wr W49).wr W53).wr W57).wr W61).wr W65).ext E67).wr W95).wr W96).wr W97).wr W98).wr W99).wr W100).wr W101).wr W102).wr W103).wr W104).wr W105).wr W106).wr W107)
    have f112 := ((((((((((((((((((((((((((f19.wr W21).wr W25).wr W29).wr W33).wr W37).wr W41).wr W45).wr W49).wr W53).wr W57).wr W61).wr W65).ext E67).wr W95).wr W96).wr W97).wr W98).wr W99).wr W100).wr W101).wr W102).wr W103).wr W104).wr W105).wr W106).wr W107)
    have f113 := (((((((((((((((((f55.wr W57).wr W61).wr W65).ext E67).wr W95).wr W96).wr W97).wr W98).wr W99).wr W100).wr W101).wr W102).wr W103).wr W104).wr W105).wr W106).wr W107)
    have f114 := ((((((((((((((((f59.wr W61).wr W65).ext E67).wr W95).wr W96).wr W97).wr W98).wr W99).wr W100).wr W101).wr W102).wr W103).wr W104).wr W105).wr W106).wr W107)
    have f115 := ((((((((((((((f69.ext E67).wr W95).wr W96).wr W97).wr W98).wr W99).wr W100).wr W101).wr W102).wr W103).wr W104).wr W105).wr W106).wr W107)
    obtain ⟨cq110, kq110, q110a, q110b, q110c⟩ := isOf hZ e107 f115
    obtain ⟨v110, _, ⟨T110, L110, k110, n110⟩, -, X110, ⟨Lc110, hQ110, l110, y110, z110⟩, st110⟩ := X107.virtualBack hx (y := (⟨"com/example/kiungo/kiungo/pointer/Axis", "isReverse", "()Z"⟩ : MethodName)) (z := (⟨"com/example/kiungo/kiungo/pointer/Axis", "isReverse", "()Z"⟩ : MethodName)) hown (mvT hZ (hw _ (List.mem_of_getElem? (i := 44) rfl))) (mvT hZ (hw _ (List.mem_of_getElem? (i := 45) rfl))) (notFace_of_selects (args := #[]) (mvT hZ (hw _ (List.mem_of_getElem? (i := 47) rfl)))) (mvT hZ (hw _ (List.mem_of_getElem? (i := 47) rfl))) (mvT hZ (hw _ (List.mem_of_getElem? (i := 46) rfl))) (by decide) (backOf (W := 0) (rm1 l Z a0 hw [] a_ANCESTOR a_ANCESTOR a_ANCESTOR_OR_SELF a_PRECEDING a_PRECEDING_SIBLING h107 n0 Z107 f111 f112 f113 f114) hZ (hw _ (List.mem_of_getElem? (i := 48) rfl)) (hw _ (List.mem_of_getElem? (i := 3) rfl)) (by decide) (by decide)) q110a q110c (g := (mkF m 166 #[.val (.int x0), .val (.ref b1), .val (.ref b67), .val (.int (0 : Int32))] [(.ref a_ANCESTOR)])) rfl (by rw [hml]; rfl) (Steps.refl _) (argsL := []) (rest := []) (lenOf pd___Z rfl) rfl (by show 2 * 0 + _ ≤ _; exact Nat.le_of_eq rfl) (hb hby at_166) (fun _ _ => ⟨rfl, e107, (by decide : 2 + 0 ≤ _), (by decide : 26 + 0 ≤ _)⟩)
    dsimp only [Pt.U, Pt.locs, Pt.cells, Pt.slots] at X110 l110 y110 z110 st110 hQ110
    rw [y110, z110] at X110
    obtain ⟨hv110, Nq110, e110⟩ := hQ110
    rw [hv110] at st110
    have N110 : Fr n0 L110 := by rw [l110]; exact Fr.app N107 Nq110
    refine own_pre (B := T110.setTop (mkF m 169 #[.val (.int x0), .val (.ref b1), .val (.ref b67), .val (.int (0 : Int32))] [(.int (own_rev a_ANCESTOR a_ANCESTOR a_ANCESTOR_OR_SELF a_PRECEDING a_PRECEDING_SIBLING))])) ?_ (fun t_ k_ => st110.trans k_)
    refine own_pre (B := T110.setTop (mkF m 170 #[.val (.int x0), .val (.ref b1), .val (.ref b67), .val (.int (0 : Int32))] [(.ref b67), (.int (own_rev a_ANCESTOR a_ANCESTOR a_ANCESTOR_OR_SELF a_PRECEDING a_PRECEDING_SIBLING))])) ?_ fun t_ k_ => XS.aloadN X110.here hx rfl (hb hby at_169) rfl rfl k_
    refine own_pre (B := T110.setTop (mkF m 171 #[.val (.int x0), .val (.ref b1), .val (.ref b67), .val (.int (0 : Int32))] [(.int (0 : Int32)), (.ref b67), (.int (own_rev a_ANCESTOR a_ANCESTOR a_ANCESTOR_OR_SELF a_PRECEDING a_PRECEDING_SIBLING))])) ?_ fun t_ k_ => XS.iloadN X110.here hx rfl (hb hby at_170) rfl  k_
    obtain ⟨cl116, Ar116, q116, S116, Nn116, Hh116, Gg116⟩ := id V107
    have hin116 : ¬ ((0 : Int32) < 0 ∨ cl116.slots.size ≤ ((0 : Int32)).toNatClampNeg) := inb_of S116 ⟨by decide, by decide⟩
    have hat116 : cl116.slots[((0 : Int32)).toNatClampNeg]? = some (.int (1 : Int32)) := Hh116.at hin116 rfl
    refine own_pre (B := T110.setTop (mkF m 172 #[.val (.int x0), .val (.ref b1), .val (.ref b67), .val (.int (0 : Int32))] [(.int (1 : Int32)), (.int (own_rev a_ANCESTOR a_ANCESTOR a_ANCESTOR_OR_SELF a_PRECEDING a_PRECEDING_SIBLING))])) ?_ fun t_ k_ => X110.baloadBooleans hx (j := (0 : Int32)) (v := (.int (1 : Int32))) (by rw [e110]; exact Ar116.1) (State.isArrayOf_alike hZ.alike Ar116.2.1) Ar116.2.2 hin116 hat116 (g := (mkF m 171 #[.val (.int x0), .val (.ref b1), .val (.ref b67), .val (.int (0 : Int32))] [(.int (0 : Int32)), (.ref b67), (.int (own_rev a_ANCESTOR a_ANCESTOR a_ANCESTOR_OR_SELF a_PRECEDING a_PRECEDING_SIBLING))])) rfl rfl (hb hby at_171) t_ k_
    refine own_pre (B := T110.setTop (mkF m 175 #[.val (.int x0), .val (.ref b1), .val (.ref b67), .val (.int (0 : Int32))] [])) ?_ fun t_ k_ => XS.icmpNo X110.here hx rfl (hb hby at_172) rfl (teq (by simp [own_rev, ne_ANCESTOR_ANCESTOR_OR_SELF, ne_ANCESTOR_PRECEDING, ne_ANCESTOR_PRECEDING_SIBLING])).2 k_
    refine own_pre (B := T110.setTop (mkF m 176 #[.val (.int x0), .val (.ref b1), .val (.ref b67), .val (.int (0 : Int32))] [(.int (1 : Int32))])) ?_ fun t_ k_ => XS.iconst X110.here hx rfl (hb hby at_175) k_
    refine own_pre (B := T110.setTop (mkF m 180 #[.val (.int x0), .val (.ref b1), .val (.ref b67), .val (.int (0 : Int32))] [(.int (1 : Int32))])) ?_ fun t_ k_ => XS.goto X110.here hx rfl (pc0 := 176) (pc' := 180) rfl (hb hby at_176) (by decide) (by decide) k_
    refine own_retN X110 hx hlk (t := .boolean) (z' := (1 : Int32)) Bd.returns (by simp) (hb hby at_180) (by decide) ?_ (by decide) (by decide)
    rw [e110]
    exact ⟨rfl, N110⟩
  · skip
    refine own_pre (B := T107.setTop (mkF m 164 #[.val (.int x0), .val (.ref b1), .val (.ref b67), .val (.int (1 : Int32))] [(.ref b1)])) ?_ fun t_ k_ => XS.aloadN X107.here hx rfl (hb hby at_163) rfl rfl k_
    refine own_pre (B := T107.setTop (mkF m 165 #[.val (.int x0), .val (.ref b1), .val (.ref b67), .val (.int (1 : Int32))] [(.int (1 : Int32)), (.ref b1)])) ?_ fun t_ k_ => XS.iloadN X107.here hx rfl (hb hby at_164) rfl  k_
    have f118 := ((((((((((((((V65.ext E67).other W95 ne94).other W96 ne94).other W97 ne94).other W98 ne94).other W99 ne94).other W100 ne94).other W101 ne94).other W102 ne94).other W103 ne94).other W104 ne94).other W105 ne94).other W106 ne94).other W107 ne94)
    obtain ⟨cl117, Ar117, q117, S117, Nn117, Hh117, Gg117⟩ := id f118
    have hin117 : ¬ ((1 : Int32) < 0 ∨ cl117.slots.size ≤ ((1 : Int32)).toNatClampNeg) := inb_of S117 ⟨by decide, by decide⟩
    have hat117 : cl117.slots[((1 : Int32)).toNatClampNeg]? = some (.ref a_ANCESTOR_OR_SELF) := Hh117.at hin117 rfl
    refine own_pre (B := T107.setTop (mkF m 166 #[.val (.int x0), .val (.ref b1), .val (.ref b67), .val (.int (1 : Int32))] [(.ref a_ANCESTOR_OR_SELF)])) ?_ fun t_ k_ => X107.aaload hx (j := (1 : Int32)) (v := (.ref a_ANCESTOR_OR_SELF)) (by rw [e107]; exact Ar117.1) (State.isArrayOf_alike hZ.alike Ar117.2.1) rfl Ar117.2.2 hin117 hat117 (g := (mkF m 165 #[.val (.int x0), .val (.ref b1), .val (.ref b67), .val (.int (1 : Int32))] [(.int (1 : Int32)), (.ref b1)])) rfl rfl (hb hby at_165) t_ k_
    have f120 := (((((((((((((((((((((((((((f15.wr W17).wr W21).wr W25).wr W29).wr W33).wr W37).wr W41).wr W45).wr W49).wr W53).wr W57).wr W61).wr W65).ext E67).wr W95).wr W96).wr W97).wr W98).wr W99).wr W100).wr W101).wr W102).wr W103).wr W104).wr W105).wr W106).wr W107)
    have f121 := ((((((((((((((((((((((((((f19.wr W21).wr W25).wr W29).wr W33).wr W37).wr W41).wr W45).wr W49).wr W53).wr W57).wr W61).wr W65).ext E67).wr W95).wr W96).wr W97).wr W98).wr W99).wr W100).wr W101).wr W102).wr W103).wr W104).wr W105).wr W106).wr W107)
    have f122 := (((((((((((((((((f55.wr W57).wr W61).wr W65).ext E67).wr W95).wr W96).wr W97).wr W98).wr W99).wr W100).wr W101).wr W102).wr W103).wr W104).wr W105).wr W106).wr W107)
    have f123 := ((((((((((((((((f59.wr W61).wr W65).ext E67).wr W95).wr W96).wr W97).wr W98).wr W99).wr W100).wr W101).wr W102).wr W103).wr W104).wr W105).wr W106).wr W107)
    have f124 := ((((((((((((((f71.ext E67).wr W95).wr W96).wr W97).wr W98).wr W99).wr W100).wr W101).wr W102).wr W103).wr W104).wr W105).wr W106).wr W107)
    obtain ⟨cq119, kq119, q119a, q119b, q119c⟩ := isOf hZ e107 f124
    obtain ⟨v119, _, ⟨T119, L119, k119, n119⟩, -, X119, ⟨Lc119, hQ119, l119, y119, z119⟩, st119⟩ := X107.virtualBack hx (y := (⟨"com/example/kiungo/kiungo/pointer/Axis", "isReverse", "()Z"⟩ : MethodName)) (z := (⟨"com/example/kiungo/kiungo/pointer/Axis", "isReverse", "()Z"⟩ : MethodName)) hown (mvT hZ (hw _ (List.mem_of_getElem? (i := 44) rfl))) (mvT hZ (hw _ (List.mem_of_getElem? (i := 45) rfl))) (notFace_of_selects (args := #[]) (mvT hZ (hw _ (List.mem_of_getElem? (i := 60) rfl)))) (mvT hZ (hw _ (List.mem_of_getElem? (i := 60) rfl))) (mvT hZ (hw _ (List.mem_of_getElem? (i := 46) rfl))) (by decide) (backOf (W := 0) (rm1 l Z a0 hw [] a_ANCESTOR_OR_SELF a_ANCESTOR a_ANCESTOR_OR_SELF a_PRECEDING a_PRECEDING_SIBLING h107 n0 Z107 f120 f121 f122 f123) hZ (hw _ (List.mem_of_getElem? (i := 48) rfl)) (hw _ (List.mem_of_getElem? (i := 3) rfl)) (by decide) (by decide)) q119a q119c (g := (mkF m 166 #[.val (.int x0), .val (.ref b1), .val (.ref b67), .val (.int (1 : Int32))] [(.ref a_ANCESTOR_OR_SELF)])) rfl (by rw [hml]; rfl) (Steps.refl _) (argsL := []) (rest := []) (lenOf pd___Z rfl) rfl (by show 2 * 0 + _ ≤ _; exact Nat.le_of_eq rfl) (hb hby at_166) (fun _ _ => ⟨rfl, e107, (by decide : 2 + 0 ≤ _), (by decide : 26 + 0 ≤ _)⟩)
    dsimp only [Pt.U, Pt.locs, Pt.cells, Pt.slots] at X119 l119 y119 z119 st119 hQ119
    rw [y119, z119] at X119
    obtain ⟨hv119, Nq119, e119⟩ := hQ119
    rw [hv119] at st119
    have N119 : Fr n0 L119 := by rw [l119]; exact Fr.app N107 Nq119
    refine own_pre (B := T119.setTop (mkF m 169 #[.val (.int x0), .val (.ref b1), .val (.ref b67), .val (.int (1 : Int32))] [(.int (own_rev a_ANCESTOR_OR_SELF a_ANCESTOR a_ANCESTOR_OR_SELF a_PRECEDING a_PRECEDING_SIBLING))])) ?_ (fun t_ k_ => st119.trans k_)
    refine own_pre (B := T119.setTop (mkF m 170 #[.val (.int x0), .val (.ref b1), .val (.ref b67), .val (.int (1 : Int32))] [(.ref b67), (.int (own_rev a_ANCESTOR_OR_SELF a_ANCESTOR a_ANCESTOR_OR_SELF a_PRECEDING a_PRECEDING_SIBLING))])) ?_ fun t_ k_ => XS.aloadN X119.here hx rfl (hb hby at_169) rfl rfl k_
    refine own_pre (B := T119.setTop (mkF m 171 #[.val (.int x0), .val (.ref b1), .val (.ref b67), .val (.int (1 : Int32))] [(.int (1 : Int32)), (.ref b67), (.int (own_rev a_ANCESTOR_OR_SELF a_ANCESTOR a_ANCESTOR_OR_SELF a_PRECEDING a_PRECEDING_SIBLING))])) ?_ fun t_ k_ => XS.iloadN X119.here hx rfl (hb hby at_170) rfl  k_
    obtain ⟨cl125, Ar125, q125, S125, Nn125, Hh125, Gg125⟩ := id V107
    have hin125 : ¬ ((1 : Int32) < 0 ∨ cl125.slots.size ≤ ((1 : Int32)).toNatClampNeg) := inb_of S125 ⟨by decide, by decide⟩
    have hat125 : cl125.slots[((1 : Int32)).toNatClampNeg]? = some (.int (1 : Int32)) := Hh125.at hin125 rfl
    refine own_pre (B := T119.setTop (mkF m 172 #[.val (.int x0), .val (.ref b1), .val (.ref b67), .val (.int (1 : Int32))] [(.int (1 : Int32)), (.int (own_rev a_ANCESTOR_OR_SELF a_ANCESTOR a_ANCESTOR_OR_SELF a_PRECEDING a_PRECEDING_SIBLING))])) ?_ fun t_ k_ => X119.baloadBooleans hx (j := (1 : Int32)) (v := (.int (1 : Int32))) (by rw [e119]; exact Ar125.1) (State.isArrayOf_alike hZ.alike Ar125.2.1) Ar125.2.2 hin125 hat125 (g := (mkF m 171 #[.val (.int x0), .val (.ref b1), .val (.ref b67), .val (.int (1 : Int32))] [(.int (1 : Int32)), (.ref b67), (.int (own_rev a_ANCESTOR_OR_SELF a_ANCESTOR a_ANCESTOR_OR_SELF a_PRECEDING a_PRECEDING_SIBLING))])) rfl rfl (hb hby at_171) t_ k_
    refine own_pre (B := T119.setTop (mkF m 175 #[.val (.int x0), .val (.ref b1), .val (.ref b67), .val (.int (1 : Int32))] [])) ?_ fun t_ k_ => XS.icmpNo X119.here hx rfl (hb hby at_172) rfl (teq (by simp [own_rev, ne_ANCESTOR_OR_SELF_ANCESTOR, ne_ANCESTOR_OR_SELF_PRECEDING, ne_ANCESTOR_OR_SELF_PRECEDING_SIBLING])).2 k_
    refine own_pre (B := T119.setTop (mkF m 176 #[.val (.int x0), .val (.ref b1), .val (.ref b67), .val (.int (1 : Int32))] [(.int (1 : Int32))])) ?_ fun t_ k_ => XS.iconst X119.here hx rfl (hb hby at_175) k_
    refine own_pre (B := T119.setTop (mkF m 180 #[.val (.int x0), .val (.ref b1), .val (.ref b67), .val (.int (1 : Int32))] [(.int (1 : Int32))])) ?_ fun t_ k_ => XS.goto X119.here hx rfl (pc0 := 176) (pc' := 180) rfl (hb hby at_176) (by decide) (by decide) k_
    refine own_retN X119 hx hlk (t := .boolean) (z' := (1 : Int32)) Bd.returns (by simp) (hb hby at_180) (by decide) ?_ (by decide) (by decide)
    rw [e119]
    exact ⟨rfl, N119⟩
  · skip
    refine own_pre (B := T107.setTop (mkF m 164 #[.val (.int x0), .val (.ref b1), .val (.ref b67), .val (.int (2 : Int32))] [(.ref b1)])) ?_ fun t_ k_ => XS.aloadN X107.here hx rfl (hb hby at_163) rfl rfl k_
    refine own_pre (B := T107.setTop (mkF m 165 #[.val (.int x0), .val (.ref b1), .val (.ref b67), .val (.int (2 : Int32))] [(.int (2 : Int32)), (.ref b1)])) ?_ fun t_ k_ => XS.iloadN X107.here hx rfl (hb hby at_164) rfl  k_
    have f127 := ((((((((((((((V65.ext E67).other W95 ne94).other W96 ne94).other W97 ne94).other W98 ne94).other W99 ne94).other W100 ne94).other W101 ne94).other W102 ne94).other W103 ne94).other W104 ne94).other W105 ne94).other W106 ne94).other W107 ne94)
    obtain ⟨cl126, Ar126, q126, S126, Nn126, Hh126, Gg126⟩ := id f127
    have hin126 : ¬ ((2 : Int32) < 0 ∨ cl126.slots.size ≤ ((2 : Int32)).toNatClampNeg) := inb_of S126 ⟨by decide, by decide⟩
    have hat126 : cl126.slots[((2 : Int32)).toNatClampNeg]? = some (.ref a_ATTRIBUTE) := Hh126.at hin126 rfl
    refine own_pre (B := T107.setTop (mkF m 166 #[.val (.int x0), .val (.ref b1), .val (.ref b67), .val (.int (2 : Int32))] [(.ref a_ATTRIBUTE)])) ?_ fun t_ k_ => X107.aaload hx (j := (2 : Int32)) (v := (.ref a_ATTRIBUTE)) (by rw [e107]; exact Ar126.1) (State.isArrayOf_alike hZ.alike Ar126.2.1) rfl Ar126.2.2 hin126 hat126 (g := (mkF m 165 #[.val (.int x0), .val (.ref b1), .val (.ref b67), .val (.int (2 : Int32))] [(.int (2 : Int32)), (.ref b1)])) rfl rfl (hb hby at_165) t_ k_
    have f129 := (((((((((((((((((((((((((((f15.wr W17).wr W21).wr W25).wr W29).wr W33).wr W37).wr W41).wr W45).wr W49).wr W53).wr W57).wr W61).wr W65).ext E67).wr W95).wr W96).wr W97).wr W98).wr W99).wr W100).wr W101).wr W102).wr W103).wr W104).wr W105).wr W106).wr W107)
    have f130 := ((((((((((((((((((((((((((f19.wr W21).wr W25).wr W29).wr W33).wr W37).wr W41).wr W45).wr W49).wr W53).wr W57).wr W61).wr W65).ext E67).wr W95).wr W96).wr W97).wr W98).wr W99).wr W100).wr W101).wr W102).wr W103).wr W104).wr W105).wr W106).wr W107)
    have f131 := (((((((((((((((((f55.wr W57).wr W61).wr W65).ext E67).wr W95).wr W96).wr W97).wr W98).wr W99).wr W100).wr W101).wr W102).wr W103).wr W104).wr W105).wr W106).wr W107)
    have f132 := ((((((((((((((((f59.wr W61).wr W65).ext E67).wr W95).wr W96).wr W97).wr W98).wr W99).wr W100).wr W101).wr W102).wr W103).wr W104).wr W105).wr W106).wr W107)
    have f133 := ((((((((((((((f73.ext E67).wr W95).wr W96).wr W97).wr W98).wr W99).wr W100).wr W101).wr W102).wr W103).wr W104).wr W105).wr W106).wr W107)
    obtain ⟨cq128, kq128, q128a, q128b, q128c⟩ := isOf hZ e107 f133
    obtain ⟨v128, _, ⟨T128, L128, k128, n128⟩, -, X128, ⟨Lc128, hQ128, l128, y128, z128⟩, st128⟩ := X107.virtualBack hx (y := (⟨"com/example/kiungo/kiungo/pointer/Axis", "isReverse", "()Z"⟩ : MethodName)) (z := (⟨"com/example/kiungo/kiungo/pointer/Axis", "isReverse", "()Z"⟩ : MethodName)) hown (mvT hZ (hw _ (List.mem_of_getElem? (i := 44) rfl))) (mvT hZ (hw _ (List.mem_of_getElem? (i := 45) rfl))) (notFace_of_selects (args := #[]) (mvT hZ (hw _ (List.mem_of_getElem? (i := 58) rfl)))) (mvT hZ (hw _ (List.mem_of_getElem? (i := 58) rfl))) (mvT hZ (hw _ (List.mem_of_getElem? (i := 46) rfl))) (by decide) (backOf (W := 0) (rm1 l Z a0 hw [] a_ATTRIBUTE a_ANCESTOR a_ANCESTOR_OR_SELF a_PRECEDING a_PRECEDING_SIBLING h107 n0 Z107 f129 f130 f131 f132) hZ (hw _ (List.mem_of_getElem? (i := 48) rfl)) (hw _ (List.mem_of_getElem? (i := 3) rfl)) (by decide) (by decide)) q128a q128c (g := (mkF m 166 #[.val (.int x0), .val (.ref b1), .val (.ref b67), .val (.int (2 : Int32))] [(.ref a_ATTRIBUTE)])) rfl (by rw [hml]; rfl) (Steps.refl _) (argsL := []) (rest := []) (lenOf pd___Z rfl) rfl (by show 2 * 0 + _ ≤ _; exact Nat.le_of_eq rfl) (hb hby at_166) (fun _ _ => ⟨rfl, e107, (by decide : 2 + 0 ≤ _), (by decide : 26 + 0 ≤ _)⟩)
    dsimp only [Pt.U, Pt.locs, Pt.cells, Pt.slots] at X128 l128 y128 z128 st128 hQ128
    rw [y128, z128] at X128
    obtain ⟨hv128, Nq128, e128⟩ := hQ128
    rw [hv128] at st128
    have N128 : Fr n0 L128 := by rw [l128]; exact Fr.app N107 Nq128
    refine own_pre (B := T128.setTop (mkF m 169 #[.val (.int x0), .val (.ref b1), .val (.ref b67), .val (.int (2 : Int32))] [(.int (own_rev a_ATTRIBUTE a_ANCESTOR a_ANCESTOR_OR_SELF a_PRECEDING a_PRECEDING_SIBLING))])) ?_ (fun t_ k_ => st128.trans k_)
    refine own_pre (B := T128.setTop (mkF m 170 #[.val (.int x0), .val (.ref b1), .val (.ref b67), .val (.int (2 : Int32))] [(.ref b67), (.int (own_rev a_ATTRIBUTE a_ANCESTOR a_ANCESTOR_OR_SELF a_PRECEDING a_PRECEDING_SIBLING))])) ?_ fun t_ k_ => XS.aloadN X128.here hx rfl (hb hby at_169) rfl rfl k_
    refine own_pre (B := T128.setTop (mkF m 171 #[.val (.int x0), .val (.ref b1), .val (.ref b67), .val (.int (2 : Int32))] [(.int (2 : Int32)), (.ref b67), (.int (own_rev a_ATTRIBUTE a_ANCESTOR a_ANCESTOR_OR_SELF a_PRECEDING a_PRECEDING_SIBLING))])) ?_ fun t_ k_ => XS.iloadN X128.here hx rfl (hb hby at_170) rfl  k_
    obtain ⟨cl134, Ar134, q134, S134, Nn134, Hh134, Gg134⟩ := id V107
    have hin134 : ¬ ((2 : Int32) < 0 ∨ cl134.slots.size ≤ ((2 : Int32)).toNatClampNeg) := inb_of S134 ⟨by decide, by decide⟩
    have hat134 : cl134.slots[((2 : Int32)).toNatClampNeg]? = some (.int (0 : Int32)) := Hh134.at hin134 rfl
    refine own_pre (B := T128.setTop (mkF m 172 #[.val (.int x0), .val (.ref b1), .val (.ref b67), .val (.int (2 : Int32))] [(.int (0 : Int32)), (.int (own_rev a_ATTRIBUTE a_ANCESTOR a_ANCESTOR_OR_SELF a_PRECEDING a_PRECEDING_SIBLING))])) ?_ fun t_ k_ => X128.baloadBooleans hx (j := (2 : Int32)) (v := (.int (0 : Int32))) (by rw [e128]; exact Ar134.1) (State.isArrayOf_alike hZ.alike Ar134.2.1) Ar134.2.2 hin134 hat134 (g := (mkF m 171 #[.val (.int x0), .val (.ref b1), .val (.ref b67), .val (.int (2 : Int32))] [(.int (2 : Int32)), (.ref b67), (.int (own_rev a_ATTRIBUTE a_ANCESTOR a_ANCESTOR_OR_SELF a_PRECEDING a_PRECEDING_SIBLING))])) rfl rfl (hb hby at_171) t_ k_
    refine own_pre (B := T128.setTop (mkF m 175 #[.val (.int x0), .val (.ref b1), .val (.ref b67), .val (.int (2 : Int32))] [])) ?_ fun t_ k_ => XS.icmpNo X128.here hx rfl (hb hby at_172) rfl (teq (by simp [own_rev, ne_ATTRIBUTE_ANCESTOR, ne_ATTRIBUTE_ANCESTOR_OR_SELF, ne_ATTRIBUTE_PRECEDING, ne_ATTRIBUTE_PRECEDING_SIBLING])).2 k_
    refine own_pre (B := T128.setTop (mkF m 176 #[.val (.int x0), .val (.ref b1), .val (.ref b67), .val (.int (2 : Int32))] [(.int (1 : Int32))])) ?_ fun t_ k_ => XS.iconst X128.here hx rfl (hb hby at_175) k_
    refine own_pre (B := T128.setTop (mkF m 180 #[.val (.int x0), .val (.ref b1), .val (.ref b67), .val (.int (2 : Int32))] [(.int (1 : Int32))])) ?_ fun t_ k_ => XS.goto X128.here hx rfl (pc0 := 176) (pc' := 180) rfl (hb hby at_176) (by decide) (by decide) k_
    refine own_retN X128 hx hlk (t := .boolean) (z' := (1 : Int32)) Bd.returns (by simp) (hb hby at_180) (by decide) ?_ (by decide) (by decide)
    rw [e128]
    exact ⟨rfl, N128⟩
  · skip
    refine own_pre (B := T107.setTop (mkF m 164 #[.val (.int x0), .val (.ref b1), .val (.ref b67), .val (.int (3 : Int32))] [(.ref b1)])) ?_ fun t_ k_ => XS.aloadN X107.here hx rfl (hb hby at_163) rfl rfl k_
    refine own_pre (B := T107.setTop (mkF m 165 #[.val (.int x0), .val (.ref b1), .val (.ref b67), .val (.int (3 : Int32))] [(.int (3 : Int32)), (.ref b1)])) ?_ fun t_ k_ => XS.iloadN X107.here hx rfl (hb hby at_164) rfl  k_
    have f136 := ((((((((((((((V65.ext E67).other W95 ne94).other W96 ne94).other W97 ne94).other W98 ne94).other W99 ne94).other W100 ne94).other W101 ne94).other W102 ne94).other W103 ne94).other W104 ne94).other W105 ne94).other W106 ne94).other W107 ne94)
    obtain ⟨cl135, Ar135, q135, S135, Nn135, Hh135, Gg135⟩ := id f136
    have hin135 : ¬ ((3 : Int32) < 0 ∨ cl135.slots.size ≤ ((3 : Int32)).toNatClampNeg) := inb_of S135 ⟨by decide, by decide⟩
    have hat135 : cl135.slots[((3 : Int32)).toNatClampNeg]? = some (.ref a_CHILD) := Hh135.at hin135 rfl
    refine own_pre (B := T107.setTop (mkF m 166 #[.val (.int x0), .val (.ref b1), .val (.ref b67), .val (.int (3 : Int32))] [(.ref a_CHILD)])) ?_ fun t_ k_ => X107.aaload hx (j := (3 : Int32)) (v := (.ref a_CHILD)) (by rw [e107]; exact Ar135.1) (State.isArrayOf_alike hZ.alike Ar135.2.1) rfl Ar135.2.2 hin135 hat135 (g := (mkF m 165 #[.val (.int x0), .val (.ref b1), .val (.ref b67), .val (.int (3 : Int32))] [(.int (3 : Int32)), (.ref b1)])) rfl rfl (hb hby at_165) t_ k_
    have f138 := (((((((((((((((((((((((((((f15.wr W17).wr W21).wr W25).wr W29).wr W33).wr W37).wr W41).wr W45).wr W49).wr W53).wr W57).wr W61).wr W65).ext E67).wr W95).wr W96).wr W97).wr W98).wr W99).wr W100).wr W101).wr W102).wr W103).wr W104).wr W105).wr W106).wr W107)
    have f139 := ((((((((((((((((((((((((((f19.wr W21).wr W25).wr W29).wr W33).wr W37).wr W41).wr W45).wr W49).wr W53).wr W57).wr W61).wr W65).ext E67).wr W95).wr W96).wr W97).wr W98).wr W99).wr W100).wr W101).wr W102).wr W103).wr W104).wr W105).wr W106).wr W107)
    have f140 := (((((((((((((((((f55.wr W57).wr W61).wr W65).ext E67).wr W95).wr W96).wr W97).wr W98).wr W99).wr W100).wr W101).wr W102).wr W103).wr W104).wr W105).wr W106).wr W107)
    have f141 := ((((((((((((((((f59.wr W61).wr W65).ext E67).wr W95).wr W96).wr W97).wr W98).wr W99).wr W100).wr W101).wr W102).wr W103).wr W104).wr W105).wr W106).wr W107)
    have f142 := ((((((((((((((f75.ext E67).wr W95).wr W96).wr W97).wr W98).wr W99).wr W100).wr W101).wr W102).wr W103).wr W104).wr W105).wr W106).wr W107)
    obtain ⟨cq137, kq137, q137a, q137b, q137c⟩ := isOf hZ e107 f142
    obtain ⟨v137, _, ⟨T137, L137, k137, n137⟩, -, X137, ⟨Lc137, hQ137, l137, y137, z137⟩, st137⟩ := X107.virtualBack hx (y := (⟨"com/example/kiungo/kiungo/pointer/Axis", "isReverse", "()Z"⟩ : MethodName)) (z := (⟨"com/example/kiungo/kiungo/pointer/Axis", "isReverse", "()Z"⟩ : MethodName)) hown (mvT hZ (hw _ (List.mem_of_getElem? (i := 44) rfl))) (mvT hZ (hw _ (List.mem_of_getElem? (i := 45) rfl))) (notFace_of_selects (args := #[]) (mvT hZ (hw _ (List.mem_of_getElem? (i := 50) rfl)))) (mvT hZ (hw _ (List.mem_of_getElem? (i := 50) rfl))) (mvT hZ (hw _ (List.mem_of_getElem? (i := 46) rfl))) (by decide) (backOf (W := 0) (rm1 l Z a0 hw [] a_CHILD a_ANCESTOR a_ANCESTOR_OR_SELF a_PRECEDING a_PRECEDING_SIBLING h107 n0 Z107 f138 f139 f140 f141) hZ (hw _ (List.mem_of_getElem? (i := 48) rfl)) (hw _ (List.mem_of_getElem? (i := 3) rfl)) (by decide) (by decide)) q137a q137c (g := (mkF m 166 #[.val (.int x0), .val (.ref b1), .val (.ref b67), .val (.int (3 : Int32))] [(.ref a_CHILD)])) rfl (by rw [hml]; rfl) (Steps.refl _) (argsL := []) (rest := []) (lenOf pd___Z rfl) rfl (by show 2 * 0 + _ ≤ _; exact Nat.le_of_eq rfl) (hb hby at_166) (fun _ _ => ⟨rfl, e107, (by decide : 2 + 0 ≤ _), (by decide : 26 + 0 ≤ _)⟩)
    dsimp only [Pt.U, Pt.locs, Pt.cells, Pt.slots] at X137 l137 y137 z137 st137 hQ137
    rw [y137, z137] at X137
    obtain ⟨hv137, Nq137, e137⟩ := hQ137
    rw [hv137] at st137
    have N137 : Fr n0 L137 := by rw [l137]; exact Fr.app N107 Nq137
    refine own_pre (B := T137.setTop (mkF m 169 #[.val (.int x0), .val (.ref b1), .val (.ref b67), .val (.int (3 : Int32))] [(.int (own_rev a_CHILD a_ANCESTOR a_ANCESTOR_OR_SELF a_PRECEDING a_PRECEDING_SIBLING))])) ?_ (fun t_ k_ => st137.trans k_)
    refine own_pre (B := T137.setTop (mkF m 170 #[.val (.int x0), .val (.ref b1), .val (.ref b67), .val (.int (3 : Int32))] [(.ref b67), (.int (own_rev a_CHILD a_ANCESTOR a_ANCESTOR_OR_SELF a_PRECEDING a_PRECEDING_SIBLING))])) ?_ fun t_ k_ => XS.aloadN X137.here hx rfl (hb hby at_169) rfl rfl k_
    refine own_pre (B := T137.setTop (mkF m 171 #[.val (.int x0), .val (.ref b1), .val (.ref b67), .val (.int (3 : Int32))] [(.int (3 : Int32)), (.ref b67), (.int (own_rev a_CHILD a_ANCESTOR a_ANCESTOR_OR_SELF a_PRECEDING a_PRECEDING_SIBLING))])) ?_ fun t_ k_ => XS.iloadN X137.here hx rfl (hb hby at_170) rfl  k_
    obtain ⟨cl143, Ar143, q143, S143, Nn143, Hh143, Gg143⟩ := id V107
    have hin143 : ¬ ((3 : Int32) < 0 ∨ cl143.slots.size ≤ ((3 : Int32)).toNatClampNeg) := inb_of S143 ⟨by decide, by decide⟩
    have hat143 : cl143.slots[((3 : Int32)).toNatClampNeg]? = some (.int (0 : Int32)) := Hh143.at hin143 rfl
    refine own_pre (B := T137.setTop (mkF m 172 #[.val (.int x0), .val (.ref b1), .val (.ref b67), .val (.int (3 : Int32))] [(.int (0 : Int32)), (.int (own_rev a_CHILD a_ANCESTOR a_ANCESTOR_OR_SELF a_PRECEDING a_PRECEDING_SIBLING))])) ?_ fun t_ k_ => X137.baloadBooleans hx (j := (3 : Int32)) (v := (.int (0 : Int32))) (by rw [e137]; exact Ar143.1) (State.isArrayOf_alike hZ.alike Ar143.2.1) Ar143.2.2 hin143 hat143 (g := (mkF m 171 #[.val (.int x0), .val (.ref b1), .val (.ref b67), .val (.int (3 : Int32))] [(.int (3 : Int32)), (.ref b67), (.int (own_rev a_CHILD a_ANCESTOR a_ANCESTOR_OR_SELF a_PRECEDING a_PRECEDING_SIBLING))])) rfl rfl (hb hby at_171) t_ k_
    refine own_pre (B := T137.setTop (mkF m 175 #[.val (.int x0), .val (.ref b1), .val (.ref b67), .val (.int (3 : Int32))] [])) ?_ fun t_ k_ => XS.icmpNo X137.here hx rfl (hb hby at_172) rfl (teq (by simp [own_rev, ne_CHILD_ANCESTOR, ne_CHILD_ANCESTOR_OR_SELF, ne_CHILD_PRECEDING, ne_CHILD_PRECEDING_SIBLING])).2 k_
    refine own_pre (B := T137.setTop (mkF m 176 #[.val (.int x0), .val (.ref b1), .val (.ref b67), .val (.int (3 : Int32))] [(.int (1 : Int32))])) ?_ fun t_ k_ => XS.iconst X137.here hx rfl (hb hby at_175) k_
    refine own_pre (B := T137.setTop (mkF m 180 #[.val (.int x0), .val (.ref b1), .val (.ref b67), .val (.int (3 : Int32))] [(.int (1 : Int32))])) ?_ fun t_ k_ => XS.goto X137.here hx rfl (pc0 := 176) (pc' := 180) rfl (hb hby at_176) (by decide) (by decide) k_
    refine own_retN X137 hx hlk (t := .boolean) (z' := (1 : Int32)) Bd.returns (by simp) (hb hby at_180) (by decide) ?_ (by decide) (by decide)
    rw [e137]
    exact ⟨rfl, N137⟩
  · skip
    refine own_pre (B := T107.setTop (mkF m 164 #[.val (.int x0), .val (.ref b1), .val (.ref b67), .val (.int (4 : Int32))] [(.ref b1)])) ?_ fun t_ k_ => XS.aloadN X107.here hx rfl (hb hby at_163) rfl rfl k_
    refine own_pre (B := T107.setTop (mkF m 165 #[.val (.int x0), .val (.ref b1), .val (.ref b67), .val (.int (4 : Int32))] [(.int (4 : Int32)), (.ref b1)])) ?_ fun t_ k_ => XS.iloadN X107.here hx rfl (hb hby at_164) rfl  k_
    have f145 := ((((((((((((((V65.ext E67).other W95 ne94).other W96 ne94).other W97 ne94).other W98 ne94).other W99 ne94).other W100 ne94).other W101 ne94).other W102 ne94).other W103 ne94).other W104 ne94).other W105 ne94).other W106 ne94).other W107 ne94)
    obtain ⟨cl144, Ar144, q144, S144, Nn144, Hh144, Gg144⟩ := id f145
    have hin144 : ¬ ((4 : Int32) < 0 ∨ cl144.slots.size ≤ ((4 : Int32)).toNatClampNeg) := inb_of S144 ⟨by decide, by decide⟩
    have hat144 : cl144.slots[((4 : Int32)).toNatClampNeg]? = some (.ref a_DESCENDANT) := Hh144.at hin144 rfl
    refine own_pre (B := T107.setTop (mkF m 166 #[.val (.int x0), .val (.ref b1), .val (.ref b67), .val (.int (4 : Int32))] [(.ref a_DESCENDANT)])) ?_ fun t_ k_ => X107.aaload hx (j := (4 : Int32)) (v := (.ref a_DESCENDANT)) (by rw [e107]; exact Ar144.1) (State.isArrayOf_alike hZ.alike Ar144.2.1) rfl Ar144.2.2 hin144 hat144 (g := (mkF m 165 #[.val (.int x0), .val (.ref b1), .val (.ref b67), .val (.int (4 : Int32))] [(.int (4 : Int32)), (.ref b1)])) rfl rfl (hb hby at_165) t_ k_
    have f147 := (((((((((((((((((((((((((((f15.wr W17).wr W21).wr W25).wr W29).wr W33).wr W37).wr W41).wr W45).wr W49).wr W53).wr W57).wr W61).wr W65).ext E67).wr W95).wr W96).wr W97).wr W98).wr W99).wr W100).wr W101).wr W102).wr W103).wr W104).wr W105).wr W106).wr W107)
    have f148 := ((((((((((((((((((((((((((f19.wr W21).wr W25).wr W29).wr W33).wr W37).wr W41).wr W45).wr W49).wr W53).wr W57).wr W61).wr W65).ext E67).wr W95).wr W96).wr W97).wr W98).wr W99).wr W100).wr W101).wr W102).wr W103).wr W104).wr W105).wr W106).wr W107)
    have f149 := (((((((((((((((((f55.wr W57).wr W61).wr W65).ext E67).wr W95).wr W96).wr W97).wr W98).wr W99).wr W100).wr W101).wr W102).wr W103).wr W104).wr W105).wr W106).wr W107)
    have f150 := ((((((((((((((((f59.wr W61).wr W65).ext E67).wr W95).wr W96).wr W97).wr W98).wr W99).wr W100).wr W101).wr W102).wr W103).wr W104).wr W105).wr W106).wr W107)
    have f151 := ((((((((((((((f77.ext E67).wr W95).wr W96).wr W97).wr W98).wr W99).wr W100).wr W101).wr W102).wr W103).wr W104).wr W105).wr W106).wr W107)
    obtain ⟨cq146, kq146, q146a, q146b, q146c⟩ := isOf hZ e107 f151
    obtain ⟨v146, _, ⟨T146, L146, k146, n146⟩, -, X146, ⟨Lc146, hQ146, l146, y146, z146⟩, st146⟩ := X107.virtualBack hx (y := (⟨"com/example/kiungo/kiungo/pointer/Axis", "isReverse", "()Z"⟩ : MethodName)) (z := (⟨"com/example/kiungo/kiungo/pointer/Axis", "isReverse", "()Z"⟩ : MethodName)) hown (mvT hZ (hw _ (List.mem_of_getElem? (i := 44) rfl))) (mvT hZ (hw _ (List.mem_of_getElem? (i := 45) rfl))) (notFace_of_selects (args := #[]) (mvT hZ (hw _ (List.mem_of_getElem? (i := 64) rfl)))) (mvT hZ (hw _ (List.mem_of_getElem? (i := 64) rfl))) (mvT hZ (hw _ (List.mem_of_getElem? (i := 46) rfl))) (by decide) (backOf (W := 0) (rm1 l Z a0 hw [] a_DESCENDANT a_ANCESTOR a_ANCESTOR_OR_SELF a_PRECEDING a_PRECEDING_SIBLING h107 n0 Z107 f147 f148 f149 f150) hZ (hw _ (List.mem_of_getElem? (i := 48) rfl)) (hw _ (List.mem_of_getElem? (i := 3) rfl)) (by decide) (by decide)) q146a q146c (g := (mkF m 166 #[.val (.int x0), .val (.ref b1), .val (.ref b67), .val (.int (4 : Int32))] [(.ref a_DESCENDANT)])) rfl (by rw [hml]; rfl) (Steps.refl _) (argsL := []) (rest := []) (lenOf pd___Z rfl) rfl (by show 2 * 0 + _ ≤ _; exact Nat.le_of_eq rfl) (hb hby at_166) (fun _ _ => ⟨rfl, e107, (by decide : 2 + 0 ≤ _), (by decide : 26 + 0 ≤ _)⟩)
    dsimp only [Pt.U, Pt.locs, Pt.cells, Pt.slots] at X146 l146 y146 z146 st146 hQ146
    rw [y146, z146] at X146
    obtain ⟨hv146, Nq146, e146⟩ := hQ146
    rw [hv146] at st146
    have N146 : Fr n0 L146 := by rw [l146]; exact Fr.app N107 Nq146
    refine own_pre (B := T146.setTop (mkF m 169 #[.val (.int x0), .val (.ref b1), .val (.ref b67), .val (.int (4 : Int32))] [(.int (own_rev a_DESCENDANT a_ANCESTOR a_ANCESTOR_OR_SELF a_PRECEDING a_PRECEDING_SIBLING))])) ?_ (fun t_ k_ => st146.trans k_)
    refine own_pre (B := T146.setTop (mkF m 170 #[.val (.int x0), .val (.ref b1), .val (.ref b67), .val (.int (4 : Int32))] [(.ref b67), (.int (own_rev a_DESCENDANT a_ANCESTOR a_ANCESTOR_OR_SELF a_PRECEDING a_PRECEDING_SIBLING))])) ?_ fun t_ k_ => XS.aloadN X146.here hx rfl (hb hby at_169) rfl rfl k_
    refine own_pre (B := T146.setTop (mkF m 171 #[.val (.int x0), .val (.ref b1), .val (.ref b67), .val (.int (4 : Int32))] [(.int (4 : Int32)), (.ref b67), (.int (own_rev a_DESCENDANT a_ANCESTOR a_ANCESTOR_OR_SELF a_PRECEDING a_PRECEDING_SIBLING))])) ?_ fun t_ k_ => XS.iloadN X146.here hx rfl (hb hby at_170) rfl  k_
    obtain ⟨cl152, Ar152, q152, S152, Nn152, Hh152, Gg152⟩ := id V107
    have hin152 : ¬ ((4 : Int32) < 0 ∨ cl152.slots.size ≤ ((4 : Int32)).toNatClampNeg) := inb_of S152 ⟨by decide, by decide⟩
    have hat152 : cl152.slots[((4 : Int32)).toNatClampNeg]? = some (.int (0 : Int32)) := Hh152.at hin152 rfl
    refine own_pre (B := T146.setTop (mkF m 172 #[.val (.int x0), .val (.ref b1), .val (.ref b67), .val (.int (4 : Int32))] [(.int (0 : Int32)), (.int (own_rev a_DESCENDANT a_ANCESTOR a_ANCESTOR_OR_SELF a_PRECEDING a_PRECEDING_SIBLING))])) ?_ fun t_ k_ => X146.baloadBooleans hx (j := (4 : Int32)) (v := (.int (0 : Int32))) (by rw [e146]; exact Ar152.1) (State.isArrayOf_alike hZ.alike Ar152.2.1) Ar152.2.2 hin152 hat152 (g := (mkF m 171 #[.val (.int x0), .val (.ref b1), .val (.ref b67), .val (.int (4 : Int32))] [(.int (4 : Int32)), (.ref b67), (.int (own_rev a_DESCENDANT a_ANCESTOR a_ANCESTOR_OR_SELF a_PRECEDING a_PRECEDING_SIBLING))])) rfl rfl (hb hby at_171) t_ k_
    refine own_pre (B := T146.setTop (mkF m 175 #[.val (.int x0), .val (.ref b1), .val (.ref b67), .val (.int (4 : Int32))] [])) ?_ fun t_ k_ => XS.icmpNo X146.here hx rfl (hb hby at_172) rfl (teq (by simp [own_rev, ne_DESCENDANT_ANCESTOR, ne_DESCENDANT_ANCESTOR_OR_SELF, ne_DESCENDANT_PRECEDING, ne_DESCENDANT_PRECEDING_SIBLING])).2 k_
    refine own_pre (B := T146.setTop (mkF m 176 #[.val (.int x0), .val (.ref b1), .val (.ref b67), .val (.int (4 : Int32))] [(.int (1 : Int32))])) ?_ fun t_ k_ => XS.iconst X146.here hx rfl (hb hby at_175) k_
    refine own_pre (B := T146.setTop (mkF m 180 #[.val (.int x0), .val (.ref b1), .val (.ref b67), .val (.int (4 : Int32))] [(.int (1 : Int32))])) ?_ fun t_ k_ => XS.goto X146.here hx rfl (pc0 := 176) (pc' := 180) rfl (hb hby at_176) (by decide) (by decide) k_
    refine own_retN X146 hx hlk (t := .boolean) (z' := (1 : Int32)) Bd.returns (by simp) (hb hby at_180) (by decide) ?_ (by decide) (by decide)
    rw [e146]
    exact ⟨rfl, N146⟩
  · skip
    refine own_pre (B := T107.setTop (mkF m 164 #[.val (.int x0), .val (.ref b1), .val (.ref b67), .val (.int (5 : Int32))] [(.ref b1)])) ?_ fun t_ k_ => XS.aloadN X107.here hx rfl (hb hby at_163) rfl rfl k_
    refine own_pre (B := T107.setTop (mkF m 165 #[.val (.int x0), .val (.ref b1), .val (.ref b67), .val (.int (5 : Int32))] [(.int (5 : Int32)), (.ref b1)])) ?_ fun t_ k_ => XS.iloadN X107.here hx rfl (hb hby at_164) rfl  k_
    have f154 := ((((((((((((((V65.ext E67).other W95 ne94).other W96 ne94).other W97 ne94).other W98 ne94).other W99 ne94).other W100 ne94).other W101 ne94).other W102 ne94).other W103 ne94).other W104 ne94).other W105 ne94).other W106 ne94).other W107 ne94)
    obtain ⟨cl153, Ar153, q153, S153, Nn153, Hh153, Gg153⟩ := id f154
    have hin153 : ¬ ((5 : Int32) < 0 ∨ cl153.slots.size ≤ ((5 : Int32)).toNatClampNeg) := inb_of S153 ⟨by decide, by decide⟩
    have hat153 : cl153.slots[((5 : Int32)).toNatClampNeg]? = some (.ref a_DESCENDANT_OR_SELF) := Hh153.at hin153 rfl
    refine own_pre (B := T107.setTop (mkF m 166 #[.val (.int x0), .val (.ref b1), .val (.ref b67), .val (.int (5 : Int32))] [(.ref a_DESCENDANT_OR_SELF)])) ?_ fun t_ k_ => X107.aaload hx (j := (5 : Int32)) (v := (.ref a_DESCENDANT_OR_SELF)) (by rw [e107]; exact Ar153.1) (State.isArrayOf_alike hZ.alike Ar153.2.1) rfl Ar153.2.2 hin153 hat153 (g := (mkF m 165 #[.val (.int x0), .val (.ref b1), .val (.ref b67), .val (.int (5 : Int32))] [(.int (5 : Int32)), (.ref b1)])) rfl rfl (hb hby at_165) t_ k_
    have f156 := (((((((((((((((((((((((((((f15.wr W17).wr W21).wr W25).wr W29).wr W33).wr W37).wr W41).wr W45).wr W49).wr W53).wr W57).wr W61).wr W65).ext E67).wr W95).wr W96).wr W97).wr W98).wr W99).wr W100).wr W101).wr W102).wr W103).wr W104).wr W105).wr W106).wr W107)
    have f157 := ((((((((((((((((((((((((((f19.wr W21).wr W25).wr W29).wr W33).wr W37).wr W41).wr W45).wr W49).wr W53).wr W57).wr W61).wr W65).ext E67).wr W95).wr W96).wr W97).wr W98).wr W99).wr W100).wr W101).wr W102).wr W103).wr W104).wr W105).wr W106).wr W107)
    have f158 := (((((((((((((((((f55.wr W57).wr W61).wr W65).ext E67).wr W95).wr W96).wr W97).wr W98).wr W99).wr W100).wr W101).wr W102).wr W103).wr W104).wr W105).wr W106).wr W107)
    have f159 := ((((((((((((((((f59.wr W61).wr W65).ext E67).wr W95).wr W96).wr W97).wr W98).wr W99).wr W100).wr W101).wr W102).wr W103).wr W104).wr W105).wr W106).wr W107)
    have f160 := ((((((((((((((f79.ext E67).wr W95).wr W96).wr W97).wr W98).wr W99).wr W100).wr W101).wr W102).wr W103).wr W104).wr W105).wr W106).wr W107)
    obtain ⟨cq155, kq155, q155a, q155b, q155c⟩ := isOf hZ e107 f160
    obtain ⟨v155, _, ⟨T155, L155, k155, n155⟩, -, X155, ⟨Lc155, hQ155, l155, y155, z155⟩, st155⟩ := X107.virtualBack hx (y := (⟨"com/example/kiungo/kiungo/pointer/Axis", "isReverse", "()Z"⟩ : MethodName)) (z := (⟨"com/example/kiungo/kiungo/pointer/Axis", "isReverse", "()Z"⟩ : MethodName)) hown (mvT hZ (hw _ (List.mem_of_getElem? (i := 44) rfl))) (mvT hZ (hw _ (List.mem_of_getElem? (i := 45) rfl))) (notFace_of_selects (args := #[]) (mvT hZ (hw _ (List.mem_of_getElem? (i := 55) rfl)))) (mvT hZ (hw _ (List.mem_of_getElem? (i := 55) rfl))) (mvT hZ (hw _ (List.mem_of_getElem? (i := 46) rfl))) (by decide) (backOf (W := 0) (rm1 l Z a0 hw [] a_DESCENDANT_OR_SELF a_ANCESTOR a_ANCESTOR_OR_SELF a_PRECEDING a_PRECEDING_SIBLING h107 n0 Z107 f156 f157 f158 f159) hZ (hw _ (List.mem_of_getElem? (i := 48) rfl)) (hw _ (List.mem_of_getElem? (i := 3) rfl)) (by decide) (by decide)) q155a q155c (g := (mkF m 166 #[.val (.int x0), .val (.ref b1), .val (.ref b67), .val (.int (5 : Int32))] [(.ref a_DESCENDANT_OR_SELF)])) rfl (by rw [hml]; rfl) (Steps.refl _) (argsL := []) (rest := []) (lenOf pd___Z rfl) rfl (by show 2 * 0 + _ ≤ _; exact Nat.le_of_eq rfl) (hb hby at_166) (fun _ _ => ⟨rfl, e107, (by decide : 2 + 0 ≤ _), (by decide : 26 + 0 ≤ _)⟩)
    dsimp only [Pt.U, Pt.locs, Pt.cells, Pt.slots] at X155 l155 y155 z155 st155 hQ155
    rw [y155, z155] at X155
    obtain ⟨hv155, Nq155, e155⟩ := hQ155
    rw [hv155] at st155
    have N155 : Fr n0 L155 := by rw [l155]; exact Fr.app N107 Nq155
    refine own_pre (B := T155.setTop (mkF m 169 #[.val (.int x0), .val (.ref b1), .val (.ref b67), .val (.int (5 : Int32))] [(.int (own_rev a_DESCENDANT_OR_SELF a_ANCESTOR a_ANCESTOR_OR_SELF a_PRECEDING a_PRECEDING_SIBLING))])) ?_ (fun t_ k_ => st155.trans k_)
    refine own_pre (B := T155.setTop (mkF m 170 #[.val (.int x0), .val (.ref b1), .val (.ref b67), .val (.int (5 : Int32))] [(.ref b67), (.int (own_rev a_DESCENDANT_OR_SELF a_ANCESTOR a_ANCESTOR_OR_SELF a_PRECEDING a_PRECEDING_SIBLING))])) ?_ fun t_ k_ => XS.aloadN X155.here hx rfl (hb hby at_169) rfl rfl k_
    refine own_pre (B := T155.setTop (mkF m 171 #[.val (.int x0), .val (.ref b1), .val (.ref b67), .val (.int (5 : Int32))] [(.int (5 : Int32)), (.ref b67), (.int (own_rev a_DESCENDANT_OR_SELF a_ANCESTOR a_ANCESTOR_OR_SELF a_PRECEDING a_PRECEDING_SIBLING))])) ?_ fun t_ k_ => XS.iloadN X155.here hx rfl (hb hby at_170) rfl  k_
    obtain ⟨cl161, Ar161, q161, S161, Nn161, Hh161, Gg161⟩ := id V107
    have hin161 : ¬ ((5 : Int32) < 0 ∨ cl161.slots.size ≤ ((5 : Int32)).toNatClampNeg) := inb_of S161 ⟨by decide, by decide⟩
    have hat161 : cl161.slots[((5 : Int32)).toNatClampNeg]? = some (.int (0 : Int32)) := Hh161.at hin161 rfl
    refine own_pre (B := T155.setTop (mkF m 172 #[.val (.int x0), .val (.ref b1), .val (.ref b67), .val (.int (5 : Int32))] [(.int (0 : Int32)), (.int (own_rev a_DESCENDANT_OR_SELF a_ANCESTOR a_ANCESTOR_OR_SELF a_PRECEDING a_PRECEDING_SIBLING))])) ?_ fun t_ k_ => X155.baloadBooleans hx (j := (5 : Int32)) (v := (.int (0 : Int32))) (by rw [e155]; exact Ar161.1) (State.isArrayOf_alike hZ.alike Ar161.2.1) Ar161.2.2 hin161 hat161 (g := (mkF m 171 #[.val (.int x0), .val (.ref b1), .val (.ref b67), .val (.int (5 : Int32))] [(.int (5 : Int32)), (.ref b67), (.int (own_rev a_DESCENDANT_OR_SELF a_ANCESTOR a_ANCESTOR_OR_SELF a_PRECEDING a_PRECEDING_SIBLING))])) rfl rfl (hb hby at_171) t_ k_
    refine own_pre (B := T155.setTop (mkF m 175 #[.val (.int x0), .val (.ref b1), .val (.ref b67), .val (.int (5 : Int32))] [])) ?_ fun t_ k_ => XS.icmpNo X155.here hx rfl (hb hby at_172) rfl (teq (by simp [own_rev, ne_DESCENDANT_OR_SELF_ANCESTOR, ne_DESCENDANT_OR_SELF_ANCESTOR_OR_SELF, ne_DESCENDANT_OR_SELF_PRECEDING, ne_DESCENDANT_OR_SELF_PRECEDING_SIBLING])).2 k_
    refine own_pre (B := T155.setTop (mkF m 176 #[.val (.int x0), .val (.ref b1), .val (.ref b67), .val (.int (5 : Int32))] [(.int (1 : Int32))])) ?_ fun t_ k_ => XS.iconst X155.here hx rfl (hb hby at_175) k_
    refine own_pre (B := T155.setTop (mkF m 180 #[.val (.int x0), .val (.ref b1), .val (.ref b67), .val (.int (5 : Int32))] [(.int (1 : Int32))])) ?_ fun t_ k_ => XS.goto X155.here hx rfl (pc0 := 176) (pc' := 180) rfl (hb hby at_176) (by decide) (by decide) k_
    refine own_retN X155 hx hlk (t := .boolean) (z' := (1 : Int32)) Bd.returns (by simp) (hb hby at_180) (by decide) ?_ (by decide) (by decide)
    rw [e155]
    exact ⟨rfl, N155⟩
  · skip
    refine own_pre (B := T107.setTop (mkF m 164 #[.val (.int x0), .val (.ref b1), .val (.ref b67), .val (.int (6 : Int32))] [(.ref b1)])) ?_ fun t_ k_ => XS.aloadN X107.here hx rfl (hb hby at_163) rfl rfl k_
    refine own_pre (B := T107.setTop (mkF m 165 #[.val (.int x0), .val (.ref b1), .val (.ref b67), .val (.int (6 : Int32))] [(.int (6 : Int32)), (.ref b1)])) ?_ fun t_ k_ => XS.iloadN X107.here hx rfl (hb hby at_164) rfl  k_
    have f163 := ((((((((((((((V65.ext E67).other W95 ne94).other W96 ne94).other W97 ne94).other W98 ne94).other W99 ne94).other W100 ne94).other W101 ne94).other W102 ne94).other W103 ne94).other W104 ne94).other W105 ne94).other W106 ne94).other W107 ne94)
    obtain ⟨cl162, Ar162, q162, S162, Nn162, Hh162, Gg162⟩ := id f163
    have hin162 : ¬ ((6 : Int32) < 0 ∨ cl162.slots.size ≤ ((6 : Int32)).toNatClampNeg) := inb_of S162 ⟨by decide, by decide⟩
    have hat162 : cl162.slots[((6 : Int32)).toNatClampNeg]? = some (.ref a_FOLLOWING) := Hh162.at hin162 rfl
    refine own_pre (B := T107.setTop (mkF m 166 #[.val (.int x0), .val (.ref b1), .val (.ref b67), .val (.int (6 : Int32))] [(.ref a_FOLLOWING)])) ?_ fun t_ k_ => X107.aaload hx (j := (6 : Int32)) (v := (.ref a_FOLLOWING)) (by rw [e107]; exact Ar162.1) (State.isArrayOf_alike hZ.alike Ar162.2.1) rfl Ar162.2.2 hin162 hat162 (g := (mkF m 165 #[.val (.int x0), .val (.ref b1), .val (.ref b67), .val (.int (6 : Int32))] [(.int (6 : Int32)), (.ref b1)])) rfl rfl (hb hby at_165) t_ k_
    have f165 := (((((((((((((((((((((((((((f15.wr W17).wr W21).wr W25).wr W29).wr W33).wr W37).wr W41).wr W45).wr W49).wr W53).wr W57).wr W61).wr W65).ext E67).wr W95).wr W96).wr W97).wr W98).wr W99).wr W100).wr W101).wr W102).wr W103).wr W104).wr W105).wr W106).wr W107)
    have f166 := ((((((((((((((((((((((((((f19.wr W21).wr W25).wr W29).wr W33).wr W37).wr W41).wr W45).wr W49).wr W53).wr W57).wr W61).wr W65).ext E67).wr W95).wr W96).wr W97).wr W98).wr W99).wr W100).wr W101).wr W102).wr W103).wr W104).wr W105).wr W106).wr W107)
    have f167 := (((((((((((((((((f55.wr W57).wr W61).wr W65).ext E67).wr W95).wr W96).wr W97).wr W98).wr W99).wr W100).wr W101).wr W102).wr W103).wr W104).wr W105).wr W106).wr W107)
    have f168 := ((((((((((((((((f59.wr W61).wr W65).ext E67).wr W95).wr W96).wr W97).wr W98).wr W99).wr W100).wr W101).wr W102).wr W103).wr W104).wr W105).wr W106).wr W107)
    have f169 := ((((((((((((((f81.ext E67).wr W95).wr W96).wr W97).wr W98).wr W99).wr W100).wr W101).wr W102).wr W103).wr W104).wr W105).wr W106).wr W107)
    obtain ⟨cq164, kq164, q164a, q164b, q164c⟩ := isOf hZ e107 f169
    obtain ⟨v164, _, ⟨T164, L164, k164, n164⟩, -, X164, ⟨Lc164, hQ164, l164, y164, z164⟩, st164⟩ := X107.virtualBack hx (y := (⟨"com/example/kiungo/kiungo/pointer/Axis", "isReverse", "()Z"⟩ : MethodName)) (z := (⟨"com/example/kiungo/kiungo/pointer/Axis", "isReverse", "()Z"⟩ : MethodName)) hown (mvT hZ (hw _ (List.mem_of_getElem? (i := 44) rfl))) (mvT hZ (hw _ (List.mem_of_getElem? (i := 45) rfl))) (notFace_of_selects (args := #[]) (mvT hZ (hw _ (List.mem_of_getElem? (i := 54) rfl)))) (mvT hZ (hw _ (List.mem_of_getElem? (i := 54) rfl))) (mvT hZ (hw _ (List.mem_of_getElem? (i := 46) rfl))) (by decide) (backOf (W := 0) (rm1 l Z a0 hw [] a_FOLLOWING a_ANCESTOR a_ANCESTOR_OR_SELF a_PRECEDING a_PRECEDING_SIBLING h107 n0 Z107 f165 f166 f167 f168) hZ (hw _ (List.mem_of_getElem? (i := 48) rfl)) (hw _ (List.mem_of_getElem? (i := 3) rfl)) (by decide) (by decide)) q164a q164c (g := (mkF m 166 #[.val (.int x0), .val (.ref b1), .val (.ref b67), .val (.int (6 : Int32))] [(.ref a_FOLLOWING)])) rfl (by rw [hml]; rfl) (Steps.refl _) (argsL := []) (rest := []) (lenOf pd___Z rfl) rfl (by show 2 * 0 + _ ≤ _; exact Nat.le_of_eq rfl) (hb hby at_166) (fun _ _ => ⟨rfl, e107, (by decide : 2 + 0 ≤ _), (by decide : 26 + 0 ≤ _)⟩)
    dsimp only [Pt.U, Pt.locs, Pt.cells, Pt.slots] at X164 l164 y164 z164 st164 hQ164
    rw [y164, z164] at X164
    obtain ⟨hv164, Nq164, e164⟩ := hQ164
    rw [hv164] at st164
    have N164 : Fr n0 L164 := by rw [l164]; exact Fr.app N107 Nq164
    refine own_pre (B := T164.setTop (mkF m 169 #[.val (.int x0), .val (.ref b1), .val (.ref b67), .val (.int (6 : Int32))] [(.int (own_rev a_FOLLOWING a_ANCESTOR a_ANCESTOR_OR_SELF a_PRECEDING a_PRECEDING_SIBLING))])) ?_ (fun t_ k_ => st164.trans k_)
    refine own_pre (B := T164.setTop (mkF m 170 #[.val (.int x0), .val (.ref b1), .val (.ref b67), .val (.int (6 : Int32))] [(.ref b67), (.int (own_rev a_FOLLOWING a_ANCESTOR a_ANCESTOR_OR_SELF a_PRECEDING a_PRECEDING_SIBLING))])) ?_ fun t_ k_ => XS.aloadN X164.here hx rfl (hb hby at_169) rfl rfl k_
    refine own_pre (B := T164.setTop (mkF m 171 #[.val (.int x0), .val (.ref b1), .val (.ref b67), .val (.int (6 : Int32))] [(.int (6 : Int32)), (.ref b67), (.int (own_rev a_FOLLOWING a_ANCESTOR a_ANCESTOR_OR_SELF a_PRECEDING a_PRECEDING_SIBLING))])) ?_ fun t_ k_ => XS.iloadN X164.here hx rfl (hb hby at_170) rfl  k_
    obtain ⟨cl170, Ar170, q170, S170, Nn170, Hh170, Gg170⟩ := id V107
    have hin170 : ¬ ((6 : Int32) < 0 ∨ cl170.slots.size ≤ ((6 : Int32)).toNatClampNeg) := inb_of S170 ⟨by decide, by decide⟩
    have hat170 : cl170.slots[((6 : Int32)).toNatClampNeg]? = some (.int (0 : Int32)) := Hh170.at hin170 rfl
    refine own_pre (B := T164.setTop (mkF m 172 #[.val (.int x0), .val (.ref b1), .val (.ref b67), .val (.int (6 : Int32))] [(.int (0 : Int32)), (.int (own_rev a_FOLLOWING a_ANCESTOR a_ANCESTOR_OR_SELF a_PRECEDING a_PRECEDING_SIBLING))])) ?_ fun t_ k_ => X164.baloadBooleans hx (j := (6 : Int32)) (v := (.int (0 : Int32))) (by rw [e164]; exact Ar170.1) (State.isArrayOf_alike hZ.alike Ar170.2.1) Ar170.2.2 hin170 hat170 (g := (mkF m 171 #[.val (.int x0), .val (.ref b1), .val (.ref b67), .val (.int (6 : Int32))] [(.int (6 : Int32)), (.ref b67), (.int (own_rev a_FOLLOWING a_ANCESTOR a_ANCESTOR_OR_SELF a_PRECEDING a_PRECEDING_SIBLING))])) rfl rfl (hb hby at_171) t_ k_
    refine own_pre (B := T164.setTop (mkF m 175 #[.val (.int x0), .val (.ref b1), .val (.ref b67), .val (.int (6 : Int32))] [])) ?_ fun t_ k_ => XS.icmpNo X164.here hx rfl (hb hby at_172) rfl (teq (by simp [own_rev, ne_FOLLOWING_ANCESTOR, ne_FOLLOWING_ANCESTOR_OR_SELF, ne_FOLLOWING_PRECEDING, ne_FOLLOWING_PRECEDING_SIBLING])).2 k_
    refine own_pre (B := T164.setTop (mkF m 176 #[.val (.int x0), .val (.ref b1), .val (.ref b67), .val (.int (6 : Int32))] [(.int (1 : Int32))])) ?_ fun t_ k_ => XS.iconst X164.here hx rfl (hb hby at_175) k_
    refine own_pre (B := T164.setTop (mkF m 180 #[.val (.int x0), .val (.ref b1), .val (.ref b67), .val (.int (6 : Int32))] [(.int (1 : Int32))])) ?_ fun t_ k_ => XS.goto X164.here hx rfl (pc0 := 176) (pc' := 180) rfl (hb hby at_176) (by decide) (by decide) k_
    refine own_retN X164 hx hlk (t := .boolean) (z' := (1 : Int32)) Bd.returns (by simp) (hb hby at_180) (by decide) ?_ (by decide) (by decide)
    rw [e164]
    exact ⟨rfl, N164⟩
  · skip
    refine own_pre (B := T107.setTop (mkF m 164 #[.val (.int x0), .val (.ref b1), .val (.ref b67), .val (.int (7 : Int32))] [(.ref b1)])) ?_ fun t_ k_ => XS.aloadN X107.here hx rfl (hb hby at_163) rfl rfl k_
    refine own_pre (B := T107.setTop (mkF m 165 #[.val (.int x0), .val (.ref b1), .val (.ref b67), .val (.int (7 : Int32))] [(.int (7 : Int32)), (.ref b1)])) ?_ fun t_ k_ => XS.iloadN X107.here hx rfl (hb hby at_164) rfl  k_
    have f172 := ((((((((((((((V65.ext E67).other W95 ne94).other W96 ne94).other W97 ne94).other W98 ne94).other W99 ne94).other W100 ne94).other W101 ne94).other W102 ne94).other W103 ne94).other W104 ne94).other W105 ne94).other W106 ne94).other W107 ne94)
    obtain ⟨cl171, Ar171, q171, S171, Nn171, Hh171, Gg171⟩ := id f172
    have hin171 : ¬ ((7 : Int32) < 0 ∨ cl171.slots.size ≤ ((7 : Int32)).toNatClampNeg) := inb_of S171 ⟨by decide, by decide⟩
    have hat171 : cl171.slots[((7 : Int32)).toNatClampNeg]? = some (.ref a_FOLLOWING_SIBLING) := Hh171.at hin171 rfl
    refine own_pre (B := T107.setTop (mkF m 166 #[.val (.int x0), .val (.ref b1), .val (.ref b67), .val (.int (7 : Int32))] [(.ref a_FOLLOWING_SIBLING)])) ?_ fun t_ k_ => X107.aaload hx (j := (7 : Int32)) (v := (.ref a_FOLLOWING_SIBLING)) (by rw [e107]; exact Ar171.1) (State.isArrayOf_alike hZ.alike Ar171.2.1) rfl Ar171.2.2 hin171 hat171 (g := (mkF m 165 #[.val (.int x0), .val (.ref b1), .val (.ref b67), .val (.int (7 : Int32))] [(.int (7 : Int32)), (.ref b1)])) rfl rfl (hb hby at_165) t_ k_
    have f174 := (((((((((((((((((((((((((((f15.wr W17).wr W21).wr W25).wr W29).wr W33).wr W37).wr W41).wr W45).wr W49).wr W53).wr W57).wr W61).wr W65).ext E67).wr W95).wr W96).wr W97).wr W98).wr W99).wr W100).wr W101).wr W102).wr W103).wr W104).wr W105).wr W106).wr W107)
    have f175 := ((((((((((((((((((((((((((f19.wr W21).wr W25).wr W29).wr W33).wr W37).wr W41).wr W45).wr W49).wr W53).wr W57).wr W61).wr W65).ext E67).wr W95).wr W96).wr W97).wr W98).wr W99).wr W100).wr W101).wr W102).wr W103).wr W104).wr W105).wr W106).wr W107)
    have f176 := (((((((((((((((((f55.wr W57).wr W61).wr W65).ext E67).wr W95).wr W96).wr W97).wr W98).wr W99).wr W100).wr W101).wr W102).wr W103).wr W104).wr W105).wr W106).wr W107)
    have f177 := ((((((((((((((((f59.wr W61).wr W65).ext E67).wr W95).wr W96).wr W97).wr W98).wr W99).wr W100).wr W101).wr W102).wr W103).wr W104).wr W105).wr W106).wr W107)
    have f178 := ((((((((((((((f83.ext E67).wr W95).wr W96).wr W97).wr W98).wr W99).wr W100).wr W101).wr W102).wr W103).wr W104).wr W105).wr W106).wr W107)
    obtain ⟨cq173, kq173, q173a, q173b, q173c⟩ := isOf hZ e107 f178
    obtain ⟨v173, _, ⟨T173, L173, k173, n173⟩, -, X173, ⟨Lc173, hQ173, l173, y173, z173⟩, st173⟩ := X107.virtualBack hx (y := (⟨"com/example/kiungo/kiungo/pointer/Axis", "isReverse", "()Z"⟩ : MethodName)) (z := (⟨"com/example/kiungo/kiungo/pointer/Axis", "isReverse", "()Z"⟩ : MethodName)) hown (mvT hZ (hw _ (List.mem_of_getElem? (i := 44) rfl))) (mvT hZ (hw _ (List.mem_of_getElem? (i := 45) rfl))) (notFace_of_selects (args := #[]) (mvT hZ (hw _ (List.mem_of_getElem? (i := 56) rfl)))) (mvT hZ (hw _ (List.mem_of_getElem? (i := 56) rfl))) (mvT hZ (hw _ (List.mem_of_getElem? (i := 46) rfl))) (by decide) (backOf (W := 0) (rm1 l Z a0 hw [] a_FOLLOWING_SIBLING a_ANCESTOR a_ANCESTOR_OR_SELF a_PRECEDING a_PRECEDING_SIBLING h107 n0 Z107 f174 f175 f176 f177) hZ (hw _ (List.mem_of_getElem? (i := 48) rfl)) (hw _ (List.mem_of_getElem? (i := 3) rfl)) (by decide) (by decide)) q173a q173c (g := (mkF m 166 #[.val (.int x0), .val (.ref b1), .val (.ref b67), .val (.int (7 : Int32))] [(.ref a_FOLLOWING_SIBLING)])) rfl (by rw [hml]; rfl) (Steps.refl _) (argsL := []) (rest := []) (lenOf pd___Z rfl) rfl (by show 2 * 0 + _ ≤ _; exact Nat.le_of_eq rfl) (hb hby at_166) (fun _ _ => ⟨rfl, e107, (by decide : 2 + 0 ≤ _), (by decide : 26 + 0 ≤ _)⟩)
    dsimp only [Pt.U, Pt.locs, Pt.cells, Pt.slots] at X173 l173 y173 z173 st173 hQ173
    rw [y173, z173] at X173
    obtain ⟨hv173, Nq173, e173⟩ := hQ173
    rw [hv173] at st173
    have N173 : Fr n0 L173 := by rw [l173]; exact Fr.app N107 Nq173
    refine own_pre (B := T173.setTop (mkF m 169 #[.val (.int x0), .val (.ref b1), .val (.ref b67), .val (.int (7 : Int32))] [(.int (own_rev a_FOLLOWING_SIBLING a_ANCESTOR a_ANCESTOR_OR_SELF a_PRECEDING a_PRECEDING_SIBLING))])) ?_ (fun t_ k_ => st173.trans k_)
    refine own_pre (B := T173.setTop (mkF m 170 #[.val (.int x0), .val (.ref b1), .val (.ref b67), .val (.int (7 : Int32))] [(.ref b67), (.int (own_rev a_FOLLOWING_SIBLING a_ANCESTOR a_ANCESTOR_OR_SELF a_PRECEDING a_PRECEDING_SIBLING))])) ?_ fun t_ k_ => XS.aloadN X173.here hx rfl (hb hby at_169) rfl rfl k_
    refine own_pre (B := T173.setTop (mkF m 171 #[.val (.int x0), .val (.ref b1), .val (.ref b67), .val (.int (7 : Int32))] [(.int (7 : Int32)), (.ref b67), (.int (own_rev a_FOLLOWING_SIBLING a_ANCESTOR a_ANCESTOR_OR_SELF a_PRECEDING a_PRECEDING_SIBLING))])) ?_ fun t_ k_ => XS.iloadN X173.here hx rfl (hb hby at_170) rfl  k_
    obtain ⟨cl179, Ar179, q179, S179, Nn179, Hh179, Gg179⟩ := id V107
    have hin179 : ¬ ((7 : Int32) < 0 ∨ cl179.slots.size ≤ ((7 : Int32)).toNatClampNeg) := inb_of S179 ⟨by decide, by decide⟩
    have hat179 : cl179.slots[((7 : Int32)).toNatClampNeg]? = some (.int (0 : Int32)) := Hh179.at hin179 rfl
    refine own_pre (B := T173.setTop (mkF m 172 #[.val (.int x0), .val (.ref b1), .val (.ref b67), .val (.int (7 : Int32))] [(.int (0 : Int32)), (.int (own_rev a_FOLLOWING_SIBLING a_ANCESTOR a_ANCESTOR_OR_SELF a_PRECEDING a_PRECEDING_SIBLING))])) ?_ fun t_ k_ => X173.baloadBooleans hx (j := (7 : Int32)) (v := (.int (0 : Int32))) (by rw [e173]; exact Ar179.1) (State.isArrayOf_alike hZ.alike Ar179.2.1) Ar179.2.2 hin179 hat179 (g := (mkF m 171 #[.val (.int x0), .val (.ref b1), .val (.ref b67), .val (.int (7 : Int32))] [(.int (7 : Int32)), (.ref b67), (.int (own_rev a_FOLLOWING_SIBLING a_ANCESTOR a_ANCESTOR_OR_SELF a_PRECEDING a_PRECEDING_SIBLING))])) rfl rfl (hb hby at_171) t_ k_
    refine own_pre (B := T173.setTop (mkF m 175 #[.val (.int x0), .val (.ref b1), .val (.ref b67), .val (.int (7 : Int32))] [])) ?_ fun t_ k_ => XS.icmpNo X173.here hx rfl (hb hby at_172) rfl (teq (by simp [own_rev, ne_FOLLOWING_SIBLING_ANCESTOR, ne_FOLLOWING_SIBLING_ANCESTOR_OR_SELF, ne_FOLLOWING_SIBLING_PRECEDING, ne_FOLLOWING_SIBLING_PRECEDING_SIBLING])).2 k_
    refine own_pre (B := T173.setTop (mkF m 176 #[.val (.int x0), .val (.ref b1), .val (.ref b67), .val (.int (7 : Int32))] [(.int (1 : Int32))])) ?_ fun t_ k_ => XS.iconst X173.here hx rfl (hb hby at_175) k_
    refine own_pre (B := T173.setTop (mkF m 180 #[.val (.int x0), .val (.ref b1), .val (.ref b67), .val (.int (7 : Int32))] [(.int (1 : Int32))])) ?_ fun t_ k_ => XS.goto X173.here hx rfl (pc0 := 176) (pc' := 180) rfl (hb hby at_176) (by decide) (by decide) k_
    refine own_retN X173 hx hlk (t := .boolean) (z' := (1 : Int32)) Bd.returns (by simp) (hb hby at_180) (by decide) ?_ (by decide) (by decide)
    rw [e173]
    exact ⟨rfl, N173⟩
  · skip
    refine own_pre (B := T107.setTop (mkF m 164 #[.val (.int x0), .val (.ref b1), .val (.ref b67), .val (.int (8 : Int32))] [(.ref b1)])) ?_ fun t_ k_ => XS.aloadN X107.here hx rfl (hb hby at_163) rfl rfl k_
    refine own_pre (B := T107.setTop (mkF m 165 #[.val (.int x0), .val (.ref b1), .val (.ref b67), .val (.int (8 : Int32))] [(.int (8 : Int32)), (.ref b1)])) ?_ fun t_ k_ => XS.iloadN X107.here hx rfl (hb hby at_164) rfl  k_
    have f181 := ((((((((((((((V65.ext E67).other W95 ne94).other W96 ne94).other W97 ne94).other W98 ne94).other W99 ne94).other W100 ne94).other W101 ne94).other W102 ne94).other W103 ne94).other W104 ne94).other W105 ne94).other W106 ne94).other W107 ne94)
    obtain ⟨cl180, Ar180, q180, S180, Nn180, Hh180, Gg180⟩ := id f181
    have hin180 : ¬ ((8 : Int32) < 0 ∨ cl180.slots.size ≤ ((8 : Int32)).toNatClampNeg) := inb_of S180 ⟨by decide, by decide⟩
    have hat180 : cl180.slots[((8 : Int32)).toNatClampNeg]? = some (.ref a_NAMESPACE) := Hh180.at hin180 rfl
    refine own_pre (B := T107.setTop (mkF m 166 #[.val (.int x0), .val (.ref b1), .val (.ref b67), .val (.int (8 : Int32))] [(.ref a_NAMESPACE)])) ?_ fun t_ k_ => X107.aaload hx (j := (8 : Int32)) (v := (.ref a_NAMESPACE)) (by rw [e107]; exact Ar180.1) (State.isArrayOf_alike hZ.alike Ar180.2.1) rfl Ar180.2.2 hin180 hat180 (g := (mkF m 165 #[.val (.int x0), .val (.ref b1), .val (.ref b67), .val (.int (8 : Int32))] [(.int (8 : Int32)), (.ref b1)])) rfl rfl (hb hby at_165) t_ k_
    have f183 := (((((((((((((((((((((((((((f15.wr W17).wr W21).wr W25).wr W29).wr W33).wr W37).wr W41).wr W45).wr W49).wr W53).wr W57).wr W61).wr W65).ext E67).wr W95).wr W96).wr W97).wr W98).wr W99).wr W100).wr W101).wr W102).wr W103).wr W104).wr W105).wr W106).wr W107)
    have f184 := ((((((((((((((((((((((((((f19.wr W21).wr W25).wr W29).wr W33).wr W37).wr W41).wr W45).wr W49).wr W53).wr W57).wr W61).wr W65).ext E67).wr W95).wr W96).wr W97).wr W98).wr W99).wr W100).wr W101).wr W102).wr W103).wr W104).wr W105).wr W106).wr W107)
    have f185 := (((((((((((((((((f55.wr W57).wr W61).wr W65).ext E67).wr W95).wr W96).wr W97).wr W98).wr W99).wr W100).wr W101).wr W102).wr W103).wr W104).wr W105).wr W106).wr W107)
    have f186 := ((((((((((((((((f59.wr W61).wr W65).ext E67).wr W95).wr W96).wr W97).wr W98).wr W99).wr W100).wr W101).wr W102).wr W103).wr W104).wr W105).wr W106).wr W107)
    have f187 := ((((((((((((((f85.ext E67).wr W95).wr W96).wr W97).wr W98).wr W99).wr W100).wr W101).wr W102).wr W103).wr W104).wr W105).wr W106).wr W107)
    obtain ⟨cq182, kq182, q182a, q182b, q182c⟩ := isOf hZ e107 f187
    obtain ⟨v182, _, ⟨T182, L182, k182, n182⟩, -, X182, ⟨Lc182, hQ182, l182, y182, z182⟩, st182⟩ := X107.virtualBack hx (y := (⟨"com/example/kiungo/kiungo/pointer/Axis", "isReverse", "()Z"⟩ : MethodName)) (z := (⟨"com/example/kiungo/kiungo/pointer/Axis", "isReverse", "()Z"⟩ : MethodName)) hown (mvT hZ (hw _ (List.mem_of_getElem? (i := 44) rfl))) (mvT hZ (hw _ (List.mem_of_getElem? (i := 45) rfl))) (notFace_of_selects (args := #[]) (mvT hZ (hw _ (List.mem_of_getElem? (i := 61) rfl)))) (mvT hZ (hw _ (List.mem_of_getElem? (i := 61) rfl))) (mvT hZ (hw _ (List.mem_of_getElem? (i := 46) rfl))) (by decide) (backOf (W := 0) (rm1 l Z a0 hw [] a_NAMESPACE a_ANCESTOR a_ANCESTOR_OR_SELF a_PRECEDING a_PRECEDING_SIBLING h107 n0 Z107 f183 f184 f185 f186) hZ (hw _ (List.mem_of_getElem? (i := 48) rfl)) (hw _ (List.mem_of_getElem? (i := 3) rfl)) (by decide) (by decide)) q182a q182c (g := (mkF m 166 #[.val (.int x0), .val (.ref b1), .val (.ref b67), .val (.int (8 : Int32))] [(.ref a_NAMESPACE)])) rfl (by rw [hml]; rfl) (Steps.refl _) (argsL := []) (rest := []) (lenOf pd___Z rfl) rfl (by show 2 * 0 + _ ≤ _; exact Nat.le_of_eq rfl) (hb hby at_166) (fun _ _ => ⟨rfl, e107, (by decide : 2 + 0 ≤ _), (by decide : 26 + 0 ≤ _)⟩)
    dsimp only [Pt.U, Pt.locs, Pt.cells, Pt.slots] at X182 l182 y182 z182 st182 hQ182
    rw [y182, z182] at X182
    obtain ⟨hv182, Nq182, e182⟩ := hQ182
    rw [hv182] at st182
    have N182 : Fr n0 L182 := by rw [l182]; exact Fr.app N107 Nq182
    refine own_pre (B := T182.setTop (mkF m 169 #[.val (.int x0), .val (.ref b1), .val (.ref b67), .val (.int (8 : Int32))] [(.int (own_rev a_NAMESPACE a_ANCESTOR a_ANCESTOR_OR_SELF a_PRECEDING a_PRECEDING_SIBLING))])) ?_ (fun t_ k_ => st182.trans k_)
    refine own_pre (B := T182.setTop (mkF m 170 #[.val (.int x0), .val (.ref b1), .val (.ref b67), .val (.int (8 : Int32))] [(.ref b67), (.int (own_rev a_NAMESPACE a_ANCESTOR a_ANCESTOR_OR_SELF a_PRECEDING a_PRECEDING_SIBLING))])) ?_ fun t_ k_ => XS.aloadN X182.here hx rfl (hb hby at_169) rfl rfl k_
    refine own_pre (B := T182.setTop (mkF m 171 #[.val (.int x0), .val (.ref b1), .val (.ref b67), .val (.int (8 : Int32))] [(.int (8 : Int32)), (.ref b67), (.int (own_rev a_NAMESPACE a_ANCESTOR a_ANCESTOR_OR_SELF a_PRECEDING a_PRECEDING_SIBLING))])) ?_ fun t_ k_ => XS.iloadN X182.here hx rfl (hb hby at_170) rfl  k_
    obtain ⟨cl188, Ar188, q188, S188, Nn188, Hh188, Gg188⟩ := id V107
    have hin188 : ¬ ((8 : Int32) < 0 ∨ cl188.slots.size ≤ ((8 : Int32)).toNatClampNeg) := inb_of S188 ⟨by decide, by decide⟩
    have hat188 : cl188.slots[((8 : Int32)).toNatClampNeg]? = some (.int (0 : Int32)) := Hh188.at hin188 rfl
    refine own_pre (B := T182.setTop (mkF m 172 #[.val (.int x0), .val (.ref b1), .val (.ref b67), .val (.int (8 : Int32))] [(.int (0 : Int32)), (.int (own_rev a_NAMESPACE a_ANCESTOR a_ANCESTOR_OR_SELF a_PRECEDING a_PRECEDING_SIBLING))])) ?_ fun t_ k_ => X182.baloadBooleans hx (j := (8 : Int32)) (v := (.int (0 : Int32))) (by rw [e182]; exact Ar188.1) (State.isArrayOf_alike hZ.alike Ar188.2.1) Ar188.2.2 hin188 hat188 (g := (mkF m 171 #[.val (.int x0), .val (.ref b1), .val (.ref b67), .val (.int (8 : Int32))] [(.int (8 : Int32)), (.ref b67), (.int (own_rev a_NAMESPACE a_ANCESTOR a_ANCESTOR_OR_SELF a_PRECEDING a_PRECEDING_SIBLING))])) rfl rfl (hb hby at_171) t_ k_
    refine own_pre (B := T182.setTop (mkF m 175 #[.val (.int x0), .val (.ref b1), .val (.ref b67), .val (.int (8 : Int32))] [])) ?_ fun t_ k_ => XS.icmpNo X182.here hx rfl (hb hby at_172) rfl (teq (by simp [own_rev, ne_NAMESPACE_ANCESTOR, ne_NAMESPACE_ANCESTOR_OR_SELF, ne_NAMESPACE_PRECEDING, ne_NAMESPACE_PRECEDING_SIBLING])).2 k_
    refine own_pre (B := T182.setTop (mkF m 176 #[.val (.int x0), .val (.ref b1), .val (.ref b67), .val (.int (8 : Int32))] [(.int (1 : Int32))])) ?_ fun t_ k_ => XS.iconst X182.here hx rfl (hb hby at_175) k_
    refine own_pre (B := T182.setTop (mkF m 180 #[.val (.int x0), .val (.ref b1), .val (.ref b67), .val (.int (8 : Int32))] [(.int (1 : Int32))])) ?_ fun t_ k_ => XS.goto X182.here hx rfl (pc0 := 176) (pc' := 180) rfl (hb hby at_176) (by decide) (by decide) k_
    refine own_retN X182 hx hlk (t := .boolean) (z' := (1 : Int32)) Bd.returns (by simp) (hb hby at_180) (by decide) ?_ (by decide) (by decide)
    rw [e182]
    exact ⟨rfl, N182⟩
  · skip
    refine own_pre (B := T107.setTop (mkF m 164 #[.val (.int x0), .val (.ref b1), .val (.ref b67), .val (.int (9 : Int32))] [(.ref b1)])) ?_ fun t_ k_ => XS.aloadN X107.here hx rfl (hb hby at_163) rfl rfl k_
    refine own_pre (B := T107.setTop (mkF m 165 #[.val (.int x0), .val (.ref b1), .val (.ref b67), .val (.int (9 : Int32))] [(.int (9 : Int32)), (.ref b1)])) ?_ fun t_ k_ => XS.iloadN X107.here hx rfl (hb hby at_164) rfl  k_
    have f190 := ((((((((((((((V65.ext E67).other W95 ne94).other W96 ne94).other W97 ne94).other W98 ne94).other W99 ne94).other W100 ne94).other W101 ne94).other W102 ne94).other W103 ne94).other W104 ne94).other W105 ne94).other W106 ne94).other W107 ne94)
    obtain ⟨cl189, Ar189, q189, S189, Nn189, Hh189, Gg189⟩ := id f190
    have hin189 : ¬ ((9 : Int32) < 0 ∨ cl189.slots.size ≤ ((9 : Int32)).toNatClampNeg) := inb_of S189 ⟨by decide, by decide⟩
    have hat189 : cl189.slots[((9 : Int32)).toNatClampNeg]? = some (.ref a_PARENT) := Hh189.at hin189 rfl
    refine own_pre (B := T107.setTop (mkF m 166 #[.val (.int x0), .val (.ref b1), .val (.ref b67), .val (.int (9 : Int32))] [(.ref a_PARENT)])) ?_ fun t_ k_ => X107.aaload hx (j := (9 : Int32)) (v := (.ref a_PARENT)) (by rw [e107]; exact Ar189.1) (State.isArrayOf_alike hZ.alike Ar189.2.1) rfl Ar189.2.2 hin189 hat189 (g := (mkF m 165 #[.val (.int x0), .val (.ref b1), .val (.ref b67), .val (.int (9 : Int32))] [(.int (9 : Int32)), (.ref b1)])) rfl rfl (hb hby at_165) t_ k_
    have f192 := (((((((((((((((((((((((((((f15.wr W17).wr W21).wr W25).wr W29).wr W33).wr W37).wr W41).wr W45).wr W49).wr W53).wr W57).wr W61).wr W65).ext E67).wr W95).wr W96).wr W97).wr W98).wr W99).wr W100).wr W101).wr W102).wr W103).wr W104).wr W105).wr W106).wr W107)
    have f193 := ((((((((((((((((((((((((((f19.wr W21).wr W25).wr W29).wr W33).wr W37).wr W41).wr W45).wr W49).wr W53).wr W57).wr W61).wr W65).ext E67).wr W95).wr W96).wr W97).wr W98).wr W99).wr W100).wr W101).wr W102).wr W103).wr W104).wr W105).wr W106).wr W107)
    have f194 := (((((((((((((((((f55.wr W57).wr W61).wr W65).ext E67).wr W95).wr W96).wr W97).wr W98).wr W99).wr W100).wr W101).wr W102).wr W103).wr W104).wr W105).wr W106).wr W107)
    have f195 := ((((((((((((((((f59.wr W61).wr W65).ext E67).wr W95).wr W96).wr W97).wr W98).wr W99).wr W100).wr W101).wr W102).wr W103).wr W104).wr W105).wr W106).wr W107)
    have f196 := ((((((((((((((f87.ext E67).wr W95).wr W96).wr W97).wr W98).wr W99).wr W100).wr W101).wr W102).wr W103).wr W104).wr W105).wr W106).wr W107)
    obtain ⟨cq191, kq191, q191a, q191b, q191c⟩ := isOf hZ e107 f196
    obtain ⟨v191, _, ⟨T191, L191, k191, n191⟩, -, X191, ⟨Lc191, hQ191, l191, y191, z191⟩, st191⟩ := X107.virtualBack hx (y := (⟨"com/example/kiungo/kiungo/pointer/Axis", "isReverse", "()Z"⟩ : MethodName)) (z := (⟨"com/example/kiungo/kiungo/pointer/Axis", "isReverse", "()Z"⟩ : MethodName)) hown (mvT hZ (hw _ (List.mem_of_getElem? (i := 44) rfl))) (mvT hZ (hw _ (List.mem_of_getElem? (i := 45) rfl))) (notFace_of_selects (args := #[]) (mvT hZ (hw _ (List.mem_of_getElem? (i := 57) rfl)))) (mvT hZ (hw _ (List.mem_of_getElem? (i := 57) rfl))) (mvT hZ (hw _ (List.mem_of_getElem? (i := 46) rfl))) (by decide) (backOf (W := 0) (rm1 l Z a0 hw [] a_PARENT a_ANCESTOR a_ANCESTOR_OR_SELF a_PRECEDING a_PRECEDING_SIBLING h107 n0 Z107 f192 f193 f194 f195) hZ (hw _ (List.mem_of_getElem? (i := 48) rfl)) (hw _ (List.mem_of_getElem? (i := 3) rfl)) (by decide) (by decide)) q191a q191c (g := (mkF m 166 #[.val (.int x0), .val (.ref b1), .val (.ref b67), .val (.int (9 : Int32))] [(.ref a_PARENT)])) rfl (by rw [hml]; rfl) (Steps.refl _) (argsL := []) (rest := []) (lenOf pd___Z rfl) rfl (by show 2 * 0 + _ ≤ _; exact Nat.le_of_eq rfl) (hb hby at_166) (fun _ _ => ⟨rfl, e107, (by decide : 2 + 0 ≤ _), (by decide : 26 + 0 ≤ _)⟩)
    dsimp only [Pt.U, Pt.locs, Pt.cells, Pt.slots] at X191 l191 y191 z191 st191 hQ191
    rw [y191, z191] at X191
    obtain ⟨hv191, Nq191, e191⟩ := hQ191
    rw [hv191] at st191
    have N191 : Fr n0 L191 := by rw [l191]; exact Fr.app N107 Nq191
    refine own_pre (B := T191.setTop (mkF m 169 #[.val (.int x0), .val (.ref b1), .val (.ref b67), .val (.int (9 : Int32))] [(.int (own_rev a_PARENT a_ANCESTOR a_ANCESTOR_OR_SELF a_PRECEDING a_PRECEDING_SIBLING))])) ?_ (fun t_ k_ => st191.trans k_)
    refine own_pre (B := T191.setTop (mkF m 170 #[.val (.int x0), .val (.ref b1), .val (.ref b67), .val (.int (9 : Int32))] [(.ref b67), (.int (own_rev a_PARENT a_ANCESTOR a_ANCESTOR_OR_SELF a_PRECEDING a_PRECEDING_SIBLING))])) ?_ fun t_ k_ => XS.aloadN X191.here hx rfl (hb hby at_169) rfl rfl k_
    refine own_pre (B := T191.setTop (mkF m 171 #[.val (.int x0), .val (.ref b1), .val (.ref b67), .val (.int (9 : Int32))] [(.int (9 : Int32)), (.ref b67), (.int (own_rev a_PARENT a_ANCESTOR a_ANCESTOR_OR_SELF a_PRECEDING a_PRECEDING_SIBLING))])) ?_ fun t_ k_ => XS.iloadN X191.here hx rfl (hb hby at_170) rfl  k_
    obtain ⟨cl197, Ar197, q197, S197, Nn197, Hh197, Gg197⟩ := id V107
    have hin197 : ¬ ((9 : Int32) < 0 ∨ cl197.slots.size ≤ ((9 : Int32)).toNatClampNeg) := inb_of S197 ⟨by decide, by decide⟩
    have hat197 : cl197.slots[((9 : Int32)).toNatClampNeg]? = some (.int (0 : Int32)) := Hh197.at hin197 rfl
    refine own_pre (B := T191.setTop (mkF m 172 #[.val (.int x0), .val (.ref b1), .val (.ref b67), .val (.int (9 : Int32))] [(.int (0 : Int32)), (.int (own_rev a_PARENT a_ANCESTOR a_ANCESTOR_OR_SELF a_PRECEDING a_PRECEDING_SIBLING))])) ?_ fun t_ k_ => X191.baloadBooleans hx (j := (9 : Int32)) (v := (.int (0 : Int32))) (by rw [e191]; exact Ar197.1) (State.isArrayOf_alike hZ.alike Ar197.2.1) Ar197.2.2 hin197 hat197 (g := (mkF m 171 #[.val (.int x0), .val (.ref b1), .val (.ref b67), .val (.int (9 : Int32))] [(.int (9 : Int32)), (.ref b67), (.int (own_rev a_PARENT a_ANCESTOR a_ANCESTOR_OR_SELF a_PRECEDING a_PRECEDING_SIBLING))])) rfl rfl (hb hby at_171) t_ k_
    refine own_pre (B := T191.setTop (mkF m 175 #[.val (.int x0), .val (.ref b1), .val (.ref b67), .val (.int (9 : Int32))] [])) ?_ fun t_ k_ => XS.icmpNo X191.here hx rfl (hb hby at_172) rfl (teq (by simp [own_rev, ne_PARENT_ANCESTOR, ne_PARENT_ANCESTOR_OR_SELF, ne_PARENT_PRECEDING, ne_PARENT_PRECEDING_SIBLING])).2 k_
    refine own_pre (B := T191.setTop (mkF m 176 #[.val (.int x0), .val (.ref b1), .val (.ref b67), .val (.int (9 : Int32))] [(.int (1 : Int32))])) ?_ fun t_ k_ => XS.iconst X191.here hx rfl (hb hby at_175) k_
    refine own_pre (B := T191.setTop (mkF m 180 #[.val (.int x0), .val (.ref b1), .val (.ref b67), .val (.int (9 : Int32))] [(.int (1 : Int32))])) ?_ fun t_ k_ => XS.goto X191.here hx rfl (pc0 := 176) (pc' := 180) rfl (hb hby at_176) (by decide) (by decide) k_
    refine own_retN X191 hx hlk (t := .boolean) (z' := (1 : Int32)) Bd.returns (by simp) (hb hby at_180) (by decide) ?_ (by decide) (by decide)
    rw [e191]
    exact ⟨rfl, N191⟩
  · skip
    refine own_pre (B := T107.setTop (mkF m 164 #[.val (.int x0), .val (.ref b1), .val (.ref b67), .val (.int (10 : Int32))] [(.ref b1)])) ?_ fun t_ k_ => XS.aloadN X107.here hx rfl (hb hby at_163) rfl rfl k_
    refine own_pre (B := T107.setTop (mkF m 165 #[.val (.int x0), .val (.ref b1), .val (.ref b67), .val (.int (10 : Int32))] [(.int (10 : Int32)), (.ref b1)])) ?_ fun t_ k_ => XS.iloadN X107.here hx rfl (hb hby at_164) rfl  k_
    have f199 := ((((((((((((((V65.ext E67).other W95 ne94).other W96 ne94).other W97 ne94).other W98 ne94).other W99 ne94).other W100 ne94).other W101 ne94).other W102 ne94).other W103 ne94).other W104 ne94).other W105 ne94).other W106 ne94).other W107 ne94)
    obtain ⟨cl198, Ar198, q198, S198, Nn198, Hh198, Gg198⟩ := id f199
    have hin198 : ¬ ((10 : Int32) < 0 ∨ cl198.slots.size ≤ ((10 : Int32)).toNatClampNeg) := inb_of S198 ⟨by decide, by decide⟩
    have hat198 : cl198.slots[((10 : Int32)).toNatClampNeg]? = some (.ref a_PRECEDING) := Hh198.at hin198 rfl
    refine own_pre (B := T107.setTop (mkF m 166 #[.val (.int x0), .val (.ref b1), .val (.ref b67), .val (.int (10 : Int32))] [(.ref a_PRECEDING)])) ?_ fun t_ k_ => X107.aaload hx (j := (10 : Int32)) (v := (.ref a_PRECEDING)) (by rw [e107]; exact Ar198.1) (State.isArrayOf_alike hZ.alike Ar198.2.1) rfl Ar198.2.2 hin198 hat198 (g := (mkF m 165 #[.val (.int x0), .val (.ref b1), .val (.ref b67), .val (.int (10 : Int32))] [(.int (10 : Int32)), (.ref b1)])) rfl rfl (hb hby at_165) t_ k_
    have f201 := (((((((((((((((((((((((((((f15.wr W17).wr W21).wr W25).wr W29).wr W33).wr W37).wr W41).wr W45).wr W49).wr W53).wr W57).wr W61).wr W65).ext E67).wr W95).wr W96).wr W97).wr W98).wr W99).wr W100).wr W101).wr W102).wr W103).wr W104).wr W105).wr W106).wr W107)
    have f202 := ((((((((((((((((((((((((((f19.wr W21).wr W25).wr W29).wr W33).wr W37).wr W41).wr W45).wr W49).wr W53).wr W57).wr W61).wr W65).ext E67).wr W95).wr W96).wr W97).wr W98).wr W99).wr W100).wr W101).wr W102).wr W103).wr W104).wr W105).wr W106).wr W107)
    have f203 := (((((((((((((((((f55.wr W57).wr W61).wr W65).ext E67).wr W95).wr W96).wr W97).wr W98).wr W99).wr W100).wr W101).wr W102).wr W103).wr W104).wr W105).wr W106).wr W107)
    have f204 := ((((((((((((((((f59.wr W61).wr W65).ext E67).wr W95).wr W96).wr W97).wr W98).wr W99).wr W100).wr W101).wr W102).wr W103).wr W104).wr W105).wr W106).wr W107)
    have f205 := ((((((((((((((f89.ext E67).wr W95).wr W96).wr W97).wr W98).wr W99).wr W100).wr W101).wr W102).wr W103).wr W104).wr W105).wr W106).wr W107)
    obtain ⟨cq200, kq200, q200a, q200b, q200c⟩ := isOf hZ e107 f205
    obtain ⟨v200, _, ⟨T200, L200, k200, n200⟩, -, X200, ⟨Lc200, hQ200, l200, y200, z200⟩, st200⟩ := X107.virtualBack hx (y := (⟨"com/example/kiungo/kiungo/pointer/Axis", "isReverse", "()Z"⟩ : MethodName)) (z := (⟨"com/example/kiungo/kiungo/pointer/Axis", "isReverse", "()Z"⟩ : MethodName)) hown (mvT hZ (hw _ (List.mem_of_getElem? (i := 44) rfl))) (mvT hZ (hw _ (List.mem_of_getElem? (i := 45) rfl))) (notFace_of_selects (args := #[]) (mvT hZ (hw _ (List.mem_of_getElem? (i := 62) rfl)))) (mvT hZ (hw _ (List.mem_of_getElem? (i := 62) rfl))) (mvT hZ (hw _ (List.mem_of_getElem? (i := 46) rfl))) (by decide) (backOf (W := 0) (rm1 l Z a0 hw [] a_PRECEDING a_ANCESTOR a_ANCESTOR_OR_SELF a_PRECEDING a_PRECEDING_SIBLING h107 n0 Z107 f201 f202 f203 f204) hZ (hw _ (List.mem_of_getElem? (i := 48) rfl)) (hw _ (List.mem_of_getElem? (i := 3) rfl)) (by decide) (by decide)) q200a q200c (g := (mkF m 166 #[.val (.int x0), .val (.ref b1), .val (.ref b67), .val (.int (10 : Int32))] [(.ref a_PRECEDING)])) rfl (by rw [hml]; rfl) (Steps.refl _) (argsL := []) (rest := []) (lenOf pd___Z rfl) rfl (by show 2 * 0 + _ ≤ _; exact Nat.le_of_eq rfl) (hb hby at_166) (fun _ _ => ⟨rfl, e107, (by decide : 2 + 0 ≤ _), (by decide : 26 + 0 ≤ _)⟩)
    dsimp only [Pt.U, Pt.locs, Pt.cells, Pt.slots] at X200 l200 y200 z200 st200 hQ200
    rw [y200, z200] at X200
    obtain ⟨hv200, Nq200, e200⟩ := hQ200
    rw [hv200] at st200
    have N200 : Fr n0 L200 := by rw [l200]; exact Fr.app N107 Nq200
    refine own_pre (B := T200.setTop (mkF m 169 #[.val (.int x0), .val (.ref b1), .val (.ref b67), .val (.int (10 : Int32))] [(.int (own_rev a_PRECEDING a_ANCESTOR a_ANCESTOR_OR_SELF a_PRECEDING a_PRECEDING_SIBLING))])) ?_ (fun t_ k_ => st200.trans k_)
    refine own_pre (B := T200.setTop (mkF m 170 #[.val (.int x0), .val (.ref b1), .val (.ref b67), .val (.int (10 : Int32))] [(.ref b67), (.int (own_rev a_PRECEDING a_ANCESTOR a_ANCESTOR_OR_SELF a_PRECEDING a_PRECEDING_SIBLING))])) ?_ fun t_ k_ => XS.aloadN X200.here hx rfl (hb hby at_169) rfl rfl k_
    refine own_pre (B := T200.setTop (mkF m 171 #[.val (.int x0), .val (.ref b1), .val (.ref b67), .val (.int (10 : Int32))] [(.int (10 : Int32)), (.ref b67), (.int (own_rev a_PRECEDING a_ANCESTOR a_ANCESTOR_OR_SELF a_PRECEDING a_PRECEDING_SIBLING))])) ?_ fun t_ k_ => XS.iloadN X200.here hx rfl (hb hby at_170) rfl  k_
    obtain ⟨cl206, Ar206, q206, S206, Nn206, Hh206, Gg206⟩ := id V107
    have hin206 : ¬ ((10 : Int32) < 0 ∨ cl206.slots.size ≤ ((10 : Int32)).toNatClampNeg) := inb_of S206 ⟨by decide, by decide⟩
    have hat206 : cl206.slots[((10 : Int32)).toNatClampNeg]? = some (.int (1 : Int32)) := Hh206.at hin206 rfl
    refine own_pre (B := T200.setTop (mkF m 172 #[.val (.int x0), .val (.ref b1), .val (.ref b67), .val (.int (10 : Int32))] [(.int (1 : Int32)), (.int (own_rev a_PRECEDING a_ANCESTOR a_ANCESTOR_OR_SELF a_PRECEDING a_PRECEDING_SIBLING))])) ?_ fun t_ k_ => X200.baloadBooleans hx (j := (10 : Int32)) (v := (.int (1 : Int32))) (by rw [e200]; exact Ar206.1) (State.isArrayOf_alike hZ.alike Ar206.2.1) Ar206.2.2 hin206 hat206 (g := (mkF m 171 #[.val (.int x0), .val (.ref b1), .val (.ref b67), .val (.int (10 : Int32))] [(.int (10 : Int32)), (.ref b67), (.int (own_rev a_PRECEDING a_ANCESTOR a_ANCESTOR_OR_SELF a_PRECEDING a_PRECEDING_SIBLING))])) rfl rfl (hb hby at_171) t_ k_
    refine own_pre (B := T200.setTop (mkF m 175 #[.val (.int x0), .val (.ref b1), .val (.ref b67), .val (.int (10 : Int32))] [])) ?_ fun t_ k_ => XS.icmpNo X200.here hx rfl (hb hby at_172) rfl (teq (by simp [own_rev, ne_PRECEDING_ANCESTOR, ne_PRECEDING_ANCESTOR_OR_SELF, ne_PRECEDING_PRECEDING_SIBLING])).2 k_
    refine own_pre (B := T200.setTop (mkF m 176 #[.val (.int x0), .val (.ref b1), .val (.ref b67), .val (.int (10 : Int32))] [(.int (1 : Int32))])) ?_ fun t_ k_ => XS.iconst X200.here hx rfl (hb hby at_175) k_
    refine own_pre (B := T200.setTop (mkF m 180 #[.val (.int x0), .val (.ref b1), .val (.ref b67), .val (.int (10 : Int32))] [(.int (1 : Int32))])) ?_ fun t_ k_ => XS.goto X200.here hx rfl (pc0 := 176) (pc' := 180) rfl (hb hby at_176) (by decide) (by decide) k_
    refine own_retN X200 hx hlk (t := .boolean) (z' := (1 : Int32)) Bd.returns (by simp) (hb hby at_180) (by decide) ?_ (by decide) (by decide)
    rw [e200]
    exact ⟨rfl, N200⟩
  · skip
    refine own_pre (B := T107.setTop (mkF m 164 #[.val (.int x0), .val (.ref b1), .val (.ref b67), .val (.int (11 : Int32))] [(.ref b1)])) ?_ fun t_ k_ => XS.aloadN X107.here hx rfl (hb hby at_163) rfl rfl k_
    refine own_pre (B := T107.setTop (mkF m 165 #[.val (.int x0), .val (.ref b1), .val (.ref b67), .val (.int (11 : Int32))] [(.int (11 : Int32)), (.ref b1)])) ?_ fun t_ k_ => XS.iloadN X107.here hx rfl (hb hby at_164) rfl  k_
    have f208 := ((((((((((((((V65.ext E67).other W95 ne94).other W96 ne94).other W97 ne94).other W98 ne94).other W99 ne94).other W100 ne94).other W101 ne94).other W102 ne94).other W103 ne94).other W104 ne94).other W105 ne94).other W106 ne94).other W107 ne94)
    obtain ⟨cl207, Ar207, q207, S207, Nn207, Hh207, Gg207⟩ := id f208
    have hin207 : ¬ ((11 : Int32) < 0 ∨ cl207.slots.size ≤ ((11 : Int32)).toNatClampNeg) := inb_of S207 ⟨by decide, by decide⟩
    have hat207 : cl207.slots[((11 : Int32)).toNatClampNeg]? = some (.ref a_PRECEDING_SIBLING) := Hh207.at hin207 rfl
    refine own_pre (B := T107.setTop (mkF m 166 #[.val (.int x0), .val (.ref b1), .val (.ref b67), .val (.int (11 : Int32))] [(.ref a_PRECEDING_SIBLING)])) ?_ fun t_ k_ => X107.aaload hx (j := (11 : Int32)) (v := (.ref a_PRECEDING_SIBLING)) (by rw [e107]; exact Ar207.1) (State.isArrayOf_alike hZ.alike Ar207.2.1) rfl Ar207.2.2 hin207 hat207 (g := (mkF m 165 #[.val (.int x0), .val (.ref b1), .val (.ref b67), .val (.int (11 : Int32))] [(.int (11 : Int32)), (.ref b1)])) rfl rfl (hb hby at_165) t_ k_
    have f210 := (((((((((((((((((((((((((((f15.wr W17).wr W21).wr W25).wr W29).wr W33).wr W37).wr W41).wr W45).wr W49).wr W53).wr W57).wr W61).wr W65).ext E67).wr W95).wr W96).wr W97).wr W98).wr W99).wr W100).wr W101).wr W102).wr W103).wr W104).wr W105).wr W106).wr W107)
    have f211 := ((((((((((((((((((((((((((f19.wr W21).wr W25).wr W29).wr W33).wr W37).wr W41).wr W45).wr W49).wr W53).wr W57).wr W61).wr W65).ext E67).wr W95).wr W96).wr W97).wr W98).wr W99).wr W100).wr W101).wr W102).wr W103).wr W104).wr W105).wr W106).wr W107)
    have f212 := (((((((((((((((((f55.wr W57).wr W61).wr W65).ext E67).wr W95).wr W96).wr W97).wr W98).wr W99).wr W100).wr W101).wr W102).wr W103).wr W104).wr W105).wr W106).wr W107)
    have f213 := ((((((((((((((((f59.wr W61).wr W65).ext E67).wr W95).wr W96).wr W97).wr W98).wr W99).wr W100).wr W101).wr W102).wr W103).wr W104).wr W105).wr W106).wr W107)
    have f214 := ((((((((((((((f91.ext E67).wr W95).wr W96).wr W97).wr W98).wr W99).wr W100).wr W101).wr W102).wr W103).wr W104).wr W105).wr W106).wr W107)
    obtain ⟨cq209, kq209, q209a, q209b, q209c⟩ := isOf hZ e107 f214
    obtain ⟨v209, _, ⟨T209, L209, k209, n209⟩, -, X209, ⟨Lc209, hQ209, l209, y209, z209⟩, st209⟩ := X107.virtualBack hx (y := (⟨"com/example/kiungo/kiungo/pointer/Axis", "isReverse", "()Z"⟩ : MethodName)) (z := (⟨"com/example/kiungo/kiungo/pointer/Axis", "isReverse", "()Z"⟩ : MethodName)) hown (mvT hZ (hw _ (List.mem_of_getElem? (i := 44) rfl))) (mvT hZ (hw _ (List.mem_of_getElem? (i := 45) rfl))) (notFace_of_selects (args := #[]) (mvT hZ (hw _ (List.mem_of_getElem? (i := 59) rfl)))) (mvT hZ (hw _ (List.mem_of_getElem? (i := 59) rfl))) (mvT hZ (hw _ (List.mem_of_getElem? (i := 46) rfl))) (by decide) (backOf (W := 0) (rm1 l Z a0 hw [] a_PRECEDING_SIBLING a_ANCESTOR a_ANCESTOR_OR_SELF a_PRECEDING a_PRECEDING_SIBLING h107 n0 Z107 f210 f211 f212 f213) hZ (hw _ (List.mem_of_getElem? (i := 48) rfl)) (hw _ (List.mem_of_getElem? (i := 3) rfl)) (by decide) (by decide)) q209a q209c (g := (mkF m 166 #[.val (.int x0), .val (.ref b1), .val (.ref b67), .val (.int (11 : Int32))] [(.ref a_PRECEDING_SIBLING)])) rfl (by rw [hml]; rfl) (Steps.refl _) (argsL := []) (rest := []) (lenOf pd___Z rfl) rfl (by show 2 * 0 + _ ≤ _; exact Nat.le_of_eq rfl) (hb hby at_166) (fun _ _ => ⟨rfl, e107, (by decide : 2 + 0 ≤ _), (by decide : 26 + 0 ≤ _)⟩)
    dsimp only [Pt.U, Pt.locs, Pt.cells, Pt.slots] at X209 l209 y209 z209 st209 hQ209
    rw [y209, z209] at X209
    obtain ⟨hv209, Nq209, e209⟩ := hQ209
    rw [hv209] at st209
    have N209 : Fr n0 L209 := by rw [l209]; exact Fr.app N107 Nq209
    refine own_pre (B := T209.setTop (mkF m 169 #[.val (.int x0), .val (.ref b1), .val (.ref b67), .val (.int (11 : Int32))] [(.int (own_rev a_PRECEDING_SIBLING a_ANCESTOR a_ANCESTOR_OR_SELF a_PRECEDING a_PRECEDING_SIBLING))])) ?_ (fun t_ k_ => st209.trans k_)
    refine own_pre (B := T209.setTop (mkF m 170 #[.val (.int x0), .val (.ref b1), .val (.ref b67), .val (.int (11 : Int32))] [(.ref b67), (.int (own_rev a_PRECEDING_SIBLING a_ANCESTOR a_ANCESTOR_OR_SELF a_PRECEDING a_PRECEDING_SIBLING))])) ?_ fun t_ k_ => XS.aloadN X209.here hx rfl (hb hby at_169) rfl rfl k_
    refine own_pre (B := T209.setTop (mkF m 171 #[.val (.int x0), .val (.ref b1), .val (.ref b67), .val (.int (11 : Int32))] [(.int (11 : Int32)), (.ref b67), (.int (own_rev a_PRECEDING_SIBLING a_ANCESTOR a_ANCESTOR_OR_SELF a_PRECEDING a_PRECEDING_SIBLING))])) ?_ fun t_ k_ => XS.iloadN X209.here hx rfl (hb hby at_170) rfl  k_
    obtain ⟨cl215, Ar215, q215, S215, Nn215, Hh215, Gg215⟩ := id V107
    have hin215 : ¬ ((11 : Int32) < 0 ∨ cl215.slots.size ≤ ((11 : Int32)).toNatClampNeg) := inb_of S215 ⟨by decide, by decide⟩
    have hat215 : cl215.slots[((11 : Int32)).toNatClampNeg]? = some (.int (1 : Int32)) := Hh215.at hin215 rfl
    refine own_pre (B := T209.setTop (mkF m 172 #[.val (.int x0), .val (.ref b1), .val (.ref b67), .val (.int (11 : Int32))] [(.int (1 : Int32)), (.int (own_rev a_PRECEDING_SIBLING a_ANCESTOR a_ANCESTOR_OR_SELF a_PRECEDING a_PRECEDING_SIBLING))])) ?_ fun t_ k_ => X209.baloadBooleans hx (j := (11 : Int32)) (v := (.int (1 : Int32))) (by rw [e209]; exact Ar215.1) (State.isArrayOf_alike hZ.alike Ar215.2.1) Ar215.2.2 hin215 hat215 (g := (mkF m 171 #[.val (.int x0), .val (.ref b1), .val (.ref b67), .val (.int (11 : Int32))] [(.int (11 : Int32)), (.ref b67), (.int (own_rev a_PRECEDING_SIBLING a_ANCESTOR a_ANCESTOR_OR_SELF a_PRECEDING a_PRECEDING_SIBLING))])) rfl rfl (hb hby at_171) t_ k_
    refine own_pre (B := T209.setTop (mkF m 175 #[.val (.int x0), .val (.ref b1), .val (.ref b67), .val (.int (11 : Int32))] [])) ?_ fun t_ k_ => XS.icmpNo X209.here hx rfl (hb hby at_172) rfl (teq (by simp [own_rev, ne_PRECEDING_SIBLING_ANCESTOR, ne_PRECEDING_SIBLING_ANCESTOR_OR_SELF, ne_PRECEDING_SIBLING_PRECEDING])).2 k_
    refine own_pre (B := T209.setTop (mkF m 176 #[.val (.int x0), .val (.ref b1), .val (.ref b67), .val (.int (11 : Int32))] [(.int (1 : Int32))])) ?_ fun t_ k_ => XS.iconst X209.here hx rfl (hb hby at_175) k_
    refine own_pre (B := T209.setTop (mkF m 180 #[.val (.int x0), .val (.ref b1), .val (.ref b67), .val (.int (11 : Int32))] [(.int (1 : Int32))])) ?_ fun t_ k_ => XS.goto X209.here hx rfl (pc0 := 176) (pc' := 180) rfl (hb hby at_176) (by decide) (by decide) k_
    refine own_retN X209 hx hlk (t := .boolean) (z' := (1 : Int32)) Bd.returns (by simp) (hb hby at_180) (by decide) ?_ (by decide) (by decide)
    rw [e209]
    exact ⟨rfl, N209⟩
  · skip
    refine own_pre (B := T107.setTop (mkF m 164 #[.val (.int x0), .val (.ref b1), .val (.ref b67), .val (.int (12 : Int32))] [(.ref b1)])) ?_ fun t_ k_ => XS.aloadN X107.here hx rfl (hb hby at_163) rfl rfl k_
    refine own_pre (B := T107.setTop (mkF m 165 #[.val (.int x0), .val (.ref b1), .val (.ref b67), .val (.int (12 : Int32))] [(.int (12 : Int32)), (.ref b1)])) ?_ fun t_ k_ => XS.iloadN X107.here hx rfl (hb hby at_164) rfl  k_
    have f217 := ((((((((((((((V65.ext E67).other W95 ne94).other W96 ne94).other W97 ne94).other W98 ne94).other W99 ne94).other W100 ne94).other W101 ne94).other W102 ne94).other W103 ne94).other W104 ne94).other W105 ne94).other W106 ne94).other W107 ne94)
    obtain ⟨cl216, Ar216, q216, S216, Nn216, Hh216, Gg216⟩ := id f217
    have hin216 : ¬ ((12 : Int32) < 0 ∨ cl216.slots.size ≤ ((12 : Int32)).toNatClampNeg) := inb_of S216 ⟨by decide, by decide⟩
    have hat216 : cl216.slots[((12 : Int32)).toNatClampNeg]? = some (.ref a_SELF) := Hh216.at hin216 rfl
    refine own_pre (B := T107.setTop (mkF m 166 #[.val (.int x0), .val (.ref b1), .val (.ref b67), .val (.int (12 : Int32))] [(.ref a_SELF)])) ?_ fun t_ k_ => X107.aaload hx (j := (12 : Int32)) (v := (.ref a_SELF)) (by rw [e107]; exact Ar216.1) (State.isArrayOf_alike hZ.alike Ar216.2.1) rfl Ar216.2.2 hin216 hat216 (g := (mkF m 165 #[.val (.int x0), .val (.ref b1), .val (.ref b67), .val (.int (12 : Int32))] [(.int (12 : Int32)), (.ref b1)])) rfl rfl (hb hby at_165) t_ k_
    have f219 := (((((((((((((((((((((((((((f15.wr W17).wr W21).wr W25).wr W29).wr W33).wr W37).wr W41).wr W45).wr W49).wr W53).wr W57).wr W61).wr W65).ext E67).wr W95).wr W96).wr W97).wr W98).wr W99).wr W100).wr W101).wr W102).wr W103).wr W104).wr W105).wr W106).wr W107)
    have f220 := ((((((((((((((((((((((((((f19.wr W21).wr W25).wr W29).wr W33).wr W37).wr W41).wr W45).wr W49).wr W53).wr W57).wr W61).wr W65).ext E67).wr W95).wr W96).wr W97).wr W98).wr W99).wr W100).wr W101).wr W102).wr W103).wr W104).wr W105).wr W106).wr W107)
    have f221 := (((((((((((((((((f55.wr W57).wr W61).wr W65).ext E67).wr W95).wr W96).wr W97).wr W98).wr W99).wr W100).wr W101).wr W102).wr W103).wr W104).wr W105).wr W106).wr W107)
    have f222 := ((((((((((((((((f59.wr W61).wr W65).ext E67).wr W95).wr W96).wr W97).wr W98).wr W99).wr W100).wr W101).wr W102).wr W103).wr W104).wr W105).wr W106).wr W107)
    have f223 := ((((((((((((((f93.ext E67).wr W95).wr W96).wr W97).wr W98).wr W99).wr W100).wr W101).wr W102).wr W103).wr W104).wr W105).wr W106).wr W107)
    obtain ⟨cq218, kq218, q218a, q218b, q218c⟩ := isOf hZ e107 f223
    obtain ⟨v218, _, ⟨T218, L218, k218, n218⟩, -, X218, ⟨Lc218, hQ218, l218, y218, z218⟩, st218⟩ := X107.virtualBack hx (y := (⟨"com/example/kiungo/kiungo/pointer/Axis", "isReverse", "()Z"⟩ : MethodName)) (z := (⟨"com/example/kiungo/kiungo/pointer/Axis", "isReverse", "()Z"⟩ : MethodName)) hown (mvT hZ (hw _ (List.mem_of_getElem? (i := 44) rfl))) (mvT hZ (hw _ (List.mem_of_getElem? (i := 45) rfl))) (notFace_of_selects (args := #[]) (mvT hZ (hw _ (List.mem_of_getElem? (i := 63) rfl)))) (mvT hZ (hw _ (List.mem_of_getElem? (i := 63) rfl))) (mvT hZ (hw _ (List.mem_of_getElem? (i := 46) rfl))) (by decide) (backOf (W := 0) (rm1 l Z a0 hw [] a_SELF a_ANCESTOR a_ANCESTOR_OR_SELF a_PRECEDING a_PRECEDING_SIBLING h107 n0 Z107 f219 f220 f221 f222) hZ (hw _ (List.mem_of_getElem? (i := 48) rfl)) (hw _ (List.mem_of_getElem? (i := 3) rfl)) (by decide) (by decide)) q218a q218c (g := (mkF m 166 #[.val (.int x0), .val (.ref b1), .val (.ref b67), .val (.int (12 : Int32))] [(.ref a_SELF)])) rfl (by rw [hml]; rfl) (Steps.refl _) (argsL := []) (rest := []) (lenOf pd___Z rfl) rfl (by show 2 * 0 + _ ≤ _; exact Nat.le_of_eq rfl) (hb hby at_166) (fun _ _ => ⟨rfl, e107, (by decide : 2 + 0 ≤ _), (by decide : 26 + 0 ≤ _)⟩)
    dsimp only [Pt.U, Pt.locs, Pt.cells, Pt.slots] at X218 l218 y218 z218 st218 hQ218
    rw [y218, z218] at X218
    obtain ⟨hv218, Nq218, e218⟩ := hQ218
    rw [hv218] at st218
    have N218 : Fr n0 L218 := by rw [l218]; exact Fr.app N107 Nq218
    refine own_pre (B := T218.setTop (mkF m 169 #[.val (.int x0), .val (.ref b1), .val (.ref b67), .val (.int (12 : Int32))] [(.int (own_rev a_SELF a_ANCESTOR a_ANCESTOR_OR_SELF a_PRECEDING a_PRECEDING_SIBLING))])) ?_ (fun t_ k_ => st218.trans k_)
    refine own_pre (B := T218.setTop (mkF m 170 #[.val (.int x0), .val (.ref b1), .val (.ref b67), .val (.int (12 : Int32))] [(.ref b67), (.int (own_rev a_SELF a_ANCESTOR a_ANCESTOR_OR_SELF a_PRECEDING a_PRECEDING_SIBLING))])) ?_ fun t_ k_ => XS.aloadN X218.here hx rfl (hb hby at_169) rfl rfl k_
    refine own_pre (B := T218.setTop (mkF m 171 #[.val (.int x0), .val (.ref b1), .val (.ref b67), .val (.int (12 : Int32))] [(.int (12 : Int32)), (.ref b67), (.int (own_rev a_SELF a_ANCESTOR a_ANCESTOR_OR_SELF a_PRECEDING a_PRECEDING_SIBLING))])) ?_ fun t_ k_ => XS.iloadN X218.here hx rfl (hb hby at_170) rfl  k_
    obtain ⟨cl224, Ar224, q224, S224, Nn224, Hh224, Gg224⟩ := id V107
    have hin224 : ¬ ((12 : Int32) < 0 ∨ cl224.slots.size ≤ ((12 : Int32)).toNatClampNeg) := inb_of S224 ⟨by decide, by decide⟩
    have hat224 : cl224.slots[((12 : Int32)).toNatClampNeg]? = some (.int (0 : Int32)) := Hh224.at hin224 rfl
    refine own_pre (B := T218.setTop (mkF m 172 #[.val (.int x0), .val (.ref b1), .val (.ref b67), .val (.int (12 : Int32))] [(.int (0 : Int32)), (.int (own_rev a_SELF a_ANCESTOR a_ANCESTOR_OR_SELF a_PRECEDING a_PRECEDING_SIBLING))])) ?_ fun t_ k_ => X218.baloadBooleans hx (j := (12 : Int32)) (v := (.int (0 : Int32))) (by rw [e218]; exact Ar224.1) (State.isArrayOf_alike hZ.alike Ar224.2.1) Ar224.2.2 hin224 hat224 (g := (mkF m 171 #[.val (.int x0), .val (.ref b1), .val (.ref b67), .val (.int (12 : Int32))] [(.int (12 : Int32)), (.ref b67), (.int (own_rev a_SELF a_ANCESTOR a_ANCESTOR_OR_SELF a_PRECEDING a_PRECEDING_SIBLING))])) rfl rfl (hb hby at_171) t_ k_
    refine own_pre (B := T218.setTop (mkF m 175 #[.val (.int x0), .val (.ref b1), .val (.ref b67), .val (.int (12 : Int32))] [])) ?_ fun t_ k_ => XS.icmpNo X218.here hx rfl (hb hby at_172) rfl (teq (by simp [own_rev, ne_SELF_ANCESTOR, ne_SELF_ANCESTOR_OR_SELF, ne_SELF_PRECEDING, ne_SELF_PRECEDING_SIBLING])).2 k_
    refine own_pre (B := T218.setTop (mkF m 176 #[.val (.int x0), .val (.ref b1), .val (.ref b67), .val (.int (12 : Int32))] [(.int (1 : Int32))])) ?_ fun t_ k_ => XS.iconst X218.here hx rfl (hb hby at_175) k_
    refine own_pre (B := T218.setTop (mkF m 180 #[.val (.int x0), .val (.ref b1), .val (.ref b67), .val (.int (12 : Int32))] [(.int (1 : Int32))])) ?_ fun t_ k_ => XS.goto X218.here hx rfl (pc0 := 176) (pc' := 180) rfl (hb hby at_176) (by decide) (by decide) k_
    refine own_retN X218 hx hlk (t := .boolean) (z' := (1 : Int32)) Bd.returns (by simp) (hb hby at_180) (by decide) ?_ (by decide) (by decide)
    rw [e218]
    exact ⟨rfl, N218⟩
set_option maxRecDepth 65536 in
set_option maxHeartbeats 40000000 in
theorem comes_1 {Post : Tables → Env → Array Value → State → Outcome → State → Prop} (hpost : ∀ tb e args s v u, (limb_1_1.after args s (.returned v) u = true ∧ limb_1_2.after args s (.returned v) u = true ∧ True) → FrameEnd s (.returned v) u (Jvm.fieldLocs frame_1_writes args s ++ Jvm.arrayLocs frame_1_arrays args s ++ Jvm.staticLocs frame_1_statics s) 16 128 → Post tb e args s (.returned v) u) :
    ArmFor flags0 classFile x code maxLocals ret World_1 tables_1 room_1 Calls_1 rest_1 Pre_1 Post := by
  intro l hfl _ _ p e ha hc hk s m args below hf hA hF happ hP
  obtain ⟨hcalls, hrest, hpre⟩ := hP
  obtain ⟨-, -, -, hnamed, -, -, -, hat⟩ := (Spec.applies_iff hf).mp happ
  obtain ⟨hg, hn⟩ := and_e (Cond.before_iff.mp (show (Jvm.Cond.and given_1 narrow_1).before args s = true from hpre))
  obtain ⟨g1, g2⟩ := and_e hg
  obtain ⟨w0, rfl⟩ : ∃ w0 : Value, args = #[w0] := by
    have hs : args.size = 1 := by simpa [Cond.value, given_1] using g1
    obtain ⟨L⟩ := args
    match L, hs with
    | [w0], _ => exact ⟨w0, rfl⟩
  have hw := fun d (hd : d ∈ tables_1) => atoms_spec (ws := Jvm.Cond.code x code maxLocals ret :: tables_1) hat d (List.mem_cons_of_mem _ hd)
  have hfit : Fit s := fun {y c} hc i hi => by
    obtain ⟨ha, rfl⟩ := Array.getElem?_eq_some_iff.mp hc
    have q := List.all_eq_true.mp ((Array.all_eq_true_iff_forall_mem.mp hF) _ (Array.getElem_mem ha)) i (List.mem_range.mpr hi)
    simpa [Array.getElem?_eq_getElem hi] using q
  obtain ⟨i0, ei0⟩ := is_v g2
  obtain rfl : w0 = (.int i0) := Option.some.inj ei0
  obtain ⟨gn1, gn2⟩ := and_e hn
  obtain ⟨gn3, gn4⟩ := and_e gn2
  obtain ⟨gn5, gn6⟩ := and_e gn4
  obtain ⟨gn7, gn8⟩ := and_e gn6
  obtain ⟨gn9, gn10⟩ := and_e gn8
  obtain ⟨gn11, gn12⟩ := and_e gn10
  obtain ⟨gn13, gn14⟩ := and_e gn12
  obtain ⟨gn15, gn16⟩ := and_e gn14
  obtain ⟨gn17, gn18⟩ := and_e gn16
  obtain ⟨gn19, gn20⟩ := and_e gn18
  obtain ⟨gn21, gn22⟩ := and_e gn20
  obtain ⟨gn23, gn24⟩ := and_e gn22
  obtain ⟨a_ANCESTOR, ea_ANCESTOR⟩ := exa_v gn1
  have E_ANCESTOR := Exa.start ea_ANCESTOR gn1
  have S_ANCESTOR := Sta.start ea_ANCESTOR (Or.inr ⟨(hw _ (List.mem_of_getElem? (i := 3) rfl)), (hw _ (List.mem_of_getElem? (i := 4) rfl))⟩)
  obtain ⟨a_ANCESTOR_OR_SELF, ea_ANCESTOR_OR_SELF⟩ := exa_v gn3
  have E_ANCESTOR_OR_SELF := Exa.start ea_ANCESTOR_OR_SELF gn3
  have S_ANCESTOR_OR_SELF := Sta.start ea_ANCESTOR_OR_SELF (Or.inr ⟨(hw _ (List.mem_of_getElem? (i := 3) rfl)), (hw _ (List.mem_of_getElem? (i := 7) rfl))⟩)
  obtain ⟨a_ATTRIBUTE, ea_ATTRIBUTE⟩ := exa_v gn5
  have E_ATTRIBUTE := Exa.start ea_ATTRIBUTE gn5
  have S_ATTRIBUTE := Sta.start ea_ATTRIBUTE (Or.inr ⟨(hw _ (List.mem_of_getElem? (i := 3) rfl)), (hw _ (List.mem_of_getElem? (i := 10) rfl))⟩)
  obtain ⟨a_CHILD, ea_CHILD⟩ := exa_v gn7
  have E_CHILD := Exa.start ea_CHILD gn7
  have S_CHILD := Sta.start ea_CHILD (Or.inr ⟨(hw _ (List.mem_of_getElem? (i := 3) rfl)), (hw _ (List.mem_of_getElem? (i := 13) rfl))⟩)
  obtain ⟨a_DESCENDANT, ea_DESCENDANT⟩ := exa_v gn9
  have E_DESCENDANT := Exa.start ea_DESCENDANT gn9
  have S_DESCENDANT := Sta.start ea_DESCENDANT (Or.inr ⟨(hw _ (List.mem_of_getElem? (i := 3) rfl)), (hw _ (List.mem_of_getElem? (i := 16) rfl))⟩)
  obtain ⟨a_DESCENDANT_OR_SELF, ea_DESCENDANT_OR_SELF⟩ := exa_v gn11
  have E_DESCENDANT_OR_SELF := Exa.start ea_DESCENDANT_OR_SELF gn11
  have S_DESCENDANT_OR_SELF := Sta.start ea_DESCENDANT_OR_SELF (Or.inr ⟨(hw _ (List.mem_of_getElem? (i := 3) rfl)), (hw _ (List.mem_of_getElem? (i := 19) rfl))⟩)
  obtain ⟨a_FOLLOWING, ea_FOLLOWING⟩ := exa_v gn13
  have E_FOLLOWING := Exa.start ea_FOLLOWING gn13
  have S_FOLLOWING := Sta.start ea_FOLLOWING (Or.inr ⟨(hw _ (List.mem_of_getElem? (i := 3) rfl)), (hw _ (List.mem_of_getElem? (i := 22) rfl))⟩)
  obtain ⟨a_FOLLOWING_SIBLING, ea_FOLLOWING_SIBLING⟩ := exa_v gn15
  have E_FOLLOWING_SIBLING := Exa.start ea_FOLLOWING_SIBLING gn15
  have S_FOLLOWING_SIBLING := Sta.start ea_FOLLOWING_SIBLING (Or.inr ⟨(hw _ (List.mem_of_getElem? (i := 3) rfl)), (hw _ (List.mem_of_getElem? (i := 25) rfl))⟩)
  obtain ⟨a_NAMESPACE, ea_NAMESPACE⟩ := exa_v gn17
  have E_NAMESPACE := Exa.start ea_NAMESPACE gn17
  have S_NAMESPACE := Sta.start ea_NAMESPACE (Or.inr ⟨(hw _ (List.mem_of_getElem? (i := 3) rfl)), (hw _ (List.mem_of_getElem? (i := 28) rfl))⟩)
  obtain ⟨a_PARENT, ea_PARENT⟩ := exa_v gn19
  have E_PARENT := Exa.start ea_PARENT gn19
  have S_PARENT := Sta.start ea_PARENT (Or.inr ⟨(hw _ (List.mem_of_getElem? (i := 3) rfl)), (hw _ (List.mem_of_getElem? (i := 31) rfl))⟩)
  obtain ⟨a_PRECEDING, ea_PRECEDING⟩ := exa_v gn21
  have E_PRECEDING := Exa.start ea_PRECEDING gn21
  have S_PRECEDING := Sta.start ea_PRECEDING (Or.inr ⟨(hw _ (List.mem_of_getElem? (i := 3) rfl)), (hw _ (List.mem_of_getElem? (i := 34) rfl))⟩)
  obtain ⟨a_PRECEDING_SIBLING, ea_PRECEDING_SIBLING⟩ := exa_v gn23
  have E_PRECEDING_SIBLING := Exa.start ea_PRECEDING_SIBLING gn23
  have S_PRECEDING_SIBLING := Sta.start ea_PRECEDING_SIBLING (Or.inr ⟨(hw _ (List.mem_of_getElem? (i := 3) rfl)), (hw _ (List.mem_of_getElem? (i := 37) rfl))⟩)
  obtain ⟨a_SELF, ea_SELF⟩ := exa_v gn24
  have E_SELF := Exa.start ea_SELF gn24
  have S_SELF := Sta.start ea_SELF (Or.inr ⟨(hw _ (List.mem_of_getElem? (i := 3) rfl)), (hw _ (List.mem_of_getElem? (i := 40) rfl))⟩)
  obtain ⟨n, o, h1, h2, h3, _, L, rfl, ⟨rfl, N⟩, hq⟩ := rm0 l s _ hw tables_1 i0 a_ANCESTOR a_ANCESTOR_OR_SELF a_ATTRIBUTE a_CHILD a_DESCENDANT a_DESCENDANT_OR_SELF a_FOLLOWING a_FOLLOWING_SIBLING a_NAMESPACE a_PARENT a_PRECEDING a_PRECEDING_SIBLING a_SELF s.heap s.heap.size (Nat.le_refl _) S_ANCESTOR S_ANCESTOR_OR_SELF S_ATTRIBUTE S_CHILD S_DESCENDANT S_DESCENDANT_OR_SELF S_FOLLOWING S_FOLLOWING_SIBLING S_NAMESPACE S_PARENT S_PRECEDING S_PRECEDING_SIBLING S_SELF E_ANCESTOR E_ANCESTOR_OR_SELF E_ATTRIBUTE E_CHILD E_DESCENDANT E_DESCENDANT_OR_SELF E_FOLLOWING E_FOLLOWING_SIBLING E_NAMESPACE E_PARENT E_PRECEDING E_PRECEDING_SIBLING E_SELF (ne_exa E_ANCESTOR E_ANCESTOR_OR_SELF (by decide)) (ne_exa E_ANCESTOR E_PRECEDING (by decide)) (ne_exa E_ANCESTOR E_PRECEDING_SIBLING (by decide)) (ne_exa E_ANCESTOR_OR_SELF E_ANCESTOR (by decide)) (ne_exa E_ANCESTOR_OR_SELF E_PRECEDING (by decide)) (ne_exa E_ANCESTOR_OR_SELF E_PRECEDING_SIBLING (by decide)) (ne_exa E_ATTRIBUTE E_ANCESTOR (by decide)) (ne_exa E_ATTRIBUTE E_ANCESTOR_OR_SELF (by decide)) (ne_exa E_ATTRIBUTE E_PRECEDING (by decide)) (ne_exa E_ATTRIBUTE E_PRECEDING_SIBLING (by decide)) (ne_exa E_CHILD E_ANCESTOR (by decide)) (ne_exa E_CHILD E_ANCESTOR_OR_SELF (by decide)) (ne_exa E_CHILD E_PRECEDING (by decide)) (ne_exa E_CHILD E_PRECEDING_SIBLING (by decide)) (ne_exa E_DESCENDANT E_ANCESTOR (by decide)) (ne_exa E_DESCENDANT E_ANCESTOR_OR_SELF (by decide)) (ne_exa E_DESCENDANT E_PRECEDING (by decide)) (ne_exa E_DESCENDANT E_PRECEDING_SIBLING (by decide)) (ne_exa E_DESCENDANT_OR_SELF E_ANCESTOR (by decide)) (ne_exa E_DESCENDANT_OR_SELF E_ANCESTOR_OR_SELF (by decide)) (ne_exa E_DESCENDANT_OR_SELF E_PRECEDING (by decide)) (ne_exa E_DESCENDANT_OR_SELF E_PRECEDING_SIBLING (by decide)) (ne_exa E_FOLLOWING E_ANCESTOR (by decide)) (ne_exa E_FOLLOWING E_ANCESTOR_OR_SELF (by decide)) (ne_exa E_FOLLOWING E_PRECEDING (by decide)) (ne_exa E_FOLLOWING E_PRECEDING_SIBLING (by decide)) (ne_exa E_FOLLOWING_SIBLING E_ANCESTOR (by decide)) (ne_exa E_FOLLOWING_SIBLING E_ANCESTOR_OR_SELF (by decide)) (ne_exa E_FOLLOWING_SIBLING E_PRECEDING (by decide)) (ne_exa E_FOLLOWING_SIBLING E_PRECEDING_SIBLING (by decide)) (ne_exa E_NAMESPACE E_ANCESTOR (by decide)) (ne_exa E_NAMESPACE E_ANCESTOR_OR_SELF (by decide)) (ne_exa E_NAMESPACE E_PRECEDING (by decide)) (ne_exa E_NAMESPACE E_PRECEDING_SIBLING (by decide)) (ne_exa E_PARENT E_ANCESTOR (by decide)) (ne_exa E_PARENT E_ANCESTOR_OR_SELF (by decide)) (ne_exa E_PARENT E_PRECEDING (by decide)) (ne_exa E_PARENT E_PRECEDING_SIBLING (by decide)) (ne_exa E_PRECEDING E_ANCESTOR (by decide)) (ne_exa E_PRECEDING E_ANCESTOR_OR_SELF (by decide)) (ne_exa E_PRECEDING E_PRECEDING_SIBLING (by decide)) (ne_exa E_PRECEDING_SIBLING E_ANCESTOR (by decide)) (ne_exa E_PRECEDING_SIBLING E_ANCESTOR_OR_SELF (by decide)) (ne_exa E_PRECEDING_SIBLING E_PRECEDING (by decide)) (ne_exa E_SELF E_ANCESTOR (by decide)) (ne_exa E_SELF E_ANCESTOR_OR_SELF (by decide)) (ne_exa E_SELF E_PRECEDING (by decide)) (ne_exa E_SELF E_PRECEDING_SIBLING (by decide)) p e ha hc hk s m _ below hf ((Spec.applies_iff_loose hf).mp happ).1 ⟨rfl, State.Warmed39.refl s, rfl⟩ trivial
  refine ⟨n, _, h1, h2, h3, hpost _ _ _ _ _ _ ⟨Cond.after_iff.mpr rfl, Cond.after_iff.mpr (eq_i res_at (Term.int_eval (1)) rfl), trivial⟩ ⟨hq.1, hq.2.1, (hq.2.2.sift fun y hy => Or.inr (N y hy)).mono (by decide) (by decide)⟩⟩
theorem main_1_1 : Claimed_1_1 := comes_1 fun _ _ _ _ _ _ h hF => ⟨h.1, hF⟩
theorem main_1_2 : Claimed_1_2 := comes_1 fun _ _ _ _ _ _ h hF => ⟨h.2.1, hF⟩
end Jvm.Pilot.@@N@@
namespace Jvm.Pilot.@@N@@
open Jvm Jvm.ClassFile Sem Op Lib Jvm.Free Jvm.Stand Jvm.Pilot.@@N@@.Jvm.D
/-! MADE BY PROGRAM (witnessworld.py) out of the Statement's table words and the real class files: 28 classes; the members and pool entries that the words name. The judged class is class 1, her method 1. -/
namespace start1
open Jvm.ClassFile
def u (s : String) : CpInfo := .utf8 (stringToUtf16 s)
/-- a pool by its gaps: so many unusable entries, then the entry; so many at the end -/
def gap : Nat → List CpInfo → List CpInfo
  | 0, r => r
  | n + 1, r => .unusable :: gap n r
def poolList (es : List (Nat × CpInfo)) (last : Nat) : List CpInfo := es.foldr (fun e r => gap e.1 (e.2 :: r)) (gap last [])
def pool (es : List (Nat × CpInfo)) (last : Nat) : Array CpInfo := ⟨poolList es last⟩
def fileOf (pool : Array CpInfo) (this : Nat) (attrs : Array Attribute := #[]) (ms : Array MethodInfo := #[]) (fl : Nat := 33) (sup : Nat := 0) (ifs : Array Nat := #[]) (fds : Array FieldInfo := #[]) : ClassFile where
  minorVersion := 0
  majorVersion := 65
  constantPool := pool
  accessFlags := fl
  thisClass := this
  superClass := sup
  interfaces := ifs
  fields := fds
  methods := ms
  attributes := attrs
def plain (name : String) (sup : Option ClassId) : Class where
  name := name
  kind := .ordinary
  loader := none
  accessFlags := 33
  super := sup
  interfaces := #[]
  cf := none
  fields := #[]
  methods := #[]
  instanceTypes := #[]
  staticTypes := #[]
  resolved := #[]
  callSites := []
  init := .initialized
  statics := none
  mirror := none

def pool0 : Array CpInfo := pool [(5, u "<init>"), (0, u "()V"), (1, .class_ 10), (1, u "java/lang/Object")] 113

def k0m0 : Method := { name := "<init>", desc := "()V", sig := { parameters := [], returnType := none }, accessFlags := 1, code := none }
/-- java/lang/Object -/
def k0 : Class := { plain "java/lang/Object" none with
  accessFlags := 33
  interfaces := #[]
  cf := some (fileOf pool0 8 #[] #[{ accessFlags := 1, nameIndex := 5, descriptorIndex := 6, attributes := #[] }] 33 0 #[] #[])
  fields := #[]
  methods := #[k0m0]
  instanceTypes := #[]
  staticTypes := #[]
  resolved := Array.replicate 124 none
  statics := none }

def pool1 : Array CpInfo := pool [(2, .class_ 4), (1, u "java/lang/Object"), (0, u "<init>"), (0, u "()V"), (0, .class_ 8), (0, u "com/example/kiungo/kiungo/pointer/Axis"), (0, .fieldref 7 10), (0, .nameAndType 11 12), (0, u "ANCESTOR"), (0, u "Lcom/example/kiungo/kiungo/pointer/Axis;"), (0, .fieldref 7 14), (0, .nameAndType 15 12), (0, u "ANCESTOR_OR_SELF"), (0, .fieldref 7 17), (0, .nameAndType 18 12), (0, u "ATTRIBUTE"), (0, .fieldref 7 20), (0, .nameAndType 21 12), (0, u "CHILD"), (0, .fieldref 7 23), (0, .nameAndType 24 12), (0, u "DESCENDANT"), (0, .fieldref 7 26), (0, .nameAndType 27 12), (0, u "DESCENDANT_OR_SELF"), (0, .fieldref 7 29), (0, .nameAndType 30 12), (0, u "FOLLOWING"), (0, .fieldref 7 32), (0, .nameAndType 33 12), (0, u "FOLLOWING_SIBLING"), (0, .fieldref 7 35), (0, .nameAndType 36 12), (0, u "NAMESPACE"), (0, .fieldref 7 38), (0, .nameAndType 39 12), (0, u "PARENT"), (0, .fieldref 7 41), (0, .nameAndType 42 12), (0, u "PRECEDING"), (0, .fieldref 7 44), (0, .nameAndType 45 12), (0, u "PRECEDING_SIBLING"), (0, .fieldref 7 47), (0, .nameAndType 48 12), (0, u "SELF"), (0, .integer 2147483647), (0, .methodref 7 51), (0, .nameAndType 52 53), (0, u "isReverse"), (0, u "()Z"), (0, .class_ 55), (0, u "com/example/kiungo/kiungo/pointer/AxisIsReversePinLaw"), (2, u "law"), (0, u "(I)Z")] 7

def k1m0 : Method := { name := "<init>", desc := "()V", sig := { parameters := [], returnType := none }, accessFlags := 2, code := none }
def k1c1 : Code := { maxStack := 4, maxLocals := 4, code := code, exceptionTable := #[], attributes := #[] }
def k1m1 : Method := { name := "law", desc := "(I)Z", sig := { parameters := [.int], returnType := some .boolean }, accessFlags := 9, code := some k1c1 }
/-- com/example/kiungo/kiungo/pointer/AxisIsReversePinLaw -/
def k1 : Class := { plain "com/example/kiungo/kiungo/pointer/AxisIsReversePinLaw" (some 0) with
  accessFlags := 49
  interfaces := #[]
  cf := some (fileOf pool1 54 #[] #[{ accessFlags := 2, nameIndex := 5, descriptorIndex := 6, attributes := #[] }, { accessFlags := 9, nameIndex := 58, descriptorIndex := 59, attributes := #[] }] 49 2 #[] #[])
  fields := #[]
  methods := #[k1m0, k1m1]
  instanceTypes := #[]
  staticTypes := #[]
  resolved := Array.replicate 67 none
  statics := none }

def pool2 : Array CpInfo := pool [(1, .class_ 2), (0, u "java/lang/constant/Constable"), (0, .class_ 4), (0, u "java/lang/Object")] 6

/-- java/lang/constant/Constable -/
def k2 : Class := { plain "java/lang/constant/Constable" (some 0) with
  accessFlags := 1537
  interfaces := #[]
  cf := some (fileOf pool2 1 #[] #[] 1537 3 #[] #[])
  fields := #[]
  methods := #[]
  instanceTypes := #[]
  staticTypes := #[]
  resolved := Array.replicate 11 none
  statics := none }

def pool3 : Array CpInfo := pool [(1, .class_ 2), (0, u "java/lang/Comparable"), (0, .class_ 4), (0, u "java/lang/Object")] 7

/-- java/lang/Comparable -/
def k3 : Class := { plain "java/lang/Comparable" (some 0) with
  accessFlags := 1537
  interfaces := #[]
  cf := some (fileOf pool3 1 #[] #[] 1537 3 #[] #[])
  fields := #[]
  methods := #[]
  instanceTypes := #[]
  staticTypes := #[]
  resolved := Array.replicate 12 none
  statics := none }

def pool4 : Array CpInfo := pool [(1, .class_ 2), (0, u "java/io/Serializable"), (0, .class_ 4), (0, u "java/lang/Object")] 2

/-- java/io/Serializable -/
def k4 : Class := { plain "java/io/Serializable" (some 0) with
  accessFlags := 1537
  interfaces := #[]
  cf := some (fileOf pool4 1 #[] #[] 1537 3 #[] #[])
  fields := #[]
  methods := #[]
  instanceTypes := #[]
  staticTypes := #[]
  resolved := Array.replicate 7 none
  statics := none }

def pool5 : Array CpInfo := pool [(2, .class_ 4), (1, u "java/lang/Enum"), (0, u "name"), (0, u "Ljava/lang/String;"), (2, u "ordinal"), (0, u "I"), (1, .class_ 14), (1, u "java/lang/Object"), (4, u "hash"), (86, .class_ 108), (1, u "java/lang/Enum$EnumDesc"), (2, .class_ 112), (0, u "java/lang/constant/Constable"), (0, .class_ 114), (0, u "java/lang/Comparable"), (0, .class_ 116), (0, u "java/io/Serializable")] 87

/-- java/lang/Enum -/
def k5 : Class := { plain "java/lang/Enum" (some 0) with
  accessFlags := 1057
  interfaces := #[2, 3, 4]
  cf := some (fileOf pool5 2 #[.nestMembers #[106]] #[] 1057 12 #[111, 113, 115] #[{ accessFlags := 18, nameIndex := 5, descriptorIndex := 6, attributes := #[] }, { accessFlags := 18, nameIndex := 9, descriptorIndex := 10, attributes := #[] }, { accessFlags := 2, nameIndex := 19, descriptorIndex := 10, attributes := #[] }])
  fields := #[{ name := "name", type := (.object "java/lang/String"), accessFlags := 18, slot := 0, constantValue := 0 }, { name := "ordinal", type := .int, accessFlags := 18, slot := 1, constantValue := 0 }, { name := "hash", type := .int, accessFlags := 2, slot := 2, constantValue := 0 }]
  methods := #[]
  instanceTypes := #[(.object "java/lang/String"), .int, .int]
  staticTypes := #[]
  resolved := Array.replicate 204 none
  statics := none }

def pool6 : Array CpInfo := pool [(1, .class_ 2), (0, u "com/example/kiungo/kiungo/pointer/Axis"), (0, .fieldref 1 4), (0, .nameAndType 5 6), (0, u "ANCESTOR"), (0, u "Lcom/example/kiungo/kiungo/pointer/Axis;"), (0, .fieldref 1 8), (0, .nameAndType 9 6), (0, u "ANCESTOR_OR_SELF"), (2, u "ATTRIBUTE"), (2, u "CHILD"), (2, u "DESCENDANT"), (2, u "DESCENDANT_OR_SELF"), (2, u "FOLLOWING"), (2, u "FOLLOWING_SIBLING"), (2, u "NAMESPACE"), (2, u "PARENT"), (0, .fieldref 1 35), (0, .nameAndType 36 6), (0, u "PRECEDING"), (0, .fieldref 1 38), (0, .nameAndType 39 6), (0, u "PRECEDING_SIBLING"), (2, u "SELF"), (2, u "$VALUES"), (0, u "[Lcom/example/kiungo/kiungo/pointer/Axis;"), (6, .class_ 55), (1, u "java/lang/Enum"), (8, u "axisName"), (0, u "Ljava/lang/String;"), (35, .class_ 102), (0, u "com/example/kiungo/kiungo/pointer/Axis$1"), (6, .class_ 110), (0, u "com/example/kiungo/kiungo/pointer/Axis$2"), (4, .class_ 116), (0, u "com/example/kiungo/kiungo/pointer/Axis$3"), (4, .class_ 122), (0, u "com/example/kiungo/kiungo/pointer/Axis$4"), (4, .class_ 128), (0, u "com/example/kiungo/kiungo/pointer/Axis$5"), (4, .class_ 134), (0, u "com/example/kiungo/kiungo/pointer/Axis$6"), (4, .class_ 140), (0, u "com/example/kiungo/kiungo/pointer/Axis$7"), (4, .class_ 146), (0, u "com/example/kiungo/kiungo/pointer/Axis$8"), (4, .class_ 152), (0, u "com/example/kiungo/kiungo/pointer/Axis$9"), (4, .class_ 158), (0, u "com/example/kiungo/kiungo/pointer/Axis$10"), (3, .class_ 163), (0, u "com/example/kiungo/kiungo/pointer/Axis$11"), (4, .class_ 169), (0, u "com/example/kiungo/kiungo/pointer/Axis$12"), (4, .class_ 175), (0, u "com/example/kiungo/kiungo/pointer/Axis$13"), (17, u "isReverse"), (0, u "()Z")] 13

def k6c0 : Code := { maxStack := 2, maxLocals := 1, code := prog_112_method_6_code, exceptionTable := #[], attributes := #[] }
def k6m0 : Method := { name := "isReverse", desc := "()Z", sig := { parameters := [], returnType := some .boolean }, accessFlags := 0, code := some k6c0 }
/-- com/example/kiungo/kiungo/pointer/Axis -/
def k6 : Class := { plain "com/example/kiungo/kiungo/pointer/Axis" (some 5) with
  accessFlags := 17440
  interfaces := #[]
  cf := some (fileOf pool6 1 #[.nestMembers #[174, 168, 162, 157, 151, 145, 139, 133, 127, 121, 115, 109, 101]] #[{ accessFlags := 0, nameIndex := 193, descriptorIndex := 194, attributes := #[] }] 17440 53 #[] #[{ accessFlags := 16409, nameIndex := 5, descriptorIndex := 6, attributes := #[] }, { accessFlags := 16409, nameIndex := 9, descriptorIndex := 6, attributes := #[] }, { accessFlags := 16409, nameIndex := 12, descriptorIndex := 6, attributes := #[] }, { accessFlags := 16409, nameIndex := 15, descriptorIndex := 6, attributes := #[] }, { accessFlags := 16409, nameIndex := 18, descriptorIndex := 6, attributes := #[] }, { accessFlags := 16409, nameIndex := 21, descriptorIndex := 6, attributes := #[] }, { accessFlags := 16409, nameIndex := 24, descriptorIndex := 6, attributes := #[] }, { accessFlags := 16409, nameIndex := 27, descriptorIndex := 6, attributes := #[] }, { accessFlags := 16409, nameIndex := 30, descriptorIndex := 6, attributes := #[] }, { accessFlags := 16409, nameIndex := 33, descriptorIndex := 6, attributes := #[] }, { accessFlags := 16409, nameIndex := 36, descriptorIndex := 6, attributes := #[] }, { accessFlags := 16409, nameIndex := 39, descriptorIndex := 6, attributes := #[] }, { accessFlags := 16409, nameIndex := 42, descriptorIndex := 6, attributes := #[] }, { accessFlags := 18, nameIndex := 64, descriptorIndex := 65, attributes := #[] }, { accessFlags := 4122, nameIndex := 45, descriptorIndex := 46, attributes := #[] }])
  fields := #[{ name := "ANCESTOR", type := (.object "com/example/kiungo/kiungo/pointer/Axis"), accessFlags := 16409, slot := 0, constantValue := 0 }, { name := "ANCESTOR_OR_SELF", type := (.object "com/example/kiungo/kiungo/pointer/Axis"), accessFlags := 16409, slot := 1, constantValue := 0 }, { name := "ATTRIBUTE", type := (.object "com/example/kiungo/kiungo/pointer/Axis"), accessFlags := 16409, slot := 2, constantValue := 0 }, { name := "CHILD", type := (.object "com/example/kiungo/kiungo/pointer/Axis"), accessFlags := 16409, slot := 3, constantValue := 0 }, { name := "DESCENDANT", type := (.object "com/example/kiungo/kiungo/pointer/Axis"), accessFlags := 16409, slot := 4, constantValue := 0 }, { name := "DESCENDANT_OR_SELF", type := (.object "com/example/kiungo/kiungo/pointer/Axis"), accessFlags := 16409, slot := 5, constantValue := 0 }, { name := "FOLLOWING", type := (.object "com/example/kiungo/kiungo/pointer/Axis"), accessFlags := 16409, slot := 6, constantValue := 0 }, { name := "FOLLOWING_SIBLING", type := (.object "com/example/kiungo/kiungo/pointer/Axis"), accessFlags := 16409, slot := 7, constantValue := 0 }, { name := "NAMESPACE", type := (.object "com/example/kiungo/kiungo/pointer/Axis"), accessFlags := 16409, slot := 8, constantValue := 0 }, { name := "PARENT", type := (.object "com/example/kiungo/kiungo/pointer/Axis"), accessFlags := 16409, slot := 9, constantValue := 0 }, { name := "PRECEDING", type := (.object "com/example/kiungo/kiungo/pointer/Axis"), accessFlags := 16409, slot := 10, constantValue := 0 }, { name := "PRECEDING_SIBLING", type := (.object "com/example/kiungo/kiungo/pointer/Axis"), accessFlags := 16409, slot := 11, constantValue := 0 }, { name := "SELF", type := (.object "com/example/kiungo/kiungo/pointer/Axis"), accessFlags := 16409, slot := 12, constantValue := 0 }, { name := "axisName", type := (.object "java/lang/String"), accessFlags := 18, slot := 3, constantValue := 0 }, { name := "$VALUES", type := (.array (.object "com/example/kiungo/kiungo/pointer/Axis")), accessFlags := 4122, slot := 13, constantValue := 0 }]
  methods := #[k6m0]
  instanceTypes := #[(.object "java/lang/String"), .int, .int, (.object "java/lang/String")]
  staticTypes := #[(.object "com/example/kiungo/kiungo/pointer/Axis"), (.object "com/example/kiungo/kiungo/pointer/Axis"), (.object "com/example/kiungo/kiungo/pointer/Axis"), (.object "com/example/kiungo/kiungo/pointer/Axis"), (.object "com/example/kiungo/kiungo/pointer/Axis"), (.object "com/example/kiungo/kiungo/pointer/Axis"), (.object "com/example/kiungo/kiungo/pointer/Axis"), (.object "com/example/kiungo/kiungo/pointer/Axis"), (.object "com/example/kiungo/kiungo/pointer/Axis"), (.object "com/example/kiungo/kiungo/pointer/Axis"), (.object "com/example/kiungo/kiungo/pointer/Axis"), (.object "com/example/kiungo/kiungo/pointer/Axis"), (.object "com/example/kiungo/kiungo/pointer/Axis"), (.array (.object "com/example/kiungo/kiungo/pointer/Axis"))]
  resolved := Array.replicate 208 none
  statics := some 0 }

def pool7 : Array CpInfo := pool [(2, .class_ 4), (1, u "com/example/kiungo/kiungo/pointer/Axis"), (3, .class_ 10), (1, u "com/example/kiungo/kiungo/pointer/Axis$1")] 11

/-- com/example/kiungo/kiungo/pointer/Axis$1 -/
def k7 : Class := { plain "com/example/kiungo/kiungo/pointer/Axis$1" (some 6) with
  accessFlags := 16432
  interfaces := #[]
  cf := some (fileOf pool7 8 #[.nestHost 2] #[] 16432 2 #[] #[])
  fields := #[]
  methods := #[]
  instanceTypes := #[(.object "java/lang/String"), .int, .int, (.object "java/lang/String")]
  staticTypes := #[]
  resolved := Array.replicate 22 none
  statics := none }

def pool8 : Array CpInfo := pool [(2, .class_ 4), (1, u "com/example/kiungo/kiungo/pointer/Axis"), (9, .class_ 16), (1, u "com/example/kiungo/kiungo/pointer/Axis$2")] 12

/-- com/example/kiungo/kiungo/pointer/Axis$2 -/
def k8 : Class := { plain "com/example/kiungo/kiungo/pointer/Axis$2" (some 6) with
  accessFlags := 16432
  interfaces := #[]
  cf := some (fileOf pool8 14 #[.nestHost 2] #[] 16432 2 #[] #[])
  fields := #[]
  methods := #[]
  instanceTypes := #[(.object "java/lang/String"), .int, .int, (.object "java/lang/String")]
  staticTypes := #[]
  resolved := Array.replicate 29 none
  statics := none }

def pool9 : Array CpInfo := pool [(2, .class_ 4), (1, u "com/example/kiungo/kiungo/pointer/Axis"), (32, .class_ 38), (0, u "com/example/kiungo/kiungo/pointer/Axis$3")] 11

/-- com/example/kiungo/kiungo/pointer/Axis$3 -/
def k9 : Class := { plain "com/example/kiungo/kiungo/pointer/Axis$3" (some 6) with
  accessFlags := 16432
  interfaces := #[]
  cf := some (fileOf pool9 37 #[.nestHost 2] #[] 16432 2 #[] #[])
  fields := #[]
  methods := #[]
  instanceTypes := #[(.object "java/lang/String"), .int, .int, (.object "java/lang/String")]
  staticTypes := #[]
  resolved := Array.replicate 50 none
  statics := none }

def pool10 : Array CpInfo := pool [(2, .class_ 4), (1, u "com/example/kiungo/kiungo/pointer/Axis"), (30, .class_ 36), (0, u "com/example/kiungo/kiungo/pointer/Axis$4")] 11

/-- com/example/kiungo/kiungo/pointer/Axis$4 -/
def k10 : Class := { plain "com/example/kiungo/kiungo/pointer/Axis$4" (some 6) with
  accessFlags := 16432
  interfaces := #[]
  cf := some (fileOf pool10 35 #[.nestHost 2] #[] 16432 2 #[] #[])
  fields := #[]
  methods := #[]
  instanceTypes := #[(.object "java/lang/String"), .int, .int, (.object "java/lang/String")]
  staticTypes := #[]
  resolved := Array.replicate 48 none
  statics := none }

def pool11 : Array CpInfo := pool [(2, .class_ 4), (1, u "com/example/kiungo/kiungo/pointer/Axis"), (18, .class_ 24), (0, u "com/example/kiungo/kiungo/pointer/Axis$5")] 33

/-- com/example/kiungo/kiungo/pointer/Axis$5 -/
def k11 : Class := { plain "com/example/kiungo/kiungo/pointer/Axis$5" (some 6) with
  accessFlags := 16432
  interfaces := #[]
  cf := some (fileOf pool11 23 #[.nestHost 2] #[] 16432 2 #[] #[])
  fields := #[]
  methods := #[]
  instanceTypes := #[(.object "java/lang/String"), .int, .int, (.object "java/lang/String")]
  staticTypes := #[]
  resolved := Array.replicate 58 none
  statics := none }

def pool12 : Array CpInfo := pool [(2, .class_ 4), (1, u "com/example/kiungo/kiungo/pointer/Axis"), (24, .class_ 30), (0, u "com/example/kiungo/kiungo/pointer/Axis$6")] 28

/-- com/example/kiungo/kiungo/pointer/Axis$6 -/
def k12 : Class := { plain "com/example/kiungo/kiungo/pointer/Axis$6" (some 6) with
  accessFlags := 16432
  interfaces := #[]
  cf := some (fileOf pool12 29 #[.nestHost 2] #[] 16432 2 #[] #[])
  fields := #[]
  methods := #[]
  instanceTypes := #[(.object "java/lang/String"), .int, .int, (.object "java/lang/String")]
  staticTypes := #[]
  resolved := Array.replicate 59 none
  statics := none }

def pool13 : Array CpInfo := pool [(2, .class_ 4), (1, u "com/example/kiungo/kiungo/pointer/Axis"), (57, .class_ 63), (0, u "com/example/kiungo/kiungo/pointer/Axis$7")] 28

/-- com/example/kiungo/kiungo/pointer/Axis$7 -/
def k13 : Class := { plain "com/example/kiungo/kiungo/pointer/Axis$7" (some 6) with
  accessFlags := 16432
  interfaces := #[]
  cf := some (fileOf pool13 62 #[.nestHost 2] #[] 16432 2 #[] #[])
  fields := #[]
  methods := #[]
  instanceTypes := #[(.object "java/lang/String"), .int, .int, (.object "java/lang/String")]
  staticTypes := #[]
  resolved := Array.replicate 92 none
  statics := none }

def pool14 : Array CpInfo := pool [(2, .class_ 4), (1, u "com/example/kiungo/kiungo/pointer/Axis"), (36, .class_ 42), (0, u "com/example/kiungo/kiungo/pointer/Axis$8")] 11

/-- com/example/kiungo/kiungo/pointer/Axis$8 -/
def k14 : Class := { plain "com/example/kiungo/kiungo/pointer/Axis$8" (some 6) with
  accessFlags := 16432
  interfaces := #[]
  cf := some (fileOf pool14 41 #[.nestHost 2] #[] 16432 2 #[] #[])
  fields := #[]
  methods := #[]
  instanceTypes := #[(.object "java/lang/String"), .int, .int, (.object "java/lang/String")]
  staticTypes := #[]
  resolved := Array.replicate 54 none
  statics := none }

def pool15 : Array CpInfo := pool [(2, .class_ 4), (1, u "com/example/kiungo/kiungo/pointer/Axis"), (32, .class_ 38), (0, u "com/example/kiungo/kiungo/pointer/Axis$9")] 11

/-- com/example/kiungo/kiungo/pointer/Axis$9 -/
def k15 : Class := { plain "com/example/kiungo/kiungo/pointer/Axis$9" (some 6) with
  accessFlags := 16432
  interfaces := #[]
  cf := some (fileOf pool15 37 #[.nestHost 2] #[] 16432 2 #[] #[])
  fields := #[]
  methods := #[]
  instanceTypes := #[(.object "java/lang/String"), .int, .int, (.object "java/lang/String")]
  staticTypes := #[]
  resolved := Array.replicate 50 none
  statics := none }

def pool16 : Array CpInfo := pool [(2, .class_ 4), (1, u "com/example/kiungo/kiungo/pointer/Axis"), (12, .class_ 18), (0, u "com/example/kiungo/kiungo/pointer/Axis$10")] 13

/-- com/example/kiungo/kiungo/pointer/Axis$10 -/
def k16 : Class := { plain "com/example/kiungo/kiungo/pointer/Axis$10" (some 6) with
  accessFlags := 16432
  interfaces := #[]
  cf := some (fileOf pool16 17 #[.nestHost 2] #[] 16432 2 #[] #[])
  fields := #[]
  methods := #[]
  instanceTypes := #[(.object "java/lang/String"), .int, .int, (.object "java/lang/String")]
  staticTypes := #[]
  resolved := Array.replicate 32 none
  statics := none }

def pool17 : Array CpInfo := pool [(2, .class_ 4), (1, u "com/example/kiungo/kiungo/pointer/Axis"), (57, .class_ 63), (0, u "com/example/kiungo/kiungo/pointer/Axis$11")] 30

/-- com/example/kiungo/kiungo/pointer/Axis$11 -/
def k17 : Class := { plain "com/example/kiungo/kiungo/pointer/Axis$11" (some 6) with
  accessFlags := 16432
  interfaces := #[]
  cf := some (fileOf pool17 62 #[.nestHost 2] #[] 16432 2 #[] #[])
  fields := #[]
  methods := #[]
  instanceTypes := #[(.object "java/lang/String"), .int, .int, (.object "java/lang/String")]
  staticTypes := #[]
  resolved := Array.replicate 94 none
  statics := none }

def pool18 : Array CpInfo := pool [(2, .class_ 4), (1, u "com/example/kiungo/kiungo/pointer/Axis"), (32, .class_ 38), (0, u "com/example/kiungo/kiungo/pointer/Axis$12")] 11

/-- com/example/kiungo/kiungo/pointer/Axis$12 -/
def k18 : Class := { plain "com/example/kiungo/kiungo/pointer/Axis$12" (some 6) with
  accessFlags := 16432
  interfaces := #[]
  cf := some (fileOf pool18 37 #[.nestHost 2] #[] 16432 2 #[] #[])
  fields := #[]
  methods := #[]
  instanceTypes := #[(.object "java/lang/String"), .int, .int, (.object "java/lang/String")]
  staticTypes := #[]
  resolved := Array.replicate 50 none
  statics := none }

def pool19 : Array CpInfo := pool [(2, .class_ 4), (1, u "com/example/kiungo/kiungo/pointer/Axis"), (8, .class_ 14), (0, u "com/example/kiungo/kiungo/pointer/Axis$13")] 10

/-- com/example/kiungo/kiungo/pointer/Axis$13 -/
def k19 : Class := { plain "com/example/kiungo/kiungo/pointer/Axis$13" (some 6) with
  accessFlags := 16432
  interfaces := #[]
  cf := some (fileOf pool19 13 #[.nestHost 2] #[] 16432 2 #[] #[])
  fields := #[]
  methods := #[]
  instanceTypes := #[(.object "java/lang/String"), .int, .int, (.object "java/lang/String")]
  staticTypes := #[]
  resolved := Array.replicate 25 none
  statics := none }

def pool20 : Array CpInfo := pool [(1, u "java/lang/Cloneable"), (0, .class_ 1), (0, u "java/lang/Object"), (0, .class_ 3)] 3

/-- java/lang/Cloneable -/
def k20 : Class := { plain "java/lang/Cloneable" (some 0) with
  accessFlags := 1537
  interfaces := #[]
  cf := some (fileOf pool20 2 #[] #[] 1537 4 #[] #[])
  fields := #[]
  methods := #[]
  instanceTypes := #[]
  staticTypes := #[]
  resolved := Array.replicate 8 none
  statics := none }

/-- the primitive boolean -/
def k21 : Class := { plain "boolean" none with kind := .primitive 'Z', accessFlags := 0x411 }
/-- [Z -/
def k22 : Class := { plain "[Z" (some 0) with kind := .array 21 .boolean, interfaces := #[20, 4], accessFlags := 1041 }

/-- the primitive byte -/
def k23 : Class := { plain "byte" none with kind := .primitive 'B', accessFlags := 0x411 }
/-- [B -/
def k24 : Class := { plain "[B" (some 0) with kind := .array 23 .byte, interfaces := #[20, 4], accessFlags := 1041 }

/-- the primitive int -/
def k25 : Class := { plain "int" none with kind := .primitive 'I', accessFlags := 0x411 }
/-- [I -/
def k26 : Class := { plain "[I" (some 0) with kind := .array 25 .int, interfaces := #[20, 4], accessFlags := 1041 }

/-- [Lcom/example/kiungo/kiungo/pointer/Axis; -/
def k27 : Class := { plain "[Lcom/example/kiungo/kiungo/pointer/Axis;" (some 0) with kind := .array 6 (.object "com/example/kiungo/kiungo/pointer/Axis"), interfaces := #[20, 4], accessFlags := 1041 }

def heap : Heap := #[{ cls := 6, slots := #[.ref 1, .ref 2, .ref 3, .ref 4, .ref 5, .ref 6, .ref 7, .ref 8, .ref 9, .ref 10, .ref 11, .ref 12, .ref 13, .null], vm := .statics 6 },
  { cls := 7, slots := #[.null, .int 0, .int 0, .null], vm := .none },
  { cls := 8, slots := #[.null, .int 1, .int 0, .null], vm := .none },
  { cls := 9, slots := #[.null, .int 2, .int 0, .null], vm := .none },
  { cls := 10, slots := #[.null, .int 3, .int 0, .null], vm := .none },
  { cls := 11, slots := #[.null, .int 4, .int 0, .null], vm := .none },
  { cls := 12, slots := #[.null, .int 5, .int 0, .null], vm := .none },
  { cls := 13, slots := #[.null, .int 6, .int 0, .null], vm := .none },
  { cls := 14, slots := #[.null, .int 7, .int 0, .null], vm := .none },
  { cls := 15, slots := #[.null, .int 8, .int 0, .null], vm := .none },
  { cls := 16, slots := #[.null, .int 9, .int 0, .null], vm := .none },
  { cls := 17, slots := #[.null, .int 10, .int 0, .null], vm := .none },
  { cls := 18, slots := #[.null, .int 11, .int 0, .null], vm := .none },
  { cls := 19, slots := #[.null, .int 12, .int 0, .null], vm := .none }]
def classes : Array Class := #[k0, k1, k2, k3, k4, k5, k6, k7, k8, k9, k10, k11, k12, k13, k14, k15, k16, k17, k18, k19, k20, k21, k22, k23, k24, k25, k26, k27]
def interned : List (Array UInt16 × Addr) := []
def slotsUsed : Nat := 66
def theMethod : MethodId := ⟨1, 1⟩
def args0 : Array Value := #[.int 1]
def aboutOver (below : List Frame) : State where
  vm := { classes := classes, interned := interned.toArray }
  heap := heap
  slotsUsed := slotsUsed
  threads := #[{ frames := .invoking theMethod args0 :: below }]
def below0 : List Frame := [.native { method := ⟨0, 0⟩, args := #[] }]
def about1 : State := aboutOver below0
def p0 : Program := .bare "" "" ""
def e0 : Env := launch0.env 0 0 0
theorem w_frames : about1.frames = Frame.invoking theMethod args0 :: below0 := rfl
set_option maxRecDepth 65536 in
theorem w_args : argsFit about1.vm theMethod args0 = true := by decide +kernel
set_option maxRecDepth 65536 in
theorem w_heap : heapFits about1 = true := by decide +kernel
set_option maxRecDepth 65536 in
theorem w_runnable : about1.curStatus? = some .runnable := by decide +kernel
set_option maxRecDepth 65536 in
theorem w_alone : about1.alone = true := by decide +kernel
set_option maxRecDepth 65536 in
theorem w_named : about1.methodNamed? x = some theMethod := by decide +kernel
set_option maxRecDepth 65536 in
theorem w_hears : about1.hears theMethod below0 = true := by decide +kernel
set_option maxRecDepth 65536 in
theorem w_ripe : about1.ripe theMethod args0 below0 = true := by decide +kernel
theorem w_running : about1.status = .running := rfl
set_option maxRecDepth 65536 in
theorem w_room : about1.hasRoom e0.platform room_1 = true :=
  launch0.hasRoom_least _ room_1 (by decide +kernel) (by decide +kernel) (by decide +kernel) (by decide +kernel) (by decide +kernel) (by decide +kernel)
theorem allAtoms_all (ts : List Jvm.Cond) (a : Array Jvm.Value) (st : Jvm.State) : (allAtoms ts).before a st = ts.all (fun c => c.before a st) := by
  induction ts with
  | nil => rfl
  | cons c t ih =>
    show (Jvm.Cond.and c (allAtoms t)).before a st = _
    rw [Jvm.Cond.before_and, ih, List.all_cons]
def words1 : List Jvm.Cond := Jvm.Cond.code x code maxLocals ret :: tables_1
/-- a 'code' word, met by the world's own term for the bytes: nothing is compared byte by byte -/
theorem code_word {y : MethodName} {bytes : ByteArray} {mx : Nat} {rt : Option FieldType} {a : Array Value} {s : State} {m : MethodId} {meth : Method} {c : Code} (h1 : s.methodNamed? y = some m) (h2 : s.vm.method? m = some meth) (h3 : meth.code = some c) (h4 : c.code = bytes)
    (h5 : (c.maxLocals == mx && c.exceptionTable.isEmpty && decide (c.maxStack ≤ mostOperands) && decide (meth.sig.returnType = rt) && !meth.locks && decide (parseMethodDescriptor y.desc = some meth.sig)) = true) : (Jvm.Cond.code y bytes mx rt).before a s = true := by
  simp only [Bool.and_eq_true, beq_iff_eq, Bool.not_eq_true', decide_eq_true_eq] at h5
  obtain ⟨⟨⟨⟨⟨g1, g2⟩, g3⟩, g4⟩, g5⟩, g6⟩ := h5
  simp [Cond.before, Cond.holds, Cond.value, h1, h2, h3, h4, g1, g2, g3, g4, g5, g6]
def isCode : Jvm.Cond → Bool
  | .code _ _ _ _ => true
  | _ => false
theorem all_split {L : List Jvm.Cond} {P : Jvm.Cond → Bool} (h1 : L.all (fun c => isCode c || P c) = true) (h2 : ∀ c ∈ L.filter isCode, P c = true) : L.all P = true := by
  refine List.all_eq_true.mpr fun c hc => ?_
  have h := List.all_eq_true.mp h1 c hc
  rcases Bool.eq_false_or_eq_true (isCode c) with hi | hi
  · exact h2 c (List.mem_filter.mpr ⟨hc, hi⟩)
  · simpa [hi] using h
set_option maxRecDepth 65536 in
theorem w_c0 : (Jvm.Cond.code x code maxLocals ret).before args0 about1 = true := code_word (m := ⟨1, 1⟩) (meth := k1m1) (c := k1c1) (by decide +kernel) rfl rfl rfl (by decide +kernel)
set_option maxRecDepth 65536 in
theorem w_c1 : (Jvm.Cond.code ({ cls := "com/example/kiungo/kiungo/pointer/Axis", name := "isReverse", desc := "()Z" } : Jvm.MethodName) prog_112_method_6_code (1 : Nat) (Option.some Jvm.ClassFile.FieldType.boolean)).before args0 about1 = true := code_word (m := ⟨6, 0⟩) (meth := k6m0) (c := k6c0) (by decide +kernel) rfl rfl rfl (by decide +kernel)
def codes1 : List Jvm.Cond := [Jvm.Cond.code x code maxLocals ret, Jvm.Cond.code ({ cls := "com/example/kiungo/kiungo/pointer/Axis", name := "isReverse", desc := "()Z" } : Jvm.MethodName) prog_112_method_6_code (1 : Nat) (Option.some Jvm.ClassFile.FieldType.boolean)]
set_option maxRecDepth 65536 in
theorem codes_eq : words1.filter isCode = codes1 := rfl
theorem w_codes : ∀ c ∈ words1.filter isCode, c.before args0 about1 = true := by
  rw [codes_eq]
  intro c hc
  simp only [codes1, List.mem_cons, List.not_mem_nil, or_false] at hc
  rcases hc with rfl | rfl
  · exact w_c0
  · exact w_c1
set_option maxRecDepth 65536 in
theorem w_t1 : (words1.take 24).all (fun c => isCode c || c.before args0 about1) = true := by decide +kernel
set_option maxRecDepth 65536 in
theorem w_t2 : ((words1.drop 24).take 24).all (fun c => isCode c || c.before args0 about1) = true := by decide +kernel
set_option maxRecDepth 65536 in
theorem w_t3 : ((words1.drop 24).drop 24).all (fun c => isCode c || c.before args0 about1) = true := by decide +kernel
theorem w_tables : (allAtoms (Jvm.Cond.code x code maxLocals ret :: tables_1)).before args0 about1 = true := by
  rw [allAtoms_all]
  show words1.all (fun c => c.before args0 about1) = true
  refine all_split ?_ w_codes
  rw [← List.take_append_drop 24 words1, List.all_append, w_t1, ← List.take_append_drop 24 (words1.drop 24), List.all_append, w_t2, w_t3]
  rfl
set_option maxRecDepth 65536 in
theorem w_case : (Jvm.Cond.and given_1 narrow_1).before args0 about1 = true := by decide +kernel
theorem w_applies : (headSpec (Jvm.Cond.code x code maxLocals ret :: tables_1) room_1).applies x e0.platform about1 = true :=
  (Spec.applies_iff w_frames).mpr ⟨w_running, w_runnable, w_alone, w_named, w_hears, w_ripe, w_room, w_tables⟩
theorem atStart : AtStart classFile x code maxLocals ret World_1 tables_1 room_1 Calls_1 rest_1 Pre_1 launch0 p0 e0 about1 theMethod args0 below0 :=
  ⟨lists_1, trivial, launch0.admits_env _ _ _, launch0.least_env, fairChoices_fair.cas, fairChoices_fair.clock, w_frames, w_args, w_heap, w_applies, trivial, trivial, w_case⟩
end start1
theorem witness_1 : WitnessClaimed_1 := ⟨start1.p0, start1.e0, start1.about1, start1.theMethod, start1.args0, start1.below0, start1.atStart⟩
end Jvm.Pilot.@@N@@
