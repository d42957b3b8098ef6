import JvmDerived
import JvmDerived.Pilot.@@N@@Statement
import JvmDerived.Pilot.@@N@@Code
set_option linter.unusedVariables false
set_option linter.unusedSimpArgs false
namespace Jvm.Pilot.@@N@@
open Jvm Jvm.ClassFile Sem Op Lib Jvm.Free Jvm.Stand Jvm.LawKit Jvm.RoadKit Bundle Jvm.Pilot.@@N@@.Jvm.D
section Own
variable {p : Program} {l : Launch} {e : Env} {R : Room} {s : State} {m : MethodId} {args : Array Value} {below : List Frame} {meth : Method} {c : Code} {T : State} {locs : List Loc} {cells slots : Nat} {Z : State} {a0 : Array Value} {h : Heap}
/-- from the state A the body ends as Q says, with at most C cells and S slots made -/
def own_E (p : Program) (e : Env) (below : List Frame) (s : State) (Q : Option Value → Heap → List Loc → Prop) (C S : Nat) (A : State) : Prop :=
  ∃ s₂ o, Steps p.tables e below A s₂ ∧ s₂.status = .running ∧ Ended s₂ below o ∧ ∃ v L, o = .returned v ∧ Q v s₂.heap L ∧ FrameEnd s o s₂ L C S
theorem own_pre {Q : Option Value → Heap → List Loc → Prop} {C S : Nat} {A B : State} (h : own_E p e below s Q C S B) (k : ∀ t, Steps p.tables e below B t → Steps p.tables e below A t) : own_E p e below s Q C S A := by
  obtain ⟨s₂, o, h1, h2⟩ := h
  exact ⟨s₂, o, k _ h1, h2⟩
theorem own_out {Q : Option Value → Heap → List Loc → Prop} {C S : Nat} {A : State} (X : Stand p l e R s m args below meth c T locs cells slots) (hk : meth.locks = false) {v : Option Value} (hv : meth.sig.returnType = none → v = none)
    (st : ∀ fs, (∀ (f : JFrame) (acts : List Action), f.method = m → f.locked = none → f.entered = [] → (doReturn e (T.setTop f) acts v).1 = T.setFrames fs) → Steps p.tables e below A (T.setFrames fs))
    (hQ : Q v T.heap locs) (hc : cells ≤ C) (hs : slots ≤ S) : own_E p e below s Q C S A := by
  obtain ⟨fs, hr, hrun, hended, hW, hsame⟩ := X.leave (v := v) hv hk
  exact ⟨_, _, st fs hr, hrun, hended, _, _, rfl, hQ, ⟨_, rfl⟩, hW, hsame.mono hc hs⟩
theorem own_retN {Q : Option Value → Heap → List Loc → Prop} {C S : Nat} (X : Stand p l e R s m args below meth c T locs cells slots) (hx : p.tables.exec = Jvm.exec) (hk : meth.locks = false) {t : FieldType} {pc : Nat} {Ls : Array Slot} {z z' : Int32} {rest : List Value} (hret : meth.sig.returnType = some t) (ht : t = .boolean ∨ t = .byte ∨ t = .char ∨ t = .short) (hd : decode c.code pc = .ok (.ireturn, 1)) (hn : nar t z = z')
    (hQ : Q (some (.int z')) T.heap locs) (hc : cells ≤ C) (hs : slots ≤ S) : own_E p e below s Q C S (T.setTop (mkF m pc Ls (.int z :: rest))) := by
  subst hn
  exact own_out X hk (fun h => by rw [hret] at h; cases h) (fun fs hr => retN X hx hret ht hd hr) hQ hc hs
theorem own_retI {Q : Option Value → Heap → List Loc → Prop} {C S : Nat} (X : Stand p l e R s m args below meth c T locs cells slots) (hx : p.tables.exec = Jvm.exec) (hk : meth.locks = false) {pc : Nat} {Ls : Array Slot} {z : Int32} {rest : List Value} (hret : meth.sig.returnType = some .int) (hd : decode c.code pc = .ok (.ireturn, 1))
    (hQ : Q (some (.int z)) T.heap locs) (hc : cells ≤ C) (hs : slots ≤ S) : own_E p e below s Q C S (T.setTop (mkF m pc Ls (.int z :: rest))) :=
  own_out X hk (fun h => by rw [hret] at h; cases h) (fun fs hr => retOut X hx hret rfl (Or.inl ⟨rfl, Or.inl rfl, z, rfl⟩) hd hr) hQ hc hs
theorem own_retJ {Q : Option Value → Heap → List Loc → Prop} {C S : Nat} (X : Stand p l e R s m args below meth c T locs cells slots) (hx : p.tables.exec = Jvm.exec) (hk : meth.locks = false) {pc : Nat} {Ls : Array Slot} {z : Int64} {rest : List Value} (hret : meth.sig.returnType = some .long) (hd : decode c.code pc = .ok (.lreturn, 1))
    (hQ : Q (some (.long z)) T.heap locs) (hc : cells ≤ C) (hs : slots ≤ S) : own_E p e below s Q C S (T.setTop (mkF m pc Ls (.long z :: rest))) :=
  own_out X hk (fun h => by rw [hret] at h; cases h) (fun fs hr => retOut X hx hret rfl (Or.inr (Or.inl ⟨rfl, rfl, z, rfl⟩)) hd hr) hQ hc hs
theorem own_nar_ref {t : FieldType} {w : Value} (hw : w.isRef = true) (ht : t.isReference = true) : narrow t w = w := by
  rcases ref_cases hw with rfl | ⟨z, rfl⟩ <;> cases t <;> first | rfl | (cases ht; done)
theorem own_fit_ref {t : FieldType} {w : Value} (hw : w.isRef = true) (ht : t.isReference = true) : fits t w = true := by
  rcases ref_cases hw with rfl | ⟨z, rfl⟩ <;> cases t <;> first | rfl | (cases ht; done)
theorem own_retA {Q : Option Value → Heap → List Loc → Prop} {C S : Nat} (X : Stand p l e R s m args below meth c T locs cells slots) (hx : p.tables.exec = Jvm.exec) (hk : meth.locks = false) {t : FieldType} {pc : Nat} {Ls : Array Slot} {w : Value} {rest : List Value} (hret : meth.sig.returnType = some t) (ht : t.isReference = true) (hw : w.isRef = true) (hd : decode c.code pc = .ok (.areturn, 1))
    (hQ : Q (some w) T.heap locs) (hc : cells ≤ C) (hs : slots ≤ S) : own_E p e below s Q C S (T.setTop (mkF m pc Ls (w :: rest))) :=
  own_out X hk (fun h => by rw [hret] at h; cases h) (fun fs hr => retOut X hx hret (own_nar_ref hw ht) (Or.inr (Or.inr (Or.inr (Or.inr ⟨rfl, ht, hw⟩)))) hd hr) hQ hc hs
theorem own_retV {Q : Option Value → Heap → List Loc → Prop} {C S : Nat} (X : Stand p l e R s m args below meth c T locs cells slots) (hx : p.tables.exec = Jvm.exec) (hk : meth.locks = false) {pc : Nat} {Ls : Array Slot} (hret : meth.sig.returnType = none) (hd : decode c.code pc = .ok (.return_, 1))
    (hQ : Q none T.heap locs) (hc : cells ≤ C) (hs : slots ≤ S) : own_E p e below s Q C S (T.setTop (mkF m pc Ls [])) :=
  own_out X hk (fun _ => rfl) (fun fs hr => X.returnOut hx hret hd hr) hQ hc hs
theorem own_lrem {g : JFrame} {target : State} (X : Stand p l e R s m args below meth c T locs cells slots) (hx : p.tables.exec = Jvm.exec) (hg : g.method = m) {x y : Int64} {rest : List Value} (hd : decode c.code g.pc = .ok (.lrem, 1)) (hs : g.stack = .long y :: .long x :: rest) (hy : y ≠ 0)
    (hr : Steps p.tables e below (T.setTop { g with pc := g.pc + 1, stack := .long (x % y) :: rest }) target) : Steps p.tables e below (T.setTop g) target :=
  XS.lrem X.here hx hg hd hs hy (by rw [lrem_mod]; exact hr)
end Own
def own_in (x a b : Int32) : Int32 := if x < a then 0 else if b < x then 0 else 1
theorem own_in0 (x a b : Int32) : own_in x a b = 0 ↔ (x < a ∨ b < x) := by
  unfold own_in
  by_cases h1 : x < a <;> by_cases h2 : b < x <;> simp [h1, h2]
def own_nc (x0 : Int32) : Int32 := if ¬ x0 < (97 : Int32) ∧ ¬ (122 : Int32) < x0 then 1 else if ¬ x0 < (65 : Int32) ∧ ¬ (90 : Int32) < x0 then 1 else if x0 = (95 : Int32) then 1 else if ¬ x0 < (192 : Int32) ∧ ¬ (214 : Int32) < x0 then 1 else if ¬ x0 < (216 : Int32) ∧ ¬ (246 : Int32) < x0 then 1 else if ¬ x0 < (248 : Int32) ∧ ¬ (767 : Int32) < x0 then 1 else if ¬ x0 < (880 : Int32) ∧ ¬ (893 : Int32) < x0 then 1 else if ¬ x0 < (895 : Int32) ∧ ¬ (8191 : Int32) < x0 then 1 else if ¬ x0 < (8204 : Int32) ∧ ¬ (8205 : Int32) < x0 then 1 else if ¬ x0 < (8304 : Int32) ∧ ¬ (8591 : Int32) < x0 then 1 else if ¬ x0 < (11264 : Int32) ∧ ¬ (12271 : Int32) < x0 then 1 else if ¬ x0 < (12289 : Int32) ∧ ¬ (55295 : Int32) < x0 then 1 else if ¬ x0 < (63744 : Int32) ∧ ¬ (64975 : Int32) < x0 then 1 else if ¬ x0 < (65008 : Int32) ∧ ¬ (65533 : Int32) < x0 then 1 else if ¬ x0 < (65536 : Int32) ∧ ¬ (983039 : Int32) < x0 then 1 else 0
theorem d1_0 : decode method_2_code 0 = .ok (.iload_n 0, 1) := by decide +kernel
theorem d1_1 : decode method_2_code 1 = .ok (.iload_n 1, 1) := by decide +kernel
theorem d1_2 : decode method_2_code 2 = .ok (.if_icmp .lt 12, 3) := by decide +kernel
theorem d1_14 : decode method_2_code 14 = .ok (.iconst 0, 1) := by decide +kernel
theorem d1_15 : decode method_2_code 15 = .ok (.ireturn, 1) := by decide +kernel
theorem d1_5 : decode method_2_code 5 = .ok (.iload_n 0, 1) := by decide +kernel
theorem d1_6 : decode method_2_code 6 = .ok (.iload_n 2, 1) := by decide +kernel
theorem d1_7 : decode method_2_code 7 = .ok (.if_icmp .gt 7, 3) := by decide +kernel
theorem d1_10 : decode method_2_code 10 = .ok (.iconst 1, 1) := by decide +kernel
theorem d1_11 : decode method_2_code 11 = .ok (.goto 4, 3) := by decide +kernel
theorem pn_com_example_kiungo_kiungo_pointer_XmlCharsIsNCNameStartCharPinLaw : plainName "com/example/kiungo/kiungo/pointer/XmlCharsIsNCNameStartCharPinLaw" = true := by first | (simp [plainName, overriddenIn]; done) | decide +kernel
theorem ef_1 (m : MethodId) (x0 : Int32) (x1 : Int32) (x2 : Int32) : entryFrame m #[(.int x0), (.int x1), (.int x2)] 3 = mkF m 0 #[.val (.int x0), .val (.int x1), .val (.int x2)] [] := by first | rfl | (simp [entryFrame, mkF, argsToLocals, Value.category]; done)
def Q1 (Z : State) (x0 : Int32) (x1 : Int32) (x2 : Int32) (h0 : Heap) (n0 : Nat) (v : Option Value) (h : Heap) (L : List Loc) : Prop := v = some (.int (own_in x0 x1 x2)) ∧ Fr n0 L ∧ h = h0
set_option maxRecDepth 65536 in
set_option maxHeartbeats 40000000 in
theorem rm1 (l : Launch) (Z : State) (a0 : Array Value) (hw : ∀ d ∈ tables_1, d.before a0 Z = true) (ws : List Jvm.Cond) (x0 : Int32) (x1 : Int32) (x2 : Int32) (h0 : Heap) (n0 : Nat) (Z0 : n0 ≤ h0.size) :
    MetFree l (⟨"com/example/kiungo/kiungo/pointer/XmlCharsIsNCNameStartCharPinLaw", "in", "(III)Z"⟩ : MethodName) (head1 (Jvm.Cond.code (⟨"com/example/kiungo/kiungo/pointer/XmlCharsIsNCNameStartCharPinLaw", "in", "(III)Z"⟩ : MethodName) method_2_code 3 (some .boolean) :: ws) ({ frames := 0, cells := 0, slots := 0, locals := 0 } : Room)) (fun a U => a = #[(.int x0), (.int x1), (.int x2)] ∧ Z.Warmed39 U.vm ∧ U.heap = h0) (fun _ _ _ _ _ => True) (fun _ U o U' => ∃ v L, o = .returned v ∧ Q1 Z x0 x1 x2 h0 n0 v U'.heap L ∧ FrameEnd U o U' L ({ frames := 0, cells := 0, slots := 0, locals := 0 } : Room).cells ({ frames := 0, cells := 0, slots := 0, locals := 0 } : Room).slots) := by
  refine MetFree.of_bodySF (plainFor_of_name pn_com_example_kiungo_kiungo_pointer_XmlCharsIsNCNameStartCharPinLaw) hisR ?_
  intro p e s m args below meth c s₁ Bd hml0 hP hK
  obtain ⟨rfl, hZ, hh⟩ := hP
  have hx := Bd.exec
  have hby := Bd.bytes
  have hml : c.maxLocals = 3 := hml0
  have hown : s.vm.findClass "com/example/kiungo/kiungo/pointer/XmlCharsIsNCNameStartCharPinLaw" = some m.cls := findClass_of_methodNamed Bd.named
  have hnm := (name_of_methodNamed Bd.named Bd.method).1
  have hlk : meth.locks = false := BodyLoose.notSynchronized Bd
  have X0 : Stand p l e ({ frames := 0, cells := 0, slots := 0, locals := 0 } : Room) s m #[(.int x0), (.int x1), (.int x2)] below meth c s₁ [] 0 0 := Stand.of_body Bd
  have e0 : s₁.heap = h0 := by rw [← hh, Bd.state]; rfl
  have N0 := Fr.nil n0
  show own_E p e below s (Q1 Z x0 x1 x2 h0 n0) 0 0 (s₁.setTop (entryFrame m #[(.int x0), (.int x1), (.int x2)] 3))
  refine own_pre (B := s₁.setTop (mkF m 0 #[.val (.int x0), .val (.int x1), .val (.int x2)] [])) ?_ (fun t k => castTop (ef_1 m x0 x1 x2) k)
  refine own_pre (B := s₁.setTop (mkF m 1 #[.val (.int x0), .val (.int x1), .val (.int x2)] [(.int x0)])) ?_ fun t k => XS.iloadN X0.here hx rfl (hb hby d1_0) rfl  k
  refine own_pre (B := s₁.setTop (mkF m 2 #[.val (.int x0), .val (.int x1), .val (.int x2)] [(.int x1), (.int x0)])) ?_ fun t k => XS.iloadN X0.here hx rfl (hb hby d1_1) rfl  k
  by_cases h2_1 : x0 < x1
  · skip
    refine own_pre (B := s₁.setTop (mkF m 14 #[.val (.int x0), .val (.int x1), .val (.int x2)] [])) ?_ fun t k => XS.icmpYes X0.here hx rfl (pc0 := 2) (pc' := 14) rfl (hb hby d1_2) rfl (tlt h2_1).1 (by decide) (by decide) k
    refine own_pre (B := s₁.setTop (mkF m 15 #[.val (.int x0), .val (.int x1), .val (.int x2)] [(.int (0 : Int32))])) ?_ fun t k => XS.iconst X0.here hx rfl (hb hby d1_14) k
    refine own_retN X0 hx hlk (t := .boolean) (z' := (0 : Int32)) Bd.returns (by simp) (hb hby d1_15) (by decide) ?_ (by decide) (by decide)
    rw [e0]
    exact ⟨by simp [own_in, h2_1], N0, rfl⟩
  · skip
    refine own_pre (B := s₁.setTop (mkF m 5 #[.val (.int x0), .val (.int x1), .val (.int x2)] [])) ?_ fun t k => XS.icmpNo X0.here hx rfl (hb hby d1_2) rfl (flt h2_1).1 k
    refine own_pre (B := s₁.setTop (mkF m 6 #[.val (.int x0), .val (.int x1), .val (.int x2)] [(.int x0)])) ?_ fun t k => XS.iloadN X0.here hx rfl (hb hby d1_5) rfl  k
    refine own_pre (B := s₁.setTop (mkF m 7 #[.val (.int x0), .val (.int x1), .val (.int x2)] [(.int x2), (.int x0)])) ?_ fun t k => XS.iloadN X0.here hx rfl (hb hby d1_6) rfl  k
    by_cases h7_2 : x2 < x0
    · skip
      refine own_pre (B := s₁.setTop (mkF m 14 #[.val (.int x0), .val (.int x1), .val (.int x2)] [])) ?_ fun t k => XS.icmpYes X0.here hx rfl (pc0 := 7) (pc' := 14) rfl (hb hby d1_7) rfl (tlt h7_2).2.2.1 (by decide) (by decide) k
      refine own_pre (B := s₁.setTop (mkF m 15 #[.val (.int x0), .val (.int x1), .val (.int x2)] [(.int (0 : Int32))])) ?_ fun t k => XS.iconst X0.here hx rfl (hb hby d1_14) k
      refine own_retN X0 hx hlk (t := .boolean) (z' := (0 : Int32)) Bd.returns (by simp) (hb hby d1_15) (by decide) ?_ (by decide) (by decide)
      rw [e0]
      exact ⟨by simp [own_in, h2_1, h7_2], N0, rfl⟩
    · skip
      refine own_pre (B := s₁.setTop (mkF m 10 #[.val (.int x0), .val (.int x1), .val (.int x2)] [])) ?_ fun t k => XS.icmpNo X0.here hx rfl (hb hby d1_7) rfl (flt h7_2).2.2.1 k
      refine own_pre (B := s₁.setTop (mkF m 11 #[.val (.int x0), .val (.int x1), .val (.int x2)] [(.int (1 : Int32))])) ?_ fun t k => XS.iconst X0.here hx rfl (hb hby d1_10) k
      refine own_pre (B := s₁.setTop (mkF m 15 #[.val (.int x0), .val (.int x1), .val (.int x2)] [(.int (1 : Int32))])) ?_ fun t k => XS.goto X0.here hx rfl (pc0 := 11) (pc' := 15) rfl (hb hby d1_11) (by decide) (by decide) k
      refine own_retN X0 hx hlk (t := .boolean) (z' := (1 : Int32)) Bd.returns (by simp) (hb hby d1_15) (by decide) ?_ (by decide) (by decide)
      rw [e0]
      exact ⟨by simp [own_in, h2_1, h7_2], N0, rfl⟩
theorem d2_0 : decode prog_226_method_4_code 0 = .ok (.iload_n 0, 1) := by decide +kernel
theorem d2_1 : decode prog_226_method_4_code 1 = .ok (.bipush 97, 2) := by decide +kernel
theorem d2_3 : decode prog_226_method_4_code 3 = .ok (.if_icmp .lt 9, 3) := by decide +kernel
theorem d2_6 : decode prog_226_method_4_code 6 = .ok (.iload_n 0, 1) := by decide +kernel
theorem d2_7 : decode prog_226_method_4_code 7 = .ok (.bipush 122, 2) := by decide +kernel
theorem d2_9 : decode prog_226_method_4_code 9 = .ok (.if_icmp .le 182, 3) := by decide +kernel
theorem d2_191 : decode prog_226_method_4_code 191 = .ok (.iconst 1, 1) := by decide +kernel
theorem d2_192 : decode prog_226_method_4_code 192 = .ok (.goto 4, 3) := by decide +kernel
theorem d2_196 : decode prog_226_method_4_code 196 = .ok (.ireturn, 1) := by decide +kernel
theorem d2_12 : decode prog_226_method_4_code 12 = .ok (.iload_n 0, 1) := by decide +kernel
theorem d2_13 : decode prog_226_method_4_code 13 = .ok (.bipush 65, 2) := by decide +kernel
theorem d2_15 : decode prog_226_method_4_code 15 = .ok (.if_icmp .lt 9, 3) := by decide +kernel
theorem d2_18 : decode prog_226_method_4_code 18 = .ok (.iload_n 0, 1) := by decide +kernel
theorem d2_19 : decode prog_226_method_4_code 19 = .ok (.bipush 90, 2) := by decide +kernel
theorem d2_21 : decode prog_226_method_4_code 21 = .ok (.if_icmp .le 170, 3) := by decide +kernel
theorem d2_24 : decode prog_226_method_4_code 24 = .ok (.iload_n 0, 1) := by decide +kernel
theorem d2_25 : decode prog_226_method_4_code 25 = .ok (.bipush 95, 2) := by decide +kernel
theorem d2_27 : decode prog_226_method_4_code 27 = .ok (.if_icmp .eq 164, 3) := by decide +kernel
theorem d2_30 : decode prog_226_method_4_code 30 = .ok (.iload_n 0, 1) := by decide +kernel
theorem d2_31 : decode prog_226_method_4_code 31 = .ok (.sipush 192, 3) := by decide +kernel
theorem d2_34 : decode prog_226_method_4_code 34 = .ok (.if_icmp .lt 10, 3) := by decide +kernel
theorem d2_37 : decode prog_226_method_4_code 37 = .ok (.iload_n 0, 1) := by decide +kernel
theorem d2_38 : decode prog_226_method_4_code 38 = .ok (.sipush 214, 3) := by decide +kernel
theorem d2_41 : decode prog_226_method_4_code 41 = .ok (.if_icmp .le 150, 3) := by decide +kernel
theorem d2_44 : decode prog_226_method_4_code 44 = .ok (.iload_n 0, 1) := by decide +kernel
theorem d2_45 : decode prog_226_method_4_code 45 = .ok (.sipush 216, 3) := by decide +kernel
theorem d2_48 : decode prog_226_method_4_code 48 = .ok (.if_icmp .lt 10, 3) := by decide +kernel
theorem d2_51 : decode prog_226_method_4_code 51 = .ok (.iload_n 0, 1) := by decide +kernel
theorem d2_52 : decode prog_226_method_4_code 52 = .ok (.sipush 246, 3) := by decide +kernel
theorem d2_55 : decode prog_226_method_4_code 55 = .ok (.if_icmp .le 136, 3) := by decide +kernel
theorem d2_58 : decode prog_226_method_4_code 58 = .ok (.iload_n 0, 1) := by decide +kernel
theorem d2_59 : decode prog_226_method_4_code 59 = .ok (.sipush 248, 3) := by decide +kernel
theorem d2_62 : decode prog_226_method_4_code 62 = .ok (.if_icmp .lt 10, 3) := by decide +kernel
theorem d2_65 : decode prog_226_method_4_code 65 = .ok (.iload_n 0, 1) := by decide +kernel
theorem d2_66 : decode prog_226_method_4_code 66 = .ok (.sipush 767, 3) := by decide +kernel
theorem d2_69 : decode prog_226_method_4_code 69 = .ok (.if_icmp .le 122, 3) := by decide +kernel
theorem d2_72 : decode prog_226_method_4_code 72 = .ok (.iload_n 0, 1) := by decide +kernel
theorem d2_73 : decode prog_226_method_4_code 73 = .ok (.sipush 880, 3) := by decide +kernel
theorem d2_76 : decode prog_226_method_4_code 76 = .ok (.if_icmp .lt 10, 3) := by decide +kernel
theorem d2_79 : decode prog_226_method_4_code 79 = .ok (.iload_n 0, 1) := by decide +kernel
theorem d2_80 : decode prog_226_method_4_code 80 = .ok (.sipush 893, 3) := by decide +kernel
theorem d2_83 : decode prog_226_method_4_code 83 = .ok (.if_icmp .le 108, 3) := by decide +kernel
theorem d2_86 : decode prog_226_method_4_code 86 = .ok (.iload_n 0, 1) := by decide +kernel
theorem d2_87 : decode prog_226_method_4_code 87 = .ok (.sipush 895, 3) := by decide +kernel
theorem d2_90 : decode prog_226_method_4_code 90 = .ok (.if_icmp .lt 10, 3) := by decide +kernel
theorem d2_93 : decode prog_226_method_4_code 93 = .ok (.iload_n 0, 1) := by decide +kernel
theorem d2_94 : decode prog_226_method_4_code 94 = .ok (.sipush 8191, 3) := by decide +kernel
theorem d2_97 : decode prog_226_method_4_code 97 = .ok (.if_icmp .le 94, 3) := by decide +kernel
theorem d2_100 : decode prog_226_method_4_code 100 = .ok (.iload_n 0, 1) := by decide +kernel
theorem d2_101 : decode prog_226_method_4_code 101 = .ok (.sipush 8204, 3) := by decide +kernel
theorem d2_104 : decode prog_226_method_4_code 104 = .ok (.if_icmp .lt 10, 3) := by decide +kernel
theorem d2_107 : decode prog_226_method_4_code 107 = .ok (.iload_n 0, 1) := by decide +kernel
theorem d2_108 : decode prog_226_method_4_code 108 = .ok (.sipush 8205, 3) := by decide +kernel
theorem d2_111 : decode prog_226_method_4_code 111 = .ok (.if_icmp .le 80, 3) := by decide +kernel
theorem d2_114 : decode prog_226_method_4_code 114 = .ok (.iload_n 0, 1) := by decide +kernel
theorem d2_115 : decode prog_226_method_4_code 115 = .ok (.sipush 8304, 3) := by decide +kernel
theorem d2_118 : decode prog_226_method_4_code 118 = .ok (.if_icmp .lt 10, 3) := by decide +kernel
theorem d2_121 : decode prog_226_method_4_code 121 = .ok (.iload_n 0, 1) := by decide +kernel
theorem d2_122 : decode prog_226_method_4_code 122 = .ok (.sipush 8591, 3) := by decide +kernel
theorem d2_125 : decode prog_226_method_4_code 125 = .ok (.if_icmp .le 66, 3) := by decide +kernel
theorem d2_128 : decode prog_226_method_4_code 128 = .ok (.iload_n 0, 1) := by decide +kernel
theorem d2_129 : decode prog_226_method_4_code 129 = .ok (.sipush 11264, 3) := by decide +kernel
theorem d2_132 : decode prog_226_method_4_code 132 = .ok (.if_icmp .lt 10, 3) := by decide +kernel
theorem d2_135 : decode prog_226_method_4_code 135 = .ok (.iload_n 0, 1) := by decide +kernel
theorem d2_136 : decode prog_226_method_4_code 136 = .ok (.sipush 12271, 3) := by decide +kernel
theorem d2_139 : decode prog_226_method_4_code 139 = .ok (.if_icmp .le 52, 3) := by decide +kernel
theorem d2_142 : decode prog_226_method_4_code 142 = .ok (.iload_n 0, 1) := by decide +kernel
theorem d2_143 : decode prog_226_method_4_code 143 = .ok (.sipush 12289, 3) := by decide +kernel
theorem d2_146 : decode prog_226_method_4_code 146 = .ok (.if_icmp .lt 9, 3) := by decide +kernel
theorem d2_149 : decode prog_226_method_4_code 149 = .ok (.iload_n 0, 1) := by decide +kernel
theorem d2_150 : decode prog_226_method_4_code 150 = .ok (.ldc 7, 2) := by decide +kernel
theorem d2_152 : decode prog_226_method_4_code 152 = .ok (.if_icmp .le 39, 3) := by decide +kernel
theorem d2_155 : decode prog_226_method_4_code 155 = .ok (.iload_n 0, 1) := by decide +kernel
theorem d2_156 : decode prog_226_method_4_code 156 = .ok (.ldc 12, 2) := by decide +kernel
theorem d2_158 : decode prog_226_method_4_code 158 = .ok (.if_icmp .lt 9, 3) := by decide +kernel
theorem d2_161 : decode prog_226_method_4_code 161 = .ok (.iload_n 0, 1) := by decide +kernel
theorem d2_162 : decode prog_226_method_4_code 162 = .ok (.ldc 13, 2) := by decide +kernel
theorem d2_164 : decode prog_226_method_4_code 164 = .ok (.if_icmp .le 27, 3) := by decide +kernel
theorem d2_167 : decode prog_226_method_4_code 167 = .ok (.iload_n 0, 1) := by decide +kernel
theorem d2_168 : decode prog_226_method_4_code 168 = .ok (.ldc 14, 2) := by decide +kernel
theorem d2_170 : decode prog_226_method_4_code 170 = .ok (.if_icmp .lt 9, 3) := by decide +kernel
theorem d2_173 : decode prog_226_method_4_code 173 = .ok (.iload_n 0, 1) := by decide +kernel
theorem d2_174 : decode prog_226_method_4_code 174 = .ok (.ldc 9, 2) := by decide +kernel
theorem d2_176 : decode prog_226_method_4_code 176 = .ok (.if_icmp .le 15, 3) := by decide +kernel
theorem d2_179 : decode prog_226_method_4_code 179 = .ok (.iload_n 0, 1) := by decide +kernel
theorem d2_180 : decode prog_226_method_4_code 180 = .ok (.ldc 10, 2) := by decide +kernel
theorem d2_182 : decode prog_226_method_4_code 182 = .ok (.if_icmp .lt 13, 3) := by decide +kernel
theorem d2_195 : decode prog_226_method_4_code 195 = .ok (.iconst 0, 1) := by decide +kernel
theorem d2_185 : decode prog_226_method_4_code 185 = .ok (.iload_n 0, 1) := by decide +kernel
theorem d2_186 : decode prog_226_method_4_code 186 = .ok (.ldc 15, 2) := by decide +kernel
theorem d2_188 : decode prog_226_method_4_code 188 = .ok (.if_icmp .gt 7, 3) := by decide +kernel
theorem pn_com_example_kiungo_kiungo_pointer_XmlChars : plainName "com/example/kiungo/kiungo/pointer/XmlChars" = true := by first | (simp [plainName, overriddenIn]; done) | decide +kernel
theorem ef_2 (m : MethodId) (x0 : Int32) : entryFrame m #[(.int x0)] 1 = mkF m 0 #[.val (.int x0)] [] := by first | rfl | (simp [entryFrame, mkF, argsToLocals, Value.category]; done)
def Q2 (Z : State) (x0 : Int32) (h0 : Heap) (n0 : Nat) (v : Option Value) (h : Heap) (L : List Loc) : Prop := v = some (.int (own_nc x0)) ∧ Fr n0 L ∧ h = h0
set_option maxRecDepth 65536 in
set_option maxHeartbeats 40000000 in
theorem rm2 (l : Launch) (Z : State) (a0 : Array Value) (hw : ∀ d ∈ tables_1, d.before a0 Z = true) (ws : List Jvm.Cond) (x0 : Int32) (h0 : Heap) (n0 : Nat) (Z0 : n0 ≤ h0.size) :
    MetFree l (⟨"com/example/kiungo/kiungo/pointer/XmlChars", "isNCNameStartChar", "(I)Z"⟩ : MethodName) (head1 (Jvm.Cond.code (⟨"com/example/kiungo/kiungo/pointer/XmlChars", "isNCNameStartChar", "(I)Z"⟩ : MethodName) prog_226_method_4_code 1 (some .boolean) :: ws) ({ frames := 0, cells := 0, slots := 0, locals := 0 } : Room)) (fun a U => a = #[(.int x0)] ∧ Z.Warmed39 U.vm ∧ U.heap = h0) (fun _ _ _ _ _ => True) (fun _ U o U' => ∃ v L, o = .returned v ∧ Q2 Z x0 h0 n0 v U'.heap L ∧ FrameEnd U o U' L ({ frames := 0, cells := 0, slots := 0, locals := 0 } : Room).cells ({ frames := 0, cells := 0, slots := 0, locals := 0 } : Room).slots) := by
  refine MetFree.of_bodySF (plainFor_of_name pn_com_example_kiungo_kiungo_pointer_XmlChars) hisR ?_
  intro p e s m args below meth c s₁ Bd hml0 hP hK
  obtain ⟨rfl, hZ, hh⟩ := hP
  have hx := Bd.exec
  have hby := Bd.bytes
  have hml : c.maxLocals = 1 := hml0
  have hown : s.vm.findClass "com/example/kiungo/kiungo/pointer/XmlChars" = some m.cls := findClass_of_methodNamed Bd.named
  have hnm := (name_of_methodNamed Bd.named Bd.method).1
  have hlk : meth.locks = false := BodyLoose.notSynchronized Bd
  have X0 : Stand p l e ({ frames := 0, cells := 0, slots := 0, locals := 0 } : Room) s m #[(.int x0)] below meth c s₁ [] 0 0 := Stand.of_body Bd
  have e0 : s₁.heap = h0 := by rw [← hh, Bd.state]; rfl
  have N0 := Fr.nil n0
  show own_E p e below s (Q2 Z x0 h0 n0) 0 0 (s₁.setTop (entryFrame m #[(.int x0)] 1))
  refine own_pre (B := s₁.setTop (mkF m 0 #[.val (.int x0)] [])) ?_ (fun t k => castTop (ef_2 m x0) k)
  refine own_pre (B := s₁.setTop (mkF m 1 #[.val (.int x0)] [(.int x0)])) ?_ fun t k => XS.iloadN X0.here hx rfl (hb hby d2_0) rfl  k
  refine own_pre (B := s₁.setTop (mkF m 3 #[.val (.int x0)] [(.int (97 : Int32)), (.int x0)])) ?_ fun t k => XS.bipush X0.here hx rfl (hb hby d2_1) k
  have Jj2 : ∀ (T3 : State) (l3 : List Loc) (X3 : Stand p l e ({ frames := 0, cells := 0, slots := 0, locals := 0 } : Room) s m #[(.int x0)] below meth c T3 l3 0 0) (N3 : Fr n0 l3) (e3 : T3.heap = h0) (hjj2 : ¬ (¬ x0 < (97 : Int32) ∧ ¬ (122 : Int32) < x0)), own_E p e below s (Q2 Z x0 h0 n0) 0 0 (T3.setTop (mkF m 12 #[.val (.int x0)] [])) := by
    intro T3 l3 X3 N3 e3 hjj2
    refine own_pre (B := T3.setTop (mkF m 13 #[.val (.int x0)] [(.int x0)])) ?_ fun t k => XS.iloadN X3.here hx rfl (hb hby d2_12) rfl  k
    refine own_pre (B := T3.setTop (mkF m 15 #[.val (.int x0)] [(.int (65 : Int32)), (.int x0)])) ?_ fun t k => XS.bipush X3.here hx rfl (hb hby d2_13) k
    have Jj5 : ∀ (T6 : State) (l6 : List Loc) (X6 : Stand p l e ({ frames := 0, cells := 0, slots := 0, locals := 0 } : Room) s m #[(.int x0)] below meth c T6 l6 0 0) (N6 : Fr n0 l6) (e6 : T6.heap = h0) (hjj5 : ¬ (¬ x0 < (65 : Int32) ∧ ¬ (90 : Int32) < x0)), own_E p e below s (Q2 Z x0 h0 n0) 0 0 (T6.setTop (mkF m 24 #[.val (.int x0)] [])) := by
      intro T6 l6 X6 N6 e6 hjj5
      refine own_pre (B := T6.setTop (mkF m 25 #[.val (.int x0)] [(.int x0)])) ?_ fun t k => XS.iloadN X6.here hx rfl (hb hby d2_24) rfl  k
      refine own_pre (B := T6.setTop (mkF m 27 #[.val (.int x0)] [(.int (95 : Int32)), (.int x0)])) ?_ fun t k => XS.bipush X6.here hx rfl (hb hby d2_25) k
      by_cases h27_7 : x0 = (95 : Int32)
      · skip
        refine own_pre (B := T6.setTop (mkF m 191 #[.val (.int x0)] [])) ?_ fun t k => XS.icmpYes X6.here hx rfl (pc0 := 27) (pc' := 191) rfl (hb hby d2_27) rfl (teq h27_7).1 (by decide) (by decide) k
        refine own_pre (B := T6.setTop (mkF m 192 #[.val (.int x0)] [(.int (1 : Int32))])) ?_ fun t k => XS.iconst X6.here hx rfl (hb hby d2_191) k
        refine own_pre (B := T6.setTop (mkF m 196 #[.val (.int x0)] [(.int (1 : Int32))])) ?_ fun t k => XS.goto X6.here hx rfl (pc0 := 192) (pc' := 196) rfl (hb hby d2_192) (by decide) (by decide) k
        refine own_retN X6 hx hlk (t := .boolean) (z' := (1 : Int32)) Bd.returns (by simp) (hb hby d2_196) (by decide) ?_ (by decide) (by decide)
        rw [e6]
        exact ⟨by rw [own_nc, if_neg hjj2, if_neg hjj5, if_pos h27_7], N6, rfl⟩
      · skip
        refine own_pre (B := T6.setTop (mkF m 30 #[.val (.int x0)] [])) ?_ fun t k => XS.icmpNo X6.here hx rfl (hb hby d2_27) rfl (feq h27_7).1 k
        refine own_pre (B := T6.setTop (mkF m 31 #[.val (.int x0)] [(.int x0)])) ?_ fun t k => XS.iloadN X6.here hx rfl (hb hby d2_30) rfl  k
        refine own_pre (B := T6.setTop (mkF m 34 #[.val (.int x0)] [(.int (192 : Int32)), (.int x0)])) ?_ fun t k => XS.sipush X6.here hx rfl (hb hby d2_31) k
        have Jj9 : ∀ (T10 : State) (l10 : List Loc) (X10 : Stand p l e ({ frames := 0, cells := 0, slots := 0, locals := 0 } : Room) s m #[(.int x0)] below meth c T10 l10 0 0) (N10 : Fr n0 l10) (e10 : T10.heap = h0) (hjj9 : ¬ (¬ x0 < (192 : Int32) ∧ ¬ (214 : Int32) < x0)), own_E p e below s (Q2 Z x0 h0 n0) 0 0 (T10.setTop (mkF m 44 #[.val (.int x0)] [])) := by
          intro T10 l10 X10 N10 e10 hjj9
          refine own_pre (B := T10.setTop (mkF m 45 #[.val (.int x0)] [(.int x0)])) ?_ fun t k => XS.iloadN X10.here hx rfl (hb hby d2_44) rfl  k
          refine own_pre (B := T10.setTop (mkF m 48 #[.val (.int x0)] [(.int (216 : Int32)), (.int x0)])) ?_ fun t k => XS.sipush X10.here hx rfl (hb hby d2_45) k
          have Jj12 : ∀ (T13 : State) (l13 : List Loc) (X13 : Stand p l e ({ frames := 0, cells := 0, slots := 0, locals := 0 } : Room) s m #[(.int x0)] below meth c T13 l13 0 0) (N13 : Fr n0 l13) (e13 : T13.heap = h0) (hjj12 : ¬ (¬ x0 < (216 : Int32) ∧ ¬ (246 : Int32) < x0)), own_E p e below s (Q2 Z x0 h0 n0) 0 0 (T13.setTop (mkF m 58 #[.val (.int x0)] [])) := by
            intro T13 l13 X13 N13 e13 hjj12
            refine own_pre (B := T13.setTop (mkF m 59 #[.val (.int x0)] [(.int x0)])) ?_ fun t k => XS.iloadN X13.here hx rfl (hb hby d2_58) rfl  k
            refine own_pre (B := T13.setTop (mkF m 62 #[.val (.int x0)] [(.int (248 : Int32)), (.int x0)])) ?_ fun t k => XS.sipush X13.here hx rfl (hb hby d2_59) k
            have Jj15 : ∀ (T16 : State) (l16 : List Loc) (X16 : Stand p l e ({ frames := 0, cells := 0, slots := 0, locals := 0 } : Room) s m #[(.int x0)] below meth c T16 l16 0 0) (N16 : Fr n0 l16) (e16 : T16.heap = h0) (hjj15 : ¬ (¬ x0 < (248 : Int32) ∧ ¬ (767 : Int32) < x0)), own_E p e below s (Q2 Z x0 h0 n0) 0 0 (T16.setTop (mkF m 72 #[.val (.int x0)] [])) := by
              intro T16 l16 X16 N16 e16 hjj15
              refine own_pre (B := T16.setTop (mkF m 73 #[.val (.int x0)] [(.int x0)])) ?_ fun t k => XS.iloadN X16.here hx rfl (hb hby d2_72) rfl  k
              refine own_pre (B := T16.setTop (mkF m 76 #[.val (.int x0)] [(.int (880 : Int32)), (.int x0)])) ?_ fun t k => XS.sipush X16.here hx rfl (hb hby d2_73) k
              have Jj18 : ∀ (T19 : State) (l19 : List Loc) (X19 : Stand p l e ({ frames := 0, cells := 0, slots := 0, locals := 0 } : Room) s m #[(.int x0)] below meth c T19 l19 0 0) (N19 : Fr n0 l19) (e19 : T19.heap = h0) (hjj18 : ¬ (¬ x0 < (880 : Int32) ∧ ¬ (893 : Int32) < x0)), own_E p e below s (Q2 Z x0 h0 n0) 0 0 (T19.setTop (mkF m 86 #[.val (.int x0)] [])) := by
                intro T19 l19 X19 N19 e19 hjj18
                refine own_pre (B := T19.setTop (mkF m 87 #[.val (.int x0)] [(.int x0)])) ?_ fun t k => XS.iloadN X19.here hx rfl (hb hby d2_86) rfl  k
                refine own_pre (B := T19.setTop (mkF m 90 #[.val (.int x0)] [(.int (895 : Int32)), (.int x0)])) ?_ fun t k => XS.sipush X19.here hx rfl (hb hby d2_87) k
                have Jj21 : ∀ (T22 : State) (l22 : List Loc) (X22 : Stand p l e ({ frames := 0, cells := 0, slots := 0, locals := 0 } : Room) s m #[(.int x0)] below meth c T22 l22 0 0) (N22 : Fr n0 l22) (e22 : T22.heap = h0) (hjj21 : ¬ (¬ x0 < (895 : Int32) ∧ ¬ (8191 : Int32) < x0)), own_E p e below s (Q2 Z x0 h0 n0) 0 0 (T22.setTop (mkF m 100 #[.val (.int x0)] [])) := by
                  intro T22 l22 X22 N22 e22 hjj21
                  refine own_pre (B := T22.setTop (mkF m 101 #[.val (.int x0)] [(.int x0)])) ?_ fun t k => XS.iloadN X22.here hx rfl (hb hby d2_100) rfl  k
                  refine own_pre (B := T22.setTop (mkF m 104 #[.val (.int x0)] [(.int (8204 : Int32)), (.int x0)])) ?_ fun t k => XS.sipush X22.here hx rfl (hb hby d2_101) k
                  have Jj24 : ∀ (T25 : State) (l25 : List Loc) (X25 : Stand p l e ({ frames := 0, cells := 0, slots := 0, locals := 0 } : Room) s m #[(.int x0)] below meth c T25 l25 0 0) (N25 : Fr n0 l25) (e25 : T25.heap = h0) (hjj24 : ¬ (¬ x0 < (8204 : Int32) ∧ ¬ (8205 : Int32) < x0)), own_E p e below s (Q2 Z x0 h0 n0) 0 0 (T25.setTop (mkF m 114 #[.val (.int x0)] [])) := by
                    intro T25 l25 X25 N25 e25 hjj24
                    refine own_pre (B := T25.setTop (mkF m 115 #[.val (.int x0)] [(.int x0)])) ?_ fun t k => XS.iloadN X25.here hx rfl (hb hby d2_114) rfl  k
                    refine own_pre (B := T25.setTop (mkF m 118 #[.val (.int x0)] [(.int (8304 : Int32)), (.int x0)])) ?_ fun t k => XS.sipush X25.here hx rfl (hb hby d2_115) k
                    have Jj27 : ∀ (T28 : State) (l28 : List Loc) (X28 : Stand p l e ({ frames := 0, cells := 0, slots := 0, locals := 0 } : Room) s m #[(.int x0)] below meth c T28 l28 0 0) (N28 : Fr n0 l28) (e28 : T28.heap = h0) (hjj27 : ¬ (¬ x0 < (8304 : Int32) ∧ ¬ (8591 : Int32) < x0)), own_E p e below s (Q2 Z x0 h0 n0) 0 0 (T28.setTop (mkF m 128 #[.val (.int x0)] [])) := by
                      intro T28 l28 X28 N28 e28 hjj27
                      refine own_pre (B := T28.setTop (mkF m 129 #[.val (.int x0)] [(.int x0)])) ?_ fun t k => XS.iloadN X28.here hx rfl (hb hby d2_128) rfl  k
                      refine own_pre (B := T28.setTop (mkF m 132 #[.val (.int x0)] [(.int (11264 : Int32)), (.int x0)])) ?_ fun t k => XS.sipush X28.here hx rfl (hb hby d2_129) k
                      have Jj30 : ∀ (T31 : State) (l31 : List Loc) (X31 : Stand p l e ({ frames := 0, cells := 0, slots := 0, locals := 0 } : Room) s m #[(.int x0)] below meth c T31 l31 0 0) (N31 : Fr n0 l31) (e31 : T31.heap = h0) (hjj30 : ¬ (¬ x0 < (11264 : Int32) ∧ ¬ (12271 : Int32) < x0)), own_E p e below s (Q2 Z x0 h0 n0) 0 0 (T31.setTop (mkF m 142 #[.val (.int x0)] [])) := by
                        intro T31 l31 X31 N31 e31 hjj30
                        refine own_pre (B := T31.setTop (mkF m 143 #[.val (.int x0)] [(.int x0)])) ?_ fun t k => XS.iloadN X31.here hx rfl (hb hby d2_142) rfl  k
                        refine own_pre (B := T31.setTop (mkF m 146 #[.val (.int x0)] [(.int (12289 : Int32)), (.int x0)])) ?_ fun t k => XS.sipush X31.here hx rfl (hb hby d2_143) k
                        have Jj33 : ∀ (T34 : State) (l34 : List Loc) (X34 : Stand p l e ({ frames := 0, cells := 0, slots := 0, locals := 0 } : Room) s m #[(.int x0)] below meth c T34 l34 0 0) (N34 : Fr n0 l34) (e34 : T34.heap = h0) (hjj33 : ¬ (¬ x0 < (12289 : Int32) ∧ ¬ (55295 : Int32) < x0)), own_E p e below s (Q2 Z x0 h0 n0) 0 0 (T34.setTop (mkF m 155 #[.val (.int x0)] [])) := by
                          intro T34 l34 X34 N34 e34 hjj33
                          refine own_pre (B := T34.setTop (mkF m 156 #[.val (.int x0)] [(.int x0)])) ?_ fun t k => XS.iloadN X34.here hx rfl (hb hby d2_155) rfl  k
                          refine own_pre (B := T34.setTop (mkF m 158 #[.val (.int x0)] [(.int (63744 : Int32)), (.int x0)])) ?_ (X34.ldcInt hx hown (mvT hZ (hw _ (List.mem_of_getElem? (i := 15) rfl))) (g := (mkF m 156 #[.val (.int x0)] [(.int x0)])) rfl (hb hby d2_156))
                          have Jj36 : ∀ (T37 : State) (l37 : List Loc) (X37 : Stand p l e ({ frames := 0, cells := 0, slots := 0, locals := 0 } : Room) s m #[(.int x0)] below meth c T37 l37 0 0) (N37 : Fr n0 l37) (e37 : T37.heap = h0) (hjj36 : ¬ (¬ x0 < (63744 : Int32) ∧ ¬ (64975 : Int32) < x0)), own_E p e below s (Q2 Z x0 h0 n0) 0 0 (T37.setTop (mkF m 167 #[.val (.int x0)] [])) := by
                            intro T37 l37 X37 N37 e37 hjj36
                            refine own_pre (B := T37.setTop (mkF m 168 #[.val (.int x0)] [(.int x0)])) ?_ fun t k => XS.iloadN X37.here hx rfl (hb hby d2_167) rfl  k
                            refine own_pre (B := T37.setTop (mkF m 170 #[.val (.int x0)] [(.int (65008 : Int32)), (.int x0)])) ?_ (X37.ldcInt hx hown (mvT hZ (hw _ (List.mem_of_getElem? (i := 16) rfl))) (g := (mkF m 168 #[.val (.int x0)] [(.int x0)])) rfl (hb hby d2_168))
                            have Jj39 : ∀ (T40 : State) (l40 : List Loc) (X40 : Stand p l e ({ frames := 0, cells := 0, slots := 0, locals := 0 } : Room) s m #[(.int x0)] below meth c T40 l40 0 0) (N40 : Fr n0 l40) (e40 : T40.heap = h0) (hjj39 : ¬ (¬ x0 < (65008 : Int32) ∧ ¬ (65533 : Int32) < x0)), own_E p e below s (Q2 Z x0 h0 n0) 0 0 (T40.setTop (mkF m 179 #[.val (.int x0)] [])) := by
                              intro T40 l40 X40 N40 e40 hjj39
                              refine own_pre (B := T40.setTop (mkF m 180 #[.val (.int x0)] [(.int x0)])) ?_ fun t k => XS.iloadN X40.here hx rfl (hb hby d2_179) rfl  k
                              refine own_pre (B := T40.setTop (mkF m 182 #[.val (.int x0)] [(.int (65536 : Int32)), (.int x0)])) ?_ (X40.ldcInt hx hown (mvT hZ (hw _ (List.mem_of_getElem? (i := 17) rfl))) (g := (mkF m 180 #[.val (.int x0)] [(.int x0)])) rfl (hb hby d2_180))
                              by_cases h182_41 : x0 < (65536 : Int32)
                              · skip
                                refine own_pre (B := T40.setTop (mkF m 195 #[.val (.int x0)] [])) ?_ fun t k => XS.icmpYes X40.here hx rfl (pc0 := 182) (pc' := 195) rfl (hb hby d2_182) rfl (tlt h182_41).1 (by decide) (by decide) k
                                refine own_pre (B := T40.setTop (mkF m 196 #[.val (.int x0)] [(.int (0 : Int32))])) ?_ fun t k => XS.iconst X40.here hx rfl (hb hby d2_195) k
                                refine own_retN X40 hx hlk (t := .boolean) (z' := (0 : Int32)) Bd.returns (by simp) (hb hby d2_196) (by decide) ?_ (by decide) (by decide)
                                rw [e40]
                                exact ⟨by rw [own_nc, if_neg hjj2, if_neg hjj5, if_neg h27_7, if_neg hjj9, if_neg hjj12, if_neg hjj15, if_neg hjj18, if_neg hjj21, if_neg hjj24, if_neg hjj27, if_neg hjj30, if_neg hjj33, if_neg hjj36, if_neg hjj39, if_neg (fun q => q.1 h182_41)], N40, rfl⟩
                              · skip
                                refine own_pre (B := T40.setTop (mkF m 185 #[.val (.int x0)] [])) ?_ fun t k => XS.icmpNo X40.here hx rfl (hb hby d2_182) rfl (flt h182_41).1 k
                                refine own_pre (B := T40.setTop (mkF m 186 #[.val (.int x0)] [(.int x0)])) ?_ fun t k => XS.iloadN X40.here hx rfl (hb hby d2_185) rfl  k
                                refine own_pre (B := T40.setTop (mkF m 188 #[.val (.int x0)] [(.int (983039 : Int32)), (.int x0)])) ?_ (X40.ldcInt hx hown (mvT hZ (hw _ (List.mem_of_getElem? (i := 21) rfl))) (g := (mkF m 186 #[.val (.int x0)] [(.int x0)])) rfl (hb hby d2_186))
                                by_cases h188_42 : (983039 : Int32) < x0
                                · skip
                                  refine own_pre (B := T40.setTop (mkF m 195 #[.val (.int x0)] [])) ?_ fun t k => XS.icmpYes X40.here hx rfl (pc0 := 188) (pc' := 195) rfl (hb hby d2_188) rfl (tlt h188_42).2.2.1 (by decide) (by decide) k
                                  refine own_pre (B := T40.setTop (mkF m 196 #[.val (.int x0)] [(.int (0 : Int32))])) ?_ fun t k => XS.iconst X40.here hx rfl (hb hby d2_195) k
                                  refine own_retN X40 hx hlk (t := .boolean) (z' := (0 : Int32)) Bd.returns (by simp) (hb hby d2_196) (by decide) ?_ (by decide) (by decide)
                                  rw [e40]
                                  exact ⟨by rw [own_nc, if_neg hjj2, if_neg hjj5, if_neg h27_7, if_neg hjj9, if_neg hjj12, if_neg hjj15, if_neg hjj18, if_neg hjj21, if_neg hjj24, if_neg hjj27, if_neg hjj30, if_neg hjj33, if_neg hjj36, if_neg hjj39, if_neg (fun q => q.2 h188_42)], N40, rfl⟩
                                · skip
                                  refine own_pre (B := T40.setTop (mkF m 191 #[.val (.int x0)] [])) ?_ fun t k => XS.icmpNo X40.here hx rfl (hb hby d2_188) rfl (flt h188_42).2.2.1 k
                                  refine own_pre (B := T40.setTop (mkF m 192 #[.val (.int x0)] [(.int (1 : Int32))])) ?_ fun t k => XS.iconst X40.here hx rfl (hb hby d2_191) k
                                  refine own_pre (B := T40.setTop (mkF m 196 #[.val (.int x0)] [(.int (1 : Int32))])) ?_ fun t k => XS.goto X40.here hx rfl (pc0 := 192) (pc' := 196) rfl (hb hby d2_192) (by decide) (by decide) k
                                  refine own_retN X40 hx hlk (t := .boolean) (z' := (1 : Int32)) Bd.returns (by simp) (hb hby d2_196) (by decide) ?_ (by decide) (by decide)
                                  rw [e40]
                                  exact ⟨by rw [own_nc, if_neg hjj2, if_neg hjj5, if_neg h27_7, if_neg hjj9, if_neg hjj12, if_neg hjj15, if_neg hjj18, if_neg hjj21, if_neg hjj24, if_neg hjj27, if_neg hjj30, if_neg hjj33, if_neg hjj36, if_neg hjj39, if_pos ⟨h182_41, h188_42⟩], N40, rfl⟩
                            by_cases h170_38 : x0 < (65008 : Int32)
                            · skip
                              refine own_pre (B := T37.setTop (mkF m 179 #[.val (.int x0)] [])) ?_ fun t k => XS.icmpYes X37.here hx rfl (pc0 := 170) (pc' := 179) rfl (hb hby d2_170) rfl (tlt h170_38).1 (by decide) (by decide) k
                              exact Jj39 T37 _ X37 N37 e37  (fun q => q.1 h170_38)
                            · skip
                              refine own_pre (B := T37.setTop (mkF m 173 #[.val (.int x0)] [])) ?_ fun t k => XS.icmpNo X37.here hx rfl (hb hby d2_170) rfl (flt h170_38).1 k
                              refine own_pre (B := T37.setTop (mkF m 174 #[.val (.int x0)] [(.int x0)])) ?_ fun t k => XS.iloadN X37.here hx rfl (hb hby d2_173) rfl  k
                              refine own_pre (B := T37.setTop (mkF m 176 #[.val (.int x0)] [(.int (65533 : Int32)), (.int x0)])) ?_ (X37.ldcInt hx hown (mvT hZ (hw _ (List.mem_of_getElem? (i := 20) rfl))) (g := (mkF m 174 #[.val (.int x0)] [(.int x0)])) rfl (hb hby d2_174))
                              by_cases h176_43 : (65533 : Int32) < x0
                              · skip
                                refine own_pre (B := T37.setTop (mkF m 179 #[.val (.int x0)] [])) ?_ fun t k => XS.icmpNo X37.here hx rfl (hb hby d2_176) rfl (tlt h176_43).2.2.2 k
                                exact Jj39 T37 _ X37 N37 e37  (fun q => q.2 h176_43)
                              · skip
                                refine own_pre (B := T37.setTop (mkF m 191 #[.val (.int x0)] [])) ?_ fun t k => XS.icmpYes X37.here hx rfl (pc0 := 176) (pc' := 191) rfl (hb hby d2_176) rfl (flt h176_43).2.2.2 (by decide) (by decide) k
                                refine own_pre (B := T37.setTop (mkF m 192 #[.val (.int x0)] [(.int (1 : Int32))])) ?_ fun t k => XS.iconst X37.here hx rfl (hb hby d2_191) k
                                refine own_pre (B := T37.setTop (mkF m 196 #[.val (.int x0)] [(.int (1 : Int32))])) ?_ fun t k => XS.goto X37.here hx rfl (pc0 := 192) (pc' := 196) rfl (hb hby d2_192) (by decide) (by decide) k
                                refine own_retN X37 hx hlk (t := .boolean) (z' := (1 : Int32)) Bd.returns (by simp) (hb hby d2_196) (by decide) ?_ (by decide) (by decide)
                                rw [e37]
                                exact ⟨by rw [own_nc, if_neg hjj2, if_neg hjj5, if_neg h27_7, if_neg hjj9, if_neg hjj12, if_neg hjj15, if_neg hjj18, if_neg hjj21, if_neg hjj24, if_neg hjj27, if_neg hjj30, if_neg hjj33, if_neg hjj36, if_pos ⟨h170_38, h176_43⟩], N37, rfl⟩
                          by_cases h158_35 : x0 < (63744 : Int32)
                          · skip
                            refine own_pre (B := T34.setTop (mkF m 167 #[.val (.int x0)] [])) ?_ fun t k => XS.icmpYes X34.here hx rfl (pc0 := 158) (pc' := 167) rfl (hb hby d2_158) rfl (tlt h158_35).1 (by decide) (by decide) k
                            exact Jj36 T34 _ X34 N34 e34  (fun q => q.1 h158_35)
                          · skip
                            refine own_pre (B := T34.setTop (mkF m 161 #[.val (.int x0)] [])) ?_ fun t k => XS.icmpNo X34.here hx rfl (hb hby d2_158) rfl (flt h158_35).1 k
                            refine own_pre (B := T34.setTop (mkF m 162 #[.val (.int x0)] [(.int x0)])) ?_ fun t k => XS.iloadN X34.here hx rfl (hb hby d2_161) rfl  k
                            refine own_pre (B := T34.setTop (mkF m 164 #[.val (.int x0)] [(.int (64975 : Int32)), (.int x0)])) ?_ (X34.ldcInt hx hown (mvT hZ (hw _ (List.mem_of_getElem? (i := 19) rfl))) (g := (mkF m 162 #[.val (.int x0)] [(.int x0)])) rfl (hb hby d2_162))
                            by_cases h164_44 : (64975 : Int32) < x0
                            · skip
                              refine own_pre (B := T34.setTop (mkF m 167 #[.val (.int x0)] [])) ?_ fun t k => XS.icmpNo X34.here hx rfl (hb hby d2_164) rfl (tlt h164_44).2.2.2 k
                              exact Jj36 T34 _ X34 N34 e34  (fun q => q.2 h164_44)
                            · skip
                              refine own_pre (B := T34.setTop (mkF m 191 #[.val (.int x0)] [])) ?_ fun t k => XS.icmpYes X34.here hx rfl (pc0 := 164) (pc' := 191) rfl (hb hby d2_164) rfl (flt h164_44).2.2.2 (by decide) (by decide) k
                              refine own_pre (B := T34.setTop (mkF m 192 #[.val (.int x0)] [(.int (1 : Int32))])) ?_ fun t k => XS.iconst X34.here hx rfl (hb hby d2_191) k
                              refine own_pre (B := T34.setTop (mkF m 196 #[.val (.int x0)] [(.int (1 : Int32))])) ?_ fun t k => XS.goto X34.here hx rfl (pc0 := 192) (pc' := 196) rfl (hb hby d2_192) (by decide) (by decide) k
                              refine own_retN X34 hx hlk (t := .boolean) (z' := (1 : Int32)) Bd.returns (by simp) (hb hby d2_196) (by decide) ?_ (by decide) (by decide)
                              rw [e34]
                              exact ⟨by rw [own_nc, if_neg hjj2, if_neg hjj5, if_neg h27_7, if_neg hjj9, if_neg hjj12, if_neg hjj15, if_neg hjj18, if_neg hjj21, if_neg hjj24, if_neg hjj27, if_neg hjj30, if_neg hjj33, if_pos ⟨h158_35, h164_44⟩], N34, rfl⟩
                        by_cases h146_32 : x0 < (12289 : Int32)
                        · skip
                          refine own_pre (B := T31.setTop (mkF m 155 #[.val (.int x0)] [])) ?_ fun t k => XS.icmpYes X31.here hx rfl (pc0 := 146) (pc' := 155) rfl (hb hby d2_146) rfl (tlt h146_32).1 (by decide) (by decide) k
                          exact Jj33 T31 _ X31 N31 e31  (fun q => q.1 h146_32)
                        · skip
                          refine own_pre (B := T31.setTop (mkF m 149 #[.val (.int x0)] [])) ?_ fun t k => XS.icmpNo X31.here hx rfl (hb hby d2_146) rfl (flt h146_32).1 k
                          refine own_pre (B := T31.setTop (mkF m 150 #[.val (.int x0)] [(.int x0)])) ?_ fun t k => XS.iloadN X31.here hx rfl (hb hby d2_149) rfl  k
                          refine own_pre (B := T31.setTop (mkF m 152 #[.val (.int x0)] [(.int (55295 : Int32)), (.int x0)])) ?_ (X31.ldcInt hx hown (mvT hZ (hw _ (List.mem_of_getElem? (i := 18) rfl))) (g := (mkF m 150 #[.val (.int x0)] [(.int x0)])) rfl (hb hby d2_150))
                          by_cases h152_45 : (55295 : Int32) < x0
                          · skip
                            refine own_pre (B := T31.setTop (mkF m 155 #[.val (.int x0)] [])) ?_ fun t k => XS.icmpNo X31.here hx rfl (hb hby d2_152) rfl (tlt h152_45).2.2.2 k
                            exact Jj33 T31 _ X31 N31 e31  (fun q => q.2 h152_45)
                          · skip
                            refine own_pre (B := T31.setTop (mkF m 191 #[.val (.int x0)] [])) ?_ fun t k => XS.icmpYes X31.here hx rfl (pc0 := 152) (pc' := 191) rfl (hb hby d2_152) rfl (flt h152_45).2.2.2 (by decide) (by decide) k
                            refine own_pre (B := T31.setTop (mkF m 192 #[.val (.int x0)] [(.int (1 : Int32))])) ?_ fun t k => XS.iconst X31.here hx rfl (hb hby d2_191) k
                            refine own_pre (B := T31.setTop (mkF m 196 #[.val (.int x0)] [(.int (1 : Int32))])) ?_ fun t k => XS.goto X31.here hx rfl (pc0 := 192) (pc' := 196) rfl (hb hby d2_192) (by decide) (by decide) k
                            refine own_retN X31 hx hlk (t := .boolean) (z' := (1 : Int32)) Bd.returns (by simp) (hb hby d2_196) (by decide) ?_ (by decide) (by decide)
                            rw [e31]
                            exact ⟨by rw [own_nc, if_neg hjj2, if_neg hjj5, if_neg h27_7, if_neg hjj9, if_neg hjj12, if_neg hjj15, if_neg hjj18, if_neg hjj21, if_neg hjj24, if_neg hjj27, if_neg hjj30, if_pos ⟨h146_32, h152_45⟩], N31, rfl⟩
                      by_cases h132_29 : x0 < (11264 : Int32)
                      · skip
                        refine own_pre (B := T28.setTop (mkF m 142 #[.val (.int x0)] [])) ?_ fun t k => XS.icmpYes X28.here hx rfl (pc0 := 132) (pc' := 142) rfl (hb hby d2_132) rfl (tlt h132_29).1 (by decide) (by decide) k
                        exact Jj30 T28 _ X28 N28 e28  (fun q => q.1 h132_29)
                      · skip
                        refine own_pre (B := T28.setTop (mkF m 135 #[.val (.int x0)] [])) ?_ fun t k => XS.icmpNo X28.here hx rfl (hb hby d2_132) rfl (flt h132_29).1 k
                        refine own_pre (B := T28.setTop (mkF m 136 #[.val (.int x0)] [(.int x0)])) ?_ fun t k => XS.iloadN X28.here hx rfl (hb hby d2_135) rfl  k
                        refine own_pre (B := T28.setTop (mkF m 139 #[.val (.int x0)] [(.int (12271 : Int32)), (.int x0)])) ?_ fun t k => XS.sipush X28.here hx rfl (hb hby d2_136) k
                        by_cases h139_46 : (12271 : Int32) < x0
                        · skip
                          refine own_pre (B := T28.setTop (mkF m 142 #[.val (.int x0)] [])) ?_ fun t k => XS.icmpNo X28.here hx rfl (hb hby d2_139) rfl (tlt h139_46).2.2.2 k
                          exact Jj30 T28 _ X28 N28 e28  (fun q => q.2 h139_46)
                        · skip
                          refine own_pre (B := T28.setTop (mkF m 191 #[.val (.int x0)] [])) ?_ fun t k => XS.icmpYes X28.here hx rfl (pc0 := 139) (pc' := 191) rfl (hb hby d2_139) rfl (flt h139_46).2.2.2 (by decide) (by decide) k
                          refine own_pre (B := T28.setTop (mkF m 192 #[.val (.int x0)] [(.int (1 : Int32))])) ?_ fun t k => XS.iconst X28.here hx rfl (hb hby d2_191) k
                          refine own_pre (B := T28.setTop (mkF m 196 #[.val (.int x0)] [(.int (1 : Int32))])) ?_ fun t k => XS.goto X28.here hx rfl (pc0 := 192) (pc' := 196) rfl (hb hby d2_192) (by decide) (by decide) k
                          refine own_retN X28 hx hlk (t := .boolean) (z' := (1 : Int32)) Bd.returns (by simp) (hb hby d2_196) (by decide) ?_ (by decide) (by decide)
                          rw [e28]
                          exact ⟨by rw [own_nc, if_neg hjj2, if_neg hjj5, if_neg h27_7, if_neg hjj9, if_neg hjj12, if_neg hjj15, if_neg hjj18, if_neg hjj21, if_neg hjj24, if_neg hjj27, if_pos ⟨h132_29, h139_46⟩], N28, rfl⟩
                    by_cases h118_26 : x0 < (8304 : Int32)
                    · skip
                      refine own_pre (B := T25.setTop (mkF m 128 #[.val (.int x0)] [])) ?_ fun t k => XS.icmpYes X25.here hx rfl (pc0 := 118) (pc' := 128) rfl (hb hby d2_118) rfl (tlt h118_26).1 (by decide) (by decide) k
                      exact Jj27 T25 _ X25 N25 e25  (fun q => q.1 h118_26)
                    · skip
                      refine own_pre (B := T25.setTop (mkF m 121 #[.val (.int x0)] [])) ?_ fun t k => XS.icmpNo X25.here hx rfl (hb hby d2_118) rfl (flt h118_26).1 k
                      refine own_pre (B := T25.setTop (mkF m 122 #[.val (.int x0)] [(.int x0)])) ?_ fun t k => XS.iloadN X25.here hx rfl (hb hby d2_121) rfl  k
                      refine own_pre (B := T25.setTop (mkF m 125 #[.val (.int x0)] [(.int (8591 : Int32)), (.int x0)])) ?_ fun t k => XS.sipush X25.here hx rfl (hb hby d2_122) k
                      by_cases h125_47 : (8591 : Int32) < x0
                      · skip
                        refine own_pre (B := T25.setTop (mkF m 128 #[.val (.int x0)] [])) ?_ fun t k => XS.icmpNo X25.here hx rfl (hb hby d2_125) rfl (tlt h125_47).2.2.2 k
                        exact Jj27 T25 _ X25 N25 e25  (fun q => q.2 h125_47)
                      · skip
                        refine own_pre (B := T25.setTop (mkF m 191 #[.val (.int x0)] [])) ?_ fun t k => XS.icmpYes X25.here hx rfl (pc0 := 125) (pc' := 191) rfl (hb hby d2_125) rfl (flt h125_47).2.2.2 (by decide) (by decide) k
                        refine own_pre (B := T25.setTop (mkF m 192 #[.val (.int x0)] [(.int (1 : Int32))])) ?_ fun t k => XS.iconst X25.here hx rfl (hb hby d2_191) k
                        refine own_pre (B := T25.setTop (mkF m 196 #[.val (.int x0)] [(.int (1 : Int32))])) ?_ fun t k => XS.goto X25.here hx rfl (pc0 := 192) (pc' := 196) rfl (hb hby d2_192) (by decide) (by decide) k
                        refine own_retN X25 hx hlk (t := .boolean) (z' := (1 : Int32)) Bd.returns (by simp) (hb hby d2_196) (by decide) ?_ (by decide) (by decide)
                        rw [e25]
                        exact ⟨by rw [own_nc, if_neg hjj2, if_neg hjj5, if_neg h27_7, if_neg hjj9, if_neg hjj12, if_neg hjj15, if_neg hjj18, if_neg hjj21, if_neg hjj24, if_pos ⟨h118_26, h125_47⟩], N25, rfl⟩
                  by_cases h104_23 : x0 < (8204 : Int32)
                  · skip
                    refine own_pre (B := T22.setTop (mkF m 114 #[.val (.int x0)] [])) ?_ fun t k => XS.icmpYes X22.here hx rfl (pc0 := 104) (pc' := 114) rfl (hb hby d2_104) rfl (tlt h104_23).1 (by decide) (by decide) k
                    exact Jj24 T22 _ X22 N22 e22  (fun q => q.1 h104_23)
                  · skip
                    refine own_pre (B := T22.setTop (mkF m 107 #[.val (.int x0)] [])) ?_ fun t k => XS.icmpNo X22.here hx rfl (hb hby d2_104) rfl (flt h104_23).1 k
                    refine own_pre (B := T22.setTop (mkF m 108 #[.val (.int x0)] [(.int x0)])) ?_ fun t k => XS.iloadN X22.here hx rfl (hb hby d2_107) rfl  k
                    refine own_pre (B := T22.setTop (mkF m 111 #[.val (.int x0)] [(.int (8205 : Int32)), (.int x0)])) ?_ fun t k => XS.sipush X22.here hx rfl (hb hby d2_108) k
                    by_cases h111_48 : (8205 : Int32) < x0
                    · skip
                      refine own_pre (B := T22.setTop (mkF m 114 #[.val (.int x0)] [])) ?_ fun t k => XS.icmpNo X22.here hx rfl (hb hby d2_111) rfl (tlt h111_48).2.2.2 k
                      exact Jj24 T22 _ X22 N22 e22  (fun q => q.2 h111_48)
                    · skip
                      refine own_pre (B := T22.setTop (mkF m 191 #[.val (.int x0)] [])) ?_ fun t k => XS.icmpYes X22.here hx rfl (pc0 := 111) (pc' := 191) rfl (hb hby d2_111) rfl (flt h111_48).2.2.2 (by decide) (by decide) k
                      refine own_pre (B := T22.setTop (mkF m 192 #[.val (.int x0)] [(.int (1 : Int32))])) ?_ fun t k => XS.iconst X22.here hx rfl (hb hby d2_191) k
                      refine own_pre (B := T22.setTop (mkF m 196 #[.val (.int x0)] [(.int (1 : Int32))])) ?_ fun t k => XS.goto X22.here hx rfl (pc0 := 192) (pc' := 196) rfl (hb hby d2_192) (by decide) (by decide) k
                      refine own_retN X22 hx hlk (t := .boolean) (z' := (1 : Int32)) Bd.returns (by simp) (hb hby d2_196) (by decide) ?_ (by decide) (by decide)
                      rw [e22]
                      exact ⟨by rw [own_nc, if_neg hjj2, if_neg hjj5, if_neg h27_7, if_neg hjj9, if_neg hjj12, if_neg hjj15, if_neg hjj18, if_neg hjj21, if_pos ⟨h104_23, h111_48⟩], N22, rfl⟩
                by_cases h90_20 : x0 < (895 : Int32)
                · skip
                  refine own_pre (B := T19.setTop (mkF m 100 #[.val (.int x0)] [])) ?_ fun t k => XS.icmpYes X19.here hx rfl (pc0 := 90) (pc' := 100) rfl (hb hby d2_90) rfl (tlt h90_20).1 (by decide) (by decide) k
                  exact Jj21 T19 _ X19 N19 e19  (fun q => q.1 h90_20)
                · skip
                  refine own_pre (B := T19.setTop (mkF m 93 #[.val (.int x0)] [])) ?_ fun t k => XS.icmpNo X19.here hx rfl (hb hby d2_90) rfl (flt h90_20).1 k
                  refine own_pre (B := T19.setTop (mkF m 94 #[.val (.int x0)] [(.int x0)])) ?_ fun t k => XS.iloadN X19.here hx rfl (hb hby d2_93) rfl  k
                  refine own_pre (B := T19.setTop (mkF m 97 #[.val (.int x0)] [(.int (8191 : Int32)), (.int x0)])) ?_ fun t k => XS.sipush X19.here hx rfl (hb hby d2_94) k
                  by_cases h97_49 : (8191 : Int32) < x0
                  · skip
                    refine own_pre (B := T19.setTop (mkF m 100 #[.val (.int x0)] [])) ?_ fun t k => XS.icmpNo X19.here hx rfl (hb hby d2_97) rfl (tlt h97_49).2.2.2 k
                    exact Jj21 T19 _ X19 N19 e19  (fun q => q.2 h97_49)
                  · skip
                    refine own_pre (B := T19.setTop (mkF m 191 #[.val (.int x0)] [])) ?_ fun t k => XS.icmpYes X19.here hx rfl (pc0 := 97) (pc' := 191) rfl (hb hby d2_97) rfl (flt h97_49).2.2.2 (by decide) (by decide) k
                    refine own_pre (B := T19.setTop (mkF m 192 #[.val (.int x0)] [(.int (1 : Int32))])) ?_ fun t k => XS.iconst X19.here hx rfl (hb hby d2_191) k
                    refine own_pre (B := T19.setTop (mkF m 196 #[.val (.int x0)] [(.int (1 : Int32))])) ?_ fun t k => XS.goto X19.here hx rfl (pc0 := 192) (pc' := 196) rfl (hb hby d2_192) (by decide) (by decide) k
                    refine own_retN X19 hx hlk (t := .boolean) (z' := (1 : Int32)) Bd.returns (by simp) (hb hby d2_196) (by decide) ?_ (by decide) (by decide)
                    rw [e19]
                    exact ⟨by rw [own_nc, if_neg hjj2, if_neg hjj5, if_neg h27_7, if_neg hjj9, if_neg hjj12, if_neg hjj15, if_neg hjj18, if_pos ⟨h90_20, h97_49⟩], N19, rfl⟩
              by_cases h76_17 : x0 < (880 : Int32)
              · skip
                refine own_pre (B := T16.setTop (mkF m 86 #[.val (.int x0)] [])) ?_ fun t k => XS.icmpYes X16.here hx rfl (pc0 := 76) (pc' := 86) rfl (hb hby d2_76) rfl (tlt h76_17).1 (by decide) (by decide) k
                exact Jj18 T16 _ X16 N16 e16  (fun q => q.1 h76_17)
              · skip
                refine own_pre (B := T16.setTop (mkF m 79 #[.val (.int x0)] [])) ?_ fun t k => XS.icmpNo X16.here hx rfl (hb hby d2_76) rfl (flt h76_17).1 k
                refine own_pre (B := T16.setTop (mkF m 80 #[.val (.int x0)] [(.int x0)])) ?_ fun t k => XS.iloadN X16.here hx rfl (hb hby d2_79) rfl  k
                refine own_pre (B := T16.setTop (mkF m 83 #[.val (.int x0)] [(.int (893 : Int32)), (.int x0)])) ?_ fun t k => XS.sipush X16.here hx rfl (hb hby d2_80) k
                by_cases h83_50 : (893 : Int32) < x0
                · skip
                  refine own_pre (B := T16.setTop (mkF m 86 #[.val (.int x0)] [])) ?_ fun t k => XS.icmpNo X16.here hx rfl (hb hby d2_83) rfl (tlt h83_50).2.2.2 k
                  exact Jj18 T16 _ X16 N16 e16  (fun q => q.2 h83_50)
                · skip
                  refine own_pre (B := T16.setTop (mkF m 191 #[.val (.int x0)] [])) ?_ fun t k => XS.icmpYes X16.here hx rfl (pc0 := 83) (pc' := 191) rfl (hb hby d2_83) rfl (flt h83_50).2.2.2 (by decide) (by decide) k
                  refine own_pre (B := T16.setTop (mkF m 192 #[.val (.int x0)] [(.int (1 : Int32))])) ?_ fun t k => XS.iconst X16.here hx rfl (hb hby d2_191) k
                  refine own_pre (B := T16.setTop (mkF m 196 #[.val (.int x0)] [(.int (1 : Int32))])) ?_ fun t k => XS.goto X16.here hx rfl (pc0 := 192) (pc' := 196) rfl (hb hby d2_192) (by decide) (by decide) k
                  refine own_retN X16 hx hlk (t := .boolean) (z' := (1 : Int32)) Bd.returns (by simp) (hb hby d2_196) (by decide) ?_ (by decide) (by decide)
                  rw [e16]
                  exact ⟨by rw [own_nc, if_neg hjj2, if_neg hjj5, if_neg h27_7, if_neg hjj9, if_neg hjj12, if_neg hjj15, if_pos ⟨h76_17, h83_50⟩], N16, rfl⟩
            by_cases h62_14 : x0 < (248 : Int32)
            · skip
              refine own_pre (B := T13.setTop (mkF m 72 #[.val (.int x0)] [])) ?_ fun t k => XS.icmpYes X13.here hx rfl (pc0 := 62) (pc' := 72) rfl (hb hby d2_62) rfl (tlt h62_14).1 (by decide) (by decide) k
              exact Jj15 T13 _ X13 N13 e13  (fun q => q.1 h62_14)
            · skip
              refine own_pre (B := T13.setTop (mkF m 65 #[.val (.int x0)] [])) ?_ fun t k => XS.icmpNo X13.here hx rfl (hb hby d2_62) rfl (flt h62_14).1 k
              refine own_pre (B := T13.setTop (mkF m 66 #[.val (.int x0)] [(.int x0)])) ?_ fun t k => XS.iloadN X13.here hx rfl (hb hby d2_65) rfl  k
              refine own_pre (B := T13.setTop (mkF m 69 #[.val (.int x0)] [(.int (767 : Int32)), (.int x0)])) ?_ fun t k => XS.sipush X13.here hx rfl (hb hby d2_66) k
              by_cases h69_51 : (767 : Int32) < x0
              · skip
                refine own_pre (B := T13.setTop (mkF m 72 #[.val (.int x0)] [])) ?_ fun t k => XS.icmpNo X13.here hx rfl (hb hby d2_69) rfl (tlt h69_51).2.2.2 k
                exact Jj15 T13 _ X13 N13 e13  (fun q => q.2 h69_51)
              · skip
                refine own_pre (B := T13.setTop (mkF m 191 #[.val (.int x0)] [])) ?_ fun t k => XS.icmpYes X13.here hx rfl (pc0 := 69) (pc' := 191) rfl (hb hby d2_69) rfl (flt h69_51).2.2.2 (by decide) (by decide) k
                refine own_pre (B := T13.setTop (mkF m 192 #[.val (.int x0)] [(.int (1 : Int32))])) ?_ fun t k => XS.iconst X13.here hx rfl (hb hby d2_191) k
                refine own_pre (B := T13.setTop (mkF m 196 #[.val (.int x0)] [(.int (1 : Int32))])) ?_ fun t k => XS.goto X13.here hx rfl (pc0 := 192) (pc' := 196) rfl (hb hby d2_192) (by decide) (by decide) k
                refine own_retN X13 hx hlk (t := .boolean) (z' := (1 : Int32)) Bd.returns (by simp) (hb hby d2_196) (by decide) ?_ (by decide) (by decide)
                rw [e13]
                exact ⟨by rw [own_nc, if_neg hjj2, if_neg hjj5, if_neg h27_7, if_neg hjj9, if_neg hjj12, if_pos ⟨h62_14, h69_51⟩], N13, rfl⟩
          by_cases h48_11 : x0 < (216 : Int32)
          · skip
            refine own_pre (B := T10.setTop (mkF m 58 #[.val (.int x0)] [])) ?_ fun t k => XS.icmpYes X10.here hx rfl (pc0 := 48) (pc' := 58) rfl (hb hby d2_48) rfl (tlt h48_11).1 (by decide) (by decide) k
            exact Jj12 T10 _ X10 N10 e10  (fun q => q.1 h48_11)
          · skip
            refine own_pre (B := T10.setTop (mkF m 51 #[.val (.int x0)] [])) ?_ fun t k => XS.icmpNo X10.here hx rfl (hb hby d2_48) rfl (flt h48_11).1 k
            refine own_pre (B := T10.setTop (mkF m 52 #[.val (.int x0)] [(.int x0)])) ?_ fun t k => XS.iloadN X10.here hx rfl (hb hby d2_51) rfl  k
            refine own_pre (B := T10.setTop (mkF m 55 #[.val (.int x0)] [(.int (246 : Int32)), (.int x0)])) ?_ fun t k => XS.sipush X10.here hx rfl (hb hby d2_52) k
            by_cases h55_52 : (246 : Int32) < x0
            · skip
              refine own_pre (B := T10.setTop (mkF m 58 #[.val (.int x0)] [])) ?_ fun t k => XS.icmpNo X10.here hx rfl (hb hby d2_55) rfl (tlt h55_52).2.2.2 k
              exact Jj12 T10 _ X10 N10 e10  (fun q => q.2 h55_52)
            · skip
              refine own_pre (B := T10.setTop (mkF m 191 #[.val (.int x0)] [])) ?_ fun t k => XS.icmpYes X10.here hx rfl (pc0 := 55) (pc' := 191) rfl (hb hby d2_55) rfl (flt h55_52).2.2.2 (by decide) (by decide) k
              refine own_pre (B := T10.setTop (mkF m 192 #[.val (.int x0)] [(.int (1 : Int32))])) ?_ fun t k => XS.iconst X10.here hx rfl (hb hby d2_191) k
              refine own_pre (B := T10.setTop (mkF m 196 #[.val (.int x0)] [(.int (1 : Int32))])) ?_ fun t k => XS.goto X10.here hx rfl (pc0 := 192) (pc' := 196) rfl (hb hby d2_192) (by decide) (by decide) k
              refine own_retN X10 hx hlk (t := .boolean) (z' := (1 : Int32)) Bd.returns (by simp) (hb hby d2_196) (by decide) ?_ (by decide) (by decide)
              rw [e10]
              exact ⟨by rw [own_nc, if_neg hjj2, if_neg hjj5, if_neg h27_7, if_neg hjj9, if_pos ⟨h48_11, h55_52⟩], N10, rfl⟩
        by_cases h34_8 : x0 < (192 : Int32)
        · skip
          refine own_pre (B := T6.setTop (mkF m 44 #[.val (.int x0)] [])) ?_ fun t k => XS.icmpYes X6.here hx rfl (pc0 := 34) (pc' := 44) rfl (hb hby d2_34) rfl (tlt h34_8).1 (by decide) (by decide) k
          exact Jj9 T6 _ X6 N6 e6  (fun q => q.1 h34_8)
        · skip
          refine own_pre (B := T6.setTop (mkF m 37 #[.val (.int x0)] [])) ?_ fun t k => XS.icmpNo X6.here hx rfl (hb hby d2_34) rfl (flt h34_8).1 k
          refine own_pre (B := T6.setTop (mkF m 38 #[.val (.int x0)] [(.int x0)])) ?_ fun t k => XS.iloadN X6.here hx rfl (hb hby d2_37) rfl  k
          refine own_pre (B := T6.setTop (mkF m 41 #[.val (.int x0)] [(.int (214 : Int32)), (.int x0)])) ?_ fun t k => XS.sipush X6.here hx rfl (hb hby d2_38) k
          by_cases h41_53 : (214 : Int32) < x0
          · skip
            refine own_pre (B := T6.setTop (mkF m 44 #[.val (.int x0)] [])) ?_ fun t k => XS.icmpNo X6.here hx rfl (hb hby d2_41) rfl (tlt h41_53).2.2.2 k
            exact Jj9 T6 _ X6 N6 e6  (fun q => q.2 h41_53)
          · skip
            refine own_pre (B := T6.setTop (mkF m 191 #[.val (.int x0)] [])) ?_ fun t k => XS.icmpYes X6.here hx rfl (pc0 := 41) (pc' := 191) rfl (hb hby d2_41) rfl (flt h41_53).2.2.2 (by decide) (by decide) k
            refine own_pre (B := T6.setTop (mkF m 192 #[.val (.int x0)] [(.int (1 : Int32))])) ?_ fun t k => XS.iconst X6.here hx rfl (hb hby d2_191) k
            refine own_pre (B := T6.setTop (mkF m 196 #[.val (.int x0)] [(.int (1 : Int32))])) ?_ fun t k => XS.goto X6.here hx rfl (pc0 := 192) (pc' := 196) rfl (hb hby d2_192) (by decide) (by decide) k
            refine own_retN X6 hx hlk (t := .boolean) (z' := (1 : Int32)) Bd.returns (by simp) (hb hby d2_196) (by decide) ?_ (by decide) (by decide)
            rw [e6]
            exact ⟨by rw [own_nc, if_neg hjj2, if_neg hjj5, if_neg h27_7, if_pos ⟨h34_8, h41_53⟩], N6, rfl⟩
    by_cases h15_4 : x0 < (65 : Int32)
    · skip
      refine own_pre (B := T3.setTop (mkF m 24 #[.val (.int x0)] [])) ?_ fun t k => XS.icmpYes X3.here hx rfl (pc0 := 15) (pc' := 24) rfl (hb hby d2_15) rfl (tlt h15_4).1 (by decide) (by decide) k
      exact Jj5 T3 _ X3 N3 e3  (fun q => q.1 h15_4)
    · skip
      refine own_pre (B := T3.setTop (mkF m 18 #[.val (.int x0)] [])) ?_ fun t k => XS.icmpNo X3.here hx rfl (hb hby d2_15) rfl (flt h15_4).1 k
      refine own_pre (B := T3.setTop (mkF m 19 #[.val (.int x0)] [(.int x0)])) ?_ fun t k => XS.iloadN X3.here hx rfl (hb hby d2_18) rfl  k
      refine own_pre (B := T3.setTop (mkF m 21 #[.val (.int x0)] [(.int (90 : Int32)), (.int x0)])) ?_ fun t k => XS.bipush X3.here hx rfl (hb hby d2_19) k
      by_cases h21_54 : (90 : Int32) < x0
      · skip
        refine own_pre (B := T3.setTop (mkF m 24 #[.val (.int x0)] [])) ?_ fun t k => XS.icmpNo X3.here hx rfl (hb hby d2_21) rfl (tlt h21_54).2.2.2 k
        exact Jj5 T3 _ X3 N3 e3  (fun q => q.2 h21_54)
      · skip
        refine own_pre (B := T3.setTop (mkF m 191 #[.val (.int x0)] [])) ?_ fun t k => XS.icmpYes X3.here hx rfl (pc0 := 21) (pc' := 191) rfl (hb hby d2_21) rfl (flt h21_54).2.2.2 (by decide) (by decide) k
        refine own_pre (B := T3.setTop (mkF m 192 #[.val (.int x0)] [(.int (1 : Int32))])) ?_ fun t k => XS.iconst X3.here hx rfl (hb hby d2_191) k
        refine own_pre (B := T3.setTop (mkF m 196 #[.val (.int x0)] [(.int (1 : Int32))])) ?_ fun t k => XS.goto X3.here hx rfl (pc0 := 192) (pc' := 196) rfl (hb hby d2_192) (by decide) (by decide) k
        refine own_retN X3 hx hlk (t := .boolean) (z' := (1 : Int32)) Bd.returns (by simp) (hb hby d2_196) (by decide) ?_ (by decide) (by decide)
        rw [e3]
        exact ⟨by rw [own_nc, if_neg hjj2, if_pos ⟨h15_4, h21_54⟩], N3, rfl⟩
  by_cases h3_1 : x0 < (97 : Int32)
  · skip
    refine own_pre (B := s₁.setTop (mkF m 12 #[.val (.int x0)] [])) ?_ fun t k => XS.icmpYes X0.here hx rfl (pc0 := 3) (pc' := 12) rfl (hb hby d2_3) rfl (tlt h3_1).1 (by decide) (by decide) k
    exact Jj2 s₁ _ X0 N0 e0  (fun q => q.1 h3_1)
  · skip
    refine own_pre (B := s₁.setTop (mkF m 6 #[.val (.int x0)] [])) ?_ fun t k => XS.icmpNo X0.here hx rfl (hb hby d2_3) rfl (flt h3_1).1 k
    refine own_pre (B := s₁.setTop (mkF m 7 #[.val (.int x0)] [(.int x0)])) ?_ fun t k => XS.iloadN X0.here hx rfl (hb hby d2_6) rfl  k
    refine own_pre (B := s₁.setTop (mkF m 9 #[.val (.int x0)] [(.int (122 : Int32)), (.int x0)])) ?_ fun t k => XS.bipush X0.here hx rfl (hb hby d2_7) k
    by_cases h9_55 : (122 : Int32) < x0
    · skip
      refine own_pre (B := s₁.setTop (mkF m 12 #[.val (.int x0)] [])) ?_ fun t k => XS.icmpNo X0.here hx rfl (hb hby d2_9) rfl (tlt h9_55).2.2.2 k
      exact Jj2 s₁ _ X0 N0 e0  (fun q => q.2 h9_55)
    · skip
      refine own_pre (B := s₁.setTop (mkF m 191 #[.val (.int x0)] [])) ?_ fun t k => XS.icmpYes X0.here hx rfl (pc0 := 9) (pc' := 191) rfl (hb hby d2_9) rfl (flt h9_55).2.2.2 (by decide) (by decide) k
      refine own_pre (B := s₁.setTop (mkF m 192 #[.val (.int x0)] [(.int (1 : Int32))])) ?_ fun t k => XS.iconst X0.here hx rfl (hb hby d2_191) k
      refine own_pre (B := s₁.setTop (mkF m 196 #[.val (.int x0)] [(.int (1 : Int32))])) ?_ fun t k => XS.goto X0.here hx rfl (pc0 := 192) (pc' := 196) rfl (hb hby d2_192) (by decide) (by decide) k
      refine own_retN X0 hx hlk (t := .boolean) (z' := (1 : Int32)) Bd.returns (by simp) (hb hby d2_196) (by decide) ?_ (by decide) (by decide)
      rw [e0]
      exact ⟨by rw [own_nc, if_pos ⟨h3_1, h9_55⟩], N0, rfl⟩
theorem pd__III_Z : parseMethodDescriptor "(III)Z" = some ⟨[.int, .int, .int], some .boolean⟩ := by decide +kernel
theorem pd__I_Z : parseMethodDescriptor "(I)Z" = some ⟨[.int], some .boolean⟩ := by decide +kernel
set_option maxRecDepth 65536 in
set_option maxHeartbeats 40000000 in
theorem own_fin (x0 : Int32) (j3_s0 : Int32) (hvj3_s0 : j3_s0 = (if (own_in x0 (91 : Int32) (94 : Int32)) = (0 : Int32) then (if x0 = (96 : Int32) then (1 : Int32) else (if (own_in x0 (123 : Int32) (191 : Int32)) = (0 : Int32) then (if x0 = (215 : Int32) then (1 : Int32) else (if x0 = (247 : Int32) then (1 : Int32) else (if (own_in x0 (768 : Int32) (879 : Int32)) = (0 : Int32) then (if x0 = (894 : Int32) then (1 : Int32) else (if (own_in x0 (8192 : Int32) (8203 : Int32)) = (0 : Int32) then (if (own_in x0 (8206 : Int32) (8303 : Int32)) = (0 : Int32) then (if (own_in x0 (8592 : Int32) (11263 : Int32)) = (0 : Int32) then (if (own_in x0 (12272 : Int32) (12288 : Int32)) = (0 : Int32) then (if (own_in x0 (55296 : Int32) (63743 : Int32)) = (0 : Int32) then (if (own_in x0 (64976 : Int32) (65007 : Int32)) = (0 : Int32) then (if (own_in x0 (65534 : Int32) (65535 : Int32)) = (0 : Int32) then (0 : Int32) else (1 : Int32)) else (1 : Int32)) else (1 : Int32)) else (1 : Int32)) else (1 : Int32)) else (1 : Int32)) else (1 : Int32))) else (1 : Int32)))) else (1 : Int32))) else (1 : Int32))) (j7_s0 : Int32) (hvj7_s0 : j7_s0 = (if (own_in x0 (65 : Int32) (983039 : Int32)) = (0 : Int32) then (0 : Int32) else (if j3_s0 = (0 : Int32) then (1 : Int32) else (0 : Int32)))) : (own_nc x0) = j7_s0 := by
  have E : ∀ k : Int32, x0 = k ↔ x0.toInt = k.toInt := fun k => Int32.toInt_inj.symm
  have L1 : ∀ k : Int32, x0 < k ↔ x0.toInt < k.toInt := fun k => Int32.lt_iff_toInt_lt
  have L2 : ∀ k : Int32, k < x0 ↔ k.toInt < x0.toInt := fun k => Int32.lt_iff_toInt_lt
  have hA := hvj3_s0
  have hB := hvj7_s0
  unfold own_nc
  simp only [own_in0, E, L1, L2, Int32.reduceToInt] at hA hB ⊢
  clear E L1 L2
  generalize x0.toInt = n at hA hB ⊢
  by_cases q0 : n < 65
  · simp only [eq_false (show ¬ (¬ n < 97 ∧ ¬ 122 < n) by omega), eq_false (show ¬ (¬ n < 65 ∧ ¬ 90 < n) by omega), eq_false (show ¬ (n = 95) by omega), eq_false (show ¬ (¬ n < 192 ∧ ¬ 214 < n) by omega), eq_false (show ¬ (¬ n < 216 ∧ ¬ 246 < n) by omega), eq_false (show ¬ (¬ n < 248 ∧ ¬ 767 < n) by omega), eq_false (show ¬ (¬ n < 880 ∧ ¬ 893 < n) by omega), eq_false (show ¬ (¬ n < 895 ∧ ¬ 8191 < n) by omega), eq_false (show ¬ (¬ n < 8204 ∧ ¬ 8205 < n) by omega), eq_false (show ¬ (¬ n < 8304 ∧ ¬ 8591 < n) by omega), eq_false (show ¬ (¬ n < 11264 ∧ ¬ 12271 < n) by omega), eq_false (show ¬ (¬ n < 12289 ∧ ¬ 55295 < n) by omega), eq_false (show ¬ (¬ n < 63744 ∧ ¬ 64975 < n) by omega), eq_false (show ¬ (¬ n < 65008 ∧ ¬ 65533 < n) by omega), eq_false (show ¬ (¬ n < 65536 ∧ ¬ 983039 < n) by omega), eq_true (show (n < 91 ∨ 94 < n) by omega), eq_false (show ¬ (n = 96) by omega), eq_true (show (n < 123 ∨ 191 < n) by omega), eq_false (show ¬ (n = 215) by omega), eq_false (show ¬ (n = 247) by omega), eq_true (show (n < 768 ∨ 879 < n) by omega), eq_false (show ¬ (n = 894) by omega), eq_true (show (n < 8192 ∨ 8203 < n) by omega), eq_true (show (n < 8206 ∨ 8303 < n) by omega), eq_true (show (n < 8592 ∨ 11263 < n) by omega), eq_true (show (n < 12272 ∨ 12288 < n) by omega), eq_true (show (n < 55296 ∨ 63743 < n) by omega), eq_true (show (n < 64976 ∨ 65007 < n) by omega), eq_true (show (n < 65534 ∨ 65535 < n) by omega), eq_true (show (n < 65 ∨ 983039 < n) by omega), ↓reduceIte] at hA hB ⊢; subst hA; rw [hB]; all_goals first | rfl | decide
  by_cases q1 : n < 91
  · simp only [eq_false (show ¬ (¬ n < 97 ∧ ¬ 122 < n) by omega), eq_true (show (¬ n < 65 ∧ ¬ 90 < n) by omega), eq_false (show ¬ (n = 95) by omega), eq_false (show ¬ (¬ n < 192 ∧ ¬ 214 < n) by omega), eq_false (show ¬ (¬ n < 216 ∧ ¬ 246 < n) by omega), eq_false (show ¬ (¬ n < 248 ∧ ¬ 767 < n) by omega), eq_false (show ¬ (¬ n < 880 ∧ ¬ 893 < n) by omega), eq_false (show ¬ (¬ n < 895 ∧ ¬ 8191 < n) by omega), eq_false (show ¬ (¬ n < 8204 ∧ ¬ 8205 < n) by omega), eq_false (show ¬ (¬ n < 8304 ∧ ¬ 8591 < n) by omega), eq_false (show ¬ (¬ n < 11264 ∧ ¬ 12271 < n) by omega), eq_false (show ¬ (¬ n < 12289 ∧ ¬ 55295 < n) by omega), eq_false (show ¬ (¬ n < 63744 ∧ ¬ 64975 < n) by omega), eq_false (show ¬ (¬ n < 65008 ∧ ¬ 65533 < n) by omega), eq_false (show ¬ (¬ n < 65536 ∧ ¬ 983039 < n) by omega), eq_true (show (n < 91 ∨ 94 < n) by omega), eq_false (show ¬ (n = 96) by omega), eq_true (show (n < 123 ∨ 191 < n) by omega), eq_false (show ¬ (n = 215) by omega), eq_false (show ¬ (n = 247) by omega), eq_true (show (n < 768 ∨ 879 < n) by omega), eq_false (show ¬ (n = 894) by omega), eq_true (show (n < 8192 ∨ 8203 < n) by omega), eq_true (show (n < 8206 ∨ 8303 < n) by omega), eq_true (show (n < 8592 ∨ 11263 < n) by omega), eq_true (show (n < 12272 ∨ 12288 < n) by omega), eq_true (show (n < 55296 ∨ 63743 < n) by omega), eq_true (show (n < 64976 ∨ 65007 < n) by omega), eq_true (show (n < 65534 ∨ 65535 < n) by omega), eq_false (show ¬ (n < 65 ∨ 983039 < n) by omega), ↓reduceIte] at hA hB ⊢; subst hA; rw [hB]; all_goals first | rfl | decide
  by_cases q2 : n < 95
  · simp only [eq_false (show ¬ (¬ n < 97 ∧ ¬ 122 < n) by omega), eq_false (show ¬ (¬ n < 65 ∧ ¬ 90 < n) by omega), eq_false (show ¬ (n = 95) by omega), eq_false (show ¬ (¬ n < 192 ∧ ¬ 214 < n) by omega), eq_false (show ¬ (¬ n < 216 ∧ ¬ 246 < n) by omega), eq_false (show ¬ (¬ n < 248 ∧ ¬ 767 < n) by omega), eq_false (show ¬ (¬ n < 880 ∧ ¬ 893 < n) by omega), eq_false (show ¬ (¬ n < 895 ∧ ¬ 8191 < n) by omega), eq_false (show ¬ (¬ n < 8204 ∧ ¬ 8205 < n) by omega), eq_false (show ¬ (¬ n < 8304 ∧ ¬ 8591 < n) by omega), eq_false (show ¬ (¬ n < 11264 ∧ ¬ 12271 < n) by omega), eq_false (show ¬ (¬ n < 12289 ∧ ¬ 55295 < n) by omega), eq_false (show ¬ (¬ n < 63744 ∧ ¬ 64975 < n) by omega), eq_false (show ¬ (¬ n < 65008 ∧ ¬ 65533 < n) by omega), eq_false (show ¬ (¬ n < 65536 ∧ ¬ 983039 < n) by omega), eq_false (show ¬ (n < 91 ∨ 94 < n) by omega), eq_false (show ¬ (n = 96) by omega), eq_true (show (n < 123 ∨ 191 < n) by omega), eq_false (show ¬ (n = 215) by omega), eq_false (show ¬ (n = 247) by omega), eq_true (show (n < 768 ∨ 879 < n) by omega), eq_false (show ¬ (n = 894) by omega), eq_true (show (n < 8192 ∨ 8203 < n) by omega), eq_true (show (n < 8206 ∨ 8303 < n) by omega), eq_true (show (n < 8592 ∨ 11263 < n) by omega), eq_true (show (n < 12272 ∨ 12288 < n) by omega), eq_true (show (n < 55296 ∨ 63743 < n) by omega), eq_true (show (n < 64976 ∨ 65007 < n) by omega), eq_true (show (n < 65534 ∨ 65535 < n) by omega), eq_false (show ¬ (n < 65 ∨ 983039 < n) by omega), ↓reduceIte] at hA hB ⊢; subst hA; rw [hB]; all_goals first | rfl | decide
  by_cases q3 : n < 96
  · simp only [eq_false (show ¬ (¬ n < 97 ∧ ¬ 122 < n) by omega), eq_false (show ¬ (¬ n < 65 ∧ ¬ 90 < n) by omega), eq_true (show (n = 95) by omega), eq_false (show ¬ (¬ n < 192 ∧ ¬ 214 < n) by omega), eq_false (show ¬ (¬ n < 216 ∧ ¬ 246 < n) by omega), eq_false (show ¬ (¬ n < 248 ∧ ¬ 767 < n) by omega), eq_false (show ¬ (¬ n < 880 ∧ ¬ 893 < n) by omega), eq_false (show ¬ (¬ n < 895 ∧ ¬ 8191 < n) by omega), eq_false (show ¬ (¬ n < 8204 ∧ ¬ 8205 < n) by omega), eq_false (show ¬ (¬ n < 8304 ∧ ¬ 8591 < n) by omega), eq_false (show ¬ (¬ n < 11264 ∧ ¬ 12271 < n) by omega), eq_false (show ¬ (¬ n < 12289 ∧ ¬ 55295 < n) by omega), eq_false (show ¬ (¬ n < 63744 ∧ ¬ 64975 < n) by omega), eq_false (show ¬ (¬ n < 65008 ∧ ¬ 65533 < n) by omega), eq_false (show ¬ (¬ n < 65536 ∧ ¬ 983039 < n) by omega), eq_true (show (n < 91 ∨ 94 < n) by omega), eq_false (show ¬ (n = 96) by omega), eq_true (show (n < 123 ∨ 191 < n) by omega), eq_false (show ¬ (n = 215) by omega), eq_false (show ¬ (n = 247) by omega), eq_true (show (n < 768 ∨ 879 < n) by omega), eq_false (show ¬ (n = 894) by omega), eq_true (show (n < 8192 ∨ 8203 < n) by omega), eq_true (show (n < 8206 ∨ 8303 < n) by omega), eq_true (show (n < 8592 ∨ 11263 < n) by omega), eq_true (show (n < 12272 ∨ 12288 < n) by omega), eq_true (show (n < 55296 ∨ 63743 < n) by omega), eq_true (show (n < 64976 ∨ 65007 < n) by omega), eq_true (show (n < 65534 ∨ 65535 < n) by omega), eq_false (show ¬ (n < 65 ∨ 983039 < n) by omega), ↓reduceIte] at hA hB ⊢; subst hA; rw [hB]; all_goals first | rfl | decide
  by_cases q4 : n < 97
  · simp only [eq_false (show ¬ (¬ n < 97 ∧ ¬ 122 < n) by omega), eq_false (show ¬ (¬ n < 65 ∧ ¬ 90 < n) by omega), eq_false (show ¬ (n = 95) by omega), eq_false (show ¬ (¬ n < 192 ∧ ¬ 214 < n) by omega), eq_false (show ¬ (¬ n < 216 ∧ ¬ 246 < n) by omega), eq_false (show ¬ (¬ n < 248 ∧ ¬ 767 < n) by omega), eq_false (show ¬ (¬ n < 880 ∧ ¬ 893 < n) by omega), eq_false (show ¬ (¬ n < 895 ∧ ¬ 8191 < n) by omega), eq_false (show ¬ (¬ n < 8204 ∧ ¬ 8205 < n) by omega), eq_false (show ¬ (¬ n < 8304 ∧ ¬ 8591 < n) by omega), eq_false (show ¬ (¬ n < 11264 ∧ ¬ 12271 < n) by omega), eq_false (show ¬ (¬ n < 12289 ∧ ¬ 55295 < n) by omega), eq_false (show ¬ (¬ n < 63744 ∧ ¬ 64975 < n) by omega), eq_false (show ¬ (¬ n < 65008 ∧ ¬ 65533 < n) by omega), eq_false (show ¬ (¬ n < 65536 ∧ ¬ 983039 < n) by omega), eq_true (show (n < 91 ∨ 94 < n) by omega), eq_true (show (n = 96) by omega), eq_true (show (n < 123 ∨ 191 < n) by omega), eq_false (show ¬ (n = 215) by omega), eq_false (show ¬ (n = 247) by omega), eq_true (show (n < 768 ∨ 879 < n) by omega), eq_false (show ¬ (n = 894) by omega), eq_true (show (n < 8192 ∨ 8203 < n) by omega), eq_true (show (n < 8206 ∨ 8303 < n) by omega), eq_true (show (n < 8592 ∨ 11263 < n) by omega), eq_true (show (n < 12272 ∨ 12288 < n) by omega), eq_true (show (n < 55296 ∨ 63743 < n) by omega), eq_true (show (n < 64976 ∨ 65007 < n) by omega), eq_true (show (n < 65534 ∨ 65535 < n) by omega), eq_false (show ¬ (n < 65 ∨ 983039 < n) by omega), ↓reduceIte] at hA hB ⊢; subst hA; rw [hB]; all_goals first | rfl | decide
  by_cases q5 : n < 123
  · simp only [eq_true (show (¬ n < 97 ∧ ¬ 122 < n) by omega), eq_false (show ¬ (¬ n < 65 ∧ ¬ 90 < n) by omega), eq_false (show ¬ (n = 95) by omega), eq_false (show ¬ (¬ n < 192 ∧ ¬ 214 < n) by omega), eq_false (show ¬ (¬ n < 216 ∧ ¬ 246 < n) by omega), eq_false (show ¬ (¬ n < 248 ∧ ¬ 767 < n) by omega), eq_false (show ¬ (¬ n < 880 ∧ ¬ 893 < n) by omega), eq_false (show ¬ (¬ n < 895 ∧ ¬ 8191 < n) by omega), eq_false (show ¬ (¬ n < 8204 ∧ ¬ 8205 < n) by omega), eq_false (show ¬ (¬ n < 8304 ∧ ¬ 8591 < n) by omega), eq_false (show ¬ (¬ n < 11264 ∧ ¬ 12271 < n) by omega), eq_false (show ¬ (¬ n < 12289 ∧ ¬ 55295 < n) by omega), eq_false (show ¬ (¬ n < 63744 ∧ ¬ 64975 < n) by omega), eq_false (show ¬ (¬ n < 65008 ∧ ¬ 65533 < n) by omega), eq_false (show ¬ (¬ n < 65536 ∧ ¬ 983039 < n) by omega), eq_true (show (n < 91 ∨ 94 < n) by omega), eq_false (show ¬ (n = 96) by omega), eq_true (show (n < 123 ∨ 191 < n) by omega), eq_false (show ¬ (n = 215) by omega), eq_false (show ¬ (n = 247) by omega), eq_true (show (n < 768 ∨ 879 < n) by omega), eq_false (show ¬ (n = 894) by omega), eq_true (show (n < 8192 ∨ 8203 < n) by omega), eq_true (show (n < 8206 ∨ 8303 < n) by omega), eq_true (show (n < 8592 ∨ 11263 < n) by omega), eq_true (show (n < 12272 ∨ 12288 < n) by omega), eq_true (show (n < 55296 ∨ 63743 < n) by omega), eq_true (show (n < 64976 ∨ 65007 < n) by omega), eq_true (show (n < 65534 ∨ 65535 < n) by omega), eq_false (show ¬ (n < 65 ∨ 983039 < n) by omega), ↓reduceIte] at hA hB ⊢; subst hA; rw [hB]; all_goals first | rfl | decide
  by_cases q6 : n < 192
  · simp only [eq_false (show ¬ (¬ n < 97 ∧ ¬ 122 < n) by omega), eq_false (show ¬ (¬ n < 65 ∧ ¬ 90 < n) by omega), eq_false (show ¬ (n = 95) by omega), eq_false (show ¬ (¬ n < 192 ∧ ¬ 214 < n) by omega), eq_false (show ¬ (¬ n < 216 ∧ ¬ 246 < n) by omega), eq_false (show ¬ (¬ n < 248 ∧ ¬ 767 < n) by omega), eq_false (show ¬ (¬ n < 880 ∧ ¬ 893 < n) by omega), eq_false (show ¬ (¬ n < 895 ∧ ¬ 8191 < n) by omega), eq_false (show ¬ (¬ n < 8204 ∧ ¬ 8205 < n) by omega), eq_false (show ¬ (¬ n < 8304 ∧ ¬ 8591 < n) by omega), eq_false (show ¬ (¬ n < 11264 ∧ ¬ 12271 < n) by omega), eq_false (show ¬ (¬ n < 12289 ∧ ¬ 55295 < n) by omega), eq_false (show ¬ (¬ n < 63744 ∧ ¬ 64975 < n) by omega), eq_false (show ¬ (¬ n < 65008 ∧ ¬ 65533 < n) by omega), eq_false (show ¬ (¬ n < 65536 ∧ ¬ 983039 < n) by omega), eq_true (show (n < 91 ∨ 94 < n) by omega), eq_false (show ¬ (n = 96) by omega), eq_false (show ¬ (n < 123 ∨ 191 < n) by omega), eq_false (show ¬ (n = 215) by omega), eq_false (show ¬ (n = 247) by omega), eq_true (show (n < 768 ∨ 879 < n) by omega), eq_false (show ¬ (n = 894) by omega), eq_true (show (n < 8192 ∨ 8203 < n) by omega), eq_true (show (n < 8206 ∨ 8303 < n) by omega), eq_true (show (n < 8592 ∨ 11263 < n) by omega), eq_true (show (n < 12272 ∨ 12288 < n) by omega), eq_true (show (n < 55296 ∨ 63743 < n) by omega), eq_true (show (n < 64976 ∨ 65007 < n) by omega), eq_true (show (n < 65534 ∨ 65535 < n) by omega), eq_false (show ¬ (n < 65 ∨ 983039 < n) by omega), ↓reduceIte] at hA hB ⊢; subst hA; rw [hB]; all_goals first | rfl | decide
  by_cases q7 : n < 215
  · simp only [eq_false (show ¬ (¬ n < 97 ∧ ¬ 122 < n) by omega), eq_false (show ¬ (¬ n < 65 ∧ ¬ 90 < n) by omega), eq_false (show ¬ (n = 95) by omega), eq_true (show (¬ n < 192 ∧ ¬ 214 < n) by omega), eq_false (show ¬ (¬ n < 216 ∧ ¬ 246 < n) by omega), eq_false (show ¬ (¬ n < 248 ∧ ¬ 767 < n) by omega), eq_false (show ¬ (¬ n < 880 ∧ ¬ 893 < n) by omega), eq_false (show ¬ (¬ n < 895 ∧ ¬ 8191 < n) by omega), eq_false (show ¬ (¬ n < 8204 ∧ ¬ 8205 < n) by omega), eq_false (show ¬ (¬ n < 8304 ∧ ¬ 8591 < n) by omega), eq_false (show ¬ (¬ n < 11264 ∧ ¬ 12271 < n) by omega), eq_false (show ¬ (¬ n < 12289 ∧ ¬ 55295 < n) by omega), eq_false (show ¬ (¬ n < 63744 ∧ ¬ 64975 < n) by omega), eq_false (show ¬ (¬ n < 65008 ∧ ¬ 65533 < n) by omega), eq_false (show ¬ (¬ n < 65536 ∧ ¬ 983039 < n) by omega), eq_true (show (n < 91 ∨ 94 < n) by omega), eq_false (show ¬ (n = 96) by omega), eq_true (show (n < 123 ∨ 191 < n) by omega), eq_false (show ¬ (n = 215) by omega), eq_false (show ¬ (n = 247) by omega), eq_true (show (n < 768 ∨ 879 < n) by omega), eq_false (show ¬ (n = 894) by omega), eq_true (show (n < 8192 ∨ 8203 < n) by omega), eq_true (show (n < 8206 ∨ 8303 < n) by omega), eq_true (show (n < 8592 ∨ 11263 < n) by omega), eq_true (show (n < 12272 ∨ 12288 < n) by omega), eq_true (show (n < 55296 ∨ 63743 < n) by omega), eq_true (show (n < 64976 ∨ 65007 < n) by omega), eq_true (show (n < 65534 ∨ 65535 < n) by omega), eq_false (show ¬ (n < 65 ∨ 983039 < n) by omega), ↓reduceIte] at hA hB ⊢; subst hA; rw [hB]; all_goals first | rfl | decide
  by_cases q8 : n < 216
  · simp only [eq_false (show ¬ (¬ n < 97 ∧ ¬ 122 < n) by omega), eq_false (show ¬ (¬ n < 65 ∧ ¬ 90 < n) by omega), eq_false (show ¬ (n = 95) by omega), eq_false (show ¬ (¬ n < 192 ∧ ¬ 214 < n) by omega), eq_false (show ¬ (¬ n < 216 ∧ ¬ 246 < n) by omega), eq_false (show ¬ (¬ n < 248 ∧ ¬ 767 < n) by omega), eq_false (show ¬ (¬ n < 880 ∧ ¬ 893 < n) by omega), eq_false (show ¬ (¬ n < 895 ∧ ¬ 8191 < n) by omega), eq_false (show ¬ (¬ n < 8204 ∧ ¬ 8205 < n) by omega), eq_false (show ¬ (¬ n < 8304 ∧ ¬ 8591 < n) by omega), eq_false (show ¬ (¬ n < 11264 ∧ ¬ 12271 < n) by omega), eq_false (show ¬ (¬ n < 12289 ∧ ¬ 55295 < n) by omega), eq_false (show ¬ (¬ n < 63744 ∧ ¬ 64975 < n) by omega), eq_false (show ¬ (¬ n < 65008 ∧ ¬ 65533 < n) by omega), eq_false (show ¬ (¬ n < 65536 ∧ ¬ 983039 < n) by omega), eq_true (show (n < 91 ∨ 94 < n) by omega), eq_false (show ¬ (n = 96) by omega), eq_true (show (n < 123 ∨ 191 < n) by omega), eq_true (show (n = 215) by omega), eq_false (show ¬ (n = 247) by omega), eq_true (show (n < 768 ∨ 879 < n) by omega), eq_false (show ¬ (n = 894) by omega), eq_true (show (n < 8192 ∨ 8203 < n) by omega), eq_true (show (n < 8206 ∨ 8303 < n) by omega), eq_true (show (n < 8592 ∨ 11263 < n) by omega), eq_true (show (n < 12272 ∨ 12288 < n) by omega), eq_true (show (n < 55296 ∨ 63743 < n) by omega), eq_true (show (n < 64976 ∨ 65007 < n) by omega), eq_true (show (n < 65534 ∨ 65535 < n) by omega), eq_false (show ¬ (n < 65 ∨ 983039 < n) by omega), ↓reduceIte] at hA hB ⊢; subst hA; rw [hB]; all_goals first | rfl | decide
  by_cases q9 : n < 247
  · simp only [eq_false (show ¬ (¬ n < 97 ∧ ¬ 122 < n) by omega), eq_false (show ¬ (¬ n < 65 ∧ ¬ 90 < n) by omega), eq_false (show ¬ (n = 95) by omega), eq_false (show ¬ (¬ n < 192 ∧ ¬ 214 < n) by omega), eq_true (show (¬ n < 216 ∧ ¬ 246 < n) by omega), eq_false (show ¬ (¬ n < 248 ∧ ¬ 767 < n) by omega), eq_false (show ¬ (¬ n < 880 ∧ ¬ 893 < n) by omega), eq_false (show ¬ (¬ n < 895 ∧ ¬ 8191 < n) by omega), eq_false (show ¬ (¬ n < 8204 ∧ ¬ 8205 < n) by omega), eq_false (show ¬ (¬ n < 8304 ∧ ¬ 8591 < n) by omega), eq_false (show ¬ (¬ n < 11264 ∧ ¬ 12271 < n) by omega), eq_false (show ¬ (¬ n < 12289 ∧ ¬ 55295 < n) by omega), eq_false (show ¬ (¬ n < 63744 ∧ ¬ 64975 < n) by omega), eq_false (show ¬ (¬ n < 65008 ∧ ¬ 65533 < n) by omega), eq_false (show ¬ (¬ n < 65536 ∧ ¬ 983039 < n) by omega), eq_true (show (n < 91 ∨ 94 < n) by omega), eq_false (show ¬ (n = 96) by omega), eq_true (show (n < 123 ∨ 191 < n) by omega), eq_false (show ¬ (n = 215) by omega), eq_false (show ¬ (n = 247) by omega), eq_true (show (n < 768 ∨ 879 < n) by omega), eq_false (show ¬ (n = 894) by omega), eq_true (show (n < 8192 ∨ 8203 < n) by omega), eq_true (show (n < 8206 ∨ 8303 < n) by omega), eq_true (show (n < 8592 ∨ 11263 < n) by omega), eq_true (show (n < 12272 ∨ 12288 < n) by omega), eq_true (show (n < 55296 ∨ 63743 < n) by omega), eq_true (show (n < 64976 ∨ 65007 < n) by omega), eq_true (show (n < 65534 ∨ 65535 < n) by omega), eq_false (show ¬ (n < 65 ∨ 983039 < n) by omega), ↓reduceIte] at hA hB ⊢; subst hA; rw [hB]; all_goals first | rfl | decide
  by_cases q10 : n < 248
  · simp only [eq_false (show ¬ (¬ n < 97 ∧ ¬ 122 < n) by omega), eq_false (show ¬ (¬ n < 65 ∧ ¬ 90 < n) by omega), eq_false (show ¬ (n = 95) by omega), eq_false (show ¬ (¬ n < 192 ∧ ¬ 214 < n) by omega), eq_false (show ¬ (¬ n < 216 ∧ ¬ 246 < n) by omega), eq_false (show ¬ (¬ n < 248 ∧ ¬ 767 < n) by omega), eq_false (show ¬ (¬ n < 880 ∧ ¬ 893 < n) by omega), eq_false (show ¬ (¬ n < 895 ∧ ¬ 8191 < n) by omega), eq_false (show ¬ (¬ n < 8204 ∧ ¬ 8205 < n) by omega), eq_false (show ¬ (¬ n < 8304 ∧ ¬ 8591 < n) by omega), eq_false (show ¬ (¬ n < 11264 ∧ ¬ 12271 < n) by omega), eq_false (show ¬ (¬ n < 12289 ∧ ¬ 55295 < n) by omega), eq_false (show ¬ (¬ n < 63744 ∧ ¬ 64975 < n) by omega), eq_false (show ¬ (¬ n < 65008 ∧ ¬ 65533 < n) by omega), eq_false (show ¬ (¬ n < 65536 ∧ ¬ 983039 < n) by omega), eq_true (show (n < 91 ∨ 94 < n) by omega), eq_false (show ¬ (n = 96) by omega), eq_true (show (n < 123 ∨ 191 < n) by omega), eq_false (show ¬ (n = 215) by omega), eq_true (show (n = 247) by omega), eq_true (show (n < 768 ∨ 879 < n) by omega), eq_false (show ¬ (n = 894) by omega), eq_true (show (n < 8192 ∨ 8203 < n) by omega), eq_true (show (n < 8206 ∨ 8303 < n) by omega), eq_true (show (n < 8592 ∨ 11263 < n) by omega), eq_true (show (n < 12272 ∨ 12288 < n) by omega), eq_true (show (n < 55296 ∨ 63743 < n) by omega), eq_true (show (n < 64976 ∨ 65007 < n) by omega), eq_true (show (n < 65534 ∨ 65535 < n) by omega), eq_false (show ¬ (n < 65 ∨ 983039 < n) by omega), ↓reduceIte] at hA hB ⊢; subst hA; rw [hB]; all_goals first | rfl | decide
  by_cases q11 : n < 768
  · simp only [eq_false (show ¬ (¬ n < 97 ∧ ¬ 122 < n) by omega), eq_false (show ¬ (¬ n < 65 ∧ ¬ 90 < n) by omega), eq_false (show ¬ (n = 95) by omega), eq_false (show ¬ (¬ n < 192 ∧ ¬ 214 < n) by omega), eq_false (show ¬ (¬ n < 216 ∧ ¬ 246 < n) by omega), eq_true (show (¬ n < 248 ∧ ¬ 767 < n) by omega), eq_false (show ¬ (¬ n < 880 ∧ ¬ 893 < n) by omega), eq_false (show ¬ (¬ n < 895 ∧ ¬ 8191 < n) by omega), eq_false (show ¬ (¬ n < 8204 ∧ ¬ 8205 < n) by omega), eq_false (show ¬ (¬ n < 8304 ∧ ¬ 8591 < n) by omega), eq_false (show ¬ (¬ n < 11264 ∧ ¬ 12271 < n) by omega), eq_false (show ¬ (¬ n < 12289 ∧ ¬ 55295 < n) by omega), eq_false (show ¬ (¬ n < 63744 ∧ ¬ 64975 < n) by omega), eq_false (show ¬ (¬ n < 65008 ∧ ¬ 65533 < n) by omega), eq_false (show ¬ (¬ n < 65536 ∧ ¬ 983039 < n) by omega), eq_true (show (n < 91 ∨ 94 < n) by omega), eq_false (show ¬ (n = 96) by omega), eq_true (show (n < 123 ∨ 191 < n) by omega), eq_false (show ¬ (n = 215) by omega), eq_false (show ¬ (n = 247) by omega), eq_true (show (n < 768 ∨ 879 < n) by omega), eq_false (show ¬ (n = 894) by omega), eq_true (show (n < 8192 ∨ 8203 < n) by omega), eq_true (show (n < 8206 ∨ 8303 < n) by omega), eq_true (show (n < 8592 ∨ 11263 < n) by omega), eq_true (show (n < 12272 ∨ 12288 < n) by omega), eq_true (show (n < 55296 ∨ 63743 < n) by omega), eq_true (show (n < 64976 ∨ 65007 < n) by omega), eq_true (show (n < 65534 ∨ 65535 < n) by omega), eq_false (show ¬ (n < 65 ∨ 983039 < n) by omega), ↓reduceIte] at hA hB ⊢; subst hA; rw [hB]; all_goals first | rfl | decide
  by_cases q12 : n < 880
  · simp only [eq_false (show ¬ (¬ n < 97 ∧ ¬ 122 < n) by omega), eq_false (show ¬ (¬ n < 65 ∧ ¬ 90 < n) by omega), eq_false (show ¬ (n = 95) by omega), eq_false (show ¬ (¬ n < 192 ∧ ¬ 214 < n) by omega), eq_false (show ¬ (¬ n < 216 ∧ ¬ 246 < n) by omega), eq_false (show ¬ (¬ n < 248 ∧ ¬ 767 < n) by omega), eq_false (show ¬ (¬ n < 880 ∧ ¬ 893 < n) by omega), eq_false (show ¬ (¬ n < 895 ∧ ¬ 8191 < n) by omega), eq_false (show ¬ (¬ n < 8204 ∧ ¬ 8205 < n) by omega), eq_false (show ¬ (¬ n < 8304 ∧ ¬ 8591 < n) by omega), eq_false (show ¬ (¬ n < 11264 ∧ ¬ 12271 < n) by omega), eq_false (show ¬ (¬ n < 12289 ∧ ¬ 55295 < n) by omega), eq_false (show ¬ (¬ n < 63744 ∧ ¬ 64975 < n) by omega), eq_false (show ¬ (¬ n < 65008 ∧ ¬ 65533 < n) by omega), eq_false (show ¬ (¬ n < 65536 ∧ ¬ 983039 < n) by omega), eq_true (show (n < 91 ∨ 94 < n) by omega), eq_false (show ¬ (n = 96) by omega), eq_true (show (n < 123 ∨ 191 < n) by omega), eq_false (show ¬ (n = 215) by omega), eq_false (show ¬ (n = 247) by omega), eq_false (show ¬ (n < 768 ∨ 879 < n) by omega), eq_false (show ¬ (n = 894) by omega), eq_true (show (n < 8192 ∨ 8203 < n) by omega), eq_true (show (n < 8206 ∨ 8303 < n) by omega), eq_true (show (n < 8592 ∨ 11263 < n) by omega), eq_true (show (n < 12272 ∨ 12288 < n) by omega), eq_true (show (n < 55296 ∨ 63743 < n) by omega), eq_true (show (n < 64976 ∨ 65007 < n) by omega), eq_true (show (n < 65534 ∨ 65535 < n) by omega), eq_false (show ¬ (n < 65 ∨ 983039 < n) by omega), ↓reduceIte] at hA hB ⊢; subst hA; rw [hB]; all_goals first | rfl | decide
  by_cases q13 : n < 894
  · simp only [eq_false (show ¬ (¬ n < 97 ∧ ¬ 122 < n) by omega), eq_false (show ¬ (¬ n < 65 ∧ ¬ 90 < n) by omega), eq_false (show ¬ (n = 95) by omega), eq_false (show ¬ (¬ n < 192 ∧ ¬ 214 < n) by omega), eq_false (show ¬ (¬ n < 216 ∧ ¬ 246 < n) by omega), eq_false (show ¬ (¬ n < 248 ∧ ¬ 767 < n) by omega), eq_true (show (¬ n < 880 ∧ ¬ 893 < n) by omega), eq_false (show ¬ (¬ n < 895 ∧ ¬ 8191 < n) by omega), eq_false (show ¬ (¬ n < 8204 ∧ ¬ 8205 < n) by omega), eq_false (show ¬ (¬ n < 8304 ∧ ¬ 8591 < n) by omega), eq_false (show ¬ (¬ n < 11264 ∧ ¬ 12271 < n) by omega), eq_false (show ¬ (¬ n < 12289 ∧ ¬ 55295 < n) by omega), eq_false (show ¬ (¬ n < 63744 ∧ ¬ 64975 < n) by omega), eq_false (show ¬ (¬ n < 65008 ∧ ¬ 65533 < n) by omega), eq_false (show ¬ (¬ n < 65536 ∧ ¬ 983039 < n) by omega), eq_true (show (n < 91 ∨ 94 < n) by omega), eq_false (show ¬ (n = 96) by omega), eq_true (show (n < 123 ∨ 191 < n) by omega), eq_false (show ¬ (n = 215) by omega), eq_false (show ¬ (n = 247) by omega), eq_true (show (n < 768 ∨ 879 < n) by omega), eq_false (show ¬ (n = 894) by omega), eq_true (show (n < 8192 ∨ 8203 < n) by omega), eq_true (show (n < 8206 ∨ 8303 < n) by omega), eq_true (show (n < 8592 ∨ 11263 < n) by omega), eq_true (show (n < 12272 ∨ 12288 < n) by omega), eq_true (show (n < 55296 ∨ 63743 < n) by omega), eq_true (show (n < 64976 ∨ 65007 < n) by omega), eq_true (show (n < 65534 ∨ 65535 < n) by omega), eq_false (show ¬ (n < 65 ∨ 983039 < n) by omega), ↓reduceIte] at hA hB ⊢; subst hA; rw [hB]; all_goals first | rfl | decide
  by_cases q14 : n < 895
  · simp only [eq_false (show ¬ (¬ n < 97 ∧ ¬ 122 < n) by omega), eq_false (show ¬ (¬ n < 65 ∧ ¬ 90 < n) by omega), eq_false (show ¬ (n = 95) by omega), eq_false (show ¬ (¬ n < 192 ∧ ¬ 214 < n) by omega), eq_false (show ¬ (¬ n < 216 ∧ ¬ 246 < n) by omega), eq_false (show ¬ (¬ n < 248 ∧ ¬ 767 < n) by omega), eq_false (show ¬ (¬ n < 880 ∧ ¬ 893 < n) by omega), eq_false (show ¬ (¬ n < 895 ∧ ¬ 8191 < n) by omega), eq_false (show ¬ (¬ n < 8204 ∧ ¬ 8205 < n) by omega), eq_false (show ¬ (¬ n < 8304 ∧ ¬ 8591 < n) by omega), eq_false (show ¬ (¬ n < 11264 ∧ ¬ 12271 < n) by omega), eq_false (show ¬ (¬ n < 12289 ∧ ¬ 55295 < n) by omega), eq_false (show ¬ (¬ n < 63744 ∧ ¬ 64975 < n) by omega), eq_false (show ¬ (¬ n < 65008 ∧ ¬ 65533 < n) by omega), eq_false (show ¬ (¬ n < 65536 ∧ ¬ 983039 < n) by omega), eq_true (show (n < 91 ∨ 94 < n) by omega), eq_false (show ¬ (n = 96) by omega), eq_true (show (n < 123 ∨ 191 < n) by omega), eq_false (show ¬ (n = 215) by omega), eq_false (show ¬ (n = 247) by omega), eq_true (show (n < 768 ∨ 879 < n) by omega), eq_true (show (n = 894) by omega), eq_true (show (n < 8192 ∨ 8203 < n) by omega), eq_true (show (n < 8206 ∨ 8303 < n) by omega), eq_true (show (n < 8592 ∨ 11263 < n) by omega), eq_true (show (n < 12272 ∨ 12288 < n) by omega), eq_true (show (n < 55296 ∨ 63743 < n) by omega), eq_true (show (n < 64976 ∨ 65007 < n) by omega), eq_true (show (n < 65534 ∨ 65535 < n) by omega), eq_false (show ¬ (n < 65 ∨ 983039 < n) by omega), ↓reduceIte] at hA hB ⊢; subst hA; rw [hB]; all_goals first | rfl | decide
  by_cases q15 : n < 8192
  · simp only [eq_false (show ¬ (¬ n < 97 ∧ ¬ 122 < n) by omega), eq_false (show ¬ (¬ n < 65 ∧ ¬ 90 < n) by omega), eq_false (show ¬ (n = 95) by omega), eq_false (show ¬ (¬ n < 192 ∧ ¬ 214 < n) by omega), eq_false (show ¬ (¬ n < 216 ∧ ¬ 246 < n) by omega), eq_false (show ¬ (¬ n < 248 ∧ ¬ 767 < n) by omega), eq_false (show ¬ (¬ n < 880 ∧ ¬ 893 < n) by omega), eq_true (show (¬ n < 895 ∧ ¬ 8191 < n) by omega), eq_false (show ¬ (¬ n < 8204 ∧ ¬ 8205 < n) by omega), eq_false (show ¬ (¬ n < 8304 ∧ ¬ 8591 < n) by omega), eq_false (show ¬ (¬ n < 11264 ∧ ¬ 12271 < n) by omega), eq_false (show ¬ (¬ n < 12289 ∧ ¬ 55295 < n) by omega), eq_false (show ¬ (¬ n < 63744 ∧ ¬ 64975 < n) by omega), eq_false (show ¬ (¬ n < 65008 ∧ ¬ 65533 < n) by omega), eq_false (show ¬ (¬ n < 65536 ∧ ¬ 983039 < n) by omega), eq_true (show (n < 91 ∨ 94 < n) by omega), eq_false (show ¬ (n = 96) by omega), eq_true (show (n < 123 ∨ 191 < n) by omega), eq_false (show ¬ (n = 215) by omega), eq_false (show ¬ (n = 247) by omega), eq_true (show (n < 768 ∨ 879 < n) by omega), eq_false (show ¬ (n = 894) by omega), eq_true (show (n < 8192 ∨ 8203 < n) by omega), eq_true (show (n < 8206 ∨ 8303 < n) by omega), eq_true (show (n < 8592 ∨ 11263 < n) by omega), eq_true (show (n < 12272 ∨ 12288 < n) by omega), eq_true (show (n < 55296 ∨ 63743 < n) by omega), eq_true (show (n < 64976 ∨ 65007 < n) by omega), eq_true (show (n < 65534 ∨ 65535 < n) by omega), eq_false (show ¬ (n < 65 ∨ 983039 < n) by omega), ↓reduceIte] at hA hB ⊢; subst hA; rw [hB]; all_goals first | rfl | decide
  by_cases q16 : n < 8204
  · simp only [eq_false (show ¬ (¬ n < 97 ∧ ¬ 122 < n) by omega), eq_false (show ¬ (¬ n < 65 ∧ ¬ 90 < n) by omega), eq_false (show ¬ (n = 95) by omega), eq_false (show ¬ (¬ n < 192 ∧ ¬ 214 < n) by omega), eq_false (show ¬ (¬ n < 216 ∧ ¬ 246 < n) by omega), eq_false (show ¬ (¬ n < 248 ∧ ¬ 767 < n) by omega), eq_false (show ¬ (¬ n < 880 ∧ ¬ 893 < n) by omega), eq_false (show ¬ (¬ n < 895 ∧ ¬ 8191 < n) by omega), eq_false (show ¬ (¬ n < 8204 ∧ ¬ 8205 < n) by omega), eq_false (show ¬ (¬ n < 8304 ∧ ¬ 8591 < n) by omega), eq_false (show ¬ (¬ n < 11264 ∧ ¬ 12271 < n) by omega), eq_false (show ¬ (¬ n < 12289 ∧ ¬ 55295 < n) by omega), eq_false (show ¬ (¬ n < 63744 ∧ ¬ 64975 < n) by omega), eq_false (show ¬ (¬ n < 65008 ∧ ¬ 65533 < n) by omega), eq_false (show ¬ (¬ n < 65536 ∧ ¬ 983039 < n) by omega), eq_true (show (n < 91 ∨ 94 < n) by omega), eq_false (show ¬ (n = 96) by omega), eq_true (show (n < 123 ∨ 191 < n) by omega), eq_false (show ¬ (n = 215) by omega), eq_false (show ¬ (n = 247) by omega), eq_true (show (n < 768 ∨ 879 < n) by omega), eq_false (show ¬ (n = 894) by omega), eq_false (show ¬ (n < 8192 ∨ 8203 < n) by omega), eq_true (show (n < 8206 ∨ 8303 < n) by omega), eq_true (show (n < 8592 ∨ 11263 < n) by omega), eq_true (show (n < 12272 ∨ 12288 < n) by omega), eq_true (show (n < 55296 ∨ 63743 < n) by omega), eq_true (show (n < 64976 ∨ 65007 < n) by omega), eq_true (show (n < 65534 ∨ 65535 < n) by omega), eq_false (show ¬ (n < 65 ∨ 983039 < n) by omega), ↓reduceIte] at hA hB ⊢; subst hA; rw [hB]; all_goals first | rfl | decide
  by_cases q17 : n < 8206
  · simp only [eq_false (show ¬ (¬ n < 97 ∧ ¬ 122 < n) by omega), eq_false (show ¬ (¬ n < 65 ∧ ¬ 90 < n) by omega), eq_false (show ¬ (n = 95) by omega), eq_false (show ¬ (¬ n < 192 ∧ ¬ 214 < n) by omega), eq_false (show ¬ (¬ n < 216 ∧ ¬ 246 < n) by omega), eq_false (show ¬ (¬ n < 248 ∧ ¬ 767 < n) by omega), eq_false (show ¬ (¬ n < 880 ∧ ¬ 893 < n) by omega), eq_false (show ¬ (¬ n < 895 ∧ ¬ 8191 < n) by omega), eq_true (show (¬ n < 8204 ∧ ¬ 8205 < n) by omega), eq_false (show ¬ (¬ n < 8304 ∧ ¬ 8591 < n) by omega), eq_false (show ¬ (¬ n < 11264 ∧ ¬ 12271 < n) by omega), eq_false (show ¬ (¬ n < 12289 ∧ ¬ 55295 < n) by omega), eq_false (show ¬ (¬ n < 63744 ∧ ¬ 64975 < n) by omega), eq_false (show ¬ (¬ n < 65008 ∧ ¬ 65533 < n) by omega), eq_false (show ¬ (¬ n < 65536 ∧ ¬ 983039 < n) by omega), eq_true (show (n < 91 ∨ 94 < n) by omega), eq_false (show ¬ (n = 96) by omega), eq_true (show (n < 123 ∨ 191 < n) by omega), eq_false (show ¬ (n = 215) by omega), eq_false (show ¬ (n = 247) by omega), eq_true (show (n < 768 ∨ 879 < n) by omega), eq_false (show ¬ (n = 894) by omega), eq_true (show (n < 8192 ∨ 8203 < n) by omega), eq_true (show (n < 8206 ∨ 8303 < n) by omega), eq_true (show (n < 8592 ∨ 11263 < n) by omega), eq_true (show (n < 12272 ∨ 12288 < n) by omega), eq_true (show (n < 55296 ∨ 63743 < n) by omega), eq_true (show (n < 64976 ∨ 65007 < n) by omega), eq_true (show (n < 65534 ∨ 65535 < n) by omega), eq_false (show ¬ (n < 65 ∨ 983039 < n) by omega), ↓reduceIte] at hA hB ⊢; subst hA; rw [hB]; all_goals first | rfl | decide
  by_cases q18 : n < 8304
  · simp only [eq_false (show ¬ (¬ n < 97 ∧ ¬ 122 < n) by omega), eq_false (show ¬ (¬ n < 65 ∧ ¬ 90 < n) by omega), eq_false (show ¬ (n = 95) by omega), eq_false (show ¬ (¬ n < 192 ∧ ¬ 214 < n) by omega), eq_false (show ¬ (¬ n < 216 ∧ ¬ 246 < n) by omega), eq_false (show ¬ (¬ n < 248 ∧ ¬ 767 < n) by omega), eq_false (show ¬ (¬ n < 880 ∧ ¬ 893 < n) by omega), eq_false (show ¬ (¬ n < 895 ∧ ¬ 8191 < n) by omega), eq_false (show ¬ (¬ n < 8204 ∧ ¬ 8205 < n) by omega), eq_false (show ¬ (¬ n < 8304 ∧ ¬ 8591 < n) by omega), eq_false (show ¬ (¬ n < 11264 ∧ ¬ 12271 < n) by omega), eq_false (show ¬ (¬ n < 12289 ∧ ¬ 55295 < n) by omega), eq_false (show ¬ (¬ n < 63744 ∧ ¬ 64975 < n) by omega), eq_false (show ¬ (¬ n < 65008 ∧ ¬ 65533 < n) by omega), eq_false (show ¬ (¬ n < 65536 ∧ ¬ 983039 < n) by omega), eq_true (show (n < 91 ∨ 94 < n) by omega), eq_false (show ¬ (n = 96) by omega), eq_true (show (n < 123 ∨ 191 < n) by omega), eq_false (show ¬ (n = 215) by omega), eq_false (show ¬ (n = 247) by omega), eq_true (show (n < 768 ∨ 879 < n) by omega), eq_false (show ¬ (n = 894) by omega), eq_true (show (n < 8192 ∨ 8203 < n) by omega), eq_false (show ¬ (n < 8206 ∨ 8303 < n) by omega), eq_true (show (n < 8592 ∨ 11263 < n) by omega), eq_true (show (n < 12272 ∨ 12288 < n) by omega), eq_true (show (n < 55296 ∨ 63743 < n) by omega), eq_true (show (n < 64976 ∨ 65007 < n) by omega), eq_true (show (n < 65534 ∨ 65535 < n) by omega), eq_false (show ¬ (n < 65 ∨ 983039 < n) by omega), ↓reduceIte] at hA hB ⊢; subst hA; rw [hB]; all_goals first | rfl | decide
  by_cases q19 : n < 8592
  · simp only [eq_false (show ¬ (¬ n < 97 ∧ ¬ 122 < n) by omega), eq_false (show ¬ (¬ n < 65 ∧ ¬ 90 < n) by omega), eq_false (show ¬ (n = 95) by omega), eq_false (show ¬ (¬ n < 192 ∧ ¬ 214 < n) by omega), eq_false (show ¬ (¬ n < 216 ∧ ¬ 246 < n) by omega), eq_false (show ¬ (¬ n < 248 ∧ ¬ 767 < n) by omega), eq_false (show ¬ (¬ n < 880 ∧ ¬ 893 < n) by omega), eq_false (show ¬ (¬ n < 895 ∧ ¬ 8191 < n) by omega), eq_false (show ¬ (¬ n < 8204 ∧ ¬ 8205 < n) by omega), eq_true (show (¬ n < 8304 ∧ ¬ 8591 < n) by omega), eq_false (show ¬ (¬ n < 11264 ∧ ¬ 12271 < n) by omega), eq_false (show ¬ (¬ n < 12289 ∧ ¬ 55295 < n) by omega), eq_false (show ¬ (¬ n < 63744 ∧ ¬ 64975 < n) by omega), eq_false (show ¬ (¬ n < 65008 ∧ ¬ 65533 < n) by omega), eq_false (show ¬ (¬ n < 65536 ∧ ¬ 983039 < n) by omega), eq_true (show (n < 91 ∨ 94 < n) by omega), eq_false (show ¬ (n = 96) by omega), eq_true (show (n < 123 ∨ 191 < n) by omega), eq_false (show ¬ (n = 215) by omega), eq_false (show ¬ (n = 247) by omega), eq_true (show (n < 768 ∨ 879 < n) by omega), eq_false (show ¬ (n = 894) by omega), eq_true (show (n < 8192 ∨ 8203 < n) by omega), eq_true (show (n < 8206 ∨ 8303 < n) by omega), eq_true (show (n < 8592 ∨ 11263 < n) by omega), eq_true (show (n < 12272 ∨ 12288 < n) by omega), eq_true (show (n < 55296 ∨ 63743 < n) by omega), eq_true (show (n < 64976 ∨ 65007 < n) by omega), eq_true (show (n < 65534 ∨ 65535 < n) by omega), eq_false (show ¬ (n < 65 ∨ 983039 < n) by omega), ↓reduceIte] at hA hB ⊢; subst hA; rw [hB]; all_goals first | rfl | decide
  by_cases q20 : n < 11264
  · simp only [eq_false (show ¬ (¬ n < 97 ∧ ¬ 122 < n) by omega), eq_false (show ¬ (¬ n < 65 ∧ ¬ 90 < n) by omega), eq_false (show ¬ (n = 95) by omega), eq_false (show ¬ (¬ n < 192 ∧ ¬ 214 < n) by omega), eq_false (show ¬ (¬ n < 216 ∧ ¬ 246 < n) by omega), eq_false (show ¬ (¬ n < 248 ∧ ¬ 767 < n) by omega), eq_false (show ¬ (¬ n < 880 ∧ ¬ 893 < n) by omega), eq_false (show ¬ (¬ n < 895 ∧ ¬ 8191 < n) by omega), eq_false (show ¬ (¬ n < 8204 ∧ ¬ 8205 < n) by omega), eq_false (show ¬ (¬ n < 8304 ∧ ¬ 8591 < n) by omega), eq_false (show ¬ (¬ n < 11264 ∧ ¬ 12271 < n) by omega), eq_false (show ¬ (¬ n < 12289 ∧ ¬ 55295 < n) by omega), eq_false (show ¬ (¬ n < 63744 ∧ ¬ 64975 < n) by omega), eq_false (show ¬ (¬ n < 65008 ∧ ¬ 65533 < n) by omega), eq_false (show ¬ (¬ n < 65536 ∧ ¬ 983039 < n) by omega), eq_true (show (n < 91 ∨ 94 < n) by omega), eq_false (show ¬ (n = 96) by omega), eq_true (show (n < 123 ∨ 191 < n) by omega), eq_false (show ¬ (n = 215) by omega), eq_false (show ¬ (n = 247) by omega), eq_true (show (n < 768 ∨ 879 < n) by omega), eq_false (show ¬ (n = 894) by omega), eq_true (show (n < 8192 ∨ 8203 < n) by omega), eq_true (show (n < 8206 ∨ 8303 < n) by omega), eq_false (show ¬ (n < 8592 ∨ 11263 < n) by omega), eq_true (show (n < 12272 ∨ 12288 < n) by omega), eq_true (show (n < 55296 ∨ 63743 < n) by omega), eq_true (show (n < 64976 ∨ 65007 < n) by omega), eq_true (show (n < 65534 ∨ 65535 < n) by omega), eq_false (show ¬ (n < 65 ∨ 983039 < n) by omega), ↓reduceIte] at hA hB ⊢; subst hA; rw [hB]; all_goals first | rfl | decide
  by_cases q21 : n < 12272
  · simp only [eq_false (show ¬ (¬ n < 97 ∧ ¬ 122 < n) by omega), eq_false (show ¬ (¬ n < 65 ∧ ¬ 90 < n) by omega), eq_false (show ¬ (n = 95) by omega), eq_false (show ¬ (¬ n < 192 ∧ ¬ 214 < n) by omega), eq_false (show ¬ (¬ n < 216 ∧ ¬ 246 < n) by omega), eq_false (show ¬ (¬ n < 248 ∧ ¬ 767 < n) by omega), eq_false (show ¬ (¬ n < 880 ∧ ¬ 893 < n) by omega), eq_false (show ¬ (¬ n < 895 ∧ ¬ 8191 < n) by omega), eq_false (show ¬ (¬ n < 8204 ∧ ¬ 8205 < n) by omega), eq_false (show ¬ (¬ n < 8304 ∧ ¬ 8591 < n) by omega), eq_true (show (¬ n < 11264 ∧ ¬ 12271 < n) by omega), eq_false (show ¬ (¬ n < 12289 ∧ ¬ 55295 < n) by omega), eq_false (show ¬ (¬ n < 63744 ∧ ¬ 64975 < n) by omega), eq_false (show ¬ (¬ n < 65008 ∧ ¬ 65533 < n) by omega), eq_false (show ¬ (¬ n < 65536 ∧ ¬ 983039 < n) by omega), eq_true (show (n < 91 ∨ 94 < n) by omega), eq_false (show ¬ (n = 96) by omega), eq_true (show (n < 123 ∨ 191 < n) by omega), eq_false (show ¬ (n = 215) by omega), eq_false (show ¬ (n = 247) by omega), eq_true (show (n < 768 ∨ 879 < n) by omega), eq_false (show ¬ (n = 894) by omega), eq_true (show (n < 8192 ∨ 8203 < n) by omega), eq_true (show (n < 8206 ∨ 8303 < n) by omega), eq_true (show (n < 8592 ∨ 11263 < n) by omega), eq_true (show (n < 12272 ∨ 12288 < n) by omega), eq_true (show (n < 55296 ∨ 63743 < n) by omega), eq_true (show (n < 64976 ∨ 65007 < n) by omega), eq_true (show (n < 65534 ∨ 65535 < n) by omega), eq_false (show ¬ (n < 65 ∨ 983039 < n) by omega), ↓reduceIte] at hA hB ⊢; subst hA; rw [hB]; all_goals first | rfl | decide
  by_cases q22 : n < 12289
  · simp only [eq_false (show ¬ (¬ n < 97 ∧ ¬ 122 < n) by omega), eq_false (show ¬ (¬ n < 65 ∧ ¬ 90 < n) by omega), eq_false (show ¬ (n = 95) by omega), eq_false (show ¬ (¬ n < 192 ∧ ¬ 214 < n) by omega), eq_false (show ¬ (¬ n < 216 ∧ ¬ 246 < n) by omega), eq_false (show ¬ (¬ n < 248 ∧ ¬ 767 < n) by omega), eq_false (show ¬ (¬ n < 880 ∧ ¬ 893 < n) by omega), eq_false (show ¬ (¬ n < 895 ∧ ¬ 8191 < n) by omega), eq_false (show ¬ (¬ n < 8204 ∧ ¬ 8205 < n) by omega), eq_false (show ¬ (¬ n < 8304 ∧ ¬ 8591 < n) by omega), eq_false (show ¬ (¬ n < 11264 ∧ ¬ 12271 < n) by omega), eq_false (show ¬ (¬ n < 12289 ∧ ¬ 55295 < n) by omega), eq_false (show ¬ (¬ n < 63744 ∧ ¬ 64975 < n) by omega), eq_false (show ¬ (¬ n < 65008 ∧ ¬ 65533 < n) by omega), eq_false (show ¬ (¬ n < 65536 ∧ ¬ 983039 < n) by omega), eq_true (show (n < 91 ∨ 94 < n) by omega), eq_false (show ¬ (n = 96) by omega), eq_true (show (n < 123 ∨ 191 < n) by omega), eq_false (show ¬ (n = 215) by omega), eq_false (show ¬ (n = 247) by omega), eq_true (show (n < 768 ∨ 879 < n) by omega), eq_false (show ¬ (n = 894) by omega), eq_true (show (n < 8192 ∨ 8203 < n) by omega), eq_true (show (n < 8206 ∨ 8303 < n) by omega), eq_true (show (n < 8592 ∨ 11263 < n) by omega), eq_false (show ¬ (n < 12272 ∨ 12288 < n) by omega), eq_true (show (n < 55296 ∨ 63743 < n) by omega), eq_true (show (n < 64976 ∨ 65007 < n) by omega), eq_true (show (n < 65534 ∨ 65535 < n) by omega), eq_false (show ¬ (n < 65 ∨ 983039 < n) by omega), ↓reduceIte] at hA hB ⊢; subst hA; rw [hB]; all_goals first | rfl | decide
  by_cases q23 : n < 55296
  · simp only [eq_false (show ¬ (¬ n < 97 ∧ ¬ 122 < n) by omega), eq_false (show ¬ (¬ n < 65 ∧ ¬ 90 < n) by omega), eq_false (show ¬ (n = 95) by omega), eq_false (show ¬ (¬ n < 192 ∧ ¬ 214 < n) by omega), eq_false (show ¬ (¬ n < 216 ∧ ¬ 246 < n) by omega), eq_false (show ¬ (¬ n < 248 ∧ ¬ 767 < n) by omega), eq_false (show ¬ (¬ n < 880 ∧ ¬ 893 < n) by omega), eq_false (show ¬ (¬ n < 895 ∧ ¬ 8191 < n) by omega), eq_false (show ¬ (¬ n < 8204 ∧ ¬ 8205 < n) by omega), eq_false (show ¬ (¬ n < 8304 ∧ ¬ 8591 < n) by omega), eq_false (show ¬ (¬ n < 11264 ∧ ¬ 12271 < n) by omega), eq_true (show (¬ n < 12289 ∧ ¬ 55295 < n) by omega), eq_false (show ¬ (¬ n < 63744 ∧ ¬ 64975 < n) by omega), eq_false (show ¬ (¬ n < 65008 ∧ ¬ 65533 < n) by omega), eq_false (show ¬ (¬ n < 65536 ∧ ¬ 983039 < n) by omega), eq_true (show (n < 91 ∨ 94 < n) by omega), eq_false (show ¬ (n = 96) by omega), eq_true (show (n < 123 ∨ 191 < n) by omega), eq_false (show ¬ (n = 215) by omega), eq_false (show ¬ (n = 247) by omega), eq_true (show (n < 768 ∨ 879 < n) by omega), eq_false (show ¬ (n = 894) by omega), eq_true (show (n < 8192 ∨ 8203 < n) by omega), eq_true (show (n < 8206 ∨ 8303 < n) by omega), eq_true (show (n < 8592 ∨ 11263 < n) by omega), eq_true (show (n < 12272 ∨ 12288 < n) by omega), eq_true (show (n < 55296 ∨ 63743 < n) by omega), eq_true (show (n < 64976 ∨ 65007 < n) by omega), eq_true (show (n < 65534 ∨ 65535 < n) by omega), eq_false (show ¬ (n < 65 ∨ 983039 < n) by omega), ↓reduceIte] at hA hB ⊢; subst hA; rw [hB]; all_goals first | rfl | decide
  by_cases q24 : n < 63744
  · simp only [eq_false (show ¬ (¬ n < 97 ∧ ¬ 122 < n) by omega), eq_false (show ¬ (¬ n < 65 ∧ ¬ 90 < n) by omega), eq_false (show ¬ (n = 95) by omega), eq_false (show ¬ (¬ n < 192 ∧ ¬ 214 < n) by omega), eq_false (show ¬ (¬ n < 216 ∧ ¬ 246 < n) by omega), eq_false (show ¬ (¬ n < 248 ∧ ¬ 767 < n) by omega), eq_false (show ¬ (¬ n < 880 ∧ ¬ 893 < n) by omega), eq_false (show ¬ (¬ n < 895 ∧ ¬ 8191 < n) by omega), eq_false (show ¬ (¬ n < 8204 ∧ ¬ 8205 < n) by omega), eq_false (show ¬ (¬ n < 8304 ∧ ¬ 8591 < n) by omega), eq_false (show ¬ (¬ n < 11264 ∧ ¬ 12271 < n) by omega), eq_false (show ¬ (¬ n < 12289 ∧ ¬ 55295 < n) by omega), eq_false (show ¬ (¬ n < 63744 ∧ ¬ 64975 < n) by omega), eq_false (show ¬ (¬ n < 65008 ∧ ¬ 65533 < n) by omega), eq_false (show ¬ (¬ n < 65536 ∧ ¬ 983039 < n) by omega), eq_true (show (n < 91 ∨ 94 < n) by omega), eq_false (show ¬ (n = 96) by omega), eq_true (show (n < 123 ∨ 191 < n) by omega), eq_false (show ¬ (n = 215) by omega), eq_false (show ¬ (n = 247) by omega), eq_true (show (n < 768 ∨ 879 < n) by omega), eq_false (show ¬ (n = 894) by omega), eq_true (show (n < 8192 ∨ 8203 < n) by omega), eq_true (show (n < 8206 ∨ 8303 < n) by omega), eq_true (show (n < 8592 ∨ 11263 < n) by omega), eq_true (show (n < 12272 ∨ 12288 < n) by omega), eq_false (show ¬ (n < 55296 ∨ 63743 < n) by omega), eq_true (show (n < 64976 ∨ 65007 < n) by omega), eq_true (show (n < 65534 ∨ 65535 < n) by omega), eq_false (show ¬ (n < 65 ∨ 983039 < n) by omega), ↓reduceIte] at hA hB ⊢; subst hA; rw [hB]; all_goals first | rfl | decide
  by_cases q25 : n < 64976
  · simp only [eq_false (show ¬ (¬ n < 97 ∧ ¬ 122 < n) by omega), eq_false (show ¬ (¬ n < 65 ∧ ¬ 90 < n) by omega), eq_false (show ¬ (n = 95) by omega), eq_false (show ¬ (¬ n < 192 ∧ ¬ 214 < n) by omega), eq_false (show ¬ (¬ n < 216 ∧ ¬ 246 < n) by omega), eq_false (show ¬ (¬ n < 248 ∧ ¬ 767 < n) by omega), eq_false (show ¬ (¬ n < 880 ∧ ¬ 893 < n) by omega), eq_false (show ¬ (¬ n < 895 ∧ ¬ 8191 < n) by omega), eq_false (show ¬ (¬ n < 8204 ∧ ¬ 8205 < n) by omega), eq_false (show ¬ (¬ n < 8304 ∧ ¬ 8591 < n) by omega), eq_false (show ¬ (¬ n < 11264 ∧ ¬ 12271 < n) by omega), eq_false (show ¬ (¬ n < 12289 ∧ ¬ 55295 < n) by omega), eq_true (show (¬ n < 63744 ∧ ¬ 64975 < n) by omega), eq_false (show ¬ (¬ n < 65008 ∧ ¬ 65533 < n) by omega), eq_false (show ¬ (¬ n < 65536 ∧ ¬ 983039 < n) by omega), eq_true (show (n < 91 ∨ 94 < n) by omega), eq_false (show ¬ (n = 96) by omega), eq_true (show (n < 123 ∨ 191 < n) by omega), eq_false (show ¬ (n = 215) by omega), eq_false (show ¬ (n = 247) by omega), eq_true (show (n < 768 ∨ 879 < n) by omega), eq_false (show ¬ (n = 894) by omega), eq_true (show (n < 8192 ∨ 8203 < n) by omega), eq_true (show (n < 8206 ∨ 8303 < n) by omega), eq_true (show (n < 8592 ∨ 11263 < n) by omega), eq_true (show (n < 12272 ∨ 12288 < n) by omega), eq_true (show (n < 55296 ∨ 63743 < n) by omega), eq_true (show (n < 64976 ∨ 65007 < n) by omega), eq_true (show (n < 65534 ∨ 65535 < n) by omega), eq_false (show ¬ (n < 65 ∨ 983039 < n) by omega), ↓reduceIte] at hA hB ⊢; subst hA; rw [hB]; all_goals first | rfl | decide
  by_cases q26 : n < 65008
  · simp only [eq_false (show ¬ (¬ n < 97 ∧ ¬ 122 < n) by omega), eq_false (show ¬ (¬ n < 65 ∧ ¬ 90 < n) by omega), eq_false (show ¬ (n = 95) by omega), eq_false (show ¬ (¬ n < 192 ∧ ¬ 214 < n) by omega), eq_false (show ¬ (¬ n < 216 ∧ ¬ 246 < n) by omega), eq_false (show ¬ (¬ n < 248 ∧ ¬ 767 < n) by omega), eq_false (show ¬ (¬ n < 880 ∧ ¬ 893 < n) by omega), eq_false (show ¬ (¬ n < 895 ∧ ¬ 8191 < n) by omega), eq_false (show ¬ (¬ n < 8204 ∧ ¬ 8205 < n) by omega), eq_false (show ¬ (¬ n < 8304 ∧ ¬ 8591 < n) by omega), eq_false (show ¬ (¬ n < 11264 ∧ ¬ 12271 < n) by omega), eq_false (show ¬ (¬ n < 12289 ∧ ¬ 55295 < n) by omega), eq_false (show ¬ (¬ n < 63744 ∧ ¬ 64975 < n) by omega), eq_false (show ¬ (¬ n < 65008 ∧ ¬ 65533 < n) by omega), eq_false (show ¬ (¬ n < 65536 ∧ ¬ 983039 < n) by omega), eq_true (show (n < 91 ∨ 94 < n) by omega), eq_false (show ¬ (n = 96) by omega), eq_true (show (n < 123 ∨ 191 < n) by omega), eq_false (show ¬ (n = 215) by omega), eq_false (show ¬ (n = 247) by omega), eq_true (show (n < 768 ∨ 879 < n) by omega), eq_false (show ¬ (n = 894) by omega), eq_true (show (n < 8192 ∨ 8203 < n) by omega), eq_true (show (n < 8206 ∨ 8303 < n) by omega), eq_true (show (n < 8592 ∨ 11263 < n) by omega), eq_true (show (n < 12272 ∨ 12288 < n) by omega), eq_true (show (n < 55296 ∨ 63743 < n) by omega), eq_false (show ¬ (n < 64976 ∨ 65007 < n) by omega), eq_true (show (n < 65534 ∨ 65535 < n) by omega), eq_false (show ¬ (n < 65 ∨ 983039 < n) by omega), ↓reduceIte] at hA hB ⊢; subst hA; rw [hB]; all_goals first | rfl | decide
  by_cases q27 : n < 65534
  · simp only [eq_false (show ¬ (¬ n < 97 ∧ ¬ 122 < n) by omega), eq_false (show ¬ (¬ n < 65 ∧ ¬ 90 < n) by omega), eq_false (show ¬ (n = 95) by omega), eq_false (show ¬ (¬ n < 192 ∧ ¬ 214 < n) by omega), eq_false (show ¬ (¬ n < 216 ∧ ¬ 246 < n) by omega), eq_false (show ¬ (¬ n < 248 ∧ ¬ 767 < n) by omega), eq_false (show ¬ (¬ n < 880 ∧ ¬ 893 < n) by omega), eq_false (show ¬ (¬ n < 895 ∧ ¬ 8191 < n) by omega), eq_false (show ¬ (¬ n < 8204 ∧ ¬ 8205 < n) by omega), eq_false (show ¬ (¬ n < 8304 ∧ ¬ 8591 < n) by omega), eq_false (show ¬ (¬ n < 11264 ∧ ¬ 12271 < n) by omega), eq_false (show ¬ (¬ n < 12289 ∧ ¬ 55295 < n) by omega), eq_false (show ¬ (¬ n < 63744 ∧ ¬ 64975 < n) by omega), eq_true (show (¬ n < 65008 ∧ ¬ 65533 < n) by omega), eq_false (show ¬ (¬ n < 65536 ∧ ¬ 983039 < n) by omega), eq_true (show (n < 91 ∨ 94 < n) by omega), eq_false (show ¬ (n = 96) by omega), eq_true (show (n < 123 ∨ 191 < n) by omega), eq_false (show ¬ (n = 215) by omega), eq_false (show ¬ (n = 247) by omega), eq_true (show (n < 768 ∨ 879 < n) by omega), eq_false (show ¬ (n = 894) by omega), eq_true (show (n < 8192 ∨ 8203 < n) by omega), eq_true (show (n < 8206 ∨ 8303 < n) by omega), eq_true (show (n < 8592 ∨ 11263 < n) by omega), eq_true (show (n < 12272 ∨ 12288 < n) by omega), eq_true (show (n < 55296 ∨ 63743 < n) by omega), eq_true (show (n < 64976 ∨ 65007 < n) by omega), eq_true (show (n < 65534 ∨ 65535 < n) by omega), eq_false (show ¬ (n < 65 ∨ 983039 < n) by omega), ↓reduceIte] at hA hB ⊢; subst hA; rw [hB]; all_goals first | rfl | decide
  by_cases q28 : n < 65536
  · simp only [eq_false (show ¬ (¬ n < 97 ∧ ¬ 122 < n) by omega), eq_false (show ¬ (¬ n < 65 ∧ ¬ 90 < n) by omega), eq_false (show ¬ (n = 95) by omega), eq_false (show ¬ (¬ n < 192 ∧ ¬ 214 < n) by omega), eq_false (show ¬ (¬ n < 216 ∧ ¬ 246 < n) by omega), eq_false (show ¬ (¬ n < 248 ∧ ¬ 767 < n) by omega), eq_false (show ¬ (¬ n < 880 ∧ ¬ 893 < n) by omega), eq_false (show ¬ (¬ n < 895 ∧ ¬ 8191 < n) by omega), eq_false (show ¬ (¬ n < 8204 ∧ ¬ 8205 < n) by omega), eq_false (show ¬ (¬ n < 8304 ∧ ¬ 8591 < n) by omega), eq_false (show ¬ (¬ n < 11264 ∧ ¬ 12271 < n) by omega), eq_false (show ¬ (¬ n < 12289 ∧ ¬ 55295 < n) by omega), eq_false (show ¬ (¬ n < 63744 ∧ ¬ 64975 < n) by omega), eq_false (show ¬ (¬ n < 65008 ∧ ¬ 65533 < n) by omega), eq_false (show ¬ (¬ n < 65536 ∧ ¬ 983039 < n) by omega), eq_true (show (n < 91 ∨ 94 < n) by omega), eq_false (show ¬ (n = 96) by omega), eq_true (show (n < 123 ∨ 191 < n) by omega), eq_false (show ¬ (n = 215) by omega), eq_false (show ¬ (n = 247) by omega), eq_true (show (n < 768 ∨ 879 < n) by omega), eq_false (show ¬ (n = 894) by omega), eq_true (show (n < 8192 ∨ 8203 < n) by omega), eq_true (show (n < 8206 ∨ 8303 < n) by omega), eq_true (show (n < 8592 ∨ 11263 < n) by omega), eq_true (show (n < 12272 ∨ 12288 < n) by omega), eq_true (show (n < 55296 ∨ 63743 < n) by omega), eq_true (show (n < 64976 ∨ 65007 < n) by omega), eq_false (show ¬ (n < 65534 ∨ 65535 < n) by omega), eq_false (show ¬ (n < 65 ∨ 983039 < n) by omega), ↓reduceIte] at hA hB ⊢; subst hA; rw [hB]; all_goals first | rfl | decide
  by_cases q29 : n < 983040
  · simp only [eq_false (show ¬ (¬ n < 97 ∧ ¬ 122 < n) by omega), eq_false (show ¬ (¬ n < 65 ∧ ¬ 90 < n) by omega), eq_false (show ¬ (n = 95) by omega), eq_false (show ¬ (¬ n < 192 ∧ ¬ 214 < n) by omega), eq_false (show ¬ (¬ n < 216 ∧ ¬ 246 < n) by omega), eq_false (show ¬ (¬ n < 248 ∧ ¬ 767 < n) by omega), eq_false (show ¬ (¬ n < 880 ∧ ¬ 893 < n) by omega), eq_false (show ¬ (¬ n < 895 ∧ ¬ 8191 < n) by omega), eq_false (show ¬ (¬ n < 8204 ∧ ¬ 8205 < n) by omega), eq_false (show ¬ (¬ n < 8304 ∧ ¬ 8591 < n) by omega), eq_false (show ¬ (¬ n < 11264 ∧ ¬ 12271 < n) by omega), eq_false (show ¬ (¬ n < 12289 ∧ ¬ 55295 < n) by omega), eq_false (show ¬ (¬ n < 63744 ∧ ¬ 64975 < n) by omega), eq_false (show ¬ (¬ n < 65008 ∧ ¬ 65533 < n) by omega), eq_true (show (¬ n < 65536 ∧ ¬ 983039 < n) by omega), eq_true (show (n < 91 ∨ 94 < n) by omega), eq_false (show ¬ (n = 96) by omega), eq_true (show (n < 123 ∨ 191 < n) by omega), eq_false (show ¬ (n = 215) by omega), eq_false (show ¬ (n = 247) by omega), eq_true (show (n < 768 ∨ 879 < n) by omega), eq_false (show ¬ (n = 894) by omega), eq_true (show (n < 8192 ∨ 8203 < n) by omega), eq_true (show (n < 8206 ∨ 8303 < n) by omega), eq_true (show (n < 8592 ∨ 11263 < n) by omega), eq_true (show (n < 12272 ∨ 12288 < n) by omega), eq_true (show (n < 55296 ∨ 63743 < n) by omega), eq_true (show (n < 64976 ∨ 65007 < n) by omega), eq_true (show (n < 65534 ∨ 65535 < n) by omega), eq_false (show ¬ (n < 65 ∨ 983039 < n) by omega), ↓reduceIte] at hA hB ⊢; subst hA; rw [hB]; all_goals first | rfl | decide
  simp only [eq_false (show ¬ (¬ n < 97 ∧ ¬ 122 < n) by omega), eq_false (show ¬ (¬ n < 65 ∧ ¬ 90 < n) by omega), eq_false (show ¬ (n = 95) by omega), eq_false (show ¬ (¬ n < 192 ∧ ¬ 214 < n) by omega), eq_false (show ¬ (¬ n < 216 ∧ ¬ 246 < n) by omega), eq_false (show ¬ (¬ n < 248 ∧ ¬ 767 < n) by omega), eq_false (show ¬ (¬ n < 880 ∧ ¬ 893 < n) by omega), eq_false (show ¬ (¬ n < 895 ∧ ¬ 8191 < n) by omega), eq_false (show ¬ (¬ n < 8204 ∧ ¬ 8205 < n) by omega), eq_false (show ¬ (¬ n < 8304 ∧ ¬ 8591 < n) by omega), eq_false (show ¬ (¬ n < 11264 ∧ ¬ 12271 < n) by omega), eq_false (show ¬ (¬ n < 12289 ∧ ¬ 55295 < n) by omega), eq_false (show ¬ (¬ n < 63744 ∧ ¬ 64975 < n) by omega), eq_false (show ¬ (¬ n < 65008 ∧ ¬ 65533 < n) by omega), eq_false (show ¬ (¬ n < 65536 ∧ ¬ 983039 < n) by omega), eq_true (show (n < 91 ∨ 94 < n) by omega), eq_false (show ¬ (n = 96) by omega), eq_true (show (n < 123 ∨ 191 < n) by omega), eq_false (show ¬ (n = 215) by omega), eq_false (show ¬ (n = 247) by omega), eq_true (show (n < 768 ∨ 879 < n) by omega), eq_false (show ¬ (n = 894) by omega), eq_true (show (n < 8192 ∨ 8203 < n) by omega), eq_true (show (n < 8206 ∨ 8303 < n) by omega), eq_true (show (n < 8592 ∨ 11263 < n) by omega), eq_true (show (n < 12272 ∨ 12288 < n) by omega), eq_true (show (n < 55296 ∨ 63743 < n) by omega), eq_true (show (n < 64976 ∨ 65007 < n) by omega), eq_true (show (n < 65534 ∨ 65535 < n) by omega), eq_true (show (n < 65 ∨ 983039 < n) by omega), ↓reduceIte] at hA hB ⊢; subst hA; rw [hB]; all_goals first | rfl | decide
theorem ef_0 (m : MethodId) (x0 : Int32) : entryFrame m #[(.int x0)] maxLocals = mkF m 0 #[.val (.int x0), .unset, .unset] [] := by first | rfl | (simp [entryFrame, mkF, argsToLocals, Value.category, maxLocals]; done)
def Q0 (Z : State) (x0 : Int32) (h0 : Heap) (n0 : Nat) (v : Option Value) (h : Heap) (L : List Loc) : Prop := v = some (.int 1) ∧ Fr n0 L
set_option maxRecDepth 65536 in
set_option maxHeartbeats 40000000 in
theorem rm0 (l : Launch) (Z : State) (a0 : Array Value) (hw : ∀ d ∈ tables_1, d.before a0 Z = true) (ws : List Jvm.Cond) (x0 : Int32) (h0 : Heap) (n0 : Nat) (Z0 : n0 ≤ h0.size) :
    MetFree l x (head1 (Jvm.Cond.code x code maxLocals ret :: ws) room_1) (fun a U => a = #[(.int x0)] ∧ Z.Warmed39 U.vm ∧ U.heap = h0) (fun _ _ _ _ _ => True) (fun _ U o U' => ∃ v L, o = .returned v ∧ Q0 Z x0 h0 n0 v U'.heap L ∧ FrameEnd U o U' L 0 0) := by
  refine MetFree.of_bodySF (plainFor_of_name pn_com_example_kiungo_kiungo_pointer_XmlCharsIsNCNameStartCharPinLaw) hisR ?_
  intro p e s m args below meth c s₁ Bd hml0 hP hK
  obtain ⟨rfl, hZ, hh⟩ := hP
  have hx := Bd.exec
  have hby := Bd.bytes
  have hml : c.maxLocals = 3 := hml0
  have hown : s.vm.findClass "com/example/kiungo/kiungo/pointer/XmlCharsIsNCNameStartCharPinLaw" = some m.cls := findClass_of_methodNamed Bd.named
  have hnm := (name_of_methodNamed Bd.named Bd.method).1
  have hlk : meth.locks = false := BodyLoose.notSynchronized Bd
  have X0 : Stand p l e room_1 s m #[(.int x0)] below meth c s₁ [] 0 0 := Stand.of_body Bd
  have e0 : s₁.heap = h0 := by rw [← hh, Bd.state]; rfl
  have N0 := Fr.nil n0
  show own_E p e below s (Q0 Z x0 h0 n0) 0 0 (s₁.setTop (entryFrame m #[(.int x0)] maxLocals))
  refine own_pre (B := s₁.setTop (mkF m 0 #[.val (.int x0), .unset, .unset] [])) ?_ (fun t k => castTop (ef_0 m x0) k)
  refine own_pre (B := s₁.setTop (mkF m 1 #[.val (.int x0), .unset, .unset] [(.int x0)])) ?_ fun t k => XS.iloadN X0.here hx rfl (hb hby at_0) rfl  k
  refine own_pre (B := s₁.setTop (mkF m 3 #[.val (.int x0), .unset, .unset] [(.int (91 : Int32)), (.int x0)])) ?_ fun t k => XS.bipush X0.here hx rfl (hb hby at_1) k
  refine own_pre (B := s₁.setTop (mkF m 5 #[.val (.int x0), .unset, .unset] [(.int (94 : Int32)), (.int (91 : Int32)), (.int x0)])) ?_ fun t k => XS.bipush X0.here hx rfl (hb hby at_3) k
  obtain ⟨_, _, ⟨T1, L1, k1, n1⟩, -, X1, ⟨Lc1, hQ1, l1, y1, z1⟩, st1⟩ := Jvm.LawKit.callS X0 hx (y := (⟨"com/example/kiungo/kiungo/pointer/XmlCharsIsNCNameStartCharPinLaw", "in", "(III)Z"⟩ : MethodName)) hown (mvT hZ (hw _ (List.mem_of_getElem? (i := 0) rfl))) (mvT hZ (hw _ (List.mem_of_getElem? (i := 1) rfl))) (mvT hZ (hw _ (List.mem_of_getElem? (i := 2) rfl))) (mvT hZ (hw _ (List.mem_of_getElem? (i := 3) rfl))) (by decide) (backOf (W := 0) (rm1 l Z a0 hw [] x0 (91 : Int32) (94 : Int32) h0 n0 Z0 ) hZ (hw _ (List.mem_of_getElem? (i := 3) rfl)) (hw _ (List.mem_of_getElem? (i := 2) rfl)) (by decide) (by decide)) (g := (mkF m 5 #[.val (.int x0), .unset, .unset] [(.int (94 : Int32)), (.int (91 : Int32)), (.int x0)])) rfl (by rw [hml]; rfl) (argsL := [(.int x0), (.int (91 : Int32)), (.int (94 : Int32))]) (rest := []) (lenOf pd__III_Z rfl) rfl (by show 2 * 0 + _ ≤ _; exact Nat.le_of_eq rfl) (hb hby at_5) (fun _ _ => ⟨rfl, e0, (by decide : 0 + 0 ≤ _), (by decide : 0 + 0 ≤ _)⟩)
  dsimp only [Pt.U, Pt.locs, Pt.cells, Pt.slots] at X1 l1 y1 z1 st1 hQ1
  subst l1 y1 z1
  obtain ⟨rfl, Nq1, e1⟩ := hQ1
  have N1 := Fr.app N0 Nq1
  refine own_pre (B := T1.setTop (mkF m 8 #[.val (.int x0), .unset, .unset] [(.int (own_in x0 (91 : Int32) (94 : Int32)))])) ?_ st1
  have Jj3 : ∀ (T4 : State) (l4 : List Loc) (X4 : Stand p l e room_1 s m #[(.int x0)] below meth c T4 l4 0 0) (N4 : Fr n0 l4) (e4 : T4.heap = h0) (j3_s0 : Int32) (hvj3_s0 : j3_s0 = (if (own_in x0 (91 : Int32) (94 : Int32)) = (0 : Int32) then (if x0 = (96 : Int32) then (1 : Int32) else (if (own_in x0 (123 : Int32) (191 : Int32)) = (0 : Int32) then (if x0 = (215 : Int32) then (1 : Int32) else (if x0 = (247 : Int32) then (1 : Int32) else (if (own_in x0 (768 : Int32) (879 : Int32)) = (0 : Int32) then (if x0 = (894 : Int32) then (1 : Int32) else (if (own_in x0 (8192 : Int32) (8203 : Int32)) = (0 : Int32) then (if (own_in x0 (8206 : Int32) (8303 : Int32)) = (0 : Int32) then (if (own_in x0 (8592 : Int32) (11263 : Int32)) = (0 : Int32) then (if (own_in x0 (12272 : Int32) (12288 : Int32)) = (0 : Int32) then (if (own_in x0 (55296 : Int32) (63743 : Int32)) = (0 : Int32) then (if (own_in x0 (64976 : Int32) (65007 : Int32)) = (0 : Int32) then (if (own_in x0 (65534 : Int32) (65535 : Int32)) = (0 : Int32) then (0 : Int32) else (1 : Int32)) else (1 : Int32)) else (1 : Int32)) else (1 : Int32)) else (1 : Int32)) else (1 : Int32)) else (1 : Int32))) else (1 : Int32)))) else (1 : Int32))) else (1 : Int32))), own_E p e below s (Q0 Z x0 h0 n0) 0 0 (T4.setTop (mkF m 153 #[.val (.int x0), .unset, .unset] [(.int j3_s0)])) := by
    intro T4 l4 X4 N4 e4 j3_s0 hvj3_s0
    refine own_pre (B := T4.setTop (mkF m 154 #[.val (.int x0), .val (.int j3_s0), .unset] [])) ?_ fun t k => XS.istoreN X4.here hx rfl (hb hby at_153) rfl  (l' := #[.val (.int x0), .val (.int j3_s0), .unset]) rfl k
    refine own_pre (B := T4.setTop (mkF m 155 #[.val (.int x0), .val (.int j3_s0), .unset] [(.int x0)])) ?_ fun t k => XS.iloadN X4.here hx rfl (hb hby at_154) rfl  k
    refine own_pre (B := T4.setTop (mkF m 157 #[.val (.int x0), .val (.int j3_s0), .unset] [(.int (65 : Int32)), (.int x0)])) ?_ fun t k => XS.bipush X4.here hx rfl (hb hby at_155) k
    refine own_pre (B := T4.setTop (mkF m 159 #[.val (.int x0), .val (.int j3_s0), .unset] [(.int (983039 : Int32)), (.int (65 : Int32)), (.int x0)])) ?_ (X4.ldcInt hx hown (mvT hZ (hw _ (List.mem_of_getElem? (i := 10) rfl))) (g := (mkF m 157 #[.val (.int x0), .val (.int j3_s0), .unset] [(.int (65 : Int32)), (.int x0)])) rfl (hb hby at_157))
    obtain ⟨_, _, ⟨T5, L5, k5, n5⟩, -, X5, ⟨Lc5, hQ5, l5, y5, z5⟩, st5⟩ := Jvm.LawKit.callS X4 hx (y := (⟨"com/example/kiungo/kiungo/pointer/XmlCharsIsNCNameStartCharPinLaw", "in", "(III)Z"⟩ : MethodName)) hown (mvT hZ (hw _ (List.mem_of_getElem? (i := 0) rfl))) (mvT hZ (hw _ (List.mem_of_getElem? (i := 1) rfl))) (mvT hZ (hw _ (List.mem_of_getElem? (i := 2) rfl))) (mvT hZ (hw _ (List.mem_of_getElem? (i := 3) rfl))) (by decide) (backOf (W := 0) (rm1 l Z a0 hw [] x0 (65 : Int32) (983039 : Int32) h0 n0 Z0 ) hZ (hw _ (List.mem_of_getElem? (i := 3) rfl)) (hw _ (List.mem_of_getElem? (i := 2) rfl)) (by decide) (by decide)) (g := (mkF m 159 #[.val (.int x0), .val (.int j3_s0), .unset] [(.int (983039 : Int32)), (.int (65 : Int32)), (.int x0)])) rfl (by rw [hml]; rfl) (argsL := [(.int x0), (.int (65 : Int32)), (.int (983039 : Int32))]) (rest := []) (lenOf pd__III_Z rfl) rfl (by show 2 * 0 + _ ≤ _; exact Nat.le_of_eq rfl) (hb hby at_159) (fun _ _ => ⟨rfl, e4, (by decide : 0 + 0 ≤ _), (by decide : 0 + 0 ≤ _)⟩)
    dsimp only [Pt.U, Pt.locs, Pt.cells, Pt.slots] at X5 l5 y5 z5 st5 hQ5
    subst l5 y5 z5
    obtain ⟨rfl, Nq5, e5⟩ := hQ5
    have N5 := Fr.app N4 Nq5
    refine own_pre (B := T5.setTop (mkF m 162 #[.val (.int x0), .val (.int j3_s0), .unset] [(.int (own_in x0 (65 : Int32) (983039 : Int32)))])) ?_ st5
    have Jj7 : ∀ (T8 : State) (l8 : List Loc) (X8 : Stand p l e room_1 s m #[(.int x0)] below meth c T8 l8 0 0) (N8 : Fr n0 l8) (e8 : T8.heap = h0) (j7_s0 : Int32) (hvj7_s0 : j7_s0 = (if (own_in x0 (65 : Int32) (983039 : Int32)) = (0 : Int32) then (0 : Int32) else (if j3_s0 = (0 : Int32) then (1 : Int32) else (0 : Int32)))), own_E p e below s (Q0 Z x0 h0 n0) 0 0 (T8.setTop (mkF m 174 #[.val (.int x0), .val (.int j3_s0), .unset] [(.int j7_s0)])) := by
      intro T8 l8 X8 N8 e8 j7_s0 hvj7_s0
      refine own_pre (B := T8.setTop (mkF m 175 #[.val (.int x0), .val (.int j3_s0), .val (.int j7_s0)] [])) ?_ fun t k => XS.istoreN X8.here hx rfl (hb hby at_174) rfl  (l' := #[.val (.int x0), .val (.int j3_s0), .val (.int j7_s0)]) rfl k
      refine own_pre (B := T8.setTop (mkF m 176 #[.val (.int x0), .val (.int j3_s0), .val (.int j7_s0)] [(.int x0)])) ?_ fun t k => XS.iloadN X8.here hx rfl (hb hby at_175) rfl  k
      obtain ⟨_, _, ⟨T9, L9, k9, n9⟩, -, X9, ⟨Lc9, hQ9, l9, y9, z9⟩, st9⟩ := Jvm.LawKit.callS X8 hx (y := (⟨"com/example/kiungo/kiungo/pointer/XmlChars", "isNCNameStartChar", "(I)Z"⟩ : MethodName)) hown (mvT hZ (hw _ (List.mem_of_getElem? (i := 11) rfl))) (mvT hZ (hw _ (List.mem_of_getElem? (i := 12) rfl))) (mvT hZ (hw _ (List.mem_of_getElem? (i := 13) rfl))) (mvT hZ (hw _ (List.mem_of_getElem? (i := 14) rfl))) (by decide) (backOf (W := 0) (rm2 l Z a0 hw [] x0 h0 n0 Z0 ) hZ (hw _ (List.mem_of_getElem? (i := 14) rfl)) (hw _ (List.mem_of_getElem? (i := 13) rfl)) (by decide) (by decide)) (g := (mkF m 176 #[.val (.int x0), .val (.int j3_s0), .val (.int j7_s0)] [(.int x0)])) rfl (by rw [hml]; rfl) (argsL := [(.int x0)]) (rest := []) (lenOf pd__I_Z rfl) rfl (by show 2 * 0 + _ ≤ _; exact Nat.le_of_eq rfl) (hb hby at_176) (fun _ _ => ⟨rfl, e8, (by decide : 0 + 0 ≤ _), (by decide : 0 + 0 ≤ _)⟩)
      dsimp only [Pt.U, Pt.locs, Pt.cells, Pt.slots] at X9 l9 y9 z9 st9 hQ9
      subst l9 y9 z9
      obtain ⟨rfl, Nq9, e9⟩ := hQ9
      have N9 := Fr.app N8 Nq9
      refine own_pre (B := T9.setTop (mkF m 179 #[.val (.int x0), .val (.int j3_s0), .val (.int j7_s0)] [(.int (own_nc x0))])) ?_ st9
      refine own_pre (B := T9.setTop (mkF m 180 #[.val (.int x0), .val (.int j3_s0), .val (.int j7_s0)] [(.int j7_s0), (.int (own_nc x0))])) ?_ fun t k => XS.iloadN X9.here hx rfl (hb hby at_179) rfl  k
      refine own_pre (B := T9.setTop (mkF m 183 #[.val (.int x0), .val (.int j3_s0), .val (.int j7_s0)] [])) ?_ fun t k => XS.icmpNo X9.here hx rfl (hb hby at_180) rfl (teq (own_fin x0 j3_s0 hvj3_s0 j7_s0 hvj7_s0)).2 k
      refine own_pre (B := T9.setTop (mkF m 184 #[.val (.int x0), .val (.int j3_s0), .val (.int j7_s0)] [(.int (1 : Int32))])) ?_ fun t k => XS.iconst X9.here hx rfl (hb hby at_183) k
      refine own_pre (B := T9.setTop (mkF m 188 #[.val (.int x0), .val (.int j3_s0), .val (.int j7_s0)] [(.int (1 : Int32))])) ?_ fun t k => XS.goto X9.here hx rfl (pc0 := 184) (pc' := 188) rfl (hb hby at_184) (by decide) (by decide) k
      refine own_retN X9 hx hlk (t := .boolean) (z' := (1 : Int32)) Bd.returns (by simp) (hb hby at_188) (by decide) ?_ (by decide) (by decide)
      rw [e9]
      exact ⟨rfl, N9⟩
    by_cases h162_6 : (own_in x0 (65 : Int32) (983039 : Int32)) = (0 : Int32)
    · skip
      refine own_pre (B := T5.setTop (mkF m 173 #[.val (.int x0), .val (.int j3_s0), .unset] [])) ?_ fun t k => XS.ifYes X5.here hx rfl (pc0 := 162) (pc' := 173) rfl (hb hby at_162) rfl ((if0 _ _).trans (teq h162_6).1) (by decide) (by decide) k
      refine own_pre (B := T5.setTop (mkF m 174 #[.val (.int x0), .val (.int j3_s0), .unset] [(.int (0 : Int32))])) ?_ fun t k => XS.iconst X5.here hx rfl (hb hby at_173) k
      exact Jj7 T5 _ X5 N5 e5 ((0 : Int32)) (if_pos h162_6).symm
    · skip
      refine own_pre (B := T5.setTop (mkF m 165 #[.val (.int x0), .val (.int j3_s0), .unset] [])) ?_ fun t k => XS.ifNo X5.here hx rfl (hb hby at_162) rfl ((if0 _ _).trans (feq h162_6).1) k
      refine own_pre (B := T5.setTop (mkF m 166 #[.val (.int x0), .val (.int j3_s0), .unset] [(.int j3_s0)])) ?_ fun t k => XS.iloadN X5.here hx rfl (hb hby at_165) rfl  k
      by_cases h166_10 : j3_s0 = (0 : Int32)
      · skip
        refine own_pre (B := T5.setTop (mkF m 169 #[.val (.int x0), .val (.int j3_s0), .unset] [])) ?_ fun t k => XS.ifNo X5.here hx rfl (hb hby at_166) rfl ((if0 _ _).trans (teq h166_10).2) k
        refine own_pre (B := T5.setTop (mkF m 170 #[.val (.int x0), .val (.int j3_s0), .unset] [(.int (1 : Int32))])) ?_ fun t k => XS.iconst X5.here hx rfl (hb hby at_169) k
        refine own_pre (B := T5.setTop (mkF m 174 #[.val (.int x0), .val (.int j3_s0), .unset] [(.int (1 : Int32))])) ?_ fun t k => XS.goto X5.here hx rfl (pc0 := 170) (pc' := 174) rfl (hb hby at_170) (by decide) (by decide) k
        exact Jj7 T5 _ X5 N5 e5 ((1 : Int32)) ((if_neg h162_6).trans (if_pos h166_10)).symm
      · skip
        refine own_pre (B := T5.setTop (mkF m 173 #[.val (.int x0), .val (.int j3_s0), .unset] [])) ?_ fun t k => XS.ifYes X5.here hx rfl (pc0 := 166) (pc' := 173) rfl (hb hby at_166) rfl ((if0 _ _).trans (feq h166_10).2) (by decide) (by decide) k
        refine own_pre (B := T5.setTop (mkF m 174 #[.val (.int x0), .val (.int j3_s0), .unset] [(.int (0 : Int32))])) ?_ fun t k => XS.iconst X5.here hx rfl (hb hby at_173) k
        exact Jj7 T5 _ X5 N5 e5 ((0 : Int32)) ((if_neg h162_6).trans (if_neg h166_10)).symm
  by_cases h8_2 : (own_in x0 (91 : Int32) (94 : Int32)) = (0 : Int32)
  · skip
    refine own_pre (B := T1.setTop (mkF m 11 #[.val (.int x0), .unset, .unset] [])) ?_ fun t k => XS.ifNo X1.here hx rfl (hb hby at_8) rfl ((if0 _ _).trans (teq h8_2).2) k
    refine own_pre (B := T1.setTop (mkF m 12 #[.val (.int x0), .unset, .unset] [(.int x0)])) ?_ fun t k => XS.iloadN X1.here hx rfl (hb hby at_11) rfl  k
    refine own_pre (B := T1.setTop (mkF m 14 #[.val (.int x0), .unset, .unset] [(.int (96 : Int32)), (.int x0)])) ?_ fun t k => XS.bipush X1.here hx rfl (hb hby at_12) k
    by_cases h14_11 : x0 = (96 : Int32)
    · skip
      refine own_pre (B := T1.setTop (mkF m 148 #[.val (.int x0), .unset, .unset] [])) ?_ fun t k => XS.icmpYes X1.here hx rfl (pc0 := 14) (pc' := 148) rfl (hb hby at_14) rfl (teq h14_11).1 (by decide) (by decide) k
      refine own_pre (B := T1.setTop (mkF m 149 #[.val (.int x0), .unset, .unset] [(.int (1 : Int32))])) ?_ fun t k => XS.iconst X1.here hx rfl (hb hby at_148) k
      refine own_pre (B := T1.setTop (mkF m 153 #[.val (.int x0), .unset, .unset] [(.int (1 : Int32))])) ?_ fun t k => XS.goto X1.here hx rfl (pc0 := 149) (pc' := 153) rfl (hb hby at_149) (by decide) (by decide) k
      exact Jj3 T1 _ X1 N1 e1 ((1 : Int32)) ((if_pos h8_2).trans (if_pos h14_11)).symm
    · skip
      refine own_pre (B := T1.setTop (mkF m 17 #[.val (.int x0), .unset, .unset] [])) ?_ fun t k => XS.icmpNo X1.here hx rfl (hb hby at_14) rfl (feq h14_11).1 k
      refine own_pre (B := T1.setTop (mkF m 18 #[.val (.int x0), .unset, .unset] [(.int x0)])) ?_ fun t k => XS.iloadN X1.here hx rfl (hb hby at_17) rfl  k
      refine own_pre (B := T1.setTop (mkF m 20 #[.val (.int x0), .unset, .unset] [(.int (123 : Int32)), (.int x0)])) ?_ fun t k => XS.bipush X1.here hx rfl (hb hby at_18) k
      refine own_pre (B := T1.setTop (mkF m 23 #[.val (.int x0), .unset, .unset] [(.int (191 : Int32)), (.int (123 : Int32)), (.int x0)])) ?_ fun t k => XS.sipush X1.here hx rfl (hb hby at_20) k
      obtain ⟨_, _, ⟨T12, L12, k12, n12⟩, -, X12, ⟨Lc12, hQ12, l12, y12, z12⟩, st12⟩ := Jvm.LawKit.callS X1 hx (y := (⟨"com/example/kiungo/kiungo/pointer/XmlCharsIsNCNameStartCharPinLaw", "in", "(III)Z"⟩ : MethodName)) hown (mvT hZ (hw _ (List.mem_of_getElem? (i := 0) rfl))) (mvT hZ (hw _ (List.mem_of_getElem? (i := 1) rfl))) (mvT hZ (hw _ (List.mem_of_getElem? (i := 2) rfl))) (mvT hZ (hw _ (List.mem_of_getElem? (i := 3) rfl))) (by decide) (backOf (W := 0) (rm1 l Z a0 hw [] x0 (123 : Int32) (191 : Int32) h0 n0 Z0 ) hZ (hw _ (List.mem_of_getElem? (i := 3) rfl)) (hw _ (List.mem_of_getElem? (i := 2) rfl)) (by decide) (by decide)) (g := (mkF m 23 #[.val (.int x0), .unset, .unset] [(.int (191 : Int32)), (.int (123 : Int32)), (.int x0)])) rfl (by rw [hml]; rfl) (argsL := [(.int x0), (.int (123 : Int32)), (.int (191 : Int32))]) (rest := []) (lenOf pd__III_Z rfl) rfl (by show 2 * 0 + _ ≤ _; exact Nat.le_of_eq rfl) (hb hby at_23) (fun _ _ => ⟨rfl, e1, (by decide : 0 + 0 ≤ _), (by decide : 0 + 0 ≤ _)⟩)
      dsimp only [Pt.U, Pt.locs, Pt.cells, Pt.slots] at X12 l12 y12 z12 st12 hQ12
      subst l12 y12 z12
      obtain ⟨rfl, Nq12, e12⟩ := hQ12
      have N12 := Fr.app N1 Nq12
      refine own_pre (B := T12.setTop (mkF m 26 #[.val (.int x0), .unset, .unset] [(.int (own_in x0 (123 : Int32) (191 : Int32)))])) ?_ st12
      by_cases h26_13 : (own_in x0 (123 : Int32) (191 : Int32)) = (0 : Int32)
      · skip
        refine own_pre (B := T12.setTop (mkF m 29 #[.val (.int x0), .unset, .unset] [])) ?_ fun t k => XS.ifNo X12.here hx rfl (hb hby at_26) rfl ((if0 _ _).trans (teq h26_13).2) k
        refine own_pre (B := T12.setTop (mkF m 30 #[.val (.int x0), .unset, .unset] [(.int x0)])) ?_ fun t k => XS.iloadN X12.here hx rfl (hb hby at_29) rfl  k
        refine own_pre (B := T12.setTop (mkF m 33 #[.val (.int x0), .unset, .unset] [(.int (215 : Int32)), (.int x0)])) ?_ fun t k => XS.sipush X12.here hx rfl (hb hby at_30) k
        by_cases h33_14 : x0 = (215 : Int32)
        · skip
          refine own_pre (B := T12.setTop (mkF m 148 #[.val (.int x0), .unset, .unset] [])) ?_ fun t k => XS.icmpYes X12.here hx rfl (pc0 := 33) (pc' := 148) rfl (hb hby at_33) rfl (teq h33_14).1 (by decide) (by decide) k
          refine own_pre (B := T12.setTop (mkF m 149 #[.val (.int x0), .unset, .unset] [(.int (1 : Int32))])) ?_ fun t k => XS.iconst X12.here hx rfl (hb hby at_148) k
          refine own_pre (B := T12.setTop (mkF m 153 #[.val (.int x0), .unset, .unset] [(.int (1 : Int32))])) ?_ fun t k => XS.goto X12.here hx rfl (pc0 := 149) (pc' := 153) rfl (hb hby at_149) (by decide) (by decide) k
          exact Jj3 T12 _ X12 N12 e12 ((1 : Int32)) ((((if_pos h8_2).trans (if_neg h14_11)).trans (if_pos h26_13)).trans (if_pos h33_14)).symm
        · skip
          refine own_pre (B := T12.setTop (mkF m 36 #[.val (.int x0), .unset, .unset] [])) ?_ fun t k => XS.icmpNo X12.here hx rfl (hb hby at_33) rfl (feq h33_14).1 k
          refine own_pre (B := T12.setTop (mkF m 37 #[.val (.int x0), .unset, .unset] [(.int x0)])) ?_ fun t k => XS.iloadN X12.here hx rfl (hb hby at_36) rfl  k
          refine own_pre (B := T12.setTop (mkF m 40 #[.val (.int x0), .unset, .unset] [(.int (247 : Int32)), (.int x0)])) ?_ fun t k => XS.sipush X12.here hx rfl (hb hby at_37) k
          by_cases h40_15 : x0 = (247 : Int32)
          · skip
            refine own_pre (B := T12.setTop (mkF m 148 #[.val (.int x0), .unset, .unset] [])) ?_ fun t k => XS.icmpYes X12.here hx rfl (pc0 := 40) (pc' := 148) rfl (hb hby at_40) rfl (teq h40_15).1 (by decide) (by decide) k
            refine own_pre (B := T12.setTop (mkF m 149 #[.val (.int x0), .unset, .unset] [(.int (1 : Int32))])) ?_ fun t k => XS.iconst X12.here hx rfl (hb hby at_148) k
            refine own_pre (B := T12.setTop (mkF m 153 #[.val (.int x0), .unset, .unset] [(.int (1 : Int32))])) ?_ fun t k => XS.goto X12.here hx rfl (pc0 := 149) (pc' := 153) rfl (hb hby at_149) (by decide) (by decide) k
            exact Jj3 T12 _ X12 N12 e12 ((1 : Int32)) (((((if_pos h8_2).trans (if_neg h14_11)).trans (if_pos h26_13)).trans (if_neg h33_14)).trans (if_pos h40_15)).symm
          · skip
            refine own_pre (B := T12.setTop (mkF m 43 #[.val (.int x0), .unset, .unset] [])) ?_ fun t k => XS.icmpNo X12.here hx rfl (hb hby at_40) rfl (feq h40_15).1 k
            refine own_pre (B := T12.setTop (mkF m 44 #[.val (.int x0), .unset, .unset] [(.int x0)])) ?_ fun t k => XS.iloadN X12.here hx rfl (hb hby at_43) rfl  k
            refine own_pre (B := T12.setTop (mkF m 47 #[.val (.int x0), .unset, .unset] [(.int (768 : Int32)), (.int x0)])) ?_ fun t k => XS.sipush X12.here hx rfl (hb hby at_44) k
            refine own_pre (B := T12.setTop (mkF m 50 #[.val (.int x0), .unset, .unset] [(.int (879 : Int32)), (.int (768 : Int32)), (.int x0)])) ?_ fun t k => XS.sipush X12.here hx rfl (hb hby at_47) k
            obtain ⟨_, _, ⟨T16, L16, k16, n16⟩, -, X16, ⟨Lc16, hQ16, l16, y16, z16⟩, st16⟩ := Jvm.LawKit.callS X12 hx (y := (⟨"com/example/kiungo/kiungo/pointer/XmlCharsIsNCNameStartCharPinLaw", "in", "(III)Z"⟩ : MethodName)) hown (mvT hZ (hw _ (List.mem_of_getElem? (i := 0) rfl))) (mvT hZ (hw _ (List.mem_of_getElem? (i := 1) rfl))) (mvT hZ (hw _ (List.mem_of_getElem? (i := 2) rfl))) (mvT hZ (hw _ (List.mem_of_getElem? (i := 3) rfl))) (by decide) (backOf (W := 0) (rm1 l Z a0 hw [] x0 (768 : Int32) (879 : Int32) h0 n0 Z0 ) hZ (hw _ (List.mem_of_getElem? (i := 3) rfl)) (hw _ (List.mem_of_getElem? (i := 2) rfl)) (by decide) (by decide)) (g := (mkF m 50 #[.val (.int x0), .unset, .unset] [(.int (879 : Int32)), (.int (768 : Int32)), (.int x0)])) rfl (by rw [hml]; rfl) (argsL := [(.int x0), (.int (768 : Int32)), (.int (879 : Int32))]) (rest := []) (lenOf pd__III_Z rfl) rfl (by show 2 * 0 + _ ≤ _; exact Nat.le_of_eq rfl) (hb hby at_50) (fun _ _ => ⟨rfl, e12, (by decide : 0 + 0 ≤ _), (by decide : 0 + 0 ≤ _)⟩)
            dsimp only [Pt.U, Pt.locs, Pt.cells, Pt.slots] at X16 l16 y16 z16 st16 hQ16
            subst l16 y16 z16
            obtain ⟨rfl, Nq16, e16⟩ := hQ16
            have N16 := Fr.app N12 Nq16
            refine own_pre (B := T16.setTop (mkF m 53 #[.val (.int x0), .unset, .unset] [(.int (own_in x0 (768 : Int32) (879 : Int32)))])) ?_ st16
            by_cases h53_17 : (own_in x0 (768 : Int32) (879 : Int32)) = (0 : Int32)
            · skip
              refine own_pre (B := T16.setTop (mkF m 56 #[.val (.int x0), .unset, .unset] [])) ?_ fun t k => XS.ifNo X16.here hx rfl (hb hby at_53) rfl ((if0 _ _).trans (teq h53_17).2) k
              refine own_pre (B := T16.setTop (mkF m 57 #[.val (.int x0), .unset, .unset] [(.int x0)])) ?_ fun t k => XS.iloadN X16.here hx rfl (hb hby at_56) rfl  k
              refine own_pre (B := T16.setTop (mkF m 60 #[.val (.int x0), .unset, .unset] [(.int (894 : Int32)), (.int x0)])) ?_ fun t k => XS.sipush X16.here hx rfl (hb hby at_57) k
              by_cases h60_18 : x0 = (894 : Int32)
              · skip
                refine own_pre (B := T16.setTop (mkF m 148 #[.val (.int x0), .unset, .unset] [])) ?_ fun t k => XS.icmpYes X16.here hx rfl (pc0 := 60) (pc' := 148) rfl (hb hby at_60) rfl (teq h60_18).1 (by decide) (by decide) k
                refine own_pre (B := T16.setTop (mkF m 149 #[.val (.int x0), .unset, .unset] [(.int (1 : Int32))])) ?_ fun t k => XS.iconst X16.here hx rfl (hb hby at_148) k
                refine own_pre (B := T16.setTop (mkF m 153 #[.val (.int x0), .unset, .unset] [(.int (1 : Int32))])) ?_ fun t k => XS.goto X16.here hx rfl (pc0 := 149) (pc' := 153) rfl (hb hby at_149) (by decide) (by decide) k
                exact Jj3 T16 _ X16 N16 e16 ((1 : Int32)) (((((((if_pos h8_2).trans (if_neg h14_11)).trans (if_pos h26_13)).trans (if_neg h33_14)).trans (if_neg h40_15)).trans (if_pos h53_17)).trans (if_pos h60_18)).symm
              · skip
                refine own_pre (B := T16.setTop (mkF m 63 #[.val (.int x0), .unset, .unset] [])) ?_ fun t k => XS.icmpNo X16.here hx rfl (hb hby at_60) rfl (feq h60_18).1 k
                refine own_pre (B := T16.setTop (mkF m 64 #[.val (.int x0), .unset, .unset] [(.int x0)])) ?_ fun t k => XS.iloadN X16.here hx rfl (hb hby at_63) rfl  k
                refine own_pre (B := T16.setTop (mkF m 67 #[.val (.int x0), .unset, .unset] [(.int (8192 : Int32)), (.int x0)])) ?_ fun t k => XS.sipush X16.here hx rfl (hb hby at_64) k
                refine own_pre (B := T16.setTop (mkF m 70 #[.val (.int x0), .unset, .unset] [(.int (8203 : Int32)), (.int (8192 : Int32)), (.int x0)])) ?_ fun t k => XS.sipush X16.here hx rfl (hb hby at_67) k
                obtain ⟨_, _, ⟨T19, L19, k19, n19⟩, -, X19, ⟨Lc19, hQ19, l19, y19, z19⟩, st19⟩ := Jvm.LawKit.callS X16 hx (y := (⟨"com/example/kiungo/kiungo/pointer/XmlCharsIsNCNameStartCharPinLaw", "in", "(III)Z"⟩ : MethodName)) hown (mvT hZ (hw _ (List.mem_of_getElem? (i := 0) rfl))) (mvT hZ (hw _ (List.mem_of_getElem? (i := 1) rfl))) (mvT hZ (hw _ (List.mem_of_getElem? (i := 2) rfl))) (mvT hZ (hw _ (List.mem_of_getElem? (i := 3) rfl))) (by decide) (backOf (W := 0) (rm1 l Z a0 hw [] x0 (8192 : Int32) (8203 : Int32) h0 n0 Z0 ) hZ (hw _ (List.mem_of_getElem? (i := 3) rfl)) (hw _ (List.mem_of_getElem? (i := 2) rfl)) (by decide) (by decide)) (g := (mkF m 70 #[.val (.int x0), .unset, .unset] [(.int (8203 : Int32)), (.int (8192 : Int32)), (.int x0)])) rfl (by rw [hml]; rfl) (argsL := [(.int x0), (.int (8192 : Int32)), (.int (8203 : Int32))]) (rest := []) (lenOf pd__III_Z rfl) rfl (by show 2 * 0 + _ ≤ _; exact Nat.le_of_eq rfl) (hb hby at_70) (fun _ _ => ⟨rfl, e16, (by decide : 0 + 0 ≤ _), (by decide : 0 + 0 ≤ _)⟩)
                dsimp only [Pt.U, Pt.locs, Pt.cells, Pt.slots] at X19 l19 y19 z19 st19 hQ19
                subst l19 y19 z19
                obtain ⟨rfl, Nq19, e19⟩ := hQ19
                have N19 := Fr.app N16 Nq19
                refine own_pre (B := T19.setTop (mkF m 73 #[.val (.int x0), .unset, .unset] [(.int (own_in x0 (8192 : Int32) (8203 : Int32)))])) ?_ st19
                by_cases h73_20 : (own_in x0 (8192 : Int32) (8203 : Int32)) = (0 : Int32)
                · skip
                  refine own_pre (B := T19.setTop (mkF m 76 #[.val (.int x0), .unset, .unset] [])) ?_ fun t k => XS.ifNo X19.here hx rfl (hb hby at_73) rfl ((if0 _ _).trans (teq h73_20).2) k
                  refine own_pre (B := T19.setTop (mkF m 77 #[.val (.int x0), .unset, .unset] [(.int x0)])) ?_ fun t k => XS.iloadN X19.here hx rfl (hb hby at_76) rfl  k
                  refine own_pre (B := T19.setTop (mkF m 80 #[.val (.int x0), .unset, .unset] [(.int (8206 : Int32)), (.int x0)])) ?_ fun t k => XS.sipush X19.here hx rfl (hb hby at_77) k
                  refine own_pre (B := T19.setTop (mkF m 83 #[.val (.int x0), .unset, .unset] [(.int (8303 : Int32)), (.int (8206 : Int32)), (.int x0)])) ?_ fun t k => XS.sipush X19.here hx rfl (hb hby at_80) k
                  obtain ⟨_, _, ⟨T21, L21, k21, n21⟩, -, X21, ⟨Lc21, hQ21, l21, y21, z21⟩, st21⟩ := Jvm.LawKit.callS X19 hx (y := (⟨"com/example/kiungo/kiungo/pointer/XmlCharsIsNCNameStartCharPinLaw", "in", "(III)Z"⟩ : MethodName)) hown (mvT hZ (hw _ (List.mem_of_getElem? (i := 0) rfl))) (mvT hZ (hw _ (List.mem_of_getElem? (i := 1) rfl))) (mvT hZ (hw _ (List.mem_of_getElem? (i := 2) rfl))) (mvT hZ (hw _ (List.mem_of_getElem? (i := 3) rfl))) (by decide) (backOf (W := 0) (rm1 l Z a0 hw [] x0 (8206 : Int32) (8303 : Int32) h0 n0 Z0 ) hZ (hw _ (List.mem_of_getElem? (i := 3) rfl)) (hw _ (List.mem_of_getElem? (i := 2) rfl)) (by decide) (by decide)) (g := (mkF m 83 #[.val (.int x0), .unset, .unset] [(.int (8303 : Int32)), (.int (8206 : Int32)), (.int x0)])) rfl (by rw [hml]; rfl) (argsL := [(.int x0), (.int (8206 : Int32)), (.int (8303 : Int32))]) (rest := []) (lenOf pd__III_Z rfl) rfl (by show 2 * 0 + _ ≤ _; exact Nat.le_of_eq rfl) (hb hby at_83) (fun _ _ => ⟨rfl, e19, (by decide : 0 + 0 ≤ _), (by decide : 0 + 0 ≤ _)⟩)
                  dsimp only [Pt.U, Pt.locs, Pt.cells, Pt.slots] at X21 l21 y21 z21 st21 hQ21
                  subst l21 y21 z21
                  obtain ⟨rfl, Nq21, e21⟩ := hQ21
                  have N21 := Fr.app N19 Nq21
                  refine own_pre (B := T21.setTop (mkF m 86 #[.val (.int x0), .unset, .unset] [(.int (own_in x0 (8206 : Int32) (8303 : Int32)))])) ?_ st21
                  by_cases h86_22 : (own_in x0 (8206 : Int32) (8303 : Int32)) = (0 : Int32)
                  · skip
                    refine own_pre (B := T21.setTop (mkF m 89 #[.val (.int x0), .unset, .unset] [])) ?_ fun t k => XS.ifNo X21.here hx rfl (hb hby at_86) rfl ((if0 _ _).trans (teq h86_22).2) k
                    refine own_pre (B := T21.setTop (mkF m 90 #[.val (.int x0), .unset, .unset] [(.int x0)])) ?_ fun t k => XS.iloadN X21.here hx rfl (hb hby at_89) rfl  k
                    refine own_pre (B := T21.setTop (mkF m 93 #[.val (.int x0), .unset, .unset] [(.int (8592 : Int32)), (.int x0)])) ?_ fun t k => XS.sipush X21.here hx rfl (hb hby at_90) k
                    refine own_pre (B := T21.setTop (mkF m 96 #[.val (.int x0), .unset, .unset] [(.int (11263 : Int32)), (.int (8592 : Int32)), (.int x0)])) ?_ fun t k => XS.sipush X21.here hx rfl (hb hby at_93) k
                    obtain ⟨_, _, ⟨T23, L23, k23, n23⟩, -, X23, ⟨Lc23, hQ23, l23, y23, z23⟩, st23⟩ := Jvm.LawKit.callS X21 hx (y := (⟨"com/example/kiungo/kiungo/pointer/XmlCharsIsNCNameStartCharPinLaw", "in", "(III)Z"⟩ : MethodName)) hown (mvT hZ (hw _ (List.mem_of_getElem? (i := 0) rfl))) (mvT hZ (hw _ (List.mem_of_getElem? (i := 1) rfl))) (mvT hZ (hw _ (List.mem_of_getElem? (i := 2) rfl))) (mvT hZ (hw _ (List.mem_of_getElem? (i := 3) rfl))) (by decide) (backOf (W := 0) (rm1 l Z a0 hw [] x0 (8592 : Int32) (11263 : Int32) h0 n0 Z0 ) hZ (hw _ (List.mem_of_getElem? (i := 3) rfl)) (hw _ (List.mem_of_getElem? (i := 2) rfl)) (by decide) (by decide)) (g := (mkF m 96 #[.val (.int x0), .unset, .unset] [(.int (11263 : Int32)), (.int (8592 : Int32)), (.int x0)])) rfl (by rw [hml]; rfl) (argsL := [(.int x0), (.int (8592 : Int32)), (.int (11263 : Int32))]) (rest := []) (lenOf pd__III_Z rfl) rfl (by show 2 * 0 + _ ≤ _; exact Nat.le_of_eq rfl) (hb hby at_96) (fun _ _ => ⟨rfl, e21, (by decide : 0 + 0 ≤ _), (by decide : 0 + 0 ≤ _)⟩)
                    dsimp only [Pt.U, Pt.locs, Pt.cells, Pt.slots] at X23 l23 y23 z23 st23 hQ23
                    subst l23 y23 z23
                    obtain ⟨rfl, Nq23, e23⟩ := hQ23
                    have N23 := Fr.app N21 Nq23
                    refine own_pre (B := T23.setTop (mkF m 99 #[.val (.int x0), .unset, .unset] [(.int (own_in x0 (8592 : Int32) (11263 : Int32)))])) ?_ st23
                    by_cases h99_24 : (own_in x0 (8592 : Int32) (11263 : Int32)) = (0 : Int32)
                    · skip
                      refine own_pre (B := T23.setTop (mkF m 102 #[.val (.int x0), .unset, .unset] [])) ?_ fun t k => XS.ifNo X23.here hx rfl (hb hby at_99) rfl ((if0 _ _).trans (teq h99_24).2) k
                      refine own_pre (B := T23.setTop (mkF m 103 #[.val (.int x0), .unset, .unset] [(.int x0)])) ?_ fun t k => XS.iloadN X23.here hx rfl (hb hby at_102) rfl  k
                      refine own_pre (B := T23.setTop (mkF m 106 #[.val (.int x0), .unset, .unset] [(.int (12272 : Int32)), (.int x0)])) ?_ fun t k => XS.sipush X23.here hx rfl (hb hby at_103) k
                      refine own_pre (B := T23.setTop (mkF m 109 #[.val (.int x0), .unset, .unset] [(.int (12288 : Int32)), (.int (12272 : Int32)), (.int x0)])) ?_ fun t k => XS.sipush X23.here hx rfl (hb hby at_106) k
                      obtain ⟨_, _, ⟨T25, L25, k25, n25⟩, -, X25, ⟨Lc25, hQ25, l25, y25, z25⟩, st25⟩ := Jvm.LawKit.callS X23 hx (y := (⟨"com/example/kiungo/kiungo/pointer/XmlCharsIsNCNameStartCharPinLaw", "in", "(III)Z"⟩ : MethodName)) hown (mvT hZ (hw _ (List.mem_of_getElem? (i := 0) rfl))) (mvT hZ (hw _ (List.mem_of_getElem? (i := 1) rfl))) (mvT hZ (hw _ (List.mem_of_getElem? (i := 2) rfl))) (mvT hZ (hw _ (List.mem_of_getElem? (i := 3) rfl))) (by decide) (backOf (W := 0) (rm1 l Z a0 hw [] x0 (12272 : Int32) (12288 : Int32) h0 n0 Z0 ) hZ (hw _ (List.mem_of_getElem? (i := 3) rfl)) (hw _ (List.mem_of_getElem? (i := 2) rfl)) (by decide) (by decide)) (g := (mkF m 109 #[.val (.int x0), .unset, .unset] [(.int (12288 : Int32)), (.int (12272 : Int32)), (.int x0)])) rfl (by rw [hml]; rfl) (argsL := [(.int x0), (.int (12272 : Int32)), (.int (12288 : Int32))]) (rest := []) (lenOf pd__III_Z rfl) rfl (by show 2 * 0 + _ ≤ _; exact Nat.le_of_eq rfl) (hb hby at_109) (fun _ _ => ⟨rfl, e23, (by decide : 0 + 0 ≤ _), (by decide : 0 + 0 ≤ _)⟩)
                      dsimp only [Pt.U, Pt.locs, Pt.cells, Pt.slots] at X25 l25 y25 z25 st25 hQ25
                      subst l25 y25 z25
                      obtain ⟨rfl, Nq25, e25⟩ := hQ25
                      have N25 := Fr.app N23 Nq25
                      refine own_pre (B := T25.setTop (mkF m 112 #[.val (.int x0), .unset, .unset] [(.int (own_in x0 (12272 : Int32) (12288 : Int32)))])) ?_ st25
                      by_cases h112_26 : (own_in x0 (12272 : Int32) (12288 : Int32)) = (0 : Int32)
                      · skip
                        refine own_pre (B := T25.setTop (mkF m 115 #[.val (.int x0), .unset, .unset] [])) ?_ fun t k => XS.ifNo X25.here hx rfl (hb hby at_112) rfl ((if0 _ _).trans (teq h112_26).2) k
                        refine own_pre (B := T25.setTop (mkF m 116 #[.val (.int x0), .unset, .unset] [(.int x0)])) ?_ fun t k => XS.iloadN X25.here hx rfl (hb hby at_115) rfl  k
                        refine own_pre (B := T25.setTop (mkF m 118 #[.val (.int x0), .unset, .unset] [(.int (55296 : Int32)), (.int x0)])) ?_ (X25.ldcInt hx hown (mvT hZ (hw _ (List.mem_of_getElem? (i := 4) rfl))) (g := (mkF m 116 #[.val (.int x0), .unset, .unset] [(.int x0)])) rfl (hb hby at_116))
                        refine own_pre (B := T25.setTop (mkF m 120 #[.val (.int x0), .unset, .unset] [(.int (63743 : Int32)), (.int (55296 : Int32)), (.int x0)])) ?_ (X25.ldcInt hx hown (mvT hZ (hw _ (List.mem_of_getElem? (i := 5) rfl))) (g := (mkF m 118 #[.val (.int x0), .unset, .unset] [(.int (55296 : Int32)), (.int x0)])) rfl (hb hby at_118))
                        obtain ⟨_, _, ⟨T27, L27, k27, n27⟩, -, X27, ⟨Lc27, hQ27, l27, y27, z27⟩, st27⟩ := Jvm.LawKit.callS X25 hx (y := (⟨"com/example/kiungo/kiungo/pointer/XmlCharsIsNCNameStartCharPinLaw", "in", "(III)Z"⟩ : MethodName)) hown (mvT hZ (hw _ (List.mem_of_getElem? (i := 0) rfl))) (mvT hZ (hw _ (List.mem_of_getElem? (i := 1) rfl))) (mvT hZ (hw _ (List.mem_of_getElem? (i := 2) rfl))) (mvT hZ (hw _ (List.mem_of_getElem? (i := 3) rfl))) (by decide) (backOf (W := 0) (rm1 l Z a0 hw [] x0 (55296 : Int32) (63743 : Int32) h0 n0 Z0 ) hZ (hw _ (List.mem_of_getElem? (i := 3) rfl)) (hw _ (List.mem_of_getElem? (i := 2) rfl)) (by decide) (by decide)) (g := (mkF m 120 #[.val (.int x0), .unset, .unset] [(.int (63743 : Int32)), (.int (55296 : Int32)), (.int x0)])) rfl (by rw [hml]; rfl) (argsL := [(.int x0), (.int (55296 : Int32)), (.int (63743 : Int32))]) (rest := []) (lenOf pd__III_Z rfl) rfl (by show 2 * 0 + _ ≤ _; exact Nat.le_of_eq rfl) (hb hby at_120) (fun _ _ => ⟨rfl, e25, (by decide : 0 + 0 ≤ _), (by decide : 0 + 0 ≤ _)⟩)
                        dsimp only [Pt.U, Pt.locs, Pt.cells, Pt.slots] at X27 l27 y27 z27 st27 hQ27
                        subst l27 y27 z27
                        obtain ⟨rfl, Nq27, e27⟩ := hQ27
                        have N27 := Fr.app N25 Nq27
                        refine own_pre (B := T27.setTop (mkF m 123 #[.val (.int x0), .unset, .unset] [(.int (own_in x0 (55296 : Int32) (63743 : Int32)))])) ?_ st27
                        by_cases h123_28 : (own_in x0 (55296 : Int32) (63743 : Int32)) = (0 : Int32)
                        · skip
                          refine own_pre (B := T27.setTop (mkF m 126 #[.val (.int x0), .unset, .unset] [])) ?_ fun t k => XS.ifNo X27.here hx rfl (hb hby at_123) rfl ((if0 _ _).trans (teq h123_28).2) k
                          refine own_pre (B := T27.setTop (mkF m 127 #[.val (.int x0), .unset, .unset] [(.int x0)])) ?_ fun t k => XS.iloadN X27.here hx rfl (hb hby at_126) rfl  k
                          refine own_pre (B := T27.setTop (mkF m 129 #[.val (.int x0), .unset, .unset] [(.int (64976 : Int32)), (.int x0)])) ?_ (X27.ldcInt hx hown (mvT hZ (hw _ (List.mem_of_getElem? (i := 6) rfl))) (g := (mkF m 127 #[.val (.int x0), .unset, .unset] [(.int x0)])) rfl (hb hby at_127))
                          refine own_pre (B := T27.setTop (mkF m 131 #[.val (.int x0), .unset, .unset] [(.int (65007 : Int32)), (.int (64976 : Int32)), (.int x0)])) ?_ (X27.ldcInt hx hown (mvT hZ (hw _ (List.mem_of_getElem? (i := 7) rfl))) (g := (mkF m 129 #[.val (.int x0), .unset, .unset] [(.int (64976 : Int32)), (.int x0)])) rfl (hb hby at_129))
                          obtain ⟨_, _, ⟨T29, L29, k29, n29⟩, -, X29, ⟨Lc29, hQ29, l29, y29, z29⟩, st29⟩ := Jvm.LawKit.callS X27 hx (y := (⟨"com/example/kiungo/kiungo/pointer/XmlCharsIsNCNameStartCharPinLaw", "in", "(III)Z"⟩ : MethodName)) hown (mvT hZ (hw _ (List.mem_of_getElem? (i := 0) rfl))) (mvT hZ (hw _ (List.mem_of_getElem? (i := 1) rfl))) (mvT hZ (hw _ (List.mem_of_getElem? (i := 2) rfl))) (mvT hZ (hw _ (List.mem_of_getElem? (i := 3) rfl))) (by decide) (backOf (W := 0) (rm1 l Z a0 hw [] x0 (64976 : Int32) (65007 : Int32) h0 n0 Z0 ) hZ (hw _ (List.mem_of_getElem? (i := 3) rfl)) (hw _ (List.mem_of_getElem? (i := 2) rfl)) (by decide) (by decide)) (g := (mkF m 131 #[.val (.int x0), .unset, .unset] [(.int (65007 : Int32)), (.int (64976 : Int32)), (.int x0)])) rfl (by rw [hml]; rfl) (argsL := [(.int x0), (.int (64976 : Int32)), (.int (65007 : Int32))]) (rest := []) (lenOf pd__III_Z rfl) rfl (by show 2 * 0 + _ ≤ _; exact Nat.le_of_eq rfl) (hb hby at_131) (fun _ _ => ⟨rfl, e27, (by decide : 0 + 0 ≤ _), (by decide : 0 + 0 ≤ _)⟩)
                          dsimp only [Pt.U, Pt.locs, Pt.cells, Pt.slots] at X29 l29 y29 z29 st29 hQ29
                          subst l29 y29 z29
                          obtain ⟨rfl, Nq29, e29⟩ := hQ29
                          have N29 := Fr.app N27 Nq29
                          refine own_pre (B := T29.setTop (mkF m 134 #[.val (.int x0), .unset, .unset] [(.int (own_in x0 (64976 : Int32) (65007 : Int32)))])) ?_ st29
                          by_cases h134_30 : (own_in x0 (64976 : Int32) (65007 : Int32)) = (0 : Int32)
                          · skip
                            refine own_pre (B := T29.setTop (mkF m 137 #[.val (.int x0), .unset, .unset] [])) ?_ fun t k => XS.ifNo X29.here hx rfl (hb hby at_134) rfl ((if0 _ _).trans (teq h134_30).2) k
                            refine own_pre (B := T29.setTop (mkF m 138 #[.val (.int x0), .unset, .unset] [(.int x0)])) ?_ fun t k => XS.iloadN X29.here hx rfl (hb hby at_137) rfl  k
                            refine own_pre (B := T29.setTop (mkF m 140 #[.val (.int x0), .unset, .unset] [(.int (65534 : Int32)), (.int x0)])) ?_ (X29.ldcInt hx hown (mvT hZ (hw _ (List.mem_of_getElem? (i := 8) rfl))) (g := (mkF m 138 #[.val (.int x0), .unset, .unset] [(.int x0)])) rfl (hb hby at_138))
                            refine own_pre (B := T29.setTop (mkF m 142 #[.val (.int x0), .unset, .unset] [(.int (65535 : Int32)), (.int (65534 : Int32)), (.int x0)])) ?_ (X29.ldcInt hx hown (mvT hZ (hw _ (List.mem_of_getElem? (i := 9) rfl))) (g := (mkF m 140 #[.val (.int x0), .unset, .unset] [(.int (65534 : Int32)), (.int x0)])) rfl (hb hby at_140))
                            obtain ⟨_, _, ⟨T31, L31, k31, n31⟩, -, X31, ⟨Lc31, hQ31, l31, y31, z31⟩, st31⟩ := Jvm.LawKit.callS X29 hx (y := (⟨"com/example/kiungo/kiungo/pointer/XmlCharsIsNCNameStartCharPinLaw", "in", "(III)Z"⟩ : MethodName)) hown (mvT hZ (hw _ (List.mem_of_getElem? (i := 0) rfl))) (mvT hZ (hw _ (List.mem_of_getElem? (i := 1) rfl))) (mvT hZ (hw _ (List.mem_of_getElem? (i := 2) rfl))) (mvT hZ (hw _ (List.mem_of_getElem? (i := 3) rfl))) (by decide) (backOf (W := 0) (rm1 l Z a0 hw [] x0 (65534 : Int32) (65535 : Int32) h0 n0 Z0 ) hZ (hw _ (List.mem_of_getElem? (i := 3) rfl)) (hw _ (List.mem_of_getElem? (i := 2) rfl)) (by decide) (by decide)) (g := (mkF m 142 #[.val (.int x0), .unset, .unset] [(.int (65535 : Int32)), (.int (65534 : Int32)), (.int x0)])) rfl (by rw [hml]; rfl) (argsL := [(.int x0), (.int (65534 : Int32)), (.int (65535 : Int32))]) (rest := []) (lenOf pd__III_Z rfl) rfl (by show 2 * 0 + _ ≤ _; exact Nat.le_of_eq rfl) (hb hby at_142) (fun _ _ => ⟨rfl, e29, (by decide : 0 + 0 ≤ _), (by decide : 0 + 0 ≤ _)⟩)
                            dsimp only [Pt.U, Pt.locs, Pt.cells, Pt.slots] at X31 l31 y31 z31 st31 hQ31
                            subst l31 y31 z31
                            obtain ⟨rfl, Nq31, e31⟩ := hQ31
                            have N31 := Fr.app N29 Nq31
                            refine own_pre (B := T31.setTop (mkF m 145 #[.val (.int x0), .unset, .unset] [(.int (own_in x0 (65534 : Int32) (65535 : Int32)))])) ?_ st31
                            by_cases h145_32 : (own_in x0 (65534 : Int32) (65535 : Int32)) = (0 : Int32)
                            · skip
                              refine own_pre (B := T31.setTop (mkF m 152 #[.val (.int x0), .unset, .unset] [])) ?_ fun t k => XS.ifYes X31.here hx rfl (pc0 := 145) (pc' := 152) rfl (hb hby at_145) rfl ((if0 _ _).trans (teq h145_32).1) (by decide) (by decide) k
                              refine own_pre (B := T31.setTop (mkF m 153 #[.val (.int x0), .unset, .unset] [(.int (0 : Int32))])) ?_ fun t k => XS.iconst X31.here hx rfl (hb hby at_152) k
                              exact Jj3 T31 _ X31 N31 e31 ((0 : Int32)) ((((((((((((((if_pos h8_2).trans (if_neg h14_11)).trans (if_pos h26_13)).trans (if_neg h33_14)).trans (if_neg h40_15)).trans (if_pos h53_17)).trans (if_neg h60_18)).trans (if_pos h73_20)).trans (if_pos h86_22)).trans (if_pos h99_24)).trans (if_pos h112_26)).trans (if_pos h123_28)).trans (if_pos h134_30)).trans (if_pos h145_32)).symm
                            · skip
                              refine own_pre (B := T31.setTop (mkF m 148 #[.val (.int x0), .unset, .unset] [])) ?_ fun t k => XS.ifNo X31.here hx rfl (hb hby at_145) rfl ((if0 _ _).trans (feq h145_32).1) k
                              refine own_pre (B := T31.setTop (mkF m 149 #[.val (.int x0), .unset, .unset] [(.int (1 : Int32))])) ?_ fun t k => XS.iconst X31.here hx rfl (hb hby at_148) k
                              refine own_pre (B := T31.setTop (mkF m 153 #[.val (.int x0), .unset, .unset] [(.int (1 : Int32))])) ?_ fun t k => XS.goto X31.here hx rfl (pc0 := 149) (pc' := 153) rfl (hb hby at_149) (by decide) (by decide) k
                              exact Jj3 T31 _ X31 N31 e31 ((1 : Int32)) ((((((((((((((if_pos h8_2).trans (if_neg h14_11)).trans (if_pos h26_13)).trans (if_neg h33_14)).trans (if_neg h40_15)).trans (if_pos h53_17)).trans (if_neg h60_18)).trans (if_pos h73_20)).trans (if_pos h86_22)).trans (if_pos h99_24)).trans (if_pos h112_26)).trans (if_pos h123_28)).trans (if_pos h134_30)).trans (if_neg h145_32)).symm
                          · skip
                            refine own_pre (B := T29.setTop (mkF m 148 #[.val (.int x0), .unset, .unset] [])) ?_ fun t k => XS.ifYes X29.here hx rfl (pc0 := 134) (pc' := 148) rfl (hb hby at_134) rfl ((if0 _ _).trans (feq h134_30).2) (by decide) (by decide) k
                            refine own_pre (B := T29.setTop (mkF m 149 #[.val (.int x0), .unset, .unset] [(.int (1 : Int32))])) ?_ fun t k => XS.iconst X29.here hx rfl (hb hby at_148) k
                            refine own_pre (B := T29.setTop (mkF m 153 #[.val (.int x0), .unset, .unset] [(.int (1 : Int32))])) ?_ fun t k => XS.goto X29.here hx rfl (pc0 := 149) (pc' := 153) rfl (hb hby at_149) (by decide) (by decide) k
                            exact Jj3 T29 _ X29 N29 e29 ((1 : Int32)) (((((((((((((if_pos h8_2).trans (if_neg h14_11)).trans (if_pos h26_13)).trans (if_neg h33_14)).trans (if_neg h40_15)).trans (if_pos h53_17)).trans (if_neg h60_18)).trans (if_pos h73_20)).trans (if_pos h86_22)).trans (if_pos h99_24)).trans (if_pos h112_26)).trans (if_pos h123_28)).trans (if_neg h134_30)).symm
                        · skip
                          refine own_pre (B := T27.setTop (mkF m 148 #[.val (.int x0), .unset, .unset] [])) ?_ fun t k => XS.ifYes X27.here hx rfl (pc0 := 123) (pc' := 148) rfl (hb hby at_123) rfl ((if0 _ _).trans (feq h123_28).2) (by decide) (by decide) k
                          refine own_pre (B := T27.setTop (mkF m 149 #[.val (.int x0), .unset, .unset] [(.int (1 : Int32))])) ?_ fun t k => XS.iconst X27.here hx rfl (hb hby at_148) k
                          refine own_pre (B := T27.setTop (mkF m 153 #[.val (.int x0), .unset, .unset] [(.int (1 : Int32))])) ?_ fun t k => XS.goto X27.here hx rfl (pc0 := 149) (pc' := 153) rfl (hb hby at_149) (by decide) (by decide) k
                          exact Jj3 T27 _ X27 N27 e27 ((1 : Int32)) ((((((((((((if_pos h8_2).trans (if_neg h14_11)).trans (if_pos h26_13)).trans (if_neg h33_14)).trans (if_neg h40_15)).trans (if_pos h53_17)).trans (if_neg h60_18)).trans (if_pos h73_20)).trans (if_pos h86_22)).trans (if_pos h99_24)).trans (if_pos h112_26)).trans (if_neg h123_28)).symm
                      · skip
                        refine own_pre (B := T25.setTop (mkF m 148 #[.val (.int x0), .unset, .unset] [])) ?_ fun t k => XS.ifYes X25.here hx rfl (pc0 := 112) (pc' := 148) rfl (hb hby at_112) rfl ((if0 _ _).trans (feq h112_26).2) (by decide) (by decide) k
                        refine own_pre (B := T25.setTop (mkF m 149 #[.val (.int x0), .unset, .unset] [(.int (1 : Int32))])) ?_ fun t k => XS.iconst X25.here hx rfl (hb hby at_148) k
                        refine own_pre (B := T25.setTop (mkF m 153 #[.val (.int x0), .unset, .unset] [(.int (1 : Int32))])) ?_ fun t k => XS.goto X25.here hx rfl (pc0 := 149) (pc' := 153) rfl (hb hby at_149) (by decide) (by decide) k
                        exact Jj3 T25 _ X25 N25 e25 ((1 : Int32)) (((((((((((if_pos h8_2).trans (if_neg h14_11)).trans (if_pos h26_13)).trans (if_neg h33_14)).trans (if_neg h40_15)).trans (if_pos h53_17)).trans (if_neg h60_18)).trans (if_pos h73_20)).trans (if_pos h86_22)).trans (if_pos h99_24)).trans (if_neg h112_26)).symm
                    · skip
                      refine own_pre (B := T23.setTop (mkF m 148 #[.val (.int x0), .unset, .unset] [])) ?_ fun t k => XS.ifYes X23.here hx rfl (pc0 := 99) (pc' := 148) rfl (hb hby at_99) rfl ((if0 _ _).trans (feq h99_24).2) (by decide) (by decide) k
                      refine own_pre (B := T23.setTop (mkF m 149 #[.val (.int x0), .unset, .unset] [(.int (1 : Int32))])) ?_ fun t k => XS.iconst X23.here hx rfl (hb hby at_148) k
                      refine own_pre (B := T23.setTop (mkF m 153 #[.val (.int x0), .unset, .unset] [(.int (1 : Int32))])) ?_ fun t k => XS.goto X23.here hx rfl (pc0 := 149) (pc' := 153) rfl (hb hby at_149) (by decide) (by decide) k
                      exact Jj3 T23 _ X23 N23 e23 ((1 : Int32)) ((((((((((if_pos h8_2).trans (if_neg h14_11)).trans (if_pos h26_13)).trans (if_neg h33_14)).trans (if_neg h40_15)).trans (if_pos h53_17)).trans (if_neg h60_18)).trans (if_pos h73_20)).trans (if_pos h86_22)).trans (if_neg h99_24)).symm
                  · skip
                    refine own_pre (B := T21.setTop (mkF m 148 #[.val (.int x0), .unset, .unset] [])) ?_ fun t k => XS.ifYes X21.here hx rfl (pc0 := 86) (pc' := 148) rfl (hb hby at_86) rfl ((if0 _ _).trans (feq h86_22).2) (by decide) (by decide) k
                    refine own_pre (B := T21.setTop (mkF m 149 #[.val (.int x0), .unset, .unset] [(.int (1 : Int32))])) ?_ fun t k => XS.iconst X21.here hx rfl (hb hby at_148) k
                    refine own_pre (B := T21.setTop (mkF m 153 #[.val (.int x0), .unset, .unset] [(.int (1 : Int32))])) ?_ fun t k => XS.goto X21.here hx rfl (pc0 := 149) (pc' := 153) rfl (hb hby at_149) (by decide) (by decide) k
                    exact Jj3 T21 _ X21 N21 e21 ((1 : Int32)) (((((((((if_pos h8_2).trans (if_neg h14_11)).trans (if_pos h26_13)).trans (if_neg h33_14)).trans (if_neg h40_15)).trans (if_pos h53_17)).trans (if_neg h60_18)).trans (if_pos h73_20)).trans (if_neg h86_22)).symm
                · skip
                  refine own_pre (B := T19.setTop (mkF m 148 #[.val (.int x0), .unset, .unset] [])) ?_ fun t k => XS.ifYes X19.here hx rfl (pc0 := 73) (pc' := 148) rfl (hb hby at_73) rfl ((if0 _ _).trans (feq h73_20).2) (by decide) (by decide) k
                  refine own_pre (B := T19.setTop (mkF m 149 #[.val (.int x0), .unset, .unset] [(.int (1 : Int32))])) ?_ fun t k => XS.iconst X19.here hx rfl (hb hby at_148) k
                  refine own_pre (B := T19.setTop (mkF m 153 #[.val (.int x0), .unset, .unset] [(.int (1 : Int32))])) ?_ fun t k => XS.goto X19.here hx rfl (pc0 := 149) (pc' := 153) rfl (hb hby at_149) (by decide) (by decide) k
                  exact Jj3 T19 _ X19 N19 e19 ((1 : Int32)) ((((((((if_pos h8_2).trans (if_neg h14_11)).trans (if_pos h26_13)).trans (if_neg h33_14)).trans (if_neg h40_15)).trans (if_pos h53_17)).trans (if_neg h60_18)).trans (if_neg h73_20)).symm
            · skip
              refine own_pre (B := T16.setTop (mkF m 148 #[.val (.int x0), .unset, .unset] [])) ?_ fun t k => XS.ifYes X16.here hx rfl (pc0 := 53) (pc' := 148) rfl (hb hby at_53) rfl ((if0 _ _).trans (feq h53_17).2) (by decide) (by decide) k
              refine own_pre (B := T16.setTop (mkF m 149 #[.val (.int x0), .unset, .unset] [(.int (1 : Int32))])) ?_ fun t k => XS.iconst X16.here hx rfl (hb hby at_148) k
              refine own_pre (B := T16.setTop (mkF m 153 #[.val (.int x0), .unset, .unset] [(.int (1 : Int32))])) ?_ fun t k => XS.goto X16.here hx rfl (pc0 := 149) (pc' := 153) rfl (hb hby at_149) (by decide) (by decide) k
              exact Jj3 T16 _ X16 N16 e16 ((1 : Int32)) ((((((if_pos h8_2).trans (if_neg h14_11)).trans (if_pos h26_13)).trans (if_neg h33_14)).trans (if_neg h40_15)).trans (if_neg h53_17)).symm
      · skip
        refine own_pre (B := T12.setTop (mkF m 148 #[.val (.int x0), .unset, .unset] [])) ?_ fun t k => XS.ifYes X12.here hx rfl (pc0 := 26) (pc' := 148) rfl (hb hby at_26) rfl ((if0 _ _).trans (feq h26_13).2) (by decide) (by decide) k
        refine own_pre (B := T12.setTop (mkF m 149 #[.val (.int x0), .unset, .unset] [(.int (1 : Int32))])) ?_ fun t k => XS.iconst X12.here hx rfl (hb hby at_148) k
        refine own_pre (B := T12.setTop (mkF m 153 #[.val (.int x0), .unset, .unset] [(.int (1 : Int32))])) ?_ fun t k => XS.goto X12.here hx rfl (pc0 := 149) (pc' := 153) rfl (hb hby at_149) (by decide) (by decide) k
        exact Jj3 T12 _ X12 N12 e12 ((1 : Int32)) (((if_pos h8_2).trans (if_neg h14_11)).trans (if_neg h26_13)).symm
  · skip
    refine own_pre (B := T1.setTop (mkF m 148 #[.val (.int x0), .unset, .unset] [])) ?_ fun t k => XS.ifYes X1.here hx rfl (pc0 := 8) (pc' := 148) rfl (hb hby at_8) rfl ((if0 _ _).trans (feq h8_2).2) (by decide) (by decide) k
    refine own_pre (B := T1.setTop (mkF m 149 #[.val (.int x0), .unset, .unset] [(.int (1 : Int32))])) ?_ fun t k => XS.iconst X1.here hx rfl (hb hby at_148) k
    refine own_pre (B := T1.setTop (mkF m 153 #[.val (.int x0), .unset, .unset] [(.int (1 : Int32))])) ?_ fun t k => XS.goto X1.here hx rfl (pc0 := 149) (pc' := 153) rfl (hb hby at_149) (by decide) (by decide) k
    exact Jj3 T1 _ X1 N1 e1 ((1 : Int32)) (if_neg h8_2).symm
set_option maxRecDepth 65536 in
set_option maxHeartbeats 40000000 in
theorem comes_1 {Post : Tables → Env → Array Value → State → Outcome → State → Prop} (hpost : ∀ tb e args s v u, (limb_1_1.after args s (.returned v) u = true ∧ limb_1_2.after args s (.returned v) u = true ∧ True) → FrameEnd s (.returned v) u (Jvm.fieldLocs frame_1_writes args s ++ Jvm.arrayLocs frame_1_arrays args s ++ Jvm.staticLocs frame_1_statics s) 0 0 → Post tb e args s (.returned v) u) :
    ArmFor flags0 classFile x code maxLocals ret World_1 tables_1 room_1 Calls_1 rest_1 Pre_1 Post := by
  intro l hfl _ _ p e ha hc hk s m args below hf hA hF happ hP
  obtain ⟨hcalls, hrest, hpre⟩ := hP
  obtain ⟨-, -, -, hnamed, -, -, -, hat⟩ := (Spec.applies_iff hf).mp happ
  obtain ⟨hg, hn⟩ := and_e (Cond.before_iff.mp (show (Jvm.Cond.and given_1 narrow_1).before args s = true from hpre))
  obtain ⟨g1, g2⟩ := and_e hg
  obtain ⟨w0, rfl⟩ : ∃ w0 : Value, args = #[w0] := by
    have hs : args.size = 1 := by simpa [Cond.value, given_1] using g1
    obtain ⟨L⟩ := args
    match L, hs with
    | [w0], _ => exact ⟨w0, rfl⟩
  have hw := fun d (hd : d ∈ tables_1) => atoms_spec (ws := Jvm.Cond.code x code maxLocals ret :: tables_1) hat d (List.mem_cons_of_mem _ hd)
  have hfit : Fit s := fun {y c} hc i hi => by
    obtain ⟨ha, rfl⟩ := Array.getElem?_eq_some_iff.mp hc
    have q := List.all_eq_true.mp ((Array.all_eq_true_iff_forall_mem.mp hF) _ (Array.getElem_mem ha)) i (List.mem_range.mpr hi)
    simpa [Array.getElem?_eq_getElem hi] using q
  obtain ⟨i0, ei0⟩ := is_v g2
  obtain rfl : w0 = (.int i0) := Option.some.inj ei0
  obtain ⟨n, o, h1, h2, h3, _, L, rfl, ⟨rfl, N⟩, hq⟩ := rm0 l s _ hw tables_1 i0  s.heap s.heap.size (Nat.le_refl _)  p e ha hc hk s m _ below hf ((Spec.applies_iff_loose hf).mp happ).1 ⟨rfl, State.Warmed39.refl s, rfl⟩ trivial
  refine ⟨n, _, h1, h2, h3, hpost _ _ _ _ _ _ ⟨Cond.after_iff.mpr rfl, Cond.after_iff.mpr (eq_i res_at (Term.int_eval (1)) rfl), trivial⟩ ⟨hq.1, hq.2.1, (hq.2.2.sift fun y hy => Or.inr (N y hy)).mono (by decide) (by decide)⟩⟩
theorem main_1_1 : Claimed_1_1 := comes_1 fun _ _ _ _ _ _ h hF => ⟨h.1, hF⟩
theorem main_1_2 : Claimed_1_2 := comes_1 fun _ _ _ _ _ _ h hF => ⟨h.2.1, hF⟩
end Jvm.Pilot.@@N@@
namespace Jvm.Pilot.@@N@@
open Jvm Jvm.ClassFile Sem Op Lib Jvm.Free Jvm.Stand Jvm.Pilot.@@N@@.Jvm.D
/-! MADE BY PROGRAM (witnessworld.py) out of the Statement's table words and the real class files: 9 classes; the members and pool entries that the words name. The judged class is class 1, her method 2. -/
namespace start1
open Jvm.ClassFile
def u (s : String) : CpInfo := .utf8 (stringToUtf16 s)
/-- a pool by its gaps: so many unusable entries, then the entry; so many at the end -/
def gap : Nat → List CpInfo → List CpInfo
  | 0, r => r
  | n + 1, r => .unusable :: gap n r
def poolList (es : List (Nat × CpInfo)) (last : Nat) : List CpInfo := es.foldr (fun e r => gap e.1 (e.2 :: r)) (gap last [])
def pool (es : List (Nat × CpInfo)) (last : Nat) : Array CpInfo := ⟨poolList es last⟩
def fileOf (pool : Array CpInfo) (this : Nat) (attrs : Array Attribute := #[]) (ms : Array MethodInfo := #[]) (fl : Nat := 33) (sup : Nat := 0) (ifs : Array Nat := #[]) (fds : Array FieldInfo := #[]) : ClassFile where
  minorVersion := 0
  majorVersion := 65
  constantPool := pool
  accessFlags := fl
  thisClass := this
  superClass := sup
  interfaces := ifs
  fields := fds
  methods := ms
  attributes := attrs
def plain (name : String) (sup : Option ClassId) : Class where
  name := name
  kind := .ordinary
  loader := none
  accessFlags := 33
  super := sup
  interfaces := #[]
  cf := none
  fields := #[]
  methods := #[]
  instanceTypes := #[]
  staticTypes := #[]
  resolved := #[]
  callSites := []
  init := .initialized
  statics := none
  mirror := none

def pool0 : Array CpInfo := pool [(5, u "<init>"), (0, u "()V"), (1, .class_ 10), (1, u "java/lang/Object")] 113

def k0m0 : Method := { name := "<init>", desc := "()V", sig := { parameters := [], returnType := none }, accessFlags := 1, code := none }
/-- java/lang/Object -/
def k0 : Class := { plain "java/lang/Object" none with
  accessFlags := 33
  interfaces := #[]
  cf := some (fileOf pool0 8 #[] #[{ accessFlags := 1, nameIndex := 5, descriptorIndex := 6, attributes := #[] }] 33 0 #[] #[])
  fields := #[]
  methods := #[k0m0]
  instanceTypes := #[]
  staticTypes := #[]
  resolved := Array.replicate 124 none
  statics := none }

def pool1 : Array CpInfo := pool [(2, .class_ 4), (1, u "java/lang/Object"), (0, u "<init>"), (0, u "()V"), (0, .methodref 8 9), (0, .class_ 10), (0, .nameAndType 11 12), (0, u "com/example/kiungo/kiungo/pointer/XmlCharsIsNCNameStartCharPinLaw"), (0, u "in"), (0, u "(III)Z"), (0, .integer 55296), (0, .integer 63743), (0, .integer 64976), (0, .integer 65007), (0, .integer 65534), (0, .integer 65535), (0, .integer 983039), (0, .methodref 21 22), (0, .class_ 23), (0, .nameAndType 24 25), (0, u "com/example/kiungo/kiungo/pointer/XmlChars"), (0, u "isNCNameStartChar"), (0, u "(I)Z"), (3, u "law")] 2

def k1m0 : Method := { name := "<init>", desc := "()V", sig := { parameters := [], returnType := none }, accessFlags := 2, code := none }
def k1c1 : Code := { maxStack := 2, maxLocals := 3, code := method_2_code, exceptionTable := #[], attributes := #[] }
def k1m1 : Method := { name := "in", desc := "(III)Z", sig := { parameters := [.int, .int, .int], returnType := some .boolean }, accessFlags := 10, code := some k1c1 }
def k1c2 : Code := { maxStack := 3, maxLocals := 3, code := code, exceptionTable := #[], attributes := #[] }
def k1m2 : Method := { name := "law", desc := "(I)Z", sig := { parameters := [.int], returnType := some .boolean }, accessFlags := 9, code := some k1c2 }
/-- com/example/kiungo/kiungo/pointer/XmlCharsIsNCNameStartCharPinLaw -/
def k1 : Class := { plain "com/example/kiungo/kiungo/pointer/XmlCharsIsNCNameStartCharPinLaw" (some 0) with
  accessFlags := 49
  interfaces := #[]
  cf := some (fileOf pool1 8 #[] #[{ accessFlags := 2, nameIndex := 5, descriptorIndex := 6, attributes := #[] }, { accessFlags := 10, nameIndex := 11, descriptorIndex := 12, attributes := #[] }, { accessFlags := 9, nameIndex := 29, descriptorIndex := 25, attributes := #[] }] 49 2 #[] #[])
  fields := #[]
  methods := #[k1m0, k1m1, k1m2]
  instanceTypes := #[]
  staticTypes := #[]
  resolved := Array.replicate 32 none
  statics := none }

def pool2 : Array CpInfo := pool [(2, .class_ 4), (1, u "java/lang/Object"), (0, u "<init>"), (0, u "()V"), (0, .integer 55295), (1, .integer 65533), (0, .integer 65536), (1, .integer 63744), (0, .integer 64975), (0, .integer 65008), (0, .integer 983039), (1, .class_ 19), (1, u "com/example/kiungo/kiungo/pointer/XmlChars"), (0, u "isNCNameStartChar"), (0, u "(I)Z")] 47

def k2m0 : Method := { name := "<init>", desc := "()V", sig := { parameters := [], returnType := none }, accessFlags := 2, code := none }
def k2c1 : Code := { maxStack := 2, maxLocals := 1, code := prog_226_method_4_code, exceptionTable := #[], attributes := #[] }
def k2m1 : Method := { name := "isNCNameStartChar", desc := "(I)Z", sig := { parameters := [.int], returnType := some .boolean }, accessFlags := 9, code := some k2c1 }
/-- com/example/kiungo/kiungo/pointer/XmlChars -/
def k2 : Class := { plain "com/example/kiungo/kiungo/pointer/XmlChars" (some 0) with
  accessFlags := 33
  interfaces := #[]
  cf := some (fileOf pool2 17 #[] #[{ accessFlags := 2, nameIndex := 5, descriptorIndex := 6, attributes := #[] }, { accessFlags := 9, nameIndex := 20, descriptorIndex := 21, attributes := #[] }] 33 2 #[] #[])
  fields := #[]
  methods := #[k2m0, k2m1]
  instanceTypes := #[]
  staticTypes := #[]
  resolved := Array.replicate 69 none
  statics := none }

def pool3 : Array CpInfo := pool [(1, u "java/lang/Cloneable"), (0, .class_ 1), (0, u "java/lang/Object"), (0, .class_ 3)] 3

/-- java/lang/Cloneable -/
def k3 : Class := { plain "java/lang/Cloneable" (some 0) with
  accessFlags := 1537
  interfaces := #[]
  cf := some (fileOf pool3 2 #[] #[] 1537 4 #[] #[])
  fields := #[]
  methods := #[]
  instanceTypes := #[]
  staticTypes := #[]
  resolved := Array.replicate 8 none
  statics := none }

def pool4 : Array CpInfo := pool [(1, u "java/io/Serializable"), (0, .class_ 1), (0, u "java/lang/Object"), (0, .class_ 3)] 3

/-- java/io/Serializable -/
def k4 : Class := { plain "java/io/Serializable" (some 0) with
  accessFlags := 1537
  interfaces := #[]
  cf := some (fileOf pool4 2 #[] #[] 1537 4 #[] #[])
  fields := #[]
  methods := #[]
  instanceTypes := #[]
  staticTypes := #[]
  resolved := Array.replicate 8 none
  statics := none }

/-- the primitive byte -/
def k5 : Class := { plain "byte" none with kind := .primitive 'B', accessFlags := 0x411 }
/-- [B -/
def k6 : Class := { plain "[B" (some 0) with kind := .array 5 .byte, interfaces := #[3, 4], accessFlags := 1041 }

/-- the primitive int -/
def k7 : Class := { plain "int" none with kind := .primitive 'I', accessFlags := 0x411 }
/-- [I -/
def k8 : Class := { plain "[I" (some 0) with kind := .array 7 .int, interfaces := #[3, 4], accessFlags := 1041 }

def heap : Heap := #[]
def classes : Array Class := #[k0, k1, k2, k3, k4, k5, k6, k7, k8]
def interned : List (Array UInt16 × Addr) := []
def slotsUsed : Nat := 0
def theMethod : MethodId := ⟨1, 2⟩
def args0 : Array Value := #[.int 65]
def aboutOver (below : List Frame) : State where
  vm := { classes := classes, interned := interned.toArray }
  heap := heap
  slotsUsed := slotsUsed
  threads := #[{ frames := .invoking theMethod args0 :: below }]
def below0 : List Frame := [.native { method := ⟨0, 0⟩, args := #[] }]
def about1 : State := aboutOver below0
def p0 : Program := .bare "" "" ""
def e0 : Env := launch0.env 0 0 0
theorem w_frames : about1.frames = Frame.invoking theMethod args0 :: below0 := rfl
set_option maxRecDepth 65536 in
theorem w_args : argsFit about1.vm theMethod args0 = true := by decide +kernel
set_option maxRecDepth 65536 in
theorem w_heap : heapFits about1 = true := by decide +kernel
set_option maxRecDepth 65536 in
theorem w_runnable : about1.curStatus? = some .runnable := by decide +kernel
set_option maxRecDepth 65536 in
theorem w_alone : about1.alone = true := by decide +kernel
set_option maxRecDepth 65536 in
theorem w_named : about1.methodNamed? x = some theMethod := by decide +kernel
set_option maxRecDepth 65536 in
theorem w_hears : about1.hears theMethod below0 = true := by decide +kernel
set_option maxRecDepth 65536 in
theorem w_ripe : about1.ripe theMethod args0 below0 = true := by decide +kernel
theorem w_running : about1.status = .running := rfl
set_option maxRecDepth 65536 in
theorem w_room : about1.hasRoom e0.platform room_1 = true :=
  launch0.hasRoom_least _ room_1 (by decide +kernel) (by decide +kernel) (by decide +kernel) (by decide +kernel) (by decide +kernel) (by decide +kernel)
theorem allAtoms_all (ts : List Jvm.Cond) (a : Array Jvm.Value) (st : Jvm.State) : (allAtoms ts).before a st = ts.all (fun c => c.before a st) := by
  induction ts with
  | nil => rfl
  | cons c t ih =>
    show (Jvm.Cond.and c (allAtoms t)).before a st = _
    rw [Jvm.Cond.before_and, ih, List.all_cons]
def words1 : List Jvm.Cond := Jvm.Cond.code x code maxLocals ret :: tables_1
/-- a 'code' word, met by the world's own term for the bytes: nothing is compared byte by byte -/
theorem code_word {y : MethodName} {bytes : ByteArray} {mx : Nat} {rt : Option FieldType} {a : Array Value} {s : State} {m : MethodId} {meth : Method} {c : Code} (h1 : s.methodNamed? y = some m) (h2 : s.vm.method? m = some meth) (h3 : meth.code = some c) (h4 : c.code = bytes)
    (h5 : (c.maxLocals == mx && c.exceptionTable.isEmpty && decide (c.maxStack ≤ mostOperands) && decide (meth.sig.returnType = rt) && !meth.locks && decide (parseMethodDescriptor y.desc = some meth.sig)) = true) : (Jvm.Cond.code y bytes mx rt).before a s = true := by
  simp only [Bool.and_eq_true, beq_iff_eq, Bool.not_eq_true', decide_eq_true_eq] at h5
  obtain ⟨⟨⟨⟨⟨g1, g2⟩, g3⟩, g4⟩, g5⟩, g6⟩ := h5
  simp [Cond.before, Cond.holds, Cond.value, h1, h2, h3, h4, g1, g2, g3, g4, g5, g6]
def isCode : Jvm.Cond → Bool
  | .code _ _ _ _ => true
  | _ => false
theorem all_split {L : List Jvm.Cond} {P : Jvm.Cond → Bool} (h1 : L.all (fun c => isCode c || P c) = true) (h2 : ∀ c ∈ L.filter isCode, P c = true) : L.all P = true := by
  refine List.all_eq_true.mpr fun c hc => ?_
  have h := List.all_eq_true.mp h1 c hc
  rcases Bool.eq_false_or_eq_true (isCode c) with hi | hi
  · exact h2 c (List.mem_filter.mpr ⟨hc, hi⟩)
  · simpa [hi] using h
set_option maxRecDepth 65536 in
theorem w_c0 : (Jvm.Cond.code x code maxLocals ret).before args0 about1 = true := code_word (m := ⟨1, 2⟩) (meth := k1m2) (c := k1c2) (by decide +kernel) rfl rfl rfl (by decide +kernel)
set_option maxRecDepth 65536 in
theorem w_c1 : (Jvm.Cond.code ({ cls := "com/example/kiungo/kiungo/pointer/XmlCharsIsNCNameStartCharPinLaw", name := "in", desc := "(III)Z" } : Jvm.MethodName) method_2_code (3 : Nat) (Option.some Jvm.ClassFile.FieldType.boolean)).before args0 about1 = true := code_word (m := ⟨1, 1⟩) (meth := k1m1) (c := k1c1) (by decide +kernel) rfl rfl rfl (by decide +kernel)
set_option maxRecDepth 65536 in
theorem w_c2 : (Jvm.Cond.code ({ cls := "com/example/kiungo/kiungo/pointer/XmlChars", name := "isNCNameStartChar", desc := "(I)Z" } : Jvm.MethodName) prog_226_method_4_code (1 : Nat) (Option.some Jvm.ClassFile.FieldType.boolean)).before args0 about1 = true := code_word (m := ⟨2, 1⟩) (meth := k2m1) (c := k2c1) (by decide +kernel) rfl rfl rfl (by decide +kernel)
def codes1 : List Jvm.Cond := [Jvm.Cond.code x code maxLocals ret, Jvm.Cond.code ({ cls := "com/example/kiungo/kiungo/pointer/XmlCharsIsNCNameStartCharPinLaw", name := "in", desc := "(III)Z" } : Jvm.MethodName) method_2_code (3 : Nat) (Option.some Jvm.ClassFile.FieldType.boolean), Jvm.Cond.code ({ cls := "com/example/kiungo/kiungo/pointer/XmlChars", name := "isNCNameStartChar", desc := "(I)Z" } : Jvm.MethodName) prog_226_method_4_code (1 : Nat) (Option.some Jvm.ClassFile.FieldType.boolean)]
set_option maxRecDepth 65536 in
theorem codes_eq : words1.filter isCode = codes1 := rfl
theorem w_codes : ∀ c ∈ words1.filter isCode, c.before args0 about1 = true := by
  rw [codes_eq]
  intro c hc
  simp only [codes1, List.mem_cons, List.not_mem_nil, or_false] at hc
  rcases hc with rfl | rfl | rfl
  · exact w_c0
  · exact w_c1
  · exact w_c2
set_option maxRecDepth 65536 in
theorem w_t1 : words1.all (fun c => isCode c || c.before args0 about1) = true := by decide +kernel
theorem w_tables : (allAtoms (Jvm.Cond.code x code maxLocals ret :: tables_1)).before args0 about1 = true := by
  rw [allAtoms_all]
  show words1.all (fun c => c.before args0 about1) = true
  refine all_split ?_ w_codes
  rw [w_t1]
set_option maxRecDepth 65536 in
theorem w_case : (Jvm.Cond.and given_1 narrow_1).before args0 about1 = true := by decide +kernel
theorem w_applies : (headSpec (Jvm.Cond.code x code maxLocals ret :: tables_1) room_1).applies x e0.platform about1 = true :=
  (Spec.applies_iff w_frames).mpr ⟨w_running, w_runnable, w_alone, w_named, w_hears, w_ripe, w_room, w_tables⟩
theorem atStart : AtStart classFile x code maxLocals ret World_1 tables_1 room_1 Calls_1 rest_1 Pre_1 launch0 p0 e0 about1 theMethod args0 below0 :=
  ⟨lists_1, trivial, launch0.admits_env _ _ _, launch0.least_env, fairChoices_fair.cas, fairChoices_fair.clock, w_frames, w_args, w_heap, w_applies, trivial, trivial, w_case⟩
end start1
theorem witness_1 : WitnessClaimed_1 := ⟨start1.p0, start1.e0, start1.about1, start1.theMethod, start1.args0, start1.below0, start1.atStart⟩
end Jvm.Pilot.@@N@@
