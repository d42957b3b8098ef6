import JvmDerived
import JvmDerived.Pilot.@@N@@Statement
import JvmDerived.Pilot.@@N@@Code
set_option linter.unusedVariables false
set_option linter.unusedSimpArgs false
namespace Jvm.Pilot.@@N@@
open Jvm Jvm.ClassFile Sem Op Lib Jvm.Free Jvm.Stand Jvm.LawKit Jvm.RoadKit Bundle Jvm.Pilot.@@N@@.Jvm.D
section Own
variable {p : Program} {l : Launch} {e : Env} {R : Room} {s : State} {m : MethodId} {args : Array Value} {below : List Frame} {meth : Method} {c : Code} {T : State} {locs : List Loc} {cells slots : Nat} {Z : State} {a0 : Array Value} {h : Heap}
/-- from the state A the body ends as Q says, with at most C cells and S slots made -/
def own_E (p : Program) (e : Env) (below : List Frame) (s : State) (Q : Option Value → Heap → List Loc → Prop) (C S : Nat) (A : State) : Prop :=
  ∃ s₂ o, Steps p.tables e below A s₂ ∧ s₂.status = .running ∧ Ended s₂ below o ∧ ∃ v L, o = .returned v ∧ Q v s₂.heap L ∧ FrameEnd s o s₂ L C S
theorem own_pre {Q : Option Value → Heap → List Loc → Prop} {C S : Nat} {A B : State} (h : own_E p e below s Q C S B) (k : ∀ t, Steps p.tables e below B t → Steps p.tables e below A t) : own_E p e below s Q C S A := by
  obtain ⟨s₂, o, h1, h2⟩ := h
  exact ⟨s₂, o, k _ h1, h2⟩
theorem own_out {Q : Option Value → Heap → List Loc → Prop} {C S : Nat} {A : State} (X : Stand p l e R s m args below meth c T locs cells slots) (hk : meth.locks = false) {v : Option Value} (hv : meth.sig.returnType = none → v = none)
    (st : ∀ fs, (∀ (f : JFrame) (acts : List Action), f.method = m → f.locked = none → f.entered = [] → (doReturn e (T.setTop f) acts v).1 = T.setFrames fs) → Steps p.tables e below A (T.setFrames fs))
    (hQ : Q v T.heap locs) (hc : cells ≤ C) (hs : slots ≤ S) : own_E p e below s Q C S A := by
  obtain ⟨fs, hr, hrun, hended, hW, hsame⟩ := X.leave (v := v) hv hk
  exact ⟨_, _, st fs hr, hrun, hended, _, _, rfl, hQ, ⟨_, rfl⟩, hW, hsame.mono hc hs⟩
theorem own_retN {Q : Option Value → Heap → List Loc → Prop} {C S : Nat} (X : Stand p l e R s m args below meth c T locs cells slots) (hx : p.tables.exec = Jvm.exec) (hk : meth.locks = false) {t : FieldType} {pc : Nat} {Ls : Array Slot} {z z' : Int32} {rest : List Value} (hret : meth.sig.returnType = some t) (ht : t = .boolean ∨ t = .byte ∨ t = .char ∨ t = .short) (hd : decode c.code pc = .ok (.ireturn, 1)) (hn : nar t z = z')
    (hQ : Q (some (.int z')) T.heap locs) (hc : cells ≤ C) (hs : slots ≤ S) : own_E p e below s Q C S (T.setTop (mkF m pc Ls (.int z :: rest))) := by
  subst hn
  exact own_out X hk (fun h => by rw [hret] at h; cases h) (fun fs hr => retN X hx hret ht hd hr) hQ hc hs
theorem own_retI {Q : Option Value → Heap → List Loc → Prop} {C S : Nat} (X : Stand p l e R s m args below meth c T locs cells slots) (hx : p.tables.exec = Jvm.exec) (hk : meth.locks = false) {pc : Nat} {Ls : Array Slot} {z : Int32} {rest : List Value} (hret : meth.sig.returnType = some .int) (hd : decode c.code pc = .ok (.ireturn, 1))
    (hQ : Q (some (.int z)) T.heap locs) (hc : cells ≤ C) (hs : slots ≤ S) : own_E p e below s Q C S (T.setTop (mkF m pc Ls (.int z :: rest))) :=
  own_out X hk (fun h => by rw [hret] at h; cases h) (fun fs hr => retOut X hx hret rfl (Or.inl ⟨rfl, Or.inl rfl, z, rfl⟩) hd hr) hQ hc hs
theorem own_retJ {Q : Option Value → Heap → List Loc → Prop} {C S : Nat} (X : Stand p l e R s m args below meth c T locs cells slots) (hx : p.tables.exec = Jvm.exec) (hk : meth.locks = false) {pc : Nat} {Ls : Array Slot} {z : Int64} {rest : List Value} (hret : meth.sig.returnType = some .long) (hd : decode c.code pc = .ok (.lreturn, 1))
    (hQ : Q (some (.long z)) T.heap locs) (hc : cells ≤ C) (hs : slots ≤ S) : own_E p e below s Q C S (T.setTop (mkF m pc Ls (.long z :: rest))) :=
  own_out X hk (fun h => by rw [hret] at h; cases h) (fun fs hr => retOut X hx hret rfl (Or.inr (Or.inl ⟨rfl, rfl, z, rfl⟩)) hd hr) hQ hc hs
theorem own_nar_ref {t : FieldType} {w : Value} (hw : w.isRef = true) (ht : t.isReference = true) : narrow t w = w := by
  rcases ref_cases hw with rfl | ⟨z, rfl⟩ <;> cases t <;> first | rfl | (cases ht; done)
theorem own_fit_ref {t : FieldType} {w : Value} (hw : w.isRef = true) (ht : t.isReference = true) : fits t w = true := by
  rcases ref_cases hw with rfl | ⟨z, rfl⟩ <;> cases t <;> first | rfl | (cases ht; done)
theorem own_retA {Q : Option Value → Heap → List Loc → Prop} {C S : Nat} (X : Stand p l e R s m args below meth c T locs cells slots) (hx : p.tables.exec = Jvm.exec) (hk : meth.locks = false) {t : FieldType} {pc : Nat} {Ls : Array Slot} {w : Value} {rest : List Value} (hret : meth.sig.returnType = some t) (ht : t.isReference = true) (hw : w.isRef = true) (hd : decode c.code pc = .ok (.areturn, 1))
    (hQ : Q (some w) T.heap locs) (hc : cells ≤ C) (hs : slots ≤ S) : own_E p e below s Q C S (T.setTop (mkF m pc Ls (w :: rest))) :=
  own_out X hk (fun h => by rw [hret] at h; cases h) (fun fs hr => retOut X hx hret (own_nar_ref hw ht) (Or.inr (Or.inr (Or.inr (Or.inr ⟨rfl, ht, hw⟩)))) hd hr) hQ hc hs
theorem own_retV {Q : Option Value → Heap → List Loc → Prop} {C S : Nat} (X : Stand p l e R s m args below meth c T locs cells slots) (hx : p.tables.exec = Jvm.exec) (hk : meth.locks = false) {pc : Nat} {Ls : Array Slot} (hret : meth.sig.returnType = none) (hd : decode c.code pc = .ok (.return_, 1))
    (hQ : Q none T.heap locs) (hc : cells ≤ C) (hs : slots ≤ S) : own_E p e below s Q C S (T.setTop (mkF m pc Ls [])) :=
  own_out X hk (fun _ => rfl) (fun fs hr => X.returnOut hx hret hd hr) hQ hc hs
theorem own_lrem {g : JFrame} {target : State} (X : Stand p l e R s m args below meth c T locs cells slots) (hx : p.tables.exec = Jvm.exec) (hg : g.method = m) {x y : Int64} {rest : List Value} (hd : decode c.code g.pc = .ok (.lrem, 1)) (hs : g.stack = .long y :: .long x :: rest) (hy : y ≠ 0)
    (hr : Steps p.tables e below (T.setTop { g with pc := g.pc + 1, stack := .long (x % y) :: rest }) target) : Steps p.tables e below (T.setTop g) target :=
  XS.lrem X.here hx hg hd hs hy (by rw [lrem_mod]; exact hr)
end Own
def own_isEnd (x : Int32) : Int32 := if x = (13 : Int32) then 1 else if x = (10 : Int32) then 1 else 0
theorem own_law (x : Int32) : own_isEnd (x.toInt8.toInt32) = (if (x &&& (255 : Int32)) = (10 : Int32) then (1 : Int32) else (if (x &&& (255 : Int32)) = (13 : Int32) then (1 : Int32) else (0 : Int32))) := by
  have h1 := c_i2b x
  have h2 := c_mask x 255 8 (by decide) (by decide)
  have e1 : (x.toInt8.toInt32 = (13 : Int32)) ↔ ((x &&& (255 : Int32)) = (13 : Int32)) := by
    rw [← Int32.toInt_inj, ← Int32.toInt_inj, h2, show (13 : Int32).toInt = 13 from rfl]; omega
  have e2 : (x.toInt8.toInt32 = (10 : Int32)) ↔ ((x &&& (255 : Int32)) = (10 : Int32)) := by
    rw [← Int32.toInt_inj, ← Int32.toInt_inj, h2, show (10 : Int32).toInt = 10 from rfl]; omega
  unfold own_isEnd
  simp only [e1, e2]
  by_cases q1 : (x &&& (255 : Int32)) = (13 : Int32)
  · have q2 : ¬ (x &&& (255 : Int32)) = (10 : Int32) := by rw [q1]; decide
    simp [q1]
  · simp [q1]
theorem d1_0 : decode prog_43_method_2_code 0 = .ok (.iload_n 0, 1) := by decide +kernel
theorem d1_1 : decode prog_43_method_2_code 1 = .ok (.bipush 13, 2) := by decide +kernel
theorem d1_3 : decode prog_43_method_2_code 3 = .ok (.if_icmp .eq 9, 3) := by decide +kernel
theorem d1_12 : decode prog_43_method_2_code 12 = .ok (.iconst 1, 1) := by decide +kernel
theorem d1_13 : decode prog_43_method_2_code 13 = .ok (.goto 4, 3) := by decide +kernel
theorem d1_17 : decode prog_43_method_2_code 17 = .ok (.ireturn, 1) := by decide +kernel
theorem d1_6 : decode prog_43_method_2_code 6 = .ok (.iload_n 0, 1) := by decide +kernel
theorem d1_7 : decode prog_43_method_2_code 7 = .ok (.bipush 10, 2) := by decide +kernel
theorem d1_9 : decode prog_43_method_2_code 9 = .ok (.if_icmp .ne 7, 3) := by decide +kernel
theorem d1_16 : decode prog_43_method_2_code 16 = .ok (.iconst 0, 1) := by decide +kernel
theorem pn_com_example_pipecaret_pipecaret_message_Lines : plainName "com/example/pipecaret/pipecaret/message/Lines" = true := by first | (simp [plainName, overriddenIn]; done) | decide +kernel
theorem ef_1 (m : MethodId) (x0 : Int32) : entryFrame m #[(.int x0)] 1 = mkF m 0 #[.val (.int x0)] [] := by first | rfl | (simp [entryFrame, mkF, argsToLocals, Value.category]; done)
def Q1 (Z : State) (x0 : Int32) (h0 : Heap) (n0 : Nat) (v : Option Value) (h : Heap) (L : List Loc) : Prop := v = some (.int (own_isEnd x0)) ∧ Fr n0 L ∧ h = h0
set_option maxRecDepth 65536 in
set_option maxHeartbeats 40000000 in
theorem rm1 (l : Launch) (Z : State) (a0 : Array Value) (hw : ∀ d ∈ tables_1, d.before a0 Z = true) (ws : List Jvm.Cond) (x0 : Int32) (h0 : Heap) (n0 : Nat) (Z0 : n0 ≤ h0.size) :
    MetFree l (⟨"com/example/pipecaret/pipecaret/message/Lines", "isEnd", "(B)Z"⟩ : MethodName) (head1 (Jvm.Cond.code (⟨"com/example/pipecaret/pipecaret/message/Lines", "isEnd", "(B)Z"⟩ : MethodName) prog_43_method_2_code 1 (some .boolean) :: ws) ({ frames := 0, cells := 0, slots := 0, locals := 0 } : Room)) (fun a U => a = #[(.int x0)] ∧ Z.Warmed39 U.vm ∧ U.heap = h0) (fun _ _ _ _ _ => True) (fun _ U o U' => ∃ v L, o = .returned v ∧ Q1 Z x0 h0 n0 v U'.heap L ∧ FrameEnd U o U' L ({ frames := 0, cells := 0, slots := 0, locals := 0 } : Room).cells ({ frames := 0, cells := 0, slots := 0, locals := 0 } : Room).slots) := by
  refine MetFree.of_bodySF (plainFor_of_name pn_com_example_pipecaret_pipecaret_message_Lines) hisR ?_
  intro p e s m args below meth c s₁ Bd hml0 hP hK
  obtain ⟨rfl, hZ, hh⟩ := hP
  have hx := Bd.exec
  have hby := Bd.bytes
  have hml : c.maxLocals = 1 := hml0
  have hown : s.vm.findClass "com/example/pipecaret/pipecaret/message/Lines" = some m.cls := findClass_of_methodNamed Bd.named
  have hnm := (name_of_methodNamed Bd.named Bd.method).1
  have hlk : meth.locks = false := BodyLoose.notSynchronized Bd
  have X0 : Stand p l e ({ frames := 0, cells := 0, slots := 0, locals := 0 } : Room) s m #[(.int x0)] below meth c s₁ [] 0 0 := Stand.of_body Bd
  have e0 : s₁.heap = h0 := by rw [← hh, Bd.state]; rfl
  have N0 := Fr.nil n0
  show own_E p e below s (Q1 Z x0 h0 n0) 0 0 (s₁.setTop (entryFrame m #[(.int x0)] 1))
  refine own_pre (B := s₁.setTop (mkF m 0 #[.val (.int x0)] [])) ?_ (fun t k => castTop (ef_1 m x0) k)
  refine own_pre (B := s₁.setTop (mkF m 1 #[.val (.int x0)] [(.int x0)])) ?_ fun t k => XS.iloadN X0.here hx rfl (hb hby d1_0) rfl  k
  refine own_pre (B := s₁.setTop (mkF m 3 #[.val (.int x0)] [(.int (13 : Int32)), (.int x0)])) ?_ fun t k => XS.bipush X0.here hx rfl (hb hby d1_1) k
  by_cases h3_1 : x0 = (13 : Int32)
  · skip
    refine own_pre (B := s₁.setTop (mkF m 12 #[.val (.int x0)] [])) ?_ fun t k => XS.icmpYes X0.here hx rfl (pc0 := 3) (pc' := 12) rfl (hb hby d1_3) rfl (teq h3_1).1 (by decide) (by decide) k
    refine own_pre (B := s₁.setTop (mkF m 13 #[.val (.int x0)] [(.int (1 : Int32))])) ?_ fun t k => XS.iconst X0.here hx rfl (hb hby d1_12) k
    refine own_pre (B := s₁.setTop (mkF m 17 #[.val (.int x0)] [(.int (1 : Int32))])) ?_ fun t k => XS.goto X0.here hx rfl (pc0 := 13) (pc' := 17) rfl (hb hby d1_13) (by decide) (by decide) k
    refine own_retN X0 hx hlk (t := .boolean) (z' := (1 : Int32)) Bd.returns (by simp) (hb hby d1_17) (by decide) ?_ (by decide) (by decide)
    rw [e0]
    exact ⟨by simp [own_isEnd, h3_1], N0, rfl⟩
  · skip
    refine own_pre (B := s₁.setTop (mkF m 6 #[.val (.int x0)] [])) ?_ fun t k => XS.icmpNo X0.here hx rfl (hb hby d1_3) rfl (feq h3_1).1 k
    refine own_pre (B := s₁.setTop (mkF m 7 #[.val (.int x0)] [(.int x0)])) ?_ fun t k => XS.iloadN X0.here hx rfl (hb hby d1_6) rfl  k
    refine own_pre (B := s₁.setTop (mkF m 9 #[.val (.int x0)] [(.int (10 : Int32)), (.int x0)])) ?_ fun t k => XS.bipush X0.here hx rfl (hb hby d1_7) k
    by_cases h9_2 : x0 = (10 : Int32)
    · skip
      refine own_pre (B := s₁.setTop (mkF m 12 #[.val (.int x0)] [])) ?_ fun t k => XS.icmpNo X0.here hx rfl (hb hby d1_9) rfl (teq h9_2).2 k
      refine own_pre (B := s₁.setTop (mkF m 13 #[.val (.int x0)] [(.int (1 : Int32))])) ?_ fun t k => XS.iconst X0.here hx rfl (hb hby d1_12) k
      refine own_pre (B := s₁.setTop (mkF m 17 #[.val (.int x0)] [(.int (1 : Int32))])) ?_ fun t k => XS.goto X0.here hx rfl (pc0 := 13) (pc' := 17) rfl (hb hby d1_13) (by decide) (by decide) k
      refine own_retN X0 hx hlk (t := .boolean) (z' := (1 : Int32)) Bd.returns (by simp) (hb hby d1_17) (by decide) ?_ (by decide) (by decide)
      rw [e0]
      exact ⟨by simp [own_isEnd, h3_1, h9_2], N0, rfl⟩
    · skip
      refine own_pre (B := s₁.setTop (mkF m 16 #[.val (.int x0)] [])) ?_ fun t k => XS.icmpYes X0.here hx rfl (pc0 := 9) (pc' := 16) rfl (hb hby d1_9) rfl (feq h9_2).2 (by decide) (by decide) k
      refine own_pre (B := s₁.setTop (mkF m 17 #[.val (.int x0)] [(.int (0 : Int32))])) ?_ fun t k => XS.iconst X0.here hx rfl (hb hby d1_16) k
      refine own_retN X0 hx hlk (t := .boolean) (z' := (0 : Int32)) Bd.returns (by simp) (hb hby d1_17) (by decide) ?_ (by decide) (by decide)
      rw [e0]
      exact ⟨by simp [own_isEnd, h3_1, h9_2], N0, rfl⟩
theorem pd__B_Z : parseMethodDescriptor "(B)Z" = some ⟨[.byte], some .boolean⟩ := by decide +kernel
theorem pn_com_example_pipecaret_pipecaret_message_LinesIsEndPinLaw : plainName "com/example/pipecaret/pipecaret/message/LinesIsEndPinLaw" = true := by first | (simp [plainName, overriddenIn]; done) | decide +kernel
theorem ef_0 (m : MethodId) (x0 : Int32) : entryFrame m #[(.int x0)] maxLocals = mkF m 0 #[.val (.int x0), .unset, .unset, .unset] [] := by first | rfl | (simp [entryFrame, mkF, argsToLocals, Value.category, maxLocals]; done)
def Q0 (Z : State) (x0 : Int32) (h0 : Heap) (n0 : Nat) (v : Option Value) (h : Heap) (L : List Loc) : Prop := v = some (.int 1) ∧ Fr n0 L
set_option maxRecDepth 65536 in
set_option maxHeartbeats 40000000 in
theorem rm0 (l : Launch) (Z : State) (a0 : Array Value) (hw : ∀ d ∈ tables_1, d.before a0 Z = true) (ws : List Jvm.Cond) (x0 : Int32) (h0 : Heap) (n0 : Nat) (Z0 : n0 ≤ h0.size) :
    MetFree l x (head1 (Jvm.Cond.code x code maxLocals ret :: ws) room_1) (fun a U => a = #[(.int x0)] ∧ Z.Warmed39 U.vm ∧ U.heap = h0) (fun _ _ _ _ _ => True) (fun _ U o U' => ∃ v L, o = .returned v ∧ Q0 Z x0 h0 n0 v U'.heap L ∧ FrameEnd U o U' L 0 0) := by
  refine MetFree.of_bodySF (plainFor_of_name pn_com_example_pipecaret_pipecaret_message_LinesIsEndPinLaw) hisR ?_
  intro p e s m args below meth c s₁ Bd hml0 hP hK
  obtain ⟨rfl, hZ, hh⟩ := hP
  have hx := Bd.exec
  have hby := Bd.bytes
  have hml : c.maxLocals = 4 := hml0
  have hown : s.vm.findClass "com/example/pipecaret/pipecaret/message/LinesIsEndPinLaw" = some m.cls := findClass_of_methodNamed Bd.named
  have hnm := (name_of_methodNamed Bd.named Bd.method).1
  have hlk : meth.locks = false := BodyLoose.notSynchronized Bd
  have X0 : Stand p l e room_1 s m #[(.int x0)] below meth c s₁ [] 0 0 := Stand.of_body Bd
  have e0 : s₁.heap = h0 := by rw [← hh, Bd.state]; rfl
  have N0 := Fr.nil n0
  show own_E p e below s (Q0 Z x0 h0 n0) 0 0 (s₁.setTop (entryFrame m #[(.int x0)] maxLocals))
  refine own_pre (B := s₁.setTop (mkF m 0 #[.val (.int x0), .unset, .unset, .unset] [])) ?_ (fun t k => castTop (ef_0 m x0) k)
  refine own_pre (B := s₁.setTop (mkF m 1 #[.val (.int x0), .unset, .unset, .unset] [(.int x0)])) ?_ fun t k => XS.iloadN X0.here hx rfl (hb hby at_0) rfl  k
  refine own_pre (B := s₁.setTop (mkF m 2 #[.val (.int x0), .unset, .unset, .unset] [(.int (x0.toInt8.toInt32))])) ?_ fun t k => XS.i2b X0.here hx rfl (hb hby at_1) rfl k
  refine own_pre (B := s₁.setTop (mkF m 3 #[.val (.int x0), .val (.int (x0.toInt8.toInt32)), .unset, .unset] [])) ?_ fun t k => XS.istoreN X0.here hx rfl (hb hby at_2) rfl  (l' := #[.val (.int x0), .val (.int (x0.toInt8.toInt32)), .unset, .unset]) rfl k
  refine own_pre (B := s₁.setTop (mkF m 4 #[.val (.int x0), .val (.int (x0.toInt8.toInt32)), .unset, .unset] [(.int x0)])) ?_ fun t k => XS.iloadN X0.here hx rfl (hb hby at_3) rfl  k
  refine own_pre (B := s₁.setTop (mkF m 7 #[.val (.int x0), .val (.int (x0.toInt8.toInt32)), .unset, .unset] [(.int (255 : Int32)), (.int x0)])) ?_ fun t k => XS.sipush X0.here hx rfl (hb hby at_4) k
  refine own_pre (B := s₁.setTop (mkF m 8 #[.val (.int x0), .val (.int (x0.toInt8.toInt32)), .unset, .unset] [(.int (x0 &&& (255 : Int32)))])) ?_ fun t k => XS.iand X0.here hx rfl (hb hby at_7) rfl k
  refine own_pre (B := s₁.setTop (mkF m 9 #[.val (.int x0), .val (.int (x0.toInt8.toInt32)), .val (.int (x0 &&& (255 : Int32))), .unset] [])) ?_ fun t k => XS.istoreN X0.here hx rfl (hb hby at_8) rfl  (l' := #[.val (.int x0), .val (.int (x0.toInt8.toInt32)), .val (.int (x0 &&& (255 : Int32))), .unset]) rfl k
  refine own_pre (B := s₁.setTop (mkF m 10 #[.val (.int x0), .val (.int (x0.toInt8.toInt32)), .val (.int (x0 &&& (255 : Int32))), .unset] [(.int (x0 &&& (255 : Int32)))])) ?_ fun t k => XS.iloadN X0.here hx rfl (hb hby at_9) rfl  k
  refine own_pre (B := s₁.setTop (mkF m 12 #[.val (.int x0), .val (.int (x0.toInt8.toInt32)), .val (.int (x0 &&& (255 : Int32))), .unset] [(.int (10 : Int32)), (.int (x0 &&& (255 : Int32)))])) ?_ fun t k => XS.bipush X0.here hx rfl (hb hby at_10) k
  have Jj2 : ∀ (T3 : State) (l3 : List Loc) (X3 : Stand p l e room_1 s m #[(.int x0)] below meth c T3 l3 0 0) (N3 : Fr n0 l3) (e3 : T3.heap = h0) (j2_s0 : Int32) (hvj2_s0 : j2_s0 = (if (x0 &&& (255 : Int32)) = (10 : Int32) then (1 : Int32) else (if (x0 &&& (255 : Int32)) = (13 : Int32) then (1 : Int32) else (0 : Int32)))), own_E p e below s (Q0 Z x0 h0 n0) 0 0 (T3.setTop (mkF m 26 #[.val (.int x0), .val (.int (x0.toInt8.toInt32)), .val (.int (x0 &&& (255 : Int32))), .unset] [(.int j2_s0)])) := by
    intro T3 l3 X3 N3 e3 j2_s0 hvj2_s0
    refine own_pre (B := T3.setTop (mkF m 27 #[.val (.int x0), .val (.int (x0.toInt8.toInt32)), .val (.int (x0 &&& (255 : Int32))), .val (.int j2_s0)] [])) ?_ fun t k => XS.istoreN X3.here hx rfl (hb hby at_26) rfl  (l' := #[.val (.int x0), .val (.int (x0.toInt8.toInt32)), .val (.int (x0 &&& (255 : Int32))), .val (.int j2_s0)]) rfl k
    refine own_pre (B := T3.setTop (mkF m 28 #[.val (.int x0), .val (.int (x0.toInt8.toInt32)), .val (.int (x0 &&& (255 : Int32))), .val (.int j2_s0)] [(.int (x0.toInt8.toInt32))])) ?_ fun t k => XS.iloadN X3.here hx rfl (hb hby at_27) rfl  k
    obtain ⟨_, _, ⟨T4, L4, k4, n4⟩, -, X4, ⟨Lc4, hQ4, l4, y4, z4⟩, st4⟩ := Jvm.LawKit.callS X3 hx (y := (⟨"com/example/pipecaret/pipecaret/message/Lines", "isEnd", "(B)Z"⟩ : MethodName)) hown (mvT hZ (hw _ (List.mem_of_getElem? (i := 0) rfl))) (mvT hZ (hw _ (List.mem_of_getElem? (i := 1) rfl))) (mvT hZ (hw _ (List.mem_of_getElem? (i := 2) rfl))) (mvT hZ (hw _ (List.mem_of_getElem? (i := 3) rfl))) (by decide) (backOf (W := 0) (rm1 l Z a0 hw [] (x0.toInt8.toInt32) h0 n0 Z0 ) hZ (hw _ (List.mem_of_getElem? (i := 3) rfl)) (hw _ (List.mem_of_getElem? (i := 2) rfl)) (by decide) (by decide)) (g := (mkF m 28 #[.val (.int x0), .val (.int (x0.toInt8.toInt32)), .val (.int (x0 &&& (255 : Int32))), .val (.int j2_s0)] [(.int (x0.toInt8.toInt32))])) rfl (by rw [hml]; rfl) (argsL := [(.int (x0.toInt8.toInt32))]) (rest := []) (lenOf pd__B_Z rfl) rfl (by show 2 * 0 + _ ≤ _; exact Nat.le_of_eq rfl) (hb hby at_28) (fun _ _ => ⟨rfl, e3, (by decide : 0 + 0 ≤ _), (by decide : 0 + 0 ≤ _)⟩)
    dsimp only [Pt.U, Pt.locs, Pt.cells, Pt.slots] at X4 l4 y4 z4 st4 hQ4
    subst l4 y4 z4
    obtain ⟨rfl, Nq4, e4⟩ := hQ4
    have N4 := Fr.app N3 Nq4
    refine own_pre (B := T4.setTop (mkF m 31 #[.val (.int x0), .val (.int (x0.toInt8.toInt32)), .val (.int (x0 &&& (255 : Int32))), .val (.int j2_s0)] [(.int (own_isEnd (x0.toInt8.toInt32)))])) ?_ st4
    refine own_pre (B := T4.setTop (mkF m 32 #[.val (.int x0), .val (.int (x0.toInt8.toInt32)), .val (.int (x0 &&& (255 : Int32))), .val (.int j2_s0)] [(.int j2_s0), (.int (own_isEnd (x0.toInt8.toInt32)))])) ?_ fun t k => XS.iloadN X4.here hx rfl (hb hby at_31) rfl  k
    refine own_pre (B := T4.setTop (mkF m 35 #[.val (.int x0), .val (.int (x0.toInt8.toInt32)), .val (.int (x0 &&& (255 : Int32))), .val (.int j2_s0)] [])) ?_ fun t k => XS.icmpNo X4.here hx rfl (hb hby at_32) rfl (teq ((own_law x0).trans hvj2_s0.symm)).2 k
    refine own_pre (B := T4.setTop (mkF m 36 #[.val (.int x0), .val (.int (x0.toInt8.toInt32)), .val (.int (x0 &&& (255 : Int32))), .val (.int j2_s0)] [(.int (1 : Int32))])) ?_ fun t k => XS.iconst X4.here hx rfl (hb hby at_35) k
    refine own_pre (B := T4.setTop (mkF m 40 #[.val (.int x0), .val (.int (x0.toInt8.toInt32)), .val (.int (x0 &&& (255 : Int32))), .val (.int j2_s0)] [(.int (1 : Int32))])) ?_ fun t k => XS.goto X4.here hx rfl (pc0 := 36) (pc' := 40) rfl (hb hby at_36) (by decide) (by decide) k
    refine own_retN X4 hx hlk (t := .boolean) (z' := (1 : Int32)) Bd.returns (by simp) (hb hby at_40) (by decide) ?_ (by decide) (by decide)
    rw [e4]
    exact ⟨rfl, N4⟩
  by_cases h12_1 : (x0 &&& (255 : Int32)) = (10 : Int32)
  · skip
    refine own_pre (B := s₁.setTop (mkF m 21 #[.val (.int x0), .val (.int (x0.toInt8.toInt32)), .val (.int (x0 &&& (255 : Int32))), .unset] [])) ?_ fun t k => XS.icmpYes X0.here hx rfl (pc0 := 12) (pc' := 21) rfl (hb hby at_12) rfl (teq h12_1).1 (by decide) (by decide) k
    refine own_pre (B := s₁.setTop (mkF m 22 #[.val (.int x0), .val (.int (x0.toInt8.toInt32)), .val (.int (x0 &&& (255 : Int32))), .unset] [(.int (1 : Int32))])) ?_ fun t k => XS.iconst X0.here hx rfl (hb hby at_21) k
    refine own_pre (B := s₁.setTop (mkF m 26 #[.val (.int x0), .val (.int (x0.toInt8.toInt32)), .val (.int (x0 &&& (255 : Int32))), .unset] [(.int (1 : Int32))])) ?_ fun t k => XS.goto X0.here hx rfl (pc0 := 22) (pc' := 26) rfl (hb hby at_22) (by decide) (by decide) k
    exact Jj2 s₁ _ X0 N0 e0 ((1 : Int32)) (if_pos h12_1).symm
  · skip
    refine own_pre (B := s₁.setTop (mkF m 15 #[.val (.int x0), .val (.int (x0.toInt8.toInt32)), .val (.int (x0 &&& (255 : Int32))), .unset] [])) ?_ fun t k => XS.icmpNo X0.here hx rfl (hb hby at_12) rfl (feq h12_1).1 k
    refine own_pre (B := s₁.setTop (mkF m 16 #[.val (.int x0), .val (.int (x0.toInt8.toInt32)), .val (.int (x0 &&& (255 : Int32))), .unset] [(.int (x0 &&& (255 : Int32)))])) ?_ fun t k => XS.iloadN X0.here hx rfl (hb hby at_15) rfl  k
    refine own_pre (B := s₁.setTop (mkF m 18 #[.val (.int x0), .val (.int (x0.toInt8.toInt32)), .val (.int (x0 &&& (255 : Int32))), .unset] [(.int (13 : Int32)), (.int (x0 &&& (255 : Int32)))])) ?_ fun t k => XS.bipush X0.here hx rfl (hb hby at_16) k
    by_cases h18_5 : (x0 &&& (255 : Int32)) = (13 : Int32)
    · skip
      refine own_pre (B := s₁.setTop (mkF m 21 #[.val (.int x0), .val (.int (x0.toInt8.toInt32)), .val (.int (x0 &&& (255 : Int32))), .unset] [])) ?_ fun t k => XS.icmpNo X0.here hx rfl (hb hby at_18) rfl (teq h18_5).2 k
      refine own_pre (B := s₁.setTop (mkF m 22 #[.val (.int x0), .val (.int (x0.toInt8.toInt32)), .val (.int (x0 &&& (255 : Int32))), .unset] [(.int (1 : Int32))])) ?_ fun t k => XS.iconst X0.here hx rfl (hb hby at_21) k
      refine own_pre (B := s₁.setTop (mkF m 26 #[.val (.int x0), .val (.int (x0.toInt8.toInt32)), .val (.int (x0 &&& (255 : Int32))), .unset] [(.int (1 : Int32))])) ?_ fun t k => XS.goto X0.here hx rfl (pc0 := 22) (pc' := 26) rfl (hb hby at_22) (by decide) (by decide) k
      exact Jj2 s₁ _ X0 N0 e0 ((1 : Int32)) ((if_neg h12_1).trans (if_pos h18_5)).symm
    · skip
      refine own_pre (B := s₁.setTop (mkF m 25 #[.val (.int x0), .val (.int (x0.toInt8.toInt32)), .val (.int (x0 &&& (255 : Int32))), .unset] [])) ?_ fun t k => XS.icmpYes X0.here hx rfl (pc0 := 18) (pc' := 25) rfl (hb hby at_18) rfl (feq h18_5).2 (by decide) (by decide) k
      refine own_pre (B := s₁.setTop (mkF m 26 #[.val (.int x0), .val (.int (x0.toInt8.toInt32)), .val (.int (x0 &&& (255 : Int32))), .unset] [(.int (0 : Int32))])) ?_ fun t k => XS.iconst X0.here hx rfl (hb hby at_25) k
      exact Jj2 s₁ _ X0 N0 e0 ((0 : Int32)) ((if_neg h12_1).trans (if_neg h18_5)).symm
set_option maxRecDepth 65536 in
set_option maxHeartbeats 40000000 in
theorem comes_1 {Post : Tables → Env → Array Value → State → Outcome → State → Prop} (hpost : ∀ tb e args s v u, (limb_1_1.after args s (.returned v) u = true ∧ limb_1_2.after args s (.returned v) u = true ∧ True) → FrameEnd s (.returned v) u (Jvm.fieldLocs frame_1_writes args s ++ Jvm.arrayLocs frame_1_arrays args s ++ Jvm.staticLocs frame_1_statics s) 0 0 → Post tb e args s (.returned v) u) :
    ArmFor flags0 classFile x code maxLocals ret World_1 tables_1 room_1 Calls_1 rest_1 Pre_1 Post := by
  intro l hfl _ _ p e ha hc hk s m args below hf hA hF happ hP
  obtain ⟨hcalls, hrest, hpre⟩ := hP
  obtain ⟨-, -, -, hnamed, -, -, -, hat⟩ := (Spec.applies_iff hf).mp happ
  obtain ⟨hg, hn⟩ := and_e (Cond.before_iff.mp (show (Jvm.Cond.and given_1 narrow_1).before args s = true from hpre))
  obtain ⟨g1, g2⟩ := and_e hg
  obtain ⟨w0, rfl⟩ : ∃ w0 : Value, args = #[w0] := by
    have hs : args.size = 1 := by simpa [Cond.value, given_1] using g1
    obtain ⟨L⟩ := args
    match L, hs with
    | [w0], _ => exact ⟨w0, rfl⟩
  have hw := fun d (hd : d ∈ tables_1) => atoms_spec (ws := Jvm.Cond.code x code maxLocals ret :: tables_1) hat d (List.mem_cons_of_mem _ hd)
  have hfit : Fit s := fun {y c} hc i hi => by
    obtain ⟨ha, rfl⟩ := Array.getElem?_eq_some_iff.mp hc
    have q := List.all_eq_true.mp ((Array.all_eq_true_iff_forall_mem.mp hF) _ (Array.getElem_mem ha)) i (List.mem_range.mpr hi)
    simpa [Array.getElem?_eq_getElem hi] using q
  obtain ⟨i0, ei0⟩ := is_v g2
  obtain rfl : w0 = (.int i0) := Option.some.inj ei0
  obtain ⟨n, o, h1, h2, h3, _, L, rfl, ⟨rfl, N⟩, hq⟩ := rm0 l s _ hw tables_1 i0  s.heap s.heap.size (Nat.le_refl _)  p e ha hc hk s m _ below hf ((Spec.applies_iff_loose hf).mp happ).1 ⟨rfl, State.Warmed39.refl s, rfl⟩ trivial
  refine ⟨n, _, h1, h2, h3, hpost _ _ _ _ _ _ ⟨Cond.after_iff.mpr rfl, Cond.after_iff.mpr (eq_i res_at (Term.int_eval (1)) rfl), trivial⟩ ⟨hq.1, hq.2.1, (hq.2.2.sift fun y hy => Or.inr (N y hy)).mono (by decide) (by decide)⟩⟩
theorem main_1_1 : Claimed_1_1 := comes_1 fun _ _ _ _ _ _ h hF => ⟨h.1, hF⟩
theorem main_1_2 : Claimed_1_2 := comes_1 fun _ _ _ _ _ _ h hF => ⟨h.2.1, hF⟩
end Jvm.Pilot.@@N@@
namespace Jvm.Pilot.@@N@@
open Jvm Jvm.ClassFile Sem Op Lib Jvm.Free Jvm.Stand Jvm.Pilot.@@N@@.Jvm.D
/-! MADE BY PROGRAM (witnessworld.py) out of the Statement's table words and the real class files: 9 classes; the members and pool entries that the words name. The judged class is class 1, her method 1. -/
namespace start1
open Jvm.ClassFile
def u (s : String) : CpInfo := .utf8 (stringToUtf16 s)
/-- a pool by its gaps: so many unusable entries, then the entry; so many at the end -/
def gap : Nat → List CpInfo → List CpInfo
  | 0, r => r
  | n + 1, r => .unusable :: gap n r
def poolList (es : List (Nat × CpInfo)) (last : Nat) : List CpInfo := es.foldr (fun e r => gap e.1 (e.2 :: r)) (gap last [])
def pool (es : List (Nat × CpInfo)) (last : Nat) : Array CpInfo := ⟨poolList es last⟩
def fileOf (pool : Array CpInfo) (this : Nat) (attrs : Array Attribute := #[]) (ms : Array MethodInfo := #[]) (fl : Nat := 33) (sup : Nat := 0) (ifs : Array Nat := #[]) (fds : Array FieldInfo := #[]) : ClassFile where
  minorVersion := 0
  majorVersion := 65
  constantPool := pool
  accessFlags := fl
  thisClass := this
  superClass := sup
  interfaces := ifs
  fields := fds
  methods := ms
  attributes := attrs
def plain (name : String) (sup : Option ClassId) : Class where
  name := name
  kind := .ordinary
  loader := none
  accessFlags := 33
  super := sup
  interfaces := #[]
  cf := none
  fields := #[]
  methods := #[]
  instanceTypes := #[]
  staticTypes := #[]
  resolved := #[]
  callSites := []
  init := .initialized
  statics := none
  mirror := none

def pool0 : Array CpInfo := pool [(5, u "<init>"), (0, u "()V"), (1, .class_ 10), (1, u "java/lang/Object")] 113

def k0m0 : Method := { name := "<init>", desc := "()V", sig := { parameters := [], returnType := none }, accessFlags := 1, code := none }
/-- java/lang/Object -/
def k0 : Class := { plain "java/lang/Object" none with
  accessFlags := 33
  interfaces := #[]
  cf := some (fileOf pool0 8 #[] #[{ accessFlags := 1, nameIndex := 5, descriptorIndex := 6, attributes := #[] }] 33 0 #[] #[])
  fields := #[]
  methods := #[k0m0]
  instanceTypes := #[]
  staticTypes := #[]
  resolved := Array.replicate 124 none
  statics := none }

def pool1 : Array CpInfo := pool [(2, .class_ 4), (1, u "java/lang/Object"), (0, u "<init>"), (0, u "()V"), (0, .methodref 8 9), (0, .class_ 10), (0, .nameAndType 11 12), (0, u "com/example/pipecaret/pipecaret/message/Lines"), (0, u "isEnd"), (0, u "(B)Z"), (0, .class_ 14), (0, u "com/example/pipecaret/pipecaret/message/LinesIsEndPinLaw"), (2, u "law"), (0, u "(I)Z")] 3

def k1m0 : Method := { name := "<init>", desc := "()V", sig := { parameters := [], returnType := none }, accessFlags := 2, code := none }
def k1c1 : Code := { maxStack := 2, maxLocals := 4, code := code, exceptionTable := #[], attributes := #[] }
def k1m1 : Method := { name := "law", desc := "(I)Z", sig := { parameters := [.int], returnType := some .boolean }, accessFlags := 9, code := some k1c1 }
/-- com/example/pipecaret/pipecaret/message/LinesIsEndPinLaw -/
def k1 : Class := { plain "com/example/pipecaret/pipecaret/message/LinesIsEndPinLaw" (some 0) with
  accessFlags := 49
  interfaces := #[]
  cf := some (fileOf pool1 13 #[] #[{ accessFlags := 2, nameIndex := 5, descriptorIndex := 6, attributes := #[] }, { accessFlags := 9, nameIndex := 17, descriptorIndex := 18, attributes := #[] }] 49 2 #[] #[])
  fields := #[]
  methods := #[k1m0, k1m1]
  instanceTypes := #[]
  staticTypes := #[]
  resolved := Array.replicate 22 none
  statics := none }

def pool2 : Array CpInfo := pool [(2, .class_ 4), (1, u "java/lang/Object"), (0, u "<init>"), (0, u "()V"), (0, .class_ 8), (0, u "com/example/pipecaret/pipecaret/message/Lines"), (2, u "isEnd"), (0, u "(B)Z"), (0, u "CR"), (0, u "B"), (2, u "LF"), (9, .class_ 28), (0, u "com/example/pipecaret/pipecaret/message/Lines$Reader")] 2

def k2m0 : Method := { name := "<init>", desc := "()V", sig := { parameters := [], returnType := none }, accessFlags := 2, code := none }
def k2c1 : Code := { maxStack := 2, maxLocals := 1, code := prog_43_method_2_code, exceptionTable := #[], attributes := #[] }
def k2m1 : Method := { name := "isEnd", desc := "(B)Z", sig := { parameters := [.byte], returnType := some .boolean }, accessFlags := 8, code := some k2c1 }
/-- com/example/pipecaret/pipecaret/message/Lines -/
def k2 : Class := { plain "com/example/pipecaret/pipecaret/message/Lines" (some 0) with
  accessFlags := 48
  interfaces := #[]
  cf := some (fileOf pool2 7 #[.nestMembers #[27]] #[{ accessFlags := 2, nameIndex := 5, descriptorIndex := 6, attributes := #[] }, { accessFlags := 8, nameIndex := 11, descriptorIndex := 12, attributes := #[] }] 48 2 #[] #[{ accessFlags := 26, nameIndex := 13, descriptorIndex := 14, attributes := #[] }, { accessFlags := 26, nameIndex := 17, descriptorIndex := 14, attributes := #[] }])
  fields := #[{ name := "CR", type := .byte, accessFlags := 26, slot := 0, constantValue := 0 }, { name := "LF", type := .byte, accessFlags := 26, slot := 1, constantValue := 0 }]
  methods := #[k2m0, k2m1]
  instanceTypes := #[]
  staticTypes := #[.byte, .byte]
  resolved := Array.replicate 31 none
  statics := none }

def pool3 : Array CpInfo := pool [(1, u "java/lang/Cloneable"), (0, .class_ 1), (0, u "java/lang/Object"), (0, .class_ 3)] 3

/-- java/lang/Cloneable -/
def k3 : Class := { plain "java/lang/Cloneable" (some 0) with
  accessFlags := 1537
  interfaces := #[]
  cf := some (fileOf pool3 2 #[] #[] 1537 4 #[] #[])
  fields := #[]
  methods := #[]
  instanceTypes := #[]
  staticTypes := #[]
  resolved := Array.replicate 8 none
  statics := none }

def pool4 : Array CpInfo := pool [(1, u "java/io/Serializable"), (0, .class_ 1), (0, u "java/lang/Object"), (0, .class_ 3)] 3

/-- java/io/Serializable -/
def k4 : Class := { plain "java/io/Serializable" (some 0) with
  accessFlags := 1537
  interfaces := #[]
  cf := some (fileOf pool4 2 #[] #[] 1537 4 #[] #[])
  fields := #[]
  methods := #[]
  instanceTypes := #[]
  staticTypes := #[]
  resolved := Array.replicate 8 none
  statics := none }

/-- the primitive byte -/
def k5 : Class := { plain "byte" none with kind := .primitive 'B', accessFlags := 0x411 }
/-- [B -/
def k6 : Class := { plain "[B" (some 0) with kind := .array 5 .byte, interfaces := #[3, 4], accessFlags := 1041 }

/-- the primitive int -/
def k7 : Class := { plain "int" none with kind := .primitive 'I', accessFlags := 0x411 }
/-- [I -/
def k8 : Class := { plain "[I" (some 0) with kind := .array 7 .int, interfaces := #[3, 4], accessFlags := 1041 }

def heap : Heap := #[]
def classes : Array Class := #[k0, k1, k2, k3, k4, k5, k6, k7, k8]
def interned : List (Array UInt16 × Addr) := []
def slotsUsed : Nat := 0
def theMethod : MethodId := ⟨1, 1⟩
def args0 : Array Value := #[.int 5]
def aboutOver (below : List Frame) : State where
  vm := { classes := classes, interned := interned.toArray }
  heap := heap
  slotsUsed := slotsUsed
  threads := #[{ frames := .invoking theMethod args0 :: below }]
def below0 : List Frame := [.native { method := ⟨0, 0⟩, args := #[] }]
def about1 : State := aboutOver below0
def p0 : Program := .bare "" "" ""
def e0 : Env := launch0.env 0 0 0
theorem w_frames : about1.frames = Frame.invoking theMethod args0 :: below0 := rfl
set_option maxRecDepth 65536 in
theorem w_args : argsFit about1.vm theMethod args0 = true := by decide +kernel
set_option maxRecDepth 65536 in
theorem w_heap : heapFits about1 = true := by decide +kernel
set_option maxRecDepth 65536 in
theorem w_runnable : about1.curStatus? = some .runnable := by decide +kernel
set_option maxRecDepth 65536 in
theorem w_alone : about1.alone = true := by decide +kernel
set_option maxRecDepth 65536 in
theorem w_named : about1.methodNamed? x = some theMethod := by decide +kernel
set_option maxRecDepth 65536 in
theorem w_hears : about1.hears theMethod below0 = true := by decide +kernel
set_option maxRecDepth 65536 in
theorem w_ripe : about1.ripe theMethod args0 below0 = true := by decide +kernel
theorem w_running : about1.status = .running := rfl
set_option maxRecDepth 65536 in
theorem w_room : about1.hasRoom e0.platform room_1 = true :=
  launch0.hasRoom_least _ room_1 (by decide +kernel) (by decide +kernel) (by decide +kernel) (by decide +kernel) (by decide +kernel) (by decide +kernel)
theorem allAtoms_all (ts : List Jvm.Cond) (a : Array Jvm.Value) (st : Jvm.State) : (allAtoms ts).before a st = ts.all (fun c => c.before a st) := by
  induction ts with
  | nil => rfl
  | cons c t ih =>
    show (Jvm.Cond.and c (allAtoms t)).before a st = _
    rw [Jvm.Cond.before_and, ih, List.all_cons]
def words1 : List Jvm.Cond := Jvm.Cond.code x code maxLocals ret :: tables_1
/-- a 'code' word, met by the world's own term for the bytes: nothing is compared byte by byte -/
theorem code_word {y : MethodName} {bytes : ByteArray} {mx : Nat} {rt : Option FieldType} {a : Array Value} {s : State} {m : MethodId} {meth : Method} {c : Code} (h1 : s.methodNamed? y = some m) (h2 : s.vm.method? m = some meth) (h3 : meth.code = some c) (h4 : c.code = bytes)
    (h5 : (c.maxLocals == mx && c.exceptionTable.isEmpty && decide (c.maxStack ≤ mostOperands) && decide (meth.sig.returnType = rt) && !meth.locks && decide (parseMethodDescriptor y.desc = some meth.sig)) = true) : (Jvm.Cond.code y bytes mx rt).before a s = true := by
  simp only [Bool.and_eq_true, beq_iff_eq, Bool.not_eq_true', decide_eq_true_eq] at h5
  obtain ⟨⟨⟨⟨⟨g1, g2⟩, g3⟩, g4⟩, g5⟩, g6⟩ := h5
  simp [Cond.before, Cond.holds, Cond.value, h1, h2, h3, h4, g1, g2, g3, g4, g5, g6]
def isCode : Jvm.Cond → Bool
  | .code _ _ _ _ => true
  | _ => false
theorem all_split {L : List Jvm.Cond} {P : Jvm.Cond → Bool} (h1 : L.all (fun c => isCode c || P c) = true) (h2 : ∀ c ∈ L.filter isCode, P c = true) : L.all P = true := by
  refine List.all_eq_true.mpr fun c hc => ?_
  have h := List.all_eq_true.mp h1 c hc
  rcases Bool.eq_false_or_eq_true (isCode c) with hi | hi
  · exact h2 c (List.mem_filter.mpr ⟨hc, hi⟩)
  · simpa [hi] using h
set_option maxRecDepth 65536 in
theorem w_c0 : (Jvm.Cond.code x code maxLocals ret).before args0 about1 = true := code_word (m := ⟨1, 1⟩) (meth := k1m1) (c := k1c1) (by decide +kernel) rfl rfl rfl (by decide +kernel)
set_option maxRecDepth 65536 in
theorem w_c1 : (Jvm.Cond.code ({ cls := "com/example/pipecaret/pipecaret/message/Lines", name := "isEnd", desc := "(B)Z" } : Jvm.MethodName) prog_43_method_2_code (1 : Nat) (Option.some Jvm.ClassFile.FieldType.boolean)).before args0 about1 = true := code_word (m := ⟨2, 1⟩) (meth := k2m1) (c := k2c1) (by decide +kernel) rfl rfl rfl (by decide +kernel)
def codes1 : List Jvm.Cond := [Jvm.Cond.code x code maxLocals ret, Jvm.Cond.code ({ cls := "com/example/pipecaret/pipecaret/message/Lines", name := "isEnd", desc := "(B)Z" } : Jvm.MethodName) prog_43_method_2_code (1 : Nat) (Option.some Jvm.ClassFile.FieldType.boolean)]
set_option maxRecDepth 65536 in
theorem codes_eq : words1.filter isCode = codes1 := rfl
theorem w_codes : ∀ c ∈ words1.filter isCode, c.before args0 about1 = true := by
  rw [codes_eq]
  intro c hc
  simp only [codes1, List.mem_cons, List.not_mem_nil, or_false] at hc
  rcases hc with rfl | rfl
  · exact w_c0
  · exact w_c1
set_option maxRecDepth 65536 in
theorem w_t1 : words1.all (fun c => isCode c || c.before args0 about1) = true := by decide +kernel
theorem w_tables : (allAtoms (Jvm.Cond.code x code maxLocals ret :: tables_1)).before args0 about1 = true := by
  rw [allAtoms_all]
  show words1.all (fun c => c.before args0 about1) = true
  refine all_split ?_ w_codes
  rw [w_t1]
set_option maxRecDepth 65536 in
theorem w_case : (Jvm.Cond.and given_1 narrow_1).before args0 about1 = true := by decide +kernel
theorem w_applies : (headSpec (Jvm.Cond.code x code maxLocals ret :: tables_1) room_1).applies x e0.platform about1 = true :=
  (Spec.applies_iff w_frames).mpr ⟨w_running, w_runnable, w_alone, w_named, w_hears, w_ripe, w_room, w_tables⟩
theorem atStart : AtStart classFile x code maxLocals ret World_1 tables_1 room_1 Calls_1 rest_1 Pre_1 launch0 p0 e0 about1 theMethod args0 below0 :=
  ⟨lists_1, trivial, launch0.admits_env _ _ _, launch0.least_env, fairChoices_fair.cas, fairChoices_fair.clock, w_frames, w_args, w_heap, w_applies, trivial, trivial, w_case⟩
end start1
theorem witness_1 : WitnessClaimed_1 := ⟨start1.p0, start1.e0, start1.about1, start1.theMethod, start1.args0, start1.below0, start1.atStart⟩
end Jvm.Pilot.@@N@@
