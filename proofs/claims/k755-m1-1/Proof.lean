import JvmDerived
import JvmDerived.Pilot.@@N@@Statement
import JvmDerived.Pilot.@@N@@Code
set_option linter.unusedVariables false
set_option linter.unusedSimpArgs false
namespace Jvm.Pilot.@@N@@
open Jvm Jvm.ClassFile Sem Op Lib Jvm.Free Jvm.Stand Jvm.LawKit Jvm.RoadKit Bundle Jvm.Pilot.@@N@@.Jvm.D
section Own
variable {p : Program} {l : Launch} {e : Env} {R : Room} {s : State} {m : MethodId} {args : Array Value} {below : List Frame} {meth : Method} {c : Code} {T : State} {locs : List Loc} {cells slots : Nat} {Z : State} {a0 : Array Value} {h : Heap}
/-- from the state A the body ends as Q says, with at most C cells and S slots made -/
def own_E (p : Program) (e : Env) (below : List Frame) (s : State) (Q : Option Value → Heap → List Loc → Prop) (C S : Nat) (A : State) : Prop :=
  ∃ s₂ o, Steps p.tables e below A s₂ ∧ s₂.status = .running ∧ Ended s₂ below o ∧ ∃ v L, o = .returned v ∧ Q v s₂.heap L ∧ FrameEnd s o s₂ L C S
theorem own_pre {Q : Option Value → Heap → List Loc → Prop} {C S : Nat} {A B : State} (h : own_E p e below s Q C S B) (k : ∀ t, Steps p.tables e below B t → Steps p.tables e below A t) : own_E p e below s Q C S A := by
  obtain ⟨s₂, o, h1, h2⟩ := h
  exact ⟨s₂, o, k _ h1, h2⟩
theorem own_out {Q : Option Value → Heap → List Loc → Prop} {C S : Nat} {A : State} (X : Stand p l e R s m args below meth c T locs cells slots) (hk : meth.locks = false) {v : Option Value} (hv : meth.sig.returnType = none → v = none)
    (st : ∀ fs, (∀ (f : JFrame) (acts : List Action), f.method = m → f.locked = none → f.entered = [] → (doReturn e (T.setTop f) acts v).1 = T.setFrames fs) → Steps p.tables e below A (T.setFrames fs))
    (hQ : Q v T.heap locs) (hc : cells ≤ C) (hs : slots ≤ S) : own_E p e below s Q C S A := by
  obtain ⟨fs, hr, hrun, hended, hW, hsame⟩ := X.leave (v := v) hv hk
  exact ⟨_, _, st fs hr, hrun, hended, _, _, rfl, hQ, ⟨_, rfl⟩, hW, hsame.mono hc hs⟩
theorem own_retN {Q : Option Value → Heap → List Loc → Prop} {C S : Nat} (X : Stand p l e R s m args below meth c T locs cells slots) (hx : p.tables.exec = Jvm.exec) (hk : meth.locks = false) {t : FieldType} {pc : Nat} {Ls : Array Slot} {z z' : Int32} {rest : List Value} (hret : meth.sig.returnType = some t) (ht : t = .boolean ∨ t = .byte ∨ t = .char ∨ t = .short) (hd : decode c.code pc = .ok (.ireturn, 1)) (hn : nar t z = z')
    (hQ : Q (some (.int z')) T.heap locs) (hc : cells ≤ C) (hs : slots ≤ S) : own_E p e below s Q C S (T.setTop (mkF m pc Ls (.int z :: rest))) := by
  subst hn
  exact own_out X hk (fun h => by rw [hret] at h; cases h) (fun fs hr => retN X hx hret ht hd hr) hQ hc hs
theorem own_retI {Q : Option Value → Heap → List Loc → Prop} {C S : Nat} (X : Stand p l e R s m args below meth c T locs cells slots) (hx : p.tables.exec = Jvm.exec) (hk : meth.locks = false) {pc : Nat} {Ls : Array Slot} {z : Int32} {rest : List Value} (hret : meth.sig.returnType = some .int) (hd : decode c.code pc = .ok (.ireturn, 1))
    (hQ : Q (some (.int z)) T.heap locs) (hc : cells ≤ C) (hs : slots ≤ S) : own_E p e below s Q C S (T.setTop (mkF m pc Ls (.int z :: rest))) :=
  own_out X hk (fun h => by rw [hret] at h; cases h) (fun fs hr => retOut X hx hret rfl (Or.inl ⟨rfl, Or.inl rfl, z, rfl⟩) hd hr) hQ hc hs
theorem own_retJ {Q : Option Value → Heap → List Loc → Prop} {C S : Nat} (X : Stand p l e R s m args below meth c T locs cells slots) (hx : p.tables.exec = Jvm.exec) (hk : meth.locks = false) {pc : Nat} {Ls : Array Slot} {z : Int64} {rest : List Value} (hret : meth.sig.returnType = some .long) (hd : decode c.code pc = .ok (.lreturn, 1))
    (hQ : Q (some (.long z)) T.heap locs) (hc : cells ≤ C) (hs : slots ≤ S) : own_E p e below s Q C S (T.setTop (mkF m pc Ls (.long z :: rest))) :=
  own_out X hk (fun h => by rw [hret] at h; cases h) (fun fs hr => retOut X hx hret rfl (Or.inr (Or.inl ⟨rfl, rfl, z, rfl⟩)) hd hr) hQ hc hs
theorem own_nar_ref {t : FieldType} {w : Value} (hw : w.isRef = true) (ht : t.isReference = true) : narrow t w = w := by
  rcases ref_cases hw with rfl | ⟨z, rfl⟩ <;> cases t <;> first | rfl | (cases ht; done)
theorem own_fit_ref {t : FieldType} {w : Value} (hw : w.isRef = true) (ht : t.isReference = true) : fits t w = true := by
  rcases ref_cases hw with rfl | ⟨z, rfl⟩ <;> cases t <;> first | rfl | (cases ht; done)
theorem own_retA {Q : Option Value → Heap → List Loc → Prop} {C S : Nat} (X : Stand p l e R s m args below meth c T locs cells slots) (hx : p.tables.exec = Jvm.exec) (hk : meth.locks = false) {t : FieldType} {pc : Nat} {Ls : Array Slot} {w : Value} {rest : List Value} (hret : meth.sig.returnType = some t) (ht : t.isReference = true) (hw : w.isRef = true) (hd : decode c.code pc = .ok (.areturn, 1))
    (hQ : Q (some w) T.heap locs) (hc : cells ≤ C) (hs : slots ≤ S) : own_E p e below s Q C S (T.setTop (mkF m pc Ls (w :: rest))) :=
  own_out X hk (fun h => by rw [hret] at h; cases h) (fun fs hr => retOut X hx hret (own_nar_ref hw ht) (Or.inr (Or.inr (Or.inr (Or.inr ⟨rfl, ht, hw⟩)))) hd hr) hQ hc hs
theorem own_retV {Q : Option Value → Heap → List Loc → Prop} {C S : Nat} (X : Stand p l e R s m args below meth c T locs cells slots) (hx : p.tables.exec = Jvm.exec) (hk : meth.locks = false) {pc : Nat} {Ls : Array Slot} (hret : meth.sig.returnType = none) (hd : decode c.code pc = .ok (.return_, 1))
    (hQ : Q none T.heap locs) (hc : cells ≤ C) (hs : slots ≤ S) : own_E p e below s Q C S (T.setTop (mkF m pc Ls [])) :=
  own_out X hk (fun _ => rfl) (fun fs hr => X.returnOut hx hret hd hr) hQ hc hs
theorem own_lrem {g : JFrame} {target : State} (X : Stand p l e R s m args below meth c T locs cells slots) (hx : p.tables.exec = Jvm.exec) (hg : g.method = m) {x y : Int64} {rest : List Value} (hd : decode c.code g.pc = .ok (.lrem, 1)) (hs : g.stack = .long y :: .long x :: rest) (hy : y ≠ 0)
    (hr : Steps p.tables e below (T.setTop { g with pc := g.pc + 1, stack := .long (x % y) :: rest }) target) : Steps p.tables e below (T.setTop g) target :=
  XS.lrem X.here hx hg hd hs hy (by rw [lrem_mod]; exact hr)
end Own
section OwnW
variable {p : Program} {l : Launch} {e : Env} {R : Room} {s : State} {m : MethodId} {args : Array Value} {below : List Frame} {meth : Method} {c : Code} {T : State} {locs : List Loc} {cells slots : Nat}
/-- as own_E, where the intern table may have gained new strings -/
def own_EW (p : Program) (e : Env) (below : List Frame) (s : State) (Q : Option Value → Heap → List Loc → Prop) (C S : Nat) (A : State) : Prop :=
  ∃ s₂ o, Steps p.tables e below A s₂ ∧ s₂.status = .running ∧ Ended s₂ below o ∧ ∃ v L, o = .returned v ∧ Q v s₂.heap L ∧ ReturnedEndW s o s₂ L C S
theorem own_preW {Q : Option Value → Heap → List Loc → Prop} {C S : Nat} {A B : State} (h : own_EW p e below s Q C S B) (k : ∀ t, Steps p.tables e below B t → Steps p.tables e below A t) : own_EW p e below s Q C S A := by
  obtain ⟨s₂, o, h1, h2⟩ := h
  exact ⟨s₂, o, k _ h1, h2⟩
theorem own_retNW {Q : Option Value → Heap → List Loc → Prop} {C S : Nat} {vm₁ : Vm} (X : Stand p l e R (s.setVm vm₁) m args below meth c T locs cells slots) (hx : p.tables.exec = Jvm.exec) (hk : meth.locks = false) {n : Nat} (hS : s.Since vm₁ n) (hn : n ≤ T.heap.size) {t : FieldType} {pc : Nat} {Ls : Array Slot} {z z' : Int32} {rest : List Value} (hret : meth.sig.returnType = some t) (ht : t = .boolean ∨ t = .byte ∨ t = .char ∨ t = .short) (hd : decode c.code pc = .ok (.ireturn, 1)) (hnz : nar t z = z')
    (hQ : Q (some (.int z')) T.heap locs) (hc : cells ≤ C) (hs : slots ≤ S) : own_EW p e below s Q C S (T.setTop (mkF m pc Ls (.int z :: rest))) := by
  subst hnz
  obtain ⟨fs, hr, hrun, hended, h1, h2, h3, h4⟩ := X.leaveW hS hn (v := some (.int (nar t z))) (fun h => by rw [hret] at h; cases h) hk
  exact ⟨_, _, retN X hx hret ht hd hr, hrun, hended, _, _, rfl, hQ, h1, h2, h3, h4.mono hc hs⟩
theorem own_narZ {x : Int32} (h : x = 0 ∨ x = 1) : narrow .boolean (.int x) = .int x := by rcases h with rfl | rfl <;> rfl
theorem own_fitZ {x : Int32} (h : x = 0 ∨ x = 1) : fits .boolean (.int x) = true := by rcases h with rfl | rfl <;> rfl
end OwnW

theorem d3_0 : decode jdk_22_method_1_code 0 = .ok (.aload_n 0, 1) := by decide +kernel
theorem d3_1 : decode jdk_22_method_1_code 1 = .ok (.invokespecial 1, 3) := by decide +kernel
theorem d3_4 : decode jdk_22_method_1_code 4 = .ok (.return_, 1) := by decide +kernel
theorem pn_java_util_AbstractCollection : plainName "java/util/AbstractCollection" = true := by first | (simp [plainName, overriddenIn]; done) | decide +kernel
set_option maxHeartbeats 4000000 in
theorem ef_3 (m : MethodId) (x0 : Addr) : entryFrame m #[(.ref x0)] 1 = mkF m 0 #[.val (.ref x0)] [] := by first | (simp [entryFrame, mkF, argsToLocals, Value.category]; done) | rfl
def Q3 (Z : State) (x0 : Addr) (h0 : Heap) (n0 : Nat) (v : Option Value) (h : Heap) (L : List Loc) : Prop := v = none ∧ Fr n0 L ∧ h = h0
set_option maxRecDepth 65536 in
set_option maxHeartbeats 40000000 in
theorem rm3 (l : Launch) (Z : State) (a0 : Array Value) (hw : ∀ d ∈ tables_1, d.before a0 Z = true) (ws : List Jvm.Cond) (x0 : Addr) (h0 : Heap) (n0 : Nat) (Z0 : n0 ≤ h0.size) :
    MetFree l (⟨"java/util/AbstractCollection", "<init>", "()V"⟩ : MethodName) (head1 (Jvm.Cond.code (⟨"java/util/AbstractCollection", "<init>", "()V"⟩ : MethodName) jdk_22_method_1_code 1 none :: ws) ({ frames := 1, cells := 0, slots := 0, locals := 12 } : Room)) (fun a U => a = #[(.ref x0)] ∧ Z.Warmed39 U.vm ∧ U.heap = h0) (fun _ _ _ _ _ => True) (fun _ U o U' => ∃ v L, o = .returned v ∧ Q3 Z x0 h0 n0 v U'.heap L ∧ FrameEnd U o U' L ({ frames := 1, cells := 0, slots := 0, locals := 12 } : Room).cells ({ frames := 1, cells := 0, slots := 0, locals := 12 } : Room).slots) := by
  refine MetFree.of_bodySF (plainFor_of_name pn_java_util_AbstractCollection) hisR ?_
  intro p e s m args below meth c s₁ Bd hml0 hP hK
  obtain ⟨rfl, hZ, hh⟩ := hP
  have hx := Bd.exec
  have hby := Bd.bytes
  have hml : c.maxLocals = 1 := hml0
  have hown : s.vm.findClass "java/util/AbstractCollection" = some m.cls := findClass_of_methodNamed Bd.named
  have hnm := (name_of_methodNamed Bd.named Bd.method).1
  have hlk : meth.locks = false := BodyLoose.notSynchronized Bd
  have X0 : Stand p l e ({ frames := 1, cells := 0, slots := 0, locals := 12 } : Room) s m #[(.ref x0)] below meth c s₁ [] 0 0 := Stand.of_body Bd
  have e0 : s₁.heap = h0 := by rw [← hh, Bd.state]; rfl
  have N0 := Fr.nil n0
  show own_E p e below s (Q3 Z x0 h0 n0) 0 0 (s₁.setTop (entryFrame m #[(.ref x0)] 1))
  refine own_pre (B := s₁.setTop (mkF m 0 #[.val (.ref x0)] [])) ?_ (fun t_ k_ => castTop (ef_3 m x0) k_)
  refine own_pre (B := s₁.setTop (mkF m 1 #[.val (.ref x0)] [(.ref x0)])) ?_ fun t_ k_ => XS.aloadN X0.here hx rfl (hb hby d3_0) rfl rfl k_
  obtain ⟨T1, X1, e1, st1⟩ := initO X0 hx hZ hown (hw _ (List.mem_of_getElem? (i := 26) rfl)) (hw _ (List.mem_of_getElem? (i := 27) rfl)) (hw _ (List.mem_of_getElem? (i := 28) rfl)) e0 (g := (mkF m 1 #[.val (.ref x0)] [(.ref x0)])) rfl (by rw [hml]; rfl) rfl (hb hby d3_1) (by decide) (W := 0) (by show 2 * 0 + _ ≤ _; exact Nat.le_of_eq rfl) (by decide)
  refine own_pre (B := T1.setTop (mkF m 4 #[.val (.ref x0)] [])) ?_ st1
  refine own_retV X1 hx hlk Bd.returns (hb hby d3_4) ?_ (by decide) (by decide)
  rw [e1]
  exact ⟨rfl, N0, rfl⟩
theorem d6_0 : decode jdk_30_method_1_code 0 = .ok (.aload_n 0, 1) := by decide +kernel
theorem d6_1 : decode jdk_30_method_1_code 1 = .ok (.invokespecial 1, 3) := by decide +kernel
theorem d6_4 : decode jdk_30_method_1_code 4 = .ok (.return_, 1) := by decide +kernel
theorem pn_java_lang_Record : plainName "java/lang/Record" = true := by first | (simp [plainName, overriddenIn]; done) | decide +kernel
set_option maxHeartbeats 4000000 in
theorem ef_6 (m : MethodId) (x0 : Addr) : entryFrame m #[(.ref x0)] 1 = mkF m 0 #[.val (.ref x0)] [] := by first | (simp [entryFrame, mkF, argsToLocals, Value.category]; done) | rfl
def Q6 (Z : State) (x0 : Addr) (h0 : Heap) (n0 : Nat) (v : Option Value) (h : Heap) (L : List Loc) : Prop := v = none ∧ Fr n0 L ∧ h = h0
set_option maxRecDepth 65536 in
set_option maxHeartbeats 40000000 in
theorem rm6 (l : Launch) (Z : State) (a0 : Array Value) (hw : ∀ d ∈ tables_1, d.before a0 Z = true) (ws : List Jvm.Cond) (x0 : Addr) (h0 : Heap) (n0 : Nat) (Z0 : n0 ≤ h0.size) :
    MetFree l (⟨"java/lang/Record", "<init>", "()V"⟩ : MethodName) (head1 (Jvm.Cond.code (⟨"java/lang/Record", "<init>", "()V"⟩ : MethodName) jdk_30_method_1_code 1 none :: ws) ({ frames := 1, cells := 0, slots := 0, locals := 12 } : Room)) (fun a U => a = #[(.ref x0)] ∧ Z.Warmed39 U.vm ∧ U.heap = h0) (fun _ _ _ _ _ => True) (fun _ U o U' => ∃ v L, o = .returned v ∧ Q6 Z x0 h0 n0 v U'.heap L ∧ FrameEnd U o U' L ({ frames := 1, cells := 0, slots := 0, locals := 12 } : Room).cells ({ frames := 1, cells := 0, slots := 0, locals := 12 } : Room).slots) := by
  refine MetFree.of_bodySF (plainFor_of_name pn_java_lang_Record) hisR ?_
  intro p e s m args below meth c s₁ Bd hml0 hP hK
  obtain ⟨rfl, hZ, hh⟩ := hP
  have hx := Bd.exec
  have hby := Bd.bytes
  have hml : c.maxLocals = 1 := hml0
  have hown : s.vm.findClass "java/lang/Record" = some m.cls := findClass_of_methodNamed Bd.named
  have hnm := (name_of_methodNamed Bd.named Bd.method).1
  have hlk : meth.locks = false := BodyLoose.notSynchronized Bd
  have X0 : Stand p l e ({ frames := 1, cells := 0, slots := 0, locals := 12 } : Room) s m #[(.ref x0)] below meth c s₁ [] 0 0 := Stand.of_body Bd
  have e0 : s₁.heap = h0 := by rw [← hh, Bd.state]; rfl
  have N0 := Fr.nil n0
  show own_E p e below s (Q6 Z x0 h0 n0) 0 0 (s₁.setTop (entryFrame m #[(.ref x0)] 1))
  refine own_pre (B := s₁.setTop (mkF m 0 #[.val (.ref x0)] [])) ?_ (fun t_ k_ => castTop (ef_6 m x0) k_)
  refine own_pre (B := s₁.setTop (mkF m 1 #[.val (.ref x0)] [(.ref x0)])) ?_ fun t_ k_ => XS.aloadN X0.here hx rfl (hb hby d6_0) rfl rfl k_
  obtain ⟨T1, X1, e1, st1⟩ := initO X0 hx hZ hown (hw _ (List.mem_of_getElem? (i := 46) rfl)) (hw _ (List.mem_of_getElem? (i := 27) rfl)) (hw _ (List.mem_of_getElem? (i := 28) rfl)) e0 (g := (mkF m 1 #[.val (.ref x0)] [(.ref x0)])) rfl (by rw [hml]; rfl) rfl (hb hby d6_1) (by decide) (W := 0) (by show 2 * 0 + _ ≤ _; exact Nat.le_of_eq rfl) (by decide)
  refine own_pre (B := T1.setTop (mkF m 4 #[.val (.ref x0)] [])) ?_ st1
  refine own_retV X1 hx hlk Bd.returns (hb hby d6_4) ?_ (by decide) (by decide)
  rw [e1]
  exact ⟨rfl, N0, rfl⟩
theorem d2_0 : decode jdk_39_method_1_code 0 = .ok (.aload_n 0, 1) := by decide +kernel
theorem d2_1 : decode jdk_39_method_1_code 1 = .ok (.invokespecial 1, 3) := by decide +kernel
theorem pd___V : parseMethodDescriptor "()V" = some ⟨[], none⟩ := by decide +kernel
theorem d2_4 : decode jdk_39_method_1_code 4 = .ok (.aload_n 0, 1) := by decide +kernel
theorem d2_5 : decode jdk_39_method_1_code 5 = .ok (.iconst 0, 1) := by decide +kernel
theorem d2_6 : decode jdk_39_method_1_code 6 = .ok (.putfield 7, 3) := by decide +kernel
theorem d2_9 : decode jdk_39_method_1_code 9 = .ok (.return_, 1) := by decide +kernel
theorem pn_java_util_AbstractList : plainName "java/util/AbstractList" = true := by first | (simp [plainName, overriddenIn]; done) | decide +kernel
set_option maxHeartbeats 4000000 in
theorem ef_2 (m : MethodId) (x0 : Addr) : entryFrame m #[(.ref x0)] 1 = mkF m 0 #[.val (.ref x0)] [] := by first | (simp [entryFrame, mkF, argsToLocals, Value.category]; done) | rfl
def Q2 (Z : State) (x0 : Addr) (h0 : Heap) (n0 : Nat) (v : Option Value) (h : Heap) (L : List Loc) : Prop := v = none ∧ Fr n0 L ∧ Keep h0 h [x0] ∧ Exa Z h x0 "java/util/ArrayList" ∧ Fld Z h x0 "java/util/ArrayList" "elementData" "[Ljava/lang/Object;" .null
set_option maxRecDepth 65536 in
set_option maxHeartbeats 40000000 in
theorem rm2 (l : Launch) (Z : State) (a0 : Array Value) (hw : ∀ d ∈ tables_1, d.before a0 Z = true) (ws : List Jvm.Cond) (x0 : Addr) (h0 : Heap) (n0 : Nat) (Z0 : n0 ≤ h0.size) (E_x0 : Exa Z h0 x0 "java/util/ArrayList") (F_mc : Fld Z h0 x0 "java/util/AbstractList" "modCount" "I" (.int (0 : Int32))) (F_el : Fld Z h0 x0 "java/util/ArrayList" "elementData" "[Ljava/lang/Object;" .null) (g_x0 : n0 ≤ x0) :
    MetFree l (⟨"java/util/AbstractList", "<init>", "()V"⟩ : MethodName) (head1 (Jvm.Cond.code (⟨"java/util/AbstractList", "<init>", "()V"⟩ : MethodName) jdk_39_method_1_code 1 none :: ws) ({ frames := 2, cells := 0, slots := 0, locals := 24 } : Room)) (fun a U => a = #[(.ref x0)] ∧ Z.Warmed39 U.vm ∧ U.heap = h0) (fun _ _ _ _ _ => True) (fun _ U o U' => ∃ v L, o = .returned v ∧ Q2 Z x0 h0 n0 v U'.heap L ∧ FrameEnd U o U' L ({ frames := 2, cells := 0, slots := 0, locals := 24 } : Room).cells ({ frames := 2, cells := 0, slots := 0, locals := 24 } : Room).slots) := by
  refine MetFree.of_bodySF (plainFor_of_name pn_java_util_AbstractList) hisR ?_
  intro p e s m args below meth c s₁ Bd hml0 hP hK
  obtain ⟨rfl, hZ, hh⟩ := hP
  have hx := Bd.exec
  have hby := Bd.bytes
  have hml : c.maxLocals = 1 := hml0
  have hown : s.vm.findClass "java/util/AbstractList" = some m.cls := findClass_of_methodNamed Bd.named
  have hnm := (name_of_methodNamed Bd.named Bd.method).1
  have hlk : meth.locks = false := BodyLoose.notSynchronized Bd
  have X0 : Stand p l e ({ frames := 2, cells := 0, slots := 0, locals := 24 } : Room) s m #[(.ref x0)] below meth c s₁ [] 0 0 := Stand.of_body Bd
  have e0 : s₁.heap = h0 := by rw [← hh, Bd.state]; rfl
  have N0 := Fr.nil n0
  show own_E p e below s (Q2 Z x0 h0 n0) 0 0 (s₁.setTop (entryFrame m #[(.ref x0)] 1))
  refine own_pre (B := s₁.setTop (mkF m 0 #[.val (.ref x0)] [])) ?_ (fun t_ k_ => castTop (ef_2 m x0) k_)
  refine own_pre (B := s₁.setTop (mkF m 1 #[.val (.ref x0)] [(.ref x0)])) ?_ fun t_ k_ => XS.aloadN X0.here hx rfl (hb hby d2_0) rfl rfl k_
  obtain ⟨_, _, ⟨T1, L1, k1, n1⟩, -, X1, ⟨Lc1, hQ1, l1, y1, z1⟩, st1⟩ := X0.specialBack hx (y := (⟨"java/util/AbstractCollection", "<init>", "()V"⟩ : MethodName)) rfl hown (mvT hZ (hw _ (List.mem_of_getElem? (i := 20) rfl))) (mvT hZ (hw _ (List.mem_of_getElem? (i := 21) rfl))) (mvT hZ (hw _ (List.mem_of_getElem? (i := 25) rfl))) (by decide) (backOf (W := 0) (rm3 l Z a0 hw [] x0 h0 n0 Z0 ) hZ (hw _ (List.mem_of_getElem? (i := 25) rfl)) (hw _ (List.mem_of_getElem? (i := 24) rfl)) (by decide) (by decide)) (g := (mkF m 1 #[.val (.ref x0)] [(.ref x0)])) rfl (by rw [hml]; rfl) (Steps.refl _) (a := x0) (argsL := []) (rest := []) (lenOf pd___V rfl) rfl (by show 2 * 0 + _ ≤ _; exact Nat.le_of_eq rfl) (hb hby d2_1) (fun _ _ => ⟨rfl, e0, (by decide : 0 + 0 ≤ _), (by decide : 0 + 0 ≤ _)⟩)
  dsimp only [Pt.U, Pt.locs, Pt.cells, Pt.slots] at X1 l1 y1 z1 st1 hQ1
  subst l1 y1 z1
  obtain ⟨rfl, Nq1, e1⟩ := hQ1
  have N1 := Fr.app N0 Nq1
  refine own_pre (B := T1.setTop (mkF m 4 #[.val (.ref x0)] [])) ?_ (fun t_ k_ => st1.trans k_)
  refine own_pre (B := T1.setTop (mkF m 5 #[.val (.ref x0)] [(.ref x0)])) ?_ fun t_ k_ => XS.aloadN X1.here hx rfl (hb hby d2_4) rfl rfl k_
  refine own_pre (B := T1.setTop (mkF m 6 #[.val (.ref x0)] [(.int (0 : Int32)), (.ref x0)])) ?_ fun t_ k_ => XS.iconst X1.here hx rfl (hb hby d2_5) k_
  obtain ⟨T2, h2, X2, e2, W2, st2⟩ := putF X1 hx hZ hown (host := "") (Or.inl (hw _ (List.mem_of_getElem? (i := 29) rfl))) Via.refl e1 F_mc E_x0 (Or.inl (hw _ (List.mem_of_getElem? (i := 30) rfl))) (hw _ (List.mem_of_getElem? (i := 9) rfl)) (ty := .int) (by decide) rfl rfl (g := (mkF m 6 #[.val (.ref x0)] [(.int (0 : Int32)), (.ref x0)])) rfl rfl (hb hby d2_6)
  have f3 := F_mc.same W2
  have N2 := Fr.snoc X2 N1 g_x0
  have Z2 : n0 ≤ h2.size := Nat.le_trans Z0 (Keep.of_wr W2).1
  have K2 := (Keep.refl h0 [x0]).wr W2 (Or.inl (by simp))
  refine own_pre (B := T2.setTop (mkF m 9 #[.val (.ref x0)] [])) ?_ st2
  have f4 := (E_x0.wr W2)
  have f5 := (F_el.other W2 (Or.inr (slot_ne (Or.inl (hw _ (List.mem_of_getElem? (i := 33) rfl))) (Or.inl (hw _ (List.mem_of_getElem? (i := 30) rfl))) (by decide) (t := (.array (.object "java/lang/Object"))) (t' := .int) (by decide) (by decide))))
  refine own_retV X2 hx hlk Bd.returns (hb hby d2_9) ?_ (by decide) (by decide)
  rw [e2]
  exact ⟨rfl, N2, K2, f4, f5⟩
theorem own_sta_keep {Z : State} {h h' : Heap} {C n d : String} {w : Value} {ws : List Addr} (F : Sta Z h C n d w) (K : Keep h h' ws) (q : ∀ x ∈ ws, ∀ cell : Cell, h[x]? = some cell → cell.vm.isStatics = false) : Sta Z h' C n d w := by
  obtain ⟨cf, i, k, f, st, cell, h1, h2, h3, h4, h5, h6, h7⟩ := F
  refine ⟨cf, i, k, f, st, cell, h1, h2, h3, h4, K.2.1 _ _ h5 (fun m => ?_), h6, h7⟩
  have := q _ m _ h5
  rw [h6] at this; cases this
theorem own_exa_ns {Z : State} {h : Heap} {a : Addr} {C : String} (E : Exa Z h a C) : ∀ x ∈ [a], ∀ cell : Cell, h[x]? = some cell → cell.vm.isStatics = false := by
  intro x hx cell hc
  obtain ⟨c', k, h1, h2, h3, h4, -⟩ := E
  simp only [List.mem_cons, List.not_mem_nil, or_false] at hx
  subst hx
  cases h1.symm.trans hc; exact h4
theorem d1_0 : decode jdk_38_method_2_code 0 = .ok (.aload_n 0, 1) := by decide +kernel
theorem d1_1 : decode jdk_38_method_2_code 1 = .ok (.invokespecial 1, 3) := by decide +kernel
theorem d1_4 : decode jdk_38_method_2_code 4 = .ok (.aload_n 0, 1) := by decide +kernel
theorem d1_5 : decode jdk_38_method_2_code 5 = .ok (.getstatic 39, 3) := by decide +kernel
theorem d1_8 : decode jdk_38_method_2_code 8 = .ok (.putfield 9, 3) := by decide +kernel
theorem d1_11 : decode jdk_38_method_2_code 11 = .ok (.return_, 1) := by decide +kernel
theorem pn_java_util_ArrayList : plainName "java/util/ArrayList" = true := by first | (simp [plainName, overriddenIn]; done) | decide +kernel
set_option maxHeartbeats 4000000 in
theorem ef_1 (m : MethodId) (x0 : Addr) : entryFrame m #[(.ref x0)] 1 = mkF m 0 #[.val (.ref x0)] [] := by first | (simp [entryFrame, mkF, argsToLocals, Value.category]; done) | rfl
def Q1 (Z : State) (x0 : Addr) (dc : Addr) (h0 : Heap) (n0 : Nat) (v : Option Value) (h : Heap) (L : List Loc) : Prop := v = none ∧ Fr n0 L ∧ Keep h0 h [x0] ∧ Exa Z h x0 "java/util/ArrayList"
set_option maxRecDepth 65536 in
set_option maxHeartbeats 40000000 in
theorem rm1 (l : Launch) (Z : State) (a0 : Array Value) (hw : ∀ d ∈ tables_1, d.before a0 Z = true) (ws : List Jvm.Cond) (x0 : Addr) (dc : Addr) (h0 : Heap) (n0 : Nat) (Z0 : n0 ≤ h0.size) (E_x0 : Exa Z h0 x0 "java/util/ArrayList") (F_mc : Fld Z h0 x0 "java/util/AbstractList" "modCount" "I" (.int (0 : Int32))) (F_el : Fld Z h0 x0 "java/util/ArrayList" "elementData" "[Ljava/lang/Object;" .null) (S_dc : Sta Z h0 "java/util/ArrayList" "DEFAULTCAPACITY_EMPTY_ELEMENTDATA" "[Ljava/lang/Object;" (.ref dc)) (g_x0 : n0 ≤ x0) :
    MetFree l (⟨"java/util/ArrayList", "<init>", "()V"⟩ : MethodName) (head1 (Jvm.Cond.code (⟨"java/util/ArrayList", "<init>", "()V"⟩ : MethodName) jdk_38_method_2_code 1 none :: ws) ({ frames := 3, cells := 0, slots := 0, locals := 36 } : Room)) (fun a U => a = #[(.ref x0)] ∧ Z.Warmed39 U.vm ∧ U.heap = h0) (fun _ _ _ _ _ => True) (fun _ U o U' => ∃ v L, o = .returned v ∧ Q1 Z x0 dc h0 n0 v U'.heap L ∧ FrameEnd U o U' L ({ frames := 3, cells := 0, slots := 0, locals := 36 } : Room).cells ({ frames := 3, cells := 0, slots := 0, locals := 36 } : Room).slots) := by
  refine MetFree.of_bodySF (plainFor_of_name pn_java_util_ArrayList) hisR ?_
  intro p e s m args below meth c s₁ Bd hml0 hP hK
  obtain ⟨rfl, hZ, hh⟩ := hP
  have hx := Bd.exec
  have hby := Bd.bytes
  have hml : c.maxLocals = 1 := hml0
  have hown : s.vm.findClass "java/util/ArrayList" = some m.cls := findClass_of_methodNamed Bd.named
  have hnm := (name_of_methodNamed Bd.named Bd.method).1
  have hlk : meth.locks = false := BodyLoose.notSynchronized Bd
  have X0 : Stand p l e ({ frames := 3, cells := 0, slots := 0, locals := 36 } : Room) s m #[(.ref x0)] below meth c s₁ [] 0 0 := Stand.of_body Bd
  have e0 : s₁.heap = h0 := by rw [← hh, Bd.state]; rfl
  have N0 := Fr.nil n0
  show own_E p e below s (Q1 Z x0 dc h0 n0) 0 0 (s₁.setTop (entryFrame m #[(.ref x0)] 1))
  refine own_pre (B := s₁.setTop (mkF m 0 #[.val (.ref x0)] [])) ?_ (fun t_ k_ => castTop (ef_1 m x0) k_)
  refine own_pre (B := s₁.setTop (mkF m 1 #[.val (.ref x0)] [(.ref x0)])) ?_ fun t_ k_ => XS.aloadN X0.here hx rfl (hb hby d1_0) rfl rfl k_
  obtain ⟨_, _, ⟨T1, L1, k1, n1⟩, -, X1, ⟨Lc1, hQ1, l1, y1, z1⟩, st1⟩ := X0.specialBack hx (y := (⟨"java/util/AbstractList", "<init>", "()V"⟩ : MethodName)) rfl hown (mvT hZ (hw _ (List.mem_of_getElem? (i := 14) rfl))) (mvT hZ (hw _ (List.mem_of_getElem? (i := 15) rfl))) (mvT hZ (hw _ (List.mem_of_getElem? (i := 19) rfl))) (by decide) (backOf (W := 0) (rm2 l Z a0 hw [] x0 h0 n0 Z0 E_x0 F_mc F_el g_x0) hZ (hw _ (List.mem_of_getElem? (i := 19) rfl)) (hw _ (List.mem_of_getElem? (i := 18) rfl)) (by decide) (by decide)) (g := (mkF m 1 #[.val (.ref x0)] [(.ref x0)])) rfl (by rw [hml]; rfl) (Steps.refl _) (a := x0) (argsL := []) (rest := []) (lenOf pd___V rfl) rfl (by show 2 * 0 + _ ≤ _; exact Nat.le_of_eq rfl) (hb hby d1_1) (fun _ _ => ⟨rfl, e0, (by decide : 0 + 0 ≤ _), (by decide : 0 + 0 ≤ _)⟩)
  dsimp only [Pt.U, Pt.locs, Pt.cells, Pt.slots] at X1 l1 y1 z1 st1 hQ1
  subst l1 y1 z1
  have ns1 := own_exa_ns E_x0
  obtain ⟨rfl, Nq1, K1, E1, Fe1⟩ := hQ1
  have N1 := Fr.app N0 Nq1
  have Z1 := Nat.le_trans Z0 K1.1
  have KK1 := (Keep.refl h0 [x0]).trans K1 (by simp)
  refine own_pre (B := T1.setTop (mkF m 4 #[.val (.ref x0)] [])) ?_ (fun t_ k_ => st1.trans k_)
  refine own_pre (B := T1.setTop (mkF m 5 #[.val (.ref x0)] [(.ref x0)])) ?_ fun t_ k_ => XS.aloadN X1.here hx rfl (hb hby d1_4) rfl rfl k_
  have f2 := (own_sta_keep S_dc K1 ns1)
  obtain ⟨T3, X3, e3, st3⟩ := getS2 X1 hx hZ hown (host := "") (Or.inl (hw _ (List.mem_of_getElem? (i := 31) rfl))) Via.refl rfl f2 (g := (mkF m 5 #[.val (.ref x0)] [(.ref x0)])) rfl (hb hby d1_5)
  refine own_pre (B := T3.setTop (mkF m 8 #[.val (.ref x0)] [(.ref dc), (.ref x0)])) ?_ st3
  obtain ⟨T4, h4, X4, e4, W4, st4⟩ := putF X3 hx hZ hown (host := "") (Or.inl (hw _ (List.mem_of_getElem? (i := 32) rfl))) Via.refl e3 Fe1 E1 (Or.inl (hw _ (List.mem_of_getElem? (i := 33) rfl))) (hw _ (List.mem_of_getElem? (i := 9) rfl)) (ty := (.array (.object "java/lang/Object"))) (by decide) rfl rfl (g := (mkF m 8 #[.val (.ref x0)] [(.ref dc), (.ref x0)])) rfl rfl (hb hby d1_8)
  have f5 := Fe1.same W4
  have N4 := Fr.snoc X4 N1 g_x0
  have Z4 : n0 ≤ h4.size := Nat.le_trans Z1 (Keep.of_wr W4).1
  have K4 := KK1.wr W4 (Or.inl (by simp))
  refine own_pre (B := T4.setTop (mkF m 11 #[.val (.ref x0)] [])) ?_ st4
  have f6 := (E1.wr W4)
  refine own_retV X4 hx hlk Bd.returns (hb hby d1_11) ?_ (by decide) (by decide)
  rw [e4]
  exact ⟨rfl, N4, K4, f6⟩
theorem d5_0 : decode prog_11_method_1_code 0 = .ok (.aload_n 0, 1) := by decide +kernel
theorem d5_1 : decode prog_11_method_1_code 1 = .ok (.invokespecial 1, 3) := by decide +kernel
theorem d5_4 : decode prog_11_method_1_code 4 = .ok (.aload_n 0, 1) := by decide +kernel
theorem d5_5 : decode prog_11_method_1_code 5 = .ok (.aload_n 1, 1) := by decide +kernel
theorem d5_6 : decode prog_11_method_1_code 6 = .ok (.putfield 7, 3) := by decide +kernel
theorem d5_9 : decode prog_11_method_1_code 9 = .ok (.aload_n 0, 1) := by decide +kernel
theorem d5_10 : decode prog_11_method_1_code 10 = .ok (.aload_n 2, 1) := by decide +kernel
theorem d5_11 : decode prog_11_method_1_code 11 = .ok (.putfield 13, 3) := by decide +kernel
theorem d5_14 : decode prog_11_method_1_code 14 = .ok (.aload_n 0, 1) := by decide +kernel
theorem d5_15 : decode prog_11_method_1_code 15 = .ok (.aload_n 3, 1) := by decide +kernel
theorem d5_16 : decode prog_11_method_1_code 16 = .ok (.putfield 16, 3) := by decide +kernel
theorem d5_19 : decode prog_11_method_1_code 19 = .ok (.aload_n 0, 1) := by decide +kernel
theorem d5_20 : decode prog_11_method_1_code 20 = .ok (.iload 4, 2) := by decide +kernel
theorem d5_22 : decode prog_11_method_1_code 22 = .ok (.putfield 20, 3) := by decide +kernel
theorem d5_25 : decode prog_11_method_1_code 25 = .ok (.aload_n 0, 1) := by decide +kernel
theorem d5_26 : decode prog_11_method_1_code 26 = .ok (.iload 5, 2) := by decide +kernel
theorem d5_28 : decode prog_11_method_1_code 28 = .ok (.putfield 24, 3) := by decide +kernel
theorem d5_31 : decode prog_11_method_1_code 31 = .ok (.aload_n 0, 1) := by decide +kernel
theorem d5_32 : decode prog_11_method_1_code 32 = .ok (.aload 6, 2) := by decide +kernel
theorem d5_34 : decode prog_11_method_1_code 34 = .ok (.putfield 28, 3) := by decide +kernel
theorem d5_37 : decode prog_11_method_1_code 37 = .ok (.aload_n 0, 1) := by decide +kernel
theorem d5_38 : decode prog_11_method_1_code 38 = .ok (.aload 7, 2) := by decide +kernel
theorem d5_40 : decode prog_11_method_1_code 40 = .ok (.putfield 31, 3) := by decide +kernel
theorem d5_43 : decode prog_11_method_1_code 43 = .ok (.return_, 1) := by decide +kernel
theorem pn_com_example_pipecaret_pipecaret_grammar_Constituent : plainName "com/example/pipecaret/pipecaret/grammar/Constituent" = true := by first | (simp [plainName, overriddenIn]; done) | decide +kernel
set_option maxHeartbeats 40000000 in
theorem ef_5 (m : MethodId) (x0 : Addr) (x1 : Value) (hx1 : x1.isRef = true) (x2 : Addr) (x4 : Int32) (x5 : Int32) (x7 : Addr) : entryFrame m #[(.ref x0), x1, (.ref x2), .null, (.int x4), (.int x5), .null, (.ref x7)] 8 = mkF m 0 #[.val (.ref x0), .val x1, .val (.ref x2), .val .null, .val (.int x4), .val (.int x5), .val .null, .val (.ref x7)] [] := by
  have c1 := Jvm.Free.XT.refc hx1
  rcases c1 with rfl | ⟨_, rfl⟩ <;> (simp [entryFrame, mkF, argsToLocals, Value.category])
def Q5 (Z : State) (x0 : Addr) (x1 : Value) (x2 : Addr) (x4 : Int32) (x5 : Int32) (x7 : Addr) (h0 : Heap) (n0 : Nat) (v : Option Value) (h : Heap) (L : List Loc) : Prop := v = none ∧ Fr n0 L ∧ Keep h0 h [x0] ∧ Exa Z h x0 "com/example/pipecaret/pipecaret/grammar/Constituent" ∧ Fld Z h x0 "com/example/pipecaret/pipecaret/grammar/Constituent" "repeatability" "I" (.int x5)
set_option maxRecDepth 65536 in
set_option maxHeartbeats 40000000 in
theorem rm5 (l : Launch) (Z : State) (a0 : Array Value) (hw : ∀ d ∈ tables_1, d.before a0 Z = true) (ws : List Jvm.Cond) (x0 : Addr) (x1 : Value) (x2 : Addr) (x4 : Int32) (x5 : Int32) (x7 : Addr) (h0 : Heap) (n0 : Nat) (Z0 : n0 ≤ h0.size) (hr1 : x1.isRef = true) (hz4 : x4 = 0 ∨ x4 = 1) (E_x0 : Exa Z h0 x0 "com/example/pipecaret/pipecaret/grammar/Constituent") (F_type : Fld Z h0 x0 "com/example/pipecaret/pipecaret/grammar/Constituent" "type" "Ljava/lang/String;" .null) (F_description : Fld Z h0 x0 "com/example/pipecaret/pipecaret/grammar/Constituent" "description" "Ljava/lang/String;" .null) (F_length : Fld Z h0 x0 "com/example/pipecaret/pipecaret/grammar/Constituent" "length" "Ljava/lang/Integer;" .null) (F_required : Fld Z h0 x0 "com/example/pipecaret/pipecaret/grammar/Constituent" "required" "Z" (.int (0 : Int32))) (F_repeatability : Fld Z h0 x0 "com/example/pipecaret/pipecaret/grammar/Constituent" "repeatability" "I" (.int (0 : Int32))) (F_table : Fld Z h0 x0 "com/example/pipecaret/pipecaret/grammar/Constituent" "table" "Ljava/lang/String;" .null) (F_constituents : Fld Z h0 x0 "com/example/pipecaret/pipecaret/grammar/Constituent" "constituents" "Ljava/util/List;" .null) (g_x0 : n0 ≤ x0) :
    MetFree l (⟨"com/example/pipecaret/pipecaret/grammar/Constituent", "<init>", "(Ljava/lang/String;Ljava/lang/String;Ljava/lang/Integer;ZILjava/lang/String;Ljava/util/List;)V"⟩ : MethodName) (head1 (Jvm.Cond.code (⟨"com/example/pipecaret/pipecaret/grammar/Constituent", "<init>", "(Ljava/lang/String;Ljava/lang/String;Ljava/lang/Integer;ZILjava/lang/String;Ljava/util/List;)V"⟩ : MethodName) prog_11_method_1_code 8 none :: ws) ({ frames := 2, cells := 0, slots := 0, locals := 24 } : Room)) (fun a U => a = #[(.ref x0), x1, (.ref x2), .null, (.int x4), (.int x5), .null, (.ref x7)] ∧ Z.Warmed39 U.vm ∧ U.heap = h0) (fun _ _ _ _ _ => True) (fun _ U o U' => ∃ v L, o = .returned v ∧ Q5 Z x0 x1 x2 x4 x5 x7 h0 n0 v U'.heap L ∧ FrameEnd U o U' L ({ frames := 2, cells := 0, slots := 0, locals := 24 } : Room).cells ({ frames := 2, cells := 0, slots := 0, locals := 24 } : Room).slots) := by
  refine MetFree.of_bodySF (plainFor_of_name pn_com_example_pipecaret_pipecaret_grammar_Constituent) hisR ?_
  intro p e s m args below meth c s₁ Bd hml0 hP hK
  obtain ⟨rfl, hZ, hh⟩ := hP
  have hx := Bd.exec
  have hby := Bd.bytes
  have hml : c.maxLocals = 8 := hml0
  have hown : s.vm.findClass "com/example/pipecaret/pipecaret/grammar/Constituent" = some m.cls := findClass_of_methodNamed Bd.named
  have hnm := (name_of_methodNamed Bd.named Bd.method).1
  have hlk : meth.locks = false := BodyLoose.notSynchronized Bd
  have X0 : Stand p l e ({ frames := 2, cells := 0, slots := 0, locals := 24 } : Room) s m #[(.ref x0), x1, (.ref x2), .null, (.int x4), (.int x5), .null, (.ref x7)] below meth c s₁ [] 0 0 := Stand.of_body Bd
  have e0 : s₁.heap = h0 := by rw [← hh, Bd.state]; rfl
  have N0 := Fr.nil n0
  show own_E p e below s (Q5 Z x0 x1 x2 x4 x5 x7 h0 n0) 0 0 (s₁.setTop (entryFrame m #[(.ref x0), x1, (.ref x2), .null, (.int x4), (.int x5), .null, (.ref x7)] 8))
  refine own_pre (B := s₁.setTop (mkF m 0 #[.val (.ref x0), .val x1, .val (.ref x2), .val .null, .val (.int x4), .val (.int x5), .val .null, .val (.ref x7)] [])) ?_ (fun t_ k_ => castTop (ef_5 m x0 x1 hr1 x2 x4 x5 x7) k_)
  refine own_pre (B := s₁.setTop (mkF m 1 #[.val (.ref x0), .val x1, .val (.ref x2), .val .null, .val (.int x4), .val (.int x5), .val .null, .val (.ref x7)] [(.ref x0)])) ?_ fun t_ k_ => XS.aloadN X0.here hx rfl (hb hby d5_0) rfl rfl k_
  obtain ⟨_, _, ⟨T1, L1, k1, n1⟩, -, X1, ⟨Lc1, hQ1, l1, y1, z1⟩, st1⟩ := X0.specialBack hx (y := (⟨"java/lang/Record", "<init>", "()V"⟩ : MethodName)) rfl hown (mvT hZ (hw _ (List.mem_of_getElem? (i := 41) rfl))) (mvT hZ (hw _ (List.mem_of_getElem? (i := 42) rfl))) (mvT hZ (hw _ (List.mem_of_getElem? (i := 45) rfl))) (by decide) (backOf (W := 0) (rm6 l Z a0 hw [] x0 h0 n0 Z0 ) hZ (hw _ (List.mem_of_getElem? (i := 45) rfl)) (hw _ (List.mem_of_getElem? (i := 44) rfl)) (by decide) (by decide)) (g := (mkF m 1 #[.val (.ref x0), .val x1, .val (.ref x2), .val .null, .val (.int x4), .val (.int x5), .val .null, .val (.ref x7)] [(.ref x0)])) rfl (by rw [hml]; rfl) (Steps.refl _) (a := x0) (argsL := []) (rest := []) (lenOf pd___V rfl) rfl (by show 2 * 0 + _ ≤ _; exact Nat.le_of_eq rfl) (hb hby d5_1) (fun _ _ => ⟨rfl, e0, (by decide : 0 + 0 ≤ _), (by decide : 0 + 0 ≤ _)⟩)
  dsimp only [Pt.U, Pt.locs, Pt.cells, Pt.slots] at X1 l1 y1 z1 st1 hQ1
  subst l1 y1 z1
  obtain ⟨rfl, Nq1, e1⟩ := hQ1
  have N1 := Fr.app N0 Nq1
  refine own_pre (B := T1.setTop (mkF m 4 #[.val (.ref x0), .val x1, .val (.ref x2), .val .null, .val (.int x4), .val (.int x5), .val .null, .val (.ref x7)] [])) ?_ (fun t_ k_ => st1.trans k_)
  refine own_pre (B := T1.setTop (mkF m 5 #[.val (.ref x0), .val x1, .val (.ref x2), .val .null, .val (.int x4), .val (.int x5), .val .null, .val (.ref x7)] [(.ref x0)])) ?_ fun t_ k_ => XS.aloadN X1.here hx rfl (hb hby d5_4) rfl rfl k_
  refine own_pre (B := T1.setTop (mkF m 6 #[.val (.ref x0), .val x1, .val (.ref x2), .val .null, .val (.int x4), .val (.int x5), .val .null, .val (.ref x7)] [x1, (.ref x0)])) ?_ fun t_ k_ => XS.aloadN X1.here hx rfl (hb hby d5_5) rfl hr1 k_
  obtain ⟨T2, h2, X2, e2, W2, st2⟩ := putF X1 hx hZ hown (host := "") (Or.inl (hw _ (List.mem_of_getElem? (i := 47) rfl))) Via.refl e1 F_type E_x0 (Or.inr ⟨(hw _ (List.mem_of_getElem? (i := 48) rfl)), rfl, hnm⟩) (hw _ (List.mem_of_getElem? (i := 35) rfl)) (ty := (.object "java/lang/String")) (by decide) (own_nar_ref hr1 rfl) (own_fit_ref hr1 rfl) (g := (mkF m 6 #[.val (.ref x0), .val x1, .val (.ref x2), .val .null, .val (.int x4), .val (.int x5), .val .null, .val (.ref x7)] [x1, (.ref x0)])) rfl rfl (hb hby d5_6)
  have f3 := F_type.same W2
  have N2 := Fr.snoc X2 N1 g_x0
  have Z2 : n0 ≤ h2.size := Nat.le_trans Z0 (Keep.of_wr W2).1
  have K2 := (Keep.refl h0 [x0]).wr W2 (Or.inl (by simp))
  refine own_pre (B := T2.setTop (mkF m 9 #[.val (.ref x0), .val x1, .val (.ref x2), .val .null, .val (.int x4), .val (.int x5), .val .null, .val (.ref x7)] [])) ?_ st2
  refine own_pre (B := T2.setTop (mkF m 10 #[.val (.ref x0), .val x1, .val (.ref x2), .val .null, .val (.int x4), .val (.int x5), .val .null, .val (.ref x7)] [(.ref x0)])) ?_ fun t_ k_ => XS.aloadN X2.here hx rfl (hb hby d5_9) rfl rfl k_
  refine own_pre (B := T2.setTop (mkF m 11 #[.val (.ref x0), .val x1, .val (.ref x2), .val .null, .val (.int x4), .val (.int x5), .val .null, .val (.ref x7)] [(.ref x2), (.ref x0)])) ?_ fun t_ k_ => XS.aloadN X2.here hx rfl (hb hby d5_10) rfl rfl k_
  have f4 := (E_x0.wr W2)
  have f5 := (F_description.other W2 (Or.inr (slot_ne (Or.inr (hw _ (List.mem_of_getElem? (i := 50) rfl))) (Or.inr (hw _ (List.mem_of_getElem? (i := 48) rfl))) (by decide) (t := (.object "java/lang/String")) (t' := (.object "java/lang/String")) (by decide) (by decide))))
  obtain ⟨T6, h6, X6, e6, W6, st6⟩ := putF X2 hx hZ hown (host := "") (Or.inl (hw _ (List.mem_of_getElem? (i := 49) rfl))) Via.refl e2 f5 f4 (Or.inr ⟨(hw _ (List.mem_of_getElem? (i := 50) rfl)), rfl, hnm⟩) (hw _ (List.mem_of_getElem? (i := 35) rfl)) (ty := (.object "java/lang/String")) (by decide) rfl rfl (g := (mkF m 11 #[.val (.ref x0), .val x1, .val (.ref x2), .val .null, .val (.int x4), .val (.int x5), .val .null, .val (.ref x7)] [(.ref x2), (.ref x0)])) rfl rfl (hb hby d5_11)
  have f7 := f5.same W6
  have N6 := Fr.snoc X6 N2 g_x0
  have Z6 : n0 ≤ h6.size := Nat.le_trans Z2 (Keep.of_wr W6).1
  have K6 := K2.wr W6 (Or.inl (by simp))
  refine own_pre (B := T6.setTop (mkF m 14 #[.val (.ref x0), .val x1, .val (.ref x2), .val .null, .val (.int x4), .val (.int x5), .val .null, .val (.ref x7)] [])) ?_ st6
  refine own_pre (B := T6.setTop (mkF m 15 #[.val (.ref x0), .val x1, .val (.ref x2), .val .null, .val (.int x4), .val (.int x5), .val .null, .val (.ref x7)] [(.ref x0)])) ?_ fun t_ k_ => XS.aloadN X6.here hx rfl (hb hby d5_14) rfl rfl k_
  refine own_pre (B := T6.setTop (mkF m 16 #[.val (.ref x0), .val x1, .val (.ref x2), .val .null, .val (.int x4), .val (.int x5), .val .null, .val (.ref x7)] [.null, (.ref x0)])) ?_ fun t_ k_ => XS.aloadN X6.here hx rfl (hb hby d5_15) rfl rfl k_
  have f8 := (f4.wr W6)
  have f9 := ((F_length.other W2 (Or.inr (slot_ne (Or.inr (hw _ (List.mem_of_getElem? (i := 52) rfl))) (Or.inr (hw _ (List.mem_of_getElem? (i := 48) rfl))) (by decide) (t := (.object "java/lang/Integer")) (t' := (.object "java/lang/String")) (by decide) (by decide)))).other W6 (Or.inr (slot_ne (Or.inr (hw _ (List.mem_of_getElem? (i := 52) rfl))) (Or.inr (hw _ (List.mem_of_getElem? (i := 50) rfl))) (by decide) (t := (.object "java/lang/Integer")) (t' := (.object "java/lang/String")) (by decide) (by decide))))
  obtain ⟨T10, h10, X10, e10, W10, st10⟩ := putF X6 hx hZ hown (host := "") (Or.inl (hw _ (List.mem_of_getElem? (i := 51) rfl))) Via.refl e6 f9 f8 (Or.inr ⟨(hw _ (List.mem_of_getElem? (i := 52) rfl)), rfl, hnm⟩) (hw _ (List.mem_of_getElem? (i := 35) rfl)) (ty := (.object "java/lang/Integer")) (by decide) rfl rfl (g := (mkF m 16 #[.val (.ref x0), .val x1, .val (.ref x2), .val .null, .val (.int x4), .val (.int x5), .val .null, .val (.ref x7)] [.null, (.ref x0)])) rfl rfl (hb hby d5_16)
  have f11 := f9.same W10
  have N10 := Fr.snoc X10 N6 g_x0
  have Z10 : n0 ≤ h10.size := Nat.le_trans Z6 (Keep.of_wr W10).1
  have K10 := K6.wr W10 (Or.inl (by simp))
  refine own_pre (B := T10.setTop (mkF m 19 #[.val (.ref x0), .val x1, .val (.ref x2), .val .null, .val (.int x4), .val (.int x5), .val .null, .val (.ref x7)] [])) ?_ st10
  refine own_pre (B := T10.setTop (mkF m 20 #[.val (.ref x0), .val x1, .val (.ref x2), .val .null, .val (.int x4), .val (.int x5), .val .null, .val (.ref x7)] [(.ref x0)])) ?_ fun t_ k_ => XS.aloadN X10.here hx rfl (hb hby d5_19) rfl rfl k_
  refine own_pre (B := T10.setTop (mkF m 22 #[.val (.ref x0), .val x1, .val (.ref x2), .val .null, .val (.int x4), .val (.int x5), .val .null, .val (.ref x7)] [(.int x4), (.ref x0)])) ?_ fun t_ k_ => XS.iload X10.here hx rfl (hb hby d5_20) rfl  k_
  have f12 := (f8.wr W10)
  have f13 := (((F_required.other W2 (Or.inr (slot_ne (Or.inr (hw _ (List.mem_of_getElem? (i := 54) rfl))) (Or.inr (hw _ (List.mem_of_getElem? (i := 48) rfl))) (by decide) (t := .boolean) (t' := (.object "java/lang/String")) (by decide) (by decide)))).other W6 (Or.inr (slot_ne (Or.inr (hw _ (List.mem_of_getElem? (i := 54) rfl))) (Or.inr (hw _ (List.mem_of_getElem? (i := 50) rfl))) (by decide) (t := .boolean) (t' := (.object "java/lang/String")) (by decide) (by decide)))).other W10 (Or.inr (slot_ne (Or.inr (hw _ (List.mem_of_getElem? (i := 54) rfl))) (Or.inr (hw _ (List.mem_of_getElem? (i := 52) rfl))) (by decide) (t := .boolean) (t' := (.object "java/lang/Integer")) (by decide) (by decide))))
  obtain ⟨T14, h14, X14, e14, W14, st14⟩ := putFN X10 hx hZ hown (hw _ (List.mem_of_getElem? (i := 53) rfl)) Via.refl e10 f13 f12 (Or.inr ⟨(hw _ (List.mem_of_getElem? (i := 54) rfl)), rfl, hnm⟩) (hw _ (List.mem_of_getElem? (i := 35) rfl)) (ty := .boolean) (v' := (.int x4)) (by decide) (own_narZ hz4) (own_fitZ hz4) (g := (mkF m 22 #[.val (.ref x0), .val x1, .val (.ref x2), .val .null, .val (.int x4), .val (.int x5), .val .null, .val (.ref x7)] [(.int x4), (.ref x0)])) rfl rfl (hb hby d5_22)
  have f15 := f13.same W14
  have N14 := Fr.snoc X14 N10 g_x0
  have Z14 : n0 ≤ h14.size := Nat.le_trans Z10 (Keep.of_wr W14).1
  have K14 := K10.wr W14 (Or.inl (by simp))
  refine own_pre (B := T14.setTop (mkF m 25 #[.val (.ref x0), .val x1, .val (.ref x2), .val .null, .val (.int x4), .val (.int x5), .val .null, .val (.ref x7)] [])) ?_ st14
  refine own_pre (B := T14.setTop (mkF m 26 #[.val (.ref x0), .val x1, .val (.ref x2), .val .null, .val (.int x4), .val (.int x5), .val .null, .val (.ref x7)] [(.ref x0)])) ?_ fun t_ k_ => XS.aloadN X14.here hx rfl (hb hby d5_25) rfl rfl k_
  refine own_pre (B := T14.setTop (mkF m 28 #[.val (.ref x0), .val x1, .val (.ref x2), .val .null, .val (.int x4), .val (.int x5), .val .null, .val (.ref x7)] [(.int x5), (.ref x0)])) ?_ fun t_ k_ => XS.iload X14.here hx rfl (hb hby d5_26) rfl  k_
  have f16 := (f12.wr W14)
  have f17 := ((((F_repeatability.other W2 (Or.inr (slot_ne (Or.inr (hw _ (List.mem_of_getElem? (i := 56) rfl))) (Or.inr (hw _ (List.mem_of_getElem? (i := 48) rfl))) (by decide) (t := .int) (t' := (.object "java/lang/String")) (by decide) (by decide)))).other W6 (Or.inr (slot_ne (Or.inr (hw _ (List.mem_of_getElem? (i := 56) rfl))) (Or.inr (hw _ (List.mem_of_getElem? (i := 50) rfl))) (by decide) (t := .int) (t' := (.object "java/lang/String")) (by decide) (by decide)))).other W10 (Or.inr (slot_ne (Or.inr (hw _ (List.mem_of_getElem? (i := 56) rfl))) (Or.inr (hw _ (List.mem_of_getElem? (i := 52) rfl))) (by decide) (t := .int) (t' := (.object "java/lang/Integer")) (by decide) (by decide)))).other W14 (Or.inr (slot_ne (Or.inr (hw _ (List.mem_of_getElem? (i := 56) rfl))) (Or.inr (hw _ (List.mem_of_getElem? (i := 54) rfl))) (by decide) (t := .int) (t' := .boolean) (by decide) (by decide))))
  obtain ⟨T18, h18, X18, e18, W18, st18⟩ := putF X14 hx hZ hown (host := "") (Or.inl (hw _ (List.mem_of_getElem? (i := 55) rfl))) Via.refl e14 f17 f16 (Or.inr ⟨(hw _ (List.mem_of_getElem? (i := 56) rfl)), rfl, hnm⟩) (hw _ (List.mem_of_getElem? (i := 35) rfl)) (ty := .int) (by decide) rfl rfl (g := (mkF m 28 #[.val (.ref x0), .val x1, .val (.ref x2), .val .null, .val (.int x4), .val (.int x5), .val .null, .val (.ref x7)] [(.int x5), (.ref x0)])) rfl rfl (hb hby d5_28)
  have f19 := f17.same W18
  have N18 := Fr.snoc X18 N14 g_x0
  have Z18 : n0 ≤ h18.size := Nat.le_trans Z14 (Keep.of_wr W18).1
  have K18 := K14.wr W18 (Or.inl (by simp))
  refine own_pre (B := T18.setTop (mkF m 31 #[.val (.ref x0), .val x1, .val (.ref x2), .val .null, .val (.int x4), .val (.int x5), .val .null, .val (.ref x7)] [])) ?_ st18
  refine own_pre (B := T18.setTop (mkF m 32 #[.val (.ref x0), .val x1, .val (.ref x2), .val .null, .val (.int x4), .val (.int x5), .val .null, .val (.ref x7)] [(.ref x0)])) ?_ fun t_ k_ => XS.aloadN X18.here hx rfl (hb hby d5_31) rfl rfl k_
  refine own_pre (B := T18.setTop (mkF m 34 #[.val (.ref x0), .val x1, .val (.ref x2), .val .null, .val (.int x4), .val (.int x5), .val .null, .val (.ref x7)] [.null, (.ref x0)])) ?_ fun t_ k_ => XS.aload X18.here hx rfl (hb hby d5_32) rfl rfl k_
  have f20 := (f16.wr W18)
  have f21 := (((((F_table.other W2 (Or.inr (slot_ne (Or.inr (hw _ (List.mem_of_getElem? (i := 58) rfl))) (Or.inr (hw _ (List.mem_of_getElem? (i := 48) rfl))) (by decide) (t := (.object "java/lang/String")) (t' := (.object "java/lang/String")) (by decide) (by decide)))).other W6 (Or.inr (slot_ne (Or.inr (hw _ (List.mem_of_getElem? (i := 58) rfl))) (Or.inr (hw _ (List.mem_of_getElem? (i := 50) rfl))) (by decide) (t := (.object "java/lang/String")) (t' := (.object "java/lang/String")) (by decide) (by decide)))).other W10 (Or.inr (slot_ne (Or.inr (hw _ (List.mem_of_getElem? (i := 58) rfl))) (Or.inr (hw _ (List.mem_of_getElem? (i := 52) rfl))) (by decide) (t := (.object "java/lang/String")) (t' := (.object "java/lang/Integer")) (by decide) (by decide)))).other W14 (Or.inr (slot_ne (Or.inr (hw _ (List.mem_of_getElem? (i := 58) rfl))) (Or.inr (hw _ (List.mem_of_getElem? (i := 54) rfl))) (by decide) (t := (.object "java/lang/String")) (t' := .boolean) (by decide) (by decide)))).other W18 (Or.inr (slot_ne (Or.inr (hw _ (List.mem_of_getElem? (i := 58) rfl))) (Or.inr (hw _ (List.mem_of_getElem? (i := 56) rfl))) (by decide) (t := (.object "java/lang/String")) (t' := .int) (by decide) (by decide))))
  obtain ⟨T22, h22, X22, e22, W22, st22⟩ := putF X18 hx hZ hown (host := "") (Or.inl (hw _ (List.mem_of_getElem? (i := 57) rfl))) Via.refl e18 f21 f20 (Or.inr ⟨(hw _ (List.mem_of_getElem? (i := 58) rfl)), rfl, hnm⟩) (hw _ (List.mem_of_getElem? (i := 35) rfl)) (ty := (.object "java/lang/String")) (by decide) rfl rfl (g := (mkF m 34 #[.val (.ref x0), .val x1, .val (.ref x2), .val .null, .val (.int x4), .val (.int x5), .val .null, .val (.ref x7)] [.null, (.ref x0)])) rfl rfl (hb hby d5_34)
  have f23 := f21.same W22
  have N22 := Fr.snoc X22 N18 g_x0
  have Z22 : n0 ≤ h22.size := Nat.le_trans Z18 (Keep.of_wr W22).1
  have K22 := K18.wr W22 (Or.inl (by simp))
  refine own_pre (B := T22.setTop (mkF m 37 #[.val (.ref x0), .val x1, .val (.ref x2), .val .null, .val (.int x4), .val (.int x5), .val .null, .val (.ref x7)] [])) ?_ st22
  refine own_pre (B := T22.setTop (mkF m 38 #[.val (.ref x0), .val x1, .val (.ref x2), .val .null, .val (.int x4), .val (.int x5), .val .null, .val (.ref x7)] [(.ref x0)])) ?_ fun t_ k_ => XS.aloadN X22.here hx rfl (hb hby d5_37) rfl rfl k_
  refine own_pre (B := T22.setTop (mkF m 40 #[.val (.ref x0), .val x1, .val (.ref x2), .val .null, .val (.int x4), .val (.int x5), .val .null, .val (.ref x7)] [(.ref x7), (.ref x0)])) ?_ fun t_ k_ => XS.aload X22.here hx rfl (hb hby d5_38) rfl rfl k_
  have f24 := (f20.wr W22)
  have f25 := ((((((F_constituents.other W2 (Or.inr (slot_ne (Or.inr (hw _ (List.mem_of_getElem? (i := 60) rfl))) (Or.inr (hw _ (List.mem_of_getElem? (i := 48) rfl))) (by decide) (t := (.object "java/util/List")) (t' := (.object "java/lang/String")) (by decide) (by decide)))).other W6 (Or.inr (slot_ne (Or.inr (hw _ (List.mem_of_getElem? (i := 60) rfl))) (Or.inr (hw _ (List.mem_of_getElem? (i := 50) rfl))) (by decide) (t := (.object "java/util/List")) (t' := (.object "java/lang/String")) (by decide) (by decide)))).other W10 (Or.inr (slot_ne (Or.inr (hw _ (List.mem_of_getElem? (i := 60) rfl))) (Or.inr (hw _ (List.mem_of_getElem? (i := 52) rfl))) (by decide) (t := (.object "java/util/List")) (t' := (.object "java/lang/Integer")) (by decide) (by decide)))).other W14 (Or.inr (slot_ne (Or.inr (hw _ (List.mem_of_getElem? (i := 60) rfl))) (Or.inr (hw _ (List.mem_of_getElem? (i := 54) rfl))) (by decide) (t := (.object "java/util/List")) (t' := .boolean) (by decide) (by decide)))).other W18 (Or.inr (slot_ne (Or.inr (hw _ (List.mem_of_getElem? (i := 60) rfl))) (Or.inr (hw _ (List.mem_of_getElem? (i := 56) rfl))) (by decide) (t := (.object "java/util/List")) (t' := .int) (by decide) (by decide)))).other W22 (Or.inr (slot_ne (Or.inr (hw _ (List.mem_of_getElem? (i := 60) rfl))) (Or.inr (hw _ (List.mem_of_getElem? (i := 58) rfl))) (by decide) (t := (.object "java/util/List")) (t' := (.object "java/lang/String")) (by decide) (by decide))))
  obtain ⟨T26, h26, X26, e26, W26, st26⟩ := putF X22 hx hZ hown (host := "") (Or.inl (hw _ (List.mem_of_getElem? (i := 59) rfl))) Via.refl e22 f25 f24 (Or.inr ⟨(hw _ (List.mem_of_getElem? (i := 60) rfl)), rfl, hnm⟩) (hw _ (List.mem_of_getElem? (i := 35) rfl)) (ty := (.object "java/util/List")) (by decide) rfl rfl (g := (mkF m 40 #[.val (.ref x0), .val x1, .val (.ref x2), .val .null, .val (.int x4), .val (.int x5), .val .null, .val (.ref x7)] [(.ref x7), (.ref x0)])) rfl rfl (hb hby d5_40)
  have f27 := f25.same W26
  have N26 := Fr.snoc X26 N22 g_x0
  have Z26 : n0 ≤ h26.size := Nat.le_trans Z22 (Keep.of_wr W26).1
  have K26 := K22.wr W26 (Or.inl (by simp))
  refine own_pre (B := T26.setTop (mkF m 43 #[.val (.ref x0), .val x1, .val (.ref x2), .val .null, .val (.int x4), .val (.int x5), .val .null, .val (.ref x7)] [])) ?_ st26
  have f28 := (f24.wr W26)
  have f29 := ((f19.other W22 (Or.inr (slot_ne (Or.inr (hw _ (List.mem_of_getElem? (i := 56) rfl))) (Or.inr (hw _ (List.mem_of_getElem? (i := 58) rfl))) (by decide) (t := .int) (t' := (.object "java/lang/String")) (by decide) (by decide)))).other W26 (Or.inr (slot_ne (Or.inr (hw _ (List.mem_of_getElem? (i := 56) rfl))) (Or.inr (hw _ (List.mem_of_getElem? (i := 60) rfl))) (by decide) (t := .int) (t' := (.object "java/util/List")) (by decide) (by decide))))
  refine own_retV X26 hx hlk Bd.returns (hb hby d5_43) ?_ (by decide) (by decide)
  rw [e26]
  exact ⟨rfl, N26, K26, f28, f29⟩
theorem d7_0 : decode jdk_29_method_69_code 0 = .ok (.iload_n 0, 1) := by decide +kernel
theorem d7_1 : decode jdk_29_method_69_code 1 = .ok (.iload_n 1, 1) := by decide +kernel
theorem d7_2 : decode jdk_29_method_69_code 2 = .ok (.if_icmp .gt 7, 3) := by decide +kernel
theorem d7_9 : decode jdk_29_method_69_code 9 = .ok (.iload_n 1, 1) := by decide +kernel
theorem d7_10 : decode jdk_29_method_69_code 10 = .ok (.ireturn, 1) := by decide +kernel
theorem d7_5 : decode jdk_29_method_69_code 5 = .ok (.iload_n 0, 1) := by decide +kernel
theorem d7_6 : decode jdk_29_method_69_code 6 = .ok (.goto 4, 3) := by decide +kernel
theorem d8_0 : decode jdk_29_method_65_code 0 = .ok (.iload_n 0, 1) := by decide +kernel
theorem d8_1 : decode jdk_29_method_65_code 1 = .ok (.iload_n 1, 1) := by decide +kernel
theorem d8_2 : decode jdk_29_method_65_code 2 = .ok (.if_icmp .lt 7, 3) := by decide +kernel
theorem d8_9 : decode jdk_29_method_65_code 9 = .ok (.iload_n 1, 1) := by decide +kernel
theorem d8_10 : decode jdk_29_method_65_code 10 = .ok (.ireturn, 1) := by decide +kernel
theorem d8_5 : decode jdk_29_method_65_code 5 = .ok (.iload_n 0, 1) := by decide +kernel
theorem d8_6 : decode jdk_29_method_65_code 6 = .ok (.goto 4, 3) := by decide +kernel
def own_min (x0 : Int32) (x1 : Int32) : Int32 := (if x1 < x0 then x1 else x0)
def own_max (x0 : Int32) (x1 : Int32) : Int32 := (if x0 < x1 then x1 else x0)
set_option maxHeartbeats 4000000 in
theorem ef_7 (m : MethodId) (x0 : Int32) (x1 : Int32) : entryFrame m #[(.int x0), (.int x1)] 2 = mkF m 0 #[.val (.int x0), .val (.int x1)] [] := by first | (simp [entryFrame, mkF, argsToLocals, Value.category]; done) | rfl
def Q7 (Z : State) (x0 : Int32) (x1 : Int32) (h0 : Heap) (n0 : Nat) (v : Option Value) (h : Heap) (L : List Loc) : Prop := v = some (.int (own_min x0 x1)) ∧ Fr n0 L ∧ h = h0
set_option maxRecDepth 65536 in
set_option maxHeartbeats 40000000 in
theorem rm7 (l : Launch) (Z : State) (a0 : Array Value) (hw : ∀ d ∈ tables_1, d.before a0 Z = true) (ws : List Jvm.Cond) (x0 : Int32) (x1 : Int32) (h0 : Heap) (n0 : Nat) (Z0 : n0 ≤ h0.size) :
    MetFree l (⟨"java/lang/Math", "min", "(II)I"⟩ : MethodName) (head1 (Jvm.Cond.code (⟨"java/lang/Math", "min", "(II)I"⟩ : MethodName) jdk_29_method_69_code 2 (some .int) :: ws) ({ frames := 0, cells := 0, slots := 0, locals := 0 } : Room)) (fun a U => a = #[(.int x0), (.int x1)] ∧ Z.Warmed39 U.vm ∧ U.heap = h0) (fun _ _ _ _ _ => True) (fun _ U o U' => ∃ v L, o = .returned v ∧ Q7 Z x0 x1 h0 n0 v U'.heap L ∧ FrameEnd U o U' L ({ frames := 0, cells := 0, slots := 0, locals := 0 } : Room).cells ({ frames := 0, cells := 0, slots := 0, locals := 0 } : Room).slots) := by
  refine MetFree.of_bodySF (Jvm.Free.JP.mathPlain rfl (by decide +kernel)) hisR ?_
  intro p e s m args below meth c s₁ Bd hml0 hP hK
  obtain ⟨rfl, hZ, hh⟩ := hP
  have hx := Bd.exec
  have hby := Bd.bytes
  have hml : c.maxLocals = 2 := hml0
  have hown : s.vm.findClass "java/lang/Math" = some m.cls := findClass_of_methodNamed Bd.named
  have hnm := (name_of_methodNamed Bd.named Bd.method).1
  have hlk : meth.locks = false := BodyLoose.notSynchronized Bd
  have X0 : Stand p l e ({ frames := 0, cells := 0, slots := 0, locals := 0 } : Room) s m #[(.int x0), (.int x1)] below meth c s₁ [] 0 0 := Stand.of_body Bd
  have e0 : s₁.heap = h0 := by rw [← hh, Bd.state]; rfl
  have N0 := Fr.nil n0
  show own_E p e below s (Q7 Z x0 x1 h0 n0) 0 0 (s₁.setTop (entryFrame m #[(.int x0), (.int x1)] 2))
  refine own_pre (B := s₁.setTop (mkF m 0 #[.val (.int x0), .val (.int x1)] [])) ?_ (fun t_ k_ => castTop (ef_7 m x0 x1) k_)
  refine own_pre (B := s₁.setTop (mkF m 1 #[.val (.int x0), .val (.int x1)] [(.int x0)])) ?_ fun t_ k_ => XS.iloadN X0.here hx rfl (hb hby d7_0) rfl  k_
  refine own_pre (B := s₁.setTop (mkF m 2 #[.val (.int x0), .val (.int x1)] [(.int x1), (.int x0)])) ?_ fun t_ k_ => XS.iloadN X0.here hx rfl (hb hby d7_1) rfl  k_
  by_cases h2_1 : x1 < x0
  · skip
    refine own_pre (B := s₁.setTop (mkF m 9 #[.val (.int x0), .val (.int x1)] [])) ?_ fun t_ k_ => XS.icmpYes X0.here hx rfl (pc0 := 2) (pc' := 9) rfl (hb hby d7_2) rfl (tlt h2_1).2.2.1 (by decide) (by decide) k_
    refine own_pre (B := s₁.setTop (mkF m 10 #[.val (.int x0), .val (.int x1)] [(.int x1)])) ?_ fun t_ k_ => XS.iloadN X0.here hx rfl (hb hby d7_9) rfl  k_
    refine own_retI X0 hx hlk Bd.returns (hb hby d7_10) ?_ (by decide) (by decide)
    rw [e0]
    exact ⟨by rw [own_min, if_pos h2_1], N0, rfl⟩
  · skip
    refine own_pre (B := s₁.setTop (mkF m 5 #[.val (.int x0), .val (.int x1)] [])) ?_ fun t_ k_ => XS.icmpNo X0.here hx rfl (hb hby d7_2) rfl (flt h2_1).2.2.1 k_
    refine own_pre (B := s₁.setTop (mkF m 6 #[.val (.int x0), .val (.int x1)] [(.int x0)])) ?_ fun t_ k_ => XS.iloadN X0.here hx rfl (hb hby d7_5) rfl  k_
    refine own_pre (B := s₁.setTop (mkF m 10 #[.val (.int x0), .val (.int x1)] [(.int x0)])) ?_ fun t_ k_ => XS.goto X0.here hx rfl (pc0 := 6) (pc' := 10) rfl (hb hby d7_6) (by decide) (by decide) k_
    refine own_retI X0 hx hlk Bd.returns (hb hby d7_10) ?_ (by decide) (by decide)
    rw [e0]
    exact ⟨by rw [own_min, if_neg h2_1], N0, rfl⟩
set_option maxHeartbeats 4000000 in
theorem ef_8 (m : MethodId) (x0 : Int32) (x1 : Int32) : entryFrame m #[(.int x0), (.int x1)] 2 = mkF m 0 #[.val (.int x0), .val (.int x1)] [] := by first | (simp [entryFrame, mkF, argsToLocals, Value.category]; done) | rfl
def Q8 (Z : State) (x0 : Int32) (x1 : Int32) (h0 : Heap) (n0 : Nat) (v : Option Value) (h : Heap) (L : List Loc) : Prop := v = some (.int (own_max x0 x1)) ∧ Fr n0 L ∧ h = h0
set_option maxRecDepth 65536 in
set_option maxHeartbeats 40000000 in
theorem rm8 (l : Launch) (Z : State) (a0 : Array Value) (hw : ∀ d ∈ tables_1, d.before a0 Z = true) (ws : List Jvm.Cond) (x0 : Int32) (x1 : Int32) (h0 : Heap) (n0 : Nat) (Z0 : n0 ≤ h0.size) :
    MetFree l (⟨"java/lang/Math", "max", "(II)I"⟩ : MethodName) (head1 (Jvm.Cond.code (⟨"java/lang/Math", "max", "(II)I"⟩ : MethodName) jdk_29_method_65_code 2 (some .int) :: ws) ({ frames := 0, cells := 0, slots := 0, locals := 0 } : Room)) (fun a U => a = #[(.int x0), (.int x1)] ∧ Z.Warmed39 U.vm ∧ U.heap = h0) (fun _ _ _ _ _ => True) (fun _ U o U' => ∃ v L, o = .returned v ∧ Q8 Z x0 x1 h0 n0 v U'.heap L ∧ FrameEnd U o U' L ({ frames := 0, cells := 0, slots := 0, locals := 0 } : Room).cells ({ frames := 0, cells := 0, slots := 0, locals := 0 } : Room).slots) := by
  refine MetFree.of_bodySF (Jvm.Free.JP.mathPlain rfl (by decide +kernel)) hisR ?_
  intro p e s m args below meth c s₁ Bd hml0 hP hK
  obtain ⟨rfl, hZ, hh⟩ := hP
  have hx := Bd.exec
  have hby := Bd.bytes
  have hml : c.maxLocals = 2 := hml0
  have hown : s.vm.findClass "java/lang/Math" = some m.cls := findClass_of_methodNamed Bd.named
  have hnm := (name_of_methodNamed Bd.named Bd.method).1
  have hlk : meth.locks = false := BodyLoose.notSynchronized Bd
  have X0 : Stand p l e ({ frames := 0, cells := 0, slots := 0, locals := 0 } : Room) s m #[(.int x0), (.int x1)] below meth c s₁ [] 0 0 := Stand.of_body Bd
  have e0 : s₁.heap = h0 := by rw [← hh, Bd.state]; rfl
  have N0 := Fr.nil n0
  show own_E p e below s (Q8 Z x0 x1 h0 n0) 0 0 (s₁.setTop (entryFrame m #[(.int x0), (.int x1)] 2))
  refine own_pre (B := s₁.setTop (mkF m 0 #[.val (.int x0), .val (.int x1)] [])) ?_ (fun t_ k_ => castTop (ef_8 m x0 x1) k_)
  refine own_pre (B := s₁.setTop (mkF m 1 #[.val (.int x0), .val (.int x1)] [(.int x0)])) ?_ fun t_ k_ => XS.iloadN X0.here hx rfl (hb hby d8_0) rfl  k_
  refine own_pre (B := s₁.setTop (mkF m 2 #[.val (.int x0), .val (.int x1)] [(.int x1), (.int x0)])) ?_ fun t_ k_ => XS.iloadN X0.here hx rfl (hb hby d8_1) rfl  k_
  by_cases h2_1 : x0 < x1
  · skip
    refine own_pre (B := s₁.setTop (mkF m 9 #[.val (.int x0), .val (.int x1)] [])) ?_ fun t_ k_ => XS.icmpYes X0.here hx rfl (pc0 := 2) (pc' := 9) rfl (hb hby d8_2) rfl (tlt h2_1).1 (by decide) (by decide) k_
    refine own_pre (B := s₁.setTop (mkF m 10 #[.val (.int x0), .val (.int x1)] [(.int x1)])) ?_ fun t_ k_ => XS.iloadN X0.here hx rfl (hb hby d8_9) rfl  k_
    refine own_retI X0 hx hlk Bd.returns (hb hby d8_10) ?_ (by decide) (by decide)
    rw [e0]
    exact ⟨by rw [own_max, if_pos h2_1], N0, rfl⟩
  · skip
    refine own_pre (B := s₁.setTop (mkF m 5 #[.val (.int x0), .val (.int x1)] [])) ?_ fun t_ k_ => XS.icmpNo X0.here hx rfl (hb hby d8_2) rfl (flt h2_1).1 k_
    refine own_pre (B := s₁.setTop (mkF m 6 #[.val (.int x0), .val (.int x1)] [(.int x0)])) ?_ fun t_ k_ => XS.iloadN X0.here hx rfl (hb hby d8_5) rfl  k_
    refine own_pre (B := s₁.setTop (mkF m 10 #[.val (.int x0), .val (.int x1)] [(.int x0)])) ?_ fun t_ k_ => XS.goto X0.here hx rfl (pc0 := 6) (pc' := 10) rfl (hb hby d8_6) (by decide) (by decide) k_
    refine own_retI X0 hx hlk Bd.returns (hb hby d8_10) ?_ (by decide) (by decide)
    rw [e0]
    exact ⟨by rw [own_max, if_neg h2_1], N0, rfl⟩
def own_al (r o : Int32) : Int32 := if r = (-1 : Int32) then 1 else if r < o then 0 else 1
theorem d9_0 : decode prog_11_method_3_code 0 = .ok (.aload_n 0, 1) := by decide +kernel
theorem d9_1 : decode prog_11_method_3_code 1 = .ok (.getfield 24, 3) := by decide +kernel
theorem d9_4 : decode prog_11_method_3_code 4 = .ok (.iconst (-1), 1) := by decide +kernel
theorem d9_5 : decode prog_11_method_3_code 5 = .ok (.if_icmp .eq 11, 3) := by decide +kernel
theorem d9_16 : decode prog_11_method_3_code 16 = .ok (.iconst 1, 1) := by decide +kernel
theorem d9_17 : decode prog_11_method_3_code 17 = .ok (.goto 4, 3) := by decide +kernel
theorem d9_21 : decode prog_11_method_3_code 21 = .ok (.ireturn, 1) := by decide +kernel
theorem d9_8 : decode prog_11_method_3_code 8 = .ok (.iload_n 1, 1) := by decide +kernel
theorem d9_9 : decode prog_11_method_3_code 9 = .ok (.aload_n 0, 1) := by decide +kernel
theorem d9_10 : decode prog_11_method_3_code 10 = .ok (.getfield 24, 3) := by decide +kernel
theorem d9_13 : decode prog_11_method_3_code 13 = .ok (.if_icmp .gt 7, 3) := by decide +kernel
theorem d9_20 : decode prog_11_method_3_code 20 = .ok (.iconst 0, 1) := by decide +kernel
set_option maxHeartbeats 4000000 in
theorem ef_9 (m : MethodId) (x0 : Addr) (x1 : Int32) : entryFrame m #[(.ref x0), (.int x1)] 2 = mkF m 0 #[.val (.ref x0), .val (.int x1)] [] := by first | (simp [entryFrame, mkF, argsToLocals, Value.category]; done) | rfl
def Q9 (Z : State) (x0 : Addr) (x1 : Int32) (rp : Int32) (h0 : Heap) (n0 : Nat) (v : Option Value) (h : Heap) (L : List Loc) : Prop := v = some (.int (own_al rp x1)) ∧ Fr n0 L ∧ h = h0
set_option maxRecDepth 65536 in
set_option maxHeartbeats 40000000 in
theorem rm9 (l : Launch) (Z : State) (a0 : Array Value) (hw : ∀ d ∈ tables_1, d.before a0 Z = true) (ws : List Jvm.Cond) (x0 : Addr) (x1 : Int32) (rp : Int32) (h0 : Heap) (n0 : Nat) (Z0 : n0 ≤ h0.size) (F_r : Fld Z h0 x0 "com/example/pipecaret/pipecaret/grammar/Constituent" "repeatability" "I" (.int rp)) :
    MetFree l (⟨"com/example/pipecaret/pipecaret/grammar/Constituent", "allows", "(I)Z"⟩ : MethodName) (head1 (Jvm.Cond.code (⟨"com/example/pipecaret/pipecaret/grammar/Constituent", "allows", "(I)Z"⟩ : MethodName) prog_11_method_3_code 2 (some .boolean) :: ws) ({ frames := 0, cells := 0, slots := 0, locals := 0 } : Room)) (fun a U => a = #[(.ref x0), (.int x1)] ∧ Z.Warmed39 U.vm ∧ U.heap = h0) (fun _ _ _ _ _ => True) (fun _ U o U' => ∃ v L, o = .returned v ∧ Q9 Z x0 x1 rp h0 n0 v U'.heap L ∧ FrameEnd U o U' L ({ frames := 0, cells := 0, slots := 0, locals := 0 } : Room).cells ({ frames := 0, cells := 0, slots := 0, locals := 0 } : Room).slots) := by
  refine MetFree.of_bodySF (plainFor_of_name pn_com_example_pipecaret_pipecaret_grammar_Constituent) hisR ?_
  intro p e s m args below meth c s₁ Bd hml0 hP hK
  obtain ⟨rfl, hZ, hh⟩ := hP
  have hx := Bd.exec
  have hby := Bd.bytes
  have hml : c.maxLocals = 2 := hml0
  have hown : s.vm.findClass "com/example/pipecaret/pipecaret/grammar/Constituent" = some m.cls := findClass_of_methodNamed Bd.named
  have hnm := (name_of_methodNamed Bd.named Bd.method).1
  have hlk : meth.locks = false := BodyLoose.notSynchronized Bd
  have X0 : Stand p l e ({ frames := 0, cells := 0, slots := 0, locals := 0 } : Room) s m #[(.ref x0), (.int x1)] below meth c s₁ [] 0 0 := Stand.of_body Bd
  have e0 : s₁.heap = h0 := by rw [← hh, Bd.state]; rfl
  have N0 := Fr.nil n0
  show own_E p e below s (Q9 Z x0 x1 rp h0 n0) 0 0 (s₁.setTop (entryFrame m #[(.ref x0), (.int x1)] 2))
  refine own_pre (B := s₁.setTop (mkF m 0 #[.val (.ref x0), .val (.int x1)] [])) ?_ (fun t_ k_ => castTop (ef_9 m x0 x1) k_)
  refine own_pre (B := s₁.setTop (mkF m 1 #[.val (.ref x0), .val (.int x1)] [(.ref x0)])) ?_ fun t_ k_ => XS.aloadN X0.here hx rfl (hb hby d9_0) rfl rfl k_
  obtain ⟨T1, X1, e1, st1⟩ := getF X0 hx hZ hown (host := "") (Or.inl (hw _ (List.mem_of_getElem? (i := 55) rfl))) Via.refl e0 F_r (g := (mkF m 1 #[.val (.ref x0), .val (.int x1)] [(.ref x0)])) rfl rfl (hb hby d9_1)
  refine own_pre (B := T1.setTop (mkF m 4 #[.val (.ref x0), .val (.int x1)] [(.int rp)])) ?_ st1
  refine own_pre (B := T1.setTop (mkF m 5 #[.val (.ref x0), .val (.int x1)] [(.int (-1 : Int32)), (.int rp)])) ?_ fun t_ k_ => XS.iconst X1.here hx rfl (hb hby d9_4) k_
  by_cases h5_2 : rp = (-1 : Int32)
  · skip
    refine own_pre (B := T1.setTop (mkF m 16 #[.val (.ref x0), .val (.int x1)] [])) ?_ fun t_ k_ => XS.icmpYes X1.here hx rfl (pc0 := 5) (pc' := 16) rfl (hb hby d9_5) rfl (teq h5_2).1 (by decide) (by decide) k_
    refine own_pre (B := T1.setTop (mkF m 17 #[.val (.ref x0), .val (.int x1)] [(.int (1 : Int32))])) ?_ fun t_ k_ => XS.iconst X1.here hx rfl (hb hby d9_16) k_
    refine own_pre (B := T1.setTop (mkF m 21 #[.val (.ref x0), .val (.int x1)] [(.int (1 : Int32))])) ?_ fun t_ k_ => XS.goto X1.here hx rfl (pc0 := 17) (pc' := 21) rfl (hb hby d9_17) (by decide) (by decide) k_
    refine own_retN X1 hx hlk (t := .boolean) (z' := (1 : Int32)) Bd.returns (by simp) (hb hby d9_21) (by decide) ?_ (by decide) (by decide)
    rw [e1]
    exact ⟨by rw [own_al, if_pos h5_2], N0, rfl⟩
  · skip
    refine own_pre (B := T1.setTop (mkF m 8 #[.val (.ref x0), .val (.int x1)] [])) ?_ fun t_ k_ => XS.icmpNo X1.here hx rfl (hb hby d9_5) rfl (feq h5_2).1 k_
    refine own_pre (B := T1.setTop (mkF m 9 #[.val (.ref x0), .val (.int x1)] [(.int x1)])) ?_ fun t_ k_ => XS.iloadN X1.here hx rfl (hb hby d9_8) rfl  k_
    refine own_pre (B := T1.setTop (mkF m 10 #[.val (.ref x0), .val (.int x1)] [(.ref x0), (.int x1)])) ?_ fun t_ k_ => XS.aloadN X1.here hx rfl (hb hby d9_9) rfl rfl k_
    obtain ⟨T3, X3, e3, st3⟩ := getF X1 hx hZ hown (host := "") (Or.inl (hw _ (List.mem_of_getElem? (i := 55) rfl))) Via.refl e1 F_r (g := (mkF m 10 #[.val (.ref x0), .val (.int x1)] [(.ref x0), (.int x1)])) rfl rfl (hb hby d9_10)
    refine own_pre (B := T3.setTop (mkF m 13 #[.val (.ref x0), .val (.int x1)] [(.int rp), (.int x1)])) ?_ st3
    by_cases h13_4 : rp < x1
    · skip
      refine own_pre (B := T3.setTop (mkF m 20 #[.val (.ref x0), .val (.int x1)] [])) ?_ fun t_ k_ => XS.icmpYes X3.here hx rfl (pc0 := 13) (pc' := 20) rfl (hb hby d9_13) rfl (tlt h13_4).2.2.1 (by decide) (by decide) k_
      refine own_pre (B := T3.setTop (mkF m 21 #[.val (.ref x0), .val (.int x1)] [(.int (0 : Int32))])) ?_ fun t_ k_ => XS.iconst X3.here hx rfl (hb hby d9_20) k_
      refine own_retN X3 hx hlk (t := .boolean) (z' := (0 : Int32)) Bd.returns (by simp) (hb hby d9_21) (by decide) ?_ (by decide) (by decide)
      rw [e3]
      exact ⟨by rw [own_al, if_neg h5_2, if_pos h13_4], N0, rfl⟩
    · skip
      refine own_pre (B := T3.setTop (mkF m 16 #[.val (.ref x0), .val (.int x1)] [])) ?_ fun t_ k_ => XS.icmpNo X3.here hx rfl (hb hby d9_13) rfl (flt h13_4).2.2.1 k_
      refine own_pre (B := T3.setTop (mkF m 17 #[.val (.ref x0), .val (.int x1)] [(.int (1 : Int32))])) ?_ fun t_ k_ => XS.iconst X3.here hx rfl (hb hby d9_16) k_
      refine own_pre (B := T3.setTop (mkF m 21 #[.val (.ref x0), .val (.int x1)] [(.int (1 : Int32))])) ?_ fun t_ k_ => XS.goto X3.here hx rfl (pc0 := 17) (pc' := 21) rfl (hb hby d9_17) (by decide) (by decide) k_
      refine own_retN X3 hx hlk (t := .boolean) (z' := (1 : Int32)) Bd.returns (by simp) (hb hby d9_21) (by decide) ?_ (by decide) (by decide)
      rw [e3]
      exact ⟨by rw [own_al, if_neg h5_2, if_neg h13_4], N0, rfl⟩
theorem own_01 {P : Prop} [Decidable P] {j : Int32} (h : j = (if P then (0 : Int32) else (1 : Int32))) : j = 0 ∨ j = 1 := by
  by_cases q : P
  · rw [if_pos q] at h; exact Or.inl h
  · rw [if_neg q] at h; exact Or.inr h
theorem own_mm (a b : Int32) : ¬ own_max a b < own_min a b := by
  unfold own_max own_min
  simp only [Int32.lt_iff_toInt_lt]
  split <;> split <;> omega
theorem own_nn (x : Int32) : ¬ (x &&& (2147483647 : Int32)) = (-1 : Int32) ∧ 0 ≤ (x &&& (2147483647 : Int32)).toInt := by
  have r := c_mask x 2147483647 31 (by decide) (by decide)
  refine ⟨fun q => ?_, by omega⟩
  rw [q] at r; simp only [Int32.reduceToInt] at r; omega
theorem pd__Ljava_lang_String_Ljava_lang_String_Ljava_lang_Integer_ZILjava_lang_String_Ljava_util_List__V : parseMethodDescriptor "(Ljava/lang/String;Ljava/lang/String;Ljava/lang/Integer;ZILjava/lang/String;Ljava/util/List;)V" = some ⟨[(.object "java/lang/String"), (.object "java/lang/String"), (.object "java/lang/Integer"), .boolean, .int, (.object "java/lang/String"), (.object "java/util/List")], none⟩ := by decide +kernel
theorem pd__II_I : parseMethodDescriptor "(II)I" = some ⟨[.int, .int], some .int⟩ := by decide +kernel
theorem pd__I_Z : parseMethodDescriptor "(I)Z" = some ⟨[.int], some .boolean⟩ := by decide +kernel
set_option maxRecDepth 65536 in
set_option maxHeartbeats 40000000 in
theorem own_fin1 (x0 : Int32) (x1 : Int32) (x2 : Int32) (x3 : Int32) (dc : Addr) (j2_s0 : Int32) (hvj2_s0 : j2_s0 = (if (x1 &&& (1 : Int32)) = (0 : Int32) then (0 : Int32) else (1 : Int32))) (j5_s0 : Int32) (hvj5_s0 : j5_s0 = (if (x1 &&& (2 : Int32)) = (0 : Int32) then (0 : Int32) else (1 : Int32))) (j8_s0 : Int32) (hvj8_s0 : j8_s0 = (if (x1 &&& (4 : Int32)) = (0 : Int32) then (0 : Int32) else (1 : Int32))) (j11_s0 : Int32) (hvj11_s0 : j11_s0 = (if j2_s0 = (0 : Int32) then (x0 &&& (2147483647 : Int32)) else (-1 : Int32))) (h56_13 : j8_s0 = (0 : Int32)) (h131_34 : j2_s0 = (0 : Int32)) (h152_35 : (own_al j11_s0 (own_max x2 x3)) = (0 : Int32)) : ¬ ((own_al j11_s0 j11_s0) = (0 : Int32)) := by
  rw [if_pos h131_34] at hvj11_s0
  have q := own_nn x0
  rw [← hvj11_s0] at q
  unfold own_al
  rw [if_neg q.1, if_neg (by rw [Int32.lt_iff_toInt_lt]; omega)]; decide
set_option maxRecDepth 65536 in
set_option maxHeartbeats 40000000 in
theorem own_fin2 (x0 : Int32) (x1 : Int32) (x2 : Int32) (x3 : Int32) (dc : Addr) (j2_s0 : Int32) (hvj2_s0 : j2_s0 = (if (x1 &&& (1 : Int32)) = (0 : Int32) then (0 : Int32) else (1 : Int32))) (j5_s0 : Int32) (hvj5_s0 : j5_s0 = (if (x1 &&& (2 : Int32)) = (0 : Int32) then (0 : Int32) else (1 : Int32))) (j8_s0 : Int32) (hvj8_s0 : j8_s0 = (if (x1 &&& (4 : Int32)) = (0 : Int32) then (0 : Int32) else (1 : Int32))) (j11_s0 : Int32) (hvj11_s0 : j11_s0 = (if j2_s0 = (0 : Int32) then (x0 &&& (2147483647 : Int32)) else (-1 : Int32))) (h56_13 : j8_s0 = (0 : Int32)) (h131_34 : j2_s0 = (0 : Int32)) (h152_35 : (own_al j11_s0 (own_max x2 x3)) = (0 : Int32)) (h178_37 : ¬ (j11_s0 = (2147483647 : Int32))) : (own_al j11_s0 (j11_s0 + (1 : Int32))) = (0 : Int32) := by
  rw [if_pos h131_34] at hvj11_s0
  have q := own_nn x0
  rw [← hvj11_s0] at q
  have s := c_iadd j11_s0 1
  have g := rng32 (j11_s0 + 1)
  have g2 := rng32 j11_s0
  have ne := h178_37
  rw [← Int32.toInt_inj] at ne
  simp only [Int32.reduceToInt] at s ne
  unfold own_al
  rw [if_neg q.1, if_pos (by rw [Int32.lt_iff_toInt_lt]; omega)]
set_option maxRecDepth 65536 in
set_option maxHeartbeats 40000000 in
theorem own_fin3 (x0 : Int32) (x1 : Int32) (x2 : Int32) (x3 : Int32) (dc : Addr) (j2_s0 : Int32) (hvj2_s0 : j2_s0 = (if (x1 &&& (1 : Int32)) = (0 : Int32) then (0 : Int32) else (1 : Int32))) (j5_s0 : Int32) (hvj5_s0 : j5_s0 = (if (x1 &&& (2 : Int32)) = (0 : Int32) then (0 : Int32) else (1 : Int32))) (j8_s0 : Int32) (hvj8_s0 : j8_s0 = (if (x1 &&& (4 : Int32)) = (0 : Int32) then (0 : Int32) else (1 : Int32))) (j11_s0 : Int32) (hvj11_s0 : j11_s0 = (if j2_s0 = (0 : Int32) then (x0 &&& (2147483647 : Int32)) else (-1 : Int32))) (h56_13 : j8_s0 = (0 : Int32)) (h131_34 : j2_s0 = (0 : Int32)) (h152_35 : ¬ ((own_al j11_s0 (own_max x2 x3)) = (0 : Int32))) : ¬ ((own_al j11_s0 (own_min x2 x3)) = (0 : Int32)) := by
  rw [if_pos h131_34] at hvj11_s0
  have q := own_nn x0
  rw [← hvj11_s0] at q
  have m := own_mm x2 x3
  have e := h152_35
  unfold own_al at e ⊢
  rw [if_neg q.1] at e ⊢
  split at e
  · exact absurd rfl e
  · rename_i u
    rw [if_neg (by rw [Int32.lt_iff_toInt_lt] at u m ⊢; omega)]; decide
set_option maxRecDepth 65536 in
set_option maxHeartbeats 40000000 in
theorem own_fin4 (x0 : Int32) (x1 : Int32) (x2 : Int32) (x3 : Int32) (dc : Addr) (j2_s0 : Int32) (hvj2_s0 : j2_s0 = (if (x1 &&& (1 : Int32)) = (0 : Int32) then (0 : Int32) else (1 : Int32))) (j5_s0 : Int32) (hvj5_s0 : j5_s0 = (if (x1 &&& (2 : Int32)) = (0 : Int32) then (0 : Int32) else (1 : Int32))) (j8_s0 : Int32) (hvj8_s0 : j8_s0 = (if (x1 &&& (4 : Int32)) = (0 : Int32) then (0 : Int32) else (1 : Int32))) (j11_s0 : Int32) (hvj11_s0 : j11_s0 = (if j2_s0 = (0 : Int32) then (x0 &&& (2147483647 : Int32)) else (-1 : Int32))) (h56_13 : j8_s0 = (0 : Int32)) (h131_34 : j2_s0 = (0 : Int32)) (h152_35 : ¬ ((own_al j11_s0 (own_max x2 x3)) = (0 : Int32))) : ¬ ((own_al j11_s0 j11_s0) = (0 : Int32)) := by
  rw [if_pos h131_34] at hvj11_s0
  have q := own_nn x0
  rw [← hvj11_s0] at q
  unfold own_al
  rw [if_neg q.1, if_neg (by rw [Int32.lt_iff_toInt_lt]; omega)]; decide
set_option maxRecDepth 65536 in
set_option maxHeartbeats 40000000 in
theorem own_fin5 (x0 : Int32) (x1 : Int32) (x2 : Int32) (x3 : Int32) (dc : Addr) (j2_s0 : Int32) (hvj2_s0 : j2_s0 = (if (x1 &&& (1 : Int32)) = (0 : Int32) then (0 : Int32) else (1 : Int32))) (j5_s0 : Int32) (hvj5_s0 : j5_s0 = (if (x1 &&& (2 : Int32)) = (0 : Int32) then (0 : Int32) else (1 : Int32))) (j8_s0 : Int32) (hvj8_s0 : j8_s0 = (if (x1 &&& (4 : Int32)) = (0 : Int32) then (0 : Int32) else (1 : Int32))) (j11_s0 : Int32) (hvj11_s0 : j11_s0 = (if j2_s0 = (0 : Int32) then (x0 &&& (2147483647 : Int32)) else (-1 : Int32))) (h56_13 : j8_s0 = (0 : Int32)) (h131_34 : j2_s0 = (0 : Int32)) (h152_35 : ¬ ((own_al j11_s0 (own_max x2 x3)) = (0 : Int32))) (h178_40 : ¬ (j11_s0 = (2147483647 : Int32))) : (own_al j11_s0 (j11_s0 + (1 : Int32))) = (0 : Int32) := by
  rw [if_pos h131_34] at hvj11_s0
  have q := own_nn x0
  rw [← hvj11_s0] at q
  have s := c_iadd j11_s0 1
  have g := rng32 (j11_s0 + 1)
  have g2 := rng32 j11_s0
  have ne := h178_40
  rw [← Int32.toInt_inj] at ne
  simp only [Int32.reduceToInt] at s ne
  unfold own_al
  rw [if_neg q.1, if_pos (by rw [Int32.lt_iff_toInt_lt]; omega)]
set_option maxRecDepth 65536 in
set_option maxHeartbeats 40000000 in
theorem own_fin6 (x0 : Int32) (x1 : Int32) (x2 : Int32) (x3 : Int32) (dc : Addr) (j2_s0 : Int32) (hvj2_s0 : j2_s0 = (if (x1 &&& (1 : Int32)) = (0 : Int32) then (0 : Int32) else (1 : Int32))) (j5_s0 : Int32) (hvj5_s0 : j5_s0 = (if (x1 &&& (2 : Int32)) = (0 : Int32) then (0 : Int32) else (1 : Int32))) (j8_s0 : Int32) (hvj8_s0 : j8_s0 = (if (x1 &&& (4 : Int32)) = (0 : Int32) then (0 : Int32) else (1 : Int32))) (j11_s0 : Int32) (hvj11_s0 : j11_s0 = (if j2_s0 = (0 : Int32) then (x0 &&& (2147483647 : Int32)) else (-1 : Int32))) (h56_13 : j8_s0 = (0 : Int32)) (h131_34 : ¬ (j2_s0 = (0 : Int32))) : ¬ ((own_al j11_s0 (own_min x2 x3)) = (0 : Int32)) := by
  rw [if_neg h131_34] at hvj11_s0
  rw [hvj11_s0]
  simp [own_al]
set_option maxRecDepth 65536 in
set_option maxHeartbeats 40000000 in
theorem own_fin7 (x0 : Int32) (x1 : Int32) (x2 : Int32) (x3 : Int32) (dc : Addr) (j2_s0 : Int32) (hvj2_s0 : j2_s0 = (if (x1 &&& (1 : Int32)) = (0 : Int32) then (0 : Int32) else (1 : Int32))) (j5_s0 : Int32) (hvj5_s0 : j5_s0 = (if (x1 &&& (2 : Int32)) = (0 : Int32) then (0 : Int32) else (1 : Int32))) (j8_s0 : Int32) (hvj8_s0 : j8_s0 = (if (x1 &&& (4 : Int32)) = (0 : Int32) then (0 : Int32) else (1 : Int32))) (j11_s0 : Int32) (hvj11_s0 : j11_s0 = (if j2_s0 = (0 : Int32) then (x0 &&& (2147483647 : Int32)) else (-1 : Int32))) (h56_13 : j8_s0 = (0 : Int32)) (h131_34 : ¬ (j2_s0 = (0 : Int32))) : ¬ ((own_al j11_s0 (own_max x2 x3)) = (0 : Int32)) := by
  rw [if_neg h131_34] at hvj11_s0
  rw [hvj11_s0]
  simp [own_al]
set_option maxRecDepth 65536 in
set_option maxHeartbeats 40000000 in
theorem own_fin8 (x0 : Int32) (x1 : Int32) (x2 : Int32) (x3 : Int32) (dc : Addr) (j2_s0 : Int32) (hvj2_s0 : j2_s0 = (if (x1 &&& (1 : Int32)) = (0 : Int32) then (0 : Int32) else (1 : Int32))) (j5_s0 : Int32) (hvj5_s0 : j5_s0 = (if (x1 &&& (2 : Int32)) = (0 : Int32) then (0 : Int32) else (1 : Int32))) (j8_s0 : Int32) (hvj8_s0 : j8_s0 = (if (x1 &&& (4 : Int32)) = (0 : Int32) then (0 : Int32) else (1 : Int32))) (j11_s0 : Int32) (hvj11_s0 : j11_s0 = (if j2_s0 = (0 : Int32) then (x0 &&& (2147483647 : Int32)) else (-1 : Int32))) (h56_13 : ¬ (j8_s0 = (0 : Int32))) (h131_61 : j2_s0 = (0 : Int32)) (h152_62 : (own_al j11_s0 (own_max x2 x3)) = (0 : Int32)) : ¬ ((own_al j11_s0 j11_s0) = (0 : Int32)) := by
  rw [if_pos h131_61] at hvj11_s0
  have q := own_nn x0
  rw [← hvj11_s0] at q
  unfold own_al
  rw [if_neg q.1, if_neg (by rw [Int32.lt_iff_toInt_lt]; omega)]; decide
set_option maxRecDepth 65536 in
set_option maxHeartbeats 40000000 in
theorem own_fin9 (x0 : Int32) (x1 : Int32) (x2 : Int32) (x3 : Int32) (dc : Addr) (j2_s0 : Int32) (hvj2_s0 : j2_s0 = (if (x1 &&& (1 : Int32)) = (0 : Int32) then (0 : Int32) else (1 : Int32))) (j5_s0 : Int32) (hvj5_s0 : j5_s0 = (if (x1 &&& (2 : Int32)) = (0 : Int32) then (0 : Int32) else (1 : Int32))) (j8_s0 : Int32) (hvj8_s0 : j8_s0 = (if (x1 &&& (4 : Int32)) = (0 : Int32) then (0 : Int32) else (1 : Int32))) (j11_s0 : Int32) (hvj11_s0 : j11_s0 = (if j2_s0 = (0 : Int32) then (x0 &&& (2147483647 : Int32)) else (-1 : Int32))) (h56_13 : ¬ (j8_s0 = (0 : Int32))) (h131_61 : j2_s0 = (0 : Int32)) (h152_62 : (own_al j11_s0 (own_max x2 x3)) = (0 : Int32)) (h178_64 : ¬ (j11_s0 = (2147483647 : Int32))) : (own_al j11_s0 (j11_s0 + (1 : Int32))) = (0 : Int32) := by
  rw [if_pos h131_61] at hvj11_s0
  have q := own_nn x0
  rw [← hvj11_s0] at q
  have s := c_iadd j11_s0 1
  have g := rng32 (j11_s0 + 1)
  have g2 := rng32 j11_s0
  have ne := h178_64
  rw [← Int32.toInt_inj] at ne
  simp only [Int32.reduceToInt] at s ne
  unfold own_al
  rw [if_neg q.1, if_pos (by rw [Int32.lt_iff_toInt_lt]; omega)]
set_option maxRecDepth 65536 in
set_option maxHeartbeats 40000000 in
theorem own_fin10 (x0 : Int32) (x1 : Int32) (x2 : Int32) (x3 : Int32) (dc : Addr) (j2_s0 : Int32) (hvj2_s0 : j2_s0 = (if (x1 &&& (1 : Int32)) = (0 : Int32) then (0 : Int32) else (1 : Int32))) (j5_s0 : Int32) (hvj5_s0 : j5_s0 = (if (x1 &&& (2 : Int32)) = (0 : Int32) then (0 : Int32) else (1 : Int32))) (j8_s0 : Int32) (hvj8_s0 : j8_s0 = (if (x1 &&& (4 : Int32)) = (0 : Int32) then (0 : Int32) else (1 : Int32))) (j11_s0 : Int32) (hvj11_s0 : j11_s0 = (if j2_s0 = (0 : Int32) then (x0 &&& (2147483647 : Int32)) else (-1 : Int32))) (h56_13 : ¬ (j8_s0 = (0 : Int32))) (h131_61 : j2_s0 = (0 : Int32)) (h152_62 : ¬ ((own_al j11_s0 (own_max x2 x3)) = (0 : Int32))) : ¬ ((own_al j11_s0 (own_min x2 x3)) = (0 : Int32)) := by
  rw [if_pos h131_61] at hvj11_s0
  have q := own_nn x0
  rw [← hvj11_s0] at q
  have m := own_mm x2 x3
  have e := h152_62
  unfold own_al at e ⊢
  rw [if_neg q.1] at e ⊢
  split at e
  · exact absurd rfl e
  · rename_i u
    rw [if_neg (by rw [Int32.lt_iff_toInt_lt] at u m ⊢; omega)]; decide
set_option maxRecDepth 65536 in
set_option maxHeartbeats 40000000 in
theorem own_fin11 (x0 : Int32) (x1 : Int32) (x2 : Int32) (x3 : Int32) (dc : Addr) (j2_s0 : Int32) (hvj2_s0 : j2_s0 = (if (x1 &&& (1 : Int32)) = (0 : Int32) then (0 : Int32) else (1 : Int32))) (j5_s0 : Int32) (hvj5_s0 : j5_s0 = (if (x1 &&& (2 : Int32)) = (0 : Int32) then (0 : Int32) else (1 : Int32))) (j8_s0 : Int32) (hvj8_s0 : j8_s0 = (if (x1 &&& (4 : Int32)) = (0 : Int32) then (0 : Int32) else (1 : Int32))) (j11_s0 : Int32) (hvj11_s0 : j11_s0 = (if j2_s0 = (0 : Int32) then (x0 &&& (2147483647 : Int32)) else (-1 : Int32))) (h56_13 : ¬ (j8_s0 = (0 : Int32))) (h131_61 : j2_s0 = (0 : Int32)) (h152_62 : ¬ ((own_al j11_s0 (own_max x2 x3)) = (0 : Int32))) : ¬ ((own_al j11_s0 j11_s0) = (0 : Int32)) := by
  rw [if_pos h131_61] at hvj11_s0
  have q := own_nn x0
  rw [← hvj11_s0] at q
  unfold own_al
  rw [if_neg q.1, if_neg (by rw [Int32.lt_iff_toInt_lt]; omega)]; decide
set_option maxRecDepth 65536 in
set_option maxHeartbeats 40000000 in
theorem own_fin12 (x0 : Int32) (x1 : Int32) (x2 : Int32) (x3 : Int32) (dc : Addr) (j2_s0 : Int32) (hvj2_s0 : j2_s0 = (if (x1 &&& (1 : Int32)) = (0 : Int32) then (0 : Int32) else (1 : Int32))) (j5_s0 : Int32) (hvj5_s0 : j5_s0 = (if (x1 &&& (2 : Int32)) = (0 : Int32) then (0 : Int32) else (1 : Int32))) (j8_s0 : Int32) (hvj8_s0 : j8_s0 = (if (x1 &&& (4 : Int32)) = (0 : Int32) then (0 : Int32) else (1 : Int32))) (j11_s0 : Int32) (hvj11_s0 : j11_s0 = (if j2_s0 = (0 : Int32) then (x0 &&& (2147483647 : Int32)) else (-1 : Int32))) (h56_13 : ¬ (j8_s0 = (0 : Int32))) (h131_61 : j2_s0 = (0 : Int32)) (h152_62 : ¬ ((own_al j11_s0 (own_max x2 x3)) = (0 : Int32))) (h178_67 : ¬ (j11_s0 = (2147483647 : Int32))) : (own_al j11_s0 (j11_s0 + (1 : Int32))) = (0 : Int32) := by
  rw [if_pos h131_61] at hvj11_s0
  have q := own_nn x0
  rw [← hvj11_s0] at q
  have s := c_iadd j11_s0 1
  have g := rng32 (j11_s0 + 1)
  have g2 := rng32 j11_s0
  have ne := h178_67
  rw [← Int32.toInt_inj] at ne
  simp only [Int32.reduceToInt] at s ne
  unfold own_al
  rw [if_neg q.1, if_pos (by rw [Int32.lt_iff_toInt_lt]; omega)]
set_option maxRecDepth 65536 in
set_option maxHeartbeats 40000000 in
theorem own_fin13 (x0 : Int32) (x1 : Int32) (x2 : Int32) (x3 : Int32) (dc : Addr) (j2_s0 : Int32) (hvj2_s0 : j2_s0 = (if (x1 &&& (1 : Int32)) = (0 : Int32) then (0 : Int32) else (1 : Int32))) (j5_s0 : Int32) (hvj5_s0 : j5_s0 = (if (x1 &&& (2 : Int32)) = (0 : Int32) then (0 : Int32) else (1 : Int32))) (j8_s0 : Int32) (hvj8_s0 : j8_s0 = (if (x1 &&& (4 : Int32)) = (0 : Int32) then (0 : Int32) else (1 : Int32))) (j11_s0 : Int32) (hvj11_s0 : j11_s0 = (if j2_s0 = (0 : Int32) then (x0 &&& (2147483647 : Int32)) else (-1 : Int32))) (h56_13 : ¬ (j8_s0 = (0 : Int32))) (h131_61 : ¬ (j2_s0 = (0 : Int32))) : ¬ ((own_al j11_s0 (own_min x2 x3)) = (0 : Int32)) := by
  rw [if_neg h131_61] at hvj11_s0
  rw [hvj11_s0]
  simp [own_al]
set_option maxRecDepth 65536 in
set_option maxHeartbeats 40000000 in
theorem own_fin14 (x0 : Int32) (x1 : Int32) (x2 : Int32) (x3 : Int32) (dc : Addr) (j2_s0 : Int32) (hvj2_s0 : j2_s0 = (if (x1 &&& (1 : Int32)) = (0 : Int32) then (0 : Int32) else (1 : Int32))) (j5_s0 : Int32) (hvj5_s0 : j5_s0 = (if (x1 &&& (2 : Int32)) = (0 : Int32) then (0 : Int32) else (1 : Int32))) (j8_s0 : Int32) (hvj8_s0 : j8_s0 = (if (x1 &&& (4 : Int32)) = (0 : Int32) then (0 : Int32) else (1 : Int32))) (j11_s0 : Int32) (hvj11_s0 : j11_s0 = (if j2_s0 = (0 : Int32) then (x0 &&& (2147483647 : Int32)) else (-1 : Int32))) (h56_13 : ¬ (j8_s0 = (0 : Int32))) (h131_61 : ¬ (j2_s0 = (0 : Int32))) : ¬ ((own_al j11_s0 (own_max x2 x3)) = (0 : Int32)) := by
  rw [if_neg h131_61] at hvj11_s0
  rw [hvj11_s0]
  simp [own_al]
theorem pn_com_example_pipecaret_pipecaret_grammar_ConstituentAllowsPinLaw : plainName "com/example/pipecaret/pipecaret/grammar/ConstituentAllowsPinLaw" = true := by first | (simp [plainName, overriddenIn]; done) | decide +kernel
set_option maxHeartbeats 4000000 in
theorem ef_0 (m : MethodId) (x0 : Int32) (x1 : Int32) (x2 : Int32) (x3 : Int32) : entryFrame m #[(.int x0), (.int x1), (.int x2), (.int x3)] maxLocals = mkF m 0 #[.val (.int x0), .val (.int x1), .val (.int x2), .val (.int x3), .unset, .unset, .unset, .unset, .unset, .unset, .unset, .unset, .unset, .unset, .unset] [] := by first | (simp [entryFrame, mkF, argsToLocals, Value.category, maxLocals]; done) | rfl
def Q0 (Z : State) (x0 : Int32) (x1 : Int32) (x2 : Int32) (x3 : Int32) (dc : Addr) (h0 : Heap) (n0 : Nat) (v : Option Value) (h : Heap) (L : List Loc) : Prop := v = some (.int 1) ∧ Fr n0 L
set_option maxRecDepth 65536 in
set_option maxHeartbeats 40000000 in
theorem rm0 (l : Launch) (Z : State) (a0 : Array Value) (hw : ∀ d ∈ tables_1, d.before a0 Z = true) (ws : List Jvm.Cond) (x0 : Int32) (x1 : Int32) (x2 : Int32) (x3 : Int32) (dc : Addr) (h0 : Heap) (n0 : Nat) (Z0 : n0 ≤ h0.size) (S_dc : Sta Z h0 "java/util/ArrayList" "DEFAULTCAPACITY_EMPTY_ELEMENTDATA" "[Ljava/lang/Object;" (.ref dc)) (wS : ∀ a ∈ Bundle.stringAtoms, a.before a0 Z = true) :
    MetFree l x (head1 (Jvm.Cond.code x code maxLocals ret :: ws) room_1) (fun a U => a = #[(.int x0), (.int x1), (.int x2), (.int x3)] ∧ Z.Warmed39 U.vm ∧ U.heap = h0) (fun _ _ _ _ _ => True) (fun _ U o U' => ∃ v L, o = .returned v ∧ Q0 Z x0 x1 x2 x3 dc h0 n0 v U'.heap L ∧ ReturnedEndW U o U' L 16 2176) := by
  refine MetFree.of_bodySF (plainFor_of_name pn_com_example_pipecaret_pipecaret_grammar_ConstituentAllowsPinLaw) hisR ?_
  intro p e s m args below meth c s₁ Bd hml0 hP hK
  obtain ⟨rfl, hZ, hh⟩ := hP
  have hx := Bd.exec
  have hby := Bd.bytes
  have hml : c.maxLocals = 15 := hml0
  have hown : s.vm.findClass "com/example/pipecaret/pipecaret/grammar/ConstituentAllowsPinLaw" = some m.cls := findClass_of_methodNamed Bd.named
  have hnm := (name_of_methodNamed Bd.named Bd.method).1
  have hlk : meth.locks = false := BodyLoose.notSynchronized Bd
  have X0 : Stand p l e room_1 s m #[(.int x0), (.int x1), (.int x2), (.int x3)] below meth c s₁ [] 0 0 := Stand.of_body Bd
  have e0 : s₁.heap = h0 := by rw [← hh, Bd.state]; rfl
  have N0 := Fr.nil n0
  have hS0 : s.Since s.vm h0.size := (State.WarmedH.refl s).since _
  show own_EW p e below s (Q0 Z x0 x1 x2 x3 dc h0 n0) 16 2176 (s₁.setTop (entryFrame m #[(.int x0), (.int x1), (.int x2), (.int x3)] maxLocals))
  refine own_preW (B := s₁.setTop (mkF m 0 #[.val (.int x0), .val (.int x1), .val (.int x2), .val (.int x3), .unset, .unset, .unset, .unset, .unset, .unset, .unset, .unset, .unset, .unset, .unset] [])) ?_ (fun t_ k_ => castTop (ef_0 m x0 x1 x2 x3) k_)
  refine own_preW (B := s₁.setTop (mkF m 1 #[.val (.int x0), .val (.int x1), .val (.int x2), .val (.int x3), .unset, .unset, .unset, .unset, .unset, .unset, .unset, .unset, .unset, .unset, .unset] [(.int x1)])) ?_ fun t_ k_ => XS.iloadN X0.here hx rfl (hb hby at_0) rfl  k_
  refine own_preW (B := s₁.setTop (mkF m 2 #[.val (.int x0), .val (.int x1), .val (.int x2), .val (.int x3), .unset, .unset, .unset, .unset, .unset, .unset, .unset, .unset, .unset, .unset, .unset] [(.int (1 : Int32)), (.int x1)])) ?_ fun t_ k_ => XS.iconst X0.here hx rfl (hb hby at_1) k_
  refine own_preW (B := s₁.setTop (mkF m 3 #[.val (.int x0), .val (.int x1), .val (.int x2), .val (.int x3), .unset, .unset, .unset, .unset, .unset, .unset, .unset, .unset, .unset, .unset, .unset] [(.int (x1 &&& (1 : Int32)))])) ?_ fun t_ k_ => XS.iand X0.here hx rfl (hb hby at_2) rfl k_
  have Jj2 : ∀ (T3 : State) (l3 : List Loc) (X3 : Stand p l e room_1 s m #[(.int x0), (.int x1), (.int x2), (.int x3)] below meth c T3 l3 0 0) (N3 : Fr n0 l3) (e3 : T3.heap = h0) (j2_s0 : Int32) (hvj2_s0 : j2_s0 = (if (x1 &&& (1 : Int32)) = (0 : Int32) then (0 : Int32) else (1 : Int32))), own_EW p e below s (Q0 Z x0 x1 x2 x3 dc h0 n0) 16 2176 (T3.setTop (mkF m 11 #[.val (.int x0), .val (.int x1), .val (.int x2), .val (.int x3), .unset, .unset, .unset, .unset, .unset, .unset, .unset, .unset, .unset, .unset, .unset] [(.int j2_s0)])) := by
    intro T3 l3 X3 N3 e3 j2_s0 hvj2_s0
    refine own_preW (B := T3.setTop (mkF m 13 #[.val (.int x0), .val (.int x1), .val (.int x2), .val (.int x3), .val (.int j2_s0), .unset, .unset, .unset, .unset, .unset, .unset, .unset, .unset, .unset, .unset] [])) ?_ fun t_ k_ => XS.istore X3.here hx rfl (hb hby at_11) rfl  (l' := #[.val (.int x0), .val (.int x1), .val (.int x2), .val (.int x3), .val (.int j2_s0), .unset, .unset, .unset, .unset, .unset, .unset, .unset, .unset, .unset, .unset]) rfl k_
    refine own_preW (B := T3.setTop (mkF m 14 #[.val (.int x0), .val (.int x1), .val (.int x2), .val (.int x3), .val (.int j2_s0), .unset, .unset, .unset, .unset, .unset, .unset, .unset, .unset, .unset, .unset] [(.int x1)])) ?_ fun t_ k_ => XS.iloadN X3.here hx rfl (hb hby at_13) rfl  k_
    refine own_preW (B := T3.setTop (mkF m 15 #[.val (.int x0), .val (.int x1), .val (.int x2), .val (.int x3), .val (.int j2_s0), .unset, .unset, .unset, .unset, .unset, .unset, .unset, .unset, .unset, .unset] [(.int (2 : Int32)), (.int x1)])) ?_ fun t_ k_ => XS.iconst X3.here hx rfl (hb hby at_14) k_
    refine own_preW (B := T3.setTop (mkF m 16 #[.val (.int x0), .val (.int x1), .val (.int x2), .val (.int x3), .val (.int j2_s0), .unset, .unset, .unset, .unset, .unset, .unset, .unset, .unset, .unset, .unset] [(.int (x1 &&& (2 : Int32)))])) ?_ fun t_ k_ => XS.iand X3.here hx rfl (hb hby at_15) rfl k_
    have Jj5 : ∀ (T6 : State) (l6 : List Loc) (X6 : Stand p l e room_1 s m #[(.int x0), (.int x1), (.int x2), (.int x3)] below meth c T6 l6 0 0) (N6 : Fr n0 l6) (e6 : T6.heap = h0) (j5_s0 : Int32) (hvj5_s0 : j5_s0 = (if (x1 &&& (2 : Int32)) = (0 : Int32) then (0 : Int32) else (1 : Int32))), own_EW p e below s (Q0 Z x0 x1 x2 x3 dc h0 n0) 16 2176 (T6.setTop (mkF m 24 #[.val (.int x0), .val (.int x1), .val (.int x2), .val (.int x3), .val (.int j2_s0), .unset, .unset, .unset, .unset, .unset, .unset, .unset, .unset, .unset, .unset] [(.int j5_s0)])) := by
      intro T6 l6 X6 N6 e6 j5_s0 hvj5_s0
      refine own_preW (B := T6.setTop (mkF m 26 #[.val (.int x0), .val (.int x1), .val (.int x2), .val (.int x3), .val (.int j2_s0), .val (.int j5_s0), .unset, .unset, .unset, .unset, .unset, .unset, .unset, .unset, .unset] [])) ?_ fun t_ k_ => XS.istore X6.here hx rfl (hb hby at_24) rfl  (l' := #[.val (.int x0), .val (.int x1), .val (.int x2), .val (.int x3), .val (.int j2_s0), .val (.int j5_s0), .unset, .unset, .unset, .unset, .unset, .unset, .unset, .unset, .unset]) rfl k_
      refine own_preW (B := T6.setTop (mkF m 27 #[.val (.int x0), .val (.int x1), .val (.int x2), .val (.int x3), .val (.int j2_s0), .val (.int j5_s0), .unset, .unset, .unset, .unset, .unset, .unset, .unset, .unset, .unset] [(.int x1)])) ?_ fun t_ k_ => XS.iloadN X6.here hx rfl (hb hby at_26) rfl  k_
      refine own_preW (B := T6.setTop (mkF m 28 #[.val (.int x0), .val (.int x1), .val (.int x2), .val (.int x3), .val (.int j2_s0), .val (.int j5_s0), .unset, .unset, .unset, .unset, .unset, .unset, .unset, .unset, .unset] [(.int (4 : Int32)), (.int x1)])) ?_ fun t_ k_ => XS.iconst X6.here hx rfl (hb hby at_27) k_
      refine own_preW (B := T6.setTop (mkF m 29 #[.val (.int x0), .val (.int x1), .val (.int x2), .val (.int x3), .val (.int j2_s0), .val (.int j5_s0), .unset, .unset, .unset, .unset, .unset, .unset, .unset, .unset, .unset] [(.int (x1 &&& (4 : Int32)))])) ?_ fun t_ k_ => XS.iand X6.here hx rfl (hb hby at_28) rfl k_
      have Jj8 : ∀ (T9 : State) (l9 : List Loc) (X9 : Stand p l e room_1 s m #[(.int x0), (.int x1), (.int x2), (.int x3)] below meth c T9 l9 0 0) (N9 : Fr n0 l9) (e9 : T9.heap = h0) (j8_s0 : Int32) (hvj8_s0 : j8_s0 = (if (x1 &&& (4 : Int32)) = (0 : Int32) then (0 : Int32) else (1 : Int32))), own_EW p e below s (Q0 Z x0 x1 x2 x3 dc h0 n0) 16 2176 (T9.setTop (mkF m 37 #[.val (.int x0), .val (.int x1), .val (.int x2), .val (.int x3), .val (.int j2_s0), .val (.int j5_s0), .unset, .unset, .unset, .unset, .unset, .unset, .unset, .unset, .unset] [(.int j8_s0)])) := by
        intro T9 l9 X9 N9 e9 j8_s0 hvj8_s0
        refine own_preW (B := T9.setTop (mkF m 39 #[.val (.int x0), .val (.int x1), .val (.int x2), .val (.int x3), .val (.int j2_s0), .val (.int j5_s0), .val (.int j8_s0), .unset, .unset, .unset, .unset, .unset, .unset, .unset, .unset] [])) ?_ fun t_ k_ => XS.istore X9.here hx rfl (hb hby at_37) rfl  (l' := #[.val (.int x0), .val (.int x1), .val (.int x2), .val (.int x3), .val (.int j2_s0), .val (.int j5_s0), .val (.int j8_s0), .unset, .unset, .unset, .unset, .unset, .unset, .unset, .unset]) rfl k_
        refine own_preW (B := T9.setTop (mkF m 41 #[.val (.int x0), .val (.int x1), .val (.int x2), .val (.int x3), .val (.int j2_s0), .val (.int j5_s0), .val (.int j8_s0), .unset, .unset, .unset, .unset, .unset, .unset, .unset, .unset] [(.int j2_s0)])) ?_ fun t_ k_ => XS.iload X9.here hx rfl (hb hby at_39) rfl  k_
        have Jj11 : ∀ (T12 : State) (l12 : List Loc) (X12 : Stand p l e room_1 s m #[(.int x0), (.int x1), (.int x2), (.int x3)] below meth c T12 l12 0 0) (N12 : Fr n0 l12) (e12 : T12.heap = h0) (j11_s0 : Int32) (hvj11_s0 : j11_s0 = (if j2_s0 = (0 : Int32) then (x0 &&& (2147483647 : Int32)) else (-1 : Int32))), own_EW p e below s (Q0 Z x0 x1 x2 x3 dc h0 n0) 16 2176 (T12.setTop (mkF m 52 #[.val (.int x0), .val (.int x1), .val (.int x2), .val (.int x3), .val (.int j2_s0), .val (.int j5_s0), .val (.int j8_s0), .unset, .unset, .unset, .unset, .unset, .unset, .unset, .unset] [(.int j11_s0)])) := by
          intro T12 l12 X12 N12 e12 j11_s0 hvj11_s0
          refine own_preW (B := T12.setTop (mkF m 54 #[.val (.int x0), .val (.int x1), .val (.int x2), .val (.int x3), .val (.int j2_s0), .val (.int j5_s0), .val (.int j8_s0), .val (.int j11_s0), .unset, .unset, .unset, .unset, .unset, .unset, .unset] [])) ?_ fun t_ k_ => XS.istore X12.here hx rfl (hb hby at_52) rfl  (l' := #[.val (.int x0), .val (.int x1), .val (.int x2), .val (.int x3), .val (.int j2_s0), .val (.int j5_s0), .val (.int j8_s0), .val (.int j11_s0), .unset, .unset, .unset, .unset, .unset, .unset, .unset]) rfl k_
          refine own_preW (B := T12.setTop (mkF m 56 #[.val (.int x0), .val (.int x1), .val (.int x2), .val (.int x3), .val (.int j2_s0), .val (.int j5_s0), .val (.int j8_s0), .val (.int j11_s0), .unset, .unset, .unset, .unset, .unset, .unset, .unset] [(.int j8_s0)])) ?_ fun t_ k_ => XS.iload X12.here hx rfl (hb hby at_54) rfl  k_
          by_cases h56_13 : j8_s0 = (0 : Int32)
          · skip
            refine own_preW (B := T12.setTop (mkF m 63 #[.val (.int x0), .val (.int x1), .val (.int x2), .val (.int x3), .val (.int j2_s0), .val (.int j5_s0), .val (.int j8_s0), .val (.int j11_s0), .unset, .unset, .unset, .unset, .unset, .unset, .unset] [])) ?_ fun t_ k_ => XS.ifYes X12.here hx rfl (pc0 := 56) (pc' := 63) rfl (hb hby at_56) rfl ((if0 _ _).trans (teq h56_13).1) (by decide) (by decide) k_
            obtain ⟨a14, T14, h14, kk14, X14, e14, E14, hS14, kz14, hZ, hown, st14⟩ := ldcS (s := s) (vm0 := s.vm) X12 hx hZ hown (hw _ (List.mem_of_getElem? (i := 0) rfl)) wS e12 (k0 := h0.size) hS0 (Nat.le_refl _) (g := (mkF m 63 #[.val (.int x0), .val (.int x1), .val (.int x2), .val (.int x3), .val (.int j2_s0), .val (.int j5_s0), .val (.int j8_s0), .val (.int j11_s0), .unset, .unset, .unset, .unset, .unset, .unset, .unset] [])) rfl (hb hby at_63) (n := 12) (by decide) (by decide) (by decide) (by decide)
            have Z14 : n0 ≤ h14.size := Nat.le_trans Z0 E14.1
            refine own_preW (B := T14.setTop (mkF m 65 #[.val (.int x0), .val (.int x1), .val (.int x2), .val (.int x3), .val (.int j2_s0), .val (.int j5_s0), .val (.int j8_s0), .val (.int j11_s0), .unset, .unset, .unset, .unset, .unset, .unset, .unset] [(.ref a14)])) ?_ st14
            refine own_preW (B := T14.setTop (mkF m 67 #[.val (.int x0), .val (.int x1), .val (.int x2), .val (.int x3), .val (.int j2_s0), .val (.int j5_s0), .val (.int j8_s0), .val (.int j11_s0), .val (.ref a14), .unset, .unset, .unset, .unset, .unset, .unset] [])) ?_ fun t_ k_ => XS.astore X14.here hx rfl (hb hby at_65) rfl rfl (l' := #[.val (.int x0), .val (.int x1), .val (.int x2), .val (.int x3), .val (.int j2_s0), .val (.int j5_s0), .val (.int j8_s0), .val (.int j11_s0), .val (.ref a14), .unset, .unset, .unset, .unset, .unset, .unset]) rfl k_
            obtain ⟨T15, h15, X15, e15, E15, A15, D15, -, st15⟩ := newO X14 hx hZ hown (hw _ (List.mem_of_getElem? (i := 8) rfl)) (hw _ (List.mem_of_getElem? (i := 9) rfl)) (hw _ (List.mem_of_getElem? (i := 10) rfl)) e14 (g := (mkF m 67 #[.val (.int x0), .val (.int x1), .val (.int x2), .val (.int x3), .val (.int j2_s0), .val (.int j5_s0), .val (.int j8_s0), .val (.int j11_s0), .val (.ref a14), .unset, .unset, .unset, .unset, .unset, .unset] [])) rfl (hb hby at_67) (by decide) (by decide)
            obtain ⟨b15, g15⟩ : ∃ z, z = h14.size := ⟨_, rfl⟩
            rw [← g15] at A15 D15 st15
            have Z15 : n0 ≤ h15.size := Nat.le_trans Z14 E15.1
            have gz15 : n0 ≤ b15 := Nat.le_trans Z14 (Nat.le_of_eq g15.symm)
            have F15_modCount : Fld Z h15 b15 "java/util/AbstractList" "modCount" "I" (.int (0 : Int32)) := D15 (Or.inl (hw _ (List.mem_of_getElem? (i := 30) rfl))) (ty := .int) (by decide)
            have F15_elementData : Fld Z h15 b15 "java/util/ArrayList" "elementData" "[Ljava/lang/Object;" .null := D15 (Or.inl (hw _ (List.mem_of_getElem? (i := 33) rfl))) (ty := (.array (.object "java/lang/Object"))) (by decide)
            refine own_preW (B := T15.setTop (mkF m 70 #[.val (.int x0), .val (.int x1), .val (.int x2), .val (.int x3), .val (.int j2_s0), .val (.int j5_s0), .val (.int j8_s0), .val (.int j11_s0), .val (.ref a14), .unset, .unset, .unset, .unset, .unset, .unset] [(.ref b15)])) ?_ st15
            refine own_preW (B := T15.setTop (mkF m 71 #[.val (.int x0), .val (.int x1), .val (.int x2), .val (.int x3), .val (.int j2_s0), .val (.int j5_s0), .val (.int j8_s0), .val (.int j11_s0), .val (.ref a14), .unset, .unset, .unset, .unset, .unset, .unset] [(.ref b15), (.ref b15)])) ?_ fun t_ k_ => XS.dup X15.here hx rfl (hb hby at_70) rfl rfl k_
            have f17 := ((S_dc.ext E14).ext E15)
            obtain ⟨_, _, ⟨T16, L16, k16, n16⟩, -, X16, ⟨Lc16, hQ16, l16, y16, z16⟩, st16⟩ := X15.specialBack hx (y := (⟨"java/util/ArrayList", "<init>", "()V"⟩ : MethodName)) rfl hown (mvT hZ (hw _ (List.mem_of_getElem? (i := 11) rfl))) (mvT hZ (hw _ (List.mem_of_getElem? (i := 12) rfl))) (mvT hZ (hw _ (List.mem_of_getElem? (i := 13) rfl))) (by decide) (backOf (W := 1) (rm1 l Z a0 hw [] b15 dc h15 n0 Z15 A15 F15_modCount F15_elementData f17 gz15) hZ (hw _ (List.mem_of_getElem? (i := 13) rfl)) (hw _ (List.mem_of_getElem? (i := 10) rfl)) (by decide) (by decide)) (g := (mkF m 71 #[.val (.int x0), .val (.int x1), .val (.int x2), .val (.int x3), .val (.int j2_s0), .val (.int j5_s0), .val (.int j8_s0), .val (.int j11_s0), .val (.ref a14), .unset, .unset, .unset, .unset, .unset, .unset] [(.ref b15), (.ref b15)])) rfl (by rw [hml]; rfl) (Steps.refl _) (a := b15) (argsL := []) (rest := [(.ref b15)]) (lenOf pd___V rfl) rfl (by show 2 * 0 + _ ≤ _; exact Nat.le_of_eq rfl) (hb hby at_71) (fun _ _ => ⟨rfl, e15, (by decide : 3 + 0 ≤ _), (by decide : 19 + 0 ≤ _)⟩)
            dsimp only [Pt.U, Pt.locs, Pt.cells, Pt.slots] at X16 l16 y16 z16 st16 hQ16
            subst l16 y16 z16
            obtain ⟨rfl, Nq16, K16, E16⟩ := hQ16
            have N16 := Fr.app N12 Nq16
            have Z16 := Nat.le_trans Z15 K16.1
            refine own_preW (B := T16.setTop (mkF m 74 #[.val (.int x0), .val (.int x1), .val (.int x2), .val (.int x3), .val (.int j2_s0), .val (.int j5_s0), .val (.int j8_s0), .val (.int j11_s0), .val (.ref a14), .unset, .unset, .unset, .unset, .unset, .unset] [(.ref b15)])) ?_ (fun t_ k_ => st16.trans k_)
            refine own_preW (B := T16.setTop (mkF m 76 #[.val (.int x0), .val (.int x1), .val (.int x2), .val (.int x3), .val (.int j2_s0), .val (.int j5_s0), .val (.int j8_s0), .val (.int j11_s0), .val (.ref a14), .val (.ref b15), .unset, .unset, .unset, .unset, .unset] [])) ?_ fun t_ k_ => XS.astore X16.here hx rfl (hb hby at_74) rfl rfl (l' := #[.val (.int x0), .val (.int x1), .val (.int x2), .val (.int x3), .val (.int j2_s0), .val (.int j5_s0), .val (.int j8_s0), .val (.int j11_s0), .val (.ref a14), .val (.ref b15), .unset, .unset, .unset, .unset, .unset]) rfl k_
            obtain ⟨T18, h18, X18, e18, E18, A18, D18, -, st18⟩ := newO X16 hx hZ hown (hw _ (List.mem_of_getElem? (i := 34) rfl)) (hw _ (List.mem_of_getElem? (i := 35) rfl)) (hw _ (List.mem_of_getElem? (i := 36) rfl)) rfl (g := (mkF m 76 #[.val (.int x0), .val (.int x1), .val (.int x2), .val (.int x3), .val (.int j2_s0), .val (.int j5_s0), .val (.int j8_s0), .val (.int j11_s0), .val (.ref a14), .val (.ref b15), .unset, .unset, .unset, .unset, .unset] [])) rfl (hb hby at_76) (by decide) (by decide)
            obtain ⟨b18, g18⟩ : ∃ z, z = T16.heap.size := ⟨_, rfl⟩
            rw [← g18] at A18 D18 st18
            have ne19 : b15 ≠ b18 := Nat.ne_of_lt (Nat.lt_of_lt_of_le E16.lt (Nat.le_of_eq g18.symm))
            have Z18 : n0 ≤ h18.size := Nat.le_trans Z16 E18.1
            have gz18 : n0 ≤ b18 := Nat.le_trans Z16 (Nat.le_of_eq g18.symm)
            have F18_type : Fld Z h18 b18 "com/example/pipecaret/pipecaret/grammar/Constituent" "type" "Ljava/lang/String;" .null := D18 (Or.inr (hw _ (List.mem_of_getElem? (i := 48) rfl))) (ty := (.object "java/lang/String")) (by decide)
            have F18_description : Fld Z h18 b18 "com/example/pipecaret/pipecaret/grammar/Constituent" "description" "Ljava/lang/String;" .null := D18 (Or.inr (hw _ (List.mem_of_getElem? (i := 50) rfl))) (ty := (.object "java/lang/String")) (by decide)
            have F18_length : Fld Z h18 b18 "com/example/pipecaret/pipecaret/grammar/Constituent" "length" "Ljava/lang/Integer;" .null := D18 (Or.inr (hw _ (List.mem_of_getElem? (i := 52) rfl))) (ty := (.object "java/lang/Integer")) (by decide)
            have F18_required : Fld Z h18 b18 "com/example/pipecaret/pipecaret/grammar/Constituent" "required" "Z" (.int (0 : Int32)) := D18 (Or.inr (hw _ (List.mem_of_getElem? (i := 54) rfl))) (ty := .boolean) (by decide)
            have F18_repeatability : Fld Z h18 b18 "com/example/pipecaret/pipecaret/grammar/Constituent" "repeatability" "I" (.int (0 : Int32)) := D18 (Or.inr (hw _ (List.mem_of_getElem? (i := 56) rfl))) (ty := .int) (by decide)
            have F18_table : Fld Z h18 b18 "com/example/pipecaret/pipecaret/grammar/Constituent" "table" "Ljava/lang/String;" .null := D18 (Or.inr (hw _ (List.mem_of_getElem? (i := 58) rfl))) (ty := (.object "java/lang/String")) (by decide)
            have F18_constituents : Fld Z h18 b18 "com/example/pipecaret/pipecaret/grammar/Constituent" "constituents" "Ljava/util/List;" .null := D18 (Or.inr (hw _ (List.mem_of_getElem? (i := 60) rfl))) (ty := (.object "java/util/List")) (by decide)
            refine own_preW (B := T18.setTop (mkF m 79 #[.val (.int x0), .val (.int x1), .val (.int x2), .val (.int x3), .val (.int j2_s0), .val (.int j5_s0), .val (.int j8_s0), .val (.int j11_s0), .val (.ref a14), .val (.ref b15), .unset, .unset, .unset, .unset, .unset] [(.ref b18)])) ?_ st18
            refine own_preW (B := T18.setTop (mkF m 80 #[.val (.int x0), .val (.int x1), .val (.int x2), .val (.int x3), .val (.int j2_s0), .val (.int j5_s0), .val (.int j8_s0), .val (.int j11_s0), .val (.ref a14), .val (.ref b15), .unset, .unset, .unset, .unset, .unset] [(.ref b18), (.ref b18)])) ?_ fun t_ k_ => XS.dup X18.here hx rfl (hb hby at_79) rfl rfl k_
            refine own_preW (B := T18.setTop (mkF m 82 #[.val (.int x0), .val (.int x1), .val (.int x2), .val (.int x3), .val (.int j2_s0), .val (.int j5_s0), .val (.int j8_s0), .val (.int j11_s0), .val (.ref a14), .val (.ref b15), .unset, .unset, .unset, .unset, .unset] [(.ref a14), (.ref b18), (.ref b18)])) ?_ fun t_ k_ => XS.aload X18.here hx rfl (hb hby at_80) rfl rfl k_
            obtain ⟨a20, T20, h20, kk20, X20, e20, E20, hS20, kz20, hZ, hown, st20⟩ := ldcS (s := s) (vm0 := T14.vm) X18 hx hZ hown (hw _ (List.mem_of_getElem? (i := 37) rfl)) wS e18 (k0 := kk14) hS14 (Nat.le_trans (Nat.le_trans (Nat.le_trans kz14 E15.1) K16.1) E18.1) (g := (mkF m 82 #[.val (.int x0), .val (.int x1), .val (.int x2), .val (.int x3), .val (.int j2_s0), .val (.int j5_s0), .val (.int j8_s0), .val (.int j11_s0), .val (.ref a14), .val (.ref b15), .unset, .unset, .unset, .unset, .unset] [(.ref a14), (.ref b18), (.ref b18)])) rfl (hb hby at_82) (n := 0) (by decide) (by decide) (by decide) (by decide)
            have Z20 : n0 ≤ h20.size := Nat.le_trans Z18 E20.1
            refine own_preW (B := T20.setTop (mkF m 84 #[.val (.int x0), .val (.int x1), .val (.int x2), .val (.int x3), .val (.int j2_s0), .val (.int j5_s0), .val (.int j8_s0), .val (.int j11_s0), .val (.ref a14), .val (.ref b15), .unset, .unset, .unset, .unset, .unset] [(.ref a20), (.ref a14), (.ref b18), (.ref b18)])) ?_ st20
            refine own_preW (B := T20.setTop (mkF m 85 #[.val (.int x0), .val (.int x1), .val (.int x2), .val (.int x3), .val (.int j2_s0), .val (.int j5_s0), .val (.int j8_s0), .val (.int j11_s0), .val (.ref a14), .val (.ref b15), .unset, .unset, .unset, .unset, .unset] [.null, (.ref a20), (.ref a14), (.ref b18), (.ref b18)])) ?_ fun t_ k_ => XS.aconstNull X20.here hx rfl (hb hby at_84) k_
            refine own_preW (B := T20.setTop (mkF m 87 #[.val (.int x0), .val (.int x1), .val (.int x2), .val (.int x3), .val (.int j2_s0), .val (.int j5_s0), .val (.int j8_s0), .val (.int j11_s0), .val (.ref a14), .val (.ref b15), .unset, .unset, .unset, .unset, .unset] [(.int j5_s0), .null, (.ref a20), (.ref a14), (.ref b18), (.ref b18)])) ?_ fun t_ k_ => XS.iload X20.here hx rfl (hb hby at_85) rfl  k_
            refine own_preW (B := T20.setTop (mkF m 89 #[.val (.int x0), .val (.int x1), .val (.int x2), .val (.int x3), .val (.int j2_s0), .val (.int j5_s0), .val (.int j8_s0), .val (.int j11_s0), .val (.ref a14), .val (.ref b15), .unset, .unset, .unset, .unset, .unset] [(.int j11_s0), (.int j5_s0), .null, (.ref a20), (.ref a14), (.ref b18), (.ref b18)])) ?_ fun t_ k_ => XS.iload X20.here hx rfl (hb hby at_87) rfl  k_
            refine own_preW (B := T20.setTop (mkF m 90 #[.val (.int x0), .val (.int x1), .val (.int x2), .val (.int x3), .val (.int j2_s0), .val (.int j5_s0), .val (.int j8_s0), .val (.int j11_s0), .val (.ref a14), .val (.ref b15), .unset, .unset, .unset, .unset, .unset] [.null, (.int j11_s0), (.int j5_s0), .null, (.ref a20), (.ref a14), (.ref b18), (.ref b18)])) ?_ fun t_ k_ => XS.aconstNull X20.here hx rfl (hb hby at_89) k_
            refine own_preW (B := T20.setTop (mkF m 92 #[.val (.int x0), .val (.int x1), .val (.int x2), .val (.int x3), .val (.int j2_s0), .val (.int j5_s0), .val (.int j8_s0), .val (.int j11_s0), .val (.ref a14), .val (.ref b15), .unset, .unset, .unset, .unset, .unset] [(.ref b15), .null, (.int j11_s0), (.int j5_s0), .null, (.ref a20), (.ref a14), (.ref b18), (.ref b18)])) ?_ fun t_ k_ => XS.aload X20.here hx rfl (hb hby at_90) rfl rfl k_
            have f22 := (A18.ext E20)
            have f23 := (F18_type.ext E20)
            have f24 := (F18_description.ext E20)
            have f25 := (F18_length.ext E20)
            have f26 := (F18_required.ext E20)
            have f27 := (F18_repeatability.ext E20)
            have f28 := (F18_table.ext E20)
            have f29 := (F18_constituents.ext E20)
            obtain ⟨_, _, ⟨T21, L21, k21, n21⟩, -, X21, ⟨Lc21, hQ21, l21, y21, z21⟩, st21⟩ := X20.specialBack hx (y := (⟨"com/example/pipecaret/pipecaret/grammar/Constituent", "<init>", "(Ljava/lang/String;Ljava/lang/String;Ljava/lang/Integer;ZILjava/lang/String;Ljava/util/List;)V"⟩ : MethodName)) rfl hown (mvT hZ (hw _ (List.mem_of_getElem? (i := 38) rfl))) (mvT hZ (hw _ (List.mem_of_getElem? (i := 39) rfl))) (mvT hZ (hw _ (List.mem_of_getElem? (i := 40) rfl))) (by decide) (backOf (W := 1) (rm5 l Z a0 hw [] b18 (Value.ref a14) a20 j5_s0 j11_s0 b15 h20 n0 Z20 rfl (own_01 hvj5_s0) f22 f23 f24 f25 f26 f27 f28 f29 gz18) hZ (hw _ (List.mem_of_getElem? (i := 40) rfl)) (hw _ (List.mem_of_getElem? (i := 36) rfl)) (by decide) (by decide)) (g := (mkF m 92 #[.val (.int x0), .val (.int x1), .val (.int x2), .val (.int x3), .val (.int j2_s0), .val (.int j5_s0), .val (.int j8_s0), .val (.int j11_s0), .val (.ref a14), .val (.ref b15), .unset, .unset, .unset, .unset, .unset] [(.ref b15), .null, (.int j11_s0), (.int j5_s0), .null, (.ref a20), (.ref a14), (.ref b18), (.ref b18)])) rfl (by rw [hml]; rfl) (Steps.refl _) (a := b18) (argsL := [(.ref a14), (.ref a20), .null, (.int j5_s0), (.int j11_s0), .null, (.ref b15)]) (rest := [(.ref b18)]) (lenOf pd__Ljava_lang_String_Ljava_lang_String_Ljava_lang_Integer_ZILjava_lang_String_Ljava_util_List__V rfl) rfl (by show 2 * 0 + _ ≤ _; exact Nat.le_of_eq rfl) (hb hby at_92) (fun _ _ => ⟨rfl, e20, (by decide : 6 + 0 ≤ _), (by decide : 30 + 0 ≤ _)⟩)
            dsimp only [Pt.U, Pt.locs, Pt.cells, Pt.slots] at X21 l21 y21 z21 st21 hQ21
            subst l21 y21 z21
            obtain ⟨rfl, Nq21, K21, E21, Fr21⟩ := hQ21
            have N21 := Fr.app N16 Nq21
            have Z21 := Nat.le_trans Z20 K21.1
            refine own_preW (B := T21.setTop (mkF m 95 #[.val (.int x0), .val (.int x1), .val (.int x2), .val (.int x3), .val (.int j2_s0), .val (.int j5_s0), .val (.int j8_s0), .val (.int j11_s0), .val (.ref a14), .val (.ref b15), .unset, .unset, .unset, .unset, .unset] [(.ref b18)])) ?_ (fun t_ k_ => st21.trans k_)
            refine own_preW (B := T21.setTop (mkF m 97 #[.val (.int x0), .val (.int x1), .val (.int x2), .val (.int x3), .val (.int j2_s0), .val (.int j5_s0), .val (.int j8_s0), .val (.int j11_s0), .val (.ref a14), .val (.ref b15), .val (.ref b18), .unset, .unset, .unset, .unset] [])) ?_ fun t_ k_ => XS.astore X21.here hx rfl (hb hby at_95) rfl rfl (l' := #[.val (.int x0), .val (.int x1), .val (.int x2), .val (.int x3), .val (.int j2_s0), .val (.int j5_s0), .val (.int j8_s0), .val (.int j11_s0), .val (.ref a14), .val (.ref b15), .val (.ref b18), .unset, .unset, .unset, .unset]) rfl k_
            refine own_preW (B := T21.setTop (mkF m 98 #[.val (.int x0), .val (.int x1), .val (.int x2), .val (.int x3), .val (.int j2_s0), .val (.int j5_s0), .val (.int j8_s0), .val (.int j11_s0), .val (.ref a14), .val (.ref b15), .val (.ref b18), .unset, .unset, .unset, .unset] [(.int x2)])) ?_ fun t_ k_ => XS.iloadN X21.here hx rfl (hb hby at_97) rfl  k_
            refine own_preW (B := T21.setTop (mkF m 99 #[.val (.int x0), .val (.int x1), .val (.int x2), .val (.int x3), .val (.int j2_s0), .val (.int j5_s0), .val (.int j8_s0), .val (.int j11_s0), .val (.ref a14), .val (.ref b15), .val (.ref b18), .unset, .unset, .unset, .unset] [(.int x3), (.int x2)])) ?_ fun t_ k_ => XS.iloadN X21.here hx rfl (hb hby at_98) rfl  k_
            obtain ⟨_, _, ⟨T30, L30, k30, n30⟩, -, X30, ⟨Lc30, hQ30, l30, y30, z30⟩, st30⟩ := Jvm.LawKit.callS X21 hx (y := (⟨"java/lang/Math", "min", "(II)I"⟩ : MethodName)) hown (mvT hZ (hw _ (List.mem_of_getElem? (i := 61) rfl))) (mvT hZ (hw _ (List.mem_of_getElem? (i := 62) rfl))) (mvT hZ (hw _ (List.mem_of_getElem? (i := 63) rfl))) (mvT hZ (hw _ (List.mem_of_getElem? (i := 64) rfl))) (by decide) (backOf (W := 0) (rm7 l Z a0 hw [] x2 x3 T21.heap n0 Z21 ) hZ (hw _ (List.mem_of_getElem? (i := 64) rfl)) (hw _ (List.mem_of_getElem? (i := 63) rfl)) (by decide) (by decide)) (g := (mkF m 99 #[.val (.int x0), .val (.int x1), .val (.int x2), .val (.int x3), .val (.int j2_s0), .val (.int j5_s0), .val (.int j8_s0), .val (.int j11_s0), .val (.ref a14), .val (.ref b15), .val (.ref b18), .unset, .unset, .unset, .unset] [(.int x3), (.int x2)])) rfl (by rw [hml]; rfl) (argsL := [(.int x2), (.int x3)]) (rest := []) (lenOf pd__II_I rfl) rfl (by show 2 * 0 + _ ≤ _; exact Nat.le_of_eq rfl) (hb hby at_99) (fun _ _ => ⟨rfl, rfl, (by decide : 6 + 0 ≤ _), (by decide : 30 + 0 ≤ _)⟩)
            dsimp only [Pt.U, Pt.locs, Pt.cells, Pt.slots] at X30 l30 y30 z30 st30 hQ30
            subst l30 y30 z30
            obtain ⟨rfl, Nq30, e30⟩ := hQ30
            have N30 := Fr.app N21 Nq30
            refine own_preW (B := T30.setTop (mkF m 102 #[.val (.int x0), .val (.int x1), .val (.int x2), .val (.int x3), .val (.int j2_s0), .val (.int j5_s0), .val (.int j8_s0), .val (.int j11_s0), .val (.ref a14), .val (.ref b15), .val (.ref b18), .unset, .unset, .unset, .unset] [(.int (own_min x2 x3))])) ?_ st30
            refine own_preW (B := T30.setTop (mkF m 104 #[.val (.int x0), .val (.int x1), .val (.int x2), .val (.int x3), .val (.int j2_s0), .val (.int j5_s0), .val (.int j8_s0), .val (.int j11_s0), .val (.ref a14), .val (.ref b15), .val (.ref b18), .val (.int (own_min x2 x3)), .unset, .unset, .unset] [])) ?_ fun t_ k_ => XS.istore X30.here hx rfl (hb hby at_102) rfl  (l' := #[.val (.int x0), .val (.int x1), .val (.int x2), .val (.int x3), .val (.int j2_s0), .val (.int j5_s0), .val (.int j8_s0), .val (.int j11_s0), .val (.ref a14), .val (.ref b15), .val (.ref b18), .val (.int (own_min x2 x3)), .unset, .unset, .unset]) rfl k_
            refine own_preW (B := T30.setTop (mkF m 105 #[.val (.int x0), .val (.int x1), .val (.int x2), .val (.int x3), .val (.int j2_s0), .val (.int j5_s0), .val (.int j8_s0), .val (.int j11_s0), .val (.ref a14), .val (.ref b15), .val (.ref b18), .val (.int (own_min x2 x3)), .unset, .unset, .unset] [(.int x2)])) ?_ fun t_ k_ => XS.iloadN X30.here hx rfl (hb hby at_104) rfl  k_
            refine own_preW (B := T30.setTop (mkF m 106 #[.val (.int x0), .val (.int x1), .val (.int x2), .val (.int x3), .val (.int j2_s0), .val (.int j5_s0), .val (.int j8_s0), .val (.int j11_s0), .val (.ref a14), .val (.ref b15), .val (.ref b18), .val (.int (own_min x2 x3)), .unset, .unset, .unset] [(.int x3), (.int x2)])) ?_ fun t_ k_ => XS.iloadN X30.here hx rfl (hb hby at_105) rfl  k_
            obtain ⟨_, _, ⟨T31, L31, k31, n31⟩, -, X31, ⟨Lc31, hQ31, l31, y31, z31⟩, st31⟩ := Jvm.LawKit.callS X30 hx (y := (⟨"java/lang/Math", "max", "(II)I"⟩ : MethodName)) hown (mvT hZ (hw _ (List.mem_of_getElem? (i := 65) rfl))) (mvT hZ (hw _ (List.mem_of_getElem? (i := 66) rfl))) (mvT hZ (hw _ (List.mem_of_getElem? (i := 63) rfl))) (mvT hZ (hw _ (List.mem_of_getElem? (i := 67) rfl))) (by decide) (backOf (W := 0) (rm8 l Z a0 hw [] x2 x3 T21.heap n0 Z21 ) hZ (hw _ (List.mem_of_getElem? (i := 67) rfl)) (hw _ (List.mem_of_getElem? (i := 63) rfl)) (by decide) (by decide)) (g := (mkF m 106 #[.val (.int x0), .val (.int x1), .val (.int x2), .val (.int x3), .val (.int j2_s0), .val (.int j5_s0), .val (.int j8_s0), .val (.int j11_s0), .val (.ref a14), .val (.ref b15), .val (.ref b18), .val (.int (own_min x2 x3)), .unset, .unset, .unset] [(.int x3), (.int x2)])) rfl (by rw [hml]; rfl) (argsL := [(.int x2), (.int x3)]) (rest := []) (lenOf pd__II_I rfl) rfl (by show 2 * 0 + _ ≤ _; exact Nat.le_of_eq rfl) (hb hby at_106) (fun _ _ => ⟨rfl, e30, (by decide : 6 + 0 ≤ _), (by decide : 30 + 0 ≤ _)⟩)
            dsimp only [Pt.U, Pt.locs, Pt.cells, Pt.slots] at X31 l31 y31 z31 st31 hQ31
            subst l31 y31 z31
            obtain ⟨rfl, Nq31, e31⟩ := hQ31
            have N31 := Fr.app N30 Nq31
            refine own_preW (B := T31.setTop (mkF m 109 #[.val (.int x0), .val (.int x1), .val (.int x2), .val (.int x3), .val (.int j2_s0), .val (.int j5_s0), .val (.int j8_s0), .val (.int j11_s0), .val (.ref a14), .val (.ref b15), .val (.ref b18), .val (.int (own_min x2 x3)), .unset, .unset, .unset] [(.int (own_max x2 x3))])) ?_ st31
            refine own_preW (B := T31.setTop (mkF m 111 #[.val (.int x0), .val (.int x1), .val (.int x2), .val (.int x3), .val (.int j2_s0), .val (.int j5_s0), .val (.int j8_s0), .val (.int j11_s0), .val (.ref a14), .val (.ref b15), .val (.ref b18), .val (.int (own_min x2 x3)), .val (.int (own_max x2 x3)), .unset, .unset] [])) ?_ fun t_ k_ => XS.istore X31.here hx rfl (hb hby at_109) rfl  (l' := #[.val (.int x0), .val (.int x1), .val (.int x2), .val (.int x3), .val (.int j2_s0), .val (.int j5_s0), .val (.int j8_s0), .val (.int j11_s0), .val (.ref a14), .val (.ref b15), .val (.ref b18), .val (.int (own_min x2 x3)), .val (.int (own_max x2 x3)), .unset, .unset]) rfl k_
            refine own_preW (B := T31.setTop (mkF m 113 #[.val (.int x0), .val (.int x1), .val (.int x2), .val (.int x3), .val (.int j2_s0), .val (.int j5_s0), .val (.int j8_s0), .val (.int j11_s0), .val (.ref a14), .val (.ref b15), .val (.ref b18), .val (.int (own_min x2 x3)), .val (.int (own_max x2 x3)), .unset, .unset] [(.ref b18)])) ?_ fun t_ k_ => XS.aload X31.here hx rfl (hb hby at_111) rfl rfl k_
            refine own_preW (B := T31.setTop (mkF m 115 #[.val (.int x0), .val (.int x1), .val (.int x2), .val (.int x3), .val (.int j2_s0), .val (.int j5_s0), .val (.int j8_s0), .val (.int j11_s0), .val (.ref a14), .val (.ref b15), .val (.ref b18), .val (.int (own_min x2 x3)), .val (.int (own_max x2 x3)), .unset, .unset] [(.int (own_min x2 x3)), (.ref b18)])) ?_ fun t_ k_ => XS.iload X31.here hx rfl (hb hby at_113) rfl  k_
            obtain ⟨cq32, kq32, q32a, q32b, q32c⟩ := isOf hZ e31 E21
            obtain ⟨_, _, ⟨T32, L32, k32, n32⟩, -, X32, ⟨Lc32, hQ32, l32, y32, z32⟩, st32⟩ := X31.virtualBack hx (y := (⟨"com/example/pipecaret/pipecaret/grammar/Constituent", "allows", "(I)Z"⟩ : MethodName)) (z := (⟨"com/example/pipecaret/pipecaret/grammar/Constituent", "allows", "(I)Z"⟩ : MethodName)) hown (mvT hZ (hw _ (List.mem_of_getElem? (i := 68) rfl))) (mvT hZ (hw _ (List.mem_of_getElem? (i := 69) rfl))) (notFace_of_selects (args := #[]) (mvT hZ (hw _ (List.mem_of_getElem? (i := 71) rfl)))) (mvT hZ (hw _ (List.mem_of_getElem? (i := 71) rfl))) (mvT hZ (hw _ (List.mem_of_getElem? (i := 70) rfl))) (by decide) (backOf (W := 0) (rm9 l Z a0 hw [] b18 (own_min x2 x3) j11_s0 T21.heap n0 Z21 Fr21) hZ (hw _ (List.mem_of_getElem? (i := 72) rfl)) (hw _ (List.mem_of_getElem? (i := 36) rfl)) (by decide) (by decide)) q32a q32c (g := (mkF m 115 #[.val (.int x0), .val (.int x1), .val (.int x2), .val (.int x3), .val (.int j2_s0), .val (.int j5_s0), .val (.int j8_s0), .val (.int j11_s0), .val (.ref a14), .val (.ref b15), .val (.ref b18), .val (.int (own_min x2 x3)), .val (.int (own_max x2 x3)), .unset, .unset] [(.int (own_min x2 x3)), (.ref b18)])) rfl (by rw [hml]; rfl) (Steps.refl _) (argsL := [(.int (own_min x2 x3))]) (rest := []) (lenOf pd__I_Z rfl) rfl (by show 2 * 0 + _ ≤ _; exact Nat.le_of_eq rfl) (hb hby at_115) (fun _ _ => ⟨rfl, e31, (by decide : 6 + 0 ≤ _), (by decide : 30 + 0 ≤ _)⟩)
            dsimp only [Pt.U, Pt.locs, Pt.cells, Pt.slots] at X32 l32 y32 z32 st32 hQ32
            subst l32 y32 z32
            obtain ⟨rfl, Nq32, e32⟩ := hQ32
            have N32 := Fr.app N31 Nq32
            refine own_preW (B := T32.setTop (mkF m 118 #[.val (.int x0), .val (.int x1), .val (.int x2), .val (.int x3), .val (.int j2_s0), .val (.int j5_s0), .val (.int j8_s0), .val (.int j11_s0), .val (.ref a14), .val (.ref b15), .val (.ref b18), .val (.int (own_min x2 x3)), .val (.int (own_max x2 x3)), .unset, .unset] [(.int (own_al j11_s0 (own_min x2 x3)))])) ?_ (fun t_ k_ => st32.trans k_)
            refine own_preW (B := T32.setTop (mkF m 120 #[.val (.int x0), .val (.int x1), .val (.int x2), .val (.int x3), .val (.int j2_s0), .val (.int j5_s0), .val (.int j8_s0), .val (.int j11_s0), .val (.ref a14), .val (.ref b15), .val (.ref b18), .val (.int (own_min x2 x3)), .val (.int (own_max x2 x3)), .val (.int (own_al j11_s0 (own_min x2 x3))), .unset] [])) ?_ fun t_ k_ => XS.istore X32.here hx rfl (hb hby at_118) rfl  (l' := #[.val (.int x0), .val (.int x1), .val (.int x2), .val (.int x3), .val (.int j2_s0), .val (.int j5_s0), .val (.int j8_s0), .val (.int j11_s0), .val (.ref a14), .val (.ref b15), .val (.ref b18), .val (.int (own_min x2 x3)), .val (.int (own_max x2 x3)), .val (.int (own_al j11_s0 (own_min x2 x3))), .unset]) rfl k_
            refine own_preW (B := T32.setTop (mkF m 122 #[.val (.int x0), .val (.int x1), .val (.int x2), .val (.int x3), .val (.int j2_s0), .val (.int j5_s0), .val (.int j8_s0), .val (.int j11_s0), .val (.ref a14), .val (.ref b15), .val (.ref b18), .val (.int (own_min x2 x3)), .val (.int (own_max x2 x3)), .val (.int (own_al j11_s0 (own_min x2 x3))), .unset] [(.ref b18)])) ?_ fun t_ k_ => XS.aload X32.here hx rfl (hb hby at_120) rfl rfl k_
            refine own_preW (B := T32.setTop (mkF m 124 #[.val (.int x0), .val (.int x1), .val (.int x2), .val (.int x3), .val (.int j2_s0), .val (.int j5_s0), .val (.int j8_s0), .val (.int j11_s0), .val (.ref a14), .val (.ref b15), .val (.ref b18), .val (.int (own_min x2 x3)), .val (.int (own_max x2 x3)), .val (.int (own_al j11_s0 (own_min x2 x3))), .unset] [(.int (own_max x2 x3)), (.ref b18)])) ?_ fun t_ k_ => XS.iload X32.here hx rfl (hb hby at_122) rfl  k_
            obtain ⟨cq33, kq33, q33a, q33b, q33c⟩ := isOf hZ e32 E21
            obtain ⟨_, _, ⟨T33, L33, k33, n33⟩, -, X33, ⟨Lc33, hQ33, l33, y33, z33⟩, st33⟩ := X32.virtualBack hx (y := (⟨"com/example/pipecaret/pipecaret/grammar/Constituent", "allows", "(I)Z"⟩ : MethodName)) (z := (⟨"com/example/pipecaret/pipecaret/grammar/Constituent", "allows", "(I)Z"⟩ : MethodName)) hown (mvT hZ (hw _ (List.mem_of_getElem? (i := 68) rfl))) (mvT hZ (hw _ (List.mem_of_getElem? (i := 69) rfl))) (notFace_of_selects (args := #[]) (mvT hZ (hw _ (List.mem_of_getElem? (i := 71) rfl)))) (mvT hZ (hw _ (List.mem_of_getElem? (i := 71) rfl))) (mvT hZ (hw _ (List.mem_of_getElem? (i := 70) rfl))) (by decide) (backOf (W := 0) (rm9 l Z a0 hw [] b18 (own_max x2 x3) j11_s0 T21.heap n0 Z21 Fr21) hZ (hw _ (List.mem_of_getElem? (i := 72) rfl)) (hw _ (List.mem_of_getElem? (i := 36) rfl)) (by decide) (by decide)) q33a q33c (g := (mkF m 124 #[.val (.int x0), .val (.int x1), .val (.int x2), .val (.int x3), .val (.int j2_s0), .val (.int j5_s0), .val (.int j8_s0), .val (.int j11_s0), .val (.ref a14), .val (.ref b15), .val (.ref b18), .val (.int (own_min x2 x3)), .val (.int (own_max x2 x3)), .val (.int (own_al j11_s0 (own_min x2 x3))), .unset] [(.int (own_max x2 x3)), (.ref b18)])) rfl (by rw [hml]; rfl) (Steps.refl _) (argsL := [(.int (own_max x2 x3))]) (rest := []) (lenOf pd__I_Z rfl) rfl (by show 2 * 0 + _ ≤ _; exact Nat.le_of_eq rfl) (hb hby at_124) (fun _ _ => ⟨rfl, e32, (by decide : 6 + 0 ≤ _), (by decide : 30 + 0 ≤ _)⟩)
            dsimp only [Pt.U, Pt.locs, Pt.cells, Pt.slots] at X33 l33 y33 z33 st33 hQ33
            subst l33 y33 z33
            obtain ⟨rfl, Nq33, e33⟩ := hQ33
            have N33 := Fr.app N32 Nq33
            refine own_preW (B := T33.setTop (mkF m 127 #[.val (.int x0), .val (.int x1), .val (.int x2), .val (.int x3), .val (.int j2_s0), .val (.int j5_s0), .val (.int j8_s0), .val (.int j11_s0), .val (.ref a14), .val (.ref b15), .val (.ref b18), .val (.int (own_min x2 x3)), .val (.int (own_max x2 x3)), .val (.int (own_al j11_s0 (own_min x2 x3))), .unset] [(.int (own_al j11_s0 (own_max x2 x3)))])) ?_ (fun t_ k_ => st33.trans k_)
            refine own_preW (B := T33.setTop (mkF m 129 #[.val (.int x0), .val (.int x1), .val (.int x2), .val (.int x3), .val (.int j2_s0), .val (.int j5_s0), .val (.int j8_s0), .val (.int j11_s0), .val (.ref a14), .val (.ref b15), .val (.ref b18), .val (.int (own_min x2 x3)), .val (.int (own_max x2 x3)), .val (.int (own_al j11_s0 (own_min x2 x3))), .val (.int (own_al j11_s0 (own_max x2 x3)))] [])) ?_ fun t_ k_ => XS.istore X33.here hx rfl (hb hby at_127) rfl  (l' := #[.val (.int x0), .val (.int x1), .val (.int x2), .val (.int x3), .val (.int j2_s0), .val (.int j5_s0), .val (.int j8_s0), .val (.int j11_s0), .val (.ref a14), .val (.ref b15), .val (.ref b18), .val (.int (own_min x2 x3)), .val (.int (own_max x2 x3)), .val (.int (own_al j11_s0 (own_min x2 x3))), .val (.int (own_al j11_s0 (own_max x2 x3)))]) rfl k_
            refine own_preW (B := T33.setTop (mkF m 131 #[.val (.int x0), .val (.int x1), .val (.int x2), .val (.int x3), .val (.int j2_s0), .val (.int j5_s0), .val (.int j8_s0), .val (.int j11_s0), .val (.ref a14), .val (.ref b15), .val (.ref b18), .val (.int (own_min x2 x3)), .val (.int (own_max x2 x3)), .val (.int (own_al j11_s0 (own_min x2 x3))), .val (.int (own_al j11_s0 (own_max x2 x3)))] [(.int j2_s0)])) ?_ fun t_ k_ => XS.iload X33.here hx rfl (hb hby at_129) rfl  k_
            by_cases h131_34 : j2_s0 = (0 : Int32)
            · skip
              refine own_preW (B := T33.setTop (mkF m 150 #[.val (.int x0), .val (.int x1), .val (.int x2), .val (.int x3), .val (.int j2_s0), .val (.int j5_s0), .val (.int j8_s0), .val (.int j11_s0), .val (.ref a14), .val (.ref b15), .val (.ref b18), .val (.int (own_min x2 x3)), .val (.int (own_max x2 x3)), .val (.int (own_al j11_s0 (own_min x2 x3))), .val (.int (own_al j11_s0 (own_max x2 x3)))] [])) ?_ fun t_ k_ => XS.ifYes X33.here hx rfl (pc0 := 131) (pc' := 150) rfl (hb hby at_131) rfl ((if0 _ _).trans (teq h131_34).1) (by decide) (by decide) k_
              refine own_preW (B := T33.setTop (mkF m 152 #[.val (.int x0), .val (.int x1), .val (.int x2), .val (.int x3), .val (.int j2_s0), .val (.int j5_s0), .val (.int j8_s0), .val (.int j11_s0), .val (.ref a14), .val (.ref b15), .val (.ref b18), .val (.int (own_min x2 x3)), .val (.int (own_max x2 x3)), .val (.int (own_al j11_s0 (own_min x2 x3))), .val (.int (own_al j11_s0 (own_max x2 x3)))] [(.int (own_al j11_s0 (own_max x2 x3)))])) ?_ fun t_ k_ => XS.iload X33.here hx rfl (hb hby at_150) rfl  k_
              by_cases h152_35 : (own_al j11_s0 (own_max x2 x3)) = (0 : Int32)
              · skip
                refine own_preW (B := T33.setTop (mkF m 162 #[.val (.int x0), .val (.int x1), .val (.int x2), .val (.int x3), .val (.int j2_s0), .val (.int j5_s0), .val (.int j8_s0), .val (.int j11_s0), .val (.ref a14), .val (.ref b15), .val (.ref b18), .val (.int (own_min x2 x3)), .val (.int (own_max x2 x3)), .val (.int (own_al j11_s0 (own_min x2 x3))), .val (.int (own_al j11_s0 (own_max x2 x3)))] [])) ?_ fun t_ k_ => XS.ifYes X33.here hx rfl (pc0 := 152) (pc' := 162) rfl (hb hby at_152) rfl ((if0 _ _).trans (teq h152_35).1) (by decide) (by decide) k_
                refine own_preW (B := T33.setTop (mkF m 164 #[.val (.int x0), .val (.int x1), .val (.int x2), .val (.int x3), .val (.int j2_s0), .val (.int j5_s0), .val (.int j8_s0), .val (.int j11_s0), .val (.ref a14), .val (.ref b15), .val (.ref b18), .val (.int (own_min x2 x3)), .val (.int (own_max x2 x3)), .val (.int (own_al j11_s0 (own_min x2 x3))), .val (.int (own_al j11_s0 (own_max x2 x3)))] [(.ref b18)])) ?_ fun t_ k_ => XS.aload X33.here hx rfl (hb hby at_162) rfl rfl k_
                refine own_preW (B := T33.setTop (mkF m 166 #[.val (.int x0), .val (.int x1), .val (.int x2), .val (.int x3), .val (.int j2_s0), .val (.int j5_s0), .val (.int j8_s0), .val (.int j11_s0), .val (.ref a14), .val (.ref b15), .val (.ref b18), .val (.int (own_min x2 x3)), .val (.int (own_max x2 x3)), .val (.int (own_al j11_s0 (own_min x2 x3))), .val (.int (own_al j11_s0 (own_max x2 x3)))] [(.int j11_s0), (.ref b18)])) ?_ fun t_ k_ => XS.iload X33.here hx rfl (hb hby at_164) rfl  k_
                obtain ⟨cq36, kq36, q36a, q36b, q36c⟩ := isOf hZ e33 E21
                obtain ⟨_, _, ⟨T36, L36, k36, n36⟩, -, X36, ⟨Lc36, hQ36, l36, y36, z36⟩, st36⟩ := X33.virtualBack hx (y := (⟨"com/example/pipecaret/pipecaret/grammar/Constituent", "allows", "(I)Z"⟩ : MethodName)) (z := (⟨"com/example/pipecaret/pipecaret/grammar/Constituent", "allows", "(I)Z"⟩ : MethodName)) hown (mvT hZ (hw _ (List.mem_of_getElem? (i := 68) rfl))) (mvT hZ (hw _ (List.mem_of_getElem? (i := 69) rfl))) (notFace_of_selects (args := #[]) (mvT hZ (hw _ (List.mem_of_getElem? (i := 71) rfl)))) (mvT hZ (hw _ (List.mem_of_getElem? (i := 71) rfl))) (mvT hZ (hw _ (List.mem_of_getElem? (i := 70) rfl))) (by decide) (backOf (W := 0) (rm9 l Z a0 hw [] b18 j11_s0 j11_s0 T21.heap n0 Z21 Fr21) hZ (hw _ (List.mem_of_getElem? (i := 72) rfl)) (hw _ (List.mem_of_getElem? (i := 36) rfl)) (by decide) (by decide)) q36a q36c (g := (mkF m 166 #[.val (.int x0), .val (.int x1), .val (.int x2), .val (.int x3), .val (.int j2_s0), .val (.int j5_s0), .val (.int j8_s0), .val (.int j11_s0), .val (.ref a14), .val (.ref b15), .val (.ref b18), .val (.int (own_min x2 x3)), .val (.int (own_max x2 x3)), .val (.int (own_al j11_s0 (own_min x2 x3))), .val (.int (own_al j11_s0 (own_max x2 x3)))] [(.int j11_s0), (.ref b18)])) rfl (by rw [hml]; rfl) (Steps.refl _) (argsL := [(.int j11_s0)]) (rest := []) (lenOf pd__I_Z rfl) rfl (by show 2 * 0 + _ ≤ _; exact Nat.le_of_eq rfl) (hb hby at_166) (fun _ _ => ⟨rfl, e33, (by decide : 6 + 0 ≤ _), (by decide : 30 + 0 ≤ _)⟩)
                dsimp only [Pt.U, Pt.locs, Pt.cells, Pt.slots] at X36 l36 y36 z36 st36 hQ36
                subst l36 y36 z36
                obtain ⟨rfl, Nq36, e36⟩ := hQ36
                have N36 := Fr.app N33 Nq36
                refine own_preW (B := T36.setTop (mkF m 169 #[.val (.int x0), .val (.int x1), .val (.int x2), .val (.int x3), .val (.int j2_s0), .val (.int j5_s0), .val (.int j8_s0), .val (.int j11_s0), .val (.ref a14), .val (.ref b15), .val (.ref b18), .val (.int (own_min x2 x3)), .val (.int (own_max x2 x3)), .val (.int (own_al j11_s0 (own_min x2 x3))), .val (.int (own_al j11_s0 (own_max x2 x3)))] [(.int (own_al j11_s0 j11_s0))])) ?_ (fun t_ k_ => st36.trans k_)
                refine own_preW (B := T36.setTop (mkF m 174 #[.val (.int x0), .val (.int x1), .val (.int x2), .val (.int x3), .val (.int j2_s0), .val (.int j5_s0), .val (.int j8_s0), .val (.int j11_s0), .val (.ref a14), .val (.ref b15), .val (.ref b18), .val (.int (own_min x2 x3)), .val (.int (own_max x2 x3)), .val (.int (own_al j11_s0 (own_min x2 x3))), .val (.int (own_al j11_s0 (own_max x2 x3)))] [])) ?_ fun t_ k_ => XS.ifYes X36.here hx rfl (pc0 := 169) (pc' := 174) rfl (hb hby at_169) rfl ((if0 _ _).trans (feq (own_fin1 x0 x1 x2 x3 dc j2_s0 hvj2_s0 j5_s0 hvj5_s0 j8_s0 hvj8_s0 j11_s0 hvj11_s0 h56_13 h131_34 h152_35)).2) (by decide) (by decide) k_
                refine own_preW (B := T36.setTop (mkF m 176 #[.val (.int x0), .val (.int x1), .val (.int x2), .val (.int x3), .val (.int j2_s0), .val (.int j5_s0), .val (.int j8_s0), .val (.int j11_s0), .val (.ref a14), .val (.ref b15), .val (.ref b18), .val (.int (own_min x2 x3)), .val (.int (own_max x2 x3)), .val (.int (own_al j11_s0 (own_min x2 x3))), .val (.int (own_al j11_s0 (own_max x2 x3)))] [(.int j11_s0)])) ?_ fun t_ k_ => XS.iload X36.here hx rfl (hb hby at_174) rfl  k_
                refine own_preW (B := T36.setTop (mkF m 178 #[.val (.int x0), .val (.int x1), .val (.int x2), .val (.int x3), .val (.int j2_s0), .val (.int j5_s0), .val (.int j8_s0), .val (.int j11_s0), .val (.ref a14), .val (.ref b15), .val (.ref b18), .val (.int (own_min x2 x3)), .val (.int (own_max x2 x3)), .val (.int (own_al j11_s0 (own_min x2 x3))), .val (.int (own_al j11_s0 (own_max x2 x3)))] [(.int (2147483647 : Int32)), (.int j11_s0)])) ?_ (X36.ldcInt hx hown (mvT hZ (hw _ (List.mem_of_getElem? (i := 73) rfl))) (g := (mkF m 176 #[.val (.int x0), .val (.int x1), .val (.int x2), .val (.int x3), .val (.int j2_s0), .val (.int j5_s0), .val (.int j8_s0), .val (.int j11_s0), .val (.ref a14), .val (.ref b15), .val (.ref b18), .val (.int (own_min x2 x3)), .val (.int (own_max x2 x3)), .val (.int (own_al j11_s0 (own_min x2 x3))), .val (.int (own_al j11_s0 (own_max x2 x3)))] [(.int j11_s0)])) rfl (hb hby at_176))
                by_cases h178_37 : j11_s0 = (2147483647 : Int32)
                · skip
                  refine own_preW (B := T36.setTop (mkF m 195 #[.val (.int x0), .val (.int x1), .val (.int x2), .val (.int x3), .val (.int j2_s0), .val (.int j5_s0), .val (.int j8_s0), .val (.int j11_s0), .val (.ref a14), .val (.ref b15), .val (.ref b18), .val (.int (own_min x2 x3)), .val (.int (own_max x2 x3)), .val (.int (own_al j11_s0 (own_min x2 x3))), .val (.int (own_al j11_s0 (own_max x2 x3)))] [])) ?_ fun t_ k_ => XS.icmpYes X36.here hx rfl (pc0 := 178) (pc' := 195) rfl (hb hby at_178) rfl (teq h178_37).1 (by decide) (by decide) k_
                  refine own_preW (B := T36.setTop (mkF m 196 #[.val (.int x0), .val (.int x1), .val (.int x2), .val (.int x3), .val (.int j2_s0), .val (.int j5_s0), .val (.int j8_s0), .val (.int j11_s0), .val (.ref a14), .val (.ref b15), .val (.ref b18), .val (.int (own_min x2 x3)), .val (.int (own_max x2 x3)), .val (.int (own_al j11_s0 (own_min x2 x3))), .val (.int (own_al j11_s0 (own_max x2 x3)))] [(.int (1 : Int32))])) ?_ fun t_ k_ => XS.iconst X36.here hx rfl (hb hby at_195) k_
                  refine own_retNW X36 hx hlk hS20 (by rw [e36]; exact (Nat.le_trans kz20 K21.1)) (t := .boolean) (z' := (1 : Int32)) Bd.returns (by simp) (hb hby at_196) (by decide) ?_ (by decide) (by decide)
                  rw [e36]
                  exact ⟨rfl, N36⟩
                · skip
                  refine own_preW (B := T36.setTop (mkF m 181 #[.val (.int x0), .val (.int x1), .val (.int x2), .val (.int x3), .val (.int j2_s0), .val (.int j5_s0), .val (.int j8_s0), .val (.int j11_s0), .val (.ref a14), .val (.ref b15), .val (.ref b18), .val (.int (own_min x2 x3)), .val (.int (own_max x2 x3)), .val (.int (own_al j11_s0 (own_min x2 x3))), .val (.int (own_al j11_s0 (own_max x2 x3)))] [])) ?_ fun t_ k_ => XS.icmpNo X36.here hx rfl (hb hby at_178) rfl (feq h178_37).1 k_
                  refine own_preW (B := T36.setTop (mkF m 183 #[.val (.int x0), .val (.int x1), .val (.int x2), .val (.int x3), .val (.int j2_s0), .val (.int j5_s0), .val (.int j8_s0), .val (.int j11_s0), .val (.ref a14), .val (.ref b15), .val (.ref b18), .val (.int (own_min x2 x3)), .val (.int (own_max x2 x3)), .val (.int (own_al j11_s0 (own_min x2 x3))), .val (.int (own_al j11_s0 (own_max x2 x3)))] [(.ref b18)])) ?_ fun t_ k_ => XS.aload X36.here hx rfl (hb hby at_181) rfl rfl k_
                  refine own_preW (B := T36.setTop (mkF m 185 #[.val (.int x0), .val (.int x1), .val (.int x2), .val (.int x3), .val (.int j2_s0), .val (.int j5_s0), .val (.int j8_s0), .val (.int j11_s0), .val (.ref a14), .val (.ref b15), .val (.ref b18), .val (.int (own_min x2 x3)), .val (.int (own_max x2 x3)), .val (.int (own_al j11_s0 (own_min x2 x3))), .val (.int (own_al j11_s0 (own_max x2 x3)))] [(.int j11_s0), (.ref b18)])) ?_ fun t_ k_ => XS.iload X36.here hx rfl (hb hby at_183) rfl  k_
                  refine own_preW (B := T36.setTop (mkF m 186 #[.val (.int x0), .val (.int x1), .val (.int x2), .val (.int x3), .val (.int j2_s0), .val (.int j5_s0), .val (.int j8_s0), .val (.int j11_s0), .val (.ref a14), .val (.ref b15), .val (.ref b18), .val (.int (own_min x2 x3)), .val (.int (own_max x2 x3)), .val (.int (own_al j11_s0 (own_min x2 x3))), .val (.int (own_al j11_s0 (own_max x2 x3)))] [(.int (1 : Int32)), (.int j11_s0), (.ref b18)])) ?_ fun t_ k_ => XS.iconst X36.here hx rfl (hb hby at_185) k_
                  refine own_preW (B := T36.setTop (mkF m 187 #[.val (.int x0), .val (.int x1), .val (.int x2), .val (.int x3), .val (.int j2_s0), .val (.int j5_s0), .val (.int j8_s0), .val (.int j11_s0), .val (.ref a14), .val (.ref b15), .val (.ref b18), .val (.int (own_min x2 x3)), .val (.int (own_max x2 x3)), .val (.int (own_al j11_s0 (own_min x2 x3))), .val (.int (own_al j11_s0 (own_max x2 x3)))] [(.int (j11_s0 + (1 : Int32))), (.ref b18)])) ?_ fun t_ k_ => XS.iadd X36.here hx rfl (hb hby at_186) rfl k_
                  obtain ⟨cq38, kq38, q38a, q38b, q38c⟩ := isOf hZ e36 E21
                  obtain ⟨_, _, ⟨T38, L38, k38, n38⟩, -, X38, ⟨Lc38, hQ38, l38, y38, z38⟩, st38⟩ := X36.virtualBack hx (y := (⟨"com/example/pipecaret/pipecaret/grammar/Constituent", "allows", "(I)Z"⟩ : MethodName)) (z := (⟨"com/example/pipecaret/pipecaret/grammar/Constituent", "allows", "(I)Z"⟩ : MethodName)) hown (mvT hZ (hw _ (List.mem_of_getElem? (i := 68) rfl))) (mvT hZ (hw _ (List.mem_of_getElem? (i := 69) rfl))) (notFace_of_selects (args := #[]) (mvT hZ (hw _ (List.mem_of_getElem? (i := 71) rfl)))) (mvT hZ (hw _ (List.mem_of_getElem? (i := 71) rfl))) (mvT hZ (hw _ (List.mem_of_getElem? (i := 70) rfl))) (by decide) (backOf (W := 0) (rm9 l Z a0 hw [] b18 (j11_s0 + (1 : Int32)) j11_s0 T21.heap n0 Z21 Fr21) hZ (hw _ (List.mem_of_getElem? (i := 72) rfl)) (hw _ (List.mem_of_getElem? (i := 36) rfl)) (by decide) (by decide)) q38a q38c (g := (mkF m 187 #[.val (.int x0), .val (.int x1), .val (.int x2), .val (.int x3), .val (.int j2_s0), .val (.int j5_s0), .val (.int j8_s0), .val (.int j11_s0), .val (.ref a14), .val (.ref b15), .val (.ref b18), .val (.int (own_min x2 x3)), .val (.int (own_max x2 x3)), .val (.int (own_al j11_s0 (own_min x2 x3))), .val (.int (own_al j11_s0 (own_max x2 x3)))] [(.int (j11_s0 + (1 : Int32))), (.ref b18)])) rfl (by rw [hml]; rfl) (Steps.refl _) (argsL := [(.int (j11_s0 + (1 : Int32)))]) (rest := []) (lenOf pd__I_Z rfl) rfl (by show 2 * 0 + _ ≤ _; exact Nat.le_of_eq rfl) (hb hby at_187) (fun _ _ => ⟨rfl, e36, (by decide : 6 + 0 ≤ _), (by decide : 30 + 0 ≤ _)⟩)
                  dsimp only [Pt.U, Pt.locs, Pt.cells, Pt.slots] at X38 l38 y38 z38 st38 hQ38
                  subst l38 y38 z38
                  obtain ⟨rfl, Nq38, e38⟩ := hQ38
                  have N38 := Fr.app N36 Nq38
                  refine own_preW (B := T38.setTop (mkF m 190 #[.val (.int x0), .val (.int x1), .val (.int x2), .val (.int x3), .val (.int j2_s0), .val (.int j5_s0), .val (.int j8_s0), .val (.int j11_s0), .val (.ref a14), .val (.ref b15), .val (.ref b18), .val (.int (own_min x2 x3)), .val (.int (own_max x2 x3)), .val (.int (own_al j11_s0 (own_min x2 x3))), .val (.int (own_al j11_s0 (own_max x2 x3)))] [(.int (own_al j11_s0 (j11_s0 + (1 : Int32))))])) ?_ (fun t_ k_ => st38.trans k_)
                  refine own_preW (B := T38.setTop (mkF m 195 #[.val (.int x0), .val (.int x1), .val (.int x2), .val (.int x3), .val (.int j2_s0), .val (.int j5_s0), .val (.int j8_s0), .val (.int j11_s0), .val (.ref a14), .val (.ref b15), .val (.ref b18), .val (.int (own_min x2 x3)), .val (.int (own_max x2 x3)), .val (.int (own_al j11_s0 (own_min x2 x3))), .val (.int (own_al j11_s0 (own_max x2 x3)))] [])) ?_ fun t_ k_ => XS.ifYes X38.here hx rfl (pc0 := 190) (pc' := 195) rfl (hb hby at_190) rfl ((if0 _ _).trans (teq (own_fin2 x0 x1 x2 x3 dc j2_s0 hvj2_s0 j5_s0 hvj5_s0 j8_s0 hvj8_s0 j11_s0 hvj11_s0 h56_13 h131_34 h152_35 h178_37)).1) (by decide) (by decide) k_
                  refine own_preW (B := T38.setTop (mkF m 196 #[.val (.int x0), .val (.int x1), .val (.int x2), .val (.int x3), .val (.int j2_s0), .val (.int j5_s0), .val (.int j8_s0), .val (.int j11_s0), .val (.ref a14), .val (.ref b15), .val (.ref b18), .val (.int (own_min x2 x3)), .val (.int (own_max x2 x3)), .val (.int (own_al j11_s0 (own_min x2 x3))), .val (.int (own_al j11_s0 (own_max x2 x3)))] [(.int (1 : Int32))])) ?_ fun t_ k_ => XS.iconst X38.here hx rfl (hb hby at_195) k_
                  refine own_retNW X38 hx hlk hS20 (by rw [e38]; exact (Nat.le_trans kz20 K21.1)) (t := .boolean) (z' := (1 : Int32)) Bd.returns (by simp) (hb hby at_196) (by decide) ?_ (by decide) (by decide)
                  rw [e38]
                  exact ⟨rfl, N38⟩
              · skip
                refine own_preW (B := T33.setTop (mkF m 155 #[.val (.int x0), .val (.int x1), .val (.int x2), .val (.int x3), .val (.int j2_s0), .val (.int j5_s0), .val (.int j8_s0), .val (.int j11_s0), .val (.ref a14), .val (.ref b15), .val (.ref b18), .val (.int (own_min x2 x3)), .val (.int (own_max x2 x3)), .val (.int (own_al j11_s0 (own_min x2 x3))), .val (.int (own_al j11_s0 (own_max x2 x3)))] [])) ?_ fun t_ k_ => XS.ifNo X33.here hx rfl (hb hby at_152) rfl ((if0 _ _).trans (feq h152_35).1) k_
                refine own_preW (B := T33.setTop (mkF m 157 #[.val (.int x0), .val (.int x1), .val (.int x2), .val (.int x3), .val (.int j2_s0), .val (.int j5_s0), .val (.int j8_s0), .val (.int j11_s0), .val (.ref a14), .val (.ref b15), .val (.ref b18), .val (.int (own_min x2 x3)), .val (.int (own_max x2 x3)), .val (.int (own_al j11_s0 (own_min x2 x3))), .val (.int (own_al j11_s0 (own_max x2 x3)))] [(.int (own_al j11_s0 (own_min x2 x3)))])) ?_ fun t_ k_ => XS.iload X33.here hx rfl (hb hby at_155) rfl  k_
                refine own_preW (B := T33.setTop (mkF m 162 #[.val (.int x0), .val (.int x1), .val (.int x2), .val (.int x3), .val (.int j2_s0), .val (.int j5_s0), .val (.int j8_s0), .val (.int j11_s0), .val (.ref a14), .val (.ref b15), .val (.ref b18), .val (.int (own_min x2 x3)), .val (.int (own_max x2 x3)), .val (.int (own_al j11_s0 (own_min x2 x3))), .val (.int (own_al j11_s0 (own_max x2 x3)))] [])) ?_ fun t_ k_ => XS.ifYes X33.here hx rfl (pc0 := 157) (pc' := 162) rfl (hb hby at_157) rfl ((if0 _ _).trans (feq (own_fin3 x0 x1 x2 x3 dc j2_s0 hvj2_s0 j5_s0 hvj5_s0 j8_s0 hvj8_s0 j11_s0 hvj11_s0 h56_13 h131_34 h152_35)).2) (by decide) (by decide) k_
                refine own_preW (B := T33.setTop (mkF m 164 #[.val (.int x0), .val (.int x1), .val (.int x2), .val (.int x3), .val (.int j2_s0), .val (.int j5_s0), .val (.int j8_s0), .val (.int j11_s0), .val (.ref a14), .val (.ref b15), .val (.ref b18), .val (.int (own_min x2 x3)), .val (.int (own_max x2 x3)), .val (.int (own_al j11_s0 (own_min x2 x3))), .val (.int (own_al j11_s0 (own_max x2 x3)))] [(.ref b18)])) ?_ fun t_ k_ => XS.aload X33.here hx rfl (hb hby at_162) rfl rfl k_
                refine own_preW (B := T33.setTop (mkF m 166 #[.val (.int x0), .val (.int x1), .val (.int x2), .val (.int x3), .val (.int j2_s0), .val (.int j5_s0), .val (.int j8_s0), .val (.int j11_s0), .val (.ref a14), .val (.ref b15), .val (.ref b18), .val (.int (own_min x2 x3)), .val (.int (own_max x2 x3)), .val (.int (own_al j11_s0 (own_min x2 x3))), .val (.int (own_al j11_s0 (own_max x2 x3)))] [(.int j11_s0), (.ref b18)])) ?_ fun t_ k_ => XS.iload X33.here hx rfl (hb hby at_164) rfl  k_
                obtain ⟨cq39, kq39, q39a, q39b, q39c⟩ := isOf hZ e33 E21
                obtain ⟨_, _, ⟨T39, L39, k39, n39⟩, -, X39, ⟨Lc39, hQ39, l39, y39, z39⟩, st39⟩ := X33.virtualBack hx (y := (⟨"com/example/pipecaret/pipecaret/grammar/Constituent", "allows", "(I)Z"⟩ : MethodName)) (z := (⟨"com/example/pipecaret/pipecaret/grammar/Constituent", "allows", "(I)Z"⟩ : MethodName)) hown (mvT hZ (hw _ (List.mem_of_getElem? (i := 68) rfl))) (mvT hZ (hw _ (List.mem_of_getElem? (i := 69) rfl))) (notFace_of_selects (args := #[]) (mvT hZ (hw _ (List.mem_of_getElem? (i := 71) rfl)))) (mvT hZ (hw _ (List.mem_of_getElem? (i := 71) rfl))) (mvT hZ (hw _ (List.mem_of_getElem? (i := 70) rfl))) (by decide) (backOf (W := 0) (rm9 l Z a0 hw [] b18 j11_s0 j11_s0 T21.heap n0 Z21 Fr21) hZ (hw _ (List.mem_of_getElem? (i := 72) rfl)) (hw _ (List.mem_of_getElem? (i := 36) rfl)) (by decide) (by decide)) q39a q39c (g := (mkF m 166 #[.val (.int x0), .val (.int x1), .val (.int x2), .val (.int x3), .val (.int j2_s0), .val (.int j5_s0), .val (.int j8_s0), .val (.int j11_s0), .val (.ref a14), .val (.ref b15), .val (.ref b18), .val (.int (own_min x2 x3)), .val (.int (own_max x2 x3)), .val (.int (own_al j11_s0 (own_min x2 x3))), .val (.int (own_al j11_s0 (own_max x2 x3)))] [(.int j11_s0), (.ref b18)])) rfl (by rw [hml]; rfl) (Steps.refl _) (argsL := [(.int j11_s0)]) (rest := []) (lenOf pd__I_Z rfl) rfl (by show 2 * 0 + _ ≤ _; exact Nat.le_of_eq rfl) (hb hby at_166) (fun _ _ => ⟨rfl, e33, (by decide : 6 + 0 ≤ _), (by decide : 30 + 0 ≤ _)⟩)
                dsimp only [Pt.U, Pt.locs, Pt.cells, Pt.slots] at X39 l39 y39 z39 st39 hQ39
                subst l39 y39 z39
                obtain ⟨rfl, Nq39, e39⟩ := hQ39
                have N39 := Fr.app N33 Nq39
                refine own_preW (B := T39.setTop (mkF m 169 #[.val (.int x0), .val (.int x1), .val (.int x2), .val (.int x3), .val (.int j2_s0), .val (.int j5_s0), .val (.int j8_s0), .val (.int j11_s0), .val (.ref a14), .val (.ref b15), .val (.ref b18), .val (.int (own_min x2 x3)), .val (.int (own_max x2 x3)), .val (.int (own_al j11_s0 (own_min x2 x3))), .val (.int (own_al j11_s0 (own_max x2 x3)))] [(.int (own_al j11_s0 j11_s0))])) ?_ (fun t_ k_ => st39.trans k_)
                refine own_preW (B := T39.setTop (mkF m 174 #[.val (.int x0), .val (.int x1), .val (.int x2), .val (.int x3), .val (.int j2_s0), .val (.int j5_s0), .val (.int j8_s0), .val (.int j11_s0), .val (.ref a14), .val (.ref b15), .val (.ref b18), .val (.int (own_min x2 x3)), .val (.int (own_max x2 x3)), .val (.int (own_al j11_s0 (own_min x2 x3))), .val (.int (own_al j11_s0 (own_max x2 x3)))] [])) ?_ fun t_ k_ => XS.ifYes X39.here hx rfl (pc0 := 169) (pc' := 174) rfl (hb hby at_169) rfl ((if0 _ _).trans (feq (own_fin4 x0 x1 x2 x3 dc j2_s0 hvj2_s0 j5_s0 hvj5_s0 j8_s0 hvj8_s0 j11_s0 hvj11_s0 h56_13 h131_34 h152_35)).2) (by decide) (by decide) k_
                refine own_preW (B := T39.setTop (mkF m 176 #[.val (.int x0), .val (.int x1), .val (.int x2), .val (.int x3), .val (.int j2_s0), .val (.int j5_s0), .val (.int j8_s0), .val (.int j11_s0), .val (.ref a14), .val (.ref b15), .val (.ref b18), .val (.int (own_min x2 x3)), .val (.int (own_max x2 x3)), .val (.int (own_al j11_s0 (own_min x2 x3))), .val (.int (own_al j11_s0 (own_max x2 x3)))] [(.int j11_s0)])) ?_ fun t_ k_ => XS.iload X39.here hx rfl (hb hby at_174) rfl  k_
                refine own_preW (B := T39.setTop (mkF m 178 #[.val (.int x0), .val (.int x1), .val (.int x2), .val (.int x3), .val (.int j2_s0), .val (.int j5_s0), .val (.int j8_s0), .val (.int j11_s0), .val (.ref a14), .val (.ref b15), .val (.ref b18), .val (.int (own_min x2 x3)), .val (.int (own_max x2 x3)), .val (.int (own_al j11_s0 (own_min x2 x3))), .val (.int (own_al j11_s0 (own_max x2 x3)))] [(.int (2147483647 : Int32)), (.int j11_s0)])) ?_ (X39.ldcInt hx hown (mvT hZ (hw _ (List.mem_of_getElem? (i := 73) rfl))) (g := (mkF m 176 #[.val (.int x0), .val (.int x1), .val (.int x2), .val (.int x3), .val (.int j2_s0), .val (.int j5_s0), .val (.int j8_s0), .val (.int j11_s0), .val (.ref a14), .val (.ref b15), .val (.ref b18), .val (.int (own_min x2 x3)), .val (.int (own_max x2 x3)), .val (.int (own_al j11_s0 (own_min x2 x3))), .val (.int (own_al j11_s0 (own_max x2 x3)))] [(.int j11_s0)])) rfl (hb hby at_176))
                by_cases h178_40 : j11_s0 = (2147483647 : Int32)
                · skip
                  refine own_preW (B := T39.setTop (mkF m 195 #[.val (.int x0), .val (.int x1), .val (.int x2), .val (.int x3), .val (.int j2_s0), .val (.int j5_s0), .val (.int j8_s0), .val (.int j11_s0), .val (.ref a14), .val (.ref b15), .val (.ref b18), .val (.int (own_min x2 x3)), .val (.int (own_max x2 x3)), .val (.int (own_al j11_s0 (own_min x2 x3))), .val (.int (own_al j11_s0 (own_max x2 x3)))] [])) ?_ fun t_ k_ => XS.icmpYes X39.here hx rfl (pc0 := 178) (pc' := 195) rfl (hb hby at_178) rfl (teq h178_40).1 (by decide) (by decide) k_
                  refine own_preW (B := T39.setTop (mkF m 196 #[.val (.int x0), .val (.int x1), .val (.int x2), .val (.int x3), .val (.int j2_s0), .val (.int j5_s0), .val (.int j8_s0), .val (.int j11_s0), .val (.ref a14), .val (.ref b15), .val (.ref b18), .val (.int (own_min x2 x3)), .val (.int (own_max x2 x3)), .val (.int (own_al j11_s0 (own_min x2 x3))), .val (.int (own_al j11_s0 (own_max x2 x3)))] [(.int (1 : Int32))])) ?_ fun t_ k_ => XS.iconst X39.here hx rfl (hb hby at_195) k_
                  refine own_retNW X39 hx hlk hS20 (by rw [e39]; exact (Nat.le_trans kz20 K21.1)) (t := .boolean) (z' := (1 : Int32)) Bd.returns (by simp) (hb hby at_196) (by decide) ?_ (by decide) (by decide)
                  rw [e39]
                  exact ⟨rfl, N39⟩
                · skip
                  refine own_preW (B := T39.setTop (mkF m 181 #[.val (.int x0), .val (.int x1), .val (.int x2), .val (.int x3), .val (.int j2_s0), .val (.int j5_s0), .val (.int j8_s0), .val (.int j11_s0), .val (.ref a14), .val (.ref b15), .val (.ref b18), .val (.int (own_min x2 x3)), .val (.int (own_max x2 x3)), .val (.int (own_al j11_s0 (own_min x2 x3))), .val (.int (own_al j11_s0 (own_max x2 x3)))] [])) ?_ fun t_ k_ => XS.icmpNo X39.here hx rfl (hb hby at_178) rfl (feq h178_40).1 k_
                  refine own_preW (B := T39.setTop (mkF m 183 #[.val (.int x0), .val (.int x1), .val (.int x2), .val (.int x3), .val (.int j2_s0), .val (.int j5_s0), .val (.int j8_s0), .val (.int j11_s0), .val (.ref a14), .val (.ref b15), .val (.ref b18), .val (.int (own_min x2 x3)), .val (.int (own_max x2 x3)), .val (.int (own_al j11_s0 (own_min x2 x3))), .val (.int (own_al j11_s0 (own_max x2 x3)))] [(.ref b18)])) ?_ fun t_ k_ => XS.aload X39.here hx rfl (hb hby at_181) rfl rfl k_
                  refine own_preW (B := T39.setTop (mkF m 185 #[.val (.int x0), .val (.int x1), .val (.int x2), .val (.int x3), .val (.int j2_s0), .val (.int j5_s0), .val (.int j8_s0), .val (.int j11_s0), .val (.ref a14), .val (.ref b15), .val (.ref b18), .val (.int (own_min x2 x3)), .val (.int (own_max x2 x3)), .val (.int (own_al j11_s0 (own_min x2 x3))), .val (.int (own_al j11_s0 (own_max x2 x3)))] [(.int j11_s0), (.ref b18)])) ?_ fun t_ k_ => XS.iload X39.here hx rfl (hb hby at_183) rfl  k_
                  refine own_preW (B := T39.setTop (mkF m 186 #[.val (.int x0), .val (.int x1), .val (.int x2), .val (.int x3), .val (.int j2_s0), .val (.int j5_s0), .val (.int j8_s0), .val (.int j11_s0), .val (.ref a14), .val (.ref b15), .val (.ref b18), .val (.int (own_min x2 x3)), .val (.int (own_max x2 x3)), .val (.int (own_al j11_s0 (own_min x2 x3))), .val (.int (own_al j11_s0 (own_max x2 x3)))] [(.int (1 : Int32)), (.int j11_s0), (.ref b18)])) ?_ fun t_ k_ => XS.iconst X39.here hx rfl (hb hby at_185) k_
                  refine own_preW (B := T39.setTop (mkF m 187 #[.val (.int x0), .val (.int x1), .val (.int x2), .val (.int x3), .val (.int j2_s0), .val (.int j5_s0), .val (.int j8_s0), .val (.int j11_s0), .val (.ref a14), .val (.ref b15), .val (.ref b18), .val (.int (own_min x2 x3)), .val (.int (own_max x2 x3)), .val (.int (own_al j11_s0 (own_min x2 x3))), .val (.int (own_al j11_s0 (own_max x2 x3)))] [(.int (j11_s0 + (1 : Int32))), (.ref b18)])) ?_ fun t_ k_ => XS.iadd X39.here hx rfl (hb hby at_186) rfl k_
                  obtain ⟨cq41, kq41, q41a, q41b, q41c⟩ := isOf hZ e39 E21
                  obtain ⟨_, _, ⟨T41, L41, k41, n41⟩, -, X41, ⟨Lc41, hQ41, l41, y41, z41⟩, st41⟩ := X39.virtualBack hx (y := (⟨"com/example/pipecaret/pipecaret/grammar/Constituent", "allows", "(I)Z"⟩ : MethodName)) (z := (⟨"com/example/pipecaret/pipecaret/grammar/Constituent", "allows", "(I)Z"⟩ : MethodName)) hown (mvT hZ (hw _ (List.mem_of_getElem? (i := 68) rfl))) (mvT hZ (hw _ (List.mem_of_getElem? (i := 69) rfl))) (notFace_of_selects (args := #[]) (mvT hZ (hw _ (List.mem_of_getElem? (i := 71) rfl)))) (mvT hZ (hw _ (List.mem_of_getElem? (i := 71) rfl))) (mvT hZ (hw _ (List.mem_of_getElem? (i := 70) rfl))) (by decide) (backOf (W := 0) (rm9 l Z a0 hw [] b18 (j11_s0 + (1 : Int32)) j11_s0 T21.heap n0 Z21 Fr21) hZ (hw _ (List.mem_of_getElem? (i := 72) rfl)) (hw _ (List.mem_of_getElem? (i := 36) rfl)) (by decide) (by decide)) q41a q41c (g := (mkF m 187 #[.val (.int x0), .val (.int x1), .val (.int x2), .val (.int x3), .val (.int j2_s0), .val (.int j5_s0), .val (.int j8_s0), .val (.int j11_s0), .val (.ref a14), .val (.ref b15), .val (.ref b18), .val (.int (own_min x2 x3)), .val (.int (own_max x2 x3)), .val (.int (own_al j11_s0 (own_min x2 x3))), .val (.int (own_al j11_s0 (own_max x2 x3)))] [(.int (j11_s0 + (1 : Int32))), (.ref b18)])) rfl (by rw [hml]; rfl) (Steps.refl _) (argsL := [(.int (j11_s0 + (1 : Int32)))]) (rest := []) (lenOf pd__I_Z rfl) rfl (by show 2 * 0 + _ ≤ _; exact Nat.le_of_eq rfl) (hb hby at_187) (fun _ _ => ⟨rfl, e39, (by decide : 6 + 0 ≤ _), (by decide : 30 + 0 ≤ _)⟩)
                  dsimp only [Pt.U, Pt.locs, Pt.cells, Pt.slots] at X41 l41 y41 z41 st41 hQ41
                  subst l41 y41 z41
                  obtain ⟨rfl, Nq41, e41⟩ := hQ41
                  have N41 := Fr.app N39 Nq41
                  refine own_preW (B := T41.setTop (mkF m 190 #[.val (.int x0), .val (.int x1), .val (.int x2), .val (.int x3), .val (.int j2_s0), .val (.int j5_s0), .val (.int j8_s0), .val (.int j11_s0), .val (.ref a14), .val (.ref b15), .val (.ref b18), .val (.int (own_min x2 x3)), .val (.int (own_max x2 x3)), .val (.int (own_al j11_s0 (own_min x2 x3))), .val (.int (own_al j11_s0 (own_max x2 x3)))] [(.int (own_al j11_s0 (j11_s0 + (1 : Int32))))])) ?_ (fun t_ k_ => st41.trans k_)
                  refine own_preW (B := T41.setTop (mkF m 195 #[.val (.int x0), .val (.int x1), .val (.int x2), .val (.int x3), .val (.int j2_s0), .val (.int j5_s0), .val (.int j8_s0), .val (.int j11_s0), .val (.ref a14), .val (.ref b15), .val (.ref b18), .val (.int (own_min x2 x3)), .val (.int (own_max x2 x3)), .val (.int (own_al j11_s0 (own_min x2 x3))), .val (.int (own_al j11_s0 (own_max x2 x3)))] [])) ?_ fun t_ k_ => XS.ifYes X41.here hx rfl (pc0 := 190) (pc' := 195) rfl (hb hby at_190) rfl ((if0 _ _).trans (teq (own_fin5 x0 x1 x2 x3 dc j2_s0 hvj2_s0 j5_s0 hvj5_s0 j8_s0 hvj8_s0 j11_s0 hvj11_s0 h56_13 h131_34 h152_35 h178_40)).1) (by decide) (by decide) k_
                  refine own_preW (B := T41.setTop (mkF m 196 #[.val (.int x0), .val (.int x1), .val (.int x2), .val (.int x3), .val (.int j2_s0), .val (.int j5_s0), .val (.int j8_s0), .val (.int j11_s0), .val (.ref a14), .val (.ref b15), .val (.ref b18), .val (.int (own_min x2 x3)), .val (.int (own_max x2 x3)), .val (.int (own_al j11_s0 (own_min x2 x3))), .val (.int (own_al j11_s0 (own_max x2 x3)))] [(.int (1 : Int32))])) ?_ fun t_ k_ => XS.iconst X41.here hx rfl (hb hby at_195) k_
                  refine own_retNW X41 hx hlk hS20 (by rw [e41]; exact (Nat.le_trans kz20 K21.1)) (t := .boolean) (z' := (1 : Int32)) Bd.returns (by simp) (hb hby at_196) (by decide) ?_ (by decide) (by decide)
                  rw [e41]
                  exact ⟨rfl, N41⟩
            · skip
              refine own_preW (B := T33.setTop (mkF m 134 #[.val (.int x0), .val (.int x1), .val (.int x2), .val (.int x3), .val (.int j2_s0), .val (.int j5_s0), .val (.int j8_s0), .val (.int j11_s0), .val (.ref a14), .val (.ref b15), .val (.ref b18), .val (.int (own_min x2 x3)), .val (.int (own_max x2 x3)), .val (.int (own_al j11_s0 (own_min x2 x3))), .val (.int (own_al j11_s0 (own_max x2 x3)))] [])) ?_ fun t_ k_ => XS.ifNo X33.here hx rfl (hb hby at_131) rfl ((if0 _ _).trans (feq h131_34).1) k_
              refine own_preW (B := T33.setTop (mkF m 136 #[.val (.int x0), .val (.int x1), .val (.int x2), .val (.int x3), .val (.int j2_s0), .val (.int j5_s0), .val (.int j8_s0), .val (.int j11_s0), .val (.ref a14), .val (.ref b15), .val (.ref b18), .val (.int (own_min x2 x3)), .val (.int (own_max x2 x3)), .val (.int (own_al j11_s0 (own_min x2 x3))), .val (.int (own_al j11_s0 (own_max x2 x3)))] [(.int (own_al j11_s0 (own_min x2 x3)))])) ?_ fun t_ k_ => XS.iload X33.here hx rfl (hb hby at_134) rfl  k_
              refine own_preW (B := T33.setTop (mkF m 139 #[.val (.int x0), .val (.int x1), .val (.int x2), .val (.int x3), .val (.int j2_s0), .val (.int j5_s0), .val (.int j8_s0), .val (.int j11_s0), .val (.ref a14), .val (.ref b15), .val (.ref b18), .val (.int (own_min x2 x3)), .val (.int (own_max x2 x3)), .val (.int (own_al j11_s0 (own_min x2 x3))), .val (.int (own_al j11_s0 (own_max x2 x3)))] [])) ?_ fun t_ k_ => XS.ifNo X33.here hx rfl (hb hby at_136) rfl ((if0 _ _).trans (feq (own_fin6 x0 x1 x2 x3 dc j2_s0 hvj2_s0 j5_s0 hvj5_s0 j8_s0 hvj8_s0 j11_s0 hvj11_s0 h56_13 h131_34)).1) k_
              refine own_preW (B := T33.setTop (mkF m 141 #[.val (.int x0), .val (.int x1), .val (.int x2), .val (.int x3), .val (.int j2_s0), .val (.int j5_s0), .val (.int j8_s0), .val (.int j11_s0), .val (.ref a14), .val (.ref b15), .val (.ref b18), .val (.int (own_min x2 x3)), .val (.int (own_max x2 x3)), .val (.int (own_al j11_s0 (own_min x2 x3))), .val (.int (own_al j11_s0 (own_max x2 x3)))] [(.int (own_al j11_s0 (own_max x2 x3)))])) ?_ fun t_ k_ => XS.iload X33.here hx rfl (hb hby at_139) rfl  k_
              refine own_preW (B := T33.setTop (mkF m 144 #[.val (.int x0), .val (.int x1), .val (.int x2), .val (.int x3), .val (.int j2_s0), .val (.int j5_s0), .val (.int j8_s0), .val (.int j11_s0), .val (.ref a14), .val (.ref b15), .val (.ref b18), .val (.int (own_min x2 x3)), .val (.int (own_max x2 x3)), .val (.int (own_al j11_s0 (own_min x2 x3))), .val (.int (own_al j11_s0 (own_max x2 x3)))] [])) ?_ fun t_ k_ => XS.ifNo X33.here hx rfl (hb hby at_141) rfl ((if0 _ _).trans (feq (own_fin7 x0 x1 x2 x3 dc j2_s0 hvj2_s0 j5_s0 hvj5_s0 j8_s0 hvj8_s0 j11_s0 hvj11_s0 h56_13 h131_34)).1) k_
              refine own_preW (B := T33.setTop (mkF m 145 #[.val (.int x0), .val (.int x1), .val (.int x2), .val (.int x3), .val (.int j2_s0), .val (.int j5_s0), .val (.int j8_s0), .val (.int j11_s0), .val (.ref a14), .val (.ref b15), .val (.ref b18), .val (.int (own_min x2 x3)), .val (.int (own_max x2 x3)), .val (.int (own_al j11_s0 (own_min x2 x3))), .val (.int (own_al j11_s0 (own_max x2 x3)))] [(.int (1 : Int32))])) ?_ fun t_ k_ => XS.iconst X33.here hx rfl (hb hby at_144) k_
              refine own_preW (B := T33.setTop (mkF m 149 #[.val (.int x0), .val (.int x1), .val (.int x2), .val (.int x3), .val (.int j2_s0), .val (.int j5_s0), .val (.int j8_s0), .val (.int j11_s0), .val (.ref a14), .val (.ref b15), .val (.ref b18), .val (.int (own_min x2 x3)), .val (.int (own_max x2 x3)), .val (.int (own_al j11_s0 (own_min x2 x3))), .val (.int (own_al j11_s0 (own_max x2 x3)))] [(.int (1 : Int32))])) ?_ fun t_ k_ => XS.goto X33.here hx rfl (pc0 := 145) (pc' := 149) rfl (hb hby at_145) (by decide) (by decide) k_
              refine own_retNW X33 hx hlk hS20 (by rw [e33]; exact (Nat.le_trans kz20 K21.1)) (t := .boolean) (z' := (1 : Int32)) Bd.returns (by simp) (hb hby at_149) (by decide) ?_ (by decide) (by decide)
              rw [e33]
              exact ⟨rfl, N33⟩
          · skip
            refine own_preW (B := T12.setTop (mkF m 59 #[.val (.int x0), .val (.int x1), .val (.int x2), .val (.int x3), .val (.int j2_s0), .val (.int j5_s0), .val (.int j8_s0), .val (.int j11_s0), .unset, .unset, .unset, .unset, .unset, .unset, .unset] [])) ?_ fun t_ k_ => XS.ifNo X12.here hx rfl (hb hby at_56) rfl ((if0 _ _).trans (feq h56_13).1) k_
            refine own_preW (B := T12.setTop (mkF m 60 #[.val (.int x0), .val (.int x1), .val (.int x2), .val (.int x3), .val (.int j2_s0), .val (.int j5_s0), .val (.int j8_s0), .val (.int j11_s0), .unset, .unset, .unset, .unset, .unset, .unset, .unset] [.null])) ?_ fun t_ k_ => XS.aconstNull X12.here hx rfl (hb hby at_59) k_
            refine own_preW (B := T12.setTop (mkF m 65 #[.val (.int x0), .val (.int x1), .val (.int x2), .val (.int x3), .val (.int j2_s0), .val (.int j5_s0), .val (.int j8_s0), .val (.int j11_s0), .unset, .unset, .unset, .unset, .unset, .unset, .unset] [.null])) ?_ fun t_ k_ => XS.goto X12.here hx rfl (pc0 := 60) (pc' := 65) rfl (hb hby at_60) (by decide) (by decide) k_
            refine own_preW (B := T12.setTop (mkF m 67 #[.val (.int x0), .val (.int x1), .val (.int x2), .val (.int x3), .val (.int j2_s0), .val (.int j5_s0), .val (.int j8_s0), .val (.int j11_s0), .val .null, .unset, .unset, .unset, .unset, .unset, .unset] [])) ?_ fun t_ k_ => XS.astore X12.here hx rfl (hb hby at_65) rfl rfl (l' := #[.val (.int x0), .val (.int x1), .val (.int x2), .val (.int x3), .val (.int j2_s0), .val (.int j5_s0), .val (.int j8_s0), .val (.int j11_s0), .val .null, .unset, .unset, .unset, .unset, .unset, .unset]) rfl k_
            obtain ⟨T42, h42, X42, e42, E42, A42, D42, -, st42⟩ := newO X12 hx hZ hown (hw _ (List.mem_of_getElem? (i := 8) rfl)) (hw _ (List.mem_of_getElem? (i := 9) rfl)) (hw _ (List.mem_of_getElem? (i := 10) rfl)) e12 (g := (mkF m 67 #[.val (.int x0), .val (.int x1), .val (.int x2), .val (.int x3), .val (.int j2_s0), .val (.int j5_s0), .val (.int j8_s0), .val (.int j11_s0), .val .null, .unset, .unset, .unset, .unset, .unset, .unset] [])) rfl (hb hby at_67) (by decide) (by decide)
            obtain ⟨b42, g42⟩ : ∃ z, z = h0.size := ⟨_, rfl⟩
            rw [← g42] at A42 D42 st42
            have Z42 : n0 ≤ h42.size := Nat.le_trans Z0 E42.1
            have gz42 : n0 ≤ b42 := Nat.le_trans Z0 (Nat.le_of_eq g42.symm)
            have F42_modCount : Fld Z h42 b42 "java/util/AbstractList" "modCount" "I" (.int (0 : Int32)) := D42 (Or.inl (hw _ (List.mem_of_getElem? (i := 30) rfl))) (ty := .int) (by decide)
            have F42_elementData : Fld Z h42 b42 "java/util/ArrayList" "elementData" "[Ljava/lang/Object;" .null := D42 (Or.inl (hw _ (List.mem_of_getElem? (i := 33) rfl))) (ty := (.array (.object "java/lang/Object"))) (by decide)
            refine own_preW (B := T42.setTop (mkF m 70 #[.val (.int x0), .val (.int x1), .val (.int x2), .val (.int x3), .val (.int j2_s0), .val (.int j5_s0), .val (.int j8_s0), .val (.int j11_s0), .val .null, .unset, .unset, .unset, .unset, .unset, .unset] [(.ref b42)])) ?_ st42
            refine own_preW (B := T42.setTop (mkF m 71 #[.val (.int x0), .val (.int x1), .val (.int x2), .val (.int x3), .val (.int j2_s0), .val (.int j5_s0), .val (.int j8_s0), .val (.int j11_s0), .val .null, .unset, .unset, .unset, .unset, .unset, .unset] [(.ref b42), (.ref b42)])) ?_ fun t_ k_ => XS.dup X42.here hx rfl (hb hby at_70) rfl rfl k_
            have f44 := (S_dc.ext E42)
            obtain ⟨_, _, ⟨T43, L43, k43, n43⟩, -, X43, ⟨Lc43, hQ43, l43, y43, z43⟩, st43⟩ := X42.specialBack hx (y := (⟨"java/util/ArrayList", "<init>", "()V"⟩ : MethodName)) rfl hown (mvT hZ (hw _ (List.mem_of_getElem? (i := 11) rfl))) (mvT hZ (hw _ (List.mem_of_getElem? (i := 12) rfl))) (mvT hZ (hw _ (List.mem_of_getElem? (i := 13) rfl))) (by decide) (backOf (W := 1) (rm1 l Z a0 hw [] b42 dc h42 n0 Z42 A42 F42_modCount F42_elementData f44 gz42) hZ (hw _ (List.mem_of_getElem? (i := 13) rfl)) (hw _ (List.mem_of_getElem? (i := 10) rfl)) (by decide) (by decide)) (g := (mkF m 71 #[.val (.int x0), .val (.int x1), .val (.int x2), .val (.int x3), .val (.int j2_s0), .val (.int j5_s0), .val (.int j8_s0), .val (.int j11_s0), .val .null, .unset, .unset, .unset, .unset, .unset, .unset] [(.ref b42), (.ref b42)])) rfl (by rw [hml]; rfl) (Steps.refl _) (a := b42) (argsL := []) (rest := [(.ref b42)]) (lenOf pd___V rfl) rfl (by show 2 * 0 + _ ≤ _; exact Nat.le_of_eq rfl) (hb hby at_71) (fun _ _ => ⟨rfl, e42, (by decide : 1 + 0 ≤ _), (by decide : 3 + 0 ≤ _)⟩)
            dsimp only [Pt.U, Pt.locs, Pt.cells, Pt.slots] at X43 l43 y43 z43 st43 hQ43
            subst l43 y43 z43
            obtain ⟨rfl, Nq43, K43, E43⟩ := hQ43
            have N43 := Fr.app N12 Nq43
            have Z43 := Nat.le_trans Z42 K43.1
            refine own_preW (B := T43.setTop (mkF m 74 #[.val (.int x0), .val (.int x1), .val (.int x2), .val (.int x3), .val (.int j2_s0), .val (.int j5_s0), .val (.int j8_s0), .val (.int j11_s0), .val .null, .unset, .unset, .unset, .unset, .unset, .unset] [(.ref b42)])) ?_ (fun t_ k_ => st43.trans k_)
            refine own_preW (B := T43.setTop (mkF m 76 #[.val (.int x0), .val (.int x1), .val (.int x2), .val (.int x3), .val (.int j2_s0), .val (.int j5_s0), .val (.int j8_s0), .val (.int j11_s0), .val .null, .val (.ref b42), .unset, .unset, .unset, .unset, .unset] [])) ?_ fun t_ k_ => XS.astore X43.here hx rfl (hb hby at_74) rfl rfl (l' := #[.val (.int x0), .val (.int x1), .val (.int x2), .val (.int x3), .val (.int j2_s0), .val (.int j5_s0), .val (.int j8_s0), .val (.int j11_s0), .val .null, .val (.ref b42), .unset, .unset, .unset, .unset, .unset]) rfl k_
            obtain ⟨T45, h45, X45, e45, E45, A45, D45, -, st45⟩ := newO X43 hx hZ hown (hw _ (List.mem_of_getElem? (i := 34) rfl)) (hw _ (List.mem_of_getElem? (i := 35) rfl)) (hw _ (List.mem_of_getElem? (i := 36) rfl)) rfl (g := (mkF m 76 #[.val (.int x0), .val (.int x1), .val (.int x2), .val (.int x3), .val (.int j2_s0), .val (.int j5_s0), .val (.int j8_s0), .val (.int j11_s0), .val .null, .val (.ref b42), .unset, .unset, .unset, .unset, .unset] [])) rfl (hb hby at_76) (by decide) (by decide)
            obtain ⟨b45, g45⟩ : ∃ z, z = T43.heap.size := ⟨_, rfl⟩
            rw [← g45] at A45 D45 st45
            have ne46 : b42 ≠ b45 := Nat.ne_of_lt (Nat.lt_of_lt_of_le E43.lt (Nat.le_of_eq g45.symm))
            have Z45 : n0 ≤ h45.size := Nat.le_trans Z43 E45.1
            have gz45 : n0 ≤ b45 := Nat.le_trans Z43 (Nat.le_of_eq g45.symm)
            have F45_type : Fld Z h45 b45 "com/example/pipecaret/pipecaret/grammar/Constituent" "type" "Ljava/lang/String;" .null := D45 (Or.inr (hw _ (List.mem_of_getElem? (i := 48) rfl))) (ty := (.object "java/lang/String")) (by decide)
            have F45_description : Fld Z h45 b45 "com/example/pipecaret/pipecaret/grammar/Constituent" "description" "Ljava/lang/String;" .null := D45 (Or.inr (hw _ (List.mem_of_getElem? (i := 50) rfl))) (ty := (.object "java/lang/String")) (by decide)
            have F45_length : Fld Z h45 b45 "com/example/pipecaret/pipecaret/grammar/Constituent" "length" "Ljava/lang/Integer;" .null := D45 (Or.inr (hw _ (List.mem_of_getElem? (i := 52) rfl))) (ty := (.object "java/lang/Integer")) (by decide)
            have F45_required : Fld Z h45 b45 "com/example/pipecaret/pipecaret/grammar/Constituent" "required" "Z" (.int (0 : Int32)) := D45 (Or.inr (hw _ (List.mem_of_getElem? (i := 54) rfl))) (ty := .boolean) (by decide)
            have F45_repeatability : Fld Z h45 b45 "com/example/pipecaret/pipecaret/grammar/Constituent" "repeatability" "I" (.int (0 : Int32)) := D45 (Or.inr (hw _ (List.mem_of_getElem? (i := 56) rfl))) (ty := .int) (by decide)
            have F45_table : Fld Z h45 b45 "com/example/pipecaret/pipecaret/grammar/Constituent" "table" "Ljava/lang/String;" .null := D45 (Or.inr (hw _ (List.mem_of_getElem? (i := 58) rfl))) (ty := (.object "java/lang/String")) (by decide)
            have F45_constituents : Fld Z h45 b45 "com/example/pipecaret/pipecaret/grammar/Constituent" "constituents" "Ljava/util/List;" .null := D45 (Or.inr (hw _ (List.mem_of_getElem? (i := 60) rfl))) (ty := (.object "java/util/List")) (by decide)
            refine own_preW (B := T45.setTop (mkF m 79 #[.val (.int x0), .val (.int x1), .val (.int x2), .val (.int x3), .val (.int j2_s0), .val (.int j5_s0), .val (.int j8_s0), .val (.int j11_s0), .val .null, .val (.ref b42), .unset, .unset, .unset, .unset, .unset] [(.ref b45)])) ?_ st45
            refine own_preW (B := T45.setTop (mkF m 80 #[.val (.int x0), .val (.int x1), .val (.int x2), .val (.int x3), .val (.int j2_s0), .val (.int j5_s0), .val (.int j8_s0), .val (.int j11_s0), .val .null, .val (.ref b42), .unset, .unset, .unset, .unset, .unset] [(.ref b45), (.ref b45)])) ?_ fun t_ k_ => XS.dup X45.here hx rfl (hb hby at_79) rfl rfl k_
            refine own_preW (B := T45.setTop (mkF m 82 #[.val (.int x0), .val (.int x1), .val (.int x2), .val (.int x3), .val (.int j2_s0), .val (.int j5_s0), .val (.int j8_s0), .val (.int j11_s0), .val .null, .val (.ref b42), .unset, .unset, .unset, .unset, .unset] [.null, (.ref b45), (.ref b45)])) ?_ fun t_ k_ => XS.aload X45.here hx rfl (hb hby at_80) rfl rfl k_
            obtain ⟨a47, T47, h47, kk47, X47, e47, E47, hS47, kz47, hZ, hown, st47⟩ := ldcS (s := s) (vm0 := s.vm) X45 hx hZ hown (hw _ (List.mem_of_getElem? (i := 37) rfl)) wS e45 (k0 := h0.size) hS0 (Nat.le_trans (Nat.le_trans (Nat.le_trans (Nat.le_refl _) E42.1) K43.1) E45.1) (g := (mkF m 82 #[.val (.int x0), .val (.int x1), .val (.int x2), .val (.int x3), .val (.int j2_s0), .val (.int j5_s0), .val (.int j8_s0), .val (.int j11_s0), .val .null, .val (.ref b42), .unset, .unset, .unset, .unset, .unset] [.null, (.ref b45), (.ref b45)])) rfl (hb hby at_82) (n := 0) (by decide) (by decide) (by decide) (by decide)
            have Z47 : n0 ≤ h47.size := Nat.le_trans Z45 E47.1
            refine own_preW (B := T47.setTop (mkF m 84 #[.val (.int x0), .val (.int x1), .val (.int x2), .val (.int x3), .val (.int j2_s0), .val (.int j5_s0), .val (.int j8_s0), .val (.int j11_s0), .val .null, .val (.ref b42), .unset, .unset, .unset, .unset, .unset] [(.ref a47), .null, (.ref b45), (.ref b45)])) ?_ st47
            refine own_preW (B := T47.setTop (mkF m 85 #[.val (.int x0), .val (.int x1), .val (.int x2), .val (.int x3), .val (.int j2_s0), .val (.int j5_s0), .val (.int j8_s0), .val (.int j11_s0), .val .null, .val (.ref b42), .unset, .unset, .unset, .unset, .unset] [.null, (.ref a47), .null, (.ref b45), (.ref b45)])) ?_ fun t_ k_ => XS.aconstNull X47.here hx rfl (hb hby at_84) k_
            refine own_preW (B := T47.setTop (mkF m 87 #[.val (.int x0), .val (.int x1), .val (.int x2), .val (.int x3), .val (.int j2_s0), .val (.int j5_s0), .val (.int j8_s0), .val (.int j11_s0), .val .null, .val (.ref b42), .unset, .unset, .unset, .unset, .unset] [(.int j5_s0), .null, (.ref a47), .null, (.ref b45), (.ref b45)])) ?_ fun t_ k_ => XS.iload X47.here hx rfl (hb hby at_85) rfl  k_
            refine own_preW (B := T47.setTop (mkF m 89 #[.val (.int x0), .val (.int x1), .val (.int x2), .val (.int x3), .val (.int j2_s0), .val (.int j5_s0), .val (.int j8_s0), .val (.int j11_s0), .val .null, .val (.ref b42), .unset, .unset, .unset, .unset, .unset] [(.int j11_s0), (.int j5_s0), .null, (.ref a47), .null, (.ref b45), (.ref b45)])) ?_ fun t_ k_ => XS.iload X47.here hx rfl (hb hby at_87) rfl  k_
            refine own_preW (B := T47.setTop (mkF m 90 #[.val (.int x0), .val (.int x1), .val (.int x2), .val (.int x3), .val (.int j2_s0), .val (.int j5_s0), .val (.int j8_s0), .val (.int j11_s0), .val .null, .val (.ref b42), .unset, .unset, .unset, .unset, .unset] [.null, (.int j11_s0), (.int j5_s0), .null, (.ref a47), .null, (.ref b45), (.ref b45)])) ?_ fun t_ k_ => XS.aconstNull X47.here hx rfl (hb hby at_89) k_
            refine own_preW (B := T47.setTop (mkF m 92 #[.val (.int x0), .val (.int x1), .val (.int x2), .val (.int x3), .val (.int j2_s0), .val (.int j5_s0), .val (.int j8_s0), .val (.int j11_s0), .val .null, .val (.ref b42), .unset, .unset, .unset, .unset, .unset] [(.ref b42), .null, (.int j11_s0), (.int j5_s0), .null, (.ref a47), .null, (.ref b45), (.ref b45)])) ?_ fun t_ k_ => XS.aload X47.here hx rfl (hb hby at_90) rfl rfl k_
            have f49 := (A45.ext E47)
            have f50 := (F45_type.ext E47)
            have f51 := (F45_description.ext E47)
            have f52 := (F45_length.ext E47)
            have f53 := (F45_required.ext E47)
            have f54 := (F45_repeatability.ext E47)
            have f55 := (F45_table.ext E47)
            have f56 := (F45_constituents.ext E47)
            obtain ⟨_, _, ⟨T48, L48, k48, n48⟩, -, X48, ⟨Lc48, hQ48, l48, y48, z48⟩, st48⟩ := X47.specialBack hx (y := (⟨"com/example/pipecaret/pipecaret/grammar/Constituent", "<init>", "(Ljava/lang/String;Ljava/lang/String;Ljava/lang/Integer;ZILjava/lang/String;Ljava/util/List;)V"⟩ : MethodName)) rfl hown (mvT hZ (hw _ (List.mem_of_getElem? (i := 38) rfl))) (mvT hZ (hw _ (List.mem_of_getElem? (i := 39) rfl))) (mvT hZ (hw _ (List.mem_of_getElem? (i := 40) rfl))) (by decide) (backOf (W := 1) (rm5 l Z a0 hw [] b45 (Value.null) a47 j5_s0 j11_s0 b42 h47 n0 Z47 rfl (own_01 hvj5_s0) f49 f50 f51 f52 f53 f54 f55 f56 gz45) hZ (hw _ (List.mem_of_getElem? (i := 40) rfl)) (hw _ (List.mem_of_getElem? (i := 36) rfl)) (by decide) (by decide)) (g := (mkF m 92 #[.val (.int x0), .val (.int x1), .val (.int x2), .val (.int x3), .val (.int j2_s0), .val (.int j5_s0), .val (.int j8_s0), .val (.int j11_s0), .val .null, .val (.ref b42), .unset, .unset, .unset, .unset, .unset] [(.ref b42), .null, (.int j11_s0), (.int j5_s0), .null, (.ref a47), .null, (.ref b45), (.ref b45)])) rfl (by rw [hml]; rfl) (Steps.refl _) (a := b45) (argsL := [.null, (.ref a47), .null, (.int j5_s0), (.int j11_s0), .null, (.ref b42)]) (rest := [(.ref b45)]) (lenOf pd__Ljava_lang_String_Ljava_lang_String_Ljava_lang_Integer_ZILjava_lang_String_Ljava_util_List__V rfl) rfl (by show 2 * 0 + _ ≤ _; exact Nat.le_of_eq rfl) (hb hby at_92) (fun _ _ => ⟨rfl, e47, (by decide : 4 + 0 ≤ _), (by decide : 14 + 0 ≤ _)⟩)
            dsimp only [Pt.U, Pt.locs, Pt.cells, Pt.slots] at X48 l48 y48 z48 st48 hQ48
            subst l48 y48 z48
            obtain ⟨rfl, Nq48, K48, E48, Fr48⟩ := hQ48
            have N48 := Fr.app N43 Nq48
            have Z48 := Nat.le_trans Z47 K48.1
            refine own_preW (B := T48.setTop (mkF m 95 #[.val (.int x0), .val (.int x1), .val (.int x2), .val (.int x3), .val (.int j2_s0), .val (.int j5_s0), .val (.int j8_s0), .val (.int j11_s0), .val .null, .val (.ref b42), .unset, .unset, .unset, .unset, .unset] [(.ref b45)])) ?_ (fun t_ k_ => st48.trans k_)
            refine own_preW (B := T48.setTop (mkF m 97 #[.val (.int x0), .val (.int x1), .val (.int x2), .val (.int x3), .val (.int j2_s0), .val (.int j5_s0), .val (.int j8_s0), .val (.int j11_s0), .val .null, .val (.ref b42), .val (.ref b45), .unset, .unset, .unset, .unset] [])) ?_ fun t_ k_ => XS.astore X48.here hx rfl (hb hby at_95) rfl rfl (l' := #[.val (.int x0), .val (.int x1), .val (.int x2), .val (.int x3), .val (.int j2_s0), .val (.int j5_s0), .val (.int j8_s0), .val (.int j11_s0), .val .null, .val (.ref b42), .val (.ref b45), .unset, .unset, .unset, .unset]) rfl k_
            refine own_preW (B := T48.setTop (mkF m 98 #[.val (.int x0), .val (.int x1), .val (.int x2), .val (.int x3), .val (.int j2_s0), .val (.int j5_s0), .val (.int j8_s0), .val (.int j11_s0), .val .null, .val (.ref b42), .val (.ref b45), .unset, .unset, .unset, .unset] [(.int x2)])) ?_ fun t_ k_ => XS.iloadN X48.here hx rfl (hb hby at_97) rfl  k_
            refine own_preW (B := T48.setTop (mkF m 99 #[.val (.int x0), .val (.int x1), .val (.int x2), .val (.int x3), .val (.int j2_s0), .val (.int j5_s0), .val (.int j8_s0), .val (.int j11_s0), .val .null, .val (.ref b42), .val (.ref b45), .unset, .unset, .unset, .unset] [(.int x3), (.int x2)])) ?_ fun t_ k_ => XS.iloadN X48.here hx rfl (hb hby at_98) rfl  k_
            obtain ⟨_, _, ⟨T57, L57, k57, n57⟩, -, X57, ⟨Lc57, hQ57, l57, y57, z57⟩, st57⟩ := Jvm.LawKit.callS X48 hx (y := (⟨"java/lang/Math", "min", "(II)I"⟩ : MethodName)) hown (mvT hZ (hw _ (List.mem_of_getElem? (i := 61) rfl))) (mvT hZ (hw _ (List.mem_of_getElem? (i := 62) rfl))) (mvT hZ (hw _ (List.mem_of_getElem? (i := 63) rfl))) (mvT hZ (hw _ (List.mem_of_getElem? (i := 64) rfl))) (by decide) (backOf (W := 0) (rm7 l Z a0 hw [] x2 x3 T48.heap n0 Z48 ) hZ (hw _ (List.mem_of_getElem? (i := 64) rfl)) (hw _ (List.mem_of_getElem? (i := 63) rfl)) (by decide) (by decide)) (g := (mkF m 99 #[.val (.int x0), .val (.int x1), .val (.int x2), .val (.int x3), .val (.int j2_s0), .val (.int j5_s0), .val (.int j8_s0), .val (.int j11_s0), .val .null, .val (.ref b42), .val (.ref b45), .unset, .unset, .unset, .unset] [(.int x3), (.int x2)])) rfl (by rw [hml]; rfl) (argsL := [(.int x2), (.int x3)]) (rest := []) (lenOf pd__II_I rfl) rfl (by show 2 * 0 + _ ≤ _; exact Nat.le_of_eq rfl) (hb hby at_99) (fun _ _ => ⟨rfl, rfl, (by decide : 4 + 0 ≤ _), (by decide : 14 + 0 ≤ _)⟩)
            dsimp only [Pt.U, Pt.locs, Pt.cells, Pt.slots] at X57 l57 y57 z57 st57 hQ57
            subst l57 y57 z57
            obtain ⟨rfl, Nq57, e57⟩ := hQ57
            have N57 := Fr.app N48 Nq57
            refine own_preW (B := T57.setTop (mkF m 102 #[.val (.int x0), .val (.int x1), .val (.int x2), .val (.int x3), .val (.int j2_s0), .val (.int j5_s0), .val (.int j8_s0), .val (.int j11_s0), .val .null, .val (.ref b42), .val (.ref b45), .unset, .unset, .unset, .unset] [(.int (own_min x2 x3))])) ?_ st57
            refine own_preW (B := T57.setTop (mkF m 104 #[.val (.int x0), .val (.int x1), .val (.int x2), .val (.int x3), .val (.int j2_s0), .val (.int j5_s0), .val (.int j8_s0), .val (.int j11_s0), .val .null, .val (.ref b42), .val (.ref b45), .val (.int (own_min x2 x3)), .unset, .unset, .unset] [])) ?_ fun t_ k_ => XS.istore X57.here hx rfl (hb hby at_102) rfl  (l' := #[.val (.int x0), .val (.int x1), .val (.int x2), .val (.int x3), .val (.int j2_s0), .val (.int j5_s0), .val (.int j8_s0), .val (.int j11_s0), .val .null, .val (.ref b42), .val (.ref b45), .val (.int (own_min x2 x3)), .unset, .unset, .unset]) rfl k_
            refine own_preW (B := T57.setTop (mkF m 105 #[.val (.int x0), .val (.int x1), .val (.int x2), .val (.int x3), .val (.int j2_s0), .val (.int j5_s0), .val (.int j8_s0), .val (.int j11_s0), .val .null, .val (.ref b42), .val (.ref b45), .val (.int (own_min x2 x3)), .unset, .unset, .unset] [(.int x2)])) ?_ fun t_ k_ => XS.iloadN X57.here hx rfl (hb hby at_104) rfl  k_
            refine own_preW (B := T57.setTop (mkF m 106 #[.val (.int x0), .val (.int x1), .val (.int x2), .val (.int x3), .val (.int j2_s0), .val (.int j5_s0), .val (.int j8_s0), .val (.int j11_s0), .val .null, .val (.ref b42), .val (.ref b45), .val (.int (own_min x2 x3)), .unset, .unset, .unset] [(.int x3), (.int x2)])) ?_ fun t_ k_ => XS.iloadN X57.here hx rfl (hb hby at_105) rfl  k_
            obtain ⟨_, _, ⟨T58, L58, k58, n58⟩, -, X58, ⟨Lc58, hQ58, l58, y58, z58⟩, st58⟩ := Jvm.LawKit.callS X57 hx (y := (⟨"java/lang/Math", "max", "(II)I"⟩ : MethodName)) hown (mvT hZ (hw _ (List.mem_of_getElem? (i := 65) rfl))) (mvT hZ (hw _ (List.mem_of_getElem? (i := 66) rfl))) (mvT hZ (hw _ (List.mem_of_getElem? (i := 63) rfl))) (mvT hZ (hw _ (List.mem_of_getElem? (i := 67) rfl))) (by decide) (backOf (W := 0) (rm8 l Z a0 hw [] x2 x3 T48.heap n0 Z48 ) hZ (hw _ (List.mem_of_getElem? (i := 67) rfl)) (hw _ (List.mem_of_getElem? (i := 63) rfl)) (by decide) (by decide)) (g := (mkF m 106 #[.val (.int x0), .val (.int x1), .val (.int x2), .val (.int x3), .val (.int j2_s0), .val (.int j5_s0), .val (.int j8_s0), .val (.int j11_s0), .val .null, .val (.ref b42), .val (.ref b45), .val (.int (own_min x2 x3)), .unset, .unset, .unset] [(.int x3), (.int x2)])) rfl (by rw [hml]; rfl) (argsL := [(.int x2), (.int x3)]) (rest := []) (lenOf pd__II_I rfl) rfl (by show 2 * 0 + _ ≤ _; exact Nat.le_of_eq rfl) (hb hby at_106) (fun _ _ => ⟨rfl, e57, (by decide : 4 + 0 ≤ _), (by decide : 14 + 0 ≤ _)⟩)
            dsimp only [Pt.U, Pt.locs, Pt.cells, Pt.slots] at X58 l58 y58 z58 st58 hQ58
            subst l58 y58 z58
            obtain ⟨rfl, Nq58, e58⟩ := hQ58
            have N58 := Fr.app N57 Nq58
            refine own_preW (B := T58.setTop (mkF m 109 #[.val (.int x0), .val (.int x1), .val (.int x2), .val (.int x3), .val (.int j2_s0), .val (.int j5_s0), .val (.int j8_s0), .val (.int j11_s0), .val .null, .val (.ref b42), .val (.ref b45), .val (.int (own_min x2 x3)), .unset, .unset, .unset] [(.int (own_max x2 x3))])) ?_ st58
            refine own_preW (B := T58.setTop (mkF m 111 #[.val (.int x0), .val (.int x1), .val (.int x2), .val (.int x3), .val (.int j2_s0), .val (.int j5_s0), .val (.int j8_s0), .val (.int j11_s0), .val .null, .val (.ref b42), .val (.ref b45), .val (.int (own_min x2 x3)), .val (.int (own_max x2 x3)), .unset, .unset] [])) ?_ fun t_ k_ => XS.istore X58.here hx rfl (hb hby at_109) rfl  (l' := #[.val (.int x0), .val (.int x1), .val (.int x2), .val (.int x3), .val (.int j2_s0), .val (.int j5_s0), .val (.int j8_s0), .val (.int j11_s0), .val .null, .val (.ref b42), .val (.ref b45), .val (.int (own_min x2 x3)), .val (.int (own_max x2 x3)), .unset, .unset]) rfl k_
            refine own_preW (B := T58.setTop (mkF m 113 #[.val (.int x0), .val (.int x1), .val (.int x2), .val (.int x3), .val (.int j2_s0), .val (.int j5_s0), .val (.int j8_s0), .val (.int j11_s0), .val .null, .val (.ref b42), .val (.ref b45), .val (.int (own_min x2 x3)), .val (.int (own_max x2 x3)), .unset, .unset] [(.ref b45)])) ?_ fun t_ k_ => XS.aload X58.here hx rfl (hb hby at_111) rfl rfl k_
            refine own_preW (B := T58.setTop (mkF m 115 #[.val (.int x0), .val (.int x1), .val (.int x2), .val (.int x3), .val (.int j2_s0), .val (.int j5_s0), .val (.int j8_s0), .val (.int j11_s0), .val .null, .val (.ref b42), .val (.ref b45), .val (.int (own_min x2 x3)), .val (.int (own_max x2 x3)), .unset, .unset] [(.int (own_min x2 x3)), (.ref b45)])) ?_ fun t_ k_ => XS.iload X58.here hx rfl (hb hby at_113) rfl  k_
            obtain ⟨cq59, kq59, q59a, q59b, q59c⟩ := isOf hZ e58 E48
            obtain ⟨_, _, ⟨T59, L59, k59, n59⟩, -, X59, ⟨Lc59, hQ59, l59, y59, z59⟩, st59⟩ := X58.virtualBack hx (y := (⟨"com/example/pipecaret/pipecaret/grammar/Constituent", "allows", "(I)Z"⟩ : MethodName)) (z := (⟨"com/example/pipecaret/pipecaret/grammar/Constituent", "allows", "(I)Z"⟩ : MethodName)) hown (mvT hZ (hw _ (List.mem_of_getElem? (i := 68) rfl))) (mvT hZ (hw _ (List.mem_of_getElem? (i := 69) rfl))) (notFace_of_selects (args := #[]) (mvT hZ (hw _ (List.mem_of_getElem? (i := 71) rfl)))) (mvT hZ (hw _ (List.mem_of_getElem? (i := 71) rfl))) (mvT hZ (hw _ (List.mem_of_getElem? (i := 70) rfl))) (by decide) (backOf (W := 0) (rm9 l Z a0 hw [] b45 (own_min x2 x3) j11_s0 T48.heap n0 Z48 Fr48) hZ (hw _ (List.mem_of_getElem? (i := 72) rfl)) (hw _ (List.mem_of_getElem? (i := 36) rfl)) (by decide) (by decide)) q59a q59c (g := (mkF m 115 #[.val (.int x0), .val (.int x1), .val (.int x2), .val (.int x3), .val (.int j2_s0), .val (.int j5_s0), .val (.int j8_s0), .val (.int j11_s0), .val .null, .val (.ref b42), .val (.ref b45), .val (.int (own_min x2 x3)), .val (.int (own_max x2 x3)), .unset, .unset] [(.int (own_min x2 x3)), (.ref b45)])) rfl (by rw [hml]; rfl) (Steps.refl _) (argsL := [(.int (own_min x2 x3))]) (rest := []) (lenOf pd__I_Z rfl) rfl (by show 2 * 0 + _ ≤ _; exact Nat.le_of_eq rfl) (hb hby at_115) (fun _ _ => ⟨rfl, e58, (by decide : 4 + 0 ≤ _), (by decide : 14 + 0 ≤ _)⟩)
            dsimp only [Pt.U, Pt.locs, Pt.cells, Pt.slots] at X59 l59 y59 z59 st59 hQ59
            subst l59 y59 z59
            obtain ⟨rfl, Nq59, e59⟩ := hQ59
            have N59 := Fr.app N58 Nq59
            refine own_preW (B := T59.setTop (mkF m 118 #[.val (.int x0), .val (.int x1), .val (.int x2), .val (.int x3), .val (.int j2_s0), .val (.int j5_s0), .val (.int j8_s0), .val (.int j11_s0), .val .null, .val (.ref b42), .val (.ref b45), .val (.int (own_min x2 x3)), .val (.int (own_max x2 x3)), .unset, .unset] [(.int (own_al j11_s0 (own_min x2 x3)))])) ?_ (fun t_ k_ => st59.trans k_)
            refine own_preW (B := T59.setTop (mkF m 120 #[.val (.int x0), .val (.int x1), .val (.int x2), .val (.int x3), .val (.int j2_s0), .val (.int j5_s0), .val (.int j8_s0), .val (.int j11_s0), .val .null, .val (.ref b42), .val (.ref b45), .val (.int (own_min x2 x3)), .val (.int (own_max x2 x3)), .val (.int (own_al j11_s0 (own_min x2 x3))), .unset] [])) ?_ fun t_ k_ => XS.istore X59.here hx rfl (hb hby at_118) rfl  (l' := #[.val (.int x0), .val (.int x1), .val (.int x2), .val (.int x3), .val (.int j2_s0), .val (.int j5_s0), .val (.int j8_s0), .val (.int j11_s0), .val .null, .val (.ref b42), .val (.ref b45), .val (.int (own_min x2 x3)), .val (.int (own_max x2 x3)), .val (.int (own_al j11_s0 (own_min x2 x3))), .unset]) rfl k_
            refine own_preW (B := T59.setTop (mkF m 122 #[.val (.int x0), .val (.int x1), .val (.int x2), .val (.int x3), .val (.int j2_s0), .val (.int j5_s0), .val (.int j8_s0), .val (.int j11_s0), .val .null, .val (.ref b42), .val (.ref b45), .val (.int (own_min x2 x3)), .val (.int (own_max x2 x3)), .val (.int (own_al j11_s0 (own_min x2 x3))), .unset] [(.ref b45)])) ?_ fun t_ k_ => XS.aload X59.here hx rfl (hb hby at_120) rfl rfl k_
            refine own_preW (B := T59.setTop (mkF m 124 #[.val (.int x0), .val (.int x1), .val (.int x2), .val (.int x3), .val (.int j2_s0), .val (.int j5_s0), .val (.int j8_s0), .val (.int j11_s0), .val .null, .val (.ref b42), .val (.ref b45), .val (.int (own_min x2 x3)), .val (.int (own_max x2 x3)), .val (.int (own_al j11_s0 (own_min x2 x3))), .unset] [(.int (own_max x2 x3)), (.ref b45)])) ?_ fun t_ k_ => XS.iload X59.here hx rfl (hb hby at_122) rfl  k_
            obtain ⟨cq60, kq60, q60a, q60b, q60c⟩ := isOf hZ e59 E48
            obtain ⟨_, _, ⟨T60, L60, k60, n60⟩, -, X60, ⟨Lc60, hQ60, l60, y60, z60⟩, st60⟩ := X59.virtualBack hx (y := (⟨"com/example/pipecaret/pipecaret/grammar/Constituent", "allows", "(I)Z"⟩ : MethodName)) (z := (⟨"com/example/pipecaret/pipecaret/grammar/Constituent", "allows", "(I)Z"⟩ : MethodName)) hown (mvT hZ (hw _ (List.mem_of_getElem? (i := 68) rfl))) (mvT hZ (hw _ (List.mem_of_getElem? (i := 69) rfl))) (notFace_of_selects (args := #[]) (mvT hZ (hw _ (List.mem_of_getElem? (i := 71) rfl)))) (mvT hZ (hw _ (List.mem_of_getElem? (i := 71) rfl))) (mvT hZ (hw _ (List.mem_of_getElem? (i := 70) rfl))) (by decide) (backOf (W := 0) (rm9 l Z a0 hw [] b45 (own_max x2 x3) j11_s0 T48.heap n0 Z48 Fr48) hZ (hw _ (List.mem_of_getElem? (i := 72) rfl)) (hw _ (List.mem_of_getElem? (i := 36) rfl)) (by decide) (by decide)) q60a q60c (g := (mkF m 124 #[.val (.int x0), .val (.int x1), .val (.int x2), .val (.int x3), .val (.int j2_s0), .val (.int j5_s0), .val (.int j8_s0), .val (.int j11_s0), .val .null, .val (.ref b42), .val (.ref b45), .val (.int (own_min x2 x3)), .val (.int (own_max x2 x3)), .val (.int (own_al j11_s0 (own_min x2 x3))), .unset] [(.int (own_max x2 x3)), (.ref b45)])) rfl (by rw [hml]; rfl) (Steps.refl _) (argsL := [(.int (own_max x2 x3))]) (rest := []) (lenOf pd__I_Z rfl) rfl (by show 2 * 0 + _ ≤ _; exact Nat.le_of_eq rfl) (hb hby at_124) (fun _ _ => ⟨rfl, e59, (by decide : 4 + 0 ≤ _), (by decide : 14 + 0 ≤ _)⟩)
            dsimp only [Pt.U, Pt.locs, Pt.cells, Pt.slots] at X60 l60 y60 z60 st60 hQ60
            subst l60 y60 z60
            obtain ⟨rfl, Nq60, e60⟩ := hQ60
            have N60 := Fr.app N59 Nq60
            refine own_preW (B := T60.setTop (mkF m 127 #[.val (.int x0), .val (.int x1), .val (.int x2), .val (.int x3), .val (.int j2_s0), .val (.int j5_s0), .val (.int j8_s0), .val (.int j11_s0), .val .null, .val (.ref b42), .val (.ref b45), .val (.int (own_min x2 x3)), .val (.int (own_max x2 x3)), .val (.int (own_al j11_s0 (own_min x2 x3))), .unset] [(.int (own_al j11_s0 (own_max x2 x3)))])) ?_ (fun t_ k_ => st60.trans k_)
            refine own_preW (B := T60.setTop (mkF m 129 #[.val (.int x0), .val (.int x1), .val (.int x2), .val (.int x3), .val (.int j2_s0), .val (.int j5_s0), .val (.int j8_s0), .val (.int j11_s0), .val .null, .val (.ref b42), .val (.ref b45), .val (.int (own_min x2 x3)), .val (.int (own_max x2 x3)), .val (.int (own_al j11_s0 (own_min x2 x3))), .val (.int (own_al j11_s0 (own_max x2 x3)))] [])) ?_ fun t_ k_ => XS.istore X60.here hx rfl (hb hby at_127) rfl  (l' := #[.val (.int x0), .val (.int x1), .val (.int x2), .val (.int x3), .val (.int j2_s0), .val (.int j5_s0), .val (.int j8_s0), .val (.int j11_s0), .val .null, .val (.ref b42), .val (.ref b45), .val (.int (own_min x2 x3)), .val (.int (own_max x2 x3)), .val (.int (own_al j11_s0 (own_min x2 x3))), .val (.int (own_al j11_s0 (own_max x2 x3)))]) rfl k_
            refine own_preW (B := T60.setTop (mkF m 131 #[.val (.int x0), .val (.int x1), .val (.int x2), .val (.int x3), .val (.int j2_s0), .val (.int j5_s0), .val (.int j8_s0), .val (.int j11_s0), .val .null, .val (.ref b42), .val (.ref b45), .val (.int (own_min x2 x3)), .val (.int (own_max x2 x3)), .val (.int (own_al j11_s0 (own_min x2 x3))), .val (.int (own_al j11_s0 (own_max x2 x3)))] [(.int j2_s0)])) ?_ fun t_ k_ => XS.iload X60.here hx rfl (hb hby at_129) rfl  k_
            by_cases h131_61 : j2_s0 = (0 : Int32)
            · skip
              refine own_preW (B := T60.setTop (mkF m 150 #[.val (.int x0), .val (.int x1), .val (.int x2), .val (.int x3), .val (.int j2_s0), .val (.int j5_s0), .val (.int j8_s0), .val (.int j11_s0), .val .null, .val (.ref b42), .val (.ref b45), .val (.int (own_min x2 x3)), .val (.int (own_max x2 x3)), .val (.int (own_al j11_s0 (own_min x2 x3))), .val (.int (own_al j11_s0 (own_max x2 x3)))] [])) ?_ fun t_ k_ => XS.ifYes X60.here hx rfl (pc0 := 131) (pc' := 150) rfl (hb hby at_131) rfl ((if0 _ _).trans (teq h131_61).1) (by decide) (by decide) k_
              refine own_preW (B := T60.setTop (mkF m 152 #[.val (.int x0), .val (.int x1), .val (.int x2), .val (.int x3), .val (.int j2_s0), .val (.int j5_s0), .val (.int j8_s0), .val (.int j11_s0), .val .null, .val (.ref b42), .val (.ref b45), .val (.int (own_min x2 x3)), .val (.int (own_max x2 x3)), .val (.int (own_al j11_s0 (own_min x2 x3))), .val (.int (own_al j11_s0 (own_max x2 x3)))] [(.int (own_al j11_s0 (own_max x2 x3)))])) ?_ fun t_ k_ => XS.iload X60.here hx rfl (hb hby at_150) rfl  k_
              by_cases h152_62 : (own_al j11_s0 (own_max x2 x3)) = (0 : Int32)
              · skip
                refine own_preW (B := T60.setTop (mkF m 162 #[.val (.int x0), .val (.int x1), .val (.int x2), .val (.int x3), .val (.int j2_s0), .val (.int j5_s0), .val (.int j8_s0), .val (.int j11_s0), .val .null, .val (.ref b42), .val (.ref b45), .val (.int (own_min x2 x3)), .val (.int (own_max x2 x3)), .val (.int (own_al j11_s0 (own_min x2 x3))), .val (.int (own_al j11_s0 (own_max x2 x3)))] [])) ?_ fun t_ k_ => XS.ifYes X60.here hx rfl (pc0 := 152) (pc' := 162) rfl (hb hby at_152) rfl ((if0 _ _).trans (teq h152_62).1) (by decide) (by decide) k_
                refine own_preW (B := T60.setTop (mkF m 164 #[.val (.int x0), .val (.int x1), .val (.int x2), .val (.int x3), .val (.int j2_s0), .val (.int j5_s0), .val (.int j8_s0), .val (.int j11_s0), .val .null, .val (.ref b42), .val (.ref b45), .val (.int (own_min x2 x3)), .val (.int (own_max x2 x3)), .val (.int (own_al j11_s0 (own_min x2 x3))), .val (.int (own_al j11_s0 (own_max x2 x3)))] [(.ref b45)])) ?_ fun t_ k_ => XS.aload X60.here hx rfl (hb hby at_162) rfl rfl k_
                refine own_preW (B := T60.setTop (mkF m 166 #[.val (.int x0), .val (.int x1), .val (.int x2), .val (.int x3), .val (.int j2_s0), .val (.int j5_s0), .val (.int j8_s0), .val (.int j11_s0), .val .null, .val (.ref b42), .val (.ref b45), .val (.int (own_min x2 x3)), .val (.int (own_max x2 x3)), .val (.int (own_al j11_s0 (own_min x2 x3))), .val (.int (own_al j11_s0 (own_max x2 x3)))] [(.int j11_s0), (.ref b45)])) ?_ fun t_ k_ => XS.iload X60.here hx rfl (hb hby at_164) rfl  k_
                obtain ⟨cq63, kq63, q63a, q63b, q63c⟩ := isOf hZ e60 E48
                obtain ⟨_, _, ⟨T63, L63, k63, n63⟩, -, X63, ⟨Lc63, hQ63, l63, y63, z63⟩, st63⟩ := X60.virtualBack hx (y := (⟨"com/example/pipecaret/pipecaret/grammar/Constituent", "allows", "(I)Z"⟩ : MethodName)) (z := (⟨"com/example/pipecaret/pipecaret/grammar/Constituent", "allows", "(I)Z"⟩ : MethodName)) hown (mvT hZ (hw _ (List.mem_of_getElem? (i := 68) rfl))) (mvT hZ (hw _ (List.mem_of_getElem? (i := 69) rfl))) (notFace_of_selects (args := #[]) (mvT hZ (hw _ (List.mem_of_getElem? (i := 71) rfl)))) (mvT hZ (hw _ (List.mem_of_getElem? (i := 71) rfl))) (mvT hZ (hw _ (List.mem_of_getElem? (i := 70) rfl))) (by decide) (backOf (W := 0) (rm9 l Z a0 hw [] b45 j11_s0 j11_s0 T48.heap n0 Z48 Fr48) hZ (hw _ (List.mem_of_getElem? (i := 72) rfl)) (hw _ (List.mem_of_getElem? (i := 36) rfl)) (by decide) (by decide)) q63a q63c (g := (mkF m 166 #[.val (.int x0), .val (.int x1), .val (.int x2), .val (.int x3), .val (.int j2_s0), .val (.int j5_s0), .val (.int j8_s0), .val (.int j11_s0), .val .null, .val (.ref b42), .val (.ref b45), .val (.int (own_min x2 x3)), .val (.int (own_max x2 x3)), .val (.int (own_al j11_s0 (own_min x2 x3))), .val (.int (own_al j11_s0 (own_max x2 x3)))] [(.int j11_s0), (.ref b45)])) rfl (by rw [hml]; rfl) (Steps.refl _) (argsL := [(.int j11_s0)]) (rest := []) (lenOf pd__I_Z rfl) rfl (by show 2 * 0 + _ ≤ _; exact Nat.le_of_eq rfl) (hb hby at_166) (fun _ _ => ⟨rfl, e60, (by decide : 4 + 0 ≤ _), (by decide : 14 + 0 ≤ _)⟩)
                dsimp only [Pt.U, Pt.locs, Pt.cells, Pt.slots] at X63 l63 y63 z63 st63 hQ63
                subst l63 y63 z63
                obtain ⟨rfl, Nq63, e63⟩ := hQ63
                have N63 := Fr.app N60 Nq63
                refine own_preW (B := T63.setTop (mkF m 169 #[.val (.int x0), .val (.int x1), .val (.int x2), .val (.int x3), .val (.int j2_s0), .val (.int j5_s0), .val (.int j8_s0), .val (.int j11_s0), .val .null, .val (.ref b42), .val (.ref b45), .val (.int (own_min x2 x3)), .val (.int (own_max x2 x3)), .val (.int (own_al j11_s0 (own_min x2 x3))), .val (.int (own_al j11_s0 (own_max x2 x3)))] [(.int (own_al j11_s0 j11_s0))])) ?_ (fun t_ k_ => st63.trans k_)
                refine own_preW (B := T63.setTop (mkF m 174 #[.val (.int x0), .val (.int x1), .val (.int x2), .val (.int x3), .val (.int j2_s0), .val (.int j5_s0), .val (.int j8_s0), .val (.int j11_s0), .val .null, .val (.ref b42), .val (.ref b45), .val (.int (own_min x2 x3)), .val (.int (own_max x2 x3)), .val (.int (own_al j11_s0 (own_min x2 x3))), .val (.int (own_al j11_s0 (own_max x2 x3)))] [])) ?_ fun t_ k_ => XS.ifYes X63.here hx rfl (pc0 := 169) (pc' := 174) rfl (hb hby at_169) rfl ((if0 _ _).trans (feq (own_fin8 x0 x1 x2 x3 dc j2_s0 hvj2_s0 j5_s0 hvj5_s0 j8_s0 hvj8_s0 j11_s0 hvj11_s0 h56_13 h131_61 h152_62)).2) (by decide) (by decide) k_
                refine own_preW (B := T63.setTop (mkF m 176 #[.val (.int x0), .val (.int x1), .val (.int x2), .val (.int x3), .val (.int j2_s0), .val (.int j5_s0), .val (.int j8_s0), .val (.int j11_s0), .val .null, .val (.ref b42), .val (.ref b45), .val (.int (own_min x2 x3)), .val (.int (own_max x2 x3)), .val (.int (own_al j11_s0 (own_min x2 x3))), .val (.int (own_al j11_s0 (own_max x2 x3)))] [(.int j11_s0)])) ?_ fun t_ k_ => XS.iload X63.here hx rfl (hb hby at_174) rfl  k_
                refine own_preW (B := T63.setTop (mkF m 178 #[.val (.int x0), .val (.int x1), .val (.int x2), .val (.int x3), .val (.int j2_s0), .val (.int j5_s0), .val (.int j8_s0), .val (.int j11_s0), .val .null, .val (.ref b42), .val (.ref b45), .val (.int (own_min x2 x3)), .val (.int (own_max x2 x3)), .val (.int (own_al j11_s0 (own_min x2 x3))), .val (.int (own_al j11_s0 (own_max x2 x3)))] [(.int (2147483647 : Int32)), (.int j11_s0)])) ?_ (X63.ldcInt hx hown (mvT hZ (hw _ (List.mem_of_getElem? (i := 73) rfl))) (g := (mkF m 176 #[.val (.int x0), .val (.int x1), .val (.int x2), .val (.int x3), .val (.int j2_s0), .val (.int j5_s0), .val (.int j8_s0), .val (.int j11_s0), .val .null, .val (.ref b42), .val (.ref b45), .val (.int (own_min x2 x3)), .val (.int (own_max x2 x3)), .val (.int (own_al j11_s0 (own_min x2 x3))), .val (.int (own_al j11_s0 (own_max x2 x3)))] [(.int j11_s0)])) rfl (hb hby at_176))
                by_cases h178_64 : j11_s0 = (2147483647 : Int32)
                · skip
                  refine own_preW (B := T63.setTop (mkF m 195 #[.val (.int x0), .val (.int x1), .val (.int x2), .val (.int x3), .val (.int j2_s0), .val (.int j5_s0), .val (.int j8_s0), .val (.int j11_s0), .val .null, .val (.ref b42), .val (.ref b45), .val (.int (own_min x2 x3)), .val (.int (own_max x2 x3)), .val (.int (own_al j11_s0 (own_min x2 x3))), .val (.int (own_al j11_s0 (own_max x2 x3)))] [])) ?_ fun t_ k_ => XS.icmpYes X63.here hx rfl (pc0 := 178) (pc' := 195) rfl (hb hby at_178) rfl (teq h178_64).1 (by decide) (by decide) k_
                  refine own_preW (B := T63.setTop (mkF m 196 #[.val (.int x0), .val (.int x1), .val (.int x2), .val (.int x3), .val (.int j2_s0), .val (.int j5_s0), .val (.int j8_s0), .val (.int j11_s0), .val .null, .val (.ref b42), .val (.ref b45), .val (.int (own_min x2 x3)), .val (.int (own_max x2 x3)), .val (.int (own_al j11_s0 (own_min x2 x3))), .val (.int (own_al j11_s0 (own_max x2 x3)))] [(.int (1 : Int32))])) ?_ fun t_ k_ => XS.iconst X63.here hx rfl (hb hby at_195) k_
                  refine own_retNW X63 hx hlk hS47 (by rw [e63]; exact (Nat.le_trans kz47 K48.1)) (t := .boolean) (z' := (1 : Int32)) Bd.returns (by simp) (hb hby at_196) (by decide) ?_ (by decide) (by decide)
                  rw [e63]
                  exact ⟨rfl, N63⟩
                · skip
                  refine own_preW (B := T63.setTop (mkF m 181 #[.val (.int x0), .val (.int x1), .val (.int x2), .val (.int x3), .val (.int j2_s0), .val (.int j5_s0), .val (.int j8_s0), .val (.int j11_s0), .val .null, .val (.ref b42), .val (.ref b45), .val (.int (own_min x2 x3)), .val (.int (own_max x2 x3)), .val (.int (own_al j11_s0 (own_min x2 x3))), .val (.int (own_al j11_s0 (own_max x2 x3)))] [])) ?_ fun t_ k_ => XS.icmpNo X63.here hx rfl (hb hby at_178) rfl (feq h178_64).1 k_
                  refine own_preW (B := T63.setTop (mkF m 183 #[.val (.int x0), .val (.int x1), .val (.int x2), .val (.int x3), .val (.int j2_s0), .val (.int j5_s0), .val (.int j8_s0), .val (.int j11_s0), .val .null, .val (.ref b42), .val (.ref b45), .val (.int (own_min x2 x3)), .val (.int (own_max x2 x3)), .val (.int (own_al j11_s0 (own_min x2 x3))), .val (.int (own_al j11_s0 (own_max x2 x3)))] [(.ref b45)])) ?_ fun t_ k_ => XS.aload X63.here hx rfl (hb hby at_181) rfl rfl k_
                  refine own_preW (B := T63.setTop (mkF m 185 #[.val (.int x0), .val (.int x1), .val (.int x2), .val (.int x3), .val (.int j2_s0), .val (.int j5_s0), .val (.int j8_s0), .val (.int j11_s0), .val .null, .val (.ref b42), .val (.ref b45), .val (.int (own_min x2 x3)), .val (.int (own_max x2 x3)), .val (.int (own_al j11_s0 (own_min x2 x3))), .val (.int (own_al j11_s0 (own_max x2 x3)))] [(.int j11_s0), (.ref b45)])) ?_ fun t_ k_ => XS.iload X63.here hx rfl (hb hby at_183) rfl  k_
                  refine own_preW (B := T63.setTop (mkF m 186 #[.val (.int x0), .val (.int x1), .val (.int x2), .val (.int x3), .val (.int j2_s0), .val (.int j5_s0), .val (.int j8_s0), .val (.int j11_s0), .val .null, .val (.ref b42), .val (.ref b45), .val (.int (own_min x2 x3)), .val (.int (own_max x2 x3)), .val (.int (own_al j11_s0 (own_min x2 x3))), .val (.int (own_al j11_s0 (own_max x2 x3)))] [(.int (1 : Int32)), (.int j11_s0), (.ref b45)])) ?_ fun t_ k_ => XS.iconst X63.here hx rfl (hb hby at_185) k_
                  refine own_preW (B := T63.setTop (mkF m 187 #[.val (.int x0), .val (.int x1), .val (.int x2), .val (.int x3), .val (.int j2_s0), .val (.int j5_s0), .val (.int j8_s0), .val (.int j11_s0), .val .null, .val (.ref b42), .val (.ref b45), .val (.int (own_min x2 x3)), .val (.int (own_max x2 x3)), .val (.int (own_al j11_s0 (own_min x2 x3))), .val (.int (own_al j11_s0 (own_max x2 x3)))] [(.int (j11_s0 + (1 : Int32))), (.ref b45)])) ?_ fun t_ k_ => XS.iadd X63.here hx rfl (hb hby at_186) rfl k_
                  obtain ⟨cq65, kq65, q65a, q65b, q65c⟩ := isOf hZ e63 E48
                  obtain ⟨_, _, ⟨T65, L65, k65, n65⟩, -, X65, ⟨Lc65, hQ65, l65, y65, z65⟩, st65⟩ := X63.virtualBack hx (y := (⟨"com/example/pipecaret/pipecaret/grammar/Constituent", "allows", "(I)Z"⟩ : MethodName)) (z := (⟨"com/example/pipecaret/pipecaret/grammar/Constituent", "allows", "(I)Z"⟩ : MethodName)) hown (mvT hZ (hw _ (List.mem_of_getElem? (i := 68) rfl))) (mvT hZ (hw _ (List.mem_of_getElem? (i := 69) rfl))) (notFace_of_selects (args := #[]) (mvT hZ (hw _ (List.mem_of_getElem? (i := 71) rfl)))) (mvT hZ (hw _ (List.mem_of_getElem? (i := 71) rfl))) (mvT hZ (hw _ (List.mem_of_getElem? (i := 70) rfl))) (by decide) (backOf (W := 0) (rm9 l Z a0 hw [] b45 (j11_s0 + (1 : Int32)) j11_s0 T48.heap n0 Z48 Fr48) hZ (hw _ (List.mem_of_getElem? (i := 72) rfl)) (hw _ (List.mem_of_getElem? (i := 36) rfl)) (by decide) (by decide)) q65a q65c (g := (mkF m 187 #[.val (.int x0), .val (.int x1), .val (.int x2), .val (.int x3), .val (.int j2_s0), .val (.int j5_s0), .val (.int j8_s0), .val (.int j11_s0), .val .null, .val (.ref b42), .val (.ref b45), .val (.int (own_min x2 x3)), .val (.int (own_max x2 x3)), .val (.int (own_al j11_s0 (own_min x2 x3))), .val (.int (own_al j11_s0 (own_max x2 x3)))] [(.int (j11_s0 + (1 : Int32))), (.ref b45)])) rfl (by rw [hml]; rfl) (Steps.refl _) (argsL := [(.int (j11_s0 + (1 : Int32)))]) (rest := []) (lenOf pd__I_Z rfl) rfl (by show 2 * 0 + _ ≤ _; exact Nat.le_of_eq rfl) (hb hby at_187) (fun _ _ => ⟨rfl, e63, (by decide : 4 + 0 ≤ _), (by decide : 14 + 0 ≤ _)⟩)
                  dsimp only [Pt.U, Pt.locs, Pt.cells, Pt.slots] at X65 l65 y65 z65 st65 hQ65
                  subst l65 y65 z65
                  obtain ⟨rfl, Nq65, e65⟩ := hQ65
                  have N65 := Fr.app N63 Nq65
                  refine own_preW (B := T65.setTop (mkF m 190 #[.val (.int x0), .val (.int x1), .val (.int x2), .val (.int x3), .val (.int j2_s0), .val (.int j5_s0), .val (.int j8_s0), .val (.int j11_s0), .val .null, .val (.ref b42), .val (.ref b45), .val (.int (own_min x2 x3)), .val (.int (own_max x2 x3)), .val (.int (own_al j11_s0 (own_min x2 x3))), .val (.int (own_al j11_s0 (own_max x2 x3)))] [(.int (own_al j11_s0 (j11_s0 + (1 : Int32))))])) ?_ (fun t_ k_ => st65.trans k_)
                  refine own_preW (B := T65.setTop (mkF m 195 #[.val (.int x0), .val (.int x1), .val (.int x2), .val (.int x3), .val (.int j2_s0), .val (.int j5_s0), .val (.int j8_s0), .val (.int j11_s0), .val .null, .val (.ref b42), .val (.ref b45), .val (.int (own_min x2 x3)), .val (.int (own_max x2 x3)), .val (.int (own_al j11_s0 (own_min x2 x3))), .val (.int (own_al j11_s0 (own_max x2 x3)))] [])) ?_ fun t_ k_ => XS.ifYes X65.here hx rfl (pc0 := 190) (pc' := 195) rfl (hb hby at_190) rfl ((if0 _ _).trans (teq (own_fin9 x0 x1 x2 x3 dc j2_s0 hvj2_s0 j5_s0 hvj5_s0 j8_s0 hvj8_s0 j11_s0 hvj11_s0 h56_13 h131_61 h152_62 h178_64)).1) (by decide) (by decide) k_
                  refine own_preW (B := T65.setTop (mkF m 196 #[.val (.int x0), .val (.int x1), .val (.int x2), .val (.int x3), .val (.int j2_s0), .val (.int j5_s0), .val (.int j8_s0), .val (.int j11_s0), .val .null, .val (.ref b42), .val (.ref b45), .val (.int (own_min x2 x3)), .val (.int (own_max x2 x3)), .val (.int (own_al j11_s0 (own_min x2 x3))), .val (.int (own_al j11_s0 (own_max x2 x3)))] [(.int (1 : Int32))])) ?_ fun t_ k_ => XS.iconst X65.here hx rfl (hb hby at_195) k_
                  refine own_retNW X65 hx hlk hS47 (by rw [e65]; exact (Nat.le_trans kz47 K48.1)) (t := .boolean) (z' := (1 : Int32)) Bd.returns (by simp) (hb hby at_196) (by decide) ?_ (by decide) (by decide)
                  rw [e65]
                  exact ⟨rfl, N65⟩
              · skip
                refine own_preW (B := T60.setTop (mkF m 155 #[.val (.int x0), .val (.int x1), .val (.int x2), .val (.int x3), .val (.int j2_s0), .val (.int j5_s0), .val (.int j8_s0), .val (.int j11_s0), .val .null, .val (.ref b42), .val (.ref b45), .val (.int (own_min x2 x3)), .val (.int (own_max x2 x3)), .val (.int (own_al j11_s0 (own_min x2 x3))), .val (.int (own_al j11_s0 (own_max x2 x3)))] [])) ?_ fun t_ k_ => XS.ifNo X60.here hx rfl (hb hby at_152) rfl ((if0 _ _).trans (feq h152_62).1) k_
                refine own_preW (B := T60.setTop (mkF m 157 #[.val (.int x0), .val (.int x1), .val (.int x2), .val (.int x3), .val (.int j2_s0), .val (.int j5_s0), .val (.int j8_s0), .val (.int j11_s0), .val .null, .val (.ref b42), .val (.ref b45), .val (.int (own_min x2 x3)), .val (.int (own_max x2 x3)), .val (.int (own_al j11_s0 (own_min x2 x3))), .val (.int (own_al j11_s0 (own_max x2 x3)))] [(.int (own_al j11_s0 (own_min x2 x3)))])) ?_ fun t_ k_ => XS.iload X60.here hx rfl (hb hby at_155) rfl  k_
                refine own_preW (B := T60.setTop (mkF m 162 #[.val (.int x0), .val (.int x1), .val (.int x2), .val (.int x3), .val (.int j2_s0), .val (.int j5_s0), .val (.int j8_s0), .val (.int j11_s0), .val .null, .val (.ref b42), .val (.ref b45), .val (.int (own_min x2 x3)), .val (.int (own_max x2 x3)), .val (.int (own_al j11_s0 (own_min x2 x3))), .val (.int (own_al j11_s0 (own_max x2 x3)))] [])) ?_ fun t_ k_ => XS.ifYes X60.here hx rfl (pc0 := 157) (pc' := 162) rfl (hb hby at_157) rfl ((if0 _ _).trans (feq (own_fin10 x0 x1 x2 x3 dc j2_s0 hvj2_s0 j5_s0 hvj5_s0 j8_s0 hvj8_s0 j11_s0 hvj11_s0 h56_13 h131_61 h152_62)).2) (by decide) (by decide) k_
                refine own_preW (B := T60.setTop (mkF m 164 #[.val (.int x0), .val (.int x1), .val (.int x2), .val (.int x3), .val (.int j2_s0), .val (.int j5_s0), .val (.int j8_s0), .val (.int j11_s0), .val .null, .val (.ref b42), .val (.ref b45), .val (.int (own_min x2 x3)), .val (.int (own_max x2 x3)), .val (.int (own_al j11_s0 (own_min x2 x3))), .val (.int (own_al j11_s0 (own_max x2 x3)))] [(.ref b45)])) ?_ fun t_ k_ => XS.aload X60.here hx rfl (hb hby at_162) rfl rfl k_
                refine own_preW (B := T60.setTop (mkF m 166 #[.val (.int x0), .val (.int x1), .val (.int x2), .val (.int x3), .val (.int j2_s0), .val (.int j5_s0), .val (.int j8_s0), .val (.int j11_s0), .val .null, .val (.ref b42), .val (.ref b45), .val (.int (own_min x2 x3)), .val (.int (own_max x2 x3)), .val (.int (own_al j11_s0 (own_min x2 x3))), .val (.int (own_al j11_s0 (own_max x2 x3)))] [(.int j11_s0), (.ref b45)])) ?_ fun t_ k_ => XS.iload X60.here hx rfl (hb hby at_164) rfl  k_
                obtain ⟨cq66, kq66, q66a, q66b, q66c⟩ := isOf hZ e60 E48
                obtain ⟨_, _, ⟨T66, L66, k66, n66⟩, -, X66, ⟨Lc66, hQ66, l66, y66, z66⟩, st66⟩ := X60.virtualBack hx (y := (⟨"com/example/pipecaret/pipecaret/grammar/Constituent", "allows", "(I)Z"⟩ : MethodName)) (z := (⟨"com/example/pipecaret/pipecaret/grammar/Constituent", "allows", "(I)Z"⟩ : MethodName)) hown (mvT hZ (hw _ (List.mem_of_getElem? (i := 68) rfl))) (mvT hZ (hw _ (List.mem_of_getElem? (i := 69) rfl))) (notFace_of_selects (args := #[]) (mvT hZ (hw _ (List.mem_of_getElem? (i := 71) rfl)))) (mvT hZ (hw _ (List.mem_of_getElem? (i := 71) rfl))) (mvT hZ (hw _ (List.mem_of_getElem? (i := 70) rfl))) (by decide) (backOf (W := 0) (rm9 l Z a0 hw [] b45 j11_s0 j11_s0 T48.heap n0 Z48 Fr48) hZ (hw _ (List.mem_of_getElem? (i := 72) rfl)) (hw _ (List.mem_of_getElem? (i := 36) rfl)) (by decide) (by decide)) q66a q66c (g := (mkF m 166 #[.val (.int x0), .val (.int x1), .val (.int x2), .val (.int x3), .val (.int j2_s0), .val (.int j5_s0), .val (.int j8_s0), .val (.int j11_s0), .val .null, .val (.ref b42), .val (.ref b45), .val (.int (own_min x2 x3)), .val (.int (own_max x2 x3)), .val (.int (own_al j11_s0 (own_min x2 x3))), .val (.int (own_al j11_s0 (own_max x2 x3)))] [(.int j11_s0), (.ref b45)])) rfl (by rw [hml]; rfl) (Steps.refl _) (argsL := [(.int j11_s0)]) (rest := []) (lenOf pd__I_Z rfl) rfl (by show 2 * 0 + _ ≤ _; exact Nat.le_of_eq rfl) (hb hby at_166) (fun _ _ => ⟨rfl, e60, (by decide : 4 + 0 ≤ _), (by decide : 14 + 0 ≤ _)⟩)
                dsimp only [Pt.U, Pt.locs, Pt.cells, Pt.slots] at X66 l66 y66 z66 st66 hQ66
                subst l66 y66 z66
                obtain ⟨rfl, Nq66, e66⟩ := hQ66
                have N66 := Fr.app N60 Nq66
                refine own_preW (B := T66.setTop (mkF m 169 #[.val (.int x0), .val (.int x1), .val (.int x2), .val (.int x3), .val (.int j2_s0), .val (.int j5_s0), .val (.int j8_s0), .val (.int j11_s0), .val .null, .val (.ref b42), .val (.ref b45), .val (.int (own_min x2 x3)), .val (.int (own_max x2 x3)), .val (.int (own_al j11_s0 (own_min x2 x3))), .val (.int (own_al j11_s0 (own_max x2 x3)))] [(.int (own_al j11_s0 j11_s0))])) ?_ (fun t_ k_ => st66.trans k_)
                refine own_preW (B := T66.setTop (mkF m 174 #[.val (.int x0), .val (.int x1), .val (.int x2), .val (.int x3), .val (.int j2_s0), .val (.int j5_s0), .val (.int j8_s0), .val (.int j11_s0), .val .null, .val (.ref b42), .val (.ref b45), .val (.int (own_min x2 x3)), .val (.int (own_max x2 x3)), .val (.int (own_al j11_s0 (own_min x2 x3))), .val (.int (own_al j11_s0 (own_max x2 x3)))] [])) ?_ fun t_ k_ => XS.ifYes X66.here hx rfl (pc0 := 169) (pc' := 174) rfl (hb hby at_169) rfl ((if0 _ _).trans (feq (own_fin11 x0 x1 x2 x3 dc j2_s0 hvj2_s0 j5_s0 hvj5_s0 j8_s0 hvj8_s0 j11_s0 hvj11_s0 h56_13 h131_61 h152_62)).2) (by decide) (by decide) k_
                refine own_preW (B := T66.setTop (mkF m 176 #[.val (.int x0), .val (.int x1), .val (.int x2), .val (.int x3), .val (.int j2_s0), .val (.int j5_s0), .val (.int j8_s0), .val (.int j11_s0), .val .null, .val (.ref b42), .val (.ref b45), .val (.int (own_min x2 x3)), .val (.int (own_max x2 x3)), .val (.int (own_al j11_s0 (own_min x2 x3))), .val (.int (own_al j11_s0 (own_max x2 x3)))] [(.int j11_s0)])) ?_ fun t_ k_ => XS.iload X66.here hx rfl (hb hby at_174) rfl  k_
                refine own_preW (B := T66.setTop (mkF m 178 #[.val (.int x0), .val (.int x1), .val (.int x2), .val (.int x3), .val (.int j2_s0), .val (.int j5_s0), .val (.int j8_s0), .val (.int j11_s0), .val .null, .val (.ref b42), .val (.ref b45), .val (.int (own_min x2 x3)), .val (.int (own_max x2 x3)), .val (.int (own_al j11_s0 (own_min x2 x3))), .val (.int (own_al j11_s0 (own_max x2 x3)))] [(.int (2147483647 : Int32)), (.int j11_s0)])) ?_ (X66.ldcInt hx hown (mvT hZ (hw _ (List.mem_of_getElem? (i := 73) rfl))) (g := (mkF m 176 #[.val (.int x0), .val (.int x1), .val (.int x2), .val (.int x3), .val (.int j2_s0), .val (.int j5_s0), .val (.int j8_s0), .val (.int j11_s0), .val .null, .val (.ref b42), .val (.ref b45), .val (.int (own_min x2 x3)), .val (.int (own_max x2 x3)), .val (.int (own_al j11_s0 (own_min x2 x3))), .val (.int (own_al j11_s0 (own_max x2 x3)))] [(.int j11_s0)])) rfl (hb hby at_176))
                by_cases h178_67 : j11_s0 = (2147483647 : Int32)
                · skip
                  refine own_preW (B := T66.setTop (mkF m 195 #[.val (.int x0), .val (.int x1), .val (.int x2), .val (.int x3), .val (.int j2_s0), .val (.int j5_s0), .val (.int j8_s0), .val (.int j11_s0), .val .null, .val (.ref b42), .val (.ref b45), .val (.int (own_min x2 x3)), .val (.int (own_max x2 x3)), .val (.int (own_al j11_s0 (own_min x2 x3))), .val (.int (own_al j11_s0 (own_max x2 x3)))] [])) ?_ fun t_ k_ => XS.icmpYes X66.here hx rfl (pc0 := 178) (pc' := 195) rfl (hb hby at_178) rfl (teq h178_67).1 (by decide) (by decide) k_
                  refine own_preW (B := T66.setTop (mkF m 196 #[.val (.int x0), .val (.int x1), .val (.int x2), .val (.int x3), .val (.int j2_s0), .val (.int j5_s0), .val (.int j8_s0), .val (.int j11_s0), .val .null, .val (.ref b42), .val (.ref b45), .val (.int (own_min x2 x3)), .val (.int (own_max x2 x3)), .val (.int (own_al j11_s0 (own_min x2 x3))), .val (.int (own_al j11_s0 (own_max x2 x3)))] [(.int (1 : Int32))])) ?_ fun t_ k_ => XS.iconst X66.here hx rfl (hb hby at_195) k_
                  refine own_retNW X66 hx hlk hS47 (by rw [e66]; exact (Nat.le_trans kz47 K48.1)) (t := .boolean) (z' := (1 : Int32)) Bd.returns (by simp) (hb hby at_196) (by decide) ?_ (by decide) (by decide)
                  rw [e66]
                  exact ⟨rfl, N66⟩
                · skip
                  refine own_preW (B := T66.setTop (mkF m 181 #[.val (.int x0), .val (.int x1), .val (.int x2), .val (.int x3), .val (.int j2_s0), .val (.int j5_s0), .val (.int j8_s0), .val (.int j11_s0), .val .null, .val (.ref b42), .val (.ref b45), .val (.int (own_min x2 x3)), .val (.int (own_max x2 x3)), .val (.int (own_al j11_s0 (own_min x2 x3))), .val (.int (own_al j11_s0 (own_max x2 x3)))] [])) ?_ fun t_ k_ => XS.icmpNo X66.here hx rfl (hb hby at_178) rfl (feq h178_67).1 k_
                  refine own_preW (B := T66.setTop (mkF m 183 #[.val (.int x0), .val (.int x1), .val (.int x2), .val (.int x3), .val (.int j2_s0), .val (.int j5_s0), .val (.int j8_s0), .val (.int j11_s0), .val .null, .val (.ref b42), .val (.ref b45), .val (.int (own_min x2 x3)), .val (.int (own_max x2 x3)), .val (.int (own_al j11_s0 (own_min x2 x3))), .val (.int (own_al j11_s0 (own_max x2 x3)))] [(.ref b45)])) ?_ fun t_ k_ => XS.aload X66.here hx rfl (hb hby at_181) rfl rfl k_
                  refine own_preW (B := T66.setTop (mkF m 185 #[.val (.int x0), .val (.int x1), .val (.int x2), .val (.int x3), .val (.int j2_s0), .val (.int j5_s0), .val (.int j8_s0), .val (.int j11_s0), .val .null, .val (.ref b42), .val (.ref b45), .val (.int (own_min x2 x3)), .val (.int (own_max x2 x3)), .val (.int (own_al j11_s0 (own_min x2 x3))), .val (.int (own_al j11_s0 (own_max x2 x3)))] [(.int j11_s0), (.ref b45)])) ?_ fun t_ k_ => XS.iload X66.here hx rfl (hb hby at_183) rfl  k_
                  refine own_preW (B := T66.setTop (mkF m 186 #[.val (.int x0), .val (.int x1), .val (.int x2), .val (.int x3), .val (.int j2_s0), .val (.int j5_s0), .val (.int j8_s0), .val (.int j11_s0), .val .null, .val (.ref b42), .val (.ref b45), .val (.int (own_min x2 x3)), .val (.int (own_max x2 x3)), .val (.int (own_al j11_s0 (own_min x2 x3))), .val (.int (own_al j11_s0 (own_max x2 x3)))] [(.int (1 : Int32)), (.int j11_s0), (.ref b45)])) ?_ fun t_ k_ => XS.iconst X66.here hx rfl (hb hby at_185) k_
                  refine own_preW (B := T66.setTop (mkF m 187 #[.val (.int x0), .val (.int x1), .val (.int x2), .val (.int x3), .val (.int j2_s0), .val (.int j5_s0), .val (.int j8_s0), .val (.int j11_s0), .val .null, .val (.ref b42), .val (.ref b45), .val (.int (own_min x2 x3)), .val (.int (own_max x2 x3)), .val (.int (own_al j11_s0 (own_min x2 x3))), .val (.int (own_al j11_s0 (own_max x2 x3)))] [(.int (j11_s0 + (1 : Int32))), (.ref b45)])) ?_ fun t_ k_ => XS.iadd X66.here hx rfl (hb hby at_186) rfl k_
                  obtain ⟨cq68, kq68, q68a, q68b, q68c⟩ := isOf hZ e66 E48
                  obtain ⟨_, _, ⟨T68, L68, k68, n68⟩, -, X68, ⟨Lc68, hQ68, l68, y68, z68⟩, st68⟩ := X66.virtualBack hx (y := (⟨"com/example/pipecaret/pipecaret/grammar/Constituent", "allows", "(I)Z"⟩ : MethodName)) (z := (⟨"com/example/pipecaret/pipecaret/grammar/Constituent", "allows", "(I)Z"⟩ : MethodName)) hown (mvT hZ (hw _ (List.mem_of_getElem? (i := 68) rfl))) (mvT hZ (hw _ (List.mem_of_getElem? (i := 69) rfl))) (notFace_of_selects (args := #[]) (mvT hZ (hw _ (List.mem_of_getElem? (i := 71) rfl)))) (mvT hZ (hw _ (List.mem_of_getElem? (i := 71) rfl))) (mvT hZ (hw _ (List.mem_of_getElem? (i := 70) rfl))) (by decide) (backOf (W := 0) (rm9 l Z a0 hw [] b45 (j11_s0 + (1 : Int32)) j11_s0 T48.heap n0 Z48 Fr48) hZ (hw _ (List.mem_of_getElem? (i := 72) rfl)) (hw _ (List.mem_of_getElem? (i := 36) rfl)) (by decide) (by decide)) q68a q68c (g := (mkF m 187 #[.val (.int x0), .val (.int x1), .val (.int x2), .val (.int x3), .val (.int j2_s0), .val (.int j5_s0), .val (.int j8_s0), .val (.int j11_s0), .val .null, .val (.ref b42), .val (.ref b45), .val (.int (own_min x2 x3)), .val (.int (own_max x2 x3)), .val (.int (own_al j11_s0 (own_min x2 x3))), .val (.int (own_al j11_s0 (own_max x2 x3)))] [(.int (j11_s0 + (1 : Int32))), (.ref b45)])) rfl (by rw [hml]; rfl) (Steps.refl _) (argsL := [(.int (j11_s0 + (1 : Int32)))]) (rest := []) (lenOf pd__I_Z rfl) rfl (by show 2 * 0 + _ ≤ _; exact Nat.le_of_eq rfl) (hb hby at_187) (fun _ _ => ⟨rfl, e66, (by decide : 4 + 0 ≤ _), (by decide : 14 + 0 ≤ _)⟩)
                  dsimp only [Pt.U, Pt.locs, Pt.cells, Pt.slots] at X68 l68 y68 z68 st68 hQ68
                  subst l68 y68 z68
                  obtain ⟨rfl, Nq68, e68⟩ := hQ68
                  have N68 := Fr.app N66 Nq68
                  refine own_preW (B := T68.setTop (mkF m 190 #[.val (.int x0), .val (.int x1), .val (.int x2), .val (.int x3), .val (.int j2_s0), .val (.int j5_s0), .val (.int j8_s0), .val (.int j11_s0), .val .null, .val (.ref b42), .val (.ref b45), .val (.int (own_min x2 x3)), .val (.int (own_max x2 x3)), .val (.int (own_al j11_s0 (own_min x2 x3))), .val (.int (own_al j11_s0 (own_max x2 x3)))] [(.int (own_al j11_s0 (j11_s0 + (1 : Int32))))])) ?_ (fun t_ k_ => st68.trans k_)
                  refine own_preW (B := T68.setTop (mkF m 195 #[.val (.int x0), .val (.int x1), .val (.int x2), .val (.int x3), .val (.int j2_s0), .val (.int j5_s0), .val (.int j8_s0), .val (.int j11_s0), .val .null, .val (.ref b42), .val (.ref b45), .val (.int (own_min x2 x3)), .val (.int (own_max x2 x3)), .val (.int (own_al j11_s0 (own_min x2 x3))), .val (.int (own_al j11_s0 (own_max x2 x3)))] [])) ?_ fun t_ k_ => XS.ifYes X68.here hx rfl (pc0 := 190) (pc' := 195) rfl (hb hby at_190) rfl ((if0 _ _).trans (teq (own_fin12 x0 x1 x2 x3 dc j2_s0 hvj2_s0 j5_s0 hvj5_s0 j8_s0 hvj8_s0 j11_s0 hvj11_s0 h56_13 h131_61 h152_62 h178_67)).1) (by decide) (by decide) k_
                  refine own_preW (B := T68.setTop (mkF m 196 #[.val (.int x0), .val (.int x1), .val (.int x2), .val (.int x3), .val (.int j2_s0), .val (.int j5_s0), .val (.int j8_s0), .val (.int j11_s0), .val .null, .val (.ref b42), .val (.ref b45), .val (.int (own_min x2 x3)), .val (.int (own_max x2 x3)), .val (.int (own_al j11_s0 (own_min x2 x3))), .val (.int (own_al j11_s0 (own_max x2 x3)))] [(.int (1 : Int32))])) ?_ fun t_ k_ => XS.iconst X68.here hx rfl (hb hby at_195) k_
                  refine own_retNW X68 hx hlk hS47 (by rw [e68]; exact (Nat.le_trans kz47 K48.1)) (t := .boolean) (z' := (1 : Int32)) Bd.returns (by simp) (hb hby at_196) (by decide) ?_ (by decide) (by decide)
                  rw [e68]
                  exact ⟨rfl, N68⟩
            · skip
              refine own_preW (B := T60.setTop (mkF m 134 #[.val (.int x0), .val (.int x1), .val (.int x2), .val (.int x3), .val (.int j2_s0), .val (.int j5_s0), .val (.int j8_s0), .val (.int j11_s0), .val .null, .val (.ref b42), .val (.ref b45), .val (.int (own_min x2 x3)), .val (.int (own_max x2 x3)), .val (.int (own_al j11_s0 (own_min x2 x3))), .val (.int (own_al j11_s0 (own_max x2 x3)))] [])) ?_ fun t_ k_ => XS.ifNo X60.here hx rfl (hb hby at_131) rfl ((if0 _ _).trans (feq h131_61).1) k_
              refine own_preW (B := T60.setTop (mkF m 136 #[.val (.int x0), .val (.int x1), .val (.int x2), .val (.int x3), .val (.int j2_s0), .val (.int j5_s0), .val (.int j8_s0), .val (.int j11_s0), .val .null, .val (.ref b42), .val (.ref b45), .val (.int (own_min x2 x3)), .val (.int (own_max x2 x3)), .val (.int (own_al j11_s0 (own_min x2 x3))), .val (.int (own_al j11_s0 (own_max x2 x3)))] [(.int (own_al j11_s0 (own_min x2 x3)))])) ?_ fun t_ k_ => XS.iload X60.here hx rfl (hb hby at_134) rfl  k_
              refine own_preW (B := T60.setTop (mkF m 139 #[.val (.int x0), .val (.int x1), .val (.int x2), .val (.int x3), .val (.int j2_s0), .val (.int j5_s0), .val (.int j8_s0), .val (.int j11_s0), .val .null, .val (.ref b42), .val (.ref b45), .val (.int (own_min x2 x3)), .val (.int (own_max x2 x3)), .val (.int (own_al j11_s0 (own_min x2 x3))), .val (.int (own_al j11_s0 (own_max x2 x3)))] [])) ?_ fun t_ k_ => XS.ifNo X60.here hx rfl (hb hby at_136) rfl ((if0 _ _).trans (feq (own_fin13 x0 x1 x2 x3 dc j2_s0 hvj2_s0 j5_s0 hvj5_s0 j8_s0 hvj8_s0 j11_s0 hvj11_s0 h56_13 h131_61)).1) k_
              refine own_preW (B := T60.setTop (mkF m 141 #[.val (.int x0), .val (.int x1), .val (.int x2), .val (.int x3), .val (.int j2_s0), .val (.int j5_s0), .val (.int j8_s0), .val (.int j11_s0), .val .null, .val (.ref b42), .val (.ref b45), .val (.int (own_min x2 x3)), .val (.int (own_max x2 x3)), .val (.int (own_al j11_s0 (own_min x2 x3))), .val (.int (own_al j11_s0 (own_max x2 x3)))] [(.int (own_al j11_s0 (own_max x2 x3)))])) ?_ fun t_ k_ => XS.iload X60.here hx rfl (hb hby at_139) rfl  k_
              refine own_preW (B := T60.setTop (mkF m 144 #[.val (.int x0), .val (.int x1), .val (.int x2), .val (.int x3), .val (.int j2_s0), .val (.int j5_s0), .val (.int j8_s0), .val (.int j11_s0), .val .null, .val (.ref b42), .val (.ref b45), .val (.int (own_min x2 x3)), .val (.int (own_max x2 x3)), .val (.int (own_al j11_s0 (own_min x2 x3))), .val (.int (own_al j11_s0 (own_max x2 x3)))] [])) ?_ fun t_ k_ => XS.ifNo X60.here hx rfl (hb hby at_141) rfl ((if0 _ _).trans (feq (own_fin14 x0 x1 x2 x3 dc j2_s0 hvj2_s0 j5_s0 hvj5_s0 j8_s0 hvj8_s0 j11_s0 hvj11_s0 h56_13 h131_61)).1) k_
              refine own_preW (B := T60.setTop (mkF m 145 #[.val (.int x0), .val (.int x1), .val (.int x2), .val (.int x3), .val (.int j2_s0), .val (.int j5_s0), .val (.int j8_s0), .val (.int j11_s0), .val .null, .val (.ref b42), .val (.ref b45), .val (.int (own_min x2 x3)), .val (.int (own_max x2 x3)), .val (.int (own_al j11_s0 (own_min x2 x3))), .val (.int (own_al j11_s0 (own_max x2 x3)))] [(.int (1 : Int32))])) ?_ fun t_ k_ => XS.iconst X60.here hx rfl (hb hby at_144) k_
              refine own_preW (B := T60.setTop (mkF m 149 #[.val (.int x0), .val (.int x1), .val (.int x2), .val (.int x3), .val (.int j2_s0), .val (.int j5_s0), .val (.int j8_s0), .val (.int j11_s0), .val .null, .val (.ref b42), .val (.ref b45), .val (.int (own_min x2 x3)), .val (.int (own_max x2 x3)), .val (.int (own_al j11_s0 (own_min x2 x3))), .val (.int (own_al j11_s0 (own_max x2 x3)))] [(.int (1 : Int32))])) ?_ fun t_ k_ => XS.goto X60.here hx rfl (pc0 := 145) (pc' := 149) rfl (hb hby at_145) (by decide) (by decide) k_
              refine own_retNW X60 hx hlk hS47 (by rw [e60]; exact (Nat.le_trans kz47 K48.1)) (t := .boolean) (z' := (1 : Int32)) Bd.returns (by simp) (hb hby at_149) (by decide) ?_ (by decide) (by decide)
              rw [e60]
              exact ⟨rfl, N60⟩
        by_cases h41_10 : j2_s0 = (0 : Int32)
        · skip
          refine own_preW (B := T9.setTop (mkF m 48 #[.val (.int x0), .val (.int x1), .val (.int x2), .val (.int x3), .val (.int j2_s0), .val (.int j5_s0), .val (.int j8_s0), .unset, .unset, .unset, .unset, .unset, .unset, .unset, .unset] [])) ?_ fun t_ k_ => XS.ifYes X9.here hx rfl (pc0 := 41) (pc' := 48) rfl (hb hby at_41) rfl ((if0 _ _).trans (teq h41_10).1) (by decide) (by decide) k_
          refine own_preW (B := T9.setTop (mkF m 49 #[.val (.int x0), .val (.int x1), .val (.int x2), .val (.int x3), .val (.int j2_s0), .val (.int j5_s0), .val (.int j8_s0), .unset, .unset, .unset, .unset, .unset, .unset, .unset, .unset] [(.int x0)])) ?_ fun t_ k_ => XS.iloadN X9.here hx rfl (hb hby at_48) rfl  k_
          refine own_preW (B := T9.setTop (mkF m 51 #[.val (.int x0), .val (.int x1), .val (.int x2), .val (.int x3), .val (.int j2_s0), .val (.int j5_s0), .val (.int j8_s0), .unset, .unset, .unset, .unset, .unset, .unset, .unset, .unset] [(.int (2147483647 : Int32)), (.int x0)])) ?_ (X9.ldcInt hx hown (mvT hZ (hw _ (List.mem_of_getElem? (i := 73) rfl))) (g := (mkF m 49 #[.val (.int x0), .val (.int x1), .val (.int x2), .val (.int x3), .val (.int j2_s0), .val (.int j5_s0), .val (.int j8_s0), .unset, .unset, .unset, .unset, .unset, .unset, .unset, .unset] [(.int x0)])) rfl (hb hby at_49))
          refine own_preW (B := T9.setTop (mkF m 52 #[.val (.int x0), .val (.int x1), .val (.int x2), .val (.int x3), .val (.int j2_s0), .val (.int j5_s0), .val (.int j8_s0), .unset, .unset, .unset, .unset, .unset, .unset, .unset, .unset] [(.int (x0 &&& (2147483647 : Int32)))])) ?_ fun t_ k_ => XS.iand X9.here hx rfl (hb hby at_51) rfl k_
          exact Jj11 T9 _ X9 N9 e9 ((x0 &&& (2147483647 : Int32))) (if_pos h41_10).symm
        · skip
          refine own_preW (B := T9.setTop (mkF m 44 #[.val (.int x0), .val (.int x1), .val (.int x2), .val (.int x3), .val (.int j2_s0), .val (.int j5_s0), .val (.int j8_s0), .unset, .unset, .unset, .unset, .unset, .unset, .unset, .unset] [])) ?_ fun t_ k_ => XS.ifNo X9.here hx rfl (hb hby at_41) rfl ((if0 _ _).trans (feq h41_10).1) k_
          refine own_preW (B := T9.setTop (mkF m 45 #[.val (.int x0), .val (.int x1), .val (.int x2), .val (.int x3), .val (.int j2_s0), .val (.int j5_s0), .val (.int j8_s0), .unset, .unset, .unset, .unset, .unset, .unset, .unset, .unset] [(.int (-1 : Int32))])) ?_ fun t_ k_ => XS.iconst X9.here hx rfl (hb hby at_44) k_
          refine own_preW (B := T9.setTop (mkF m 52 #[.val (.int x0), .val (.int x1), .val (.int x2), .val (.int x3), .val (.int j2_s0), .val (.int j5_s0), .val (.int j8_s0), .unset, .unset, .unset, .unset, .unset, .unset, .unset, .unset] [(.int (-1 : Int32))])) ?_ fun t_ k_ => XS.goto X9.here hx rfl (pc0 := 45) (pc' := 52) rfl (hb hby at_45) (by decide) (by decide) k_
          exact Jj11 T9 _ X9 N9 e9 ((-1 : Int32)) (if_neg h41_10).symm
      by_cases h29_7 : (x1 &&& (4 : Int32)) = (0 : Int32)
      · skip
        refine own_preW (B := T6.setTop (mkF m 36 #[.val (.int x0), .val (.int x1), .val (.int x2), .val (.int x3), .val (.int j2_s0), .val (.int j5_s0), .unset, .unset, .unset, .unset, .unset, .unset, .unset, .unset, .unset] [])) ?_ fun t_ k_ => XS.ifYes X6.here hx rfl (pc0 := 29) (pc' := 36) rfl (hb hby at_29) rfl ((if0 _ _).trans (teq h29_7).1) (by decide) (by decide) k_
        refine own_preW (B := T6.setTop (mkF m 37 #[.val (.int x0), .val (.int x1), .val (.int x2), .val (.int x3), .val (.int j2_s0), .val (.int j5_s0), .unset, .unset, .unset, .unset, .unset, .unset, .unset, .unset, .unset] [(.int (0 : Int32))])) ?_ fun t_ k_ => XS.iconst X6.here hx rfl (hb hby at_36) k_
        exact Jj8 T6 _ X6 N6 e6 ((0 : Int32)) (if_pos h29_7).symm
      · skip
        refine own_preW (B := T6.setTop (mkF m 32 #[.val (.int x0), .val (.int x1), .val (.int x2), .val (.int x3), .val (.int j2_s0), .val (.int j5_s0), .unset, .unset, .unset, .unset, .unset, .unset, .unset, .unset, .unset] [])) ?_ fun t_ k_ => XS.ifNo X6.here hx rfl (hb hby at_29) rfl ((if0 _ _).trans (feq h29_7).1) k_
        refine own_preW (B := T6.setTop (mkF m 33 #[.val (.int x0), .val (.int x1), .val (.int x2), .val (.int x3), .val (.int j2_s0), .val (.int j5_s0), .unset, .unset, .unset, .unset, .unset, .unset, .unset, .unset, .unset] [(.int (1 : Int32))])) ?_ fun t_ k_ => XS.iconst X6.here hx rfl (hb hby at_32) k_
        refine own_preW (B := T6.setTop (mkF m 37 #[.val (.int x0), .val (.int x1), .val (.int x2), .val (.int x3), .val (.int j2_s0), .val (.int j5_s0), .unset, .unset, .unset, .unset, .unset, .unset, .unset, .unset, .unset] [(.int (1 : Int32))])) ?_ fun t_ k_ => XS.goto X6.here hx rfl (pc0 := 33) (pc' := 37) rfl (hb hby at_33) (by decide) (by decide) k_
        exact Jj8 T6 _ X6 N6 e6 ((1 : Int32)) (if_neg h29_7).symm
    by_cases h16_4 : (x1 &&& (2 : Int32)) = (0 : Int32)
    · skip
      refine own_preW (B := T3.setTop (mkF m 23 #[.val (.int x0), .val (.int x1), .val (.int x2), .val (.int x3), .val (.int j2_s0), .unset, .unset, .unset, .unset, .unset, .unset, .unset, .unset, .unset, .unset] [])) ?_ fun t_ k_ => XS.ifYes X3.here hx rfl (pc0 := 16) (pc' := 23) rfl (hb hby at_16) rfl ((if0 _ _).trans (teq h16_4).1) (by decide) (by decide) k_
      refine own_preW (B := T3.setTop (mkF m 24 #[.val (.int x0), .val (.int x1), .val (.int x2), .val (.int x3), .val (.int j2_s0), .unset, .unset, .unset, .unset, .unset, .unset, .unset, .unset, .unset, .unset] [(.int (0 : Int32))])) ?_ fun t_ k_ => XS.iconst X3.here hx rfl (hb hby at_23) k_
      exact Jj5 T3 _ X3 N3 e3 ((0 : Int32)) (if_pos h16_4).symm
    · skip
      refine own_preW (B := T3.setTop (mkF m 19 #[.val (.int x0), .val (.int x1), .val (.int x2), .val (.int x3), .val (.int j2_s0), .unset, .unset, .unset, .unset, .unset, .unset, .unset, .unset, .unset, .unset] [])) ?_ fun t_ k_ => XS.ifNo X3.here hx rfl (hb hby at_16) rfl ((if0 _ _).trans (feq h16_4).1) k_
      refine own_preW (B := T3.setTop (mkF m 20 #[.val (.int x0), .val (.int x1), .val (.int x2), .val (.int x3), .val (.int j2_s0), .unset, .unset, .unset, .unset, .unset, .unset, .unset, .unset, .unset, .unset] [(.int (1 : Int32))])) ?_ fun t_ k_ => XS.iconst X3.here hx rfl (hb hby at_19) k_
      refine own_preW (B := T3.setTop (mkF m 24 #[.val (.int x0), .val (.int x1), .val (.int x2), .val (.int x3), .val (.int j2_s0), .unset, .unset, .unset, .unset, .unset, .unset, .unset, .unset, .unset, .unset] [(.int (1 : Int32))])) ?_ fun t_ k_ => XS.goto X3.here hx rfl (pc0 := 20) (pc' := 24) rfl (hb hby at_20) (by decide) (by decide) k_
      exact Jj5 T3 _ X3 N3 e3 ((1 : Int32)) (if_neg h16_4).symm
  by_cases h3_1 : (x1 &&& (1 : Int32)) = (0 : Int32)
  · skip
    refine own_preW (B := s₁.setTop (mkF m 10 #[.val (.int x0), .val (.int x1), .val (.int x2), .val (.int x3), .unset, .unset, .unset, .unset, .unset, .unset, .unset, .unset, .unset, .unset, .unset] [])) ?_ fun t_ k_ => XS.ifYes X0.here hx rfl (pc0 := 3) (pc' := 10) rfl (hb hby at_3) rfl ((if0 _ _).trans (teq h3_1).1) (by decide) (by decide) k_
    refine own_preW (B := s₁.setTop (mkF m 11 #[.val (.int x0), .val (.int x1), .val (.int x2), .val (.int x3), .unset, .unset, .unset, .unset, .unset, .unset, .unset, .unset, .unset, .unset, .unset] [(.int (0 : Int32))])) ?_ fun t_ k_ => XS.iconst X0.here hx rfl (hb hby at_10) k_
    exact Jj2 s₁ _ X0 N0 e0 ((0 : Int32)) (if_pos h3_1).symm
  · skip
    refine own_preW (B := s₁.setTop (mkF m 6 #[.val (.int x0), .val (.int x1), .val (.int x2), .val (.int x3), .unset, .unset, .unset, .unset, .unset, .unset, .unset, .unset, .unset, .unset, .unset] [])) ?_ fun t_ k_ => XS.ifNo X0.here hx rfl (hb hby at_3) rfl ((if0 _ _).trans (feq h3_1).1) k_
    refine own_preW (B := s₁.setTop (mkF m 7 #[.val (.int x0), .val (.int x1), .val (.int x2), .val (.int x3), .unset, .unset, .unset, .unset, .unset, .unset, .unset, .unset, .unset, .unset, .unset] [(.int (1 : Int32))])) ?_ fun t_ k_ => XS.iconst X0.here hx rfl (hb hby at_6) k_
    refine own_preW (B := s₁.setTop (mkF m 11 #[.val (.int x0), .val (.int x1), .val (.int x2), .val (.int x3), .unset, .unset, .unset, .unset, .unset, .unset, .unset, .unset, .unset, .unset, .unset] [(.int (1 : Int32))])) ?_ fun t_ k_ => XS.goto X0.here hx rfl (pc0 := 7) (pc' := 11) rfl (hb hby at_7) (by decide) (by decide) k_
    exact Jj2 s₁ _ X0 N0 e0 ((1 : Int32)) (if_neg h3_1).symm
set_option maxRecDepth 65536 in
set_option maxHeartbeats 40000000 in
theorem comes_1 {Post : Tables → Env → Array Value → State → Outcome → State → Prop} (hpost : ∀ tb e args s v u, (limb_1_1.after args s (.returned v) u = true ∧ limb_1_2.after args s (.returned v) u = true ∧ True) → ReturnedEndW s (.returned v) u (Jvm.fieldLocs frame_1_writes args s ++ Jvm.arrayLocs frame_1_arrays args s ++ Jvm.staticLocs frame_1_statics s) 16 2176 → Post tb e args s (.returned v) u) :
    ArmFor flags0 classFile x code maxLocals ret World_1 tables_1 room_1 Calls_1 rest_1 Pre_1 Post := by
  intro l hfl _ _ p e ha hc hk s m args below hf hA hF happ hP
  obtain ⟨hcalls, hrest, hpre⟩ := hP
  obtain ⟨-, -, -, hnamed, -, -, -, hat⟩ := (Spec.applies_iff hf).mp happ
  obtain ⟨hg, hn⟩ := and_e (Cond.before_iff.mp (show (Jvm.Cond.and given_1 narrow_1).before args s = true from hpre))
  obtain ⟨g1, g2⟩ := and_e hg
  obtain ⟨g3, g4⟩ := and_e g2
  obtain ⟨g5, g6⟩ := and_e g4
  obtain ⟨g7, g8⟩ := and_e g6
  obtain ⟨w0, w1, w2, w3, rfl⟩ : ∃ w0 w1 w2 w3 : Value, args = #[w0, w1, w2, w3] := by
    have hs : args.size = 4 := by simpa [Cond.value, given_1] using g1
    obtain ⟨L⟩ := args
    match L, hs with
    | [w0, w1, w2, w3], _ => exact ⟨w0, w1, w2, w3, rfl⟩
  have hw := fun d (hd : d ∈ tables_1) => atoms_spec (ws := Jvm.Cond.code x code maxLocals ret :: tables_1) hat d (List.mem_cons_of_mem _ hd)
  have hfit : Fit s := fun {y c} hc i hi => by
    obtain ⟨ha, rfl⟩ := Array.getElem?_eq_some_iff.mp hc
    have q := List.all_eq_true.mp ((Array.all_eq_true_iff_forall_mem.mp hF) _ (Array.getElem_mem ha)) i (List.mem_range.mpr hi)
    simpa [Array.getElem?_eq_getElem hi] using q
  obtain ⟨i0, ei0⟩ := is_v g3
  obtain rfl : w0 = (.int i0) := Option.some.inj ei0
  obtain ⟨i1, ei1⟩ := is_v g5
  obtain rfl : w1 = (.int i1) := Option.some.inj ei1
  obtain ⟨i2, ei2⟩ := is_v g7
  obtain rfl : w2 = (.int i2) := Option.some.inj ei2
  obtain ⟨i3, ei3⟩ := is_v g8
  obtain rfl : w3 = (.int i3) := Option.some.inj ei3
  obtain ⟨hsets, hown0⟩ := atoms_of _ (rest_1_c_eq ▸ (show rest_1_c.before _ s = true from hrest))
  have hdc := Cond.before_iff.mp (hsets _ (List.mem_of_getElem? (i := 7) rfl))
  obtain ⟨dc, edc⟩ := exa_v hdc
  have Sdc := Sta.start edc (Or.inr ⟨(hw _ (List.mem_of_getElem? (i := 10) rfl)), hsets _ (List.mem_of_getElem? (i := 2) rfl)⟩)
  have wS : ∀ a ∈ Bundle.stringAtoms, a.before _ s = true := fun d hd => by
    simp only [Bundle.stringAtoms, List.mem_cons, List.not_mem_nil, or_false] at hd
    rcases hd with rfl | rfl | rfl | rfl | rfl | rfl | rfl
    · exact (hw _ (List.mem_of_getElem? (i := 1) rfl))
    · exact (hw _ (List.mem_of_getElem? (i := 2) rfl))
    · exact (hw _ (List.mem_of_getElem? (i := 3) rfl))
    · exact (hw _ (List.mem_of_getElem? (i := 4) rfl))
    · exact (hw _ (List.mem_of_getElem? (i := 5) rfl))
    · exact (hw _ (List.mem_of_getElem? (i := 6) rfl))
    · exact (hw _ (List.mem_of_getElem? (i := 7) rfl))
  obtain ⟨n, o, h1, h2, h3, _, L, rfl, ⟨rfl, N⟩, hq⟩ := rm0 l s _ hw tables_1 i0 i1 i2 i3 dc s.heap s.heap.size (Nat.le_refl _) Sdc wS p e ha hc hk s m _ below hf ((Spec.applies_iff_loose hf).mp happ).1 ⟨rfl, State.Warmed39.refl s, rfl⟩ trivial
  refine ⟨n, _, h1, h2, h3, hpost _ _ _ _ _ _ ⟨Cond.after_iff.mpr rfl, Cond.after_iff.mpr (eq_i res_at (Term.int_eval (1)) rfl), trivial⟩ ⟨hq.1, hq.2.1, hq.2.2.1, (hq.2.2.2.sift fun y hy => Or.inr (N y hy)).mono (by decide) (by decide)⟩⟩
theorem main_1_1 : Claimed_1_1 := comes_1 fun _ _ _ _ _ _ h hF => ⟨h.1, hF⟩
theorem main_1_2 : Claimed_1_2 := comes_1 fun _ _ _ _ _ _ h hF => ⟨h.2.1, hF⟩
end Jvm.Pilot.@@N@@
namespace Jvm.Pilot.@@N@@
open Jvm Jvm.ClassFile Sem Op Lib Jvm.Free Jvm.Stand Jvm.Pilot.@@N@@.Jvm.D
/-! MADE BY PROGRAM (witnessworld.py) out of the Statement's table words and the real class files: 25 classes; the members and pool entries that the words name. The judged class is class 1, her method 1. -/
namespace start1
open Jvm.ClassFile
def u (s : String) : CpInfo := .utf8 (stringToUtf16 s)
/-- a pool by its gaps: so many unusable entries, then the entry; so many at the end -/
def gap : Nat → List CpInfo → List CpInfo
  | 0, r => r
  | n + 1, r => .unusable :: gap n r
def poolList (es : List (Nat × CpInfo)) (last : Nat) : List CpInfo := es.foldr (fun e r => gap e.1 (e.2 :: r)) (gap last [])
def pool (es : List (Nat × CpInfo)) (last : Nat) : Array CpInfo := ⟨poolList es last⟩
def fileOf (pool : Array CpInfo) (this : Nat) (attrs : Array Attribute := #[]) (ms : Array MethodInfo := #[]) (fl : Nat := 33) (sup : Nat := 0) (ifs : Array Nat := #[]) (fds : Array FieldInfo := #[]) : ClassFile where
  minorVersion := 0
  majorVersion := 65
  constantPool := pool
  accessFlags := fl
  thisClass := this
  superClass := sup
  interfaces := ifs
  fields := fds
  methods := ms
  attributes := attrs
def plain (name : String) (sup : Option ClassId) : Class where
  name := name
  kind := .ordinary
  loader := none
  accessFlags := 33
  super := sup
  interfaces := #[]
  cf := none
  fields := #[]
  methods := #[]
  instanceTypes := #[]
  staticTypes := #[]
  resolved := #[]
  callSites := []
  init := .initialized
  statics := none
  mirror := none

def pool0 : Array CpInfo := pool [(5, u "<init>"), (0, u "()V"), (1, .class_ 10), (1, u "java/lang/Object")] 113

def k0c0 : Code := { maxStack := 0, maxLocals := 1, code := object_method_1_code, exceptionTable := #[], attributes := #[] }
def k0m0 : Method := { name := "<init>", desc := "()V", sig := { parameters := [], returnType := none }, accessFlags := 1, code := some k0c0 }
/-- java/lang/Object -/
def k0 : Class := { plain "java/lang/Object" none with
  accessFlags := 33
  interfaces := #[]
  cf := some (fileOf pool0 8 #[] #[{ accessFlags := 1, nameIndex := 5, descriptorIndex := 6, attributes := #[] }] 33 0 #[] #[])
  fields := #[]
  methods := #[k0m0]
  instanceTypes := #[]
  staticTypes := #[]
  resolved := Array.replicate 124 none
  statics := none }

def pool1 : Array CpInfo := pool [(2, .class_ 4), (0, .nameAndType 5 6), (0, u "java/lang/Object"), (0, u "<init>"), (0, u "()V"), (0, .class_ 8), (0, u "com/example/pipecaret/pipecaret/grammar/Constituent"), (0, .integer 2147483647), (0, .string 11), (0, u "SEG"), (0, .class_ 13), (0, u "java/util/ArrayList"), (0, .methodref 12 3), (0, .string 16), (0, u ""), (0, .methodref 7 18), (0, .nameAndType 5 19), (0, u "(Ljava/lang/String;Ljava/lang/String;Ljava/lang/Integer;ZILjava/lang/String;Ljava/util/List;)V"), (0, .methodref 21 22), (0, .class_ 23), (0, .nameAndType 24 25), (0, u "java/lang/Math"), (0, u "min"), (0, u "(II)I"), (0, .methodref 21 27), (0, .nameAndType 28 25), (0, u "max"), (0, .methodref 7 30), (0, .nameAndType 31 32), (0, u "allows"), (0, u "(I)Z"), (2, .class_ 36), (0, u "com/example/pipecaret/pipecaret/grammar/ConstituentAllowsPinLaw"), (2, u "law"), (0, u "(IIII)Z")] 5

def k1m0 : Method := { name := "<init>", desc := "()V", sig := { parameters := [], returnType := none }, accessFlags := 2, code := none }
def k1c1 : Code := { maxStack := 9, maxLocals := 15, code := code, exceptionTable := #[], attributes := #[] }
def k1m1 : Method := { name := "law", desc := "(IIII)Z", sig := { parameters := [.int, .int, .int, .int], returnType := some .boolean }, accessFlags := 9, code := some k1c1 }
/-- com/example/pipecaret/pipecaret/grammar/ConstituentAllowsPinLaw -/
def k1 : Class := { plain "com/example/pipecaret/pipecaret/grammar/ConstituentAllowsPinLaw" (some 0) with
  accessFlags := 49
  interfaces := #[]
  cf := some (fileOf pool1 35 #[] #[{ accessFlags := 2, nameIndex := 5, descriptorIndex := 6, attributes := #[] }, { accessFlags := 9, nameIndex := 39, descriptorIndex := 40, attributes := #[] }] 49 2 #[] #[])
  fields := #[]
  methods := #[k1m0, k1m1]
  instanceTypes := #[]
  staticTypes := #[]
  resolved := Array.replicate 46 none
  statics := none }

def pool2 : Array CpInfo := pool [(1, .class_ 2), (0, u "java/io/Serializable"), (0, .class_ 4), (0, u "java/lang/Object")] 2

/-- java/io/Serializable -/
def k2 : Class := { plain "java/io/Serializable" (some 0) with
  accessFlags := 1537
  interfaces := #[]
  cf := some (fileOf pool2 1 #[] #[] 1537 3 #[] #[])
  fields := #[]
  methods := #[]
  instanceTypes := #[]
  staticTypes := #[]
  resolved := Array.replicate 7 none
  statics := none }

def pool3 : Array CpInfo := pool [(1, .class_ 2), (0, u "java/lang/Comparable"), (0, .class_ 4), (0, u "java/lang/Object")] 7

/-- java/lang/Comparable -/
def k3 : Class := { plain "java/lang/Comparable" (some 0) with
  accessFlags := 1537
  interfaces := #[]
  cf := some (fileOf pool3 1 #[] #[] 1537 3 #[] #[])
  fields := #[]
  methods := #[]
  instanceTypes := #[]
  staticTypes := #[]
  resolved := Array.replicate 12 none
  statics := none }

def pool4 : Array CpInfo := pool [(2, .class_ 4), (1, u "java/lang/CharSequence"), (42, .class_ 48), (0, u "java/lang/CharSequence$1CodePointIterator"), (10, .class_ 60), (0, u "java/lang/CharSequence$1CharIterator"), (5, .class_ 67), (0, u "java/lang/Object")] 63

/-- java/lang/CharSequence -/
def k4 : Class := { plain "java/lang/CharSequence" (some 0) with
  accessFlags := 1537
  interfaces := #[]
  cf := some (fileOf pool4 2 #[.nestMembers #[47, 59]] #[] 1537 66 #[] #[])
  fields := #[]
  methods := #[]
  instanceTypes := #[]
  staticTypes := #[]
  resolved := Array.replicate 131 none
  statics := none }

def pool5 : Array CpInfo := pool [(1, .class_ 2), (0, u "java/lang/constant/Constable"), (0, .class_ 4), (0, u "java/lang/Object")] 6

/-- java/lang/constant/Constable -/
def k5 : Class := { plain "java/lang/constant/Constable" (some 0) with
  accessFlags := 1537
  interfaces := #[]
  cf := some (fileOf pool5 1 #[] #[] 1537 3 #[] #[])
  fields := #[]
  methods := #[]
  instanceTypes := #[]
  staticTypes := #[]
  resolved := Array.replicate 11 none
  statics := none }

def pool6 : Array CpInfo := pool [(1, .class_ 2), (0, u "java/lang/constant/ConstantDesc"), (0, .class_ 4), (0, u "java/lang/Object")] 32

/-- java/lang/constant/ConstantDesc -/
def k6 : Class := { plain "java/lang/constant/ConstantDesc" (some 0) with
  accessFlags := 1537
  interfaces := #[]
  cf := some (fileOf pool6 1 #[] #[] 1537 3 #[] #[])
  fields := #[]
  methods := #[]
  instanceTypes := #[]
  staticTypes := #[]
  resolved := Array.replicate 37 none
  statics := none }

def pool7 : Array CpInfo := pool [(2, .class_ 4), (1, u "java/lang/Object"), (0, u "<init>"), (0, u "()V"), (3, .class_ 12), (1, u "java/lang/String"), (0, u "value"), (0, u "[B"), (2, u "coder"), (0, u "B"), (2, u "hash"), (0, u "I"), (2, u "hashIsZero"), (0, u "Z"), (13, u "COMPACT_STRINGS"), (534, .class_ 576), (0, u "java/lang/CharSequence"), (22, u "CASE_INSENSITIVE_ORDER"), (0, u "Ljava/util/Comparator;"), (500, u "serialPersistentFields"), (0, u "[Ljava/io/ObjectStreamField;"), (0, .class_ 1104), (0, u "java/lang/String$CaseInsensitiveComparator"), (1, .class_ 1107), (0, u "java/io/Serializable"), (0, .class_ 1109), (0, u "java/lang/Comparable"), (0, .class_ 1111), (0, u "java/lang/constant/Constable"), (0, .class_ 1113), (0, u "java/lang/constant/ConstantDesc"), (2, u "serialVersionUID"), (0, u "J"), (3, u "REPL"), (0, u "C"), (2, u "LATIN1"), (1, u "UTF16")] 323

def k7m0 : Method := { name := "<init>", desc := "()V", sig := { parameters := [], returnType := none }, accessFlags := 1, code := none }
/-- java/lang/String -/
def k7 : Class := { plain "java/lang/String" (some 0) with
  accessFlags := 49
  interfaces := #[2, 3, 4, 5, 6]
  cf := some (fileOf pool7 10 #[.nestMembers #[1103]] #[{ accessFlags := 1, nameIndex := 5, descriptorIndex := 6, attributes := #[] }] 49 2 #[1106, 1108, 575, 1110, 1112] #[{ accessFlags := 18, nameIndex := 13, descriptorIndex := 14, attributes := #[] }, { accessFlags := 18, nameIndex := 17, descriptorIndex := 18, attributes := #[] }, { accessFlags := 2, nameIndex := 21, descriptorIndex := 22, attributes := #[] }, { accessFlags := 2, nameIndex := 25, descriptorIndex := 26, attributes := #[] }, { accessFlags := 26, nameIndex := 1116, descriptorIndex := 1117, attributes := #[] }, { accessFlags := 24, nameIndex := 40, descriptorIndex := 26, attributes := #[] }, { accessFlags := 26, nameIndex := 1101, descriptorIndex := 1102, attributes := #[] }, { accessFlags := 26, nameIndex := 1121, descriptorIndex := 1122, attributes := #[] }, { accessFlags := 25, nameIndex := 599, descriptorIndex := 600, attributes := #[] }, { accessFlags := 24, nameIndex := 1125, descriptorIndex := 18, attributes := #[] }, { accessFlags := 24, nameIndex := 1127, descriptorIndex := 18, attributes := #[] }])
  fields := #[{ name := "value", type := (.array .byte), accessFlags := 18, slot := 0, constantValue := 0 }, { name := "coder", type := .byte, accessFlags := 18, slot := 1, constantValue := 0 }, { name := "hash", type := .int, accessFlags := 2, slot := 2, constantValue := 0 }, { name := "hashIsZero", type := .boolean, accessFlags := 2, slot := 3, constantValue := 0 }, { name := "serialVersionUID", type := .long, accessFlags := 26, slot := 0, constantValue := 0 }, { name := "COMPACT_STRINGS", type := .boolean, accessFlags := 24, slot := 1, constantValue := 0 }, { name := "serialPersistentFields", type := (.array (.object "java/io/ObjectStreamField")), accessFlags := 26, slot := 2, constantValue := 0 }, { name := "REPL", type := .char, accessFlags := 26, slot := 3, constantValue := 0 }, { name := "CASE_INSENSITIVE_ORDER", type := (.object "java/util/Comparator"), accessFlags := 25, slot := 4, constantValue := 0 }, { name := "LATIN1", type := .byte, accessFlags := 24, slot := 5, constantValue := 0 }, { name := "UTF16", type := .byte, accessFlags := 24, slot := 6, constantValue := 0 }]
  methods := #[k7m0]
  instanceTypes := #[(.array .byte), .byte, .int, .boolean]
  staticTypes := #[.long, .boolean, (.array (.object "java/io/ObjectStreamField")), .char, (.object "java/util/Comparator"), .byte, .byte]
  resolved := Array.replicate 1451 none
  statics := none }

def pool8 : Array CpInfo := pool [(8, .class_ 10), (1, u "java/lang/Iterable"), (24, .class_ 36), (0, u "java/lang/Object")] 25

/-- java/lang/Iterable -/
def k8 : Class := { plain "java/lang/Iterable" (some 0) with
  accessFlags := 1537
  interfaces := #[]
  cf := some (fileOf pool8 8 #[] #[] 1537 35 #[] #[])
  fields := #[]
  methods := #[]
  instanceTypes := #[]
  staticTypes := #[]
  resolved := Array.replicate 62 none
  statics := none }

def pool9 : Array CpInfo := pool [(10, .class_ 12), (1, u "java/util/Collection"), (47, .class_ 61), (0, u "java/lang/Object"), (0, .class_ 63), (0, u "java/lang/Iterable")] 51

/-- java/util/Collection -/
def k9 : Class := { plain "java/util/Collection" (some 0) with
  accessFlags := 1537
  interfaces := #[8]
  cf := some (fileOf pool9 10 #[] #[] 1537 60 #[62] #[])
  fields := #[]
  methods := #[]
  instanceTypes := #[]
  staticTypes := #[]
  resolved := Array.replicate 115 none
  statics := none }

def pool10 : Array CpInfo := pool [(1, .methodref 2 3), (0, .class_ 4), (0, .nameAndType 5 6), (0, u "java/lang/Object"), (0, u "<init>"), (0, u "()V"), (1, .class_ 10), (1, u "java/util/AbstractCollection"), (66, .class_ 78), (0, u "java/util/Collection")] 81

def k10c0 : Code := { maxStack := 1, maxLocals := 1, code := jdk_22_method_1_code, exceptionTable := #[], attributes := #[] }
def k10m0 : Method := { name := "<init>", desc := "()V", sig := { parameters := [], returnType := none }, accessFlags := 4, code := some k10c0 }
/-- java/util/AbstractCollection -/
def k10 : Class := { plain "java/util/AbstractCollection" (some 0) with
  accessFlags := 1057
  interfaces := #[9]
  cf := some (fileOf pool10 8 #[] #[{ accessFlags := 4, nameIndex := 5, descriptorIndex := 6, attributes := #[] }] 1057 2 #[77] #[])
  fields := #[]
  methods := #[k10m0]
  instanceTypes := #[]
  staticTypes := #[]
  resolved := Array.replicate 160 none
  statics := none }

def pool11 : Array CpInfo := pool [(8, .class_ 10), (1, u "java/util/SequencedCollection"), (15, .class_ 27), (0, u "java/lang/Object"), (0, .class_ 29), (0, u "java/util/Collection")] 27

/-- java/util/SequencedCollection -/
def k11 : Class := { plain "java/util/SequencedCollection" (some 0) with
  accessFlags := 1537
  interfaces := #[9]
  cf := some (fileOf pool11 8 #[] #[] 1537 26 #[28] #[])
  fields := #[]
  methods := #[]
  instanceTypes := #[]
  staticTypes := #[]
  resolved := Array.replicate 57 none
  statics := none }

def pool12 : Array CpInfo := pool [(8, .class_ 10), (1, u "java/util/List"), (92, .class_ 104), (0, u "java/lang/Object"), (15, .class_ 121), (0, u "java/util/SequencedCollection")] 129

/-- java/util/List -/
def k12 : Class := { plain "java/util/List" (some 0) with
  accessFlags := 1537
  interfaces := #[11]
  cf := some (fileOf pool12 8 #[] #[] 1537 103 #[120] #[])
  fields := #[]
  methods := #[]
  instanceTypes := #[]
  staticTypes := #[]
  resolved := Array.replicate 251 none
  statics := none }

def pool13 : Array CpInfo := pool [(1, .methodref 2 3), (0, .class_ 4), (0, .nameAndType 5 6), (0, u "java/util/AbstractCollection"), (0, u "<init>"), (0, u "()V"), (0, .fieldref 8 9), (0, .class_ 10), (0, .nameAndType 11 12), (0, u "java/util/AbstractList"), (0, u "modCount"), (0, u "I"), (64, .class_ 78), (0, u "java/util/AbstractList$Itr"), (3, .class_ 83), (0, u "java/util/AbstractList$ListItr"), (9, .class_ 94), (0, u "java/util/AbstractList$RandomAccessSubList"), (3, .class_ 99), (0, u "java/util/AbstractList$SubList"), (33, .class_ 134), (0, u "java/util/List"), (73, .class_ 209), (0, u "java/util/AbstractList$SubList$1"), (0, .class_ 211), (0, u "java/util/AbstractList$RandomAccessSpliterator")] 6

def k13c0 : Code := { maxStack := 2, maxLocals := 1, code := jdk_39_method_1_code, exceptionTable := #[], attributes := #[] }
def k13m0 : Method := { name := "<init>", desc := "()V", sig := { parameters := [], returnType := none }, accessFlags := 4, code := some k13c0 }
/-- java/util/AbstractList -/
def k13 : Class := { plain "java/util/AbstractList" (some 10) with
  accessFlags := 1057
  interfaces := #[12]
  cf := some (fileOf pool13 8 #[.nestMembers #[93, 98, 208, 210, 82, 77]] #[{ accessFlags := 4, nameIndex := 5, descriptorIndex := 6, attributes := #[] }] 1057 2 #[133] #[{ accessFlags := 132, nameIndex := 11, descriptorIndex := 12, attributes := #[] }])
  fields := #[{ name := "modCount", type := .int, accessFlags := 132, slot := 0, constantValue := 0 }]
  methods := #[k13m0]
  instanceTypes := #[.int]
  staticTypes := #[]
  resolved := Array.replicate 218 none
  statics := none }

def pool14 : Array CpInfo := pool [(1, .class_ 2), (0, u "java/util/RandomAccess"), (0, .class_ 4), (0, u "java/lang/Object")] 2

/-- java/util/RandomAccess -/
def k14 : Class := { plain "java/util/RandomAccess" (some 0) with
  accessFlags := 1537
  interfaces := #[]
  cf := some (fileOf pool14 1 #[] #[] 1537 3 #[] #[])
  fields := #[]
  methods := #[]
  instanceTypes := #[]
  staticTypes := #[]
  resolved := Array.replicate 7 none
  statics := none }

def pool15 : Array CpInfo := pool [(1, .class_ 2), (0, u "java/lang/Cloneable"), (0, .class_ 4), (0, u "java/lang/Object")] 2

/-- java/lang/Cloneable -/
def k15 : Class := { plain "java/lang/Cloneable" (some 0) with
  accessFlags := 1537
  interfaces := #[]
  cf := some (fileOf pool15 1 #[] #[] 1537 3 #[] #[])
  fields := #[]
  methods := #[]
  instanceTypes := #[]
  staticTypes := #[]
  resolved := Array.replicate 7 none
  statics := none }

def pool16 : Array CpInfo := pool [(1, .methodref 2 3), (0, .class_ 4), (0, .nameAndType 5 6), (0, u "java/util/AbstractList"), (0, u "<init>"), (0, u "()V"), (2, .fieldref 10 11), (0, .class_ 12), (0, .nameAndType 13 14), (0, u "java/util/ArrayList"), (0, u "elementData"), (0, u "[Ljava/lang/Object;"), (2, u "EMPTY_ELEMENTDATA"), (21, .fieldref 10 40), (0, .nameAndType 41 14), (0, u "DEFAULTCAPACITY_EMPTY_ELEMENTDATA"), (8, u "size"), (0, u "I"), (96, .class_ 149), (0, u "java/util/List"), (112, .class_ 263), (0, u "java/util/ArrayList$ListItr"), (3, .class_ 268), (0, u "java/util/ArrayList$Itr"), (7, .class_ 277), (0, u "java/util/ArrayList$SubList"), (12, .class_ 291), (0, u "java/util/ArrayList$ArrayListSpliterator"), (37, .class_ 330), (0, u "java/util/RandomAccess"), (0, .class_ 332), (0, u "java/lang/Cloneable"), (0, .class_ 334), (0, u "java/io/Serializable"), (0, u "serialVersionUID"), (0, u "J"), (3, u "DEFAULT_CAPACITY"), (159, .class_ 501), (0, u "java/util/ArrayList$SubList$2"), (0, .class_ 503), (0, u "java/util/ArrayList$SubList$1")] 5

def k16c0 : Code := { maxStack := 2, maxLocals := 1, code := jdk_38_method_2_code, exceptionTable := #[], attributes := #[] }
def k16m0 : Method := { name := "<init>", desc := "()V", sig := { parameters := [], returnType := none }, accessFlags := 1, code := some k16c0 }
/-- java/util/ArrayList -/
def k16 : Class := { plain "java/util/ArrayList" (some 13) with
  accessFlags := 33
  interfaces := #[12, 14, 15, 2]
  cf := some (fileOf pool16 10 #[.nestMembers #[290, 276, 500, 502, 262, 267]] #[{ accessFlags := 1, nameIndex := 5, descriptorIndex := 6, attributes := #[] }] 33 2 #[148, 329, 331, 333] #[{ accessFlags := 26, nameIndex := 335, descriptorIndex := 336, attributes := #[] }, { accessFlags := 26, nameIndex := 340, descriptorIndex := 51, attributes := #[] }, { accessFlags := 26, nameIndex := 17, descriptorIndex := 14, attributes := #[] }, { accessFlags := 26, nameIndex := 41, descriptorIndex := 14, attributes := #[] }, { accessFlags := 128, nameIndex := 13, descriptorIndex := 14, attributes := #[] }, { accessFlags := 2, nameIndex := 50, descriptorIndex := 51, attributes := #[] }])
  fields := #[{ name := "serialVersionUID", type := .long, accessFlags := 26, slot := 0, constantValue := 0 }, { name := "DEFAULT_CAPACITY", type := .int, accessFlags := 26, slot := 1, constantValue := 0 }, { name := "EMPTY_ELEMENTDATA", type := (.array (.object "java/lang/Object")), accessFlags := 26, slot := 2, constantValue := 0 }, { name := "DEFAULTCAPACITY_EMPTY_ELEMENTDATA", type := (.array (.object "java/lang/Object")), accessFlags := 26, slot := 3, constantValue := 0 }, { name := "elementData", type := (.array (.object "java/lang/Object")), accessFlags := 128, slot := 1, constantValue := 0 }, { name := "size", type := .int, accessFlags := 2, slot := 2, constantValue := 0 }]
  methods := #[k16m0]
  instanceTypes := #[.int, (.array (.object "java/lang/Object")), .int]
  staticTypes := #[.long, .int, (.array (.object "java/lang/Object")), (.array (.object "java/lang/Object"))]
  resolved := Array.replicate 509 none
  statics := some 0 }

def pool17 : Array CpInfo := pool [(1, .methodref 2 3), (0, .class_ 4), (0, .nameAndType 5 6), (0, u "java/lang/Object"), (0, u "<init>"), (0, u "()V"), (0, .class_ 8), (0, u "java/lang/Record")] 13

def k17c0 : Code := { maxStack := 1, maxLocals := 1, code := jdk_30_method_1_code, exceptionTable := #[], attributes := #[] }
def k17m0 : Method := { name := "<init>", desc := "()V", sig := { parameters := [], returnType := none }, accessFlags := 4, code := some k17c0 }
/-- java/lang/Record -/
def k17 : Class := { plain "java/lang/Record" (some 0) with
  accessFlags := 1057
  interfaces := #[]
  cf := some (fileOf pool17 7 #[] #[{ accessFlags := 4, nameIndex := 5, descriptorIndex := 6, attributes := #[] }] 1057 2 #[] #[])
  fields := #[]
  methods := #[k17m0]
  instanceTypes := #[]
  staticTypes := #[]
  resolved := Array.replicate 22 none
  statics := none }

def pool18 : Array CpInfo := pool [(1, .methodref 2 3), (0, .class_ 4), (0, .nameAndType 5 6), (0, u "java/lang/Record"), (0, u "<init>"), (0, u "()V"), (0, .fieldref 8 9), (0, .class_ 10), (0, .nameAndType 11 12), (0, u "com/example/pipecaret/pipecaret/grammar/Constituent"), (0, u "type"), (0, u "Ljava/lang/String;"), (0, .fieldref 8 14), (0, .nameAndType 15 12), (0, u "description"), (0, .fieldref 8 17), (0, .nameAndType 18 19), (0, u "length"), (0, u "Ljava/lang/Integer;"), (0, .fieldref 8 21), (0, .nameAndType 22 23), (0, u "required"), (0, u "Z"), (0, .fieldref 8 25), (0, .nameAndType 26 27), (0, u "repeatability"), (0, u "I"), (0, .fieldref 8 29), (0, .nameAndType 30 12), (0, u "table"), (0, .fieldref 8 32), (0, .nameAndType 33 34), (0, u "constituents"), (0, u "Ljava/util/List;"), (2, u "allows"), (0, u "(I)Z"), (98, u "GROUP"), (26, u "UNBOUNDED"), (2, u "(Ljava/lang/String;Ljava/lang/String;Ljava/lang/Integer;ZILjava/lang/String;Ljava/util/List;)V")] 62

def k18c0 : Code := { maxStack := 2, maxLocals := 8, code := prog_11_method_1_code, exceptionTable := #[], attributes := #[] }
def k18m0 : Method := { name := "<init>", desc := "(Ljava/lang/String;Ljava/lang/String;Ljava/lang/Integer;ZILjava/lang/String;Ljava/util/List;)V", sig := { parameters := [(.object "java/lang/String"), (.object "java/lang/String"), (.object "java/lang/Integer"), .boolean, .int, (.object "java/lang/String"), (.object "java/util/List")], returnType := none }, accessFlags := 0, code := some k18c0 }
def k18c1 : Code := { maxStack := 2, maxLocals := 2, code := prog_11_method_3_code, exceptionTable := #[], attributes := #[] }
def k18m1 : Method := { name := "allows", desc := "(I)Z", sig := { parameters := [.int], returnType := some .boolean }, accessFlags := 0, code := some k18c1 }
/-- com/example/pipecaret/pipecaret/grammar/Constituent -/
def k18 : Class := { plain "com/example/pipecaret/pipecaret/grammar/Constituent" (some 17) with
  accessFlags := 48
  interfaces := #[]
  cf := some (fileOf pool18 8 #[] #[{ accessFlags := 0, nameIndex := 5, descriptorIndex := 167, attributes := #[] }, { accessFlags := 0, nameIndex := 37, descriptorIndex := 38, attributes := #[] }] 48 2 #[] #[{ accessFlags := 18, nameIndex := 11, descriptorIndex := 12, attributes := #[] }, { accessFlags := 18, nameIndex := 15, descriptorIndex := 12, attributes := #[] }, { accessFlags := 18, nameIndex := 18, descriptorIndex := 19, attributes := #[] }, { accessFlags := 18, nameIndex := 22, descriptorIndex := 23, attributes := #[] }, { accessFlags := 18, nameIndex := 26, descriptorIndex := 27, attributes := #[] }, { accessFlags := 18, nameIndex := 30, descriptorIndex := 12, attributes := #[] }, { accessFlags := 18, nameIndex := 33, descriptorIndex := 34, attributes := #[] }, { accessFlags := 24, nameIndex := 164, descriptorIndex := 27, attributes := #[] }, { accessFlags := 26, nameIndex := 137, descriptorIndex := 12, attributes := #[] }])
  fields := #[{ name := "type", type := (.object "java/lang/String"), accessFlags := 18, slot := 0, constantValue := 0 }, { name := "description", type := (.object "java/lang/String"), accessFlags := 18, slot := 1, constantValue := 0 }, { name := "length", type := (.object "java/lang/Integer"), accessFlags := 18, slot := 2, constantValue := 0 }, { name := "required", type := .boolean, accessFlags := 18, slot := 3, constantValue := 0 }, { name := "repeatability", type := .int, accessFlags := 18, slot := 4, constantValue := 0 }, { name := "table", type := (.object "java/lang/String"), accessFlags := 18, slot := 5, constantValue := 0 }, { name := "constituents", type := (.object "java/util/List"), accessFlags := 18, slot := 6, constantValue := 0 }, { name := "UNBOUNDED", type := .int, accessFlags := 24, slot := 0, constantValue := 0 }, { name := "GROUP", type := (.object "java/lang/String"), accessFlags := 26, slot := 1, constantValue := 0 }]
  methods := #[k18m0, k18m1]
  instanceTypes := #[(.object "java/lang/String"), (.object "java/lang/String"), (.object "java/lang/Integer"), .boolean, .int, (.object "java/lang/String"), (.object "java/util/List")]
  staticTypes := #[.int, (.object "java/lang/String")]
  resolved := Array.replicate 230 none
  statics := none }

def pool19 : Array CpInfo := pool [(1, .class_ 2), (0, u "java/lang/Math"), (1, .class_ 6), (1, u "java/lang/Object"), (0, u "<init>"), (0, u "()V"), (89, .class_ 100), (1, u "java/lang/Math$RandomNumberGeneratorHolder"), (71, u "negativeZeroFloatBits"), (0, u "J"), (2, u "negativeZeroDoubleBits"), (21, u "max"), (2, u "min"), (43, u "$assertionsDisabled"), (0, u "Z"), (88, u "(II)I"), (2, u "twoToTheDoubleScaleDown"), (0, u "D"), (4, u "twoToTheDoubleScaleUp"), (9, u "E"), (3, u "PI"), (2, u "TAU"), (2, u "DEGREES_TO_RADIANS"), (0, u "RADIANS_TO_DEGREES")] 94

def k19m0 : Method := { name := "<init>", desc := "()V", sig := { parameters := [], returnType := none }, accessFlags := 2, code := none }
def k19c1 : Code := { maxStack := 2, maxLocals := 2, code := jdk_29_method_65_code, exceptionTable := #[], attributes := #[] }
def k19m1 : Method := { name := "max", desc := "(II)I", sig := { parameters := [.int, .int], returnType := some .int }, accessFlags := 9, code := some k19c1 }
def k19c2 : Code := { maxStack := 2, maxLocals := 2, code := jdk_29_method_69_code, exceptionTable := #[], attributes := #[] }
def k19m2 : Method := { name := "min", desc := "(II)I", sig := { parameters := [.int, .int], returnType := some .int }, accessFlags := 9, code := some k19c2 }
/-- java/lang/Math -/
def k19 : Class := { plain "java/lang/Math" (some 0) with
  accessFlags := 49
  interfaces := #[]
  cf := some (fileOf pool19 1 #[.nestMembers #[98]] #[{ accessFlags := 2, nameIndex := 7, descriptorIndex := 8, attributes := #[] }, { accessFlags := 9, nameIndex := 198, descriptorIndex := 335, attributes := #[] }, { accessFlags := 9, nameIndex := 201, descriptorIndex := 335, attributes := #[] }] 49 4 #[] #[{ accessFlags := 25, nameIndex := 354, descriptorIndex := 339, attributes := #[] }, { accessFlags := 25, nameIndex := 358, descriptorIndex := 339, attributes := #[] }, { accessFlags := 25, nameIndex := 361, descriptorIndex := 339, attributes := #[] }, { accessFlags := 26, nameIndex := 364, descriptorIndex := 339, attributes := #[] }, { accessFlags := 26, nameIndex := 365, descriptorIndex := 339, attributes := #[] }, { accessFlags := 26, nameIndex := 172, descriptorIndex := 173, attributes := #[] }, { accessFlags := 26, nameIndex := 176, descriptorIndex := 173, attributes := #[] }, { accessFlags := 8, nameIndex := 344, descriptorIndex := 339, attributes := #[] }, { accessFlags := 8, nameIndex := 338, descriptorIndex := 339, attributes := #[] }, { accessFlags := 4120, nameIndex := 245, descriptorIndex := 246, attributes := #[] }])
  fields := #[{ name := "E", type := .double, accessFlags := 25, slot := 0, constantValue := 0 }, { name := "PI", type := .double, accessFlags := 25, slot := 1, constantValue := 0 }, { name := "TAU", type := .double, accessFlags := 25, slot := 2, constantValue := 0 }, { name := "DEGREES_TO_RADIANS", type := .double, accessFlags := 26, slot := 3, constantValue := 0 }, { name := "RADIANS_TO_DEGREES", type := .double, accessFlags := 26, slot := 4, constantValue := 0 }, { name := "negativeZeroFloatBits", type := .long, accessFlags := 26, slot := 5, constantValue := 0 }, { name := "negativeZeroDoubleBits", type := .long, accessFlags := 26, slot := 6, constantValue := 0 }, { name := "twoToTheDoubleScaleUp", type := .double, accessFlags := 8, slot := 7, constantValue := 0 }, { name := "twoToTheDoubleScaleDown", type := .double, accessFlags := 8, slot := 8, constantValue := 0 }, { name := "$assertionsDisabled", type := .boolean, accessFlags := 4120, slot := 9, constantValue := 0 }]
  methods := #[k19m0, k19m1, k19m2]
  instanceTypes := #[]
  staticTypes := #[.double, .double, .double, .double, .double, .long, .long, .double, .double, .boolean]
  resolved := Array.replicate 460 none
  statics := none }

/-- the primitive byte -/
def k20 : Class := { plain "byte" none with kind := .primitive 'B', accessFlags := 0x411 }
/-- [B -/
def k21 : Class := { plain "[B" (some 0) with kind := .array 20 .byte, interfaces := #[15, 2], accessFlags := 1041 }

/-- the primitive int -/
def k22 : Class := { plain "int" none with kind := .primitive 'I', accessFlags := 0x411 }
/-- [I -/
def k23 : Class := { plain "[I" (some 0) with kind := .array 22 .int, interfaces := #[15, 2], accessFlags := 1041 }

/-- [Ljava/lang/Object; -/
def k24 : Class := { plain "[Ljava/lang/Object;" (some 0) with kind := .array 0 (.object "java/lang/Object"), interfaces := #[15, 2], accessFlags := 1041 }

def heap : Heap := #[{ cls := 16, slots := #[.long 0, .int 0, .ref 1, .ref 2], vm := .statics 16 },
  { cls := 24, slots := #[], vm := .none },
  { cls := 24, slots := #[], vm := .none }]
def classes : Array Class := #[k0, k1, k2, k3, k4, k5, k6, k7, k8, k9, k10, k11, k12, k13, k14, k15, k16, k17, k18, k19, k20, k21, k22, k23, k24]
def interned : List (Array UInt16 × Addr) := []
def slotsUsed : Nat := 4
def theMethod : MethodId := ⟨1, 1⟩
def args0 : Array Value := #[.int 3, .int 2, .int 5, .int 6]
def aboutOver (below : List Frame) : State where
  vm := { classes := classes, interned := interned.toArray }
  heap := heap
  slotsUsed := slotsUsed
  threads := #[{ frames := .invoking theMethod args0 :: below }]
def below0 : List Frame := [.native { method := ⟨0, 0⟩, args := #[] }]
def about1 : State := aboutOver below0
def p0 : Program := .bare "" "" ""
def e0 : Env := launch0.env 0 0 0
theorem w_frames : about1.frames = Frame.invoking theMethod args0 :: below0 := rfl
set_option maxRecDepth 65536 in
theorem w_args : argsFit about1.vm theMethod args0 = true := by decide +kernel
set_option maxRecDepth 65536 in
theorem w_heap : heapFits about1 = true := by decide +kernel
set_option maxRecDepth 65536 in
theorem w_runnable : about1.curStatus? = some .runnable := by decide +kernel
set_option maxRecDepth 65536 in
theorem w_alone : about1.alone = true := by decide +kernel
set_option maxRecDepth 65536 in
theorem w_named : about1.methodNamed? x = some theMethod := by decide +kernel
set_option maxRecDepth 65536 in
theorem w_hears : about1.hears theMethod below0 = true := by decide +kernel
set_option maxRecDepth 65536 in
theorem w_ripe : about1.ripe theMethod args0 below0 = true := by decide +kernel
theorem w_running : about1.status = .running := rfl
set_option maxRecDepth 65536 in
theorem w_room : about1.hasRoom e0.platform room_1 = true :=
  launch0.hasRoom_least _ room_1 (by decide +kernel) (by decide +kernel) (by decide +kernel) (by decide +kernel) (by decide +kernel) (by decide +kernel)
theorem allAtoms_all (ts : List Jvm.Cond) (a : Array Jvm.Value) (st : Jvm.State) : (allAtoms ts).before a st = ts.all (fun c => c.before a st) := by
  induction ts with
  | nil => rfl
  | cons c t ih =>
    show (Jvm.Cond.and c (allAtoms t)).before a st = _
    rw [Jvm.Cond.before_and, ih, List.all_cons]
def words1 : List Jvm.Cond := Jvm.Cond.code x code maxLocals ret :: tables_1
/-- a 'code' word, met by the world's own term for the bytes: nothing is compared byte by byte -/
theorem code_word {y : MethodName} {bytes : ByteArray} {mx : Nat} {rt : Option FieldType} {a : Array Value} {s : State} {m : MethodId} {meth : Method} {c : Code} (h1 : s.methodNamed? y = some m) (h2 : s.vm.method? m = some meth) (h3 : meth.code = some c) (h4 : c.code = bytes)
    (h5 : (c.maxLocals == mx && c.exceptionTable.isEmpty && decide (c.maxStack ≤ mostOperands) && decide (meth.sig.returnType = rt) && !meth.locks && decide (parseMethodDescriptor y.desc = some meth.sig)) = true) : (Jvm.Cond.code y bytes mx rt).before a s = true := by
  simp only [Bool.and_eq_true, beq_iff_eq, Bool.not_eq_true', decide_eq_true_eq] at h5
  obtain ⟨⟨⟨⟨⟨g1, g2⟩, g3⟩, g4⟩, g5⟩, g6⟩ := h5
  simp [Cond.before, Cond.holds, Cond.value, h1, h2, h3, h4, g1, g2, g3, g4, g5, g6]
def isCode : Jvm.Cond → Bool
  | .code _ _ _ _ => true
  | _ => false
theorem all_split {L : List Jvm.Cond} {P : Jvm.Cond → Bool} (h1 : L.all (fun c => isCode c || P c) = true) (h2 : ∀ c ∈ L.filter isCode, P c = true) : L.all P = true := by
  refine List.all_eq_true.mpr fun c hc => ?_
  have h := List.all_eq_true.mp h1 c hc
  rcases Bool.eq_false_or_eq_true (isCode c) with hi | hi
  · exact h2 c (List.mem_filter.mpr ⟨hc, hi⟩)
  · simpa [hi] using h
set_option maxRecDepth 65536 in
theorem w_c0 : (Jvm.Cond.code x code maxLocals ret).before args0 about1 = true := code_word (m := ⟨1, 1⟩) (meth := k1m1) (c := k1c1) (by decide +kernel) rfl rfl rfl (by decide +kernel)
set_option maxRecDepth 65536 in
theorem w_c1 : (Jvm.Cond.code ({ cls := "java/util/ArrayList", name := "<init>", desc := "()V" } : Jvm.MethodName) jdk_38_method_2_code (1 : Nat) (Option.none : Option Jvm.ClassFile.FieldType)).before args0 about1 = true := code_word (m := ⟨16, 0⟩) (meth := k16m0) (c := k16c0) (by decide +kernel) rfl rfl rfl (by decide +kernel)
set_option maxRecDepth 65536 in
theorem w_c2 : (Jvm.Cond.code ({ cls := "java/util/AbstractList", name := "<init>", desc := "()V" } : Jvm.MethodName) jdk_39_method_1_code (1 : Nat) (Option.none : Option Jvm.ClassFile.FieldType)).before args0 about1 = true := code_word (m := ⟨13, 0⟩) (meth := k13m0) (c := k13c0) (by decide +kernel) rfl rfl rfl (by decide +kernel)
set_option maxRecDepth 65536 in
theorem w_c3 : (Jvm.Cond.code ({ cls := "java/util/AbstractCollection", name := "<init>", desc := "()V" } : Jvm.MethodName) jdk_22_method_1_code (1 : Nat) (Option.none : Option Jvm.ClassFile.FieldType)).before args0 about1 = true := code_word (m := ⟨10, 0⟩) (meth := k10m0) (c := k10c0) (by decide +kernel) rfl rfl rfl (by decide +kernel)
set_option maxRecDepth 65536 in
theorem w_c4 : (Jvm.Cond.code ({ cls := "java/lang/Object", name := "<init>", desc := "()V" } : Jvm.MethodName) object_method_1_code (1 : Nat) (Option.none : Option Jvm.ClassFile.FieldType)).before args0 about1 = true := code_word (m := ⟨0, 0⟩) (meth := k0m0) (c := k0c0) (by decide +kernel) rfl rfl rfl (by decide +kernel)
set_option maxRecDepth 65536 in
theorem w_c5 : (Jvm.Cond.code ({ cls := "com/example/pipecaret/pipecaret/grammar/Constituent", name := "<init>", desc := "(Ljava/lang/String;Ljava/lang/String;Ljava/lang/Integer;ZILjava/lang/String;Ljava/util/List;)V" } : Jvm.MethodName) prog_11_method_1_code (8 : Nat) (Option.none : Option Jvm.ClassFile.FieldType)).before args0 about1 = true := code_word (m := ⟨18, 0⟩) (meth := k18m0) (c := k18c0) (by decide +kernel) rfl rfl rfl (by decide +kernel)
set_option maxRecDepth 65536 in
theorem w_c6 : (Jvm.Cond.code ({ cls := "java/lang/Record", name := "<init>", desc := "()V" } : Jvm.MethodName) jdk_30_method_1_code (1 : Nat) (Option.none : Option Jvm.ClassFile.FieldType)).before args0 about1 = true := code_word (m := ⟨17, 0⟩) (meth := k17m0) (c := k17c0) (by decide +kernel) rfl rfl rfl (by decide +kernel)
set_option maxRecDepth 65536 in
theorem w_c7 : (Jvm.Cond.code ({ cls := "java/lang/Math", name := "min", desc := "(II)I" } : Jvm.MethodName) jdk_29_method_69_code (2 : Nat) (Option.some Jvm.ClassFile.FieldType.int)).before args0 about1 = true := code_word (m := ⟨19, 2⟩) (meth := k19m2) (c := k19c2) (by decide +kernel) rfl rfl rfl (by decide +kernel)
set_option maxRecDepth 65536 in
theorem w_c8 : (Jvm.Cond.code ({ cls := "java/lang/Math", name := "max", desc := "(II)I" } : Jvm.MethodName) jdk_29_method_65_code (2 : Nat) (Option.some Jvm.ClassFile.FieldType.int)).before args0 about1 = true := code_word (m := ⟨19, 1⟩) (meth := k19m1) (c := k19c1) (by decide +kernel) rfl rfl rfl (by decide +kernel)
set_option maxRecDepth 65536 in
theorem w_c9 : (Jvm.Cond.code ({ cls := "com/example/pipecaret/pipecaret/grammar/Constituent", name := "allows", desc := "(I)Z" } : Jvm.MethodName) prog_11_method_3_code (2 : Nat) (Option.some Jvm.ClassFile.FieldType.boolean)).before args0 about1 = true := code_word (m := ⟨18, 1⟩) (meth := k18m1) (c := k18c1) (by decide +kernel) rfl rfl rfl (by decide +kernel)
def codes1 : List Jvm.Cond := [Jvm.Cond.code x code maxLocals ret, Jvm.Cond.code ({ cls := "java/util/ArrayList", name := "<init>", desc := "()V" } : Jvm.MethodName) jdk_38_method_2_code (1 : Nat) (Option.none : Option Jvm.ClassFile.FieldType), Jvm.Cond.code ({ cls := "java/util/AbstractList", name := "<init>", desc := "()V" } : Jvm.MethodName) jdk_39_method_1_code (1 : Nat) (Option.none : Option Jvm.ClassFile.FieldType), Jvm.Cond.code ({ cls := "java/util/AbstractCollection", name := "<init>", desc := "()V" } : Jvm.MethodName) jdk_22_method_1_code (1 : Nat) (Option.none : Option Jvm.ClassFile.FieldType), Jvm.Cond.code ({ cls := "java/lang/Object", name := "<init>", desc := "()V" } : Jvm.MethodName) object_method_1_code (1 : Nat) (Option.none : Option Jvm.ClassFile.FieldType), Jvm.Cond.code ({ cls := "com/example/pipecaret/pipecaret/grammar/Constituent", name := "<init>", desc := "(Ljava/lang/String;Ljava/lang/String;Ljava/lang/Integer;ZILjava/lang/String;Ljava/util/List;)V" } : Jvm.MethodName) prog_11_method_1_code (8 : Nat) (Option.none : Option Jvm.ClassFile.FieldType), Jvm.Cond.code ({ cls := "java/lang/Record", name := "<init>", desc := "()V" } : Jvm.MethodName) jdk_30_method_1_code (1 : Nat) (Option.none : Option Jvm.ClassFile.FieldType), Jvm.Cond.code ({ cls := "java/lang/Math", name := "min", desc := "(II)I" } : Jvm.MethodName) jdk_29_method_69_code (2 : Nat) (Option.some Jvm.ClassFile.FieldType.int), Jvm.Cond.code ({ cls := "java/lang/Math", name := "max", desc := "(II)I" } : Jvm.MethodName) jdk_29_method_65_code (2 : Nat) (Option.some Jvm.ClassFile.FieldType.int), Jvm.Cond.code ({ cls := "com/example/pipecaret/pipecaret/grammar/Constituent", name := "allows", desc := "(I)Z" } : Jvm.MethodName) prog_11_method_3_code (2 : Nat) (Option.some Jvm.ClassFile.FieldType.boolean)]
set_option maxRecDepth 65536 in
theorem codes_eq : words1.filter isCode = codes1 := rfl
theorem w_codes : ∀ c ∈ words1.filter isCode, c.before args0 about1 = true := by
  rw [codes_eq]
  intro c hc
  simp only [codes1, List.mem_cons, List.not_mem_nil, or_false] at hc
  rcases hc with rfl | rfl | rfl | rfl | rfl | rfl | rfl | rfl | rfl | rfl
  · exact w_c0
  · exact w_c1
  · exact w_c2
  · exact w_c3
  · exact w_c4
  · exact w_c5
  · exact w_c6
  · exact w_c7
  · exact w_c8
  · exact w_c9
set_option maxRecDepth 65536 in
theorem w_t1 : (words1.take 24).all (fun c => isCode c || c.before args0 about1) = true := by decide +kernel
set_option maxRecDepth 65536 in
theorem w_t2 : ((words1.drop 24).take 24).all (fun c => isCode c || c.before args0 about1) = true := by decide +kernel
set_option maxRecDepth 65536 in
theorem w_t3 : (((words1.drop 24).drop 24).take 24).all (fun c => isCode c || c.before args0 about1) = true := by decide +kernel
set_option maxRecDepth 65536 in
theorem w_t4 : (((words1.drop 24).drop 24).drop 24).all (fun c => isCode c || c.before args0 about1) = true := by decide +kernel
theorem w_tables : (allAtoms (Jvm.Cond.code x code maxLocals ret :: tables_1)).before args0 about1 = true := by
  rw [allAtoms_all]
  show words1.all (fun c => c.before args0 about1) = true
  refine all_split ?_ w_codes
  rw [← List.take_append_drop 24 words1, List.all_append, w_t1, ← List.take_append_drop 24 (words1.drop 24), List.all_append, w_t2, ← List.take_append_drop 24 ((words1.drop 24).drop 24), List.all_append, w_t3, w_t4]
  rfl
set_option maxRecDepth 65536 in
theorem w_rest : rest_1_c.before args0 about1 = true := by decide +kernel
set_option maxRecDepth 65536 in
theorem w_case : (Jvm.Cond.and given_1 narrow_1).before args0 about1 = true := by decide +kernel
theorem w_applies : (headSpec (Jvm.Cond.code x code maxLocals ret :: tables_1) room_1).applies x e0.platform about1 = true :=
  (Spec.applies_iff w_frames).mpr ⟨w_running, w_runnable, w_alone, w_named, w_hears, w_ripe, w_room, w_tables⟩
theorem atStart : AtStart classFile x code maxLocals ret World_1 tables_1 room_1 Calls_1 rest_1 Pre_1 launch0 p0 e0 about1 theMethod args0 below0 :=
  ⟨lists_1, trivial, launch0.admits_env _ _ _, launch0.least_env, fairChoices_fair.cas, fairChoices_fair.clock, w_frames, w_args, w_heap, w_applies, trivial, w_rest, w_case⟩
end start1
theorem witness_1 : WitnessClaimed_1 := ⟨start1.p0, start1.e0, start1.about1, start1.theMethod, start1.args0, start1.below0, start1.atStart⟩
end Jvm.Pilot.@@N@@
