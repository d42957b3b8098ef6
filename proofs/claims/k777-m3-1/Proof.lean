import JvmDerived
import JvmDerived.Pilot.@@N@@Statement
import JvmDerived.Pilot.@@N@@Code
set_option linter.unusedVariables false
set_option linter.unusedSimpArgs false
namespace Jvm.Pilot.@@N@@
open Jvm Jvm.ClassFile Sem Op Lib Jvm.Free Jvm.Stand Jvm.LawKit Jvm.RoadKit Bundle Jvm.Pilot.@@N@@.Jvm.D
section Own
variable {p : Program} {l : Launch} {e : Env} {R : Room} {s : State} {m : MethodId} {args : Array Value} {below : List Frame} {meth : Method} {c : Code} {T : State} {locs : List Loc} {cells slots : Nat} {Z : State} {a0 : Array Value} {h : Heap}
/-- from the state A the body ends as Q says, with at most C cells and S slots made -/
def own_E (p : Program) (e : Env) (below : List Frame) (s : State) (Q : Option Value → Heap → List Loc → Prop) (C S : Nat) (A : State) : Prop :=
  ∃ s₂ o, Steps p.tables e below A s₂ ∧ s₂.status = .running ∧ Ended s₂ below o ∧ ∃ v L, o = .returned v ∧ Q v s₂.heap L ∧ FrameEnd s o s₂ L C S
theorem own_pre {Q : Option Value → Heap → List Loc → Prop} {C S : Nat} {A B : State} (h : own_E p e below s Q C S B) (k : ∀ t, Steps p.tables e below B t → Steps p.tables e below A t) : own_E p e below s Q C S A := by
  obtain ⟨s₂, o, h1, h2⟩ := h
  exact ⟨s₂, o, k _ h1, h2⟩
theorem own_out {Q : Option Value → Heap → List Loc → Prop} {C S : Nat} {A : State} (X : Stand p l e R s m args below meth c T locs cells slots) (hk : meth.locks = false) {v : Option Value} (hv : meth.sig.returnType = none → v = none)
    (st : ∀ fs, (∀ (f : JFrame) (acts : List Action), f.method = m → f.locked = none → f.entered = [] → (doReturn e (T.setTop f) acts v).1 = T.setFrames fs) → Steps p.tables e below A (T.setFrames fs))
    (hQ : Q v T.heap locs) (hc : cells ≤ C) (hs : slots ≤ S) : own_E p e below s Q C S A := by
  obtain ⟨fs, hr, hrun, hended, hW, hsame⟩ := X.leave (v := v) hv hk
  exact ⟨_, _, st fs hr, hrun, hended, _, _, rfl, hQ, ⟨_, rfl⟩, hW, hsame.mono hc hs⟩
theorem own_retN {Q : Option Value → Heap → List Loc → Prop} {C S : Nat} (X : Stand p l e R s m args below meth c T locs cells slots) (hx : p.tables.exec = Jvm.exec) (hk : meth.locks = false) {t : FieldType} {pc : Nat} {Ls : Array Slot} {z z' : Int32} {rest : List Value} (hret : meth.sig.returnType = some t) (ht : t = .boolean ∨ t = .byte ∨ t = .char ∨ t = .short) (hd : decode c.code pc = .ok (.ireturn, 1)) (hn : nar t z = z')
    (hQ : Q (some (.int z')) T.heap locs) (hc : cells ≤ C) (hs : slots ≤ S) : own_E p e below s Q C S (T.setTop (mkF m pc Ls (.int z :: rest))) := by
  subst hn
  exact own_out X hk (fun h => by rw [hret] at h; cases h) (fun fs hr => retN X hx hret ht hd hr) hQ hc hs
theorem own_retI {Q : Option Value → Heap → List Loc → Prop} {C S : Nat} (X : Stand p l e R s m args below meth c T locs cells slots) (hx : p.tables.exec = Jvm.exec) (hk : meth.locks = false) {pc : Nat} {Ls : Array Slot} {z : Int32} {rest : List Value} (hret : meth.sig.returnType = some .int) (hd : decode c.code pc = .ok (.ireturn, 1))
    (hQ : Q (some (.int z)) T.heap locs) (hc : cells ≤ C) (hs : slots ≤ S) : own_E p e below s Q C S (T.setTop (mkF m pc Ls (.int z :: rest))) :=
  own_out X hk (fun h => by rw [hret] at h; cases h) (fun fs hr => retOut X hx hret rfl (Or.inl ⟨rfl, Or.inl rfl, z, rfl⟩) hd hr) hQ hc hs
theorem own_retJ {Q : Option Value → Heap → List Loc → Prop} {C S : Nat} (X : Stand p l e R s m args below meth c T locs cells slots) (hx : p.tables.exec = Jvm.exec) (hk : meth.locks = false) {pc : Nat} {Ls : Array Slot} {z : Int64} {rest : List Value} (hret : meth.sig.returnType = some .long) (hd : decode c.code pc = .ok (.lreturn, 1))
    (hQ : Q (some (.long z)) T.heap locs) (hc : cells ≤ C) (hs : slots ≤ S) : own_E p e below s Q C S (T.setTop (mkF m pc Ls (.long z :: rest))) :=
  own_out X hk (fun h => by rw [hret] at h; cases h) (fun fs hr => retOut X hx hret rfl (Or.inr (Or.inl ⟨rfl, rfl, z, rfl⟩)) hd hr) hQ hc hs
theorem own_nar_ref {t : FieldType} {w : Value} (hw : w.isRef = true) (ht : t.isReference = true) : narrow t w = w := by
  rcases ref_cases hw with rfl | ⟨z, rfl⟩ <;> cases t <;> first | rfl | (cases ht; done)
theorem own_fit_ref {t : FieldType} {w : Value} (hw : w.isRef = true) (ht : t.isReference = true) : fits t w = true := by
  rcases ref_cases hw with rfl | ⟨z, rfl⟩ <;> cases t <;> first | rfl | (cases ht; done)
theorem own_retA {Q : Option Value → Heap → List Loc → Prop} {C S : Nat} (X : Stand p l e R s m args below meth c T locs cells slots) (hx : p.tables.exec = Jvm.exec) (hk : meth.locks = false) {t : FieldType} {pc : Nat} {Ls : Array Slot} {w : Value} {rest : List Value} (hret : meth.sig.returnType = some t) (ht : t.isReference = true) (hw : w.isRef = true) (hd : decode c.code pc = .ok (.areturn, 1))
    (hQ : Q (some w) T.heap locs) (hc : cells ≤ C) (hs : slots ≤ S) : own_E p e below s Q C S (T.setTop (mkF m pc Ls (w :: rest))) :=
  own_out X hk (fun h => by rw [hret] at h; cases h) (fun fs hr => retOut X hx hret (own_nar_ref hw ht) (Or.inr (Or.inr (Or.inr (Or.inr ⟨rfl, ht, hw⟩)))) hd hr) hQ hc hs
theorem own_retV {Q : Option Value → Heap → List Loc → Prop} {C S : Nat} (X : Stand p l e R s m args below meth c T locs cells slots) (hx : p.tables.exec = Jvm.exec) (hk : meth.locks = false) {pc : Nat} {Ls : Array Slot} (hret : meth.sig.returnType = none) (hd : decode c.code pc = .ok (.return_, 1))
    (hQ : Q none T.heap locs) (hc : cells ≤ C) (hs : slots ≤ S) : own_E p e below s Q C S (T.setTop (mkF m pc Ls [])) :=
  own_out X hk (fun _ => rfl) (fun fs hr => X.returnOut hx hret hd hr) hQ hc hs
theorem own_lrem {g : JFrame} {target : State} (X : Stand p l e R s m args below meth c T locs cells slots) (hx : p.tables.exec = Jvm.exec) (hg : g.method = m) {x y : Int64} {rest : List Value} (hd : decode c.code g.pc = .ok (.lrem, 1)) (hs : g.stack = .long y :: .long x :: rest) (hy : y ≠ 0)
    (hr : Steps p.tables e below (T.setTop { g with pc := g.pc + 1, stack := .long (x % y) :: rest }) target) : Steps p.tables e below (T.setTop g) target :=
  XS.lrem X.here hx hg hd hs hy (by rw [lrem_mod]; exact hr)
end Own
def own_mt (wa ua ws us wv uv wn un : Int32) : Int32 := if (wa = (0 : Int32) ∨ wa = ua) ∧ (ws = (0 : Int32) ∨ ws = us) ∧ (wv = (0 : Int32) ∨ wv = uv) ∧ (wn = (0 : Int32) ∨ wn = un) then 1 else 0
def own_hw (wa ws wv wn : Int32) : Int32 := if wa = (0 : Int32) then 1 else if ws = (0 : Int32) then 1 else if wv = (0 : Int32) then 1 else if wn = (0 : Int32) then 1 else 0
theorem own_succ (t : Int32) : ¬ t = t + (1 : Int32) := fun q => by
  have := c_iadd t 1; rw [← q] at this; simp only [Int32.reduceToInt] at this; omega
theorem d2_0 : decode jdk_30_method_1_code 0 = .ok (.aload_n 0, 1) := by decide +kernel
theorem d2_1 : decode jdk_30_method_1_code 1 = .ok (.invokespecial 1, 3) := by decide +kernel
theorem d2_4 : decode jdk_30_method_1_code 4 = .ok (.return_, 1) := by decide +kernel
theorem pn_java_lang_Record : plainName "java/lang/Record" = true := by first | (simp [plainName, overriddenIn]; done) | decide +kernel
set_option maxHeartbeats 4000000 in
theorem ef_2 (m : MethodId) (x0 : Addr) : entryFrame m #[(.ref x0)] 1 = mkF m 0 #[.val (.ref x0)] [] := by first | (simp [entryFrame, mkF, argsToLocals, Value.category]; done) | rfl
def Q2 (Z : State) (x0 : Addr) (h0 : Heap) (n0 : Nat) (v : Option Value) (h : Heap) (L : List Loc) : Prop := v = none ∧ Fr n0 L ∧ h = h0
set_option maxRecDepth 65536 in
set_option maxHeartbeats 40000000 in
theorem rm2 (l : Launch) (Z : State) (a0 : Array Value) (hw : ∀ d ∈ tables_1, d.before a0 Z = true) (ws : List Jvm.Cond) (x0 : Addr) (h0 : Heap) (n0 : Nat) (Z0 : n0 ≤ h0.size) :
    MetFree l (⟨"java/lang/Record", "<init>", "()V"⟩ : MethodName) (head1 (Jvm.Cond.code (⟨"java/lang/Record", "<init>", "()V"⟩ : MethodName) jdk_30_method_1_code 1 none :: ws) ({ frames := 1, cells := 0, slots := 0, locals := 12 } : Room)) (fun a U => a = #[(.ref x0)] ∧ Z.Warmed39 U.vm ∧ U.heap = h0) (fun _ _ _ _ _ => True) (fun _ U o U' => ∃ v L, o = .returned v ∧ Q2 Z x0 h0 n0 v U'.heap L ∧ FrameEnd U o U' L ({ frames := 1, cells := 0, slots := 0, locals := 12 } : Room).cells ({ frames := 1, cells := 0, slots := 0, locals := 12 } : Room).slots) := by
  refine MetFree.of_bodySF (plainFor_of_name pn_java_lang_Record) hisR ?_
  intro p e s m args below meth c s₁ Bd hml0 hP hK
  obtain ⟨rfl, hZ, hh⟩ := hP
  have hx := Bd.exec
  have hby := Bd.bytes
  have hml : c.maxLocals = 1 := hml0
  have hown : s.vm.findClass "java/lang/Record" = some m.cls := findClass_of_methodNamed Bd.named
  have hnm := (name_of_methodNamed Bd.named Bd.method).1
  have hlk : meth.locks = false := BodyLoose.notSynchronized Bd
  have X0 : Stand p l e ({ frames := 1, cells := 0, slots := 0, locals := 12 } : Room) s m #[(.ref x0)] below meth c s₁ [] 0 0 := Stand.of_body Bd
  have e0 : s₁.heap = h0 := by rw [← hh, Bd.state]; rfl
  have N0 := Fr.nil n0
  show own_E p e below s (Q2 Z x0 h0 n0) 0 0 (s₁.setTop (entryFrame m #[(.ref x0)] 1))
  refine own_pre (B := s₁.setTop (mkF m 0 #[.val (.ref x0)] [])) ?_ (fun t k => castTop (ef_2 m x0) k)
  refine own_pre (B := s₁.setTop (mkF m 1 #[.val (.ref x0)] [(.ref x0)])) ?_ fun t k => XS.aloadN X0.here hx rfl (hb hby d2_0) rfl rfl k
  obtain ⟨T1, X1, e1, st1⟩ := initO X0 hx hZ hown (hw _ (List.mem_of_getElem? (i := 11) rfl)) (hw _ (List.mem_of_getElem? (i := 12) rfl)) (hw _ (List.mem_of_getElem? (i := 13) rfl)) e0 (g := (mkF m 1 #[.val (.ref x0)] [(.ref x0)])) rfl (by rw [hml]; rfl) rfl (hb hby d2_1) (by decide) (W := 0) (by show 2 * 0 + _ ≤ _; exact Nat.le_of_eq rfl) (by decide)
  refine own_pre (B := T1.setTop (mkF m 4 #[.val (.ref x0)] [])) ?_ st1
  refine own_retV X1 hx hlk Bd.returns (hb hby d2_4) ?_ (by decide) (by decide)
  rw [e1]
  exact ⟨rfl, N0, rfl⟩
theorem d1_0 : decode prog_27_method_1_code 0 = .ok (.aload_n 0, 1) := by decide +kernel
theorem d1_1 : decode prog_27_method_1_code 1 = .ok (.invokespecial 1, 3) := by decide +kernel
theorem pd___V : parseMethodDescriptor "()V" = some ⟨[], none⟩ := by decide +kernel
theorem d1_4 : decode prog_27_method_1_code 4 = .ok (.aload_n 0, 1) := by decide +kernel
theorem d1_5 : decode prog_27_method_1_code 5 = .ok (.iload_n 1, 1) := by decide +kernel
theorem d1_6 : decode prog_27_method_1_code 6 = .ok (.putfield 7, 3) := by decide +kernel
theorem d1_9 : decode prog_27_method_1_code 9 = .ok (.aload_n 0, 1) := by decide +kernel
theorem d1_10 : decode prog_27_method_1_code 10 = .ok (.iload_n 2, 1) := by decide +kernel
theorem d1_11 : decode prog_27_method_1_code 11 = .ok (.putfield 13, 3) := by decide +kernel
theorem d1_14 : decode prog_27_method_1_code 14 = .ok (.aload_n 0, 1) := by decide +kernel
theorem d1_15 : decode prog_27_method_1_code 15 = .ok (.iload_n 3, 1) := by decide +kernel
theorem d1_16 : decode prog_27_method_1_code 16 = .ok (.putfield 16, 3) := by decide +kernel
theorem d1_19 : decode prog_27_method_1_code 19 = .ok (.aload_n 0, 1) := by decide +kernel
theorem d1_20 : decode prog_27_method_1_code 20 = .ok (.iload 4, 2) := by decide +kernel
theorem d1_22 : decode prog_27_method_1_code 22 = .ok (.putfield 19, 3) := by decide +kernel
theorem d1_25 : decode prog_27_method_1_code 25 = .ok (.return_, 1) := by decide +kernel
theorem pn_com_example_halyard_halyard_com_ObjectType : plainName "com/example/halyard/halyard/com/ObjectType" = true := by first | (simp [plainName, overriddenIn]; done) | decide +kernel
set_option maxHeartbeats 4000000 in
theorem ef_1 (m : MethodId) (x0 : Addr) (x1 : Int32) (x2 : Int32) (x3 : Int32) (x4 : Int32) : entryFrame m #[(.ref x0), (.int x1), (.int x2), (.int x3), (.int x4)] 5 = mkF m 0 #[.val (.ref x0), .val (.int x1), .val (.int x2), .val (.int x3), .val (.int x4)] [] := by first | (simp [entryFrame, mkF, argsToLocals, Value.category]; done) | rfl
def Q1 (Z : State) (x0 : Addr) (x1 : Int32) (x2 : Int32) (x3 : Int32) (x4 : Int32) (h0 : Heap) (n0 : Nat) (v : Option Value) (h : Heap) (L : List Loc) : Prop := v = none ∧ Fr n0 L ∧ Keep h0 h [x0] ∧ Exa Z h x0 "com/example/halyard/halyard/com/ObjectType" ∧ Fld Z h x0 "com/example/halyard/halyard/com/ObjectType" "area" "I" (.int x1) ∧ Fld Z h x0 "com/example/halyard/halyard/com/ObjectType" "service" "I" (.int x2) ∧ Fld Z h x0 "com/example/halyard/halyard/com/ObjectType" "version" "I" (.int x3) ∧ Fld Z h x0 "com/example/halyard/halyard/com/ObjectType" "number" "I" (.int x4)
set_option maxRecDepth 65536 in
set_option maxHeartbeats 40000000 in
theorem rm1 (l : Launch) (Z : State) (a0 : Array Value) (hw : ∀ d ∈ tables_1, d.before a0 Z = true) (ws : List Jvm.Cond) (x0 : Addr) (x1 : Int32) (x2 : Int32) (x3 : Int32) (x4 : Int32) (h0 : Heap) (n0 : Nat) (Z0 : n0 ≤ h0.size) (E_x0 : Exa Z h0 x0 "com/example/halyard/halyard/com/ObjectType") (F_area : Fld Z h0 x0 "com/example/halyard/halyard/com/ObjectType" "area" "I" (.int (0 : Int32))) (F_service : Fld Z h0 x0 "com/example/halyard/halyard/com/ObjectType" "service" "I" (.int (0 : Int32))) (F_version : Fld Z h0 x0 "com/example/halyard/halyard/com/ObjectType" "version" "I" (.int (0 : Int32))) (F_number : Fld Z h0 x0 "com/example/halyard/halyard/com/ObjectType" "number" "I" (.int (0 : Int32))) (g_x0 : n0 ≤ x0) :
    MetFree l (⟨"com/example/halyard/halyard/com/ObjectType", "<init>", "(IIII)V"⟩ : MethodName) (head1 (Jvm.Cond.code (⟨"com/example/halyard/halyard/com/ObjectType", "<init>", "(IIII)V"⟩ : MethodName) prog_27_method_1_code 5 none :: ws) ({ frames := 2, cells := 0, slots := 0, locals := 24 } : Room)) (fun a U => a = #[(.ref x0), (.int x1), (.int x2), (.int x3), (.int x4)] ∧ Z.Warmed39 U.vm ∧ U.heap = h0) (fun _ _ _ _ _ => True) (fun _ U o U' => ∃ v L, o = .returned v ∧ Q1 Z x0 x1 x2 x3 x4 h0 n0 v U'.heap L ∧ FrameEnd U o U' L ({ frames := 2, cells := 0, slots := 0, locals := 24 } : Room).cells ({ frames := 2, cells := 0, slots := 0, locals := 24 } : Room).slots) := by
  refine MetFree.of_bodySF (plainFor_of_name pn_com_example_halyard_halyard_com_ObjectType) hisR ?_
  intro p e s m args below meth c s₁ Bd hml0 hP hK
  obtain ⟨rfl, hZ, hh⟩ := hP
  have hx := Bd.exec
  have hby := Bd.bytes
  have hml : c.maxLocals = 5 := hml0
  have hown : s.vm.findClass "com/example/halyard/halyard/com/ObjectType" = some m.cls := findClass_of_methodNamed Bd.named
  have hnm := (name_of_methodNamed Bd.named Bd.method).1
  have hlk : meth.locks = false := BodyLoose.notSynchronized Bd
  have X0 : Stand p l e ({ frames := 2, cells := 0, slots := 0, locals := 24 } : Room) s m #[(.ref x0), (.int x1), (.int x2), (.int x3), (.int x4)] below meth c s₁ [] 0 0 := Stand.of_body Bd
  have e0 : s₁.heap = h0 := by rw [← hh, Bd.state]; rfl
  have N0 := Fr.nil n0
  show own_E p e below s (Q1 Z x0 x1 x2 x3 x4 h0 n0) 0 0 (s₁.setTop (entryFrame m #[(.ref x0), (.int x1), (.int x2), (.int x3), (.int x4)] 5))
  refine own_pre (B := s₁.setTop (mkF m 0 #[.val (.ref x0), .val (.int x1), .val (.int x2), .val (.int x3), .val (.int x4)] [])) ?_ (fun t k => castTop (ef_1 m x0 x1 x2 x3 x4) k)
  refine own_pre (B := s₁.setTop (mkF m 1 #[.val (.ref x0), .val (.int x1), .val (.int x2), .val (.int x3), .val (.int x4)] [(.ref x0)])) ?_ fun t k => XS.aloadN X0.here hx rfl (hb hby d1_0) rfl rfl k
  obtain ⟨_, _, ⟨T1, L1, k1, n1⟩, -, X1, ⟨Lc1, hQ1, l1, y1, z1⟩, st1⟩ := X0.specialBack hx (y := (⟨"java/lang/Record", "<init>", "()V"⟩ : MethodName)) rfl hown (mvT hZ (hw _ (List.mem_of_getElem? (i := 6) rfl))) (mvT hZ (hw _ (List.mem_of_getElem? (i := 7) rfl))) (mvT hZ (hw _ (List.mem_of_getElem? (i := 10) rfl))) (by decide) (backOf (W := 0) (rm2 l Z a0 hw [] x0 h0 n0 Z0 ) hZ (hw _ (List.mem_of_getElem? (i := 10) rfl)) (hw _ (List.mem_of_getElem? (i := 9) rfl)) (by decide) (by decide)) (g := (mkF m 1 #[.val (.ref x0), .val (.int x1), .val (.int x2), .val (.int x3), .val (.int x4)] [(.ref x0)])) rfl (by rw [hml]; rfl) (Steps.refl _) (a := x0) (argsL := []) (rest := []) (lenOf pd___V rfl) rfl (by show 2 * 0 + _ ≤ _; exact Nat.le_of_eq rfl) (hb hby d1_1) (fun _ _ => ⟨rfl, e0, (by decide : 0 + 0 ≤ _), (by decide : 0 + 0 ≤ _)⟩)
  dsimp only [Pt.U, Pt.locs, Pt.cells, Pt.slots] at X1 l1 y1 z1 st1 hQ1
  subst l1 y1 z1
  obtain ⟨rfl, Nq1, e1⟩ := hQ1
  have N1 := Fr.app N0 Nq1
  refine own_pre (B := T1.setTop (mkF m 4 #[.val (.ref x0), .val (.int x1), .val (.int x2), .val (.int x3), .val (.int x4)] [])) ?_ (fun t k => st1.trans k)
  refine own_pre (B := T1.setTop (mkF m 5 #[.val (.ref x0), .val (.int x1), .val (.int x2), .val (.int x3), .val (.int x4)] [(.ref x0)])) ?_ fun t k => XS.aloadN X1.here hx rfl (hb hby d1_4) rfl rfl k
  refine own_pre (B := T1.setTop (mkF m 6 #[.val (.ref x0), .val (.int x1), .val (.int x2), .val (.int x3), .val (.int x4)] [(.int x1), (.ref x0)])) ?_ fun t k => XS.iloadN X1.here hx rfl (hb hby d1_5) rfl  k
  obtain ⟨T2, h2, X2, e2, W2, st2⟩ := putF X1 hx hZ hown (host := "") (Or.inl (hw _ (List.mem_of_getElem? (i := 14) rfl))) Via.refl e1 F_area E_x0 (Or.inr ⟨(hw _ (List.mem_of_getElem? (i := 15) rfl)), rfl, hnm⟩) (hw _ (List.mem_of_getElem? (i := 1) rfl)) (ty := .int) (by decide) rfl rfl (g := (mkF m 6 #[.val (.ref x0), .val (.int x1), .val (.int x2), .val (.int x3), .val (.int x4)] [(.int x1), (.ref x0)])) rfl rfl (hb hby d1_6)
  have f3 := F_area.same W2
  have N2 := Fr.snoc X2 N1 g_x0
  have Z2 : n0 ≤ h2.size := Nat.le_trans Z0 (Keep.of_wr W2).1
  have K2 := (Keep.refl h0 [x0]).wr W2 (Or.inl (by simp))
  refine own_pre (B := T2.setTop (mkF m 9 #[.val (.ref x0), .val (.int x1), .val (.int x2), .val (.int x3), .val (.int x4)] [])) ?_ st2
  refine own_pre (B := T2.setTop (mkF m 10 #[.val (.ref x0), .val (.int x1), .val (.int x2), .val (.int x3), .val (.int x4)] [(.ref x0)])) ?_ fun t k => XS.aloadN X2.here hx rfl (hb hby d1_9) rfl rfl k
  refine own_pre (B := T2.setTop (mkF m 11 #[.val (.ref x0), .val (.int x1), .val (.int x2), .val (.int x3), .val (.int x4)] [(.int x2), (.ref x0)])) ?_ fun t k => XS.iloadN X2.here hx rfl (hb hby d1_10) rfl  k
  have f4 := (E_x0.wr W2)
  have f5 := (F_service.other W2 (Or.inr (slot_ne (Or.inr (hw _ (List.mem_of_getElem? (i := 17) rfl))) (Or.inr (hw _ (List.mem_of_getElem? (i := 15) rfl))) (by decide) (t := .int) (t' := .int) (by decide) (by decide))))
  obtain ⟨T6, h6, X6, e6, W6, st6⟩ := putF X2 hx hZ hown (host := "") (Or.inl (hw _ (List.mem_of_getElem? (i := 16) rfl))) Via.refl e2 f5 f4 (Or.inr ⟨(hw _ (List.mem_of_getElem? (i := 17) rfl)), rfl, hnm⟩) (hw _ (List.mem_of_getElem? (i := 1) rfl)) (ty := .int) (by decide) rfl rfl (g := (mkF m 11 #[.val (.ref x0), .val (.int x1), .val (.int x2), .val (.int x3), .val (.int x4)] [(.int x2), (.ref x0)])) rfl rfl (hb hby d1_11)
  have f7 := f5.same W6
  have N6 := Fr.snoc X6 N2 g_x0
  have Z6 : n0 ≤ h6.size := Nat.le_trans Z2 (Keep.of_wr W6).1
  have K6 := K2.wr W6 (Or.inl (by simp))
  refine own_pre (B := T6.setTop (mkF m 14 #[.val (.ref x0), .val (.int x1), .val (.int x2), .val (.int x3), .val (.int x4)] [])) ?_ st6
  refine own_pre (B := T6.setTop (mkF m 15 #[.val (.ref x0), .val (.int x1), .val (.int x2), .val (.int x3), .val (.int x4)] [(.ref x0)])) ?_ fun t k => XS.aloadN X6.here hx rfl (hb hby d1_14) rfl rfl k
  refine own_pre (B := T6.setTop (mkF m 16 #[.val (.ref x0), .val (.int x1), .val (.int x2), .val (.int x3), .val (.int x4)] [(.int x3), (.ref x0)])) ?_ fun t k => XS.iloadN X6.here hx rfl (hb hby d1_15) rfl  k
  have f8 := (f4.wr W6)
  have f9 := ((F_version.other W2 (Or.inr (slot_ne (Or.inr (hw _ (List.mem_of_getElem? (i := 19) rfl))) (Or.inr (hw _ (List.mem_of_getElem? (i := 15) rfl))) (by decide) (t := .int) (t' := .int) (by decide) (by decide)))).other W6 (Or.inr (slot_ne (Or.inr (hw _ (List.mem_of_getElem? (i := 19) rfl))) (Or.inr (hw _ (List.mem_of_getElem? (i := 17) rfl))) (by decide) (t := .int) (t' := .int) (by decide) (by decide))))
  obtain ⟨T10, h10, X10, e10, W10, st10⟩ := putF X6 hx hZ hown (host := "") (Or.inl (hw _ (List.mem_of_getElem? (i := 18) rfl))) Via.refl e6 f9 f8 (Or.inr ⟨(hw _ (List.mem_of_getElem? (i := 19) rfl)), rfl, hnm⟩) (hw _ (List.mem_of_getElem? (i := 1) rfl)) (ty := .int) (by decide) rfl rfl (g := (mkF m 16 #[.val (.ref x0), .val (.int x1), .val (.int x2), .val (.int x3), .val (.int x4)] [(.int x3), (.ref x0)])) rfl rfl (hb hby d1_16)
  have f11 := f9.same W10
  have N10 := Fr.snoc X10 N6 g_x0
  have Z10 : n0 ≤ h10.size := Nat.le_trans Z6 (Keep.of_wr W10).1
  have K10 := K6.wr W10 (Or.inl (by simp))
  refine own_pre (B := T10.setTop (mkF m 19 #[.val (.ref x0), .val (.int x1), .val (.int x2), .val (.int x3), .val (.int x4)] [])) ?_ st10
  refine own_pre (B := T10.setTop (mkF m 20 #[.val (.ref x0), .val (.int x1), .val (.int x2), .val (.int x3), .val (.int x4)] [(.ref x0)])) ?_ fun t k => XS.aloadN X10.here hx rfl (hb hby d1_19) rfl rfl k
  refine own_pre (B := T10.setTop (mkF m 22 #[.val (.ref x0), .val (.int x1), .val (.int x2), .val (.int x3), .val (.int x4)] [(.int x4), (.ref x0)])) ?_ fun t k => XS.iload X10.here hx rfl (hb hby d1_20) rfl  k
  have f12 := (f8.wr W10)
  have f13 := (((F_number.other W2 (Or.inr (slot_ne (Or.inr (hw _ (List.mem_of_getElem? (i := 21) rfl))) (Or.inr (hw _ (List.mem_of_getElem? (i := 15) rfl))) (by decide) (t := .int) (t' := .int) (by decide) (by decide)))).other W6 (Or.inr (slot_ne (Or.inr (hw _ (List.mem_of_getElem? (i := 21) rfl))) (Or.inr (hw _ (List.mem_of_getElem? (i := 17) rfl))) (by decide) (t := .int) (t' := .int) (by decide) (by decide)))).other W10 (Or.inr (slot_ne (Or.inr (hw _ (List.mem_of_getElem? (i := 21) rfl))) (Or.inr (hw _ (List.mem_of_getElem? (i := 19) rfl))) (by decide) (t := .int) (t' := .int) (by decide) (by decide))))
  obtain ⟨T14, h14, X14, e14, W14, st14⟩ := putF X10 hx hZ hown (host := "") (Or.inl (hw _ (List.mem_of_getElem? (i := 20) rfl))) Via.refl e10 f13 f12 (Or.inr ⟨(hw _ (List.mem_of_getElem? (i := 21) rfl)), rfl, hnm⟩) (hw _ (List.mem_of_getElem? (i := 1) rfl)) (ty := .int) (by decide) rfl rfl (g := (mkF m 22 #[.val (.ref x0), .val (.int x1), .val (.int x2), .val (.int x3), .val (.int x4)] [(.int x4), (.ref x0)])) rfl rfl (hb hby d1_22)
  have f15 := f13.same W14
  have N14 := Fr.snoc X14 N10 g_x0
  have Z14 : n0 ≤ h14.size := Nat.le_trans Z10 (Keep.of_wr W14).1
  have K14 := K10.wr W14 (Or.inl (by simp))
  refine own_pre (B := T14.setTop (mkF m 25 #[.val (.ref x0), .val (.int x1), .val (.int x2), .val (.int x3), .val (.int x4)] [])) ?_ st14
  have f16 := (f12.wr W14)
  have f17 := (((f3.other W6 (Or.inr (slot_ne (Or.inr (hw _ (List.mem_of_getElem? (i := 15) rfl))) (Or.inr (hw _ (List.mem_of_getElem? (i := 17) rfl))) (by decide) (t := .int) (t' := .int) (by decide) (by decide)))).other W10 (Or.inr (slot_ne (Or.inr (hw _ (List.mem_of_getElem? (i := 15) rfl))) (Or.inr (hw _ (List.mem_of_getElem? (i := 19) rfl))) (by decide) (t := .int) (t' := .int) (by decide) (by decide)))).other W14 (Or.inr (slot_ne (Or.inr (hw _ (List.mem_of_getElem? (i := 15) rfl))) (Or.inr (hw _ (List.mem_of_getElem? (i := 21) rfl))) (by decide) (t := .int) (t' := .int) (by decide) (by decide))))
  have f18 := ((f7.other W10 (Or.inr (slot_ne (Or.inr (hw _ (List.mem_of_getElem? (i := 17) rfl))) (Or.inr (hw _ (List.mem_of_getElem? (i := 19) rfl))) (by decide) (t := .int) (t' := .int) (by decide) (by decide)))).other W14 (Or.inr (slot_ne (Or.inr (hw _ (List.mem_of_getElem? (i := 17) rfl))) (Or.inr (hw _ (List.mem_of_getElem? (i := 21) rfl))) (by decide) (t := .int) (t' := .int) (by decide) (by decide))))
  have f19 := (f11.other W14 (Or.inr (slot_ne (Or.inr (hw _ (List.mem_of_getElem? (i := 19) rfl))) (Or.inr (hw _ (List.mem_of_getElem? (i := 21) rfl))) (by decide) (t := .int) (t' := .int) (by decide) (by decide))))
  refine own_retV X14 hx hlk Bd.returns (hb hby d1_25) ?_ (by decide) (by decide)
  rw [e14]
  exact ⟨rfl, N14, K14, f16, f17, f18, f19, f15⟩
theorem d4_0 : decode prog_27_method_3_code 0 = .ok (.aload_n 0, 1) := by decide +kernel
theorem d4_1 : decode prog_27_method_3_code 1 = .ok (.getfield 7, 3) := by decide +kernel
theorem d4_4 : decode prog_27_method_3_code 4 = .ok (.ifCond .eq 14, 3) := by decide +kernel
theorem d4_7 : decode prog_27_method_3_code 7 = .ok (.aload_n 0, 1) := by decide +kernel
theorem d4_8 : decode prog_27_method_3_code 8 = .ok (.getfield 7, 3) := by decide +kernel
theorem d4_11 : decode prog_27_method_3_code 11 = .ok (.aload_n 1, 1) := by decide +kernel
theorem d4_12 : decode prog_27_method_3_code 12 = .ok (.getfield 7, 3) := by decide +kernel
theorem d4_15 : decode prog_27_method_3_code 15 = .ok (.if_icmp .ne 61, 3) := by decide +kernel
theorem d4_76 : decode prog_27_method_3_code 76 = .ok (.iconst 0, 1) := by decide +kernel
theorem d4_77 : decode prog_27_method_3_code 77 = .ok (.ireturn, 1) := by decide +kernel
theorem d4_18 : decode prog_27_method_3_code 18 = .ok (.aload_n 0, 1) := by decide +kernel
theorem d4_19 : decode prog_27_method_3_code 19 = .ok (.getfield 13, 3) := by decide +kernel
theorem d4_22 : decode prog_27_method_3_code 22 = .ok (.ifCond .eq 14, 3) := by decide +kernel
theorem d4_25 : decode prog_27_method_3_code 25 = .ok (.aload_n 0, 1) := by decide +kernel
theorem d4_26 : decode prog_27_method_3_code 26 = .ok (.getfield 13, 3) := by decide +kernel
theorem d4_29 : decode prog_27_method_3_code 29 = .ok (.aload_n 1, 1) := by decide +kernel
theorem d4_30 : decode prog_27_method_3_code 30 = .ok (.getfield 13, 3) := by decide +kernel
theorem d4_33 : decode prog_27_method_3_code 33 = .ok (.if_icmp .ne 43, 3) := by decide +kernel
theorem d4_36 : decode prog_27_method_3_code 36 = .ok (.aload_n 0, 1) := by decide +kernel
theorem d4_37 : decode prog_27_method_3_code 37 = .ok (.getfield 16, 3) := by decide +kernel
theorem d4_40 : decode prog_27_method_3_code 40 = .ok (.ifCond .eq 14, 3) := by decide +kernel
theorem d4_43 : decode prog_27_method_3_code 43 = .ok (.aload_n 0, 1) := by decide +kernel
theorem d4_44 : decode prog_27_method_3_code 44 = .ok (.getfield 16, 3) := by decide +kernel
theorem d4_47 : decode prog_27_method_3_code 47 = .ok (.aload_n 1, 1) := by decide +kernel
theorem d4_48 : decode prog_27_method_3_code 48 = .ok (.getfield 16, 3) := by decide +kernel
theorem d4_51 : decode prog_27_method_3_code 51 = .ok (.if_icmp .ne 25, 3) := by decide +kernel
theorem d4_54 : decode prog_27_method_3_code 54 = .ok (.aload_n 0, 1) := by decide +kernel
theorem d4_55 : decode prog_27_method_3_code 55 = .ok (.getfield 19, 3) := by decide +kernel
theorem d4_58 : decode prog_27_method_3_code 58 = .ok (.ifCond .eq 14, 3) := by decide +kernel
theorem d4_61 : decode prog_27_method_3_code 61 = .ok (.aload_n 0, 1) := by decide +kernel
theorem d4_62 : decode prog_27_method_3_code 62 = .ok (.getfield 19, 3) := by decide +kernel
theorem d4_65 : decode prog_27_method_3_code 65 = .ok (.aload_n 1, 1) := by decide +kernel
theorem d4_66 : decode prog_27_method_3_code 66 = .ok (.getfield 19, 3) := by decide +kernel
theorem d4_69 : decode prog_27_method_3_code 69 = .ok (.if_icmp .ne 7, 3) := by decide +kernel
theorem d4_72 : decode prog_27_method_3_code 72 = .ok (.iconst 1, 1) := by decide +kernel
theorem d4_73 : decode prog_27_method_3_code 73 = .ok (.goto 4, 3) := by decide +kernel
set_option maxHeartbeats 4000000 in
theorem ef_4 (m : MethodId) (x0 : Addr) (x1 : Addr) : entryFrame m #[(.ref x0), (.ref x1)] 2 = mkF m 0 #[.val (.ref x0), .val (.ref x1)] [] := by first | (simp [entryFrame, mkF, argsToLocals, Value.category]; done) | rfl
def Q4 (Z : State) (x0 : Addr) (x1 : Addr) (wa : Int32) (wsv : Int32) (wv : Int32) (wn : Int32) (ua : Int32) (usv : Int32) (uv : Int32) (un : Int32) (h0 : Heap) (n0 : Nat) (v : Option Value) (h : Heap) (L : List Loc) : Prop := v = some (.int (own_mt wa ua wsv usv wv uv wn un)) ∧ Fr n0 L ∧ h = h0
set_option maxRecDepth 65536 in
set_option maxHeartbeats 40000000 in
theorem rm4 (l : Launch) (Z : State) (a0 : Array Value) (hw : ∀ d ∈ tables_1, d.before a0 Z = true) (ws : List Jvm.Cond) (x0 : Addr) (x1 : Addr) (wa : Int32) (wsv : Int32) (wv : Int32) (wn : Int32) (ua : Int32) (usv : Int32) (uv : Int32) (un : Int32) (h0 : Heap) (n0 : Nat) (Z0 : n0 ≤ h0.size) (F_area : Fld Z h0 x0 "com/example/halyard/halyard/com/ObjectType" "area" "I" (.int wa)) (F_service : Fld Z h0 x0 "com/example/halyard/halyard/com/ObjectType" "service" "I" (.int wsv)) (F_version : Fld Z h0 x0 "com/example/halyard/halyard/com/ObjectType" "version" "I" (.int wv)) (F_number : Fld Z h0 x0 "com/example/halyard/halyard/com/ObjectType" "number" "I" (.int wn)) (G_area : Fld Z h0 x1 "com/example/halyard/halyard/com/ObjectType" "area" "I" (.int ua)) (G_service : Fld Z h0 x1 "com/example/halyard/halyard/com/ObjectType" "service" "I" (.int usv)) (G_version : Fld Z h0 x1 "com/example/halyard/halyard/com/ObjectType" "version" "I" (.int uv)) (G_number : Fld Z h0 x1 "com/example/halyard/halyard/com/ObjectType" "number" "I" (.int un)) :
    MetFree l (⟨"com/example/halyard/halyard/com/ObjectType", "matches", "(Lcom/example/halyard/halyard/com/ObjectType;)Z"⟩ : MethodName) (head1 (Jvm.Cond.code (⟨"com/example/halyard/halyard/com/ObjectType", "matches", "(Lcom/example/halyard/halyard/com/ObjectType;)Z"⟩ : MethodName) prog_27_method_3_code 2 (some .boolean) :: ws) ({ frames := 0, cells := 0, slots := 0, locals := 0 } : Room)) (fun a U => a = #[(.ref x0), (.ref x1)] ∧ Z.Warmed39 U.vm ∧ U.heap = h0) (fun _ _ _ _ _ => True) (fun _ U o U' => ∃ v L, o = .returned v ∧ Q4 Z x0 x1 wa wsv wv wn ua usv uv un h0 n0 v U'.heap L ∧ FrameEnd U o U' L ({ frames := 0, cells := 0, slots := 0, locals := 0 } : Room).cells ({ frames := 0, cells := 0, slots := 0, locals := 0 } : Room).slots) := by
  refine MetFree.of_bodySF (plainFor_of_name pn_com_example_halyard_halyard_com_ObjectType) hisR ?_
  intro p e s m args below meth c s₁ Bd hml0 hP hK
  obtain ⟨rfl, hZ, hh⟩ := hP
  have hx := Bd.exec
  have hby := Bd.bytes
  have hml : c.maxLocals = 2 := hml0
  have hown : s.vm.findClass "com/example/halyard/halyard/com/ObjectType" = some m.cls := findClass_of_methodNamed Bd.named
  have hnm := (name_of_methodNamed Bd.named Bd.method).1
  have hlk : meth.locks = false := BodyLoose.notSynchronized Bd
  have X0 : Stand p l e ({ frames := 0, cells := 0, slots := 0, locals := 0 } : Room) s m #[(.ref x0), (.ref x1)] below meth c s₁ [] 0 0 := Stand.of_body Bd
  have e0 : s₁.heap = h0 := by rw [← hh, Bd.state]; rfl
  have N0 := Fr.nil n0
  show own_E p e below s (Q4 Z x0 x1 wa wsv wv wn ua usv uv un h0 n0) 0 0 (s₁.setTop (entryFrame m #[(.ref x0), (.ref x1)] 2))
  refine own_pre (B := s₁.setTop (mkF m 0 #[.val (.ref x0), .val (.ref x1)] [])) ?_ (fun t k => castTop (ef_4 m x0 x1) k)
  refine own_pre (B := s₁.setTop (mkF m 1 #[.val (.ref x0), .val (.ref x1)] [(.ref x0)])) ?_ fun t k => XS.aloadN X0.here hx rfl (hb hby d4_0) rfl rfl k
  obtain ⟨T1, X1, e1, st1⟩ := getF X0 hx hZ hown (host := "") (Or.inl (hw _ (List.mem_of_getElem? (i := 14) rfl))) Via.refl e0 F_area (g := (mkF m 1 #[.val (.ref x0), .val (.ref x1)] [(.ref x0)])) rfl rfl (hb hby d4_1)
  refine own_pre (B := T1.setTop (mkF m 4 #[.val (.ref x0), .val (.ref x1)] [(.int wa)])) ?_ st1
  have Jj3 : ∀ (T4 : State) (l4 : List Loc) (X4 : Stand p l e ({ frames := 0, cells := 0, slots := 0, locals := 0 } : Room) s m #[(.ref x0), (.ref x1)] below meth c T4 l4 0 0) (N4 : Fr n0 l4) (e4 : T4.heap = h0) (hjj3 : wa = (0 : Int32) ∨ wa = ua), own_E p e below s (Q4 Z x0 x1 wa wsv wv wn ua usv uv un h0 n0) 0 0 (T4.setTop (mkF m 18 #[.val (.ref x0), .val (.ref x1)] [])) := by
    intro T4 l4 X4 N4 e4 hjj3
    refine own_pre (B := T4.setTop (mkF m 19 #[.val (.ref x0), .val (.ref x1)] [(.ref x0)])) ?_ fun t k => XS.aloadN X4.here hx rfl (hb hby d4_18) rfl rfl k
    obtain ⟨T5, X5, e5, st5⟩ := getF X4 hx hZ hown (host := "") (Or.inl (hw _ (List.mem_of_getElem? (i := 16) rfl))) Via.refl e4 F_service (g := (mkF m 19 #[.val (.ref x0), .val (.ref x1)] [(.ref x0)])) rfl rfl (hb hby d4_19)
    refine own_pre (B := T5.setTop (mkF m 22 #[.val (.ref x0), .val (.ref x1)] [(.int wsv)])) ?_ st5
    have Jj7 : ∀ (T8 : State) (l8 : List Loc) (X8 : Stand p l e ({ frames := 0, cells := 0, slots := 0, locals := 0 } : Room) s m #[(.ref x0), (.ref x1)] below meth c T8 l8 0 0) (N8 : Fr n0 l8) (e8 : T8.heap = h0) (hjj7 : wsv = (0 : Int32) ∨ wsv = usv), own_E p e below s (Q4 Z x0 x1 wa wsv wv wn ua usv uv un h0 n0) 0 0 (T8.setTop (mkF m 36 #[.val (.ref x0), .val (.ref x1)] [])) := by
      intro T8 l8 X8 N8 e8 hjj7
      refine own_pre (B := T8.setTop (mkF m 37 #[.val (.ref x0), .val (.ref x1)] [(.ref x0)])) ?_ fun t k => XS.aloadN X8.here hx rfl (hb hby d4_36) rfl rfl k
      obtain ⟨T9, X9, e9, st9⟩ := getF X8 hx hZ hown (host := "") (Or.inl (hw _ (List.mem_of_getElem? (i := 18) rfl))) Via.refl e8 F_version (g := (mkF m 37 #[.val (.ref x0), .val (.ref x1)] [(.ref x0)])) rfl rfl (hb hby d4_37)
      refine own_pre (B := T9.setTop (mkF m 40 #[.val (.ref x0), .val (.ref x1)] [(.int wv)])) ?_ st9
      have Jj11 : ∀ (T12 : State) (l12 : List Loc) (X12 : Stand p l e ({ frames := 0, cells := 0, slots := 0, locals := 0 } : Room) s m #[(.ref x0), (.ref x1)] below meth c T12 l12 0 0) (N12 : Fr n0 l12) (e12 : T12.heap = h0) (hjj11 : wv = (0 : Int32) ∨ wv = uv), own_E p e below s (Q4 Z x0 x1 wa wsv wv wn ua usv uv un h0 n0) 0 0 (T12.setTop (mkF m 54 #[.val (.ref x0), .val (.ref x1)] [])) := by
        intro T12 l12 X12 N12 e12 hjj11
        refine own_pre (B := T12.setTop (mkF m 55 #[.val (.ref x0), .val (.ref x1)] [(.ref x0)])) ?_ fun t k => XS.aloadN X12.here hx rfl (hb hby d4_54) rfl rfl k
        obtain ⟨T13, X13, e13, st13⟩ := getF X12 hx hZ hown (host := "") (Or.inl (hw _ (List.mem_of_getElem? (i := 20) rfl))) Via.refl e12 F_number (g := (mkF m 55 #[.val (.ref x0), .val (.ref x1)] [(.ref x0)])) rfl rfl (hb hby d4_55)
        refine own_pre (B := T13.setTop (mkF m 58 #[.val (.ref x0), .val (.ref x1)] [(.int wn)])) ?_ st13
        have Jj15 : ∀ (T16 : State) (l16 : List Loc) (X16 : Stand p l e ({ frames := 0, cells := 0, slots := 0, locals := 0 } : Room) s m #[(.ref x0), (.ref x1)] below meth c T16 l16 0 0) (N16 : Fr n0 l16) (e16 : T16.heap = h0) (hjj15 : wn = (0 : Int32) ∨ wn = un), own_E p e below s (Q4 Z x0 x1 wa wsv wv wn ua usv uv un h0 n0) 0 0 (T16.setTop (mkF m 72 #[.val (.ref x0), .val (.ref x1)] [])) := by
          intro T16 l16 X16 N16 e16 hjj15
          refine own_pre (B := T16.setTop (mkF m 73 #[.val (.ref x0), .val (.ref x1)] [(.int (1 : Int32))])) ?_ fun t k => XS.iconst X16.here hx rfl (hb hby d4_72) k
          refine own_pre (B := T16.setTop (mkF m 77 #[.val (.ref x0), .val (.ref x1)] [(.int (1 : Int32))])) ?_ fun t k => XS.goto X16.here hx rfl (pc0 := 73) (pc' := 77) rfl (hb hby d4_73) (by decide) (by decide) k
          refine own_retN X16 hx hlk (t := .boolean) (z' := (1 : Int32)) Bd.returns (by simp) (hb hby d4_77) (by decide) ?_ (by decide) (by decide)
          rw [e16]
          exact ⟨by rw [own_mt, if_pos ⟨hjj3, hjj7, hjj11, hjj15⟩], N16, rfl⟩
        by_cases h58_14 : wn = (0 : Int32)
        · skip
          refine own_pre (B := T13.setTop (mkF m 72 #[.val (.ref x0), .val (.ref x1)] [])) ?_ fun t k => XS.ifYes X13.here hx rfl (pc0 := 58) (pc' := 72) rfl (hb hby d4_58) rfl ((if0 _ _).trans (teq h58_14).1) (by decide) (by decide) k
          exact Jj15 T13 _ X13 N12 e13  (Or.inl h58_14)
        · skip
          refine own_pre (B := T13.setTop (mkF m 61 #[.val (.ref x0), .val (.ref x1)] [])) ?_ fun t k => XS.ifNo X13.here hx rfl (hb hby d4_58) rfl ((if0 _ _).trans (feq h58_14).1) k
          refine own_pre (B := T13.setTop (mkF m 62 #[.val (.ref x0), .val (.ref x1)] [(.ref x0)])) ?_ fun t k => XS.aloadN X13.here hx rfl (hb hby d4_61) rfl rfl k
          obtain ⟨T17, X17, e17, st17⟩ := getF X13 hx hZ hown (host := "") (Or.inl (hw _ (List.mem_of_getElem? (i := 20) rfl))) Via.refl e13 F_number (g := (mkF m 62 #[.val (.ref x0), .val (.ref x1)] [(.ref x0)])) rfl rfl (hb hby d4_62)
          refine own_pre (B := T17.setTop (mkF m 65 #[.val (.ref x0), .val (.ref x1)] [(.int wn)])) ?_ st17
          refine own_pre (B := T17.setTop (mkF m 66 #[.val (.ref x0), .val (.ref x1)] [(.ref x1), (.int wn)])) ?_ fun t k => XS.aloadN X17.here hx rfl (hb hby d4_65) rfl rfl k
          obtain ⟨T18, X18, e18, st18⟩ := getF X17 hx hZ hown (host := "") (Or.inl (hw _ (List.mem_of_getElem? (i := 20) rfl))) Via.refl e17 G_number (g := (mkF m 66 #[.val (.ref x0), .val (.ref x1)] [(.ref x1), (.int wn)])) rfl rfl (hb hby d4_66)
          refine own_pre (B := T18.setTop (mkF m 69 #[.val (.ref x0), .val (.ref x1)] [(.int un), (.int wn)])) ?_ st18
          by_cases h69_19 : wn = un
          · skip
            refine own_pre (B := T18.setTop (mkF m 72 #[.val (.ref x0), .val (.ref x1)] [])) ?_ fun t k => XS.icmpNo X18.here hx rfl (hb hby d4_69) rfl (teq h69_19).2 k
            exact Jj15 T18 _ X18 N12 e18  (Or.inr h69_19)
          · skip
            refine own_pre (B := T18.setTop (mkF m 76 #[.val (.ref x0), .val (.ref x1)] [])) ?_ fun t k => XS.icmpYes X18.here hx rfl (pc0 := 69) (pc' := 76) rfl (hb hby d4_69) rfl (feq h69_19).2 (by decide) (by decide) k
            refine own_pre (B := T18.setTop (mkF m 77 #[.val (.ref x0), .val (.ref x1)] [(.int (0 : Int32))])) ?_ fun t k => XS.iconst X18.here hx rfl (hb hby d4_76) k
            refine own_retN X18 hx hlk (t := .boolean) (z' := (0 : Int32)) Bd.returns (by simp) (hb hby d4_77) (by decide) ?_ (by decide) (by decide)
            rw [e18]
            exact ⟨by rw [own_mt, if_neg (fun q => q.2.2.2.elim h58_14 h69_19)], N12, rfl⟩
      by_cases h40_10 : wv = (0 : Int32)
      · skip
        refine own_pre (B := T9.setTop (mkF m 54 #[.val (.ref x0), .val (.ref x1)] [])) ?_ fun t k => XS.ifYes X9.here hx rfl (pc0 := 40) (pc' := 54) rfl (hb hby d4_40) rfl ((if0 _ _).trans (teq h40_10).1) (by decide) (by decide) k
        exact Jj11 T9 _ X9 N8 e9  (Or.inl h40_10)
      · skip
        refine own_pre (B := T9.setTop (mkF m 43 #[.val (.ref x0), .val (.ref x1)] [])) ?_ fun t k => XS.ifNo X9.here hx rfl (hb hby d4_40) rfl ((if0 _ _).trans (feq h40_10).1) k
        refine own_pre (B := T9.setTop (mkF m 44 #[.val (.ref x0), .val (.ref x1)] [(.ref x0)])) ?_ fun t k => XS.aloadN X9.here hx rfl (hb hby d4_43) rfl rfl k
        obtain ⟨T20, X20, e20, st20⟩ := getF X9 hx hZ hown (host := "") (Or.inl (hw _ (List.mem_of_getElem? (i := 18) rfl))) Via.refl e9 F_version (g := (mkF m 44 #[.val (.ref x0), .val (.ref x1)] [(.ref x0)])) rfl rfl (hb hby d4_44)
        refine own_pre (B := T20.setTop (mkF m 47 #[.val (.ref x0), .val (.ref x1)] [(.int wv)])) ?_ st20
        refine own_pre (B := T20.setTop (mkF m 48 #[.val (.ref x0), .val (.ref x1)] [(.ref x1), (.int wv)])) ?_ fun t k => XS.aloadN X20.here hx rfl (hb hby d4_47) rfl rfl k
        obtain ⟨T21, X21, e21, st21⟩ := getF X20 hx hZ hown (host := "") (Or.inl (hw _ (List.mem_of_getElem? (i := 18) rfl))) Via.refl e20 G_version (g := (mkF m 48 #[.val (.ref x0), .val (.ref x1)] [(.ref x1), (.int wv)])) rfl rfl (hb hby d4_48)
        refine own_pre (B := T21.setTop (mkF m 51 #[.val (.ref x0), .val (.ref x1)] [(.int uv), (.int wv)])) ?_ st21
        by_cases h51_22 : wv = uv
        · skip
          refine own_pre (B := T21.setTop (mkF m 54 #[.val (.ref x0), .val (.ref x1)] [])) ?_ fun t k => XS.icmpNo X21.here hx rfl (hb hby d4_51) rfl (teq h51_22).2 k
          exact Jj11 T21 _ X21 N8 e21  (Or.inr h51_22)
        · skip
          refine own_pre (B := T21.setTop (mkF m 76 #[.val (.ref x0), .val (.ref x1)] [])) ?_ fun t k => XS.icmpYes X21.here hx rfl (pc0 := 51) (pc' := 76) rfl (hb hby d4_51) rfl (feq h51_22).2 (by decide) (by decide) k
          refine own_pre (B := T21.setTop (mkF m 77 #[.val (.ref x0), .val (.ref x1)] [(.int (0 : Int32))])) ?_ fun t k => XS.iconst X21.here hx rfl (hb hby d4_76) k
          refine own_retN X21 hx hlk (t := .boolean) (z' := (0 : Int32)) Bd.returns (by simp) (hb hby d4_77) (by decide) ?_ (by decide) (by decide)
          rw [e21]
          exact ⟨by rw [own_mt, if_neg (fun q => q.2.2.1.elim h40_10 h51_22)], N8, rfl⟩
    by_cases h22_6 : wsv = (0 : Int32)
    · skip
      refine own_pre (B := T5.setTop (mkF m 36 #[.val (.ref x0), .val (.ref x1)] [])) ?_ fun t k => XS.ifYes X5.here hx rfl (pc0 := 22) (pc' := 36) rfl (hb hby d4_22) rfl ((if0 _ _).trans (teq h22_6).1) (by decide) (by decide) k
      exact Jj7 T5 _ X5 N4 e5  (Or.inl h22_6)
    · skip
      refine own_pre (B := T5.setTop (mkF m 25 #[.val (.ref x0), .val (.ref x1)] [])) ?_ fun t k => XS.ifNo X5.here hx rfl (hb hby d4_22) rfl ((if0 _ _).trans (feq h22_6).1) k
      refine own_pre (B := T5.setTop (mkF m 26 #[.val (.ref x0), .val (.ref x1)] [(.ref x0)])) ?_ fun t k => XS.aloadN X5.here hx rfl (hb hby d4_25) rfl rfl k
      obtain ⟨T23, X23, e23, st23⟩ := getF X5 hx hZ hown (host := "") (Or.inl (hw _ (List.mem_of_getElem? (i := 16) rfl))) Via.refl e5 F_service (g := (mkF m 26 #[.val (.ref x0), .val (.ref x1)] [(.ref x0)])) rfl rfl (hb hby d4_26)
      refine own_pre (B := T23.setTop (mkF m 29 #[.val (.ref x0), .val (.ref x1)] [(.int wsv)])) ?_ st23
      refine own_pre (B := T23.setTop (mkF m 30 #[.val (.ref x0), .val (.ref x1)] [(.ref x1), (.int wsv)])) ?_ fun t k => XS.aloadN X23.here hx rfl (hb hby d4_29) rfl rfl k
      obtain ⟨T24, X24, e24, st24⟩ := getF X23 hx hZ hown (host := "") (Or.inl (hw _ (List.mem_of_getElem? (i := 16) rfl))) Via.refl e23 G_service (g := (mkF m 30 #[.val (.ref x0), .val (.ref x1)] [(.ref x1), (.int wsv)])) rfl rfl (hb hby d4_30)
      refine own_pre (B := T24.setTop (mkF m 33 #[.val (.ref x0), .val (.ref x1)] [(.int usv), (.int wsv)])) ?_ st24
      by_cases h33_25 : wsv = usv
      · skip
        refine own_pre (B := T24.setTop (mkF m 36 #[.val (.ref x0), .val (.ref x1)] [])) ?_ fun t k => XS.icmpNo X24.here hx rfl (hb hby d4_33) rfl (teq h33_25).2 k
        exact Jj7 T24 _ X24 N4 e24  (Or.inr h33_25)
      · skip
        refine own_pre (B := T24.setTop (mkF m 76 #[.val (.ref x0), .val (.ref x1)] [])) ?_ fun t k => XS.icmpYes X24.here hx rfl (pc0 := 33) (pc' := 76) rfl (hb hby d4_33) rfl (feq h33_25).2 (by decide) (by decide) k
        refine own_pre (B := T24.setTop (mkF m 77 #[.val (.ref x0), .val (.ref x1)] [(.int (0 : Int32))])) ?_ fun t k => XS.iconst X24.here hx rfl (hb hby d4_76) k
        refine own_retN X24 hx hlk (t := .boolean) (z' := (0 : Int32)) Bd.returns (by simp) (hb hby d4_77) (by decide) ?_ (by decide) (by decide)
        rw [e24]
        exact ⟨by rw [own_mt, if_neg (fun q => q.2.1.elim h22_6 h33_25)], N4, rfl⟩
  by_cases h4_2 : wa = (0 : Int32)
  · skip
    refine own_pre (B := T1.setTop (mkF m 18 #[.val (.ref x0), .val (.ref x1)] [])) ?_ fun t k => XS.ifYes X1.here hx rfl (pc0 := 4) (pc' := 18) rfl (hb hby d4_4) rfl ((if0 _ _).trans (teq h4_2).1) (by decide) (by decide) k
    exact Jj3 T1 _ X1 N0 e1  (Or.inl h4_2)
  · skip
    refine own_pre (B := T1.setTop (mkF m 7 #[.val (.ref x0), .val (.ref x1)] [])) ?_ fun t k => XS.ifNo X1.here hx rfl (hb hby d4_4) rfl ((if0 _ _).trans (feq h4_2).1) k
    refine own_pre (B := T1.setTop (mkF m 8 #[.val (.ref x0), .val (.ref x1)] [(.ref x0)])) ?_ fun t k => XS.aloadN X1.here hx rfl (hb hby d4_7) rfl rfl k
    obtain ⟨T26, X26, e26, st26⟩ := getF X1 hx hZ hown (host := "") (Or.inl (hw _ (List.mem_of_getElem? (i := 14) rfl))) Via.refl e1 F_area (g := (mkF m 8 #[.val (.ref x0), .val (.ref x1)] [(.ref x0)])) rfl rfl (hb hby d4_8)
    refine own_pre (B := T26.setTop (mkF m 11 #[.val (.ref x0), .val (.ref x1)] [(.int wa)])) ?_ st26
    refine own_pre (B := T26.setTop (mkF m 12 #[.val (.ref x0), .val (.ref x1)] [(.ref x1), (.int wa)])) ?_ fun t k => XS.aloadN X26.here hx rfl (hb hby d4_11) rfl rfl k
    obtain ⟨T27, X27, e27, st27⟩ := getF X26 hx hZ hown (host := "") (Or.inl (hw _ (List.mem_of_getElem? (i := 14) rfl))) Via.refl e26 G_area (g := (mkF m 12 #[.val (.ref x0), .val (.ref x1)] [(.ref x1), (.int wa)])) rfl rfl (hb hby d4_12)
    refine own_pre (B := T27.setTop (mkF m 15 #[.val (.ref x0), .val (.ref x1)] [(.int ua), (.int wa)])) ?_ st27
    by_cases h15_28 : wa = ua
    · skip
      refine own_pre (B := T27.setTop (mkF m 18 #[.val (.ref x0), .val (.ref x1)] [])) ?_ fun t k => XS.icmpNo X27.here hx rfl (hb hby d4_15) rfl (teq h15_28).2 k
      exact Jj3 T27 _ X27 N0 e27  (Or.inr h15_28)
    · skip
      refine own_pre (B := T27.setTop (mkF m 76 #[.val (.ref x0), .val (.ref x1)] [])) ?_ fun t k => XS.icmpYes X27.here hx rfl (pc0 := 15) (pc' := 76) rfl (hb hby d4_15) rfl (feq h15_28).2 (by decide) (by decide) k
      refine own_pre (B := T27.setTop (mkF m 77 #[.val (.ref x0), .val (.ref x1)] [(.int (0 : Int32))])) ?_ fun t k => XS.iconst X27.here hx rfl (hb hby d4_76) k
      refine own_retN X27 hx hlk (t := .boolean) (z' := (0 : Int32)) Bd.returns (by simp) (hb hby d4_77) (by decide) ?_ (by decide) (by decide)
      rw [e27]
      exact ⟨by rw [own_mt, if_neg (fun q => q.1.elim h4_2 h15_28)], N0, rfl⟩
theorem d5_0 : decode prog_27_method_2_code 0 = .ok (.aload_n 0, 1) := by decide +kernel
theorem d5_1 : decode prog_27_method_2_code 1 = .ok (.getfield 7, 3) := by decide +kernel
theorem d5_4 : decode prog_27_method_2_code 4 = .ok (.ifCond .eq 24, 3) := by decide +kernel
theorem d5_28 : decode prog_27_method_2_code 28 = .ok (.iconst 1, 1) := by decide +kernel
theorem d5_29 : decode prog_27_method_2_code 29 = .ok (.goto 4, 3) := by decide +kernel
theorem d5_33 : decode prog_27_method_2_code 33 = .ok (.ireturn, 1) := by decide +kernel
theorem d5_7 : decode prog_27_method_2_code 7 = .ok (.aload_n 0, 1) := by decide +kernel
theorem d5_8 : decode prog_27_method_2_code 8 = .ok (.getfield 13, 3) := by decide +kernel
theorem d5_11 : decode prog_27_method_2_code 11 = .ok (.ifCond .eq 17, 3) := by decide +kernel
theorem d5_14 : decode prog_27_method_2_code 14 = .ok (.aload_n 0, 1) := by decide +kernel
theorem d5_15 : decode prog_27_method_2_code 15 = .ok (.getfield 16, 3) := by decide +kernel
theorem d5_18 : decode prog_27_method_2_code 18 = .ok (.ifCond .eq 10, 3) := by decide +kernel
theorem d5_21 : decode prog_27_method_2_code 21 = .ok (.aload_n 0, 1) := by decide +kernel
theorem d5_22 : decode prog_27_method_2_code 22 = .ok (.getfield 19, 3) := by decide +kernel
theorem d5_25 : decode prog_27_method_2_code 25 = .ok (.ifCond .ne 7, 3) := by decide +kernel
theorem d5_32 : decode prog_27_method_2_code 32 = .ok (.iconst 0, 1) := by decide +kernel
set_option maxHeartbeats 4000000 in
theorem ef_5 (m : MethodId) (x0 : Addr) : entryFrame m #[(.ref x0)] 1 = mkF m 0 #[.val (.ref x0)] [] := by first | (simp [entryFrame, mkF, argsToLocals, Value.category]; done) | rfl
def Q5 (Z : State) (x0 : Addr) (wa : Int32) (wsv : Int32) (wv : Int32) (wn : Int32) (h0 : Heap) (n0 : Nat) (v : Option Value) (h : Heap) (L : List Loc) : Prop := v = some (.int (own_hw wa wsv wv wn)) ∧ Fr n0 L ∧ h = h0
set_option maxRecDepth 65536 in
set_option maxHeartbeats 40000000 in
theorem rm5 (l : Launch) (Z : State) (a0 : Array Value) (hw : ∀ d ∈ tables_1, d.before a0 Z = true) (ws : List Jvm.Cond) (x0 : Addr) (wa : Int32) (wsv : Int32) (wv : Int32) (wn : Int32) (h0 : Heap) (n0 : Nat) (Z0 : n0 ≤ h0.size) (F_area : Fld Z h0 x0 "com/example/halyard/halyard/com/ObjectType" "area" "I" (.int wa)) (F_service : Fld Z h0 x0 "com/example/halyard/halyard/com/ObjectType" "service" "I" (.int wsv)) (F_version : Fld Z h0 x0 "com/example/halyard/halyard/com/ObjectType" "version" "I" (.int wv)) (F_number : Fld Z h0 x0 "com/example/halyard/halyard/com/ObjectType" "number" "I" (.int wn)) :
    MetFree l (⟨"com/example/halyard/halyard/com/ObjectType", "hasWildcard", "()Z"⟩ : MethodName) (head1 (Jvm.Cond.code (⟨"com/example/halyard/halyard/com/ObjectType", "hasWildcard", "()Z"⟩ : MethodName) prog_27_method_2_code 1 (some .boolean) :: ws) ({ frames := 0, cells := 0, slots := 0, locals := 0 } : Room)) (fun a U => a = #[(.ref x0)] ∧ Z.Warmed39 U.vm ∧ U.heap = h0) (fun _ _ _ _ _ => True) (fun _ U o U' => ∃ v L, o = .returned v ∧ Q5 Z x0 wa wsv wv wn h0 n0 v U'.heap L ∧ FrameEnd U o U' L ({ frames := 0, cells := 0, slots := 0, locals := 0 } : Room).cells ({ frames := 0, cells := 0, slots := 0, locals := 0 } : Room).slots) := by
  refine MetFree.of_bodySF (plainFor_of_name pn_com_example_halyard_halyard_com_ObjectType) hisR ?_
  intro p e s m args below meth c s₁ Bd hml0 hP hK
  obtain ⟨rfl, hZ, hh⟩ := hP
  have hx := Bd.exec
  have hby := Bd.bytes
  have hml : c.maxLocals = 1 := hml0
  have hown : s.vm.findClass "com/example/halyard/halyard/com/ObjectType" = some m.cls := findClass_of_methodNamed Bd.named
  have hnm := (name_of_methodNamed Bd.named Bd.method).1
  have hlk : meth.locks = false := BodyLoose.notSynchronized Bd
  have X0 : Stand p l e ({ frames := 0, cells := 0, slots := 0, locals := 0 } : Room) s m #[(.ref x0)] below meth c s₁ [] 0 0 := Stand.of_body Bd
  have e0 : s₁.heap = h0 := by rw [← hh, Bd.state]; rfl
  have N0 := Fr.nil n0
  show own_E p e below s (Q5 Z x0 wa wsv wv wn h0 n0) 0 0 (s₁.setTop (entryFrame m #[(.ref x0)] 1))
  refine own_pre (B := s₁.setTop (mkF m 0 #[.val (.ref x0)] [])) ?_ (fun t k => castTop (ef_5 m x0) k)
  refine own_pre (B := s₁.setTop (mkF m 1 #[.val (.ref x0)] [(.ref x0)])) ?_ fun t k => XS.aloadN X0.here hx rfl (hb hby d5_0) rfl rfl k
  obtain ⟨T1, X1, e1, st1⟩ := getF X0 hx hZ hown (host := "") (Or.inl (hw _ (List.mem_of_getElem? (i := 14) rfl))) Via.refl e0 F_area (g := (mkF m 1 #[.val (.ref x0)] [(.ref x0)])) rfl rfl (hb hby d5_1)
  refine own_pre (B := T1.setTop (mkF m 4 #[.val (.ref x0)] [(.int wa)])) ?_ st1
  by_cases h4_2 : wa = (0 : Int32)
  · skip
    refine own_pre (B := T1.setTop (mkF m 28 #[.val (.ref x0)] [])) ?_ fun t k => XS.ifYes X1.here hx rfl (pc0 := 4) (pc' := 28) rfl (hb hby d5_4) rfl ((if0 _ _).trans (teq h4_2).1) (by decide) (by decide) k
    refine own_pre (B := T1.setTop (mkF m 29 #[.val (.ref x0)] [(.int (1 : Int32))])) ?_ fun t k => XS.iconst X1.here hx rfl (hb hby d5_28) k
    refine own_pre (B := T1.setTop (mkF m 33 #[.val (.ref x0)] [(.int (1 : Int32))])) ?_ fun t k => XS.goto X1.here hx rfl (pc0 := 29) (pc' := 33) rfl (hb hby d5_29) (by decide) (by decide) k
    refine own_retN X1 hx hlk (t := .boolean) (z' := (1 : Int32)) Bd.returns (by simp) (hb hby d5_33) (by decide) ?_ (by decide) (by decide)
    rw [e1]
    exact ⟨by rw [own_hw, if_pos h4_2], N0, rfl⟩
  · skip
    refine own_pre (B := T1.setTop (mkF m 7 #[.val (.ref x0)] [])) ?_ fun t k => XS.ifNo X1.here hx rfl (hb hby d5_4) rfl ((if0 _ _).trans (feq h4_2).1) k
    refine own_pre (B := T1.setTop (mkF m 8 #[.val (.ref x0)] [(.ref x0)])) ?_ fun t k => XS.aloadN X1.here hx rfl (hb hby d5_7) rfl rfl k
    obtain ⟨T3, X3, e3, st3⟩ := getF X1 hx hZ hown (host := "") (Or.inl (hw _ (List.mem_of_getElem? (i := 16) rfl))) Via.refl e1 F_service (g := (mkF m 8 #[.val (.ref x0)] [(.ref x0)])) rfl rfl (hb hby d5_8)
    refine own_pre (B := T3.setTop (mkF m 11 #[.val (.ref x0)] [(.int wsv)])) ?_ st3
    by_cases h11_4 : wsv = (0 : Int32)
    · skip
      refine own_pre (B := T3.setTop (mkF m 28 #[.val (.ref x0)] [])) ?_ fun t k => XS.ifYes X3.here hx rfl (pc0 := 11) (pc' := 28) rfl (hb hby d5_11) rfl ((if0 _ _).trans (teq h11_4).1) (by decide) (by decide) k
      refine own_pre (B := T3.setTop (mkF m 29 #[.val (.ref x0)] [(.int (1 : Int32))])) ?_ fun t k => XS.iconst X3.here hx rfl (hb hby d5_28) k
      refine own_pre (B := T3.setTop (mkF m 33 #[.val (.ref x0)] [(.int (1 : Int32))])) ?_ fun t k => XS.goto X3.here hx rfl (pc0 := 29) (pc' := 33) rfl (hb hby d5_29) (by decide) (by decide) k
      refine own_retN X3 hx hlk (t := .boolean) (z' := (1 : Int32)) Bd.returns (by simp) (hb hby d5_33) (by decide) ?_ (by decide) (by decide)
      rw [e3]
      exact ⟨by rw [own_hw, if_neg h4_2, if_pos h11_4], N0, rfl⟩
    · skip
      refine own_pre (B := T3.setTop (mkF m 14 #[.val (.ref x0)] [])) ?_ fun t k => XS.ifNo X3.here hx rfl (hb hby d5_11) rfl ((if0 _ _).trans (feq h11_4).1) k
      refine own_pre (B := T3.setTop (mkF m 15 #[.val (.ref x0)] [(.ref x0)])) ?_ fun t k => XS.aloadN X3.here hx rfl (hb hby d5_14) rfl rfl k
      obtain ⟨T5, X5, e5, st5⟩ := getF X3 hx hZ hown (host := "") (Or.inl (hw _ (List.mem_of_getElem? (i := 18) rfl))) Via.refl e3 F_version (g := (mkF m 15 #[.val (.ref x0)] [(.ref x0)])) rfl rfl (hb hby d5_15)
      refine own_pre (B := T5.setTop (mkF m 18 #[.val (.ref x0)] [(.int wv)])) ?_ st5
      by_cases h18_6 : wv = (0 : Int32)
      · skip
        refine own_pre (B := T5.setTop (mkF m 28 #[.val (.ref x0)] [])) ?_ fun t k => XS.ifYes X5.here hx rfl (pc0 := 18) (pc' := 28) rfl (hb hby d5_18) rfl ((if0 _ _).trans (teq h18_6).1) (by decide) (by decide) k
        refine own_pre (B := T5.setTop (mkF m 29 #[.val (.ref x0)] [(.int (1 : Int32))])) ?_ fun t k => XS.iconst X5.here hx rfl (hb hby d5_28) k
        refine own_pre (B := T5.setTop (mkF m 33 #[.val (.ref x0)] [(.int (1 : Int32))])) ?_ fun t k => XS.goto X5.here hx rfl (pc0 := 29) (pc' := 33) rfl (hb hby d5_29) (by decide) (by decide) k
        refine own_retN X5 hx hlk (t := .boolean) (z' := (1 : Int32)) Bd.returns (by simp) (hb hby d5_33) (by decide) ?_ (by decide) (by decide)
        rw [e5]
        exact ⟨by rw [own_hw, if_neg h4_2, if_neg h11_4, if_pos h18_6], N0, rfl⟩
      · skip
        refine own_pre (B := T5.setTop (mkF m 21 #[.val (.ref x0)] [])) ?_ fun t k => XS.ifNo X5.here hx rfl (hb hby d5_18) rfl ((if0 _ _).trans (feq h18_6).1) k
        refine own_pre (B := T5.setTop (mkF m 22 #[.val (.ref x0)] [(.ref x0)])) ?_ fun t k => XS.aloadN X5.here hx rfl (hb hby d5_21) rfl rfl k
        obtain ⟨T7, X7, e7, st7⟩ := getF X5 hx hZ hown (host := "") (Or.inl (hw _ (List.mem_of_getElem? (i := 20) rfl))) Via.refl e5 F_number (g := (mkF m 22 #[.val (.ref x0)] [(.ref x0)])) rfl rfl (hb hby d5_22)
        refine own_pre (B := T7.setTop (mkF m 25 #[.val (.ref x0)] [(.int wn)])) ?_ st7
        by_cases h25_8 : wn = (0 : Int32)
        · skip
          refine own_pre (B := T7.setTop (mkF m 28 #[.val (.ref x0)] [])) ?_ fun t k => XS.ifNo X7.here hx rfl (hb hby d5_25) rfl ((if0 _ _).trans (teq h25_8).2) k
          refine own_pre (B := T7.setTop (mkF m 29 #[.val (.ref x0)] [(.int (1 : Int32))])) ?_ fun t k => XS.iconst X7.here hx rfl (hb hby d5_28) k
          refine own_pre (B := T7.setTop (mkF m 33 #[.val (.ref x0)] [(.int (1 : Int32))])) ?_ fun t k => XS.goto X7.here hx rfl (pc0 := 29) (pc' := 33) rfl (hb hby d5_29) (by decide) (by decide) k
          refine own_retN X7 hx hlk (t := .boolean) (z' := (1 : Int32)) Bd.returns (by simp) (hb hby d5_33) (by decide) ?_ (by decide) (by decide)
          rw [e7]
          exact ⟨by rw [own_hw, if_neg h4_2, if_neg h11_4, if_neg h18_6, if_pos h25_8], N0, rfl⟩
        · skip
          refine own_pre (B := T7.setTop (mkF m 32 #[.val (.ref x0)] [])) ?_ fun t k => XS.ifYes X7.here hx rfl (pc0 := 25) (pc' := 32) rfl (hb hby d5_25) rfl ((if0 _ _).trans (feq h25_8).2) (by decide) (by decide) k
          refine own_pre (B := T7.setTop (mkF m 33 #[.val (.ref x0)] [(.int (0 : Int32))])) ?_ fun t k => XS.iconst X7.here hx rfl (hb hby d5_32) k
          refine own_retN X7 hx hlk (t := .boolean) (z' := (0 : Int32)) Bd.returns (by simp) (hb hby d5_33) (by decide) ?_ (by decide) (by decide)
          rw [e7]
          exact ⟨by rw [own_hw, if_neg h4_2, if_neg h11_4, if_neg h18_6, if_neg h25_8], N0, rfl⟩
theorem pd__IIII_V : parseMethodDescriptor "(IIII)V" = some ⟨[.int, .int, .int, .int], none⟩ := by decide +kernel
theorem pd__Lcom_example_halyard_halyard_com_ObjectType__Z : parseMethodDescriptor "(Lcom/example/halyard/halyard/com/ObjectType;)Z" = some ⟨[(.object "com/example/halyard/halyard/com/ObjectType")], some .boolean⟩ := by decide +kernel
theorem pd___Z : parseMethodDescriptor "()Z" = some ⟨[], some .boolean⟩ := by decide +kernel
set_option maxRecDepth 65536 in
set_option maxHeartbeats 40000000 in
theorem own_fin (x0 : Int32) (x1 : Int32) (x2 : Int32) (x3 : Int32) (x4 : Int32) (j2_s0 : Int32) (hvj2_s0 : j2_s0 = (if (x4 &&& (1 : Int32)) = (0 : Int32) then x0 else (0 : Int32))) (j5_s0 : Int32) (hvj5_s0 : j5_s0 = (if (x4 &&& (2 : Int32)) = (0 : Int32) then x1 else (0 : Int32))) (j8_s0 : Int32) (hvj8_s0 : j8_s0 = (if (x4 &&& (4 : Int32)) = (0 : Int32) then x2 else (0 : Int32))) (j11_s0 : Int32) (hvj11_s0 : j11_s0 = (if (x4 &&& (8 : Int32)) = (0 : Int32) then x3 else (0 : Int32))) (j61_s0 : Int32) (hvj61_s0 : j61_s0 = (if (own_mt j2_s0 (j2_s0 + (1 : Int32)) j5_s0 j5_s0 j8_s0 j8_s0 j11_s0 j11_s0) = (0 : Int32) then (if (own_mt j2_s0 j2_s0 j5_s0 (j5_s0 + (1 : Int32)) j8_s0 j8_s0 j11_s0 j11_s0) = (0 : Int32) then (if (own_mt j2_s0 j2_s0 j5_s0 j5_s0 j8_s0 (j8_s0 + (1 : Int32)) j11_s0 j11_s0) = (0 : Int32) then (if (own_mt j2_s0 j2_s0 j5_s0 j5_s0 j8_s0 j8_s0 j11_s0 (j11_s0 + (1 : Int32))) = (0 : Int32) then (0 : Int32) else (1 : Int32)) else (1 : Int32)) else (1 : Int32)) else (1 : Int32))) : (own_hw j2_s0 j5_s0 j8_s0 j11_s0) = j61_s0 := by
  rw [hvj61_s0]
  clear hvj61_s0
  unfold own_mt own_hw
  simp only [own_succ, or_false, or_true, true_and, and_true, eq_self]
  by_cases h1 : j2_s0 = (0 : Int32) <;> by_cases h2 : j5_s0 = (0 : Int32) <;> by_cases h3 : j8_s0 = (0 : Int32) <;> by_cases h4 : j11_s0 = (0 : Int32) <;> simp [h1, h2, h3, h4]
theorem pn_com_example_halyard_halyard_com_ObjectTypeHasWildcardPinLaw : plainName "com/example/halyard/halyard/com/ObjectTypeHasWildcardPinLaw" = true := by first | (simp [plainName, overriddenIn]; done) | decide +kernel
set_option maxHeartbeats 4000000 in
theorem ef_0 (m : MethodId) (x0 : Int32) (x1 : Int32) (x2 : Int32) (x3 : Int32) (x4 : Int32) : entryFrame m #[(.int x0), (.int x1), (.int x2), (.int x3), (.int x4)] maxLocals = mkF m 0 #[.val (.int x0), .val (.int x1), .val (.int x2), .val (.int x3), .val (.int x4), .unset, .unset, .unset, .unset, .unset, .unset, .unset, .unset, .unset, .unset, .unset, .unset, .unset, .unset] [] := by first | (simp [entryFrame, mkF, argsToLocals, Value.category, maxLocals]; done) | rfl
def Q0 (Z : State) (x0 : Int32) (x1 : Int32) (x2 : Int32) (x3 : Int32) (x4 : Int32) (h0 : Heap) (n0 : Nat) (v : Option Value) (h : Heap) (L : List Loc) : Prop := v = some (.int 1) ∧ Fr n0 L
set_option maxRecDepth 65536 in
set_option maxHeartbeats 40000000 in
theorem rm0 (l : Launch) (Z : State) (a0 : Array Value) (hw : ∀ d ∈ tables_1, d.before a0 Z = true) (ws : List Jvm.Cond) (x0 : Int32) (x1 : Int32) (x2 : Int32) (x3 : Int32) (x4 : Int32) (h0 : Heap) (n0 : Nat) (Z0 : n0 ≤ h0.size) :
    MetFree l x (head1 (Jvm.Cond.code x code maxLocals ret :: ws) room_1) (fun a U => a = #[(.int x0), (.int x1), (.int x2), (.int x3), (.int x4)] ∧ Z.Warmed39 U.vm ∧ U.heap = h0) (fun _ _ _ _ _ => True) (fun _ U o U' => ∃ v L, o = .returned v ∧ Q0 Z x0 x1 x2 x3 x4 h0 n0 v U'.heap L ∧ FrameEnd U o U' L 24 128) := by
  refine MetFree.of_bodySF (plainFor_of_name pn_com_example_halyard_halyard_com_ObjectTypeHasWildcardPinLaw) hisR ?_
  intro p e s m args below meth c s₁ Bd hml0 hP hK
  obtain ⟨rfl, hZ, hh⟩ := hP
  have hx := Bd.exec
  have hby := Bd.bytes
  have hml : c.maxLocals = 19 := hml0
  have hown : s.vm.findClass "com/example/halyard/halyard/com/ObjectTypeHasWildcardPinLaw" = some m.cls := findClass_of_methodNamed Bd.named
  have hnm := (name_of_methodNamed Bd.named Bd.method).1
  have hlk : meth.locks = false := BodyLoose.notSynchronized Bd
  have X0 : Stand p l e room_1 s m #[(.int x0), (.int x1), (.int x2), (.int x3), (.int x4)] below meth c s₁ [] 0 0 := Stand.of_body Bd
  have e0 : s₁.heap = h0 := by rw [← hh, Bd.state]; rfl
  have N0 := Fr.nil n0
  show own_E p e below s (Q0 Z x0 x1 x2 x3 x4 h0 n0) 24 128 (s₁.setTop (entryFrame m #[(.int x0), (.int x1), (.int x2), (.int x3), (.int x4)] maxLocals))
  refine own_pre (B := s₁.setTop (mkF m 0 #[.val (.int x0), .val (.int x1), .val (.int x2), .val (.int x3), .val (.int x4), .unset, .unset, .unset, .unset, .unset, .unset, .unset, .unset, .unset, .unset, .unset, .unset, .unset, .unset] [])) ?_ (fun t k => castTop (ef_0 m x0 x1 x2 x3 x4) k)
  refine own_pre (B := s₁.setTop (mkF m 2 #[.val (.int x0), .val (.int x1), .val (.int x2), .val (.int x3), .val (.int x4), .unset, .unset, .unset, .unset, .unset, .unset, .unset, .unset, .unset, .unset, .unset, .unset, .unset, .unset] [(.int x4)])) ?_ fun t k => XS.iload X0.here hx rfl (hb hby at_0) rfl  k
  refine own_pre (B := s₁.setTop (mkF m 3 #[.val (.int x0), .val (.int x1), .val (.int x2), .val (.int x3), .val (.int x4), .unset, .unset, .unset, .unset, .unset, .unset, .unset, .unset, .unset, .unset, .unset, .unset, .unset, .unset] [(.int (1 : Int32)), (.int x4)])) ?_ fun t k => XS.iconst X0.here hx rfl (hb hby at_2) k
  refine own_pre (B := s₁.setTop (mkF m 4 #[.val (.int x0), .val (.int x1), .val (.int x2), .val (.int x3), .val (.int x4), .unset, .unset, .unset, .unset, .unset, .unset, .unset, .unset, .unset, .unset, .unset, .unset, .unset, .unset] [(.int (x4 &&& (1 : Int32)))])) ?_ fun t k => XS.iand X0.here hx rfl (hb hby at_3) rfl k
  have Jj2 : ∀ (T3 : State) (l3 : List Loc) (X3 : Stand p l e room_1 s m #[(.int x0), (.int x1), (.int x2), (.int x3), (.int x4)] below meth c T3 l3 0 0) (N3 : Fr n0 l3) (e3 : T3.heap = h0) (j2_s0 : Int32) (hvj2_s0 : j2_s0 = (if (x4 &&& (1 : Int32)) = (0 : Int32) then x0 else (0 : Int32))), own_E p e below s (Q0 Z x0 x1 x2 x3 x4 h0 n0) 24 128 (T3.setTop (mkF m 12 #[.val (.int x0), .val (.int x1), .val (.int x2), .val (.int x3), .val (.int x4), .unset, .unset, .unset, .unset, .unset, .unset, .unset, .unset, .unset, .unset, .unset, .unset, .unset, .unset] [(.int j2_s0)])) := by
    intro T3 l3 X3 N3 e3 j2_s0 hvj2_s0
    refine own_pre (B := T3.setTop (mkF m 14 #[.val (.int x0), .val (.int x1), .val (.int x2), .val (.int x3), .val (.int x4), .val (.int j2_s0), .unset, .unset, .unset, .unset, .unset, .unset, .unset, .unset, .unset, .unset, .unset, .unset, .unset] [])) ?_ fun t k => XS.istore X3.here hx rfl (hb hby at_12) rfl  (l' := #[.val (.int x0), .val (.int x1), .val (.int x2), .val (.int x3), .val (.int x4), .val (.int j2_s0), .unset, .unset, .unset, .unset, .unset, .unset, .unset, .unset, .unset, .unset, .unset, .unset, .unset]) rfl k
    refine own_pre (B := T3.setTop (mkF m 16 #[.val (.int x0), .val (.int x1), .val (.int x2), .val (.int x3), .val (.int x4), .val (.int j2_s0), .unset, .unset, .unset, .unset, .unset, .unset, .unset, .unset, .unset, .unset, .unset, .unset, .unset] [(.int x4)])) ?_ fun t k => XS.iload X3.here hx rfl (hb hby at_14) rfl  k
    refine own_pre (B := T3.setTop (mkF m 17 #[.val (.int x0), .val (.int x1), .val (.int x2), .val (.int x3), .val (.int x4), .val (.int j2_s0), .unset, .unset, .unset, .unset, .unset, .unset, .unset, .unset, .unset, .unset, .unset, .unset, .unset] [(.int (2 : Int32)), (.int x4)])) ?_ fun t k => XS.iconst X3.here hx rfl (hb hby at_16) k
    refine own_pre (B := T3.setTop (mkF m 18 #[.val (.int x0), .val (.int x1), .val (.int x2), .val (.int x3), .val (.int x4), .val (.int j2_s0), .unset, .unset, .unset, .unset, .unset, .unset, .unset, .unset, .unset, .unset, .unset, .unset, .unset] [(.int (x4 &&& (2 : Int32)))])) ?_ fun t k => XS.iand X3.here hx rfl (hb hby at_17) rfl k
    have Jj5 : ∀ (T6 : State) (l6 : List Loc) (X6 : Stand p l e room_1 s m #[(.int x0), (.int x1), (.int x2), (.int x3), (.int x4)] below meth c T6 l6 0 0) (N6 : Fr n0 l6) (e6 : T6.heap = h0) (j5_s0 : Int32) (hvj5_s0 : j5_s0 = (if (x4 &&& (2 : Int32)) = (0 : Int32) then x1 else (0 : Int32))), own_E p e below s (Q0 Z x0 x1 x2 x3 x4 h0 n0) 24 128 (T6.setTop (mkF m 26 #[.val (.int x0), .val (.int x1), .val (.int x2), .val (.int x3), .val (.int x4), .val (.int j2_s0), .unset, .unset, .unset, .unset, .unset, .unset, .unset, .unset, .unset, .unset, .unset, .unset, .unset] [(.int j5_s0)])) := by
      intro T6 l6 X6 N6 e6 j5_s0 hvj5_s0
      refine own_pre (B := T6.setTop (mkF m 28 #[.val (.int x0), .val (.int x1), .val (.int x2), .val (.int x3), .val (.int x4), .val (.int j2_s0), .val (.int j5_s0), .unset, .unset, .unset, .unset, .unset, .unset, .unset, .unset, .unset, .unset, .unset, .unset] [])) ?_ fun t k => XS.istore X6.here hx rfl (hb hby at_26) rfl  (l' := #[.val (.int x0), .val (.int x1), .val (.int x2), .val (.int x3), .val (.int x4), .val (.int j2_s0), .val (.int j5_s0), .unset, .unset, .unset, .unset, .unset, .unset, .unset, .unset, .unset, .unset, .unset, .unset]) rfl k
      refine own_pre (B := T6.setTop (mkF m 30 #[.val (.int x0), .val (.int x1), .val (.int x2), .val (.int x3), .val (.int x4), .val (.int j2_s0), .val (.int j5_s0), .unset, .unset, .unset, .unset, .unset, .unset, .unset, .unset, .unset, .unset, .unset, .unset] [(.int x4)])) ?_ fun t k => XS.iload X6.here hx rfl (hb hby at_28) rfl  k
      refine own_pre (B := T6.setTop (mkF m 31 #[.val (.int x0), .val (.int x1), .val (.int x2), .val (.int x3), .val (.int x4), .val (.int j2_s0), .val (.int j5_s0), .unset, .unset, .unset, .unset, .unset, .unset, .unset, .unset, .unset, .unset, .unset, .unset] [(.int (4 : Int32)), (.int x4)])) ?_ fun t k => XS.iconst X6.here hx rfl (hb hby at_30) k
      refine own_pre (B := T6.setTop (mkF m 32 #[.val (.int x0), .val (.int x1), .val (.int x2), .val (.int x3), .val (.int x4), .val (.int j2_s0), .val (.int j5_s0), .unset, .unset, .unset, .unset, .unset, .unset, .unset, .unset, .unset, .unset, .unset, .unset] [(.int (x4 &&& (4 : Int32)))])) ?_ fun t k => XS.iand X6.here hx rfl (hb hby at_31) rfl k
      have Jj8 : ∀ (T9 : State) (l9 : List Loc) (X9 : Stand p l e room_1 s m #[(.int x0), (.int x1), (.int x2), (.int x3), (.int x4)] below meth c T9 l9 0 0) (N9 : Fr n0 l9) (e9 : T9.heap = h0) (j8_s0 : Int32) (hvj8_s0 : j8_s0 = (if (x4 &&& (4 : Int32)) = (0 : Int32) then x2 else (0 : Int32))), own_E p e below s (Q0 Z x0 x1 x2 x3 x4 h0 n0) 24 128 (T9.setTop (mkF m 40 #[.val (.int x0), .val (.int x1), .val (.int x2), .val (.int x3), .val (.int x4), .val (.int j2_s0), .val (.int j5_s0), .unset, .unset, .unset, .unset, .unset, .unset, .unset, .unset, .unset, .unset, .unset, .unset] [(.int j8_s0)])) := by
        intro T9 l9 X9 N9 e9 j8_s0 hvj8_s0
        refine own_pre (B := T9.setTop (mkF m 42 #[.val (.int x0), .val (.int x1), .val (.int x2), .val (.int x3), .val (.int x4), .val (.int j2_s0), .val (.int j5_s0), .val (.int j8_s0), .unset, .unset, .unset, .unset, .unset, .unset, .unset, .unset, .unset, .unset, .unset] [])) ?_ fun t k => XS.istore X9.here hx rfl (hb hby at_40) rfl  (l' := #[.val (.int x0), .val (.int x1), .val (.int x2), .val (.int x3), .val (.int x4), .val (.int j2_s0), .val (.int j5_s0), .val (.int j8_s0), .unset, .unset, .unset, .unset, .unset, .unset, .unset, .unset, .unset, .unset, .unset]) rfl k
        refine own_pre (B := T9.setTop (mkF m 44 #[.val (.int x0), .val (.int x1), .val (.int x2), .val (.int x3), .val (.int x4), .val (.int j2_s0), .val (.int j5_s0), .val (.int j8_s0), .unset, .unset, .unset, .unset, .unset, .unset, .unset, .unset, .unset, .unset, .unset] [(.int x4)])) ?_ fun t k => XS.iload X9.here hx rfl (hb hby at_42) rfl  k
        refine own_pre (B := T9.setTop (mkF m 46 #[.val (.int x0), .val (.int x1), .val (.int x2), .val (.int x3), .val (.int x4), .val (.int j2_s0), .val (.int j5_s0), .val (.int j8_s0), .unset, .unset, .unset, .unset, .unset, .unset, .unset, .unset, .unset, .unset, .unset] [(.int (8 : Int32)), (.int x4)])) ?_ fun t k => XS.bipush X9.here hx rfl (hb hby at_44) k
        refine own_pre (B := T9.setTop (mkF m 47 #[.val (.int x0), .val (.int x1), .val (.int x2), .val (.int x3), .val (.int x4), .val (.int j2_s0), .val (.int j5_s0), .val (.int j8_s0), .unset, .unset, .unset, .unset, .unset, .unset, .unset, .unset, .unset, .unset, .unset] [(.int (x4 &&& (8 : Int32)))])) ?_ fun t k => XS.iand X9.here hx rfl (hb hby at_46) rfl k
        have Jj11 : ∀ (T12 : State) (l12 : List Loc) (X12 : Stand p l e room_1 s m #[(.int x0), (.int x1), (.int x2), (.int x3), (.int x4)] below meth c T12 l12 0 0) (N12 : Fr n0 l12) (e12 : T12.heap = h0) (j11_s0 : Int32) (hvj11_s0 : j11_s0 = (if (x4 &&& (8 : Int32)) = (0 : Int32) then x3 else (0 : Int32))), own_E p e below s (Q0 Z x0 x1 x2 x3 x4 h0 n0) 24 128 (T12.setTop (mkF m 55 #[.val (.int x0), .val (.int x1), .val (.int x2), .val (.int x3), .val (.int x4), .val (.int j2_s0), .val (.int j5_s0), .val (.int j8_s0), .unset, .unset, .unset, .unset, .unset, .unset, .unset, .unset, .unset, .unset, .unset] [(.int j11_s0)])) := by
          intro T12 l12 X12 N12 e12 j11_s0 hvj11_s0
          refine own_pre (B := T12.setTop (mkF m 57 #[.val (.int x0), .val (.int x1), .val (.int x2), .val (.int x3), .val (.int x4), .val (.int j2_s0), .val (.int j5_s0), .val (.int j8_s0), .val (.int j11_s0), .unset, .unset, .unset, .unset, .unset, .unset, .unset, .unset, .unset, .unset] [])) ?_ fun t k => XS.istore X12.here hx rfl (hb hby at_55) rfl  (l' := #[.val (.int x0), .val (.int x1), .val (.int x2), .val (.int x3), .val (.int x4), .val (.int j2_s0), .val (.int j5_s0), .val (.int j8_s0), .val (.int j11_s0), .unset, .unset, .unset, .unset, .unset, .unset, .unset, .unset, .unset, .unset]) rfl k
          obtain ⟨T13, h13, X13, e13, E13, A13, D13, -, st13⟩ := newO X12 hx hZ hown (hw _ (List.mem_of_getElem? (i := 0) rfl)) (hw _ (List.mem_of_getElem? (i := 1) rfl)) (hw _ (List.mem_of_getElem? (i := 2) rfl)) e12 (g := (mkF m 57 #[.val (.int x0), .val (.int x1), .val (.int x2), .val (.int x3), .val (.int x4), .val (.int j2_s0), .val (.int j5_s0), .val (.int j8_s0), .val (.int j11_s0), .unset, .unset, .unset, .unset, .unset, .unset, .unset, .unset, .unset, .unset] [])) rfl (hb hby at_57) (by decide) (by decide)
          obtain ⟨b13, g13⟩ : ∃ z, z = h0.size := ⟨_, rfl⟩
          rw [← g13] at A13 D13 st13
          have Z13 : n0 ≤ h13.size := Nat.le_trans Z0 E13.1
          have gz13 : n0 ≤ b13 := Nat.le_trans Z0 (Nat.le_of_eq g13.symm)
          have F13_area : Fld Z h13 b13 "com/example/halyard/halyard/com/ObjectType" "area" "I" (.int (0 : Int32)) := D13 (Or.inr (hw _ (List.mem_of_getElem? (i := 15) rfl))) (ty := .int) (by decide)
          have F13_service : Fld Z h13 b13 "com/example/halyard/halyard/com/ObjectType" "service" "I" (.int (0 : Int32)) := D13 (Or.inr (hw _ (List.mem_of_getElem? (i := 17) rfl))) (ty := .int) (by decide)
          have F13_version : Fld Z h13 b13 "com/example/halyard/halyard/com/ObjectType" "version" "I" (.int (0 : Int32)) := D13 (Or.inr (hw _ (List.mem_of_getElem? (i := 19) rfl))) (ty := .int) (by decide)
          have F13_number : Fld Z h13 b13 "com/example/halyard/halyard/com/ObjectType" "number" "I" (.int (0 : Int32)) := D13 (Or.inr (hw _ (List.mem_of_getElem? (i := 21) rfl))) (ty := .int) (by decide)
          refine own_pre (B := T13.setTop (mkF m 60 #[.val (.int x0), .val (.int x1), .val (.int x2), .val (.int x3), .val (.int x4), .val (.int j2_s0), .val (.int j5_s0), .val (.int j8_s0), .val (.int j11_s0), .unset, .unset, .unset, .unset, .unset, .unset, .unset, .unset, .unset, .unset] [(.ref b13)])) ?_ st13
          refine own_pre (B := T13.setTop (mkF m 61 #[.val (.int x0), .val (.int x1), .val (.int x2), .val (.int x3), .val (.int x4), .val (.int j2_s0), .val (.int j5_s0), .val (.int j8_s0), .val (.int j11_s0), .unset, .unset, .unset, .unset, .unset, .unset, .unset, .unset, .unset, .unset] [(.ref b13), (.ref b13)])) ?_ fun t k => XS.dup X13.here hx rfl (hb hby at_60) rfl rfl k
          refine own_pre (B := T13.setTop (mkF m 63 #[.val (.int x0), .val (.int x1), .val (.int x2), .val (.int x3), .val (.int x4), .val (.int j2_s0), .val (.int j5_s0), .val (.int j8_s0), .val (.int j11_s0), .unset, .unset, .unset, .unset, .unset, .unset, .unset, .unset, .unset, .unset] [(.int j2_s0), (.ref b13), (.ref b13)])) ?_ fun t k => XS.iload X13.here hx rfl (hb hby at_61) rfl  k
          refine own_pre (B := T13.setTop (mkF m 65 #[.val (.int x0), .val (.int x1), .val (.int x2), .val (.int x3), .val (.int x4), .val (.int j2_s0), .val (.int j5_s0), .val (.int j8_s0), .val (.int j11_s0), .unset, .unset, .unset, .unset, .unset, .unset, .unset, .unset, .unset, .unset] [(.int j5_s0), (.int j2_s0), (.ref b13), (.ref b13)])) ?_ fun t k => XS.iload X13.here hx rfl (hb hby at_63) rfl  k
          refine own_pre (B := T13.setTop (mkF m 67 #[.val (.int x0), .val (.int x1), .val (.int x2), .val (.int x3), .val (.int x4), .val (.int j2_s0), .val (.int j5_s0), .val (.int j8_s0), .val (.int j11_s0), .unset, .unset, .unset, .unset, .unset, .unset, .unset, .unset, .unset, .unset] [(.int j8_s0), (.int j5_s0), (.int j2_s0), (.ref b13), (.ref b13)])) ?_ fun t k => XS.iload X13.here hx rfl (hb hby at_65) rfl  k
          refine own_pre (B := T13.setTop (mkF m 69 #[.val (.int x0), .val (.int x1), .val (.int x2), .val (.int x3), .val (.int x4), .val (.int j2_s0), .val (.int j5_s0), .val (.int j8_s0), .val (.int j11_s0), .unset, .unset, .unset, .unset, .unset, .unset, .unset, .unset, .unset, .unset] [(.int j11_s0), (.int j8_s0), (.int j5_s0), (.int j2_s0), (.ref b13), (.ref b13)])) ?_ fun t k => XS.iload X13.here hx rfl (hb hby at_67) rfl  k
          obtain ⟨_, _, ⟨T14, L14, k14, n14⟩, -, X14, ⟨Lc14, hQ14, l14, y14, z14⟩, st14⟩ := X13.specialBack hx (y := (⟨"com/example/halyard/halyard/com/ObjectType", "<init>", "(IIII)V"⟩ : MethodName)) rfl hown (mvT hZ (hw _ (List.mem_of_getElem? (i := 3) rfl))) (mvT hZ (hw _ (List.mem_of_getElem? (i := 4) rfl))) (mvT hZ (hw _ (List.mem_of_getElem? (i := 5) rfl))) (by decide) (backOf (W := 1) (rm1 l Z a0 hw [] b13 j2_s0 j5_s0 j8_s0 j11_s0 h13 n0 Z13 A13 F13_area F13_service F13_version F13_number gz13) hZ (hw _ (List.mem_of_getElem? (i := 5) rfl)) (hw _ (List.mem_of_getElem? (i := 2) rfl)) (by decide) (by decide)) (g := (mkF m 69 #[.val (.int x0), .val (.int x1), .val (.int x2), .val (.int x3), .val (.int x4), .val (.int j2_s0), .val (.int j5_s0), .val (.int j8_s0), .val (.int j11_s0), .unset, .unset, .unset, .unset, .unset, .unset, .unset, .unset, .unset, .unset] [(.int j11_s0), (.int j8_s0), (.int j5_s0), (.int j2_s0), (.ref b13), (.ref b13)])) rfl (by rw [hml]; rfl) (Steps.refl _) (a := b13) (argsL := [(.int j2_s0), (.int j5_s0), (.int j8_s0), (.int j11_s0)]) (rest := [(.ref b13)]) (lenOf pd__IIII_V rfl) rfl (by show 2 * 0 + _ ≤ _; exact Nat.le_of_eq rfl) (hb hby at_69) (fun _ _ => ⟨rfl, e13, (by decide : 1 + 0 ≤ _), (by decide : 4 + 0 ≤ _)⟩)
          dsimp only [Pt.U, Pt.locs, Pt.cells, Pt.slots] at X14 l14 y14 z14 st14 hQ14
          subst l14 y14 z14
          obtain ⟨rfl, Nq14, K14, E14, F14_area, F14_service, F14_version, F14_number⟩ := hQ14
          have N14 := Fr.app N12 Nq14
          have Z14 := Nat.le_trans Z13 K14.1
          refine own_pre (B := T14.setTop (mkF m 72 #[.val (.int x0), .val (.int x1), .val (.int x2), .val (.int x3), .val (.int x4), .val (.int j2_s0), .val (.int j5_s0), .val (.int j8_s0), .val (.int j11_s0), .unset, .unset, .unset, .unset, .unset, .unset, .unset, .unset, .unset, .unset] [(.ref b13)])) ?_ (fun t k => st14.trans k)
          refine own_pre (B := T14.setTop (mkF m 74 #[.val (.int x0), .val (.int x1), .val (.int x2), .val (.int x3), .val (.int x4), .val (.int j2_s0), .val (.int j5_s0), .val (.int j8_s0), .val (.int j11_s0), .val (.ref b13), .unset, .unset, .unset, .unset, .unset, .unset, .unset, .unset, .unset] [])) ?_ fun t k => XS.astore X14.here hx rfl (hb hby at_72) rfl rfl (l' := #[.val (.int x0), .val (.int x1), .val (.int x2), .val (.int x3), .val (.int x4), .val (.int j2_s0), .val (.int j5_s0), .val (.int j8_s0), .val (.int j11_s0), .val (.ref b13), .unset, .unset, .unset, .unset, .unset, .unset, .unset, .unset, .unset]) rfl k
          obtain ⟨T15, h15, X15, e15, E15, A15, D15, -, st15⟩ := newO X14 hx hZ hown (hw _ (List.mem_of_getElem? (i := 0) rfl)) (hw _ (List.mem_of_getElem? (i := 1) rfl)) (hw _ (List.mem_of_getElem? (i := 2) rfl)) rfl (g := (mkF m 74 #[.val (.int x0), .val (.int x1), .val (.int x2), .val (.int x3), .val (.int x4), .val (.int j2_s0), .val (.int j5_s0), .val (.int j8_s0), .val (.int j11_s0), .val (.ref b13), .unset, .unset, .unset, .unset, .unset, .unset, .unset, .unset, .unset] [])) rfl (hb hby at_74) (by decide) (by decide)
          obtain ⟨b15, g15⟩ : ∃ z, z = T14.heap.size := ⟨_, rfl⟩
          rw [← g15] at A15 D15 st15
          have ne16 : b13 ≠ b15 := Nat.ne_of_lt (Nat.lt_of_lt_of_le E14.lt (Nat.le_of_eq g15.symm))
          have Z15 : n0 ≤ h15.size := Nat.le_trans Z14 E15.1
          have gz15 : n0 ≤ b15 := Nat.le_trans Z14 (Nat.le_of_eq g15.symm)
          have F15_area : Fld Z h15 b15 "com/example/halyard/halyard/com/ObjectType" "area" "I" (.int (0 : Int32)) := D15 (Or.inr (hw _ (List.mem_of_getElem? (i := 15) rfl))) (ty := .int) (by decide)
          have F15_service : Fld Z h15 b15 "com/example/halyard/halyard/com/ObjectType" "service" "I" (.int (0 : Int32)) := D15 (Or.inr (hw _ (List.mem_of_getElem? (i := 17) rfl))) (ty := .int) (by decide)
          have F15_version : Fld Z h15 b15 "com/example/halyard/halyard/com/ObjectType" "version" "I" (.int (0 : Int32)) := D15 (Or.inr (hw _ (List.mem_of_getElem? (i := 19) rfl))) (ty := .int) (by decide)
          have F15_number : Fld Z h15 b15 "com/example/halyard/halyard/com/ObjectType" "number" "I" (.int (0 : Int32)) := D15 (Or.inr (hw _ (List.mem_of_getElem? (i := 21) rfl))) (ty := .int) (by decide)
          refine own_pre (B := T15.setTop (mkF m 77 #[.val (.int x0), .val (.int x1), .val (.int x2), .val (.int x3), .val (.int x4), .val (.int j2_s0), .val (.int j5_s0), .val (.int j8_s0), .val (.int j11_s0), .val (.ref b13), .unset, .unset, .unset, .unset, .unset, .unset, .unset, .unset, .unset] [(.ref b15)])) ?_ st15
          refine own_pre (B := T15.setTop (mkF m 78 #[.val (.int x0), .val (.int x1), .val (.int x2), .val (.int x3), .val (.int x4), .val (.int j2_s0), .val (.int j5_s0), .val (.int j8_s0), .val (.int j11_s0), .val (.ref b13), .unset, .unset, .unset, .unset, .unset, .unset, .unset, .unset, .unset] [(.ref b15), (.ref b15)])) ?_ fun t k => XS.dup X15.here hx rfl (hb hby at_77) rfl rfl k
          refine own_pre (B := T15.setTop (mkF m 80 #[.val (.int x0), .val (.int x1), .val (.int x2), .val (.int x3), .val (.int x4), .val (.int j2_s0), .val (.int j5_s0), .val (.int j8_s0), .val (.int j11_s0), .val (.ref b13), .unset, .unset, .unset, .unset, .unset, .unset, .unset, .unset, .unset] [(.int j2_s0), (.ref b15), (.ref b15)])) ?_ fun t k => XS.iload X15.here hx rfl (hb hby at_78) rfl  k
          refine own_pre (B := T15.setTop (mkF m 81 #[.val (.int x0), .val (.int x1), .val (.int x2), .val (.int x3), .val (.int x4), .val (.int j2_s0), .val (.int j5_s0), .val (.int j8_s0), .val (.int j11_s0), .val (.ref b13), .unset, .unset, .unset, .unset, .unset, .unset, .unset, .unset, .unset] [(.int (1 : Int32)), (.int j2_s0), (.ref b15), (.ref b15)])) ?_ fun t k => XS.iconst X15.here hx rfl (hb hby at_80) k
          refine own_pre (B := T15.setTop (mkF m 82 #[.val (.int x0), .val (.int x1), .val (.int x2), .val (.int x3), .val (.int x4), .val (.int j2_s0), .val (.int j5_s0), .val (.int j8_s0), .val (.int j11_s0), .val (.ref b13), .unset, .unset, .unset, .unset, .unset, .unset, .unset, .unset, .unset] [(.int (j2_s0 + (1 : Int32))), (.ref b15), (.ref b15)])) ?_ fun t k => XS.iadd X15.here hx rfl (hb hby at_81) rfl k
          refine own_pre (B := T15.setTop (mkF m 84 #[.val (.int x0), .val (.int x1), .val (.int x2), .val (.int x3), .val (.int x4), .val (.int j2_s0), .val (.int j5_s0), .val (.int j8_s0), .val (.int j11_s0), .val (.ref b13), .unset, .unset, .unset, .unset, .unset, .unset, .unset, .unset, .unset] [(.int j5_s0), (.int (j2_s0 + (1 : Int32))), (.ref b15), (.ref b15)])) ?_ fun t k => XS.iload X15.here hx rfl (hb hby at_82) rfl  k
          refine own_pre (B := T15.setTop (mkF m 86 #[.val (.int x0), .val (.int x1), .val (.int x2), .val (.int x3), .val (.int x4), .val (.int j2_s0), .val (.int j5_s0), .val (.int j8_s0), .val (.int j11_s0), .val (.ref b13), .unset, .unset, .unset, .unset, .unset, .unset, .unset, .unset, .unset] [(.int j8_s0), (.int j5_s0), (.int (j2_s0 + (1 : Int32))), (.ref b15), (.ref b15)])) ?_ fun t k => XS.iload X15.here hx rfl (hb hby at_84) rfl  k
          refine own_pre (B := T15.setTop (mkF m 88 #[.val (.int x0), .val (.int x1), .val (.int x2), .val (.int x3), .val (.int x4), .val (.int j2_s0), .val (.int j5_s0), .val (.int j8_s0), .val (.int j11_s0), .val (.ref b13), .unset, .unset, .unset, .unset, .unset, .unset, .unset, .unset, .unset] [(.int j11_s0), (.int j8_s0), (.int j5_s0), (.int (j2_s0 + (1 : Int32))), (.ref b15), (.ref b15)])) ?_ fun t k => XS.iload X15.here hx rfl (hb hby at_86) rfl  k
          obtain ⟨_, _, ⟨T17, L17, k17, n17⟩, -, X17, ⟨Lc17, hQ17, l17, y17, z17⟩, st17⟩ := X15.specialBack hx (y := (⟨"com/example/halyard/halyard/com/ObjectType", "<init>", "(IIII)V"⟩ : MethodName)) rfl hown (mvT hZ (hw _ (List.mem_of_getElem? (i := 3) rfl))) (mvT hZ (hw _ (List.mem_of_getElem? (i := 4) rfl))) (mvT hZ (hw _ (List.mem_of_getElem? (i := 5) rfl))) (by decide) (backOf (W := 1) (rm1 l Z a0 hw [] b15 (j2_s0 + (1 : Int32)) j5_s0 j8_s0 j11_s0 h15 n0 Z15 A15 F15_area F15_service F15_version F15_number gz15) hZ (hw _ (List.mem_of_getElem? (i := 5) rfl)) (hw _ (List.mem_of_getElem? (i := 2) rfl)) (by decide) (by decide)) (g := (mkF m 88 #[.val (.int x0), .val (.int x1), .val (.int x2), .val (.int x3), .val (.int x4), .val (.int j2_s0), .val (.int j5_s0), .val (.int j8_s0), .val (.int j11_s0), .val (.ref b13), .unset, .unset, .unset, .unset, .unset, .unset, .unset, .unset, .unset] [(.int j11_s0), (.int j8_s0), (.int j5_s0), (.int (j2_s0 + (1 : Int32))), (.ref b15), (.ref b15)])) rfl (by rw [hml]; rfl) (Steps.refl _) (a := b15) (argsL := [(.int (j2_s0 + (1 : Int32))), (.int j5_s0), (.int j8_s0), (.int j11_s0)]) (rest := [(.ref b15)]) (lenOf pd__IIII_V rfl) rfl (by show 2 * 0 + _ ≤ _; exact Nat.le_of_eq rfl) (hb hby at_88) (fun _ _ => ⟨rfl, e15, (by decide : 2 + 0 ≤ _), (by decide : 8 + 0 ≤ _)⟩)
          dsimp only [Pt.U, Pt.locs, Pt.cells, Pt.slots] at X17 l17 y17 z17 st17 hQ17
          subst l17 y17 z17
          obtain ⟨rfl, Nq17, K17, E17, F17_area, F17_service, F17_version, F17_number⟩ := hQ17
          have N17 := Fr.app N14 Nq17
          have Z17 := Nat.le_trans Z15 K17.1
          refine own_pre (B := T17.setTop (mkF m 91 #[.val (.int x0), .val (.int x1), .val (.int x2), .val (.int x3), .val (.int x4), .val (.int j2_s0), .val (.int j5_s0), .val (.int j8_s0), .val (.int j11_s0), .val (.ref b13), .unset, .unset, .unset, .unset, .unset, .unset, .unset, .unset, .unset] [(.ref b15)])) ?_ (fun t k => st17.trans k)
          refine own_pre (B := T17.setTop (mkF m 93 #[.val (.int x0), .val (.int x1), .val (.int x2), .val (.int x3), .val (.int x4), .val (.int j2_s0), .val (.int j5_s0), .val (.int j8_s0), .val (.int j11_s0), .val (.ref b13), .val (.ref b15), .unset, .unset, .unset, .unset, .unset, .unset, .unset, .unset] [])) ?_ fun t k => XS.astore X17.here hx rfl (hb hby at_91) rfl rfl (l' := #[.val (.int x0), .val (.int x1), .val (.int x2), .val (.int x3), .val (.int x4), .val (.int j2_s0), .val (.int j5_s0), .val (.int j8_s0), .val (.int j11_s0), .val (.ref b13), .val (.ref b15), .unset, .unset, .unset, .unset, .unset, .unset, .unset, .unset]) rfl k
          obtain ⟨T18, h18, X18, e18, E18, A18, D18, -, st18⟩ := newO X17 hx hZ hown (hw _ (List.mem_of_getElem? (i := 0) rfl)) (hw _ (List.mem_of_getElem? (i := 1) rfl)) (hw _ (List.mem_of_getElem? (i := 2) rfl)) rfl (g := (mkF m 93 #[.val (.int x0), .val (.int x1), .val (.int x2), .val (.int x3), .val (.int x4), .val (.int j2_s0), .val (.int j5_s0), .val (.int j8_s0), .val (.int j11_s0), .val (.ref b13), .val (.ref b15), .unset, .unset, .unset, .unset, .unset, .unset, .unset, .unset] [])) rfl (hb hby at_93) (by decide) (by decide)
          obtain ⟨b18, g18⟩ : ∃ z, z = T17.heap.size := ⟨_, rfl⟩
          rw [← g18] at A18 D18 st18
          have f20 := ((E14.ext E15).keep K17)
          have ne19 : b13 ≠ b18 := Nat.ne_of_lt (Nat.lt_of_lt_of_le f20.lt (Nat.le_of_eq g18.symm))
          have ne21 : b15 ≠ b18 := Nat.ne_of_lt (Nat.lt_of_lt_of_le E17.lt (Nat.le_of_eq g18.symm))
          have Z18 : n0 ≤ h18.size := Nat.le_trans Z17 E18.1
          have gz18 : n0 ≤ b18 := Nat.le_trans Z17 (Nat.le_of_eq g18.symm)
          have F18_area : Fld Z h18 b18 "com/example/halyard/halyard/com/ObjectType" "area" "I" (.int (0 : Int32)) := D18 (Or.inr (hw _ (List.mem_of_getElem? (i := 15) rfl))) (ty := .int) (by decide)
          have F18_service : Fld Z h18 b18 "com/example/halyard/halyard/com/ObjectType" "service" "I" (.int (0 : Int32)) := D18 (Or.inr (hw _ (List.mem_of_getElem? (i := 17) rfl))) (ty := .int) (by decide)
          have F18_version : Fld Z h18 b18 "com/example/halyard/halyard/com/ObjectType" "version" "I" (.int (0 : Int32)) := D18 (Or.inr (hw _ (List.mem_of_getElem? (i := 19) rfl))) (ty := .int) (by decide)
          have F18_number : Fld Z h18 b18 "com/example/halyard/halyard/com/ObjectType" "number" "I" (.int (0 : Int32)) := D18 (Or.inr (hw _ (List.mem_of_getElem? (i := 21) rfl))) (ty := .int) (by decide)
          refine own_pre (B := T18.setTop (mkF m 96 #[.val (.int x0), .val (.int x1), .val (.int x2), .val (.int x3), .val (.int x4), .val (.int j2_s0), .val (.int j5_s0), .val (.int j8_s0), .val (.int j11_s0), .val (.ref b13), .val (.ref b15), .unset, .unset, .unset, .unset, .unset, .unset, .unset, .unset] [(.ref b18)])) ?_ st18
          refine own_pre (B := T18.setTop (mkF m 97 #[.val (.int x0), .val (.int x1), .val (.int x2), .val (.int x3), .val (.int x4), .val (.int j2_s0), .val (.int j5_s0), .val (.int j8_s0), .val (.int j11_s0), .val (.ref b13), .val (.ref b15), .unset, .unset, .unset, .unset, .unset, .unset, .unset, .unset] [(.ref b18), (.ref b18)])) ?_ fun t k => XS.dup X18.here hx rfl (hb hby at_96) rfl rfl k
          refine own_pre (B := T18.setTop (mkF m 99 #[.val (.int x0), .val (.int x1), .val (.int x2), .val (.int x3), .val (.int x4), .val (.int j2_s0), .val (.int j5_s0), .val (.int j8_s0), .val (.int j11_s0), .val (.ref b13), .val (.ref b15), .unset, .unset, .unset, .unset, .unset, .unset, .unset, .unset] [(.int j2_s0), (.ref b18), (.ref b18)])) ?_ fun t k => XS.iload X18.here hx rfl (hb hby at_97) rfl  k
          refine own_pre (B := T18.setTop (mkF m 101 #[.val (.int x0), .val (.int x1), .val (.int x2), .val (.int x3), .val (.int x4), .val (.int j2_s0), .val (.int j5_s0), .val (.int j8_s0), .val (.int j11_s0), .val (.ref b13), .val (.ref b15), .unset, .unset, .unset, .unset, .unset, .unset, .unset, .unset] [(.int j5_s0), (.int j2_s0), (.ref b18), (.ref b18)])) ?_ fun t k => XS.iload X18.here hx rfl (hb hby at_99) rfl  k
          refine own_pre (B := T18.setTop (mkF m 102 #[.val (.int x0), .val (.int x1), .val (.int x2), .val (.int x3), .val (.int x4), .val (.int j2_s0), .val (.int j5_s0), .val (.int j8_s0), .val (.int j11_s0), .val (.ref b13), .val (.ref b15), .unset, .unset, .unset, .unset, .unset, .unset, .unset, .unset] [(.int (1 : Int32)), (.int j5_s0), (.int j2_s0), (.ref b18), (.ref b18)])) ?_ fun t k => XS.iconst X18.here hx rfl (hb hby at_101) k
          refine own_pre (B := T18.setTop (mkF m 103 #[.val (.int x0), .val (.int x1), .val (.int x2), .val (.int x3), .val (.int x4), .val (.int j2_s0), .val (.int j5_s0), .val (.int j8_s0), .val (.int j11_s0), .val (.ref b13), .val (.ref b15), .unset, .unset, .unset, .unset, .unset, .unset, .unset, .unset] [(.int (j5_s0 + (1 : Int32))), (.int j2_s0), (.ref b18), (.ref b18)])) ?_ fun t k => XS.iadd X18.here hx rfl (hb hby at_102) rfl k
          refine own_pre (B := T18.setTop (mkF m 105 #[.val (.int x0), .val (.int x1), .val (.int x2), .val (.int x3), .val (.int x4), .val (.int j2_s0), .val (.int j5_s0), .val (.int j8_s0), .val (.int j11_s0), .val (.ref b13), .val (.ref b15), .unset, .unset, .unset, .unset, .unset, .unset, .unset, .unset] [(.int j8_s0), (.int (j5_s0 + (1 : Int32))), (.int j2_s0), (.ref b18), (.ref b18)])) ?_ fun t k => XS.iload X18.here hx rfl (hb hby at_103) rfl  k
          refine own_pre (B := T18.setTop (mkF m 107 #[.val (.int x0), .val (.int x1), .val (.int x2), .val (.int x3), .val (.int x4), .val (.int j2_s0), .val (.int j5_s0), .val (.int j8_s0), .val (.int j11_s0), .val (.ref b13), .val (.ref b15), .unset, .unset, .unset, .unset, .unset, .unset, .unset, .unset] [(.int j11_s0), (.int j8_s0), (.int (j5_s0 + (1 : Int32))), (.int j2_s0), (.ref b18), (.ref b18)])) ?_ fun t k => XS.iload X18.here hx rfl (hb hby at_105) rfl  k
          obtain ⟨_, _, ⟨T22, L22, k22, n22⟩, -, X22, ⟨Lc22, hQ22, l22, y22, z22⟩, st22⟩ := X18.specialBack hx (y := (⟨"com/example/halyard/halyard/com/ObjectType", "<init>", "(IIII)V"⟩ : MethodName)) rfl hown (mvT hZ (hw _ (List.mem_of_getElem? (i := 3) rfl))) (mvT hZ (hw _ (List.mem_of_getElem? (i := 4) rfl))) (mvT hZ (hw _ (List.mem_of_getElem? (i := 5) rfl))) (by decide) (backOf (W := 1) (rm1 l Z a0 hw [] b18 j2_s0 (j5_s0 + (1 : Int32)) j8_s0 j11_s0 h18 n0 Z18 A18 F18_area F18_service F18_version F18_number gz18) hZ (hw _ (List.mem_of_getElem? (i := 5) rfl)) (hw _ (List.mem_of_getElem? (i := 2) rfl)) (by decide) (by decide)) (g := (mkF m 107 #[.val (.int x0), .val (.int x1), .val (.int x2), .val (.int x3), .val (.int x4), .val (.int j2_s0), .val (.int j5_s0), .val (.int j8_s0), .val (.int j11_s0), .val (.ref b13), .val (.ref b15), .unset, .unset, .unset, .unset, .unset, .unset, .unset, .unset] [(.int j11_s0), (.int j8_s0), (.int (j5_s0 + (1 : Int32))), (.int j2_s0), (.ref b18), (.ref b18)])) rfl (by rw [hml]; rfl) (Steps.refl _) (a := b18) (argsL := [(.int j2_s0), (.int (j5_s0 + (1 : Int32))), (.int j8_s0), (.int j11_s0)]) (rest := [(.ref b18)]) (lenOf pd__IIII_V rfl) rfl (by show 2 * 0 + _ ≤ _; exact Nat.le_of_eq rfl) (hb hby at_107) (fun _ _ => ⟨rfl, e18, (by decide : 3 + 0 ≤ _), (by decide : 12 + 0 ≤ _)⟩)
          dsimp only [Pt.U, Pt.locs, Pt.cells, Pt.slots] at X22 l22 y22 z22 st22 hQ22
          subst l22 y22 z22
          obtain ⟨rfl, Nq22, K22, E22, F22_area, F22_service, F22_version, F22_number⟩ := hQ22
          have N22 := Fr.app N17 Nq22
          have Z22 := Nat.le_trans Z18 K22.1
          refine own_pre (B := T22.setTop (mkF m 110 #[.val (.int x0), .val (.int x1), .val (.int x2), .val (.int x3), .val (.int x4), .val (.int j2_s0), .val (.int j5_s0), .val (.int j8_s0), .val (.int j11_s0), .val (.ref b13), .val (.ref b15), .unset, .unset, .unset, .unset, .unset, .unset, .unset, .unset] [(.ref b18)])) ?_ (fun t k => st22.trans k)
          refine own_pre (B := T22.setTop (mkF m 112 #[.val (.int x0), .val (.int x1), .val (.int x2), .val (.int x3), .val (.int x4), .val (.int j2_s0), .val (.int j5_s0), .val (.int j8_s0), .val (.int j11_s0), .val (.ref b13), .val (.ref b15), .val (.ref b18), .unset, .unset, .unset, .unset, .unset, .unset, .unset] [])) ?_ fun t k => XS.astore X22.here hx rfl (hb hby at_110) rfl rfl (l' := #[.val (.int x0), .val (.int x1), .val (.int x2), .val (.int x3), .val (.int x4), .val (.int j2_s0), .val (.int j5_s0), .val (.int j8_s0), .val (.int j11_s0), .val (.ref b13), .val (.ref b15), .val (.ref b18), .unset, .unset, .unset, .unset, .unset, .unset, .unset]) rfl k
          obtain ⟨T23, h23, X23, e23, E23, A23, D23, -, st23⟩ := newO X22 hx hZ hown (hw _ (List.mem_of_getElem? (i := 0) rfl)) (hw _ (List.mem_of_getElem? (i := 1) rfl)) (hw _ (List.mem_of_getElem? (i := 2) rfl)) rfl (g := (mkF m 112 #[.val (.int x0), .val (.int x1), .val (.int x2), .val (.int x3), .val (.int x4), .val (.int j2_s0), .val (.int j5_s0), .val (.int j8_s0), .val (.int j11_s0), .val (.ref b13), .val (.ref b15), .val (.ref b18), .unset, .unset, .unset, .unset, .unset, .unset, .unset] [])) rfl (hb hby at_112) (by decide) (by decide)
          obtain ⟨b23, g23⟩ : ∃ z, z = T22.heap.size := ⟨_, rfl⟩
          rw [← g23] at A23 D23 st23
          have f25 := ((f20.ext E18).keep K22)
          have ne24 : b13 ≠ b23 := Nat.ne_of_lt (Nat.lt_of_lt_of_le f25.lt (Nat.le_of_eq g23.symm))
          have f27 := ((E17.ext E18).keep K22)
          have ne26 : b15 ≠ b23 := Nat.ne_of_lt (Nat.lt_of_lt_of_le f27.lt (Nat.le_of_eq g23.symm))
          have ne28 : b18 ≠ b23 := Nat.ne_of_lt (Nat.lt_of_lt_of_le E22.lt (Nat.le_of_eq g23.symm))
          have Z23 : n0 ≤ h23.size := Nat.le_trans Z22 E23.1
          have gz23 : n0 ≤ b23 := Nat.le_trans Z22 (Nat.le_of_eq g23.symm)
          have F23_area : Fld Z h23 b23 "com/example/halyard/halyard/com/ObjectType" "area" "I" (.int (0 : Int32)) := D23 (Or.inr (hw _ (List.mem_of_getElem? (i := 15) rfl))) (ty := .int) (by decide)
          have F23_service : Fld Z h23 b23 "com/example/halyard/halyard/com/ObjectType" "service" "I" (.int (0 : Int32)) := D23 (Or.inr (hw _ (List.mem_of_getElem? (i := 17) rfl))) (ty := .int) (by decide)
          have F23_version : Fld Z h23 b23 "com/example/halyard/halyard/com/ObjectType" "version" "I" (.int (0 : Int32)) := D23 (Or.inr (hw _ (List.mem_of_getElem? (i := 19) rfl))) (ty := .int) (by decide)
          have F23_number : Fld Z h23 b23 "com/example/halyard/halyard/com/ObjectType" "number" "I" (.int (0 : Int32)) := D23 (Or.inr (hw _ (List.mem_of_getElem? (i := 21) rfl))) (ty := .int) (by decide)
          refine own_pre (B := T23.setTop (mkF m 115 #[.val (.int x0), .val (.int x1), .val (.int x2), .val (.int x3), .val (.int x4), .val (.int j2_s0), .val (.int j5_s0), .val (.int j8_s0), .val (.int j11_s0), .val (.ref b13), .val (.ref b15), .val (.ref b18), .unset, .unset, .unset, .unset, .unset, .unset, .unset] [(.ref b23)])) ?_ st23
          refine own_pre (B := T23.setTop (mkF m 116 #[.val (.int x0), .val (.int x1), .val (.int x2), .val (.int x3), .val (.int x4), .val (.int j2_s0), .val (.int j5_s0), .val (.int j8_s0), .val (.int j11_s0), .val (.ref b13), .val (.ref b15), .val (.ref b18), .unset, .unset, .unset, .unset, .unset, .unset, .unset] [(.ref b23), (.ref b23)])) ?_ fun t k => XS.dup X23.here hx rfl (hb hby at_115) rfl rfl k
          refine own_pre (B := T23.setTop (mkF m 118 #[.val (.int x0), .val (.int x1), .val (.int x2), .val (.int x3), .val (.int x4), .val (.int j2_s0), .val (.int j5_s0), .val (.int j8_s0), .val (.int j11_s0), .val (.ref b13), .val (.ref b15), .val (.ref b18), .unset, .unset, .unset, .unset, .unset, .unset, .unset] [(.int j2_s0), (.ref b23), (.ref b23)])) ?_ fun t k => XS.iload X23.here hx rfl (hb hby at_116) rfl  k
          refine own_pre (B := T23.setTop (mkF m 120 #[.val (.int x0), .val (.int x1), .val (.int x2), .val (.int x3), .val (.int x4), .val (.int j2_s0), .val (.int j5_s0), .val (.int j8_s0), .val (.int j11_s0), .val (.ref b13), .val (.ref b15), .val (.ref b18), .unset, .unset, .unset, .unset, .unset, .unset, .unset] [(.int j5_s0), (.int j2_s0), (.ref b23), (.ref b23)])) ?_ fun t k => XS.iload X23.here hx rfl (hb hby at_118) rfl  k
          refine own_pre (B := T23.setTop (mkF m 122 #[.val (.int x0), .val (.int x1), .val (.int x2), .val (.int x3), .val (.int x4), .val (.int j2_s0), .val (.int j5_s0), .val (.int j8_s0), .val (.int j11_s0), .val (.ref b13), .val (.ref b15), .val (.ref b18), .unset, .unset, .unset, .unset, .unset, .unset, .unset] [(.int j8_s0), (.int j5_s0), (.int j2_s0), (.ref b23), (.ref b23)])) ?_ fun t k => XS.iload X23.here hx rfl (hb hby at_120) rfl  k
          refine own_pre (B := T23.setTop (mkF m 123 #[.val (.int x0), .val (.int x1), .val (.int x2), .val (.int x3), .val (.int x4), .val (.int j2_s0), .val (.int j5_s0), .val (.int j8_s0), .val (.int j11_s0), .val (.ref b13), .val (.ref b15), .val (.ref b18), .unset, .unset, .unset, .unset, .unset, .unset, .unset] [(.int (1 : Int32)), (.int j8_s0), (.int j5_s0), (.int j2_s0), (.ref b23), (.ref b23)])) ?_ fun t k => XS.iconst X23.here hx rfl (hb hby at_122) k
          refine own_pre (B := T23.setTop (mkF m 124 #[.val (.int x0), .val (.int x1), .val (.int x2), .val (.int x3), .val (.int x4), .val (.int j2_s0), .val (.int j5_s0), .val (.int j8_s0), .val (.int j11_s0), .val (.ref b13), .val (.ref b15), .val (.ref b18), .unset, .unset, .unset, .unset, .unset, .unset, .unset] [(.int (j8_s0 + (1 : Int32))), (.int j5_s0), (.int j2_s0), (.ref b23), (.ref b23)])) ?_ fun t k => XS.iadd X23.here hx rfl (hb hby at_123) rfl k
          refine own_pre (B := T23.setTop (mkF m 126 #[.val (.int x0), .val (.int x1), .val (.int x2), .val (.int x3), .val (.int x4), .val (.int j2_s0), .val (.int j5_s0), .val (.int j8_s0), .val (.int j11_s0), .val (.ref b13), .val (.ref b15), .val (.ref b18), .unset, .unset, .unset, .unset, .unset, .unset, .unset] [(.int j11_s0), (.int (j8_s0 + (1 : Int32))), (.int j5_s0), (.int j2_s0), (.ref b23), (.ref b23)])) ?_ fun t k => XS.iload X23.here hx rfl (hb hby at_124) rfl  k
          obtain ⟨_, _, ⟨T29, L29, k29, n29⟩, -, X29, ⟨Lc29, hQ29, l29, y29, z29⟩, st29⟩ := X23.specialBack hx (y := (⟨"com/example/halyard/halyard/com/ObjectType", "<init>", "(IIII)V"⟩ : MethodName)) rfl hown (mvT hZ (hw _ (List.mem_of_getElem? (i := 3) rfl))) (mvT hZ (hw _ (List.mem_of_getElem? (i := 4) rfl))) (mvT hZ (hw _ (List.mem_of_getElem? (i := 5) rfl))) (by decide) (backOf (W := 1) (rm1 l Z a0 hw [] b23 j2_s0 j5_s0 (j8_s0 + (1 : Int32)) j11_s0 h23 n0 Z23 A23 F23_area F23_service F23_version F23_number gz23) hZ (hw _ (List.mem_of_getElem? (i := 5) rfl)) (hw _ (List.mem_of_getElem? (i := 2) rfl)) (by decide) (by decide)) (g := (mkF m 126 #[.val (.int x0), .val (.int x1), .val (.int x2), .val (.int x3), .val (.int x4), .val (.int j2_s0), .val (.int j5_s0), .val (.int j8_s0), .val (.int j11_s0), .val (.ref b13), .val (.ref b15), .val (.ref b18), .unset, .unset, .unset, .unset, .unset, .unset, .unset] [(.int j11_s0), (.int (j8_s0 + (1 : Int32))), (.int j5_s0), (.int j2_s0), (.ref b23), (.ref b23)])) rfl (by rw [hml]; rfl) (Steps.refl _) (a := b23) (argsL := [(.int j2_s0), (.int j5_s0), (.int (j8_s0 + (1 : Int32))), (.int j11_s0)]) (rest := [(.ref b23)]) (lenOf pd__IIII_V rfl) rfl (by show 2 * 0 + _ ≤ _; exact Nat.le_of_eq rfl) (hb hby at_126) (fun _ _ => ⟨rfl, e23, (by decide : 4 + 0 ≤ _), (by decide : 16 + 0 ≤ _)⟩)
          dsimp only [Pt.U, Pt.locs, Pt.cells, Pt.slots] at X29 l29 y29 z29 st29 hQ29
          subst l29 y29 z29
          obtain ⟨rfl, Nq29, K29, E29, F29_area, F29_service, F29_version, F29_number⟩ := hQ29
          have N29 := Fr.app N22 Nq29
          have Z29 := Nat.le_trans Z23 K29.1
          refine own_pre (B := T29.setTop (mkF m 129 #[.val (.int x0), .val (.int x1), .val (.int x2), .val (.int x3), .val (.int x4), .val (.int j2_s0), .val (.int j5_s0), .val (.int j8_s0), .val (.int j11_s0), .val (.ref b13), .val (.ref b15), .val (.ref b18), .unset, .unset, .unset, .unset, .unset, .unset, .unset] [(.ref b23)])) ?_ (fun t k => st29.trans k)
          refine own_pre (B := T29.setTop (mkF m 131 #[.val (.int x0), .val (.int x1), .val (.int x2), .val (.int x3), .val (.int x4), .val (.int j2_s0), .val (.int j5_s0), .val (.int j8_s0), .val (.int j11_s0), .val (.ref b13), .val (.ref b15), .val (.ref b18), .val (.ref b23), .unset, .unset, .unset, .unset, .unset, .unset] [])) ?_ fun t k => XS.astore X29.here hx rfl (hb hby at_129) rfl rfl (l' := #[.val (.int x0), .val (.int x1), .val (.int x2), .val (.int x3), .val (.int x4), .val (.int j2_s0), .val (.int j5_s0), .val (.int j8_s0), .val (.int j11_s0), .val (.ref b13), .val (.ref b15), .val (.ref b18), .val (.ref b23), .unset, .unset, .unset, .unset, .unset, .unset]) rfl k
          obtain ⟨T30, h30, X30, e30, E30, A30, D30, -, st30⟩ := newO X29 hx hZ hown (hw _ (List.mem_of_getElem? (i := 0) rfl)) (hw _ (List.mem_of_getElem? (i := 1) rfl)) (hw _ (List.mem_of_getElem? (i := 2) rfl)) rfl (g := (mkF m 131 #[.val (.int x0), .val (.int x1), .val (.int x2), .val (.int x3), .val (.int x4), .val (.int j2_s0), .val (.int j5_s0), .val (.int j8_s0), .val (.int j11_s0), .val (.ref b13), .val (.ref b15), .val (.ref b18), .val (.ref b23), .unset, .unset, .unset, .unset, .unset, .unset] [])) rfl (hb hby at_131) (by decide) (by decide)
          obtain ⟨b30, g30⟩ : ∃ z, z = T29.heap.size := ⟨_, rfl⟩
          rw [← g30] at A30 D30 st30
          have f32 := ((f25.ext E23).keep K29)
          have ne31 : b13 ≠ b30 := Nat.ne_of_lt (Nat.lt_of_lt_of_le f32.lt (Nat.le_of_eq g30.symm))
          have f34 := ((f27.ext E23).keep K29)
          have ne33 : b15 ≠ b30 := Nat.ne_of_lt (Nat.lt_of_lt_of_le f34.lt (Nat.le_of_eq g30.symm))
          have f36 := ((E22.ext E23).keep K29)
          have ne35 : b18 ≠ b30 := Nat.ne_of_lt (Nat.lt_of_lt_of_le f36.lt (Nat.le_of_eq g30.symm))
          have ne37 : b23 ≠ b30 := Nat.ne_of_lt (Nat.lt_of_lt_of_le E29.lt (Nat.le_of_eq g30.symm))
          have Z30 : n0 ≤ h30.size := Nat.le_trans Z29 E30.1
          have gz30 : n0 ≤ b30 := Nat.le_trans Z29 (Nat.le_of_eq g30.symm)
          have F30_area : Fld Z h30 b30 "com/example/halyard/halyard/com/ObjectType" "area" "I" (.int (0 : Int32)) := D30 (Or.inr (hw _ (List.mem_of_getElem? (i := 15) rfl))) (ty := .int) (by decide)
          have F30_service : Fld Z h30 b30 "com/example/halyard/halyard/com/ObjectType" "service" "I" (.int (0 : Int32)) := D30 (Or.inr (hw _ (List.mem_of_getElem? (i := 17) rfl))) (ty := .int) (by decide)
          have F30_version : Fld Z h30 b30 "com/example/halyard/halyard/com/ObjectType" "version" "I" (.int (0 : Int32)) := D30 (Or.inr (hw _ (List.mem_of_getElem? (i := 19) rfl))) (ty := .int) (by decide)
          have F30_number : Fld Z h30 b30 "com/example/halyard/halyard/com/ObjectType" "number" "I" (.int (0 : Int32)) := D30 (Or.inr (hw _ (List.mem_of_getElem? (i := 21) rfl))) (ty := .int) (by decide)
          refine own_pre (B := T30.setTop (mkF m 134 #[.val (.int x0), .val (.int x1), .val (.int x2), .val (.int x3), .val (.int x4), .val (.int j2_s0), .val (.int j5_s0), .val (.int j8_s0), .val (.int j11_s0), .val (.ref b13), .val (.ref b15), .val (.ref b18), .val (.ref b23), .unset, .unset, .unset, .unset, .unset, .unset] [(.ref b30)])) ?_ st30
          refine own_pre (B := T30.setTop (mkF m 135 #[.val (.int x0), .val (.int x1), .val (.int x2), .val (.int x3), .val (.int x4), .val (.int j2_s0), .val (.int j5_s0), .val (.int j8_s0), .val (.int j11_s0), .val (.ref b13), .val (.ref b15), .val (.ref b18), .val (.ref b23), .unset, .unset, .unset, .unset, .unset, .unset] [(.ref b30), (.ref b30)])) ?_ fun t k => XS.dup X30.here hx rfl (hb hby at_134) rfl rfl k
          refine own_pre (B := T30.setTop (mkF m 137 #[.val (.int x0), .val (.int x1), .val (.int x2), .val (.int x3), .val (.int x4), .val (.int j2_s0), .val (.int j5_s0), .val (.int j8_s0), .val (.int j11_s0), .val (.ref b13), .val (.ref b15), .val (.ref b18), .val (.ref b23), .unset, .unset, .unset, .unset, .unset, .unset] [(.int j2_s0), (.ref b30), (.ref b30)])) ?_ fun t k => XS.iload X30.here hx rfl (hb hby at_135) rfl  k
          refine own_pre (B := T30.setTop (mkF m 139 #[.val (.int x0), .val (.int x1), .val (.int x2), .val (.int x3), .val (.int x4), .val (.int j2_s0), .val (.int j5_s0), .val (.int j8_s0), .val (.int j11_s0), .val (.ref b13), .val (.ref b15), .val (.ref b18), .val (.ref b23), .unset, .unset, .unset, .unset, .unset, .unset] [(.int j5_s0), (.int j2_s0), (.ref b30), (.ref b30)])) ?_ fun t k => XS.iload X30.here hx rfl (hb hby at_137) rfl  k
          refine own_pre (B := T30.setTop (mkF m 141 #[.val (.int x0), .val (.int x1), .val (.int x2), .val (.int x3), .val (.int x4), .val (.int j2_s0), .val (.int j5_s0), .val (.int j8_s0), .val (.int j11_s0), .val (.ref b13), .val (.ref b15), .val (.ref b18), .val (.ref b23), .unset, .unset, .unset, .unset, .unset, .unset] [(.int j8_s0), (.int j5_s0), (.int j2_s0), (.ref b30), (.ref b30)])) ?_ fun t k => XS.iload X30.here hx rfl (hb hby at_139) rfl  k
          refine own_pre (B := T30.setTop (mkF m 143 #[.val (.int x0), .val (.int x1), .val (.int x2), .val (.int x3), .val (.int x4), .val (.int j2_s0), .val (.int j5_s0), .val (.int j8_s0), .val (.int j11_s0), .val (.ref b13), .val (.ref b15), .val (.ref b18), .val (.ref b23), .unset, .unset, .unset, .unset, .unset, .unset] [(.int j11_s0), (.int j8_s0), (.int j5_s0), (.int j2_s0), (.ref b30), (.ref b30)])) ?_ fun t k => XS.iload X30.here hx rfl (hb hby at_141) rfl  k
          refine own_pre (B := T30.setTop (mkF m 144 #[.val (.int x0), .val (.int x1), .val (.int x2), .val (.int x3), .val (.int x4), .val (.int j2_s0), .val (.int j5_s0), .val (.int j8_s0), .val (.int j11_s0), .val (.ref b13), .val (.ref b15), .val (.ref b18), .val (.ref b23), .unset, .unset, .unset, .unset, .unset, .unset] [(.int (1 : Int32)), (.int j11_s0), (.int j8_s0), (.int j5_s0), (.int j2_s0), (.ref b30), (.ref b30)])) ?_ fun t k => XS.iconst X30.here hx rfl (hb hby at_143) k
          refine own_pre (B := T30.setTop (mkF m 145 #[.val (.int x0), .val (.int x1), .val (.int x2), .val (.int x3), .val (.int x4), .val (.int j2_s0), .val (.int j5_s0), .val (.int j8_s0), .val (.int j11_s0), .val (.ref b13), .val (.ref b15), .val (.ref b18), .val (.ref b23), .unset, .unset, .unset, .unset, .unset, .unset] [(.int (j11_s0 + (1 : Int32))), (.int j8_s0), (.int j5_s0), (.int j2_s0), (.ref b30), (.ref b30)])) ?_ fun t k => XS.iadd X30.here hx rfl (hb hby at_144) rfl k
          obtain ⟨_, _, ⟨T38, L38, k38, n38⟩, -, X38, ⟨Lc38, hQ38, l38, y38, z38⟩, st38⟩ := X30.specialBack hx (y := (⟨"com/example/halyard/halyard/com/ObjectType", "<init>", "(IIII)V"⟩ : MethodName)) rfl hown (mvT hZ (hw _ (List.mem_of_getElem? (i := 3) rfl))) (mvT hZ (hw _ (List.mem_of_getElem? (i := 4) rfl))) (mvT hZ (hw _ (List.mem_of_getElem? (i := 5) rfl))) (by decide) (backOf (W := 1) (rm1 l Z a0 hw [] b30 j2_s0 j5_s0 j8_s0 (j11_s0 + (1 : Int32)) h30 n0 Z30 A30 F30_area F30_service F30_version F30_number gz30) hZ (hw _ (List.mem_of_getElem? (i := 5) rfl)) (hw _ (List.mem_of_getElem? (i := 2) rfl)) (by decide) (by decide)) (g := (mkF m 145 #[.val (.int x0), .val (.int x1), .val (.int x2), .val (.int x3), .val (.int x4), .val (.int j2_s0), .val (.int j5_s0), .val (.int j8_s0), .val (.int j11_s0), .val (.ref b13), .val (.ref b15), .val (.ref b18), .val (.ref b23), .unset, .unset, .unset, .unset, .unset, .unset] [(.int (j11_s0 + (1 : Int32))), (.int j8_s0), (.int j5_s0), (.int j2_s0), (.ref b30), (.ref b30)])) rfl (by rw [hml]; rfl) (Steps.refl _) (a := b30) (argsL := [(.int j2_s0), (.int j5_s0), (.int j8_s0), (.int (j11_s0 + (1 : Int32)))]) (rest := [(.ref b30)]) (lenOf pd__IIII_V rfl) rfl (by show 2 * 0 + _ ≤ _; exact Nat.le_of_eq rfl) (hb hby at_145) (fun _ _ => ⟨rfl, e30, (by decide : 5 + 0 ≤ _), (by decide : 20 + 0 ≤ _)⟩)
          dsimp only [Pt.U, Pt.locs, Pt.cells, Pt.slots] at X38 l38 y38 z38 st38 hQ38
          subst l38 y38 z38
          obtain ⟨rfl, Nq38, K38, E38, F38_area, F38_service, F38_version, F38_number⟩ := hQ38
          have N38 := Fr.app N29 Nq38
          have Z38 := Nat.le_trans Z30 K38.1
          refine own_pre (B := T38.setTop (mkF m 148 #[.val (.int x0), .val (.int x1), .val (.int x2), .val (.int x3), .val (.int x4), .val (.int j2_s0), .val (.int j5_s0), .val (.int j8_s0), .val (.int j11_s0), .val (.ref b13), .val (.ref b15), .val (.ref b18), .val (.ref b23), .unset, .unset, .unset, .unset, .unset, .unset] [(.ref b30)])) ?_ (fun t k => st38.trans k)
          refine own_pre (B := T38.setTop (mkF m 150 #[.val (.int x0), .val (.int x1), .val (.int x2), .val (.int x3), .val (.int x4), .val (.int j2_s0), .val (.int j5_s0), .val (.int j8_s0), .val (.int j11_s0), .val (.ref b13), .val (.ref b15), .val (.ref b18), .val (.ref b23), .val (.ref b30), .unset, .unset, .unset, .unset, .unset] [])) ?_ fun t k => XS.astore X38.here hx rfl (hb hby at_148) rfl rfl (l' := #[.val (.int x0), .val (.int x1), .val (.int x2), .val (.int x3), .val (.int x4), .val (.int j2_s0), .val (.int j5_s0), .val (.int j8_s0), .val (.int j11_s0), .val (.ref b13), .val (.ref b15), .val (.ref b18), .val (.ref b23), .val (.ref b30), .unset, .unset, .unset, .unset, .unset]) rfl k
          refine own_pre (B := T38.setTop (mkF m 152 #[.val (.int x0), .val (.int x1), .val (.int x2), .val (.int x3), .val (.int x4), .val (.int j2_s0), .val (.int j5_s0), .val (.int j8_s0), .val (.int j11_s0), .val (.ref b13), .val (.ref b15), .val (.ref b18), .val (.ref b23), .val (.ref b30), .unset, .unset, .unset, .unset, .unset] [(.ref b13)])) ?_ fun t k => XS.aload X38.here hx rfl (hb hby at_150) rfl rfl k
          refine own_pre (B := T38.setTop (mkF m 154 #[.val (.int x0), .val (.int x1), .val (.int x2), .val (.int x3), .val (.int x4), .val (.int j2_s0), .val (.int j5_s0), .val (.int j8_s0), .val (.int j11_s0), .val (.ref b13), .val (.ref b15), .val (.ref b18), .val (.ref b23), .val (.ref b30), .unset, .unset, .unset, .unset, .unset] [(.ref b15), (.ref b13)])) ?_ fun t k => XS.aload X38.here hx rfl (hb hby at_152) rfl rfl k
          have f40 := ((((((((F14_area.ext E15).keep K17 (ninS ne16 nin0)).ext E18).keep K22 (ninS ne19 nin0)).ext E23).keep K29 (ninS ne24 nin0)).ext E30).keep K38 (ninS ne31 nin0))
          have f41 := ((((((((F14_service.ext E15).keep K17 (ninS ne16 nin0)).ext E18).keep K22 (ninS ne19 nin0)).ext E23).keep K29 (ninS ne24 nin0)).ext E30).keep K38 (ninS ne31 nin0))
          have f42 := ((((((((F14_version.ext E15).keep K17 (ninS ne16 nin0)).ext E18).keep K22 (ninS ne19 nin0)).ext E23).keep K29 (ninS ne24 nin0)).ext E30).keep K38 (ninS ne31 nin0))
          have f43 := ((((((((F14_number.ext E15).keep K17 (ninS ne16 nin0)).ext E18).keep K22 (ninS ne19 nin0)).ext E23).keep K29 (ninS ne24 nin0)).ext E30).keep K38 (ninS ne31 nin0))
          have f44 := ((((((F17_area.ext E18).keep K22 (ninS ne21 nin0)).ext E23).keep K29 (ninS ne26 nin0)).ext E30).keep K38 (ninS ne33 nin0))
          have f45 := ((((((F17_service.ext E18).keep K22 (ninS ne21 nin0)).ext E23).keep K29 (ninS ne26 nin0)).ext E30).keep K38 (ninS ne33 nin0))
          have f46 := ((((((F17_version.ext E18).keep K22 (ninS ne21 nin0)).ext E23).keep K29 (ninS ne26 nin0)).ext E30).keep K38 (ninS ne33 nin0))
          have f47 := ((((((F17_number.ext E18).keep K22 (ninS ne21 nin0)).ext E23).keep K29 (ninS ne26 nin0)).ext E30).keep K38 (ninS ne33 nin0))
          have f48 := ((f32.ext E30).keep K38)
          obtain ⟨cq39, kq39, q39a, q39b, q39c⟩ := isOf hZ rfl f48
          obtain ⟨_, _, ⟨T39, L39, k39, n39⟩, -, X39, ⟨Lc39, hQ39, l39, y39, z39⟩, st39⟩ := X38.virtualBack hx (y := (⟨"com/example/halyard/halyard/com/ObjectType", "matches", "(Lcom/example/halyard/halyard/com/ObjectType;)Z"⟩ : MethodName)) (z := (⟨"com/example/halyard/halyard/com/ObjectType", "matches", "(Lcom/example/halyard/halyard/com/ObjectType;)Z"⟩ : MethodName)) hown (mvT hZ (hw _ (List.mem_of_getElem? (i := 22) rfl))) (mvT hZ (hw _ (List.mem_of_getElem? (i := 23) rfl))) (notFace_of_selects (args := #[]) (mvT hZ (hw _ (List.mem_of_getElem? (i := 25) rfl)))) (mvT hZ (hw _ (List.mem_of_getElem? (i := 25) rfl))) (mvT hZ (hw _ (List.mem_of_getElem? (i := 24) rfl))) (by decide) (backOf (W := 0) (rm4 l Z a0 hw [] b13 b15 j2_s0 j5_s0 j8_s0 j11_s0 (j2_s0 + (1 : Int32)) j5_s0 j8_s0 j11_s0 T38.heap n0 Z38 f40 f41 f42 f43 f44 f45 f46 f47) hZ (hw _ (List.mem_of_getElem? (i := 26) rfl)) (hw _ (List.mem_of_getElem? (i := 2) rfl)) (by decide) (by decide)) q39a q39c (g := (mkF m 154 #[.val (.int x0), .val (.int x1), .val (.int x2), .val (.int x3), .val (.int x4), .val (.int j2_s0), .val (.int j5_s0), .val (.int j8_s0), .val (.int j11_s0), .val (.ref b13), .val (.ref b15), .val (.ref b18), .val (.ref b23), .val (.ref b30), .unset, .unset, .unset, .unset, .unset] [(.ref b15), (.ref b13)])) rfl (by rw [hml]; rfl) (Steps.refl _) (argsL := [(.ref b15)]) (rest := []) (lenOf pd__Lcom_example_halyard_halyard_com_ObjectType__Z rfl) rfl (by show 2 * 0 + _ ≤ _; exact Nat.le_of_eq rfl) (hb hby at_154) (fun _ _ => ⟨rfl, rfl, (by decide : 5 + 0 ≤ _), (by decide : 20 + 0 ≤ _)⟩)
          dsimp only [Pt.U, Pt.locs, Pt.cells, Pt.slots] at X39 l39 y39 z39 st39 hQ39
          subst l39 y39 z39
          obtain ⟨rfl, Nq39, e39⟩ := hQ39
          have N39 := Fr.app N38 Nq39
          refine own_pre (B := T39.setTop (mkF m 157 #[.val (.int x0), .val (.int x1), .val (.int x2), .val (.int x3), .val (.int x4), .val (.int j2_s0), .val (.int j5_s0), .val (.int j8_s0), .val (.int j11_s0), .val (.ref b13), .val (.ref b15), .val (.ref b18), .val (.ref b23), .val (.ref b30), .unset, .unset, .unset, .unset, .unset] [(.int (own_mt j2_s0 (j2_s0 + (1 : Int32)) j5_s0 j5_s0 j8_s0 j8_s0 j11_s0 j11_s0))])) ?_ (fun t k => st39.trans k)
          refine own_pre (B := T39.setTop (mkF m 159 #[.val (.int x0), .val (.int x1), .val (.int x2), .val (.int x3), .val (.int x4), .val (.int j2_s0), .val (.int j5_s0), .val (.int j8_s0), .val (.int j11_s0), .val (.ref b13), .val (.ref b15), .val (.ref b18), .val (.ref b23), .val (.ref b30), .val (.int (own_mt j2_s0 (j2_s0 + (1 : Int32)) j5_s0 j5_s0 j8_s0 j8_s0 j11_s0 j11_s0)), .unset, .unset, .unset, .unset] [])) ?_ fun t k => XS.istore X39.here hx rfl (hb hby at_157) rfl  (l' := #[.val (.int x0), .val (.int x1), .val (.int x2), .val (.int x3), .val (.int x4), .val (.int j2_s0), .val (.int j5_s0), .val (.int j8_s0), .val (.int j11_s0), .val (.ref b13), .val (.ref b15), .val (.ref b18), .val (.ref b23), .val (.ref b30), .val (.int (own_mt j2_s0 (j2_s0 + (1 : Int32)) j5_s0 j5_s0 j8_s0 j8_s0 j11_s0 j11_s0)), .unset, .unset, .unset, .unset]) rfl k
          refine own_pre (B := T39.setTop (mkF m 161 #[.val (.int x0), .val (.int x1), .val (.int x2), .val (.int x3), .val (.int x4), .val (.int j2_s0), .val (.int j5_s0), .val (.int j8_s0), .val (.int j11_s0), .val (.ref b13), .val (.ref b15), .val (.ref b18), .val (.ref b23), .val (.ref b30), .val (.int (own_mt j2_s0 (j2_s0 + (1 : Int32)) j5_s0 j5_s0 j8_s0 j8_s0 j11_s0 j11_s0)), .unset, .unset, .unset, .unset] [(.ref b13)])) ?_ fun t k => XS.aload X39.here hx rfl (hb hby at_159) rfl rfl k
          refine own_pre (B := T39.setTop (mkF m 163 #[.val (.int x0), .val (.int x1), .val (.int x2), .val (.int x3), .val (.int x4), .val (.int j2_s0), .val (.int j5_s0), .val (.int j8_s0), .val (.int j11_s0), .val (.ref b13), .val (.ref b15), .val (.ref b18), .val (.ref b23), .val (.ref b30), .val (.int (own_mt j2_s0 (j2_s0 + (1 : Int32)) j5_s0 j5_s0 j8_s0 j8_s0 j11_s0 j11_s0)), .unset, .unset, .unset, .unset] [(.ref b18), (.ref b13)])) ?_ fun t k => XS.aload X39.here hx rfl (hb hby at_161) rfl rfl k
          have f50 := ((((F22_area.ext E23).keep K29 (ninS ne28 nin0)).ext E30).keep K38 (ninS ne35 nin0))
          have f51 := ((((F22_service.ext E23).keep K29 (ninS ne28 nin0)).ext E30).keep K38 (ninS ne35 nin0))
          have f52 := ((((F22_version.ext E23).keep K29 (ninS ne28 nin0)).ext E30).keep K38 (ninS ne35 nin0))
          have f53 := ((((F22_number.ext E23).keep K29 (ninS ne28 nin0)).ext E30).keep K38 (ninS ne35 nin0))
          obtain ⟨cq49, kq49, q49a, q49b, q49c⟩ := isOf hZ e39 f48
          obtain ⟨_, _, ⟨T49, L49, k49, n49⟩, -, X49, ⟨Lc49, hQ49, l49, y49, z49⟩, st49⟩ := X39.virtualBack hx (y := (⟨"com/example/halyard/halyard/com/ObjectType", "matches", "(Lcom/example/halyard/halyard/com/ObjectType;)Z"⟩ : MethodName)) (z := (⟨"com/example/halyard/halyard/com/ObjectType", "matches", "(Lcom/example/halyard/halyard/com/ObjectType;)Z"⟩ : MethodName)) hown (mvT hZ (hw _ (List.mem_of_getElem? (i := 22) rfl))) (mvT hZ (hw _ (List.mem_of_getElem? (i := 23) rfl))) (notFace_of_selects (args := #[]) (mvT hZ (hw _ (List.mem_of_getElem? (i := 25) rfl)))) (mvT hZ (hw _ (List.mem_of_getElem? (i := 25) rfl))) (mvT hZ (hw _ (List.mem_of_getElem? (i := 24) rfl))) (by decide) (backOf (W := 0) (rm4 l Z a0 hw [] b13 b18 j2_s0 j5_s0 j8_s0 j11_s0 j2_s0 (j5_s0 + (1 : Int32)) j8_s0 j11_s0 T38.heap n0 Z38 f40 f41 f42 f43 f50 f51 f52 f53) hZ (hw _ (List.mem_of_getElem? (i := 26) rfl)) (hw _ (List.mem_of_getElem? (i := 2) rfl)) (by decide) (by decide)) q49a q49c (g := (mkF m 163 #[.val (.int x0), .val (.int x1), .val (.int x2), .val (.int x3), .val (.int x4), .val (.int j2_s0), .val (.int j5_s0), .val (.int j8_s0), .val (.int j11_s0), .val (.ref b13), .val (.ref b15), .val (.ref b18), .val (.ref b23), .val (.ref b30), .val (.int (own_mt j2_s0 (j2_s0 + (1 : Int32)) j5_s0 j5_s0 j8_s0 j8_s0 j11_s0 j11_s0)), .unset, .unset, .unset, .unset] [(.ref b18), (.ref b13)])) rfl (by rw [hml]; rfl) (Steps.refl _) (argsL := [(.ref b18)]) (rest := []) (lenOf pd__Lcom_example_halyard_halyard_com_ObjectType__Z rfl) rfl (by show 2 * 0 + _ ≤ _; exact Nat.le_of_eq rfl) (hb hby at_163) (fun _ _ => ⟨rfl, e39, (by decide : 5 + 0 ≤ _), (by decide : 20 + 0 ≤ _)⟩)
          dsimp only [Pt.U, Pt.locs, Pt.cells, Pt.slots] at X49 l49 y49 z49 st49 hQ49
          subst l49 y49 z49
          obtain ⟨rfl, Nq49, e49⟩ := hQ49
          have N49 := Fr.app N39 Nq49
          refine own_pre (B := T49.setTop (mkF m 166 #[.val (.int x0), .val (.int x1), .val (.int x2), .val (.int x3), .val (.int x4), .val (.int j2_s0), .val (.int j5_s0), .val (.int j8_s0), .val (.int j11_s0), .val (.ref b13), .val (.ref b15), .val (.ref b18), .val (.ref b23), .val (.ref b30), .val (.int (own_mt j2_s0 (j2_s0 + (1 : Int32)) j5_s0 j5_s0 j8_s0 j8_s0 j11_s0 j11_s0)), .unset, .unset, .unset, .unset] [(.int (own_mt j2_s0 j2_s0 j5_s0 (j5_s0 + (1 : Int32)) j8_s0 j8_s0 j11_s0 j11_s0))])) ?_ (fun t k => st49.trans k)
          refine own_pre (B := T49.setTop (mkF m 168 #[.val (.int x0), .val (.int x1), .val (.int x2), .val (.int x3), .val (.int x4), .val (.int j2_s0), .val (.int j5_s0), .val (.int j8_s0), .val (.int j11_s0), .val (.ref b13), .val (.ref b15), .val (.ref b18), .val (.ref b23), .val (.ref b30), .val (.int (own_mt j2_s0 (j2_s0 + (1 : Int32)) j5_s0 j5_s0 j8_s0 j8_s0 j11_s0 j11_s0)), .val (.int (own_mt j2_s0 j2_s0 j5_s0 (j5_s0 + (1 : Int32)) j8_s0 j8_s0 j11_s0 j11_s0)), .unset, .unset, .unset] [])) ?_ fun t k => XS.istore X49.here hx rfl (hb hby at_166) rfl  (l' := #[.val (.int x0), .val (.int x1), .val (.int x2), .val (.int x3), .val (.int x4), .val (.int j2_s0), .val (.int j5_s0), .val (.int j8_s0), .val (.int j11_s0), .val (.ref b13), .val (.ref b15), .val (.ref b18), .val (.ref b23), .val (.ref b30), .val (.int (own_mt j2_s0 (j2_s0 + (1 : Int32)) j5_s0 j5_s0 j8_s0 j8_s0 j11_s0 j11_s0)), .val (.int (own_mt j2_s0 j2_s0 j5_s0 (j5_s0 + (1 : Int32)) j8_s0 j8_s0 j11_s0 j11_s0)), .unset, .unset, .unset]) rfl k
          refine own_pre (B := T49.setTop (mkF m 170 #[.val (.int x0), .val (.int x1), .val (.int x2), .val (.int x3), .val (.int x4), .val (.int j2_s0), .val (.int j5_s0), .val (.int j8_s0), .val (.int j11_s0), .val (.ref b13), .val (.ref b15), .val (.ref b18), .val (.ref b23), .val (.ref b30), .val (.int (own_mt j2_s0 (j2_s0 + (1 : Int32)) j5_s0 j5_s0 j8_s0 j8_s0 j11_s0 j11_s0)), .val (.int (own_mt j2_s0 j2_s0 j5_s0 (j5_s0 + (1 : Int32)) j8_s0 j8_s0 j11_s0 j11_s0)), .unset, .unset, .unset] [(.ref b13)])) ?_ fun t k => XS.aload X49.here hx rfl (hb hby at_168) rfl rfl k
          refine own_pre (B := T49.setTop (mkF m 172 #[.val (.int x0), .val (.int x1), .val (.int x2), .val (.int x3), .val (.int x4), .val (.int j2_s0), .val (.int j5_s0), .val (.int j8_s0), .val (.int j11_s0), .val (.ref b13), .val (.ref b15), .val (.ref b18), .val (.ref b23), .val (.ref b30), .val (.int (own_mt j2_s0 (j2_s0 + (1 : Int32)) j5_s0 j5_s0 j8_s0 j8_s0 j11_s0 j11_s0)), .val (.int (own_mt j2_s0 j2_s0 j5_s0 (j5_s0 + (1 : Int32)) j8_s0 j8_s0 j11_s0 j11_s0)), .unset, .unset, .unset] [(.ref b23), (.ref b13)])) ?_ fun t k => XS.aload X49.here hx rfl (hb hby at_170) rfl rfl k
          have f55 := ((F29_area.ext E30).keep K38 (ninS ne37 nin0))
          have f56 := ((F29_service.ext E30).keep K38 (ninS ne37 nin0))
          have f57 := ((F29_version.ext E30).keep K38 (ninS ne37 nin0))
          have f58 := ((F29_number.ext E30).keep K38 (ninS ne37 nin0))
          obtain ⟨cq54, kq54, q54a, q54b, q54c⟩ := isOf hZ e49 f48
          obtain ⟨_, _, ⟨T54, L54, k54, n54⟩, -, X54, ⟨Lc54, hQ54, l54, y54, z54⟩, st54⟩ := X49.virtualBack hx (y := (⟨"com/example/halyard/halyard/com/ObjectType", "matches", "(Lcom/example/halyard/halyard/com/ObjectType;)Z"⟩ : MethodName)) (z := (⟨"com/example/halyard/halyard/com/ObjectType", "matches", "(Lcom/example/halyard/halyard/com/ObjectType;)Z"⟩ : MethodName)) hown (mvT hZ (hw _ (List.mem_of_getElem? (i := 22) rfl))) (mvT hZ (hw _ (List.mem_of_getElem? (i := 23) rfl))) (notFace_of_selects (args := #[]) (mvT hZ (hw _ (List.mem_of_getElem? (i := 25) rfl)))) (mvT hZ (hw _ (List.mem_of_getElem? (i := 25) rfl))) (mvT hZ (hw _ (List.mem_of_getElem? (i := 24) rfl))) (by decide) (backOf (W := 0) (rm4 l Z a0 hw [] b13 b23 j2_s0 j5_s0 j8_s0 j11_s0 j2_s0 j5_s0 (j8_s0 + (1 : Int32)) j11_s0 T38.heap n0 Z38 f40 f41 f42 f43 f55 f56 f57 f58) hZ (hw _ (List.mem_of_getElem? (i := 26) rfl)) (hw _ (List.mem_of_getElem? (i := 2) rfl)) (by decide) (by decide)) q54a q54c (g := (mkF m 172 #[.val (.int x0), .val (.int x1), .val (.int x2), .val (.int x3), .val (.int x4), .val (.int j2_s0), .val (.int j5_s0), .val (.int j8_s0), .val (.int j11_s0), .val (.ref b13), .val (.ref b15), .val (.ref b18), .val (.ref b23), .val (.ref b30), .val (.int (own_mt j2_s0 (j2_s0 + (1 : Int32)) j5_s0 j5_s0 j8_s0 j8_s0 j11_s0 j11_s0)), .val (.int (own_mt j2_s0 j2_s0 j5_s0 (j5_s0 + (1 : Int32)) j8_s0 j8_s0 j11_s0 j11_s0)), .unset, .unset, .unset] [(.ref b23), (.ref b13)])) rfl (by rw [hml]; rfl) (Steps.refl _) (argsL := [(.ref b23)]) (rest := []) (lenOf pd__Lcom_example_halyard_halyard_com_ObjectType__Z rfl) rfl (by show 2 * 0 + _ ≤ _; exact Nat.le_of_eq rfl) (hb hby at_172) (fun _ _ => ⟨rfl, e49, (by decide : 5 + 0 ≤ _), (by decide : 20 + 0 ≤ _)⟩)
          dsimp only [Pt.U, Pt.locs, Pt.cells, Pt.slots] at X54 l54 y54 z54 st54 hQ54
          subst l54 y54 z54
          obtain ⟨rfl, Nq54, e54⟩ := hQ54
          have N54 := Fr.app N49 Nq54
          refine own_pre (B := T54.setTop (mkF m 175 #[.val (.int x0), .val (.int x1), .val (.int x2), .val (.int x3), .val (.int x4), .val (.int j2_s0), .val (.int j5_s0), .val (.int j8_s0), .val (.int j11_s0), .val (.ref b13), .val (.ref b15), .val (.ref b18), .val (.ref b23), .val (.ref b30), .val (.int (own_mt j2_s0 (j2_s0 + (1 : Int32)) j5_s0 j5_s0 j8_s0 j8_s0 j11_s0 j11_s0)), .val (.int (own_mt j2_s0 j2_s0 j5_s0 (j5_s0 + (1 : Int32)) j8_s0 j8_s0 j11_s0 j11_s0)), .unset, .unset, .unset] [(.int (own_mt j2_s0 j2_s0 j5_s0 j5_s0 j8_s0 (j8_s0 + (1 : Int32)) j11_s0 j11_s0))])) ?_ (fun t k => st54.trans k)
          refine own_pre (B := T54.setTop (mkF m 177 #[.val (.int x0), .val (.int x1), .val (.int x2), .val (.int x3), .val (.int x4), .val (.int j2_s0), .val (.int j5_s0), .val (.int j8_s0), .val (.int j11_s0), .val (.ref b13), .val (.ref b15), .val (.ref b18), .val (.ref b23), .val (.ref b30), .val (.int (own_mt j2_s0 (j2_s0 + (1 : Int32)) j5_s0 j5_s0 j8_s0 j8_s0 j11_s0 j11_s0)), .val (.int (own_mt j2_s0 j2_s0 j5_s0 (j5_s0 + (1 : Int32)) j8_s0 j8_s0 j11_s0 j11_s0)), .val (.int (own_mt j2_s0 j2_s0 j5_s0 j5_s0 j8_s0 (j8_s0 + (1 : Int32)) j11_s0 j11_s0)), .unset, .unset] [])) ?_ fun t k => XS.istore X54.here hx rfl (hb hby at_175) rfl  (l' := #[.val (.int x0), .val (.int x1), .val (.int x2), .val (.int x3), .val (.int x4), .val (.int j2_s0), .val (.int j5_s0), .val (.int j8_s0), .val (.int j11_s0), .val (.ref b13), .val (.ref b15), .val (.ref b18), .val (.ref b23), .val (.ref b30), .val (.int (own_mt j2_s0 (j2_s0 + (1 : Int32)) j5_s0 j5_s0 j8_s0 j8_s0 j11_s0 j11_s0)), .val (.int (own_mt j2_s0 j2_s0 j5_s0 (j5_s0 + (1 : Int32)) j8_s0 j8_s0 j11_s0 j11_s0)), .val (.int (own_mt j2_s0 j2_s0 j5_s0 j5_s0 j8_s0 (j8_s0 + (1 : Int32)) j11_s0 j11_s0)), .unset, .unset]) rfl k
          refine own_pre (B := T54.setTop (mkF m 179 #[.val (.int x0), .val (.int x1), .val (.int x2), .val (.int x3), .val (.int x4), .val (.int j2_s0), .val (.int j5_s0), .val (.int j8_s0), .val (.int j11_s0), .val (.ref b13), .val (.ref b15), .val (.ref b18), .val (.ref b23), .val (.ref b30), .val (.int (own_mt j2_s0 (j2_s0 + (1 : Int32)) j5_s0 j5_s0 j8_s0 j8_s0 j11_s0 j11_s0)), .val (.int (own_mt j2_s0 j2_s0 j5_s0 (j5_s0 + (1 : Int32)) j8_s0 j8_s0 j11_s0 j11_s0)), .val (.int (own_mt j2_s0 j2_s0 j5_s0 j5_s0 j8_s0 (j8_s0 + (1 : Int32)) j11_s0 j11_s0)), .unset, .unset] [(.ref b13)])) ?_ fun t k => XS.aload X54.here hx rfl (hb hby at_177) rfl rfl k
          refine own_pre (B := T54.setTop (mkF m 181 #[.val (.int x0), .val (.int x1), .val (.int x2), .val (.int x3), .val (.int x4), .val (.int j2_s0), .val (.int j5_s0), .val (.int j8_s0), .val (.int j11_s0), .val (.ref b13), .val (.ref b15), .val (.ref b18), .val (.ref b23), .val (.ref b30), .val (.int (own_mt j2_s0 (j2_s0 + (1 : Int32)) j5_s0 j5_s0 j8_s0 j8_s0 j11_s0 j11_s0)), .val (.int (own_mt j2_s0 j2_s0 j5_s0 (j5_s0 + (1 : Int32)) j8_s0 j8_s0 j11_s0 j11_s0)), .val (.int (own_mt j2_s0 j2_s0 j5_s0 j5_s0 j8_s0 (j8_s0 + (1 : Int32)) j11_s0 j11_s0)), .unset, .unset] [(.ref b30), (.ref b13)])) ?_ fun t k => XS.aload X54.here hx rfl (hb hby at_179) rfl rfl k
          obtain ⟨cq59, kq59, q59a, q59b, q59c⟩ := isOf hZ e54 f48
          obtain ⟨_, _, ⟨T59, L59, k59, n59⟩, -, X59, ⟨Lc59, hQ59, l59, y59, z59⟩, st59⟩ := X54.virtualBack hx (y := (⟨"com/example/halyard/halyard/com/ObjectType", "matches", "(Lcom/example/halyard/halyard/com/ObjectType;)Z"⟩ : MethodName)) (z := (⟨"com/example/halyard/halyard/com/ObjectType", "matches", "(Lcom/example/halyard/halyard/com/ObjectType;)Z"⟩ : MethodName)) hown (mvT hZ (hw _ (List.mem_of_getElem? (i := 22) rfl))) (mvT hZ (hw _ (List.mem_of_getElem? (i := 23) rfl))) (notFace_of_selects (args := #[]) (mvT hZ (hw _ (List.mem_of_getElem? (i := 25) rfl)))) (mvT hZ (hw _ (List.mem_of_getElem? (i := 25) rfl))) (mvT hZ (hw _ (List.mem_of_getElem? (i := 24) rfl))) (by decide) (backOf (W := 0) (rm4 l Z a0 hw [] b13 b30 j2_s0 j5_s0 j8_s0 j11_s0 j2_s0 j5_s0 j8_s0 (j11_s0 + (1 : Int32)) T38.heap n0 Z38 f40 f41 f42 f43 F38_area F38_service F38_version F38_number) hZ (hw _ (List.mem_of_getElem? (i := 26) rfl)) (hw _ (List.mem_of_getElem? (i := 2) rfl)) (by decide) (by decide)) q59a q59c (g := (mkF m 181 #[.val (.int x0), .val (.int x1), .val (.int x2), .val (.int x3), .val (.int x4), .val (.int j2_s0), .val (.int j5_s0), .val (.int j8_s0), .val (.int j11_s0), .val (.ref b13), .val (.ref b15), .val (.ref b18), .val (.ref b23), .val (.ref b30), .val (.int (own_mt j2_s0 (j2_s0 + (1 : Int32)) j5_s0 j5_s0 j8_s0 j8_s0 j11_s0 j11_s0)), .val (.int (own_mt j2_s0 j2_s0 j5_s0 (j5_s0 + (1 : Int32)) j8_s0 j8_s0 j11_s0 j11_s0)), .val (.int (own_mt j2_s0 j2_s0 j5_s0 j5_s0 j8_s0 (j8_s0 + (1 : Int32)) j11_s0 j11_s0)), .unset, .unset] [(.ref b30), (.ref b13)])) rfl (by rw [hml]; rfl) (Steps.refl _) (argsL := [(.ref b30)]) (rest := []) (lenOf pd__Lcom_example_halyard_halyard_com_ObjectType__Z rfl) rfl (by show 2 * 0 + _ ≤ _; exact Nat.le_of_eq rfl) (hb hby at_181) (fun _ _ => ⟨rfl, e54, (by decide : 5 + 0 ≤ _), (by decide : 20 + 0 ≤ _)⟩)
          dsimp only [Pt.U, Pt.locs, Pt.cells, Pt.slots] at X59 l59 y59 z59 st59 hQ59
          subst l59 y59 z59
          obtain ⟨rfl, Nq59, e59⟩ := hQ59
          have N59 := Fr.app N54 Nq59
          refine own_pre (B := T59.setTop (mkF m 184 #[.val (.int x0), .val (.int x1), .val (.int x2), .val (.int x3), .val (.int x4), .val (.int j2_s0), .val (.int j5_s0), .val (.int j8_s0), .val (.int j11_s0), .val (.ref b13), .val (.ref b15), .val (.ref b18), .val (.ref b23), .val (.ref b30), .val (.int (own_mt j2_s0 (j2_s0 + (1 : Int32)) j5_s0 j5_s0 j8_s0 j8_s0 j11_s0 j11_s0)), .val (.int (own_mt j2_s0 j2_s0 j5_s0 (j5_s0 + (1 : Int32)) j8_s0 j8_s0 j11_s0 j11_s0)), .val (.int (own_mt j2_s0 j2_s0 j5_s0 j5_s0 j8_s0 (j8_s0 + (1 : Int32)) j11_s0 j11_s0)), .unset, .unset] [(.int (own_mt j2_s0 j2_s0 j5_s0 j5_s0 j8_s0 j8_s0 j11_s0 (j11_s0 + (1 : Int32))))])) ?_ (fun t k => st59.trans k)
          refine own_pre (B := T59.setTop (mkF m 186 #[.val (.int x0), .val (.int x1), .val (.int x2), .val (.int x3), .val (.int x4), .val (.int j2_s0), .val (.int j5_s0), .val (.int j8_s0), .val (.int j11_s0), .val (.ref b13), .val (.ref b15), .val (.ref b18), .val (.ref b23), .val (.ref b30), .val (.int (own_mt j2_s0 (j2_s0 + (1 : Int32)) j5_s0 j5_s0 j8_s0 j8_s0 j11_s0 j11_s0)), .val (.int (own_mt j2_s0 j2_s0 j5_s0 (j5_s0 + (1 : Int32)) j8_s0 j8_s0 j11_s0 j11_s0)), .val (.int (own_mt j2_s0 j2_s0 j5_s0 j5_s0 j8_s0 (j8_s0 + (1 : Int32)) j11_s0 j11_s0)), .val (.int (own_mt j2_s0 j2_s0 j5_s0 j5_s0 j8_s0 j8_s0 j11_s0 (j11_s0 + (1 : Int32)))), .unset] [])) ?_ fun t k => XS.istore X59.here hx rfl (hb hby at_184) rfl  (l' := #[.val (.int x0), .val (.int x1), .val (.int x2), .val (.int x3), .val (.int x4), .val (.int j2_s0), .val (.int j5_s0), .val (.int j8_s0), .val (.int j11_s0), .val (.ref b13), .val (.ref b15), .val (.ref b18), .val (.ref b23), .val (.ref b30), .val (.int (own_mt j2_s0 (j2_s0 + (1 : Int32)) j5_s0 j5_s0 j8_s0 j8_s0 j11_s0 j11_s0)), .val (.int (own_mt j2_s0 j2_s0 j5_s0 (j5_s0 + (1 : Int32)) j8_s0 j8_s0 j11_s0 j11_s0)), .val (.int (own_mt j2_s0 j2_s0 j5_s0 j5_s0 j8_s0 (j8_s0 + (1 : Int32)) j11_s0 j11_s0)), .val (.int (own_mt j2_s0 j2_s0 j5_s0 j5_s0 j8_s0 j8_s0 j11_s0 (j11_s0 + (1 : Int32)))), .unset]) rfl k
          refine own_pre (B := T59.setTop (mkF m 188 #[.val (.int x0), .val (.int x1), .val (.int x2), .val (.int x3), .val (.int x4), .val (.int j2_s0), .val (.int j5_s0), .val (.int j8_s0), .val (.int j11_s0), .val (.ref b13), .val (.ref b15), .val (.ref b18), .val (.ref b23), .val (.ref b30), .val (.int (own_mt j2_s0 (j2_s0 + (1 : Int32)) j5_s0 j5_s0 j8_s0 j8_s0 j11_s0 j11_s0)), .val (.int (own_mt j2_s0 j2_s0 j5_s0 (j5_s0 + (1 : Int32)) j8_s0 j8_s0 j11_s0 j11_s0)), .val (.int (own_mt j2_s0 j2_s0 j5_s0 j5_s0 j8_s0 (j8_s0 + (1 : Int32)) j11_s0 j11_s0)), .val (.int (own_mt j2_s0 j2_s0 j5_s0 j5_s0 j8_s0 j8_s0 j11_s0 (j11_s0 + (1 : Int32)))), .unset] [(.int (own_mt j2_s0 (j2_s0 + (1 : Int32)) j5_s0 j5_s0 j8_s0 j8_s0 j11_s0 j11_s0))])) ?_ fun t k => XS.iload X59.here hx rfl (hb hby at_186) rfl  k
          have Jj61 : ∀ (T62 : State) (l62 : List Loc) (X62 : Stand p l e room_1 s m #[(.int x0), (.int x1), (.int x2), (.int x3), (.int x4)] below meth c T62 l62 5 20) (N62 : Fr n0 l62) (e62 : T62.heap = T38.heap) (j61_s0 : Int32) (hvj61_s0 : j61_s0 = (if (own_mt j2_s0 (j2_s0 + (1 : Int32)) j5_s0 j5_s0 j8_s0 j8_s0 j11_s0 j11_s0) = (0 : Int32) then (if (own_mt j2_s0 j2_s0 j5_s0 (j5_s0 + (1 : Int32)) j8_s0 j8_s0 j11_s0 j11_s0) = (0 : Int32) then (if (own_mt j2_s0 j2_s0 j5_s0 j5_s0 j8_s0 (j8_s0 + (1 : Int32)) j11_s0 j11_s0) = (0 : Int32) then (if (own_mt j2_s0 j2_s0 j5_s0 j5_s0 j8_s0 j8_s0 j11_s0 (j11_s0 + (1 : Int32))) = (0 : Int32) then (0 : Int32) else (1 : Int32)) else (1 : Int32)) else (1 : Int32)) else (1 : Int32))), own_E p e below s (Q0 Z x0 x1 x2 x3 x4 h0 n0) 24 128 (T62.setTop (mkF m 211 #[.val (.int x0), .val (.int x1), .val (.int x2), .val (.int x3), .val (.int x4), .val (.int j2_s0), .val (.int j5_s0), .val (.int j8_s0), .val (.int j11_s0), .val (.ref b13), .val (.ref b15), .val (.ref b18), .val (.ref b23), .val (.ref b30), .val (.int (own_mt j2_s0 (j2_s0 + (1 : Int32)) j5_s0 j5_s0 j8_s0 j8_s0 j11_s0 j11_s0)), .val (.int (own_mt j2_s0 j2_s0 j5_s0 (j5_s0 + (1 : Int32)) j8_s0 j8_s0 j11_s0 j11_s0)), .val (.int (own_mt j2_s0 j2_s0 j5_s0 j5_s0 j8_s0 (j8_s0 + (1 : Int32)) j11_s0 j11_s0)), .val (.int (own_mt j2_s0 j2_s0 j5_s0 j5_s0 j8_s0 j8_s0 j11_s0 (j11_s0 + (1 : Int32)))), .unset] [(.int j61_s0)])) := by
            intro T62 l62 X62 N62 e62 j61_s0 hvj61_s0
            refine own_pre (B := T62.setTop (mkF m 213 #[.val (.int x0), .val (.int x1), .val (.int x2), .val (.int x3), .val (.int x4), .val (.int j2_s0), .val (.int j5_s0), .val (.int j8_s0), .val (.int j11_s0), .val (.ref b13), .val (.ref b15), .val (.ref b18), .val (.ref b23), .val (.ref b30), .val (.int (own_mt j2_s0 (j2_s0 + (1 : Int32)) j5_s0 j5_s0 j8_s0 j8_s0 j11_s0 j11_s0)), .val (.int (own_mt j2_s0 j2_s0 j5_s0 (j5_s0 + (1 : Int32)) j8_s0 j8_s0 j11_s0 j11_s0)), .val (.int (own_mt j2_s0 j2_s0 j5_s0 j5_s0 j8_s0 (j8_s0 + (1 : Int32)) j11_s0 j11_s0)), .val (.int (own_mt j2_s0 j2_s0 j5_s0 j5_s0 j8_s0 j8_s0 j11_s0 (j11_s0 + (1 : Int32)))), .val (.int j61_s0)] [])) ?_ fun t k => XS.istore X62.here hx rfl (hb hby at_211) rfl  (l' := #[.val (.int x0), .val (.int x1), .val (.int x2), .val (.int x3), .val (.int x4), .val (.int j2_s0), .val (.int j5_s0), .val (.int j8_s0), .val (.int j11_s0), .val (.ref b13), .val (.ref b15), .val (.ref b18), .val (.ref b23), .val (.ref b30), .val (.int (own_mt j2_s0 (j2_s0 + (1 : Int32)) j5_s0 j5_s0 j8_s0 j8_s0 j11_s0 j11_s0)), .val (.int (own_mt j2_s0 j2_s0 j5_s0 (j5_s0 + (1 : Int32)) j8_s0 j8_s0 j11_s0 j11_s0)), .val (.int (own_mt j2_s0 j2_s0 j5_s0 j5_s0 j8_s0 (j8_s0 + (1 : Int32)) j11_s0 j11_s0)), .val (.int (own_mt j2_s0 j2_s0 j5_s0 j5_s0 j8_s0 j8_s0 j11_s0 (j11_s0 + (1 : Int32)))), .val (.int j61_s0)]) rfl k
            refine own_pre (B := T62.setTop (mkF m 215 #[.val (.int x0), .val (.int x1), .val (.int x2), .val (.int x3), .val (.int x4), .val (.int j2_s0), .val (.int j5_s0), .val (.int j8_s0), .val (.int j11_s0), .val (.ref b13), .val (.ref b15), .val (.ref b18), .val (.ref b23), .val (.ref b30), .val (.int (own_mt j2_s0 (j2_s0 + (1 : Int32)) j5_s0 j5_s0 j8_s0 j8_s0 j11_s0 j11_s0)), .val (.int (own_mt j2_s0 j2_s0 j5_s0 (j5_s0 + (1 : Int32)) j8_s0 j8_s0 j11_s0 j11_s0)), .val (.int (own_mt j2_s0 j2_s0 j5_s0 j5_s0 j8_s0 (j8_s0 + (1 : Int32)) j11_s0 j11_s0)), .val (.int (own_mt j2_s0 j2_s0 j5_s0 j5_s0 j8_s0 j8_s0 j11_s0 (j11_s0 + (1 : Int32)))), .val (.int j61_s0)] [(.ref b13)])) ?_ fun t k => XS.aload X62.here hx rfl (hb hby at_213) rfl rfl k
            obtain ⟨cq63, kq63, q63a, q63b, q63c⟩ := isOf hZ e62 f48
            obtain ⟨_, _, ⟨T63, L63, k63, n63⟩, -, X63, ⟨Lc63, hQ63, l63, y63, z63⟩, st63⟩ := X62.virtualBack hx (y := (⟨"com/example/halyard/halyard/com/ObjectType", "hasWildcard", "()Z"⟩ : MethodName)) (z := (⟨"com/example/halyard/halyard/com/ObjectType", "hasWildcard", "()Z"⟩ : MethodName)) hown (mvT hZ (hw _ (List.mem_of_getElem? (i := 27) rfl))) (mvT hZ (hw _ (List.mem_of_getElem? (i := 28) rfl))) (notFace_of_selects (args := #[]) (mvT hZ (hw _ (List.mem_of_getElem? (i := 30) rfl)))) (mvT hZ (hw _ (List.mem_of_getElem? (i := 30) rfl))) (mvT hZ (hw _ (List.mem_of_getElem? (i := 29) rfl))) (by decide) (backOf (W := 0) (rm5 l Z a0 hw [] b13 j2_s0 j5_s0 j8_s0 j11_s0 T38.heap n0 Z38 f40 f41 f42 f43) hZ (hw _ (List.mem_of_getElem? (i := 31) rfl)) (hw _ (List.mem_of_getElem? (i := 2) rfl)) (by decide) (by decide)) q63a q63c (g := (mkF m 215 #[.val (.int x0), .val (.int x1), .val (.int x2), .val (.int x3), .val (.int x4), .val (.int j2_s0), .val (.int j5_s0), .val (.int j8_s0), .val (.int j11_s0), .val (.ref b13), .val (.ref b15), .val (.ref b18), .val (.ref b23), .val (.ref b30), .val (.int (own_mt j2_s0 (j2_s0 + (1 : Int32)) j5_s0 j5_s0 j8_s0 j8_s0 j11_s0 j11_s0)), .val (.int (own_mt j2_s0 j2_s0 j5_s0 (j5_s0 + (1 : Int32)) j8_s0 j8_s0 j11_s0 j11_s0)), .val (.int (own_mt j2_s0 j2_s0 j5_s0 j5_s0 j8_s0 (j8_s0 + (1 : Int32)) j11_s0 j11_s0)), .val (.int (own_mt j2_s0 j2_s0 j5_s0 j5_s0 j8_s0 j8_s0 j11_s0 (j11_s0 + (1 : Int32)))), .val (.int j61_s0)] [(.ref b13)])) rfl (by rw [hml]; rfl) (Steps.refl _) (argsL := []) (rest := []) (lenOf pd___Z rfl) rfl (by show 2 * 0 + _ ≤ _; exact Nat.le_of_eq rfl) (hb hby at_215) (fun _ _ => ⟨rfl, e62, (by decide : 5 + 0 ≤ _), (by decide : 20 + 0 ≤ _)⟩)
            dsimp only [Pt.U, Pt.locs, Pt.cells, Pt.slots] at X63 l63 y63 z63 st63 hQ63
            subst l63 y63 z63
            obtain ⟨rfl, Nq63, e63⟩ := hQ63
            have N63 := Fr.app N62 Nq63
            refine own_pre (B := T63.setTop (mkF m 218 #[.val (.int x0), .val (.int x1), .val (.int x2), .val (.int x3), .val (.int x4), .val (.int j2_s0), .val (.int j5_s0), .val (.int j8_s0), .val (.int j11_s0), .val (.ref b13), .val (.ref b15), .val (.ref b18), .val (.ref b23), .val (.ref b30), .val (.int (own_mt j2_s0 (j2_s0 + (1 : Int32)) j5_s0 j5_s0 j8_s0 j8_s0 j11_s0 j11_s0)), .val (.int (own_mt j2_s0 j2_s0 j5_s0 (j5_s0 + (1 : Int32)) j8_s0 j8_s0 j11_s0 j11_s0)), .val (.int (own_mt j2_s0 j2_s0 j5_s0 j5_s0 j8_s0 (j8_s0 + (1 : Int32)) j11_s0 j11_s0)), .val (.int (own_mt j2_s0 j2_s0 j5_s0 j5_s0 j8_s0 j8_s0 j11_s0 (j11_s0 + (1 : Int32)))), .val (.int j61_s0)] [(.int (own_hw j2_s0 j5_s0 j8_s0 j11_s0))])) ?_ (fun t k => st63.trans k)
            refine own_pre (B := T63.setTop (mkF m 220 #[.val (.int x0), .val (.int x1), .val (.int x2), .val (.int x3), .val (.int x4), .val (.int j2_s0), .val (.int j5_s0), .val (.int j8_s0), .val (.int j11_s0), .val (.ref b13), .val (.ref b15), .val (.ref b18), .val (.ref b23), .val (.ref b30), .val (.int (own_mt j2_s0 (j2_s0 + (1 : Int32)) j5_s0 j5_s0 j8_s0 j8_s0 j11_s0 j11_s0)), .val (.int (own_mt j2_s0 j2_s0 j5_s0 (j5_s0 + (1 : Int32)) j8_s0 j8_s0 j11_s0 j11_s0)), .val (.int (own_mt j2_s0 j2_s0 j5_s0 j5_s0 j8_s0 (j8_s0 + (1 : Int32)) j11_s0 j11_s0)), .val (.int (own_mt j2_s0 j2_s0 j5_s0 j5_s0 j8_s0 j8_s0 j11_s0 (j11_s0 + (1 : Int32)))), .val (.int j61_s0)] [(.int j61_s0), (.int (own_hw j2_s0 j5_s0 j8_s0 j11_s0))])) ?_ fun t k => XS.iload X63.here hx rfl (hb hby at_218) rfl  k
            refine own_pre (B := T63.setTop (mkF m 223 #[.val (.int x0), .val (.int x1), .val (.int x2), .val (.int x3), .val (.int x4), .val (.int j2_s0), .val (.int j5_s0), .val (.int j8_s0), .val (.int j11_s0), .val (.ref b13), .val (.ref b15), .val (.ref b18), .val (.ref b23), .val (.ref b30), .val (.int (own_mt j2_s0 (j2_s0 + (1 : Int32)) j5_s0 j5_s0 j8_s0 j8_s0 j11_s0 j11_s0)), .val (.int (own_mt j2_s0 j2_s0 j5_s0 (j5_s0 + (1 : Int32)) j8_s0 j8_s0 j11_s0 j11_s0)), .val (.int (own_mt j2_s0 j2_s0 j5_s0 j5_s0 j8_s0 (j8_s0 + (1 : Int32)) j11_s0 j11_s0)), .val (.int (own_mt j2_s0 j2_s0 j5_s0 j5_s0 j8_s0 j8_s0 j11_s0 (j11_s0 + (1 : Int32)))), .val (.int j61_s0)] [])) ?_ fun t k => XS.icmpNo X63.here hx rfl (hb hby at_220) rfl (teq (own_fin x0 x1 x2 x3 x4 j2_s0 hvj2_s0 j5_s0 hvj5_s0 j8_s0 hvj8_s0 j11_s0 hvj11_s0 j61_s0 hvj61_s0)).2 k
            refine own_pre (B := T63.setTop (mkF m 224 #[.val (.int x0), .val (.int x1), .val (.int x2), .val (.int x3), .val (.int x4), .val (.int j2_s0), .val (.int j5_s0), .val (.int j8_s0), .val (.int j11_s0), .val (.ref b13), .val (.ref b15), .val (.ref b18), .val (.ref b23), .val (.ref b30), .val (.int (own_mt j2_s0 (j2_s0 + (1 : Int32)) j5_s0 j5_s0 j8_s0 j8_s0 j11_s0 j11_s0)), .val (.int (own_mt j2_s0 j2_s0 j5_s0 (j5_s0 + (1 : Int32)) j8_s0 j8_s0 j11_s0 j11_s0)), .val (.int (own_mt j2_s0 j2_s0 j5_s0 j5_s0 j8_s0 (j8_s0 + (1 : Int32)) j11_s0 j11_s0)), .val (.int (own_mt j2_s0 j2_s0 j5_s0 j5_s0 j8_s0 j8_s0 j11_s0 (j11_s0 + (1 : Int32)))), .val (.int j61_s0)] [(.int (1 : Int32))])) ?_ fun t k => XS.iconst X63.here hx rfl (hb hby at_223) k
            refine own_pre (B := T63.setTop (mkF m 228 #[.val (.int x0), .val (.int x1), .val (.int x2), .val (.int x3), .val (.int x4), .val (.int j2_s0), .val (.int j5_s0), .val (.int j8_s0), .val (.int j11_s0), .val (.ref b13), .val (.ref b15), .val (.ref b18), .val (.ref b23), .val (.ref b30), .val (.int (own_mt j2_s0 (j2_s0 + (1 : Int32)) j5_s0 j5_s0 j8_s0 j8_s0 j11_s0 j11_s0)), .val (.int (own_mt j2_s0 j2_s0 j5_s0 (j5_s0 + (1 : Int32)) j8_s0 j8_s0 j11_s0 j11_s0)), .val (.int (own_mt j2_s0 j2_s0 j5_s0 j5_s0 j8_s0 (j8_s0 + (1 : Int32)) j11_s0 j11_s0)), .val (.int (own_mt j2_s0 j2_s0 j5_s0 j5_s0 j8_s0 j8_s0 j11_s0 (j11_s0 + (1 : Int32)))), .val (.int j61_s0)] [(.int (1 : Int32))])) ?_ fun t k => XS.goto X63.here hx rfl (pc0 := 224) (pc' := 228) rfl (hb hby at_224) (by decide) (by decide) k
            refine own_retN X63 hx hlk (t := .boolean) (z' := (1 : Int32)) Bd.returns (by simp) (hb hby at_228) (by decide) ?_ (by decide) (by decide)
            rw [e63]
            exact ⟨rfl, N63⟩
          by_cases h188_60 : (own_mt j2_s0 (j2_s0 + (1 : Int32)) j5_s0 j5_s0 j8_s0 j8_s0 j11_s0 j11_s0) = (0 : Int32)
          · skip
            refine own_pre (B := T59.setTop (mkF m 191 #[.val (.int x0), .val (.int x1), .val (.int x2), .val (.int x3), .val (.int x4), .val (.int j2_s0), .val (.int j5_s0), .val (.int j8_s0), .val (.int j11_s0), .val (.ref b13), .val (.ref b15), .val (.ref b18), .val (.ref b23), .val (.ref b30), .val (.int (own_mt j2_s0 (j2_s0 + (1 : Int32)) j5_s0 j5_s0 j8_s0 j8_s0 j11_s0 j11_s0)), .val (.int (own_mt j2_s0 j2_s0 j5_s0 (j5_s0 + (1 : Int32)) j8_s0 j8_s0 j11_s0 j11_s0)), .val (.int (own_mt j2_s0 j2_s0 j5_s0 j5_s0 j8_s0 (j8_s0 + (1 : Int32)) j11_s0 j11_s0)), .val (.int (own_mt j2_s0 j2_s0 j5_s0 j5_s0 j8_s0 j8_s0 j11_s0 (j11_s0 + (1 : Int32)))), .unset] [])) ?_ fun t k => XS.ifNo X59.here hx rfl (hb hby at_188) rfl ((if0 _ _).trans (teq h188_60).2) k
            refine own_pre (B := T59.setTop (mkF m 193 #[.val (.int x0), .val (.int x1), .val (.int x2), .val (.int x3), .val (.int x4), .val (.int j2_s0), .val (.int j5_s0), .val (.int j8_s0), .val (.int j11_s0), .val (.ref b13), .val (.ref b15), .val (.ref b18), .val (.ref b23), .val (.ref b30), .val (.int (own_mt j2_s0 (j2_s0 + (1 : Int32)) j5_s0 j5_s0 j8_s0 j8_s0 j11_s0 j11_s0)), .val (.int (own_mt j2_s0 j2_s0 j5_s0 (j5_s0 + (1 : Int32)) j8_s0 j8_s0 j11_s0 j11_s0)), .val (.int (own_mt j2_s0 j2_s0 j5_s0 j5_s0 j8_s0 (j8_s0 + (1 : Int32)) j11_s0 j11_s0)), .val (.int (own_mt j2_s0 j2_s0 j5_s0 j5_s0 j8_s0 j8_s0 j11_s0 (j11_s0 + (1 : Int32)))), .unset] [(.int (own_mt j2_s0 j2_s0 j5_s0 (j5_s0 + (1 : Int32)) j8_s0 j8_s0 j11_s0 j11_s0))])) ?_ fun t k => XS.iload X59.here hx rfl (hb hby at_191) rfl  k
            by_cases h193_64 : (own_mt j2_s0 j2_s0 j5_s0 (j5_s0 + (1 : Int32)) j8_s0 j8_s0 j11_s0 j11_s0) = (0 : Int32)
            · skip
              refine own_pre (B := T59.setTop (mkF m 196 #[.val (.int x0), .val (.int x1), .val (.int x2), .val (.int x3), .val (.int x4), .val (.int j2_s0), .val (.int j5_s0), .val (.int j8_s0), .val (.int j11_s0), .val (.ref b13), .val (.ref b15), .val (.ref b18), .val (.ref b23), .val (.ref b30), .val (.int (own_mt j2_s0 (j2_s0 + (1 : Int32)) j5_s0 j5_s0 j8_s0 j8_s0 j11_s0 j11_s0)), .val (.int (own_mt j2_s0 j2_s0 j5_s0 (j5_s0 + (1 : Int32)) j8_s0 j8_s0 j11_s0 j11_s0)), .val (.int (own_mt j2_s0 j2_s0 j5_s0 j5_s0 j8_s0 (j8_s0 + (1 : Int32)) j11_s0 j11_s0)), .val (.int (own_mt j2_s0 j2_s0 j5_s0 j5_s0 j8_s0 j8_s0 j11_s0 (j11_s0 + (1 : Int32)))), .unset] [])) ?_ fun t k => XS.ifNo X59.here hx rfl (hb hby at_193) rfl ((if0 _ _).trans (teq h193_64).2) k
              refine own_pre (B := T59.setTop (mkF m 198 #[.val (.int x0), .val (.int x1), .val (.int x2), .val (.int x3), .val (.int x4), .val (.int j2_s0), .val (.int j5_s0), .val (.int j8_s0), .val (.int j11_s0), .val (.ref b13), .val (.ref b15), .val (.ref b18), .val (.ref b23), .val (.ref b30), .val (.int (own_mt j2_s0 (j2_s0 + (1 : Int32)) j5_s0 j5_s0 j8_s0 j8_s0 j11_s0 j11_s0)), .val (.int (own_mt j2_s0 j2_s0 j5_s0 (j5_s0 + (1 : Int32)) j8_s0 j8_s0 j11_s0 j11_s0)), .val (.int (own_mt j2_s0 j2_s0 j5_s0 j5_s0 j8_s0 (j8_s0 + (1 : Int32)) j11_s0 j11_s0)), .val (.int (own_mt j2_s0 j2_s0 j5_s0 j5_s0 j8_s0 j8_s0 j11_s0 (j11_s0 + (1 : Int32)))), .unset] [(.int (own_mt j2_s0 j2_s0 j5_s0 j5_s0 j8_s0 (j8_s0 + (1 : Int32)) j11_s0 j11_s0))])) ?_ fun t k => XS.iload X59.here hx rfl (hb hby at_196) rfl  k
              by_cases h198_65 : (own_mt j2_s0 j2_s0 j5_s0 j5_s0 j8_s0 (j8_s0 + (1 : Int32)) j11_s0 j11_s0) = (0 : Int32)
              · skip
                refine own_pre (B := T59.setTop (mkF m 201 #[.val (.int x0), .val (.int x1), .val (.int x2), .val (.int x3), .val (.int x4), .val (.int j2_s0), .val (.int j5_s0), .val (.int j8_s0), .val (.int j11_s0), .val (.ref b13), .val (.ref b15), .val (.ref b18), .val (.ref b23), .val (.ref b30), .val (.int (own_mt j2_s0 (j2_s0 + (1 : Int32)) j5_s0 j5_s0 j8_s0 j8_s0 j11_s0 j11_s0)), .val (.int (own_mt j2_s0 j2_s0 j5_s0 (j5_s0 + (1 : Int32)) j8_s0 j8_s0 j11_s0 j11_s0)), .val (.int (own_mt j2_s0 j2_s0 j5_s0 j5_s0 j8_s0 (j8_s0 + (1 : Int32)) j11_s0 j11_s0)), .val (.int (own_mt j2_s0 j2_s0 j5_s0 j5_s0 j8_s0 j8_s0 j11_s0 (j11_s0 + (1 : Int32)))), .unset] [])) ?_ fun t k => XS.ifNo X59.here hx rfl (hb hby at_198) rfl ((if0 _ _).trans (teq h198_65).2) k
                refine own_pre (B := T59.setTop (mkF m 203 #[.val (.int x0), .val (.int x1), .val (.int x2), .val (.int x3), .val (.int x4), .val (.int j2_s0), .val (.int j5_s0), .val (.int j8_s0), .val (.int j11_s0), .val (.ref b13), .val (.ref b15), .val (.ref b18), .val (.ref b23), .val (.ref b30), .val (.int (own_mt j2_s0 (j2_s0 + (1 : Int32)) j5_s0 j5_s0 j8_s0 j8_s0 j11_s0 j11_s0)), .val (.int (own_mt j2_s0 j2_s0 j5_s0 (j5_s0 + (1 : Int32)) j8_s0 j8_s0 j11_s0 j11_s0)), .val (.int (own_mt j2_s0 j2_s0 j5_s0 j5_s0 j8_s0 (j8_s0 + (1 : Int32)) j11_s0 j11_s0)), .val (.int (own_mt j2_s0 j2_s0 j5_s0 j5_s0 j8_s0 j8_s0 j11_s0 (j11_s0 + (1 : Int32)))), .unset] [(.int (own_mt j2_s0 j2_s0 j5_s0 j5_s0 j8_s0 j8_s0 j11_s0 (j11_s0 + (1 : Int32))))])) ?_ fun t k => XS.iload X59.here hx rfl (hb hby at_201) rfl  k
                by_cases h203_66 : (own_mt j2_s0 j2_s0 j5_s0 j5_s0 j8_s0 j8_s0 j11_s0 (j11_s0 + (1 : Int32))) = (0 : Int32)
                · skip
                  refine own_pre (B := T59.setTop (mkF m 210 #[.val (.int x0), .val (.int x1), .val (.int x2), .val (.int x3), .val (.int x4), .val (.int j2_s0), .val (.int j5_s0), .val (.int j8_s0), .val (.int j11_s0), .val (.ref b13), .val (.ref b15), .val (.ref b18), .val (.ref b23), .val (.ref b30), .val (.int (own_mt j2_s0 (j2_s0 + (1 : Int32)) j5_s0 j5_s0 j8_s0 j8_s0 j11_s0 j11_s0)), .val (.int (own_mt j2_s0 j2_s0 j5_s0 (j5_s0 + (1 : Int32)) j8_s0 j8_s0 j11_s0 j11_s0)), .val (.int (own_mt j2_s0 j2_s0 j5_s0 j5_s0 j8_s0 (j8_s0 + (1 : Int32)) j11_s0 j11_s0)), .val (.int (own_mt j2_s0 j2_s0 j5_s0 j5_s0 j8_s0 j8_s0 j11_s0 (j11_s0 + (1 : Int32)))), .unset] [])) ?_ fun t k => XS.ifYes X59.here hx rfl (pc0 := 203) (pc' := 210) rfl (hb hby at_203) rfl ((if0 _ _).trans (teq h203_66).1) (by decide) (by decide) k
                  refine own_pre (B := T59.setTop (mkF m 211 #[.val (.int x0), .val (.int x1), .val (.int x2), .val (.int x3), .val (.int x4), .val (.int j2_s0), .val (.int j5_s0), .val (.int j8_s0), .val (.int j11_s0), .val (.ref b13), .val (.ref b15), .val (.ref b18), .val (.ref b23), .val (.ref b30), .val (.int (own_mt j2_s0 (j2_s0 + (1 : Int32)) j5_s0 j5_s0 j8_s0 j8_s0 j11_s0 j11_s0)), .val (.int (own_mt j2_s0 j2_s0 j5_s0 (j5_s0 + (1 : Int32)) j8_s0 j8_s0 j11_s0 j11_s0)), .val (.int (own_mt j2_s0 j2_s0 j5_s0 j5_s0 j8_s0 (j8_s0 + (1 : Int32)) j11_s0 j11_s0)), .val (.int (own_mt j2_s0 j2_s0 j5_s0 j5_s0 j8_s0 j8_s0 j11_s0 (j11_s0 + (1 : Int32)))), .unset] [(.int (0 : Int32))])) ?_ fun t k => XS.iconst X59.here hx rfl (hb hby at_210) k
                  exact Jj61 T59 _ X59 N59 e59 ((0 : Int32)) ((((if_pos h188_60).trans (if_pos h193_64)).trans (if_pos h198_65)).trans (if_pos h203_66)).symm
                · skip
                  refine own_pre (B := T59.setTop (mkF m 206 #[.val (.int x0), .val (.int x1), .val (.int x2), .val (.int x3), .val (.int x4), .val (.int j2_s0), .val (.int j5_s0), .val (.int j8_s0), .val (.int j11_s0), .val (.ref b13), .val (.ref b15), .val (.ref b18), .val (.ref b23), .val (.ref b30), .val (.int (own_mt j2_s0 (j2_s0 + (1 : Int32)) j5_s0 j5_s0 j8_s0 j8_s0 j11_s0 j11_s0)), .val (.int (own_mt j2_s0 j2_s0 j5_s0 (j5_s0 + (1 : Int32)) j8_s0 j8_s0 j11_s0 j11_s0)), .val (.int (own_mt j2_s0 j2_s0 j5_s0 j5_s0 j8_s0 (j8_s0 + (1 : Int32)) j11_s0 j11_s0)), .val (.int (own_mt j2_s0 j2_s0 j5_s0 j5_s0 j8_s0 j8_s0 j11_s0 (j11_s0 + (1 : Int32)))), .unset] [])) ?_ fun t k => XS.ifNo X59.here hx rfl (hb hby at_203) rfl ((if0 _ _).trans (feq h203_66).1) k
                  refine own_pre (B := T59.setTop (mkF m 207 #[.val (.int x0), .val (.int x1), .val (.int x2), .val (.int x3), .val (.int x4), .val (.int j2_s0), .val (.int j5_s0), .val (.int j8_s0), .val (.int j11_s0), .val (.ref b13), .val (.ref b15), .val (.ref b18), .val (.ref b23), .val (.ref b30), .val (.int (own_mt j2_s0 (j2_s0 + (1 : Int32)) j5_s0 j5_s0 j8_s0 j8_s0 j11_s0 j11_s0)), .val (.int (own_mt j2_s0 j2_s0 j5_s0 (j5_s0 + (1 : Int32)) j8_s0 j8_s0 j11_s0 j11_s0)), .val (.int (own_mt j2_s0 j2_s0 j5_s0 j5_s0 j8_s0 (j8_s0 + (1 : Int32)) j11_s0 j11_s0)), .val (.int (own_mt j2_s0 j2_s0 j5_s0 j5_s0 j8_s0 j8_s0 j11_s0 (j11_s0 + (1 : Int32)))), .unset] [(.int (1 : Int32))])) ?_ fun t k => XS.iconst X59.here hx rfl (hb hby at_206) k
                  refine own_pre (B := T59.setTop (mkF m 211 #[.val (.int x0), .val (.int x1), .val (.int x2), .val (.int x3), .val (.int x4), .val (.int j2_s0), .val (.int j5_s0), .val (.int j8_s0), .val (.int j11_s0), .val (.ref b13), .val (.ref b15), .val (.ref b18), .val (.ref b23), .val (.ref b30), .val (.int (own_mt j2_s0 (j2_s0 + (1 : Int32)) j5_s0 j5_s0 j8_s0 j8_s0 j11_s0 j11_s0)), .val (.int (own_mt j2_s0 j2_s0 j5_s0 (j5_s0 + (1 : Int32)) j8_s0 j8_s0 j11_s0 j11_s0)), .val (.int (own_mt j2_s0 j2_s0 j5_s0 j5_s0 j8_s0 (j8_s0 + (1 : Int32)) j11_s0 j11_s0)), .val (.int (own_mt j2_s0 j2_s0 j5_s0 j5_s0 j8_s0 j8_s0 j11_s0 (j11_s0 + (1 : Int32)))), .unset] [(.int (1 : Int32))])) ?_ fun t k => XS.goto X59.here hx rfl (pc0 := 207) (pc' := 211) rfl (hb hby at_207) (by decide) (by decide) k
                  exact Jj61 T59 _ X59 N59 e59 ((1 : Int32)) ((((if_pos h188_60).trans (if_pos h193_64)).trans (if_pos h198_65)).trans (if_neg h203_66)).symm
              · skip
                refine own_pre (B := T59.setTop (mkF m 206 #[.val (.int x0), .val (.int x1), .val (.int x2), .val (.int x3), .val (.int x4), .val (.int j2_s0), .val (.int j5_s0), .val (.int j8_s0), .val (.int j11_s0), .val (.ref b13), .val (.ref b15), .val (.ref b18), .val (.ref b23), .val (.ref b30), .val (.int (own_mt j2_s0 (j2_s0 + (1 : Int32)) j5_s0 j5_s0 j8_s0 j8_s0 j11_s0 j11_s0)), .val (.int (own_mt j2_s0 j2_s0 j5_s0 (j5_s0 + (1 : Int32)) j8_s0 j8_s0 j11_s0 j11_s0)), .val (.int (own_mt j2_s0 j2_s0 j5_s0 j5_s0 j8_s0 (j8_s0 + (1 : Int32)) j11_s0 j11_s0)), .val (.int (own_mt j2_s0 j2_s0 j5_s0 j5_s0 j8_s0 j8_s0 j11_s0 (j11_s0 + (1 : Int32)))), .unset] [])) ?_ fun t k => XS.ifYes X59.here hx rfl (pc0 := 198) (pc' := 206) rfl (hb hby at_198) rfl ((if0 _ _).trans (feq h198_65).2) (by decide) (by decide) k
                refine own_pre (B := T59.setTop (mkF m 207 #[.val (.int x0), .val (.int x1), .val (.int x2), .val (.int x3), .val (.int x4), .val (.int j2_s0), .val (.int j5_s0), .val (.int j8_s0), .val (.int j11_s0), .val (.ref b13), .val (.ref b15), .val (.ref b18), .val (.ref b23), .val (.ref b30), .val (.int (own_mt j2_s0 (j2_s0 + (1 : Int32)) j5_s0 j5_s0 j8_s0 j8_s0 j11_s0 j11_s0)), .val (.int (own_mt j2_s0 j2_s0 j5_s0 (j5_s0 + (1 : Int32)) j8_s0 j8_s0 j11_s0 j11_s0)), .val (.int (own_mt j2_s0 j2_s0 j5_s0 j5_s0 j8_s0 (j8_s0 + (1 : Int32)) j11_s0 j11_s0)), .val (.int (own_mt j2_s0 j2_s0 j5_s0 j5_s0 j8_s0 j8_s0 j11_s0 (j11_s0 + (1 : Int32)))), .unset] [(.int (1 : Int32))])) ?_ fun t k => XS.iconst X59.here hx rfl (hb hby at_206) k
                refine own_pre (B := T59.setTop (mkF m 211 #[.val (.int x0), .val (.int x1), .val (.int x2), .val (.int x3), .val (.int x4), .val (.int j2_s0), .val (.int j5_s0), .val (.int j8_s0), .val (.int j11_s0), .val (.ref b13), .val (.ref b15), .val (.ref b18), .val (.ref b23), .val (.ref b30), .val (.int (own_mt j2_s0 (j2_s0 + (1 : Int32)) j5_s0 j5_s0 j8_s0 j8_s0 j11_s0 j11_s0)), .val (.int (own_mt j2_s0 j2_s0 j5_s0 (j5_s0 + (1 : Int32)) j8_s0 j8_s0 j11_s0 j11_s0)), .val (.int (own_mt j2_s0 j2_s0 j5_s0 j5_s0 j8_s0 (j8_s0 + (1 : Int32)) j11_s0 j11_s0)), .val (.int (own_mt j2_s0 j2_s0 j5_s0 j5_s0 j8_s0 j8_s0 j11_s0 (j11_s0 + (1 : Int32)))), .unset] [(.int (1 : Int32))])) ?_ fun t k => XS.goto X59.here hx rfl (pc0 := 207) (pc' := 211) rfl (hb hby at_207) (by decide) (by decide) k
                exact Jj61 T59 _ X59 N59 e59 ((1 : Int32)) (((if_pos h188_60).trans (if_pos h193_64)).trans (if_neg h198_65)).symm
            · skip
              refine own_pre (B := T59.setTop (mkF m 206 #[.val (.int x0), .val (.int x1), .val (.int x2), .val (.int x3), .val (.int x4), .val (.int j2_s0), .val (.int j5_s0), .val (.int j8_s0), .val (.int j11_s0), .val (.ref b13), .val (.ref b15), .val (.ref b18), .val (.ref b23), .val (.ref b30), .val (.int (own_mt j2_s0 (j2_s0 + (1 : Int32)) j5_s0 j5_s0 j8_s0 j8_s0 j11_s0 j11_s0)), .val (.int (own_mt j2_s0 j2_s0 j5_s0 (j5_s0 + (1 : Int32)) j8_s0 j8_s0 j11_s0 j11_s0)), .val (.int (own_mt j2_s0 j2_s0 j5_s0 j5_s0 j8_s0 (j8_s0 + (1 : Int32)) j11_s0 j11_s0)), .val (.int (own_mt j2_s0 j2_s0 j5_s0 j5_s0 j8_s0 j8_s0 j11_s0 (j11_s0 + (1 : Int32)))), .unset] [])) ?_ fun t k => XS.ifYes X59.here hx rfl (pc0 := 193) (pc' := 206) rfl (hb hby at_193) rfl ((if0 _ _).trans (feq h193_64).2) (by decide) (by decide) k
              refine own_pre (B := T59.setTop (mkF m 207 #[.val (.int x0), .val (.int x1), .val (.int x2), .val (.int x3), .val (.int x4), .val (.int j2_s0), .val (.int j5_s0), .val (.int j8_s0), .val (.int j11_s0), .val (.ref b13), .val (.ref b15), .val (.ref b18), .val (.ref b23), .val (.ref b30), .val (.int (own_mt j2_s0 (j2_s0 + (1 : Int32)) j5_s0 j5_s0 j8_s0 j8_s0 j11_s0 j11_s0)), .val (.int (own_mt j2_s0 j2_s0 j5_s0 (j5_s0 + (1 : Int32)) j8_s0 j8_s0 j11_s0 j11_s0)), .val (.int (own_mt j2_s0 j2_s0 j5_s0 j5_s0 j8_s0 (j8_s0 + (1 : Int32)) j11_s0 j11_s0)), .val (.int (own_mt j2_s0 j2_s0 j5_s0 j5_s0 j8_s0 j8_s0 j11_s0 (j11_s0 + (1 : Int32)))), .unset] [(.int (1 : Int32))])) ?_ fun t k => XS.iconst X59.here hx rfl (hb hby at_206) k
              refine own_pre (B := T59.setTop (mkF m 211 #[.val (.int x0), .val (.int x1), .val (.int x2), .val (.int x3), .val (.int x4), .val (.int j2_s0), .val (.int j5_s0), .val (.int j8_s0), .val (.int j11_s0), .val (.ref b13), .val (.ref b15), .val (.ref b18), .val (.ref b23), .val (.ref b30), .val (.int (own_mt j2_s0 (j2_s0 + (1 : Int32)) j5_s0 j5_s0 j8_s0 j8_s0 j11_s0 j11_s0)), .val (.int (own_mt j2_s0 j2_s0 j5_s0 (j5_s0 + (1 : Int32)) j8_s0 j8_s0 j11_s0 j11_s0)), .val (.int (own_mt j2_s0 j2_s0 j5_s0 j5_s0 j8_s0 (j8_s0 + (1 : Int32)) j11_s0 j11_s0)), .val (.int (own_mt j2_s0 j2_s0 j5_s0 j5_s0 j8_s0 j8_s0 j11_s0 (j11_s0 + (1 : Int32)))), .unset] [(.int (1 : Int32))])) ?_ fun t k => XS.goto X59.here hx rfl (pc0 := 207) (pc' := 211) rfl (hb hby at_207) (by decide) (by decide) k
              exact Jj61 T59 _ X59 N59 e59 ((1 : Int32)) ((if_pos h188_60).trans (if_neg h193_64)).symm
          · skip
            refine own_pre (B := T59.setTop (mkF m 206 #[.val (.int x0), .val (.int x1), .val (.int x2), .val (.int x3), .val (.int x4), .val (.int j2_s0), .val (.int j5_s0), .val (.int j8_s0), .val (.int j11_s0), .val (.ref b13), .val (.ref b15), .val (.ref b18), .val (.ref b23), .val (.ref b30), .val (.int (own_mt j2_s0 (j2_s0 + (1 : Int32)) j5_s0 j5_s0 j8_s0 j8_s0 j11_s0 j11_s0)), .val (.int (own_mt j2_s0 j2_s0 j5_s0 (j5_s0 + (1 : Int32)) j8_s0 j8_s0 j11_s0 j11_s0)), .val (.int (own_mt j2_s0 j2_s0 j5_s0 j5_s0 j8_s0 (j8_s0 + (1 : Int32)) j11_s0 j11_s0)), .val (.int (own_mt j2_s0 j2_s0 j5_s0 j5_s0 j8_s0 j8_s0 j11_s0 (j11_s0 + (1 : Int32)))), .unset] [])) ?_ fun t k => XS.ifYes X59.here hx rfl (pc0 := 188) (pc' := 206) rfl (hb hby at_188) rfl ((if0 _ _).trans (feq h188_60).2) (by decide) (by decide) k
            refine own_pre (B := T59.setTop (mkF m 207 #[.val (.int x0), .val (.int x1), .val (.int x2), .val (.int x3), .val (.int x4), .val (.int j2_s0), .val (.int j5_s0), .val (.int j8_s0), .val (.int j11_s0), .val (.ref b13), .val (.ref b15), .val (.ref b18), .val (.ref b23), .val (.ref b30), .val (.int (own_mt j2_s0 (j2_s0 + (1 : Int32)) j5_s0 j5_s0 j8_s0 j8_s0 j11_s0 j11_s0)), .val (.int (own_mt j2_s0 j2_s0 j5_s0 (j5_s0 + (1 : Int32)) j8_s0 j8_s0 j11_s0 j11_s0)), .val (.int (own_mt j2_s0 j2_s0 j5_s0 j5_s0 j8_s0 (j8_s0 + (1 : Int32)) j11_s0 j11_s0)), .val (.int (own_mt j2_s0 j2_s0 j5_s0 j5_s0 j8_s0 j8_s0 j11_s0 (j11_s0 + (1 : Int32)))), .unset] [(.int (1 : Int32))])) ?_ fun t k => XS.iconst X59.here hx rfl (hb hby at_206) k
            refine own_pre (B := T59.setTop (mkF m 211 #[.val (.int x0), .val (.int x1), .val (.int x2), .val (.int x3), .val (.int x4), .val (.int j2_s0), .val (.int j5_s0), .val (.int j8_s0), .val (.int j11_s0), .val (.ref b13), .val (.ref b15), .val (.ref b18), .val (.ref b23), .val (.ref b30), .val (.int (own_mt j2_s0 (j2_s0 + (1 : Int32)) j5_s0 j5_s0 j8_s0 j8_s0 j11_s0 j11_s0)), .val (.int (own_mt j2_s0 j2_s0 j5_s0 (j5_s0 + (1 : Int32)) j8_s0 j8_s0 j11_s0 j11_s0)), .val (.int (own_mt j2_s0 j2_s0 j5_s0 j5_s0 j8_s0 (j8_s0 + (1 : Int32)) j11_s0 j11_s0)), .val (.int (own_mt j2_s0 j2_s0 j5_s0 j5_s0 j8_s0 j8_s0 j11_s0 (j11_s0 + (1 : Int32)))), .unset] [(.int (1 : Int32))])) ?_ fun t k => XS.goto X59.here hx rfl (pc0 := 207) (pc' := 211) rfl (hb hby at_207) (by decide) (by decide) k
            exact Jj61 T59 _ X59 N59 e59 ((1 : Int32)) (if_neg h188_60).symm
        by_cases h47_10 : (x4 &&& (8 : Int32)) = (0 : Int32)
        · skip
          refine own_pre (B := T9.setTop (mkF m 54 #[.val (.int x0), .val (.int x1), .val (.int x2), .val (.int x3), .val (.int x4), .val (.int j2_s0), .val (.int j5_s0), .val (.int j8_s0), .unset, .unset, .unset, .unset, .unset, .unset, .unset, .unset, .unset, .unset, .unset] [])) ?_ fun t k => XS.ifYes X9.here hx rfl (pc0 := 47) (pc' := 54) rfl (hb hby at_47) rfl ((if0 _ _).trans (teq h47_10).1) (by decide) (by decide) k
          refine own_pre (B := T9.setTop (mkF m 55 #[.val (.int x0), .val (.int x1), .val (.int x2), .val (.int x3), .val (.int x4), .val (.int j2_s0), .val (.int j5_s0), .val (.int j8_s0), .unset, .unset, .unset, .unset, .unset, .unset, .unset, .unset, .unset, .unset, .unset] [(.int x3)])) ?_ fun t k => XS.iloadN X9.here hx rfl (hb hby at_54) rfl  k
          exact Jj11 T9 _ X9 N9 e9 (x3) (if_pos h47_10).symm
        · skip
          refine own_pre (B := T9.setTop (mkF m 50 #[.val (.int x0), .val (.int x1), .val (.int x2), .val (.int x3), .val (.int x4), .val (.int j2_s0), .val (.int j5_s0), .val (.int j8_s0), .unset, .unset, .unset, .unset, .unset, .unset, .unset, .unset, .unset, .unset, .unset] [])) ?_ fun t k => XS.ifNo X9.here hx rfl (hb hby at_47) rfl ((if0 _ _).trans (feq h47_10).1) k
          refine own_pre (B := T9.setTop (mkF m 51 #[.val (.int x0), .val (.int x1), .val (.int x2), .val (.int x3), .val (.int x4), .val (.int j2_s0), .val (.int j5_s0), .val (.int j8_s0), .unset, .unset, .unset, .unset, .unset, .unset, .unset, .unset, .unset, .unset, .unset] [(.int (0 : Int32))])) ?_ fun t k => XS.iconst X9.here hx rfl (hb hby at_50) k
          refine own_pre (B := T9.setTop (mkF m 55 #[.val (.int x0), .val (.int x1), .val (.int x2), .val (.int x3), .val (.int x4), .val (.int j2_s0), .val (.int j5_s0), .val (.int j8_s0), .unset, .unset, .unset, .unset, .unset, .unset, .unset, .unset, .unset, .unset, .unset] [(.int (0 : Int32))])) ?_ fun t k => XS.goto X9.here hx rfl (pc0 := 51) (pc' := 55) rfl (hb hby at_51) (by decide) (by decide) k
          exact Jj11 T9 _ X9 N9 e9 ((0 : Int32)) (if_neg h47_10).symm
      by_cases h32_7 : (x4 &&& (4 : Int32)) = (0 : Int32)
      · skip
        refine own_pre (B := T6.setTop (mkF m 39 #[.val (.int x0), .val (.int x1), .val (.int x2), .val (.int x3), .val (.int x4), .val (.int j2_s0), .val (.int j5_s0), .unset, .unset, .unset, .unset, .unset, .unset, .unset, .unset, .unset, .unset, .unset, .unset] [])) ?_ fun t k => XS.ifYes X6.here hx rfl (pc0 := 32) (pc' := 39) rfl (hb hby at_32) rfl ((if0 _ _).trans (teq h32_7).1) (by decide) (by decide) k
        refine own_pre (B := T6.setTop (mkF m 40 #[.val (.int x0), .val (.int x1), .val (.int x2), .val (.int x3), .val (.int x4), .val (.int j2_s0), .val (.int j5_s0), .unset, .unset, .unset, .unset, .unset, .unset, .unset, .unset, .unset, .unset, .unset, .unset] [(.int x2)])) ?_ fun t k => XS.iloadN X6.here hx rfl (hb hby at_39) rfl  k
        exact Jj8 T6 _ X6 N6 e6 (x2) (if_pos h32_7).symm
      · skip
        refine own_pre (B := T6.setTop (mkF m 35 #[.val (.int x0), .val (.int x1), .val (.int x2), .val (.int x3), .val (.int x4), .val (.int j2_s0), .val (.int j5_s0), .unset, .unset, .unset, .unset, .unset, .unset, .unset, .unset, .unset, .unset, .unset, .unset] [])) ?_ fun t k => XS.ifNo X6.here hx rfl (hb hby at_32) rfl ((if0 _ _).trans (feq h32_7).1) k
        refine own_pre (B := T6.setTop (mkF m 36 #[.val (.int x0), .val (.int x1), .val (.int x2), .val (.int x3), .val (.int x4), .val (.int j2_s0), .val (.int j5_s0), .unset, .unset, .unset, .unset, .unset, .unset, .unset, .unset, .unset, .unset, .unset, .unset] [(.int (0 : Int32))])) ?_ fun t k => XS.iconst X6.here hx rfl (hb hby at_35) k
        refine own_pre (B := T6.setTop (mkF m 40 #[.val (.int x0), .val (.int x1), .val (.int x2), .val (.int x3), .val (.int x4), .val (.int j2_s0), .val (.int j5_s0), .unset, .unset, .unset, .unset, .unset, .unset, .unset, .unset, .unset, .unset, .unset, .unset] [(.int (0 : Int32))])) ?_ fun t k => XS.goto X6.here hx rfl (pc0 := 36) (pc' := 40) rfl (hb hby at_36) (by decide) (by decide) k
        exact Jj8 T6 _ X6 N6 e6 ((0 : Int32)) (if_neg h32_7).symm
    by_cases h18_4 : (x4 &&& (2 : Int32)) = (0 : Int32)
    · skip
      refine own_pre (B := T3.setTop (mkF m 25 #[.val (.int x0), .val (.int x1), .val (.int x2), .val (.int x3), .val (.int x4), .val (.int j2_s0), .unset, .unset, .unset, .unset, .unset, .unset, .unset, .unset, .unset, .unset, .unset, .unset, .unset] [])) ?_ fun t k => XS.ifYes X3.here hx rfl (pc0 := 18) (pc' := 25) rfl (hb hby at_18) rfl ((if0 _ _).trans (teq h18_4).1) (by decide) (by decide) k
      refine own_pre (B := T3.setTop (mkF m 26 #[.val (.int x0), .val (.int x1), .val (.int x2), .val (.int x3), .val (.int x4), .val (.int j2_s0), .unset, .unset, .unset, .unset, .unset, .unset, .unset, .unset, .unset, .unset, .unset, .unset, .unset] [(.int x1)])) ?_ fun t k => XS.iloadN X3.here hx rfl (hb hby at_25) rfl  k
      exact Jj5 T3 _ X3 N3 e3 (x1) (if_pos h18_4).symm
    · skip
      refine own_pre (B := T3.setTop (mkF m 21 #[.val (.int x0), .val (.int x1), .val (.int x2), .val (.int x3), .val (.int x4), .val (.int j2_s0), .unset, .unset, .unset, .unset, .unset, .unset, .unset, .unset, .unset, .unset, .unset, .unset, .unset] [])) ?_ fun t k => XS.ifNo X3.here hx rfl (hb hby at_18) rfl ((if0 _ _).trans (feq h18_4).1) k
      refine own_pre (B := T3.setTop (mkF m 22 #[.val (.int x0), .val (.int x1), .val (.int x2), .val (.int x3), .val (.int x4), .val (.int j2_s0), .unset, .unset, .unset, .unset, .unset, .unset, .unset, .unset, .unset, .unset, .unset, .unset, .unset] [(.int (0 : Int32))])) ?_ fun t k => XS.iconst X3.here hx rfl (hb hby at_21) k
      refine own_pre (B := T3.setTop (mkF m 26 #[.val (.int x0), .val (.int x1), .val (.int x2), .val (.int x3), .val (.int x4), .val (.int j2_s0), .unset, .unset, .unset, .unset, .unset, .unset, .unset, .unset, .unset, .unset, .unset, .unset, .unset] [(.int (0 : Int32))])) ?_ fun t k => XS.goto X3.here hx rfl (pc0 := 22) (pc' := 26) rfl (hb hby at_22) (by decide) (by decide) k
      exact Jj5 T3 _ X3 N3 e3 ((0 : Int32)) (if_neg h18_4).symm
  by_cases h4_1 : (x4 &&& (1 : Int32)) = (0 : Int32)
  · skip
    refine own_pre (B := s₁.setTop (mkF m 11 #[.val (.int x0), .val (.int x1), .val (.int x2), .val (.int x3), .val (.int x4), .unset, .unset, .unset, .unset, .unset, .unset, .unset, .unset, .unset, .unset, .unset, .unset, .unset, .unset] [])) ?_ fun t k => XS.ifYes X0.here hx rfl (pc0 := 4) (pc' := 11) rfl (hb hby at_4) rfl ((if0 _ _).trans (teq h4_1).1) (by decide) (by decide) k
    refine own_pre (B := s₁.setTop (mkF m 12 #[.val (.int x0), .val (.int x1), .val (.int x2), .val (.int x3), .val (.int x4), .unset, .unset, .unset, .unset, .unset, .unset, .unset, .unset, .unset, .unset, .unset, .unset, .unset, .unset] [(.int x0)])) ?_ fun t k => XS.iloadN X0.here hx rfl (hb hby at_11) rfl  k
    exact Jj2 s₁ _ X0 N0 e0 (x0) (if_pos h4_1).symm
  · skip
    refine own_pre (B := s₁.setTop (mkF m 7 #[.val (.int x0), .val (.int x1), .val (.int x2), .val (.int x3), .val (.int x4), .unset, .unset, .unset, .unset, .unset, .unset, .unset, .unset, .unset, .unset, .unset, .unset, .unset, .unset] [])) ?_ fun t k => XS.ifNo X0.here hx rfl (hb hby at_4) rfl ((if0 _ _).trans (feq h4_1).1) k
    refine own_pre (B := s₁.setTop (mkF m 8 #[.val (.int x0), .val (.int x1), .val (.int x2), .val (.int x3), .val (.int x4), .unset, .unset, .unset, .unset, .unset, .unset, .unset, .unset, .unset, .unset, .unset, .unset, .unset, .unset] [(.int (0 : Int32))])) ?_ fun t k => XS.iconst X0.here hx rfl (hb hby at_7) k
    refine own_pre (B := s₁.setTop (mkF m 12 #[.val (.int x0), .val (.int x1), .val (.int x2), .val (.int x3), .val (.int x4), .unset, .unset, .unset, .unset, .unset, .unset, .unset, .unset, .unset, .unset, .unset, .unset, .unset, .unset] [(.int (0 : Int32))])) ?_ fun t k => XS.goto X0.here hx rfl (pc0 := 8) (pc' := 12) rfl (hb hby at_8) (by decide) (by decide) k
    exact Jj2 s₁ _ X0 N0 e0 ((0 : Int32)) (if_neg h4_1).symm
set_option maxRecDepth 65536 in
set_option maxHeartbeats 40000000 in
theorem comes_1 {Post : Tables → Env → Array Value → State → Outcome → State → Prop} (hpost : ∀ tb e args s v u, (limb_1_1.after args s (.returned v) u = true ∧ limb_1_2.after args s (.returned v) u = true ∧ True) → FrameEnd s (.returned v) u (Jvm.fieldLocs frame_1_writes args s ++ Jvm.arrayLocs frame_1_arrays args s ++ Jvm.staticLocs frame_1_statics s) 24 128 → Post tb e args s (.returned v) u) :
    ArmFor flags0 classFile x code maxLocals ret World_1 tables_1 room_1 Calls_1 rest_1 Pre_1 Post := by
  intro l hfl _ _ p e ha hc hk s m args below hf hA hF happ hP
  obtain ⟨hcalls, hrest, hpre⟩ := hP
  obtain ⟨-, -, -, hnamed, -, -, -, hat⟩ := (Spec.applies_iff hf).mp happ
  obtain ⟨hg, hn⟩ := and_e (Cond.before_iff.mp (show (Jvm.Cond.and given_1 narrow_1).before args s = true from hpre))
  obtain ⟨g1, g2⟩ := and_e hg
  obtain ⟨g3, g4⟩ := and_e g2
  obtain ⟨g5, g6⟩ := and_e g4
  obtain ⟨g7, g8⟩ := and_e g6
  obtain ⟨g9, g10⟩ := and_e g8
  obtain ⟨w0, w1, w2, w3, w4, rfl⟩ : ∃ w0 w1 w2 w3 w4 : Value, args = #[w0, w1, w2, w3, w4] := by
    have hs : args.size = 5 := by simpa [Cond.value, given_1] using g1
    obtain ⟨L⟩ := args
    match L, hs with
    | [w0, w1, w2, w3, w4], _ => exact ⟨w0, w1, w2, w3, w4, rfl⟩
  have hw := fun d (hd : d ∈ tables_1) => atoms_spec (ws := Jvm.Cond.code x code maxLocals ret :: tables_1) hat d (List.mem_cons_of_mem _ hd)
  have hfit : Fit s := fun {y c} hc i hi => by
    obtain ⟨ha, rfl⟩ := Array.getElem?_eq_some_iff.mp hc
    have q := List.all_eq_true.mp ((Array.all_eq_true_iff_forall_mem.mp hF) _ (Array.getElem_mem ha)) i (List.mem_range.mpr hi)
    simpa [Array.getElem?_eq_getElem hi] using q
  obtain ⟨i0, ei0⟩ := is_v g3
  obtain rfl : w0 = (.int i0) := Option.some.inj ei0
  obtain ⟨i1, ei1⟩ := is_v g5
  obtain rfl : w1 = (.int i1) := Option.some.inj ei1
  obtain ⟨i2, ei2⟩ := is_v g7
  obtain rfl : w2 = (.int i2) := Option.some.inj ei2
  obtain ⟨i3, ei3⟩ := is_v g9
  obtain rfl : w3 = (.int i3) := Option.some.inj ei3
  obtain ⟨i4, ei4⟩ := is_v g10
  obtain rfl : w4 = (.int i4) := Option.some.inj ei4
  obtain ⟨n, o, h1, h2, h3, _, L, rfl, ⟨rfl, N⟩, hq⟩ := rm0 l s _ hw tables_1 i0 i1 i2 i3 i4  s.heap s.heap.size (Nat.le_refl _)  p e ha hc hk s m _ below hf ((Spec.applies_iff_loose hf).mp happ).1 ⟨rfl, State.Warmed39.refl s, rfl⟩ trivial
  refine ⟨n, _, h1, h2, h3, hpost _ _ _ _ _ _ ⟨Cond.after_iff.mpr rfl, Cond.after_iff.mpr (eq_i res_at (Term.int_eval (1)) rfl), trivial⟩ ⟨hq.1, hq.2.1, (hq.2.2.sift fun y hy => Or.inr (N y hy)).mono (by decide) (by decide)⟩⟩
theorem main_1_1 : Claimed_1_1 := comes_1 fun _ _ _ _ _ _ h hF => ⟨h.1, hF⟩
theorem main_1_2 : Claimed_1_2 := comes_1 fun _ _ _ _ _ _ h hF => ⟨h.2.1, hF⟩
end Jvm.Pilot.@@N@@
namespace Jvm.Pilot.@@N@@
open Jvm Jvm.ClassFile Sem Op Lib Jvm.Free Jvm.Stand Jvm.Pilot.@@N@@.Jvm.D
/-! MADE BY PROGRAM (witnessworld.py) out of the Statement's table words and the real class files: 10 classes; the members and pool entries that the words name. The judged class is class 1, her method 1. -/
namespace start1
open Jvm.ClassFile
def u (s : String) : CpInfo := .utf8 (stringToUtf16 s)
/-- a pool by its gaps: so many unusable entries, then the entry; so many at the end -/
def gap : Nat → List CpInfo → List CpInfo
  | 0, r => r
  | n + 1, r => .unusable :: gap n r
def poolList (es : List (Nat × CpInfo)) (last : Nat) : List CpInfo := es.foldr (fun e r => gap e.1 (e.2 :: r)) (gap last [])
def pool (es : List (Nat × CpInfo)) (last : Nat) : Array CpInfo := ⟨poolList es last⟩
def fileOf (pool : Array CpInfo) (this : Nat) (attrs : Array Attribute := #[]) (ms : Array MethodInfo := #[]) (fl : Nat := 33) (sup : Nat := 0) (ifs : Array Nat := #[]) (fds : Array FieldInfo := #[]) : ClassFile where
  minorVersion := 0
  majorVersion := 65
  constantPool := pool
  accessFlags := fl
  thisClass := this
  superClass := sup
  interfaces := ifs
  fields := fds
  methods := ms
  attributes := attrs
def plain (name : String) (sup : Option ClassId) : Class where
  name := name
  kind := .ordinary
  loader := none
  accessFlags := 33
  super := sup
  interfaces := #[]
  cf := none
  fields := #[]
  methods := #[]
  instanceTypes := #[]
  staticTypes := #[]
  resolved := #[]
  callSites := []
  init := .initialized
  statics := none
  mirror := none

def pool0 : Array CpInfo := pool [(5, u "<init>"), (0, u "()V"), (1, .class_ 10), (1, u "java/lang/Object")] 113

def k0c0 : Code := { maxStack := 0, maxLocals := 1, code := object_method_1_code, exceptionTable := #[], attributes := #[] }
def k0m0 : Method := { name := "<init>", desc := "()V", sig := { parameters := [], returnType := none }, accessFlags := 1, code := some k0c0 }
/-- java/lang/Object -/
def k0 : Class := { plain "java/lang/Object" none with
  accessFlags := 33
  interfaces := #[]
  cf := some (fileOf pool0 8 #[] #[{ accessFlags := 1, nameIndex := 5, descriptorIndex := 6, attributes := #[] }] 33 0 #[] #[])
  fields := #[]
  methods := #[k0m0]
  instanceTypes := #[]
  staticTypes := #[]
  resolved := Array.replicate 124 none
  statics := none }

def pool1 : Array CpInfo := pool [(2, .class_ 4), (1, u "java/lang/Object"), (0, u "<init>"), (0, u "()V"), (0, .class_ 8), (0, u "com/example/halyard/halyard/com/ObjectType"), (0, .methodref 7 10), (0, .nameAndType 5 11), (0, u "(IIII)V"), (0, .methodref 7 13), (0, .nameAndType 14 15), (0, u "matches"), (0, u "(Lcom/example/halyard/halyard/com/ObjectType;)Z"), (0, .methodref 7 17), (0, .nameAndType 18 19), (0, u "hasWildcard"), (0, u "()Z"), (0, .class_ 21), (0, u "com/example/halyard/halyard/com/ObjectTypeHasWildcardPinLaw"), (2, u "law"), (0, u "(IIIII)Z")] 3

def k1m0 : Method := { name := "<init>", desc := "()V", sig := { parameters := [], returnType := none }, accessFlags := 2, code := none }
def k1c1 : Code := { maxStack := 7, maxLocals := 19, code := code, exceptionTable := #[], attributes := #[] }
def k1m1 : Method := { name := "law", desc := "(IIIII)Z", sig := { parameters := [.int, .int, .int, .int, .int], returnType := some .boolean }, accessFlags := 9, code := some k1c1 }
/-- com/example/halyard/halyard/com/ObjectTypeHasWildcardPinLaw -/
def k1 : Class := { plain "com/example/halyard/halyard/com/ObjectTypeHasWildcardPinLaw" (some 0) with
  accessFlags := 49
  interfaces := #[]
  cf := some (fileOf pool1 20 #[] #[{ accessFlags := 2, nameIndex := 5, descriptorIndex := 6, attributes := #[] }, { accessFlags := 9, nameIndex := 24, descriptorIndex := 25, attributes := #[] }] 49 2 #[] #[])
  fields := #[]
  methods := #[k1m0, k1m1]
  instanceTypes := #[]
  staticTypes := #[]
  resolved := Array.replicate 29 none
  statics := none }

def pool2 : Array CpInfo := pool [(1, .methodref 2 3), (0, .class_ 4), (0, .nameAndType 5 6), (0, u "java/lang/Object"), (0, u "<init>"), (0, u "()V"), (0, .class_ 8), (0, u "java/lang/Record")] 13

def k2c0 : Code := { maxStack := 1, maxLocals := 1, code := jdk_30_method_1_code, exceptionTable := #[], attributes := #[] }
def k2m0 : Method := { name := "<init>", desc := "()V", sig := { parameters := [], returnType := none }, accessFlags := 4, code := some k2c0 }
/-- java/lang/Record -/
def k2 : Class := { plain "java/lang/Record" (some 0) with
  accessFlags := 1057
  interfaces := #[]
  cf := some (fileOf pool2 7 #[] #[{ accessFlags := 4, nameIndex := 5, descriptorIndex := 6, attributes := #[] }] 1057 2 #[] #[])
  fields := #[]
  methods := #[k2m0]
  instanceTypes := #[]
  staticTypes := #[]
  resolved := Array.replicate 22 none
  statics := none }

def pool3 : Array CpInfo := pool [(1, .methodref 2 3), (0, .class_ 4), (0, .nameAndType 5 6), (0, u "java/lang/Record"), (0, u "<init>"), (0, u "()V"), (0, .fieldref 8 9), (0, .class_ 10), (0, .nameAndType 11 12), (0, u "com/example/halyard/halyard/com/ObjectType"), (0, u "area"), (0, u "I"), (0, .fieldref 8 14), (0, .nameAndType 15 12), (0, u "service"), (0, .fieldref 8 17), (0, .nameAndType 18 12), (0, u "version"), (0, .fieldref 8 20), (0, .nameAndType 21 12), (0, u "number"), (31, u "(IIII)V"), (2, u "TYPE"), (0, u "Lcom/example/halyard/halyard/mal/TypeName;"), (63, u "SHORT_FORM_PART"), (5, u "hasWildcard"), (0, u "()Z"), (1, u "matches"), (0, u "(Lcom/example/halyard/halyard/com/ObjectType;)Z")] 42

def k3c0 : Code := { maxStack := 2, maxLocals := 5, code := prog_27_method_1_code, exceptionTable := #[], attributes := #[] }
def k3m0 : Method := { name := "<init>", desc := "(IIII)V", sig := { parameters := [.int, .int, .int, .int], returnType := none }, accessFlags := 1, code := some k3c0 }
def k3c1 : Code := { maxStack := 1, maxLocals := 1, code := prog_27_method_2_code, exceptionTable := #[], attributes := #[] }
def k3m1 : Method := { name := "hasWildcard", desc := "()Z", sig := { parameters := [], returnType := some .boolean }, accessFlags := 1, code := some k3c1 }
def k3c2 : Code := { maxStack := 2, maxLocals := 2, code := prog_27_method_3_code, exceptionTable := #[], attributes := #[] }
def k3m2 : Method := { name := "matches", desc := "(Lcom/example/halyard/halyard/com/ObjectType;)Z", sig := { parameters := [(.object "com/example/halyard/halyard/com/ObjectType")], returnType := some .boolean }, accessFlags := 1, code := some k3c2 }
/-- com/example/halyard/halyard/com/ObjectType -/
def k3 : Class := { plain "com/example/halyard/halyard/com/ObjectType" (some 2) with
  accessFlags := 49
  interfaces := #[]
  cf := some (fileOf pool3 8 #[] #[{ accessFlags := 1, nameIndex := 5, descriptorIndex := 53, attributes := #[] }, { accessFlags := 1, nameIndex := 127, descriptorIndex := 128, attributes := #[] }, { accessFlags := 1, nameIndex := 130, descriptorIndex := 131, attributes := #[] }] 49 2 #[] #[{ accessFlags := 18, nameIndex := 11, descriptorIndex := 12, attributes := #[] }, { accessFlags := 18, nameIndex := 15, descriptorIndex := 12, attributes := #[] }, { accessFlags := 18, nameIndex := 18, descriptorIndex := 12, attributes := #[] }, { accessFlags := 18, nameIndex := 21, descriptorIndex := 12, attributes := #[] }, { accessFlags := 24, nameIndex := 56, descriptorIndex := 57, attributes := #[] }, { accessFlags := 26, nameIndex := 121, descriptorIndex := 12, attributes := #[] }])
  fields := #[{ name := "area", type := .int, accessFlags := 18, slot := 0, constantValue := 0 }, { name := "service", type := .int, accessFlags := 18, slot := 1, constantValue := 0 }, { name := "version", type := .int, accessFlags := 18, slot := 2, constantValue := 0 }, { name := "number", type := .int, accessFlags := 18, slot := 3, constantValue := 0 }, { name := "TYPE", type := (.object "com/example/halyard/halyard/mal/TypeName"), accessFlags := 24, slot := 0, constantValue := 0 }, { name := "SHORT_FORM_PART", type := .int, accessFlags := 26, slot := 1, constantValue := 0 }]
  methods := #[k3m0, k3m1, k3m2]
  instanceTypes := #[.int, .int, .int, .int]
  staticTypes := #[(.object "com/example/halyard/halyard/mal/TypeName"), .int]
  resolved := Array.replicate 174 none
  statics := none }

def pool4 : Array CpInfo := pool [(1, u "java/lang/Cloneable"), (0, .class_ 1), (0, u "java/lang/Object"), (0, .class_ 3)] 3

/-- java/lang/Cloneable -/
def k4 : Class := { plain "java/lang/Cloneable" (some 0) with
  accessFlags := 1537
  interfaces := #[]
  cf := some (fileOf pool4 2 #[] #[] 1537 4 #[] #[])
  fields := #[]
  methods := #[]
  instanceTypes := #[]
  staticTypes := #[]
  resolved := Array.replicate 8 none
  statics := none }

def pool5 : Array CpInfo := pool [(1, u "java/io/Serializable"), (0, .class_ 1), (0, u "java/lang/Object"), (0, .class_ 3)] 3

/-- java/io/Serializable -/
def k5 : Class := { plain "java/io/Serializable" (some 0) with
  accessFlags := 1537
  interfaces := #[]
  cf := some (fileOf pool5 2 #[] #[] 1537 4 #[] #[])
  fields := #[]
  methods := #[]
  instanceTypes := #[]
  staticTypes := #[]
  resolved := Array.replicate 8 none
  statics := none }

/-- the primitive byte -/
def k6 : Class := { plain "byte" none with kind := .primitive 'B', accessFlags := 0x411 }
/-- [B -/
def k7 : Class := { plain "[B" (some 0) with kind := .array 6 .byte, interfaces := #[4, 5], accessFlags := 1041 }

/-- the primitive int -/
def k8 : Class := { plain "int" none with kind := .primitive 'I', accessFlags := 0x411 }
/-- [I -/
def k9 : Class := { plain "[I" (some 0) with kind := .array 8 .int, interfaces := #[4, 5], accessFlags := 1041 }

def heap : Heap := #[]
def classes : Array Class := #[k0, k1, k2, k3, k4, k5, k6, k7, k8, k9]
def interned : List (Array UInt16 × Addr) := []
def slotsUsed : Nat := 0
def theMethod : MethodId := ⟨1, 1⟩
def args0 : Array Value := #[.int 1, .int 2, .int 3, .int 4, .int 5]
def aboutOver (below : List Frame) : State where
  vm := { classes := classes, interned := interned.toArray }
  heap := heap
  slotsUsed := slotsUsed
  threads := #[{ frames := .invoking theMethod args0 :: below }]
def below0 : List Frame := [.native { method := ⟨0, 0⟩, args := #[] }]
def about1 : State := aboutOver below0
def p0 : Program := .bare "" "" ""
def e0 : Env := launch0.env 0 0 0
theorem w_frames : about1.frames = Frame.invoking theMethod args0 :: below0 := rfl
set_option maxRecDepth 65536 in
theorem w_args : argsFit about1.vm theMethod args0 = true := by decide +kernel
set_option maxRecDepth 65536 in
theorem w_heap : heapFits about1 = true := by decide +kernel
set_option maxRecDepth 65536 in
theorem w_runnable : about1.curStatus? = some .runnable := by decide +kernel
set_option maxRecDepth 65536 in
theorem w_alone : about1.alone = true := by decide +kernel
set_option maxRecDepth 65536 in
theorem w_named : about1.methodNamed? x = some theMethod := by decide +kernel
set_option maxRecDepth 65536 in
theorem w_hears : about1.hears theMethod below0 = true := by decide +kernel
set_option maxRecDepth 65536 in
theorem w_ripe : about1.ripe theMethod args0 below0 = true := by decide +kernel
theorem w_running : about1.status = .running := rfl
set_option maxRecDepth 65536 in
theorem w_room : about1.hasRoom e0.platform room_1 = true :=
  launch0.hasRoom_least _ room_1 (by decide +kernel) (by decide +kernel) (by decide +kernel) (by decide +kernel) (by decide +kernel) (by decide +kernel)
theorem allAtoms_all (ts : List Jvm.Cond) (a : Array Jvm.Value) (st : Jvm.State) : (allAtoms ts).before a st = ts.all (fun c => c.before a st) := by
  induction ts with
  | nil => rfl
  | cons c t ih =>
    show (Jvm.Cond.and c (allAtoms t)).before a st = _
    rw [Jvm.Cond.before_and, ih, List.all_cons]
def words1 : List Jvm.Cond := Jvm.Cond.code x code maxLocals ret :: tables_1
/-- a 'code' word, met by the world's own term for the bytes: nothing is compared byte by byte -/
theorem code_word {y : MethodName} {bytes : ByteArray} {mx : Nat} {rt : Option FieldType} {a : Array Value} {s : State} {m : MethodId} {meth : Method} {c : Code} (h1 : s.methodNamed? y = some m) (h2 : s.vm.method? m = some meth) (h3 : meth.code = some c) (h4 : c.code = bytes)
    (h5 : (c.maxLocals == mx && c.exceptionTable.isEmpty && decide (c.maxStack ≤ mostOperands) && decide (meth.sig.returnType = rt) && !meth.locks && decide (parseMethodDescriptor y.desc = some meth.sig)) = true) : (Jvm.Cond.code y bytes mx rt).before a s = true := by
  simp only [Bool.and_eq_true, beq_iff_eq, Bool.not_eq_true', decide_eq_true_eq] at h5
  obtain ⟨⟨⟨⟨⟨g1, g2⟩, g3⟩, g4⟩, g5⟩, g6⟩ := h5
  simp [Cond.before, Cond.holds, Cond.value, h1, h2, h3, h4, g1, g2, g3, g4, g5, g6]
def isCode : Jvm.Cond → Bool
  | .code _ _ _ _ => true
  | _ => false
theorem all_split {L : List Jvm.Cond} {P : Jvm.Cond → Bool} (h1 : L.all (fun c => isCode c || P c) = true) (h2 : ∀ c ∈ L.filter isCode, P c = true) : L.all P = true := by
  refine List.all_eq_true.mpr fun c hc => ?_
  have h := List.all_eq_true.mp h1 c hc
  rcases Bool.eq_false_or_eq_true (isCode c) with hi | hi
  · exact h2 c (List.mem_filter.mpr ⟨hc, hi⟩)
  · simpa [hi] using h
set_option maxRecDepth 65536 in
theorem w_c0 : (Jvm.Cond.code x code maxLocals ret).before args0 about1 = true := code_word (m := ⟨1, 1⟩) (meth := k1m1) (c := k1c1) (by decide +kernel) rfl rfl rfl (by decide +kernel)
set_option maxRecDepth 65536 in
theorem w_c1 : (Jvm.Cond.code ({ cls := "com/example/halyard/halyard/com/ObjectType", name := "<init>", desc := "(IIII)V" } : Jvm.MethodName) prog_27_method_1_code (5 : Nat) (Option.none : Option Jvm.ClassFile.FieldType)).before args0 about1 = true := code_word (m := ⟨3, 0⟩) (meth := k3m0) (c := k3c0) (by decide +kernel) rfl rfl rfl (by decide +kernel)
set_option maxRecDepth 65536 in
theorem w_c2 : (Jvm.Cond.code ({ cls := "java/lang/Record", name := "<init>", desc := "()V" } : Jvm.MethodName) jdk_30_method_1_code (1 : Nat) (Option.none : Option Jvm.ClassFile.FieldType)).before args0 about1 = true := code_word (m := ⟨2, 0⟩) (meth := k2m0) (c := k2c0) (by decide +kernel) rfl rfl rfl (by decide +kernel)
set_option maxRecDepth 65536 in
theorem w_c3 : (Jvm.Cond.code ({ cls := "java/lang/Object", name := "<init>", desc := "()V" } : Jvm.MethodName) object_method_1_code (1 : Nat) (Option.none : Option Jvm.ClassFile.FieldType)).before args0 about1 = true := code_word (m := ⟨0, 0⟩) (meth := k0m0) (c := k0c0) (by decide +kernel) rfl rfl rfl (by decide +kernel)
set_option maxRecDepth 65536 in
theorem w_c4 : (Jvm.Cond.code ({ cls := "com/example/halyard/halyard/com/ObjectType", name := "matches", desc := "(Lcom/example/halyard/halyard/com/ObjectType;)Z" } : Jvm.MethodName) prog_27_method_3_code (2 : Nat) (Option.some Jvm.ClassFile.FieldType.boolean)).before args0 about1 = true := code_word (m := ⟨3, 2⟩) (meth := k3m2) (c := k3c2) (by decide +kernel) rfl rfl rfl (by decide +kernel)
set_option maxRecDepth 65536 in
theorem w_c5 : (Jvm.Cond.code ({ cls := "com/example/halyard/halyard/com/ObjectType", name := "hasWildcard", desc := "()Z" } : Jvm.MethodName) prog_27_method_2_code (1 : Nat) (Option.some Jvm.ClassFile.FieldType.boolean)).before args0 about1 = true := code_word (m := ⟨3, 1⟩) (meth := k3m1) (c := k3c1) (by decide +kernel) rfl rfl rfl (by decide +kernel)
def codes1 : List Jvm.Cond := [Jvm.Cond.code x code maxLocals ret, Jvm.Cond.code ({ cls := "com/example/halyard/halyard/com/ObjectType", name := "<init>", desc := "(IIII)V" } : Jvm.MethodName) prog_27_method_1_code (5 : Nat) (Option.none : Option Jvm.ClassFile.FieldType), Jvm.Cond.code ({ cls := "java/lang/Record", name := "<init>", desc := "()V" } : Jvm.MethodName) jdk_30_method_1_code (1 : Nat) (Option.none : Option Jvm.ClassFile.FieldType), Jvm.Cond.code ({ cls := "java/lang/Object", name := "<init>", desc := "()V" } : Jvm.MethodName) object_method_1_code (1 : Nat) (Option.none : Option Jvm.ClassFile.FieldType), Jvm.Cond.code ({ cls := "com/example/halyard/halyard/com/ObjectType", name := "matches", desc := "(Lcom/example/halyard/halyard/com/ObjectType;)Z" } : Jvm.MethodName) prog_27_method_3_code (2 : Nat) (Option.some Jvm.ClassFile.FieldType.boolean), Jvm.Cond.code ({ cls := "com/example/halyard/halyard/com/ObjectType", name := "hasWildcard", desc := "()Z" } : Jvm.MethodName) prog_27_method_2_code (1 : Nat) (Option.some Jvm.ClassFile.FieldType.boolean)]
set_option maxRecDepth 65536 in
theorem codes_eq : words1.filter isCode = codes1 := rfl
theorem w_codes : ∀ c ∈ words1.filter isCode, c.before args0 about1 = true := by
  rw [codes_eq]
  intro c hc
  simp only [codes1, List.mem_cons, List.not_mem_nil, or_false] at hc
  rcases hc with rfl | rfl | rfl | rfl | rfl | rfl
  · exact w_c0
  · exact w_c1
  · exact w_c2
  · exact w_c3
  · exact w_c4
  · exact w_c5
set_option maxRecDepth 65536 in
theorem w_t1 : (words1.take 24).all (fun c => isCode c || c.before args0 about1) = true := by decide +kernel
set_option maxRecDepth 65536 in
theorem w_t2 : (words1.drop 24).all (fun c => isCode c || c.before args0 about1) = true := by decide +kernel
theorem w_tables : (allAtoms (Jvm.Cond.code x code maxLocals ret :: tables_1)).before args0 about1 = true := by
  rw [allAtoms_all]
  show words1.all (fun c => c.before args0 about1) = true
  refine all_split ?_ w_codes
  rw [← List.take_append_drop 24 words1, List.all_append, w_t1, w_t2]
  rfl
set_option maxRecDepth 65536 in
theorem w_case : (Jvm.Cond.and given_1 narrow_1).before args0 about1 = true := by decide +kernel
theorem w_applies : (headSpec (Jvm.Cond.code x code maxLocals ret :: tables_1) room_1).applies x e0.platform about1 = true :=
  (Spec.applies_iff w_frames).mpr ⟨w_running, w_runnable, w_alone, w_named, w_hears, w_ripe, w_room, w_tables⟩
theorem atStart : AtStart classFile x code maxLocals ret World_1 tables_1 room_1 Calls_1 rest_1 Pre_1 launch0 p0 e0 about1 theMethod args0 below0 :=
  ⟨lists_1, trivial, launch0.admits_env _ _ _, launch0.least_env, fairChoices_fair.cas, fairChoices_fair.clock, w_frames, w_args, w_heap, w_applies, trivial, trivial, w_case⟩
end start1
theorem witness_1 : WitnessClaimed_1 := ⟨start1.p0, start1.e0, start1.about1, start1.theMethod, start1.args0, start1.below0, start1.atStart⟩
end Jvm.Pilot.@@N@@
