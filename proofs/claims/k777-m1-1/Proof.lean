import JvmDerived
import JvmDerived.Pilot.@@N@@Statement
import JvmDerived.Pilot.@@N@@Code
set_option linter.unusedVariables false
set_option linter.unusedSimpArgs false
namespace Jvm.Pilot.@@N@@
open Jvm Jvm.ClassFile Sem Op Lib Jvm.Free Jvm.Stand Jvm.LawKit Jvm.RoadKit Bundle Jvm.Pilot.@@N@@.Jvm.D
section Own
variable {p : Program} {l : Launch} {e : Env} {R : Room} {s : State} {m : MethodId} {args : Array Value} {below : List Frame} {meth : Method} {c : Code} {T : State} {locs : List Loc} {cells slots : Nat} {Z : State} {a0 : Array Value} {h : Heap}
/-- from the state A the body ends as Q says, with at most C cells and S slots made -/
def own_E (p : Program) (e : Env) (below : List Frame) (s : State) (Q : Option Value → Heap → List Loc → Prop) (C S : Nat) (A : State) : Prop :=
  ∃ s₂ o, Steps p.tables e below A s₂ ∧ s₂.status = .running ∧ Ended s₂ below o ∧ ∃ v L, o = .returned v ∧ Q v s₂.heap L ∧ FrameEnd s o s₂ L C S
theorem own_pre {Q : Option Value → Heap → List Loc → Prop} {C S : Nat} {A B : State} (h : own_E p e below s Q C S B) (k : ∀ t, Steps p.tables e below B t → Steps p.tables e below A t) : own_E p e below s Q C S A := by
  obtain ⟨s₂, o, h1, h2⟩ := h
  exact ⟨s₂, o, k _ h1, h2⟩
theorem own_out {Q : Option Value → Heap → List Loc → Prop} {C S : Nat} {A : State} (X : Stand p l e R s m args below meth c T locs cells slots) (hk : meth.locks = false) {v : Option Value} (hv : meth.sig.returnType = none → v = none)
    (st : ∀ fs, (∀ (f : JFrame) (acts : List Action), f.method = m → f.locked = none → f.entered = [] → (doReturn e (T.setTop f) acts v).1 = T.setFrames fs) → Steps p.tables e below A (T.setFrames fs))
    (hQ : Q v T.heap locs) (hc : cells ≤ C) (hs : slots ≤ S) : own_E p e below s Q C S A := by
  obtain ⟨fs, hr, hrun, hended, hW, hsame⟩ := X.leave (v := v) hv hk
  exact ⟨_, _, st fs hr, hrun, hended, _, _, rfl, hQ, ⟨_, rfl⟩, hW, hsame.mono hc hs⟩
theorem own_retN {Q : Option Value → Heap → List Loc → Prop} {C S : Nat} (X : Stand p l e R s m args below meth c T locs cells slots) (hx : p.tables.exec = Jvm.exec) (hk : meth.locks = false) {t : FieldType} {pc : Nat} {Ls : Array Slot} {z z' : Int32} {rest : List Value} (hret : meth.sig.returnType = some t) (ht : t = .boolean ∨ t = .byte ∨ t = .char ∨ t = .short) (hd : decode c.code pc = .ok (.ireturn, 1)) (hn : nar t z = z')
    (hQ : Q (some (.int z')) T.heap locs) (hc : cells ≤ C) (hs : slots ≤ S) : own_E p e below s Q C S (T.setTop (mkF m pc Ls (.int z :: rest))) := by
  subst hn
  exact own_out X hk (fun h => by rw [hret] at h; cases h) (fun fs hr => retN X hx hret ht hd hr) hQ hc hs
theorem own_retI {Q : Option Value → Heap → List Loc → Prop} {C S : Nat} (X : Stand p l e R s m args below meth c T locs cells slots) (hx : p.tables.exec = Jvm.exec) (hk : meth.locks = false) {pc : Nat} {Ls : Array Slot} {z : Int32} {rest : List Value} (hret : meth.sig.returnType = some .int) (hd : decode c.code pc = .ok (.ireturn, 1))
    (hQ : Q (some (.int z)) T.heap locs) (hc : cells ≤ C) (hs : slots ≤ S) : own_E p e below s Q C S (T.setTop (mkF m pc Ls (.int z :: rest))) :=
  own_out X hk (fun h => by rw [hret] at h; cases h) (fun fs hr => retOut X hx hret rfl (Or.inl ⟨rfl, Or.inl rfl, z, rfl⟩) hd hr) hQ hc hs
theorem own_retJ {Q : Option Value → Heap → List Loc → Prop} {C S : Nat} (X : Stand p l e R s m args below meth c T locs cells slots) (hx : p.tables.exec = Jvm.exec) (hk : meth.locks = false) {pc : Nat} {Ls : Array Slot} {z : Int64} {rest : List Value} (hret : meth.sig.returnType = some .long) (hd : decode c.code pc = .ok (.lreturn, 1))
    (hQ : Q (some (.long z)) T.heap locs) (hc : cells ≤ C) (hs : slots ≤ S) : own_E p e below s Q C S (T.setTop (mkF m pc Ls (.long z :: rest))) :=
  own_out X hk (fun h => by rw [hret] at h; cases h) (fun fs hr => retOut X hx hret rfl (Or.inr (Or.inl ⟨rfl, rfl, z, rfl⟩)) hd hr) hQ hc hs
theorem own_nar_ref {t : FieldType} {w : Value} (hw : w.isRef = true) (ht : t.isReference = true) : narrow t w = w := by
  rcases ref_cases hw with rfl | ⟨z, rfl⟩ <;> cases t <;> first | rfl | (cases ht; done)
theorem own_fit_ref {t : FieldType} {w : Value} (hw : w.isRef = true) (ht : t.isReference = true) : fits t w = true := by
  rcases ref_cases hw with rfl | ⟨z, rfl⟩ <;> cases t <;> first | rfl | (cases ht; done)
theorem own_retA {Q : Option Value → Heap → List Loc → Prop} {C S : Nat} (X : Stand p l e R s m args below meth c T locs cells slots) (hx : p.tables.exec = Jvm.exec) (hk : meth.locks = false) {t : FieldType} {pc : Nat} {Ls : Array Slot} {w : Value} {rest : List Value} (hret : meth.sig.returnType = some t) (ht : t.isReference = true) (hw : w.isRef = true) (hd : decode c.code pc = .ok (.areturn, 1))
    (hQ : Q (some w) T.heap locs) (hc : cells ≤ C) (hs : slots ≤ S) : own_E p e below s Q C S (T.setTop (mkF m pc Ls (w :: rest))) :=
  own_out X hk (fun h => by rw [hret] at h; cases h) (fun fs hr => retOut X hx hret (own_nar_ref hw ht) (Or.inr (Or.inr (Or.inr (Or.inr ⟨rfl, ht, hw⟩)))) hd hr) hQ hc hs
theorem own_retV {Q : Option Value → Heap → List Loc → Prop} {C S : Nat} (X : Stand p l e R s m args below meth c T locs cells slots) (hx : p.tables.exec = Jvm.exec) (hk : meth.locks = false) {pc : Nat} {Ls : Array Slot} (hret : meth.sig.returnType = none) (hd : decode c.code pc = .ok (.return_, 1))
    (hQ : Q none T.heap locs) (hc : cells ≤ C) (hs : slots ≤ S) : own_E p e below s Q C S (T.setTop (mkF m pc Ls [])) :=
  own_out X hk (fun _ => rfl) (fun fs hr => X.returnOut hx hret hd hr) hQ hc hs
theorem own_lrem {g : JFrame} {target : State} (X : Stand p l e R s m args below meth c T locs cells slots) (hx : p.tables.exec = Jvm.exec) (hg : g.method = m) {x y : Int64} {rest : List Value} (hd : decode c.code g.pc = .ok (.lrem, 1)) (hs : g.stack = .long y :: .long x :: rest) (hy : y ≠ 0)
    (hr : Steps p.tables e below (T.setTop { g with pc := g.pc + 1, stack := .long (x % y) :: rest }) target) : Steps p.tables e below (T.setTop g) target :=
  XS.lrem X.here hx hg hd hs hy (by rw [lrem_mod]; exact hr)
end Own
def own_mt (wa ua ws us wv uv wn un : Int32) : Int32 := if (wa = (0 : Int32) ∨ wa = ua) ∧ (ws = (0 : Int32) ∨ ws = us) ∧ (wv = (0 : Int32) ∨ wv = uv) ∧ (wn = (0 : Int32) ∨ wn = un) then 1 else 0
def own_hw (wa ws wv wn : Int32) : Int32 := if wa = (0 : Int32) then 1 else if ws = (0 : Int32) then 1 else if wv = (0 : Int32) then 1 else if wn = (0 : Int32) then 1 else 0
def own_pick (m t d : Int32) : Int32 := if m = (0 : Int32) then 0 else if m = (1 : Int32) then t else if m = (2 : Int32) then t ^^^ d else t + 1
def own_exp (m t d : Int32) : Int32 := if (1 : Int32) < m then (if m = (2 : Int32) then (if d = (0 : Int32) then 1 else if t = d then 1 else 0) else (if t = (-1 : Int32) then 1 else 0)) else 1
theorem own_xor (t d : Int32) : (t ^^^ d = 0 ∨ t ^^^ d = t) ↔ (d = 0 ∨ t = d) := by
  have a1 : t ^^^ d = 0 ↔ t = d := by
    constructor
    · intro q
      have := congrArg (fun z => z ^^^ d) q
      simpa [Int32.xor_assoc] using this
    · rintro rfl; simp
  have a2 : t ^^^ d = t ↔ d = 0 := by
    constructor
    · intro q
      have := congrArg (fun z => t ^^^ z) q
      simpa [← Int32.xor_assoc] using this
    · rintro rfl; simp
  rw [a1, a2, Or.comm]
theorem own_one (m t d : Int32) (hm : m = 0 ∨ m = 1 ∨ m = 2 ∨ m = 3) : (own_pick m t d = 0 ∨ own_pick m t d = t) ↔ ¬ own_exp m t d = 0 := by
  rcases hm with rfl | rfl | rfl | rfl
  · simp [own_pick, own_exp]
  · simp [own_pick, own_exp]
  · simp only [own_pick, own_exp, show ¬ ((2 : Int32) = 0) by decide, show ¬ ((2 : Int32) = 1) by decide, show (1 : Int32) < 2 by decide, if_true, if_false]
    rw [own_xor]
    by_cases h1 : d = 0 <;> by_cases h2 : t = d <;> simp [h1, h2]
  · simp only [own_pick, own_exp, show ¬ ((3 : Int32) = 0) by decide, show ¬ ((3 : Int32) = 1) by decide, show ¬ ((3 : Int32) = 2) by decide, show (1 : Int32) < 3 by decide, if_true, if_false]
    have h3 : ¬ t + 1 = t := fun q => by
      have := c_iadd t 1; rw [q] at this; simp only [Int32.reduceToInt] at this; omega
    have h4 : t + 1 = 0 ↔ t = -1 := by
      have := c_iadd t 1; have r := rng32 t
      simp only [← Int32.toInt_inj, Int32.reduceToInt] at this ⊢
      have r2 := rng32 (t + 1)
      omega
    by_cases h5 : t = -1 <;> simp [h3, h4, h5]
theorem own_mode {x m : Int32} (h : (x &&& (3 : Int32)) = m) : m = 0 ∨ m = 1 ∨ m = 2 ∨ m = 3 := by
  have r := c_mask x 3 2 (by decide) (by decide)
  rw [h] at r
  simp only [← Int32.toInt_inj, Int32.reduceToInt]; omega
theorem d2_0 : decode jdk_30_method_1_code 0 = .ok (.aload_n 0, 1) := by decide +kernel
theorem d2_1 : decode jdk_30_method_1_code 1 = .ok (.invokespecial 1, 3) := by decide +kernel
theorem d2_4 : decode jdk_30_method_1_code 4 = .ok (.return_, 1) := by decide +kernel
theorem pn_java_lang_Record : plainName "java/lang/Record" = true := by first | (simp [plainName, overriddenIn]; done) | decide +kernel
set_option maxHeartbeats 4000000 in
theorem ef_2 (m : MethodId) (x0 : Addr) : entryFrame m #[(.ref x0)] 1 = mkF m 0 #[.val (.ref x0)] [] := by first | (simp [entryFrame, mkF, argsToLocals, Value.category]; done) | rfl
def Q2 (Z : State) (x0 : Addr) (h0 : Heap) (n0 : Nat) (v : Option Value) (h : Heap) (L : List Loc) : Prop := v = none ∧ Fr n0 L ∧ h = h0
set_option maxRecDepth 65536 in
set_option maxHeartbeats 40000000 in
theorem rm2 (l : Launch) (Z : State) (a0 : Array Value) (hw : ∀ d ∈ tables_1, d.before a0 Z = true) (ws : List Jvm.Cond) (x0 : Addr) (h0 : Heap) (n0 : Nat) (Z0 : n0 ≤ h0.size) :
    MetFree l (⟨"java/lang/Record", "<init>", "()V"⟩ : MethodName) (head1 (Jvm.Cond.code (⟨"java/lang/Record", "<init>", "()V"⟩ : MethodName) jdk_30_method_1_code 1 none :: ws) ({ frames := 1, cells := 0, slots := 0, locals := 12 } : Room)) (fun a U => a = #[(.ref x0)] ∧ Z.Warmed39 U.vm ∧ U.heap = h0) (fun _ _ _ _ _ => True) (fun _ U o U' => ∃ v L, o = .returned v ∧ Q2 Z x0 h0 n0 v U'.heap L ∧ FrameEnd U o U' L ({ frames := 1, cells := 0, slots := 0, locals := 12 } : Room).cells ({ frames := 1, cells := 0, slots := 0, locals := 12 } : Room).slots) := by
  refine MetFree.of_bodySF (plainFor_of_name pn_java_lang_Record) hisR ?_
  intro p e s m args below meth c s₁ Bd hml0 hP hK
  obtain ⟨rfl, hZ, hh⟩ := hP
  have hx := Bd.exec
  have hby := Bd.bytes
  have hml : c.maxLocals = 1 := hml0
  have hown : s.vm.findClass "java/lang/Record" = some m.cls := findClass_of_methodNamed Bd.named
  have hnm := (name_of_methodNamed Bd.named Bd.method).1
  have hlk : meth.locks = false := BodyLoose.notSynchronized Bd
  have X0 : Stand p l e ({ frames := 1, cells := 0, slots := 0, locals := 12 } : Room) s m #[(.ref x0)] below meth c s₁ [] 0 0 := Stand.of_body Bd
  have e0 : s₁.heap = h0 := by rw [← hh, Bd.state]; rfl
  have N0 := Fr.nil n0
  show own_E p e below s (Q2 Z x0 h0 n0) 0 0 (s₁.setTop (entryFrame m #[(.ref x0)] 1))
  refine own_pre (B := s₁.setTop (mkF m 0 #[.val (.ref x0)] [])) ?_ (fun t k => castTop (ef_2 m x0) k)
  refine own_pre (B := s₁.setTop (mkF m 1 #[.val (.ref x0)] [(.ref x0)])) ?_ fun t k => XS.aloadN X0.here hx rfl (hb hby d2_0) rfl rfl k
  obtain ⟨T1, X1, e1, st1⟩ := initO X0 hx hZ hown (hw _ (List.mem_of_getElem? (i := 11) rfl)) (hw _ (List.mem_of_getElem? (i := 12) rfl)) (hw _ (List.mem_of_getElem? (i := 13) rfl)) e0 (g := (mkF m 1 #[.val (.ref x0)] [(.ref x0)])) rfl (by rw [hml]; rfl) rfl (hb hby d2_1) (by decide) (W := 0) (by show 2 * 0 + _ ≤ _; exact Nat.le_of_eq rfl) (by decide)
  refine own_pre (B := T1.setTop (mkF m 4 #[.val (.ref x0)] [])) ?_ st1
  refine own_retV X1 hx hlk Bd.returns (hb hby d2_4) ?_ (by decide) (by decide)
  rw [e1]
  exact ⟨rfl, N0, rfl⟩
theorem d1_0 : decode prog_27_method_1_code 0 = .ok (.aload_n 0, 1) := by decide +kernel
theorem d1_1 : decode prog_27_method_1_code 1 = .ok (.invokespecial 1, 3) := by decide +kernel
theorem pd___V : parseMethodDescriptor "()V" = some ⟨[], none⟩ := by decide +kernel
theorem d1_4 : decode prog_27_method_1_code 4 = .ok (.aload_n 0, 1) := by decide +kernel
theorem d1_5 : decode prog_27_method_1_code 5 = .ok (.iload_n 1, 1) := by decide +kernel
theorem d1_6 : decode prog_27_method_1_code 6 = .ok (.putfield 7, 3) := by decide +kernel
theorem d1_9 : decode prog_27_method_1_code 9 = .ok (.aload_n 0, 1) := by decide +kernel
theorem d1_10 : decode prog_27_method_1_code 10 = .ok (.iload_n 2, 1) := by decide +kernel
theorem d1_11 : decode prog_27_method_1_code 11 = .ok (.putfield 13, 3) := by decide +kernel
theorem d1_14 : decode prog_27_method_1_code 14 = .ok (.aload_n 0, 1) := by decide +kernel
theorem d1_15 : decode prog_27_method_1_code 15 = .ok (.iload_n 3, 1) := by decide +kernel
theorem d1_16 : decode prog_27_method_1_code 16 = .ok (.putfield 16, 3) := by decide +kernel
theorem d1_19 : decode prog_27_method_1_code 19 = .ok (.aload_n 0, 1) := by decide +kernel
theorem d1_20 : decode prog_27_method_1_code 20 = .ok (.iload 4, 2) := by decide +kernel
theorem d1_22 : decode prog_27_method_1_code 22 = .ok (.putfield 19, 3) := by decide +kernel
theorem d1_25 : decode prog_27_method_1_code 25 = .ok (.return_, 1) := by decide +kernel
theorem pn_com_example_halyard_halyard_com_ObjectType : plainName "com/example/halyard/halyard/com/ObjectType" = true := by first | (simp [plainName, overriddenIn]; done) | decide +kernel
set_option maxHeartbeats 4000000 in
theorem ef_1 (m : MethodId) (x0 : Addr) (x1 : Int32) (x2 : Int32) (x3 : Int32) (x4 : Int32) : entryFrame m #[(.ref x0), (.int x1), (.int x2), (.int x3), (.int x4)] 5 = mkF m 0 #[.val (.ref x0), .val (.int x1), .val (.int x2), .val (.int x3), .val (.int x4)] [] := by first | (simp [entryFrame, mkF, argsToLocals, Value.category]; done) | rfl
def Q1 (Z : State) (x0 : Addr) (x1 : Int32) (x2 : Int32) (x3 : Int32) (x4 : Int32) (h0 : Heap) (n0 : Nat) (v : Option Value) (h : Heap) (L : List Loc) : Prop := v = none ∧ Fr n0 L ∧ Keep h0 h [x0] ∧ Exa Z h x0 "com/example/halyard/halyard/com/ObjectType" ∧ Fld Z h x0 "com/example/halyard/halyard/com/ObjectType" "area" "I" (.int x1) ∧ Fld Z h x0 "com/example/halyard/halyard/com/ObjectType" "service" "I" (.int x2) ∧ Fld Z h x0 "com/example/halyard/halyard/com/ObjectType" "version" "I" (.int x3) ∧ Fld Z h x0 "com/example/halyard/halyard/com/ObjectType" "number" "I" (.int x4)
set_option maxRecDepth 65536 in
set_option maxHeartbeats 40000000 in
theorem rm1 (l : Launch) (Z : State) (a0 : Array Value) (hw : ∀ d ∈ tables_1, d.before a0 Z = true) (ws : List Jvm.Cond) (x0 : Addr) (x1 : Int32) (x2 : Int32) (x3 : Int32) (x4 : Int32) (h0 : Heap) (n0 : Nat) (Z0 : n0 ≤ h0.size) (E_x0 : Exa Z h0 x0 "com/example/halyard/halyard/com/ObjectType") (F_area : Fld Z h0 x0 "com/example/halyard/halyard/com/ObjectType" "area" "I" (.int (0 : Int32))) (F_service : Fld Z h0 x0 "com/example/halyard/halyard/com/ObjectType" "service" "I" (.int (0 : Int32))) (F_version : Fld Z h0 x0 "com/example/halyard/halyard/com/ObjectType" "version" "I" (.int (0 : Int32))) (F_number : Fld Z h0 x0 "com/example/halyard/halyard/com/ObjectType" "number" "I" (.int (0 : Int32))) (g_x0 : n0 ≤ x0) :
    MetFree l (⟨"com/example/halyard/halyard/com/ObjectType", "<init>", "(IIII)V"⟩ : MethodName) (head1 (Jvm.Cond.code (⟨"com/example/halyard/halyard/com/ObjectType", "<init>", "(IIII)V"⟩ : MethodName) prog_27_method_1_code 5 none :: ws) ({ frames := 2, cells := 0, slots := 0, locals := 24 } : Room)) (fun a U => a = #[(.ref x0), (.int x1), (.int x2), (.int x3), (.int x4)] ∧ Z.Warmed39 U.vm ∧ U.heap = h0) (fun _ _ _ _ _ => True) (fun _ U o U' => ∃ v L, o = .returned v ∧ Q1 Z x0 x1 x2 x3 x4 h0 n0 v U'.heap L ∧ FrameEnd U o U' L ({ frames := 2, cells := 0, slots := 0, locals := 24 } : Room).cells ({ frames := 2, cells := 0, slots := 0, locals := 24 } : Room).slots) := by
  refine MetFree.of_bodySF (plainFor_of_name pn_com_example_halyard_halyard_com_ObjectType) hisR ?_
  intro p e s m args below meth c s₁ Bd hml0 hP hK
  obtain ⟨rfl, hZ, hh⟩ := hP
  have hx := Bd.exec
  have hby := Bd.bytes
  have hml : c.maxLocals = 5 := hml0
  have hown : s.vm.findClass "com/example/halyard/halyard/com/ObjectType" = some m.cls := findClass_of_methodNamed Bd.named
  have hnm := (name_of_methodNamed Bd.named Bd.method).1
  have hlk : meth.locks = false := BodyLoose.notSynchronized Bd
  have X0 : Stand p l e ({ frames := 2, cells := 0, slots := 0, locals := 24 } : Room) s m #[(.ref x0), (.int x1), (.int x2), (.int x3), (.int x4)] below meth c s₁ [] 0 0 := Stand.of_body Bd
  have e0 : s₁.heap = h0 := by rw [← hh, Bd.state]; rfl
  have N0 := Fr.nil n0
  show own_E p e below s (Q1 Z x0 x1 x2 x3 x4 h0 n0) 0 0 (s₁.setTop (entryFrame m #[(.ref x0), (.int x1), (.int x2), (.int x3), (.int x4)] 5))
  refine own_pre (B := s₁.setTop (mkF m 0 #[.val (.ref x0), .val (.int x1), .val (.int x2), .val (.int x3), .val (.int x4)] [])) ?_ (fun t k => castTop (ef_1 m x0 x1 x2 x3 x4) k)
  refine own_pre (B := s₁.setTop (mkF m 1 #[.val (.ref x0), .val (.int x1), .val (.int x2), .val (.int x3), .val (.int x4)] [(.ref x0)])) ?_ fun t k => XS.aloadN X0.here hx rfl (hb hby d1_0) rfl rfl k
  obtain ⟨_, _, ⟨T1, L1, k1, n1⟩, -, X1, ⟨Lc1, hQ1, l1, y1, z1⟩, st1⟩ := X0.specialBack hx (y := (⟨"java/lang/Record", "<init>", "()V"⟩ : MethodName)) rfl hown (mvT hZ (hw _ (List.mem_of_getElem? (i := 6) rfl))) (mvT hZ (hw _ (List.mem_of_getElem? (i := 7) rfl))) (mvT hZ (hw _ (List.mem_of_getElem? (i := 10) rfl))) (by decide) (backOf (W := 0) (rm2 l Z a0 hw [] x0 h0 n0 Z0 ) hZ (hw _ (List.mem_of_getElem? (i := 10) rfl)) (hw _ (List.mem_of_getElem? (i := 9) rfl)) (by decide) (by decide)) (g := (mkF m 1 #[.val (.ref x0), .val (.int x1), .val (.int x2), .val (.int x3), .val (.int x4)] [(.ref x0)])) rfl (by rw [hml]; rfl) (Steps.refl _) (a := x0) (argsL := []) (rest := []) (lenOf pd___V rfl) rfl (by show 2 * 0 + _ ≤ _; exact Nat.le_of_eq rfl) (hb hby d1_1) (fun _ _ => ⟨rfl, e0, (by decide : 0 + 0 ≤ _), (by decide : 0 + 0 ≤ _)⟩)
  dsimp only [Pt.U, Pt.locs, Pt.cells, Pt.slots] at X1 l1 y1 z1 st1 hQ1
  subst l1 y1 z1
  obtain ⟨rfl, Nq1, e1⟩ := hQ1
  have N1 := Fr.app N0 Nq1
  refine own_pre (B := T1.setTop (mkF m 4 #[.val (.ref x0), .val (.int x1), .val (.int x2), .val (.int x3), .val (.int x4)] [])) ?_ (fun t k => st1.trans k)
  refine own_pre (B := T1.setTop (mkF m 5 #[.val (.ref x0), .val (.int x1), .val (.int x2), .val (.int x3), .val (.int x4)] [(.ref x0)])) ?_ fun t k => XS.aloadN X1.here hx rfl (hb hby d1_4) rfl rfl k
  refine own_pre (B := T1.setTop (mkF m 6 #[.val (.ref x0), .val (.int x1), .val (.int x2), .val (.int x3), .val (.int x4)] [(.int x1), (.ref x0)])) ?_ fun t k => XS.iloadN X1.here hx rfl (hb hby d1_5) rfl  k
  obtain ⟨T2, h2, X2, e2, W2, st2⟩ := putF X1 hx hZ hown (host := "") (Or.inl (hw _ (List.mem_of_getElem? (i := 14) rfl))) Via.refl e1 F_area E_x0 (Or.inr ⟨(hw _ (List.mem_of_getElem? (i := 15) rfl)), rfl, hnm⟩) (hw _ (List.mem_of_getElem? (i := 1) rfl)) (ty := .int) (by decide) rfl rfl (g := (mkF m 6 #[.val (.ref x0), .val (.int x1), .val (.int x2), .val (.int x3), .val (.int x4)] [(.int x1), (.ref x0)])) rfl rfl (hb hby d1_6)
  have f3 := F_area.same W2
  have N2 := Fr.snoc X2 N1 g_x0
  have Z2 : n0 ≤ h2.size := Nat.le_trans Z0 (Keep.of_wr W2).1
  have K2 := (Keep.refl h0 [x0]).wr W2 (Or.inl (by simp))
  refine own_pre (B := T2.setTop (mkF m 9 #[.val (.ref x0), .val (.int x1), .val (.int x2), .val (.int x3), .val (.int x4)] [])) ?_ st2
  refine own_pre (B := T2.setTop (mkF m 10 #[.val (.ref x0), .val (.int x1), .val (.int x2), .val (.int x3), .val (.int x4)] [(.ref x0)])) ?_ fun t k => XS.aloadN X2.here hx rfl (hb hby d1_9) rfl rfl k
  refine own_pre (B := T2.setTop (mkF m 11 #[.val (.ref x0), .val (.int x1), .val (.int x2), .val (.int x3), .val (.int x4)] [(.int x2), (.ref x0)])) ?_ fun t k => XS.iloadN X2.here hx rfl (hb hby d1_10) rfl  k
  have f4 := (E_x0.wr W2)
  have f5 := (F_service.other W2 (Or.inr (slot_ne (Or.inr (hw _ (List.mem_of_getElem? (i := 17) rfl))) (Or.inr (hw _ (List.mem_of_getElem? (i := 15) rfl))) (by decide) (t := .int) (t' := .int) (by decide) (by decide))))
  obtain ⟨T6, h6, X6, e6, W6, st6⟩ := putF X2 hx hZ hown (host := "") (Or.inl (hw _ (List.mem_of_getElem? (i := 16) rfl))) Via.refl e2 f5 f4 (Or.inr ⟨(hw _ (List.mem_of_getElem? (i := 17) rfl)), rfl, hnm⟩) (hw _ (List.mem_of_getElem? (i := 1) rfl)) (ty := .int) (by decide) rfl rfl (g := (mkF m 11 #[.val (.ref x0), .val (.int x1), .val (.int x2), .val (.int x3), .val (.int x4)] [(.int x2), (.ref x0)])) rfl rfl (hb hby d1_11)
  have f7 := f5.same W6
  have N6 := Fr.snoc X6 N2 g_x0
  have Z6 : n0 ≤ h6.size := Nat.le_trans Z2 (Keep.of_wr W6).1
  have K6 := K2.wr W6 (Or.inl (by simp))
  refine own_pre (B := T6.setTop (mkF m 14 #[.val (.ref x0), .val (.int x1), .val (.int x2), .val (.int x3), .val (.int x4)] [])) ?_ st6
  refine own_pre (B := T6.setTop (mkF m 15 #[.val (.ref x0), .val (.int x1), .val (.int x2), .val (.int x3), .val (.int x4)] [(.ref x0)])) ?_ fun t k => XS.aloadN X6.here hx rfl (hb hby d1_14) rfl rfl k
  refine own_pre (B := T6.setTop (mkF m 16 #[.val (.ref x0), .val (.int x1), .val (.int x2), .val (.int x3), .val (.int x4)] [(.int x3), (.ref x0)])) ?_ fun t k => XS.iloadN X6.here hx rfl (hb hby d1_15) rfl  k
  have f8 := (f4.wr W6)
  have f9 := ((F_version.other W2 (Or.inr (slot_ne (Or.inr (hw _ (List.mem_of_getElem? (i := 19) rfl))) (Or.inr (hw _ (List.mem_of_getElem? (i := 15) rfl))) (by decide) (t := .int) (t' := .int) (by decide) (by decide)))).other W6 (Or.inr (slot_ne (Or.inr (hw _ (List.mem_of_getElem? (i := 19) rfl))) (Or.inr (hw _ (List.mem_of_getElem? (i := 17) rfl))) (by decide) (t := .int) (t' := .int) (by decide) (by decide))))
  obtain ⟨T10, h10, X10, e10, W10, st10⟩ := putF X6 hx hZ hown (host := "") (Or.inl (hw _ (List.mem_of_getElem? (i := 18) rfl))) Via.refl e6 f9 f8 (Or.inr ⟨(hw _ (List.mem_of_getElem? (i := 19) rfl)), rfl, hnm⟩) (hw _ (List.mem_of_getElem? (i := 1) rfl)) (ty := .int) (by decide) rfl rfl (g := (mkF m 16 #[.val (.ref x0), .val (.int x1), .val (.int x2), .val (.int x3), .val (.int x4)] [(.int x3), (.ref x0)])) rfl rfl (hb hby d1_16)
  have f11 := f9.same W10
  have N10 := Fr.snoc X10 N6 g_x0
  have Z10 : n0 ≤ h10.size := Nat.le_trans Z6 (Keep.of_wr W10).1
  have K10 := K6.wr W10 (Or.inl (by simp))
  refine own_pre (B := T10.setTop (mkF m 19 #[.val (.ref x0), .val (.int x1), .val (.int x2), .val (.int x3), .val (.int x4)] [])) ?_ st10
  refine own_pre (B := T10.setTop (mkF m 20 #[.val (.ref x0), .val (.int x1), .val (.int x2), .val (.int x3), .val (.int x4)] [(.ref x0)])) ?_ fun t k => XS.aloadN X10.here hx rfl (hb hby d1_19) rfl rfl k
  refine own_pre (B := T10.setTop (mkF m 22 #[.val (.ref x0), .val (.int x1), .val (.int x2), .val (.int x3), .val (.int x4)] [(.int x4), (.ref x0)])) ?_ fun t k => XS.iload X10.here hx rfl (hb hby d1_20) rfl  k
  have f12 := (f8.wr W10)
  have f13 := (((F_number.other W2 (Or.inr (slot_ne (Or.inr (hw _ (List.mem_of_getElem? (i := 21) rfl))) (Or.inr (hw _ (List.mem_of_getElem? (i := 15) rfl))) (by decide) (t := .int) (t' := .int) (by decide) (by decide)))).other W6 (Or.inr (slot_ne (Or.inr (hw _ (List.mem_of_getElem? (i := 21) rfl))) (Or.inr (hw _ (List.mem_of_getElem? (i := 17) rfl))) (by decide) (t := .int) (t' := .int) (by decide) (by decide)))).other W10 (Or.inr (slot_ne (Or.inr (hw _ (List.mem_of_getElem? (i := 21) rfl))) (Or.inr (hw _ (List.mem_of_getElem? (i := 19) rfl))) (by decide) (t := .int) (t' := .int) (by decide) (by decide))))
  obtain ⟨T14, h14, X14, e14, W14, st14⟩ := putF X10 hx hZ hown (host := "") (Or.inl (hw _ (List.mem_of_getElem? (i := 20) rfl))) Via.refl e10 f13 f12 (Or.inr ⟨(hw _ (List.mem_of_getElem? (i := 21) rfl)), rfl, hnm⟩) (hw _ (List.mem_of_getElem? (i := 1) rfl)) (ty := .int) (by decide) rfl rfl (g := (mkF m 22 #[.val (.ref x0), .val (.int x1), .val (.int x2), .val (.int x3), .val (.int x4)] [(.int x4), (.ref x0)])) rfl rfl (hb hby d1_22)
  have f15 := f13.same W14
  have N14 := Fr.snoc X14 N10 g_x0
  have Z14 : n0 ≤ h14.size := Nat.le_trans Z10 (Keep.of_wr W14).1
  have K14 := K10.wr W14 (Or.inl (by simp))
  refine own_pre (B := T14.setTop (mkF m 25 #[.val (.ref x0), .val (.int x1), .val (.int x2), .val (.int x3), .val (.int x4)] [])) ?_ st14
  have f16 := (f12.wr W14)
  have f17 := (((f3.other W6 (Or.inr (slot_ne (Or.inr (hw _ (List.mem_of_getElem? (i := 15) rfl))) (Or.inr (hw _ (List.mem_of_getElem? (i := 17) rfl))) (by decide) (t := .int) (t' := .int) (by decide) (by decide)))).other W10 (Or.inr (slot_ne (Or.inr (hw _ (List.mem_of_getElem? (i := 15) rfl))) (Or.inr (hw _ (List.mem_of_getElem? (i := 19) rfl))) (by decide) (t := .int) (t' := .int) (by decide) (by decide)))).other W14 (Or.inr (slot_ne (Or.inr (hw _ (List.mem_of_getElem? (i := 15) rfl))) (Or.inr (hw _ (List.mem_of_getElem? (i := 21) rfl))) (by decide) (t := .int) (t' := .int) (by decide) (by decide))))
  have f18 := ((f7.other W10 (Or.inr (slot_ne (Or.inr (hw _ (List.mem_of_getElem? (i := 17) rfl))) (Or.inr (hw _ (List.mem_of_getElem? (i := 19) rfl))) (by decide) (t := .int) (t' := .int) (by decide) (by decide)))).other W14 (Or.inr (slot_ne (Or.inr (hw _ (List.mem_of_getElem? (i := 17) rfl))) (Or.inr (hw _ (List.mem_of_getElem? (i := 21) rfl))) (by decide) (t := .int) (t' := .int) (by decide) (by decide))))
  have f19 := (f11.other W14 (Or.inr (slot_ne (Or.inr (hw _ (List.mem_of_getElem? (i := 19) rfl))) (Or.inr (hw _ (List.mem_of_getElem? (i := 21) rfl))) (by decide) (t := .int) (t' := .int) (by decide) (by decide))))
  refine own_retV X14 hx hlk Bd.returns (hb hby d1_25) ?_ (by decide) (by decide)
  rw [e14]
  exact ⟨rfl, N14, K14, f16, f17, f18, f19, f15⟩
theorem d6_0 : decode prog_27_method_3_code 0 = .ok (.aload_n 0, 1) := by decide +kernel
theorem d6_1 : decode prog_27_method_3_code 1 = .ok (.getfield 7, 3) := by decide +kernel
theorem d6_4 : decode prog_27_method_3_code 4 = .ok (.ifCond .eq 14, 3) := by decide +kernel
theorem d6_7 : decode prog_27_method_3_code 7 = .ok (.aload_n 0, 1) := by decide +kernel
theorem d6_8 : decode prog_27_method_3_code 8 = .ok (.getfield 7, 3) := by decide +kernel
theorem d6_11 : decode prog_27_method_3_code 11 = .ok (.aload_n 1, 1) := by decide +kernel
theorem d6_12 : decode prog_27_method_3_code 12 = .ok (.getfield 7, 3) := by decide +kernel
theorem d6_15 : decode prog_27_method_3_code 15 = .ok (.if_icmp .ne 61, 3) := by decide +kernel
theorem d6_76 : decode prog_27_method_3_code 76 = .ok (.iconst 0, 1) := by decide +kernel
theorem d6_77 : decode prog_27_method_3_code 77 = .ok (.ireturn, 1) := by decide +kernel
theorem d6_18 : decode prog_27_method_3_code 18 = .ok (.aload_n 0, 1) := by decide +kernel
theorem d6_19 : decode prog_27_method_3_code 19 = .ok (.getfield 13, 3) := by decide +kernel
theorem d6_22 : decode prog_27_method_3_code 22 = .ok (.ifCond .eq 14, 3) := by decide +kernel
theorem d6_25 : decode prog_27_method_3_code 25 = .ok (.aload_n 0, 1) := by decide +kernel
theorem d6_26 : decode prog_27_method_3_code 26 = .ok (.getfield 13, 3) := by decide +kernel
theorem d6_29 : decode prog_27_method_3_code 29 = .ok (.aload_n 1, 1) := by decide +kernel
theorem d6_30 : decode prog_27_method_3_code 30 = .ok (.getfield 13, 3) := by decide +kernel
theorem d6_33 : decode prog_27_method_3_code 33 = .ok (.if_icmp .ne 43, 3) := by decide +kernel
theorem d6_36 : decode prog_27_method_3_code 36 = .ok (.aload_n 0, 1) := by decide +kernel
theorem d6_37 : decode prog_27_method_3_code 37 = .ok (.getfield 16, 3) := by decide +kernel
theorem d6_40 : decode prog_27_method_3_code 40 = .ok (.ifCond .eq 14, 3) := by decide +kernel
theorem d6_43 : decode prog_27_method_3_code 43 = .ok (.aload_n 0, 1) := by decide +kernel
theorem d6_44 : decode prog_27_method_3_code 44 = .ok (.getfield 16, 3) := by decide +kernel
theorem d6_47 : decode prog_27_method_3_code 47 = .ok (.aload_n 1, 1) := by decide +kernel
theorem d6_48 : decode prog_27_method_3_code 48 = .ok (.getfield 16, 3) := by decide +kernel
theorem d6_51 : decode prog_27_method_3_code 51 = .ok (.if_icmp .ne 25, 3) := by decide +kernel
theorem d6_54 : decode prog_27_method_3_code 54 = .ok (.aload_n 0, 1) := by decide +kernel
theorem d6_55 : decode prog_27_method_3_code 55 = .ok (.getfield 19, 3) := by decide +kernel
theorem d6_58 : decode prog_27_method_3_code 58 = .ok (.ifCond .eq 14, 3) := by decide +kernel
theorem d6_61 : decode prog_27_method_3_code 61 = .ok (.aload_n 0, 1) := by decide +kernel
theorem d6_62 : decode prog_27_method_3_code 62 = .ok (.getfield 19, 3) := by decide +kernel
theorem d6_65 : decode prog_27_method_3_code 65 = .ok (.aload_n 1, 1) := by decide +kernel
theorem d6_66 : decode prog_27_method_3_code 66 = .ok (.getfield 19, 3) := by decide +kernel
theorem d6_69 : decode prog_27_method_3_code 69 = .ok (.if_icmp .ne 7, 3) := by decide +kernel
theorem d6_72 : decode prog_27_method_3_code 72 = .ok (.iconst 1, 1) := by decide +kernel
theorem d6_73 : decode prog_27_method_3_code 73 = .ok (.goto 4, 3) := by decide +kernel
set_option maxHeartbeats 4000000 in
theorem ef_6 (m : MethodId) (x0 : Addr) (x1 : Addr) : entryFrame m #[(.ref x0), (.ref x1)] 2 = mkF m 0 #[.val (.ref x0), .val (.ref x1)] [] := by first | (simp [entryFrame, mkF, argsToLocals, Value.category]; done) | rfl
def Q6 (Z : State) (x0 : Addr) (x1 : Addr) (wa : Int32) (wsv : Int32) (wv : Int32) (wn : Int32) (ua : Int32) (usv : Int32) (uv : Int32) (un : Int32) (h0 : Heap) (n0 : Nat) (v : Option Value) (h : Heap) (L : List Loc) : Prop := v = some (.int (own_mt wa ua wsv usv wv uv wn un)) ∧ Fr n0 L ∧ h = h0
set_option maxRecDepth 65536 in
set_option maxHeartbeats 40000000 in
theorem rm6 (l : Launch) (Z : State) (a0 : Array Value) (hw : ∀ d ∈ tables_1, d.before a0 Z = true) (ws : List Jvm.Cond) (x0 : Addr) (x1 : Addr) (wa : Int32) (wsv : Int32) (wv : Int32) (wn : Int32) (ua : Int32) (usv : Int32) (uv : Int32) (un : Int32) (h0 : Heap) (n0 : Nat) (Z0 : n0 ≤ h0.size) (F_area : Fld Z h0 x0 "com/example/halyard/halyard/com/ObjectType" "area" "I" (.int wa)) (F_service : Fld Z h0 x0 "com/example/halyard/halyard/com/ObjectType" "service" "I" (.int wsv)) (F_version : Fld Z h0 x0 "com/example/halyard/halyard/com/ObjectType" "version" "I" (.int wv)) (F_number : Fld Z h0 x0 "com/example/halyard/halyard/com/ObjectType" "number" "I" (.int wn)) (G_area : Fld Z h0 x1 "com/example/halyard/halyard/com/ObjectType" "area" "I" (.int ua)) (G_service : Fld Z h0 x1 "com/example/halyard/halyard/com/ObjectType" "service" "I" (.int usv)) (G_version : Fld Z h0 x1 "com/example/halyard/halyard/com/ObjectType" "version" "I" (.int uv)) (G_number : Fld Z h0 x1 "com/example/halyard/halyard/com/ObjectType" "number" "I" (.int un)) :
    MetFree l (⟨"com/example/halyard/halyard/com/ObjectType", "matches", "(Lcom/example/halyard/halyard/com/ObjectType;)Z"⟩ : MethodName) (head1 (Jvm.Cond.code (⟨"com/example/halyard/halyard/com/ObjectType", "matches", "(Lcom/example/halyard/halyard/com/ObjectType;)Z"⟩ : MethodName) prog_27_method_3_code 2 (some .boolean) :: ws) ({ frames := 0, cells := 0, slots := 0, locals := 0 } : Room)) (fun a U => a = #[(.ref x0), (.ref x1)] ∧ Z.Warmed39 U.vm ∧ U.heap = h0) (fun _ _ _ _ _ => True) (fun _ U o U' => ∃ v L, o = .returned v ∧ Q6 Z x0 x1 wa wsv wv wn ua usv uv un h0 n0 v U'.heap L ∧ FrameEnd U o U' L ({ frames := 0, cells := 0, slots := 0, locals := 0 } : Room).cells ({ frames := 0, cells := 0, slots := 0, locals := 0 } : Room).slots) := by
  refine MetFree.of_bodySF (plainFor_of_name pn_com_example_halyard_halyard_com_ObjectType) hisR ?_
  intro p e s m args below meth c s₁ Bd hml0 hP hK
  obtain ⟨rfl, hZ, hh⟩ := hP
  have hx := Bd.exec
  have hby := Bd.bytes
  have hml : c.maxLocals = 2 := hml0
  have hown : s.vm.findClass "com/example/halyard/halyard/com/ObjectType" = some m.cls := findClass_of_methodNamed Bd.named
  have hnm := (name_of_methodNamed Bd.named Bd.method).1
  have hlk : meth.locks = false := BodyLoose.notSynchronized Bd
  have X0 : Stand p l e ({ frames := 0, cells := 0, slots := 0, locals := 0 } : Room) s m #[(.ref x0), (.ref x1)] below meth c s₁ [] 0 0 := Stand.of_body Bd
  have e0 : s₁.heap = h0 := by rw [← hh, Bd.state]; rfl
  have N0 := Fr.nil n0
  show own_E p e below s (Q6 Z x0 x1 wa wsv wv wn ua usv uv un h0 n0) 0 0 (s₁.setTop (entryFrame m #[(.ref x0), (.ref x1)] 2))
  refine own_pre (B := s₁.setTop (mkF m 0 #[.val (.ref x0), .val (.ref x1)] [])) ?_ (fun t k => castTop (ef_6 m x0 x1) k)
  refine own_pre (B := s₁.setTop (mkF m 1 #[.val (.ref x0), .val (.ref x1)] [(.ref x0)])) ?_ fun t k => XS.aloadN X0.here hx rfl (hb hby d6_0) rfl rfl k
  obtain ⟨T1, X1, e1, st1⟩ := getF X0 hx hZ hown (host := "") (Or.inl (hw _ (List.mem_of_getElem? (i := 14) rfl))) Via.refl e0 F_area (g := (mkF m 1 #[.val (.ref x0), .val (.ref x1)] [(.ref x0)])) rfl rfl (hb hby d6_1)
  refine own_pre (B := T1.setTop (mkF m 4 #[.val (.ref x0), .val (.ref x1)] [(.int wa)])) ?_ st1
  have Jj3 : ∀ (T4 : State) (l4 : List Loc) (X4 : Stand p l e ({ frames := 0, cells := 0, slots := 0, locals := 0 } : Room) s m #[(.ref x0), (.ref x1)] below meth c T4 l4 0 0) (N4 : Fr n0 l4) (e4 : T4.heap = h0) (hjj3 : wa = (0 : Int32) ∨ wa = ua), own_E p e below s (Q6 Z x0 x1 wa wsv wv wn ua usv uv un h0 n0) 0 0 (T4.setTop (mkF m 18 #[.val (.ref x0), .val (.ref x1)] [])) := by
    intro T4 l4 X4 N4 e4 hjj3
    refine own_pre (B := T4.setTop (mkF m 19 #[.val (.ref x0), .val (.ref x1)] [(.ref x0)])) ?_ fun t k => XS.aloadN X4.here hx rfl (hb hby d6_18) rfl rfl k
    obtain ⟨T5, X5, e5, st5⟩ := getF X4 hx hZ hown (host := "") (Or.inl (hw _ (List.mem_of_getElem? (i := 16) rfl))) Via.refl e4 F_service (g := (mkF m 19 #[.val (.ref x0), .val (.ref x1)] [(.ref x0)])) rfl rfl (hb hby d6_19)
    refine own_pre (B := T5.setTop (mkF m 22 #[.val (.ref x0), .val (.ref x1)] [(.int wsv)])) ?_ st5
    have Jj7 : ∀ (T8 : State) (l8 : List Loc) (X8 : Stand p l e ({ frames := 0, cells := 0, slots := 0, locals := 0 } : Room) s m #[(.ref x0), (.ref x1)] below meth c T8 l8 0 0) (N8 : Fr n0 l8) (e8 : T8.heap = h0) (hjj7 : wsv = (0 : Int32) ∨ wsv = usv), own_E p e below s (Q6 Z x0 x1 wa wsv wv wn ua usv uv un h0 n0) 0 0 (T8.setTop (mkF m 36 #[.val (.ref x0), .val (.ref x1)] [])) := by
      intro T8 l8 X8 N8 e8 hjj7
      refine own_pre (B := T8.setTop (mkF m 37 #[.val (.ref x0), .val (.ref x1)] [(.ref x0)])) ?_ fun t k => XS.aloadN X8.here hx rfl (hb hby d6_36) rfl rfl k
      obtain ⟨T9, X9, e9, st9⟩ := getF X8 hx hZ hown (host := "") (Or.inl (hw _ (List.mem_of_getElem? (i := 18) rfl))) Via.refl e8 F_version (g := (mkF m 37 #[.val (.ref x0), .val (.ref x1)] [(.ref x0)])) rfl rfl (hb hby d6_37)
      refine own_pre (B := T9.setTop (mkF m 40 #[.val (.ref x0), .val (.ref x1)] [(.int wv)])) ?_ st9
      have Jj11 : ∀ (T12 : State) (l12 : List Loc) (X12 : Stand p l e ({ frames := 0, cells := 0, slots := 0, locals := 0 } : Room) s m #[(.ref x0), (.ref x1)] below meth c T12 l12 0 0) (N12 : Fr n0 l12) (e12 : T12.heap = h0) (hjj11 : wv = (0 : Int32) ∨ wv = uv), own_E p e below s (Q6 Z x0 x1 wa wsv wv wn ua usv uv un h0 n0) 0 0 (T12.setTop (mkF m 54 #[.val (.ref x0), .val (.ref x1)] [])) := by
        intro T12 l12 X12 N12 e12 hjj11
        refine own_pre (B := T12.setTop (mkF m 55 #[.val (.ref x0), .val (.ref x1)] [(.ref x0)])) ?_ fun t k => XS.aloadN X12.here hx rfl (hb hby d6_54) rfl rfl k
        obtain ⟨T13, X13, e13, st13⟩ := getF X12 hx hZ hown (host := "") (Or.inl (hw _ (List.mem_of_getElem? (i := 20) rfl))) Via.refl e12 F_number (g := (mkF m 55 #[.val (.ref x0), .val (.ref x1)] [(.ref x0)])) rfl rfl (hb hby d6_55)
        refine own_pre (B := T13.setTop (mkF m 58 #[.val (.ref x0), .val (.ref x1)] [(.int wn)])) ?_ st13
        have Jj15 : ∀ (T16 : State) (l16 : List Loc) (X16 : Stand p l e ({ frames := 0, cells := 0, slots := 0, locals := 0 } : Room) s m #[(.ref x0), (.ref x1)] below meth c T16 l16 0 0) (N16 : Fr n0 l16) (e16 : T16.heap = h0) (hjj15 : wn = (0 : Int32) ∨ wn = un), own_E p e below s (Q6 Z x0 x1 wa wsv wv wn ua usv uv un h0 n0) 0 0 (T16.setTop (mkF m 72 #[.val (.ref x0), .val (.ref x1)] [])) := by
          intro T16 l16 X16 N16 e16 hjj15
          refine own_pre (B := T16.setTop (mkF m 73 #[.val (.ref x0), .val (.ref x1)] [(.int (1 : Int32))])) ?_ fun t k => XS.iconst X16.here hx rfl (hb hby d6_72) k
          refine own_pre (B := T16.setTop (mkF m 77 #[.val (.ref x0), .val (.ref x1)] [(.int (1 : Int32))])) ?_ fun t k => XS.goto X16.here hx rfl (pc0 := 73) (pc' := 77) rfl (hb hby d6_73) (by decide) (by decide) k
          refine own_retN X16 hx hlk (t := .boolean) (z' := (1 : Int32)) Bd.returns (by simp) (hb hby d6_77) (by decide) ?_ (by decide) (by decide)
          rw [e16]
          exact ⟨by rw [own_mt, if_pos ⟨hjj3, hjj7, hjj11, hjj15⟩], N16, rfl⟩
        by_cases h58_14 : wn = (0 : Int32)
        · skip
          refine own_pre (B := T13.setTop (mkF m 72 #[.val (.ref x0), .val (.ref x1)] [])) ?_ fun t k => XS.ifYes X13.here hx rfl (pc0 := 58) (pc' := 72) rfl (hb hby d6_58) rfl ((if0 _ _).trans (teq h58_14).1) (by decide) (by decide) k
          exact Jj15 T13 _ X13 N12 e13  (Or.inl h58_14)
        · skip
          refine own_pre (B := T13.setTop (mkF m 61 #[.val (.ref x0), .val (.ref x1)] [])) ?_ fun t k => XS.ifNo X13.here hx rfl (hb hby d6_58) rfl ((if0 _ _).trans (feq h58_14).1) k
          refine own_pre (B := T13.setTop (mkF m 62 #[.val (.ref x0), .val (.ref x1)] [(.ref x0)])) ?_ fun t k => XS.aloadN X13.here hx rfl (hb hby d6_61) rfl rfl k
          obtain ⟨T17, X17, e17, st17⟩ := getF X13 hx hZ hown (host := "") (Or.inl (hw _ (List.mem_of_getElem? (i := 20) rfl))) Via.refl e13 F_number (g := (mkF m 62 #[.val (.ref x0), .val (.ref x1)] [(.ref x0)])) rfl rfl (hb hby d6_62)
          refine own_pre (B := T17.setTop (mkF m 65 #[.val (.ref x0), .val (.ref x1)] [(.int wn)])) ?_ st17
          refine own_pre (B := T17.setTop (mkF m 66 #[.val (.ref x0), .val (.ref x1)] [(.ref x1), (.int wn)])) ?_ fun t k => XS.aloadN X17.here hx rfl (hb hby d6_65) rfl rfl k
          obtain ⟨T18, X18, e18, st18⟩ := getF X17 hx hZ hown (host := "") (Or.inl (hw _ (List.mem_of_getElem? (i := 20) rfl))) Via.refl e17 G_number (g := (mkF m 66 #[.val (.ref x0), .val (.ref x1)] [(.ref x1), (.int wn)])) rfl rfl (hb hby d6_66)
          refine own_pre (B := T18.setTop (mkF m 69 #[.val (.ref x0), .val (.ref x1)] [(.int un), (.int wn)])) ?_ st18
          by_cases h69_19 : wn = un
          · skip
            refine own_pre (B := T18.setTop (mkF m 72 #[.val (.ref x0), .val (.ref x1)] [])) ?_ fun t k => XS.icmpNo X18.here hx rfl (hb hby d6_69) rfl (teq h69_19).2 k
            exact Jj15 T18 _ X18 N12 e18  (Or.inr h69_19)
          · skip
            refine own_pre (B := T18.setTop (mkF m 76 #[.val (.ref x0), .val (.ref x1)] [])) ?_ fun t k => XS.icmpYes X18.here hx rfl (pc0 := 69) (pc' := 76) rfl (hb hby d6_69) rfl (feq h69_19).2 (by decide) (by decide) k
            refine own_pre (B := T18.setTop (mkF m 77 #[.val (.ref x0), .val (.ref x1)] [(.int (0 : Int32))])) ?_ fun t k => XS.iconst X18.here hx rfl (hb hby d6_76) k
            refine own_retN X18 hx hlk (t := .boolean) (z' := (0 : Int32)) Bd.returns (by simp) (hb hby d6_77) (by decide) ?_ (by decide) (by decide)
            rw [e18]
            exact ⟨by rw [own_mt, if_neg (fun q => q.2.2.2.elim h58_14 h69_19)], N12, rfl⟩
      by_cases h40_10 : wv = (0 : Int32)
      · skip
        refine own_pre (B := T9.setTop (mkF m 54 #[.val (.ref x0), .val (.ref x1)] [])) ?_ fun t k => XS.ifYes X9.here hx rfl (pc0 := 40) (pc' := 54) rfl (hb hby d6_40) rfl ((if0 _ _).trans (teq h40_10).1) (by decide) (by decide) k
        exact Jj11 T9 _ X9 N8 e9  (Or.inl h40_10)
      · skip
        refine own_pre (B := T9.setTop (mkF m 43 #[.val (.ref x0), .val (.ref x1)] [])) ?_ fun t k => XS.ifNo X9.here hx rfl (hb hby d6_40) rfl ((if0 _ _).trans (feq h40_10).1) k
        refine own_pre (B := T9.setTop (mkF m 44 #[.val (.ref x0), .val (.ref x1)] [(.ref x0)])) ?_ fun t k => XS.aloadN X9.here hx rfl (hb hby d6_43) rfl rfl k
        obtain ⟨T20, X20, e20, st20⟩ := getF X9 hx hZ hown (host := "") (Or.inl (hw _ (List.mem_of_getElem? (i := 18) rfl))) Via.refl e9 F_version (g := (mkF m 44 #[.val (.ref x0), .val (.ref x1)] [(.ref x0)])) rfl rfl (hb hby d6_44)
        refine own_pre (B := T20.setTop (mkF m 47 #[.val (.ref x0), .val (.ref x1)] [(.int wv)])) ?_ st20
        refine own_pre (B := T20.setTop (mkF m 48 #[.val (.ref x0), .val (.ref x1)] [(.ref x1), (.int wv)])) ?_ fun t k => XS.aloadN X20.here hx rfl (hb hby d6_47) rfl rfl k
        obtain ⟨T21, X21, e21, st21⟩ := getF X20 hx hZ hown (host := "") (Or.inl (hw _ (List.mem_of_getElem? (i := 18) rfl))) Via.refl e20 G_version (g := (mkF m 48 #[.val (.ref x0), .val (.ref x1)] [(.ref x1), (.int wv)])) rfl rfl (hb hby d6_48)
        refine own_pre (B := T21.setTop (mkF m 51 #[.val (.ref x0), .val (.ref x1)] [(.int uv), (.int wv)])) ?_ st21
        by_cases h51_22 : wv = uv
        · skip
          refine own_pre (B := T21.setTop (mkF m 54 #[.val (.ref x0), .val (.ref x1)] [])) ?_ fun t k => XS.icmpNo X21.here hx rfl (hb hby d6_51) rfl (teq h51_22).2 k
          exact Jj11 T21 _ X21 N8 e21  (Or.inr h51_22)
        · skip
          refine own_pre (B := T21.setTop (mkF m 76 #[.val (.ref x0), .val (.ref x1)] [])) ?_ fun t k => XS.icmpYes X21.here hx rfl (pc0 := 51) (pc' := 76) rfl (hb hby d6_51) rfl (feq h51_22).2 (by decide) (by decide) k
          refine own_pre (B := T21.setTop (mkF m 77 #[.val (.ref x0), .val (.ref x1)] [(.int (0 : Int32))])) ?_ fun t k => XS.iconst X21.here hx rfl (hb hby d6_76) k
          refine own_retN X21 hx hlk (t := .boolean) (z' := (0 : Int32)) Bd.returns (by simp) (hb hby d6_77) (by decide) ?_ (by decide) (by decide)
          rw [e21]
          exact ⟨by rw [own_mt, if_neg (fun q => q.2.2.1.elim h40_10 h51_22)], N8, rfl⟩
    by_cases h22_6 : wsv = (0 : Int32)
    · skip
      refine own_pre (B := T5.setTop (mkF m 36 #[.val (.ref x0), .val (.ref x1)] [])) ?_ fun t k => XS.ifYes X5.here hx rfl (pc0 := 22) (pc' := 36) rfl (hb hby d6_22) rfl ((if0 _ _).trans (teq h22_6).1) (by decide) (by decide) k
      exact Jj7 T5 _ X5 N4 e5  (Or.inl h22_6)
    · skip
      refine own_pre (B := T5.setTop (mkF m 25 #[.val (.ref x0), .val (.ref x1)] [])) ?_ fun t k => XS.ifNo X5.here hx rfl (hb hby d6_22) rfl ((if0 _ _).trans (feq h22_6).1) k
      refine own_pre (B := T5.setTop (mkF m 26 #[.val (.ref x0), .val (.ref x1)] [(.ref x0)])) ?_ fun t k => XS.aloadN X5.here hx rfl (hb hby d6_25) rfl rfl k
      obtain ⟨T23, X23, e23, st23⟩ := getF X5 hx hZ hown (host := "") (Or.inl (hw _ (List.mem_of_getElem? (i := 16) rfl))) Via.refl e5 F_service (g := (mkF m 26 #[.val (.ref x0), .val (.ref x1)] [(.ref x0)])) rfl rfl (hb hby d6_26)
      refine own_pre (B := T23.setTop (mkF m 29 #[.val (.ref x0), .val (.ref x1)] [(.int wsv)])) ?_ st23
      refine own_pre (B := T23.setTop (mkF m 30 #[.val (.ref x0), .val (.ref x1)] [(.ref x1), (.int wsv)])) ?_ fun t k => XS.aloadN X23.here hx rfl (hb hby d6_29) rfl rfl k
      obtain ⟨T24, X24, e24, st24⟩ := getF X23 hx hZ hown (host := "") (Or.inl (hw _ (List.mem_of_getElem? (i := 16) rfl))) Via.refl e23 G_service (g := (mkF m 30 #[.val (.ref x0), .val (.ref x1)] [(.ref x1), (.int wsv)])) rfl rfl (hb hby d6_30)
      refine own_pre (B := T24.setTop (mkF m 33 #[.val (.ref x0), .val (.ref x1)] [(.int usv), (.int wsv)])) ?_ st24
      by_cases h33_25 : wsv = usv
      · skip
        refine own_pre (B := T24.setTop (mkF m 36 #[.val (.ref x0), .val (.ref x1)] [])) ?_ fun t k => XS.icmpNo X24.here hx rfl (hb hby d6_33) rfl (teq h33_25).2 k
        exact Jj7 T24 _ X24 N4 e24  (Or.inr h33_25)
      · skip
        refine own_pre (B := T24.setTop (mkF m 76 #[.val (.ref x0), .val (.ref x1)] [])) ?_ fun t k => XS.icmpYes X24.here hx rfl (pc0 := 33) (pc' := 76) rfl (hb hby d6_33) rfl (feq h33_25).2 (by decide) (by decide) k
        refine own_pre (B := T24.setTop (mkF m 77 #[.val (.ref x0), .val (.ref x1)] [(.int (0 : Int32))])) ?_ fun t k => XS.iconst X24.here hx rfl (hb hby d6_76) k
        refine own_retN X24 hx hlk (t := .boolean) (z' := (0 : Int32)) Bd.returns (by simp) (hb hby d6_77) (by decide) ?_ (by decide) (by decide)
        rw [e24]
        exact ⟨by rw [own_mt, if_neg (fun q => q.2.1.elim h22_6 h33_25)], N4, rfl⟩
  by_cases h4_2 : wa = (0 : Int32)
  · skip
    refine own_pre (B := T1.setTop (mkF m 18 #[.val (.ref x0), .val (.ref x1)] [])) ?_ fun t k => XS.ifYes X1.here hx rfl (pc0 := 4) (pc' := 18) rfl (hb hby d6_4) rfl ((if0 _ _).trans (teq h4_2).1) (by decide) (by decide) k
    exact Jj3 T1 _ X1 N0 e1  (Or.inl h4_2)
  · skip
    refine own_pre (B := T1.setTop (mkF m 7 #[.val (.ref x0), .val (.ref x1)] [])) ?_ fun t k => XS.ifNo X1.here hx rfl (hb hby d6_4) rfl ((if0 _ _).trans (feq h4_2).1) k
    refine own_pre (B := T1.setTop (mkF m 8 #[.val (.ref x0), .val (.ref x1)] [(.ref x0)])) ?_ fun t k => XS.aloadN X1.here hx rfl (hb hby d6_7) rfl rfl k
    obtain ⟨T26, X26, e26, st26⟩ := getF X1 hx hZ hown (host := "") (Or.inl (hw _ (List.mem_of_getElem? (i := 14) rfl))) Via.refl e1 F_area (g := (mkF m 8 #[.val (.ref x0), .val (.ref x1)] [(.ref x0)])) rfl rfl (hb hby d6_8)
    refine own_pre (B := T26.setTop (mkF m 11 #[.val (.ref x0), .val (.ref x1)] [(.int wa)])) ?_ st26
    refine own_pre (B := T26.setTop (mkF m 12 #[.val (.ref x0), .val (.ref x1)] [(.ref x1), (.int wa)])) ?_ fun t k => XS.aloadN X26.here hx rfl (hb hby d6_11) rfl rfl k
    obtain ⟨T27, X27, e27, st27⟩ := getF X26 hx hZ hown (host := "") (Or.inl (hw _ (List.mem_of_getElem? (i := 14) rfl))) Via.refl e26 G_area (g := (mkF m 12 #[.val (.ref x0), .val (.ref x1)] [(.ref x1), (.int wa)])) rfl rfl (hb hby d6_12)
    refine own_pre (B := T27.setTop (mkF m 15 #[.val (.ref x0), .val (.ref x1)] [(.int ua), (.int wa)])) ?_ st27
    by_cases h15_28 : wa = ua
    · skip
      refine own_pre (B := T27.setTop (mkF m 18 #[.val (.ref x0), .val (.ref x1)] [])) ?_ fun t k => XS.icmpNo X27.here hx rfl (hb hby d6_15) rfl (teq h15_28).2 k
      exact Jj3 T27 _ X27 N0 e27  (Or.inr h15_28)
    · skip
      refine own_pre (B := T27.setTop (mkF m 76 #[.val (.ref x0), .val (.ref x1)] [])) ?_ fun t k => XS.icmpYes X27.here hx rfl (pc0 := 15) (pc' := 76) rfl (hb hby d6_15) rfl (feq h15_28).2 (by decide) (by decide) k
      refine own_pre (B := T27.setTop (mkF m 77 #[.val (.ref x0), .val (.ref x1)] [(.int (0 : Int32))])) ?_ fun t k => XS.iconst X27.here hx rfl (hb hby d6_76) k
      refine own_retN X27 hx hlk (t := .boolean) (z' := (0 : Int32)) Bd.returns (by simp) (hb hby d6_77) (by decide) ?_ (by decide) (by decide)
      rw [e27]
      exact ⟨by rw [own_mt, if_neg (fun q => q.1.elim h4_2 h15_28)], N0, rfl⟩
theorem d4_0 : decode method_2_code 0 = .ok (.iload_n 0, 1) := by decide +kernel
theorem d4_1 : decode method_2_code 1 = .ok (.ifCond .ne 5, 3) := by decide +kernel
theorem d4_4 : decode method_2_code 4 = .ok (.iconst 0, 1) := by decide +kernel
theorem d4_5 : decode method_2_code 5 = .ok (.ireturn, 1) := by decide +kernel
theorem d4_6 : decode method_2_code 6 = .ok (.iload_n 0, 1) := by decide +kernel
theorem d4_7 : decode method_2_code 7 = .ok (.iconst 1, 1) := by decide +kernel
theorem d4_8 : decode method_2_code 8 = .ok (.if_icmp .ne 5, 3) := by decide +kernel
theorem d4_11 : decode method_2_code 11 = .ok (.iload_n 1, 1) := by decide +kernel
theorem d4_12 : decode method_2_code 12 = .ok (.ireturn, 1) := by decide +kernel
theorem d4_13 : decode method_2_code 13 = .ok (.iload_n 0, 1) := by decide +kernel
theorem d4_14 : decode method_2_code 14 = .ok (.iconst 2, 1) := by decide +kernel
theorem d4_15 : decode method_2_code 15 = .ok (.if_icmp .ne 7, 3) := by decide +kernel
theorem d4_18 : decode method_2_code 18 = .ok (.iload_n 1, 1) := by decide +kernel
theorem d4_19 : decode method_2_code 19 = .ok (.iload_n 2, 1) := by decide +kernel
theorem d4_20 : decode method_2_code 20 = .ok (.ixor, 1) := by decide +kernel
theorem d4_21 : decode method_2_code 21 = .ok (.ireturn, 1) := by decide +kernel
theorem d4_22 : decode method_2_code 22 = .ok (.iload_n 1, 1) := by decide +kernel
theorem d4_23 : decode method_2_code 23 = .ok (.iconst 1, 1) := by decide +kernel
theorem d4_24 : decode method_2_code 24 = .ok (.iadd, 1) := by decide +kernel
theorem d4_25 : decode method_2_code 25 = .ok (.ireturn, 1) := by decide +kernel
theorem pn_com_example_halyard_halyard_com_ObjectTypeMatchesPinLaw : plainName "com/example/halyard/halyard/com/ObjectTypeMatchesPinLaw" = true := by first | (simp [plainName, overriddenIn]; done) | decide +kernel
set_option maxHeartbeats 4000000 in
theorem ef_4 (m : MethodId) (x0 : Int32) (x1 : Int32) (x2 : Int32) : entryFrame m #[(.int x0), (.int x1), (.int x2)] 3 = mkF m 0 #[.val (.int x0), .val (.int x1), .val (.int x2)] [] := by first | (simp [entryFrame, mkF, argsToLocals, Value.category]; done) | rfl
def Q4 (Z : State) (x0 : Int32) (x1 : Int32) (x2 : Int32) (h0 : Heap) (n0 : Nat) (v : Option Value) (h : Heap) (L : List Loc) : Prop := v = some (.int (own_pick x0 x1 x2)) ∧ Fr n0 L ∧ h = h0
set_option maxRecDepth 65536 in
set_option maxHeartbeats 40000000 in
theorem rm4 (l : Launch) (Z : State) (a0 : Array Value) (hw : ∀ d ∈ tables_1, d.before a0 Z = true) (ws : List Jvm.Cond) (x0 : Int32) (x1 : Int32) (x2 : Int32) (h0 : Heap) (n0 : Nat) (Z0 : n0 ≤ h0.size) :
    MetFree l (⟨"com/example/halyard/halyard/com/ObjectTypeMatchesPinLaw", "pick", "(III)I"⟩ : MethodName) (head1 (Jvm.Cond.code (⟨"com/example/halyard/halyard/com/ObjectTypeMatchesPinLaw", "pick", "(III)I"⟩ : MethodName) method_2_code 3 (some .int) :: ws) ({ frames := 0, cells := 0, slots := 0, locals := 0 } : Room)) (fun a U => a = #[(.int x0), (.int x1), (.int x2)] ∧ Z.Warmed39 U.vm ∧ U.heap = h0) (fun _ _ _ _ _ => True) (fun _ U o U' => ∃ v L, o = .returned v ∧ Q4 Z x0 x1 x2 h0 n0 v U'.heap L ∧ FrameEnd U o U' L ({ frames := 0, cells := 0, slots := 0, locals := 0 } : Room).cells ({ frames := 0, cells := 0, slots := 0, locals := 0 } : Room).slots) := by
  refine MetFree.of_bodySF (plainFor_of_name pn_com_example_halyard_halyard_com_ObjectTypeMatchesPinLaw) hisR ?_
  intro p e s m args below meth c s₁ Bd hml0 hP hK
  obtain ⟨rfl, hZ, hh⟩ := hP
  have hx := Bd.exec
  have hby := Bd.bytes
  have hml : c.maxLocals = 3 := hml0
  have hown : s.vm.findClass "com/example/halyard/halyard/com/ObjectTypeMatchesPinLaw" = some m.cls := findClass_of_methodNamed Bd.named
  have hnm := (name_of_methodNamed Bd.named Bd.method).1
  have hlk : meth.locks = false := BodyLoose.notSynchronized Bd
  have X0 : Stand p l e ({ frames := 0, cells := 0, slots := 0, locals := 0 } : Room) s m #[(.int x0), (.int x1), (.int x2)] below meth c s₁ [] 0 0 := Stand.of_body Bd
  have e0 : s₁.heap = h0 := by rw [← hh, Bd.state]; rfl
  have N0 := Fr.nil n0
  show own_E p e below s (Q4 Z x0 x1 x2 h0 n0) 0 0 (s₁.setTop (entryFrame m #[(.int x0), (.int x1), (.int x2)] 3))
  refine own_pre (B := s₁.setTop (mkF m 0 #[.val (.int x0), .val (.int x1), .val (.int x2)] [])) ?_ (fun t k => castTop (ef_4 m x0 x1 x2) k)
  refine own_pre (B := s₁.setTop (mkF m 1 #[.val (.int x0), .val (.int x1), .val (.int x2)] [(.int x0)])) ?_ fun t k => XS.iloadN X0.here hx rfl (hb hby d4_0) rfl  k
  by_cases h1_1 : x0 = (0 : Int32)
  · skip
    refine own_pre (B := s₁.setTop (mkF m 4 #[.val (.int x0), .val (.int x1), .val (.int x2)] [])) ?_ fun t k => XS.ifNo X0.here hx rfl (hb hby d4_1) rfl ((if0 _ _).trans (teq h1_1).2) k
    refine own_pre (B := s₁.setTop (mkF m 5 #[.val (.int x0), .val (.int x1), .val (.int x2)] [(.int (0 : Int32))])) ?_ fun t k => XS.iconst X0.here hx rfl (hb hby d4_4) k
    refine own_retI X0 hx hlk Bd.returns (hb hby d4_5) ?_ (by decide) (by decide)
    rw [e0]
    exact ⟨by rw [own_pick, if_pos h1_1], N0, rfl⟩
  · skip
    refine own_pre (B := s₁.setTop (mkF m 6 #[.val (.int x0), .val (.int x1), .val (.int x2)] [])) ?_ fun t k => XS.ifYes X0.here hx rfl (pc0 := 1) (pc' := 6) rfl (hb hby d4_1) rfl ((if0 _ _).trans (feq h1_1).2) (by decide) (by decide) k
    refine own_pre (B := s₁.setTop (mkF m 7 #[.val (.int x0), .val (.int x1), .val (.int x2)] [(.int x0)])) ?_ fun t k => XS.iloadN X0.here hx rfl (hb hby d4_6) rfl  k
    refine own_pre (B := s₁.setTop (mkF m 8 #[.val (.int x0), .val (.int x1), .val (.int x2)] [(.int (1 : Int32)), (.int x0)])) ?_ fun t k => XS.iconst X0.here hx rfl (hb hby d4_7) k
    by_cases h8_2 : x0 = (1 : Int32)
    · skip
      refine own_pre (B := s₁.setTop (mkF m 11 #[.val (.int x0), .val (.int x1), .val (.int x2)] [])) ?_ fun t k => XS.icmpNo X0.here hx rfl (hb hby d4_8) rfl (teq h8_2).2 k
      refine own_pre (B := s₁.setTop (mkF m 12 #[.val (.int x0), .val (.int x1), .val (.int x2)] [(.int x1)])) ?_ fun t k => XS.iloadN X0.here hx rfl (hb hby d4_11) rfl  k
      refine own_retI X0 hx hlk Bd.returns (hb hby d4_12) ?_ (by decide) (by decide)
      rw [e0]
      exact ⟨by rw [own_pick, if_neg h1_1, if_pos h8_2], N0, rfl⟩
    · skip
      refine own_pre (B := s₁.setTop (mkF m 13 #[.val (.int x0), .val (.int x1), .val (.int x2)] [])) ?_ fun t k => XS.icmpYes X0.here hx rfl (pc0 := 8) (pc' := 13) rfl (hb hby d4_8) rfl (feq h8_2).2 (by decide) (by decide) k
      refine own_pre (B := s₁.setTop (mkF m 14 #[.val (.int x0), .val (.int x1), .val (.int x2)] [(.int x0)])) ?_ fun t k => XS.iloadN X0.here hx rfl (hb hby d4_13) rfl  k
      refine own_pre (B := s₁.setTop (mkF m 15 #[.val (.int x0), .val (.int x1), .val (.int x2)] [(.int (2 : Int32)), (.int x0)])) ?_ fun t k => XS.iconst X0.here hx rfl (hb hby d4_14) k
      by_cases h15_3 : x0 = (2 : Int32)
      · skip
        refine own_pre (B := s₁.setTop (mkF m 18 #[.val (.int x0), .val (.int x1), .val (.int x2)] [])) ?_ fun t k => XS.icmpNo X0.here hx rfl (hb hby d4_15) rfl (teq h15_3).2 k
        refine own_pre (B := s₁.setTop (mkF m 19 #[.val (.int x0), .val (.int x1), .val (.int x2)] [(.int x1)])) ?_ fun t k => XS.iloadN X0.here hx rfl (hb hby d4_18) rfl  k
        refine own_pre (B := s₁.setTop (mkF m 20 #[.val (.int x0), .val (.int x1), .val (.int x2)] [(.int x2), (.int x1)])) ?_ fun t k => XS.iloadN X0.here hx rfl (hb hby d4_19) rfl  k
        refine own_pre (B := s₁.setTop (mkF m 21 #[.val (.int x0), .val (.int x1), .val (.int x2)] [(.int (x1 ^^^ x2))])) ?_ fun t k => XS.ixor X0.here hx rfl (hb hby d4_20) rfl k
        refine own_retI X0 hx hlk Bd.returns (hb hby d4_21) ?_ (by decide) (by decide)
        rw [e0]
        exact ⟨by rw [own_pick, if_neg h1_1, if_neg h8_2, if_pos h15_3], N0, rfl⟩
      · skip
        refine own_pre (B := s₁.setTop (mkF m 22 #[.val (.int x0), .val (.int x1), .val (.int x2)] [])) ?_ fun t k => XS.icmpYes X0.here hx rfl (pc0 := 15) (pc' := 22) rfl (hb hby d4_15) rfl (feq h15_3).2 (by decide) (by decide) k
        refine own_pre (B := s₁.setTop (mkF m 23 #[.val (.int x0), .val (.int x1), .val (.int x2)] [(.int x1)])) ?_ fun t k => XS.iloadN X0.here hx rfl (hb hby d4_22) rfl  k
        refine own_pre (B := s₁.setTop (mkF m 24 #[.val (.int x0), .val (.int x1), .val (.int x2)] [(.int (1 : Int32)), (.int x1)])) ?_ fun t k => XS.iconst X0.here hx rfl (hb hby d4_23) k
        refine own_pre (B := s₁.setTop (mkF m 25 #[.val (.int x0), .val (.int x1), .val (.int x2)] [(.int (x1 + (1 : Int32)))])) ?_ fun t k => XS.iadd X0.here hx rfl (hb hby d4_24) rfl k
        refine own_retI X0 hx hlk Bd.returns (hb hby d4_25) ?_ (by decide) (by decide)
        rw [e0]
        exact ⟨by rw [own_pick, if_neg h1_1, if_neg h8_2, if_neg h15_3], N0, rfl⟩
theorem d5_0 : decode method_3_code 0 = .ok (.iload_n 0, 1) := by decide +kernel
theorem d5_1 : decode method_3_code 1 = .ok (.iconst 1, 1) := by decide +kernel
theorem d5_2 : decode method_3_code 2 = .ok (.if_icmp .gt 5, 3) := by decide +kernel
theorem d5_7 : decode method_3_code 7 = .ok (.iload_n 0, 1) := by decide +kernel
theorem d5_8 : decode method_3_code 8 = .ok (.iconst 2, 1) := by decide +kernel
theorem d5_9 : decode method_3_code 9 = .ok (.if_icmp .ne 18, 3) := by decide +kernel
theorem d5_12 : decode method_3_code 12 = .ok (.iload_n 2, 1) := by decide +kernel
theorem d5_13 : decode method_3_code 13 = .ok (.ifCond .eq 8, 3) := by decide +kernel
theorem d5_21 : decode method_3_code 21 = .ok (.iconst 1, 1) := by decide +kernel
theorem d5_22 : decode method_3_code 22 = .ok (.goto 4, 3) := by decide +kernel
theorem d5_26 : decode method_3_code 26 = .ok (.ireturn, 1) := by decide +kernel
theorem d5_16 : decode method_3_code 16 = .ok (.iload_n 1, 1) := by decide +kernel
theorem d5_17 : decode method_3_code 17 = .ok (.iload_n 2, 1) := by decide +kernel
theorem d5_18 : decode method_3_code 18 = .ok (.if_icmp .ne 7, 3) := by decide +kernel
theorem d5_25 : decode method_3_code 25 = .ok (.iconst 0, 1) := by decide +kernel
theorem d5_27 : decode method_3_code 27 = .ok (.iload_n 1, 1) := by decide +kernel
theorem d5_28 : decode method_3_code 28 = .ok (.iconst (-1), 1) := by decide +kernel
theorem d5_29 : decode method_3_code 29 = .ok (.if_icmp .ne 7, 3) := by decide +kernel
theorem d5_32 : decode method_3_code 32 = .ok (.iconst 1, 1) := by decide +kernel
theorem d5_33 : decode method_3_code 33 = .ok (.goto 4, 3) := by decide +kernel
theorem d5_37 : decode method_3_code 37 = .ok (.ireturn, 1) := by decide +kernel
theorem d5_36 : decode method_3_code 36 = .ok (.iconst 0, 1) := by decide +kernel
theorem d5_5 : decode method_3_code 5 = .ok (.iconst 1, 1) := by decide +kernel
theorem d5_6 : decode method_3_code 6 = .ok (.ireturn, 1) := by decide +kernel
set_option maxHeartbeats 4000000 in
theorem ef_5 (m : MethodId) (x0 : Int32) (x1 : Int32) (x2 : Int32) : entryFrame m #[(.int x0), (.int x1), (.int x2)] 3 = mkF m 0 #[.val (.int x0), .val (.int x1), .val (.int x2)] [] := by first | (simp [entryFrame, mkF, argsToLocals, Value.category]; done) | rfl
def Q5 (Z : State) (x0 : Int32) (x1 : Int32) (x2 : Int32) (h0 : Heap) (n0 : Nat) (v : Option Value) (h : Heap) (L : List Loc) : Prop := v = some (.int (own_exp x0 x1 x2)) ∧ Fr n0 L ∧ h = h0
set_option maxRecDepth 65536 in
set_option maxHeartbeats 40000000 in
theorem rm5 (l : Launch) (Z : State) (a0 : Array Value) (hw : ∀ d ∈ tables_1, d.before a0 Z = true) (ws : List Jvm.Cond) (x0 : Int32) (x1 : Int32) (x2 : Int32) (h0 : Heap) (n0 : Nat) (Z0 : n0 ≤ h0.size) :
    MetFree l (⟨"com/example/halyard/halyard/com/ObjectTypeMatchesPinLaw", "expect", "(III)Z"⟩ : MethodName) (head1 (Jvm.Cond.code (⟨"com/example/halyard/halyard/com/ObjectTypeMatchesPinLaw", "expect", "(III)Z"⟩ : MethodName) method_3_code 3 (some .boolean) :: ws) ({ frames := 0, cells := 0, slots := 0, locals := 0 } : Room)) (fun a U => a = #[(.int x0), (.int x1), (.int x2)] ∧ Z.Warmed39 U.vm ∧ U.heap = h0) (fun _ _ _ _ _ => True) (fun _ U o U' => ∃ v L, o = .returned v ∧ Q5 Z x0 x1 x2 h0 n0 v U'.heap L ∧ FrameEnd U o U' L ({ frames := 0, cells := 0, slots := 0, locals := 0 } : Room).cells ({ frames := 0, cells := 0, slots := 0, locals := 0 } : Room).slots) := by
  refine MetFree.of_bodySF (plainFor_of_name pn_com_example_halyard_halyard_com_ObjectTypeMatchesPinLaw) hisR ?_
  intro p e s m args below meth c s₁ Bd hml0 hP hK
  obtain ⟨rfl, hZ, hh⟩ := hP
  have hx := Bd.exec
  have hby := Bd.bytes
  have hml : c.maxLocals = 3 := hml0
  have hown : s.vm.findClass "com/example/halyard/halyard/com/ObjectTypeMatchesPinLaw" = some m.cls := findClass_of_methodNamed Bd.named
  have hnm := (name_of_methodNamed Bd.named Bd.method).1
  have hlk : meth.locks = false := BodyLoose.notSynchronized Bd
  have X0 : Stand p l e ({ frames := 0, cells := 0, slots := 0, locals := 0 } : Room) s m #[(.int x0), (.int x1), (.int x2)] below meth c s₁ [] 0 0 := Stand.of_body Bd
  have e0 : s₁.heap = h0 := by rw [← hh, Bd.state]; rfl
  have N0 := Fr.nil n0
  show own_E p e below s (Q5 Z x0 x1 x2 h0 n0) 0 0 (s₁.setTop (entryFrame m #[(.int x0), (.int x1), (.int x2)] 3))
  refine own_pre (B := s₁.setTop (mkF m 0 #[.val (.int x0), .val (.int x1), .val (.int x2)] [])) ?_ (fun t k => castTop (ef_5 m x0 x1 x2) k)
  refine own_pre (B := s₁.setTop (mkF m 1 #[.val (.int x0), .val (.int x1), .val (.int x2)] [(.int x0)])) ?_ fun t k => XS.iloadN X0.here hx rfl (hb hby d5_0) rfl  k
  refine own_pre (B := s₁.setTop (mkF m 2 #[.val (.int x0), .val (.int x1), .val (.int x2)] [(.int (1 : Int32)), (.int x0)])) ?_ fun t k => XS.iconst X0.here hx rfl (hb hby d5_1) k
  by_cases h2_1 : (1 : Int32) < x0
  · skip
    refine own_pre (B := s₁.setTop (mkF m 7 #[.val (.int x0), .val (.int x1), .val (.int x2)] [])) ?_ fun t k => XS.icmpYes X0.here hx rfl (pc0 := 2) (pc' := 7) rfl (hb hby d5_2) rfl (tlt h2_1).2.2.1 (by decide) (by decide) k
    refine own_pre (B := s₁.setTop (mkF m 8 #[.val (.int x0), .val (.int x1), .val (.int x2)] [(.int x0)])) ?_ fun t k => XS.iloadN X0.here hx rfl (hb hby d5_7) rfl  k
    refine own_pre (B := s₁.setTop (mkF m 9 #[.val (.int x0), .val (.int x1), .val (.int x2)] [(.int (2 : Int32)), (.int x0)])) ?_ fun t k => XS.iconst X0.here hx rfl (hb hby d5_8) k
    by_cases h9_2 : x0 = (2 : Int32)
    · skip
      refine own_pre (B := s₁.setTop (mkF m 12 #[.val (.int x0), .val (.int x1), .val (.int x2)] [])) ?_ fun t k => XS.icmpNo X0.here hx rfl (hb hby d5_9) rfl (teq h9_2).2 k
      refine own_pre (B := s₁.setTop (mkF m 13 #[.val (.int x0), .val (.int x1), .val (.int x2)] [(.int x2)])) ?_ fun t k => XS.iloadN X0.here hx rfl (hb hby d5_12) rfl  k
      by_cases h13_3 : x2 = (0 : Int32)
      · skip
        refine own_pre (B := s₁.setTop (mkF m 21 #[.val (.int x0), .val (.int x1), .val (.int x2)] [])) ?_ fun t k => XS.ifYes X0.here hx rfl (pc0 := 13) (pc' := 21) rfl (hb hby d5_13) rfl ((if0 _ _).trans (teq h13_3).1) (by decide) (by decide) k
        refine own_pre (B := s₁.setTop (mkF m 22 #[.val (.int x0), .val (.int x1), .val (.int x2)] [(.int (1 : Int32))])) ?_ fun t k => XS.iconst X0.here hx rfl (hb hby d5_21) k
        refine own_pre (B := s₁.setTop (mkF m 26 #[.val (.int x0), .val (.int x1), .val (.int x2)] [(.int (1 : Int32))])) ?_ fun t k => XS.goto X0.here hx rfl (pc0 := 22) (pc' := 26) rfl (hb hby d5_22) (by decide) (by decide) k
        refine own_retN X0 hx hlk (t := .boolean) (z' := (1 : Int32)) Bd.returns (by simp) (hb hby d5_26) (by decide) ?_ (by decide) (by decide)
        rw [e0]
        exact ⟨by rw [own_exp, if_pos h2_1, if_pos h9_2, if_pos h13_3], N0, rfl⟩
      · skip
        refine own_pre (B := s₁.setTop (mkF m 16 #[.val (.int x0), .val (.int x1), .val (.int x2)] [])) ?_ fun t k => XS.ifNo X0.here hx rfl (hb hby d5_13) rfl ((if0 _ _).trans (feq h13_3).1) k
        refine own_pre (B := s₁.setTop (mkF m 17 #[.val (.int x0), .val (.int x1), .val (.int x2)] [(.int x1)])) ?_ fun t k => XS.iloadN X0.here hx rfl (hb hby d5_16) rfl  k
        refine own_pre (B := s₁.setTop (mkF m 18 #[.val (.int x0), .val (.int x1), .val (.int x2)] [(.int x2), (.int x1)])) ?_ fun t k => XS.iloadN X0.here hx rfl (hb hby d5_17) rfl  k
        by_cases h18_4 : x1 = x2
        · skip
          refine own_pre (B := s₁.setTop (mkF m 21 #[.val (.int x0), .val (.int x1), .val (.int x2)] [])) ?_ fun t k => XS.icmpNo X0.here hx rfl (hb hby d5_18) rfl (teq h18_4).2 k
          refine own_pre (B := s₁.setTop (mkF m 22 #[.val (.int x0), .val (.int x1), .val (.int x2)] [(.int (1 : Int32))])) ?_ fun t k => XS.iconst X0.here hx rfl (hb hby d5_21) k
          refine own_pre (B := s₁.setTop (mkF m 26 #[.val (.int x0), .val (.int x1), .val (.int x2)] [(.int (1 : Int32))])) ?_ fun t k => XS.goto X0.here hx rfl (pc0 := 22) (pc' := 26) rfl (hb hby d5_22) (by decide) (by decide) k
          refine own_retN X0 hx hlk (t := .boolean) (z' := (1 : Int32)) Bd.returns (by simp) (hb hby d5_26) (by decide) ?_ (by decide) (by decide)
          rw [e0]
          exact ⟨by rw [own_exp, if_pos h2_1, if_pos h9_2, if_neg h13_3, if_pos h18_4], N0, rfl⟩
        · skip
          refine own_pre (B := s₁.setTop (mkF m 25 #[.val (.int x0), .val (.int x1), .val (.int x2)] [])) ?_ fun t k => XS.icmpYes X0.here hx rfl (pc0 := 18) (pc' := 25) rfl (hb hby d5_18) rfl (feq h18_4).2 (by decide) (by decide) k
          refine own_pre (B := s₁.setTop (mkF m 26 #[.val (.int x0), .val (.int x1), .val (.int x2)] [(.int (0 : Int32))])) ?_ fun t k => XS.iconst X0.here hx rfl (hb hby d5_25) k
          refine own_retN X0 hx hlk (t := .boolean) (z' := (0 : Int32)) Bd.returns (by simp) (hb hby d5_26) (by decide) ?_ (by decide) (by decide)
          rw [e0]
          exact ⟨by rw [own_exp, if_pos h2_1, if_pos h9_2, if_neg h13_3, if_neg h18_4], N0, rfl⟩
    · skip
      refine own_pre (B := s₁.setTop (mkF m 27 #[.val (.int x0), .val (.int x1), .val (.int x2)] [])) ?_ fun t k => XS.icmpYes X0.here hx rfl (pc0 := 9) (pc' := 27) rfl (hb hby d5_9) rfl (feq h9_2).2 (by decide) (by decide) k
      refine own_pre (B := s₁.setTop (mkF m 28 #[.val (.int x0), .val (.int x1), .val (.int x2)] [(.int x1)])) ?_ fun t k => XS.iloadN X0.here hx rfl (hb hby d5_27) rfl  k
      refine own_pre (B := s₁.setTop (mkF m 29 #[.val (.int x0), .val (.int x1), .val (.int x2)] [(.int (-1 : Int32)), (.int x1)])) ?_ fun t k => XS.iconst X0.here hx rfl (hb hby d5_28) k
      by_cases h29_5 : x1 = (-1 : Int32)
      · skip
        refine own_pre (B := s₁.setTop (mkF m 32 #[.val (.int x0), .val (.int x1), .val (.int x2)] [])) ?_ fun t k => XS.icmpNo X0.here hx rfl (hb hby d5_29) rfl (teq h29_5).2 k
        refine own_pre (B := s₁.setTop (mkF m 33 #[.val (.int x0), .val (.int x1), .val (.int x2)] [(.int (1 : Int32))])) ?_ fun t k => XS.iconst X0.here hx rfl (hb hby d5_32) k
        refine own_pre (B := s₁.setTop (mkF m 37 #[.val (.int x0), .val (.int x1), .val (.int x2)] [(.int (1 : Int32))])) ?_ fun t k => XS.goto X0.here hx rfl (pc0 := 33) (pc' := 37) rfl (hb hby d5_33) (by decide) (by decide) k
        refine own_retN X0 hx hlk (t := .boolean) (z' := (1 : Int32)) Bd.returns (by simp) (hb hby d5_37) (by decide) ?_ (by decide) (by decide)
        rw [e0]
        exact ⟨by rw [own_exp, if_pos h2_1, if_neg h9_2, if_pos h29_5], N0, rfl⟩
      · skip
        refine own_pre (B := s₁.setTop (mkF m 36 #[.val (.int x0), .val (.int x1), .val (.int x2)] [])) ?_ fun t k => XS.icmpYes X0.here hx rfl (pc0 := 29) (pc' := 36) rfl (hb hby d5_29) rfl (feq h29_5).2 (by decide) (by decide) k
        refine own_pre (B := s₁.setTop (mkF m 37 #[.val (.int x0), .val (.int x1), .val (.int x2)] [(.int (0 : Int32))])) ?_ fun t k => XS.iconst X0.here hx rfl (hb hby d5_36) k
        refine own_retN X0 hx hlk (t := .boolean) (z' := (0 : Int32)) Bd.returns (by simp) (hb hby d5_37) (by decide) ?_ (by decide) (by decide)
        rw [e0]
        exact ⟨by rw [own_exp, if_pos h2_1, if_neg h9_2, if_neg h29_5], N0, rfl⟩
  · skip
    refine own_pre (B := s₁.setTop (mkF m 5 #[.val (.int x0), .val (.int x1), .val (.int x2)] [])) ?_ fun t k => XS.icmpNo X0.here hx rfl (hb hby d5_2) rfl (flt h2_1).2.2.1 k
    refine own_pre (B := s₁.setTop (mkF m 6 #[.val (.int x0), .val (.int x1), .val (.int x2)] [(.int (1 : Int32))])) ?_ fun t k => XS.iconst X0.here hx rfl (hb hby d5_5) k
    refine own_retN X0 hx hlk (t := .boolean) (z' := (1 : Int32)) Bd.returns (by simp) (hb hby d5_6) (by decide) ?_ (by decide) (by decide)
    rw [e0]
    exact ⟨by rw [own_exp, if_neg h2_1], N0, rfl⟩
theorem pd__IIII_V : parseMethodDescriptor "(IIII)V" = some ⟨[.int, .int, .int, .int], none⟩ := by decide +kernel
theorem pd__III_I : parseMethodDescriptor "(III)I" = some ⟨[.int, .int, .int], some .int⟩ := by decide +kernel
theorem pd__III_Z : parseMethodDescriptor "(III)Z" = some ⟨[.int, .int, .int], some .boolean⟩ := by decide +kernel
theorem pd__Lcom_example_halyard_halyard_com_ObjectType__Z : parseMethodDescriptor "(Lcom/example/halyard/halyard/com/ObjectType;)Z" = some ⟨[(.object "com/example/halyard/halyard/com/ObjectType")], some .boolean⟩ := by decide +kernel
set_option maxRecDepth 65536 in
set_option maxHeartbeats 40000000 in
theorem own_fin (x0 : Int32) (x1 : Int32) (x2 : Int32) (x3 : Int32) (x4 : Int32) (x5 : Int32) (mo6 : Int32) (hmmo6 : (x4 &&& (3 : Int32)) = mo6) (mo7 : Int32) (hmmo7 : (((x4.toUInt32 >>> ((2 : Int32) &&& 31).toUInt32).toInt32) &&& (3 : Int32)) = mo7) (mo8 : Int32) (hmmo8 : (((x4.toUInt32 >>> ((4 : Int32) &&& 31).toUInt32).toInt32) &&& (3 : Int32)) = mo8) (mo9 : Int32) (hmmo9 : (((x4.toUInt32 >>> ((6 : Int32) &&& 31).toUInt32).toInt32) &&& (3 : Int32)) = mo9) (j12_s0 : Int32) (hvj12_s0 : j12_s0 = (if (own_exp mo6 x0 x5) = (0 : Int32) then (0 : Int32) else (if (own_exp mo7 x1 x5) = (0 : Int32) then (0 : Int32) else (if (own_exp mo8 x2 x5) = (0 : Int32) then (0 : Int32) else (if (own_exp mo9 x3 x5) = (0 : Int32) then (0 : Int32) else (1 : Int32)))))) : (own_mt (own_pick mo6 x0 x5) x0 (own_pick mo7 x1 x5) x1 (own_pick mo8 x2 x5) x2 (own_pick mo9 x3 x5) x3) = j12_s0 := by
  have o6 := own_one mo6 x0 x5 (own_mode hmmo6)
  have o7 := own_one mo7 x1 x5 (own_mode hmmo7)
  have o8 := own_one mo8 x2 x5 (own_mode hmmo8)
  have o9 := own_one mo9 x3 x5 (own_mode hmmo9)
  rw [hvj12_s0]
  unfold own_mt
  simp only [o6, o7, o8, o9]
  by_cases h6 : own_exp mo6 x0 x5 = 0 <;> by_cases h7 : own_exp mo7 x1 x5 = 0 <;> by_cases h8 : own_exp mo8 x2 x5 = 0 <;> by_cases h9 : own_exp mo9 x3 x5 = 0 <;> simp [h6, h7, h8, h9]
set_option maxHeartbeats 4000000 in
theorem ef_0 (m : MethodId) (x0 : Int32) (x1 : Int32) (x2 : Int32) (x3 : Int32) (x4 : Int32) (x5 : Int32) : entryFrame m #[(.int x0), (.int x1), (.int x2), (.int x3), (.int x4), (.int x5)] maxLocals = mkF m 0 #[.val (.int x0), .val (.int x1), .val (.int x2), .val (.int x3), .val (.int x4), .val (.int x5), .unset, .unset, .unset, .unset, .unset, .unset, .unset] [] := by first | (simp [entryFrame, mkF, argsToLocals, Value.category, maxLocals]; done) | rfl
def Q0 (Z : State) (x0 : Int32) (x1 : Int32) (x2 : Int32) (x3 : Int32) (x4 : Int32) (x5 : Int32) (h0 : Heap) (n0 : Nat) (v : Option Value) (h : Heap) (L : List Loc) : Prop := v = some (.int 1) ∧ Fr n0 L
set_option maxRecDepth 65536 in
set_option maxHeartbeats 40000000 in
theorem rm0 (l : Launch) (Z : State) (a0 : Array Value) (hw : ∀ d ∈ tables_1, d.before a0 Z = true) (ws : List Jvm.Cond) (x0 : Int32) (x1 : Int32) (x2 : Int32) (x3 : Int32) (x4 : Int32) (x5 : Int32) (h0 : Heap) (n0 : Nat) (Z0 : n0 ≤ h0.size) :
    MetFree l x (head1 (Jvm.Cond.code x code maxLocals ret :: ws) room_1) (fun a U => a = #[(.int x0), (.int x1), (.int x2), (.int x3), (.int x4), (.int x5)] ∧ Z.Warmed39 U.vm ∧ U.heap = h0) (fun _ _ _ _ _ => True) (fun _ U o U' => ∃ v L, o = .returned v ∧ Q0 Z x0 x1 x2 x3 x4 x5 h0 n0 v U'.heap L ∧ FrameEnd U o U' L 16 128) := by
  refine MetFree.of_bodySF (plainFor_of_name pn_com_example_halyard_halyard_com_ObjectTypeMatchesPinLaw) hisR ?_
  intro p e s m args below meth c s₁ Bd hml0 hP hK
  obtain ⟨rfl, hZ, hh⟩ := hP
  have hx := Bd.exec
  have hby := Bd.bytes
  have hml : c.maxLocals = 13 := hml0
  have hown : s.vm.findClass "com/example/halyard/halyard/com/ObjectTypeMatchesPinLaw" = some m.cls := findClass_of_methodNamed Bd.named
  have hnm := (name_of_methodNamed Bd.named Bd.method).1
  have hlk : meth.locks = false := BodyLoose.notSynchronized Bd
  have X0 : Stand p l e room_1 s m #[(.int x0), (.int x1), (.int x2), (.int x3), (.int x4), (.int x5)] below meth c s₁ [] 0 0 := Stand.of_body Bd
  have e0 : s₁.heap = h0 := by rw [← hh, Bd.state]; rfl
  have N0 := Fr.nil n0
  show own_E p e below s (Q0 Z x0 x1 x2 x3 x4 x5 h0 n0) 16 128 (s₁.setTop (entryFrame m #[(.int x0), (.int x1), (.int x2), (.int x3), (.int x4), (.int x5)] maxLocals))
  refine own_pre (B := s₁.setTop (mkF m 0 #[.val (.int x0), .val (.int x1), .val (.int x2), .val (.int x3), .val (.int x4), .val (.int x5), .unset, .unset, .unset, .unset, .unset, .unset, .unset] [])) ?_ (fun t k => castTop (ef_0 m x0 x1 x2 x3 x4 x5) k)
  refine own_pre (B := s₁.setTop (mkF m 2 #[.val (.int x0), .val (.int x1), .val (.int x2), .val (.int x3), .val (.int x4), .val (.int x5), .unset, .unset, .unset, .unset, .unset, .unset, .unset] [(.int x4)])) ?_ fun t k => XS.iload X0.here hx rfl (hb hby at_0) rfl  k
  refine own_pre (B := s₁.setTop (mkF m 3 #[.val (.int x0), .val (.int x1), .val (.int x2), .val (.int x3), .val (.int x4), .val (.int x5), .unset, .unset, .unset, .unset, .unset, .unset, .unset] [(.int (3 : Int32)), (.int x4)])) ?_ fun t k => XS.iconst X0.here hx rfl (hb hby at_2) k
  refine own_pre (B := s₁.setTop (mkF m 4 #[.val (.int x0), .val (.int x1), .val (.int x2), .val (.int x3), .val (.int x4), .val (.int x5), .unset, .unset, .unset, .unset, .unset, .unset, .unset] [(.int (x4 &&& (3 : Int32)))])) ?_ fun t k => XS.iand X0.here hx rfl (hb hby at_3) rfl k
  refine own_pre (B := s₁.setTop (mkF m 6 #[.val (.int x0), .val (.int x1), .val (.int x2), .val (.int x3), .val (.int x4), .val (.int x5), .val (.int (x4 &&& (3 : Int32))), .unset, .unset, .unset, .unset, .unset, .unset] [])) ?_ fun t k => XS.istore X0.here hx rfl (hb hby at_4) rfl  (l' := #[.val (.int x0), .val (.int x1), .val (.int x2), .val (.int x3), .val (.int x4), .val (.int x5), .val (.int (x4 &&& (3 : Int32))), .unset, .unset, .unset, .unset, .unset, .unset]) rfl k
  refine own_pre (B := s₁.setTop (mkF m 8 #[.val (.int x0), .val (.int x1), .val (.int x2), .val (.int x3), .val (.int x4), .val (.int x5), .val (.int (x4 &&& (3 : Int32))), .unset, .unset, .unset, .unset, .unset, .unset] [(.int x4)])) ?_ fun t k => XS.iload X0.here hx rfl (hb hby at_6) rfl  k
  refine own_pre (B := s₁.setTop (mkF m 9 #[.val (.int x0), .val (.int x1), .val (.int x2), .val (.int x3), .val (.int x4), .val (.int x5), .val (.int (x4 &&& (3 : Int32))), .unset, .unset, .unset, .unset, .unset, .unset] [(.int (2 : Int32)), (.int x4)])) ?_ fun t k => XS.iconst X0.here hx rfl (hb hby at_8) k
  refine own_pre (B := s₁.setTop (mkF m 10 #[.val (.int x0), .val (.int x1), .val (.int x2), .val (.int x3), .val (.int x4), .val (.int x5), .val (.int (x4 &&& (3 : Int32))), .unset, .unset, .unset, .unset, .unset, .unset] [(.int ((x4.toUInt32 >>> ((2 : Int32) &&& 31).toUInt32).toInt32))])) ?_ fun t k => XS.iushr X0.here hx rfl (hb hby at_9) rfl k
  refine own_pre (B := s₁.setTop (mkF m 11 #[.val (.int x0), .val (.int x1), .val (.int x2), .val (.int x3), .val (.int x4), .val (.int x5), .val (.int (x4 &&& (3 : Int32))), .unset, .unset, .unset, .unset, .unset, .unset] [(.int (3 : Int32)), (.int ((x4.toUInt32 >>> ((2 : Int32) &&& 31).toUInt32).toInt32))])) ?_ fun t k => XS.iconst X0.here hx rfl (hb hby at_10) k
  refine own_pre (B := s₁.setTop (mkF m 12 #[.val (.int x0), .val (.int x1), .val (.int x2), .val (.int x3), .val (.int x4), .val (.int x5), .val (.int (x4 &&& (3 : Int32))), .unset, .unset, .unset, .unset, .unset, .unset] [(.int (((x4.toUInt32 >>> ((2 : Int32) &&& 31).toUInt32).toInt32) &&& (3 : Int32)))])) ?_ fun t k => XS.iand X0.here hx rfl (hb hby at_11) rfl k
  refine own_pre (B := s₁.setTop (mkF m 14 #[.val (.int x0), .val (.int x1), .val (.int x2), .val (.int x3), .val (.int x4), .val (.int x5), .val (.int (x4 &&& (3 : Int32))), .val (.int (((x4.toUInt32 >>> ((2 : Int32) &&& 31).toUInt32).toInt32) &&& (3 : Int32))), .unset, .unset, .unset, .unset, .unset] [])) ?_ fun t k => XS.istore X0.here hx rfl (hb hby at_12) rfl  (l' := #[.val (.int x0), .val (.int x1), .val (.int x2), .val (.int x3), .val (.int x4), .val (.int x5), .val (.int (x4 &&& (3 : Int32))), .val (.int (((x4.toUInt32 >>> ((2 : Int32) &&& 31).toUInt32).toInt32) &&& (3 : Int32))), .unset, .unset, .unset, .unset, .unset]) rfl k
  refine own_pre (B := s₁.setTop (mkF m 16 #[.val (.int x0), .val (.int x1), .val (.int x2), .val (.int x3), .val (.int x4), .val (.int x5), .val (.int (x4 &&& (3 : Int32))), .val (.int (((x4.toUInt32 >>> ((2 : Int32) &&& 31).toUInt32).toInt32) &&& (3 : Int32))), .unset, .unset, .unset, .unset, .unset] [(.int x4)])) ?_ fun t k => XS.iload X0.here hx rfl (hb hby at_14) rfl  k
  refine own_pre (B := s₁.setTop (mkF m 17 #[.val (.int x0), .val (.int x1), .val (.int x2), .val (.int x3), .val (.int x4), .val (.int x5), .val (.int (x4 &&& (3 : Int32))), .val (.int (((x4.toUInt32 >>> ((2 : Int32) &&& 31).toUInt32).toInt32) &&& (3 : Int32))), .unset, .unset, .unset, .unset, .unset] [(.int (4 : Int32)), (.int x4)])) ?_ fun t k => XS.iconst X0.here hx rfl (hb hby at_16) k
  refine own_pre (B := s₁.setTop (mkF m 18 #[.val (.int x0), .val (.int x1), .val (.int x2), .val (.int x3), .val (.int x4), .val (.int x5), .val (.int (x4 &&& (3 : Int32))), .val (.int (((x4.toUInt32 >>> ((2 : Int32) &&& 31).toUInt32).toInt32) &&& (3 : Int32))), .unset, .unset, .unset, .unset, .unset] [(.int ((x4.toUInt32 >>> ((4 : Int32) &&& 31).toUInt32).toInt32))])) ?_ fun t k => XS.iushr X0.here hx rfl (hb hby at_17) rfl k
  refine own_pre (B := s₁.setTop (mkF m 19 #[.val (.int x0), .val (.int x1), .val (.int x2), .val (.int x3), .val (.int x4), .val (.int x5), .val (.int (x4 &&& (3 : Int32))), .val (.int (((x4.toUInt32 >>> ((2 : Int32) &&& 31).toUInt32).toInt32) &&& (3 : Int32))), .unset, .unset, .unset, .unset, .unset] [(.int (3 : Int32)), (.int ((x4.toUInt32 >>> ((4 : Int32) &&& 31).toUInt32).toInt32))])) ?_ fun t k => XS.iconst X0.here hx rfl (hb hby at_18) k
  refine own_pre (B := s₁.setTop (mkF m 20 #[.val (.int x0), .val (.int x1), .val (.int x2), .val (.int x3), .val (.int x4), .val (.int x5), .val (.int (x4 &&& (3 : Int32))), .val (.int (((x4.toUInt32 >>> ((2 : Int32) &&& 31).toUInt32).toInt32) &&& (3 : Int32))), .unset, .unset, .unset, .unset, .unset] [(.int (((x4.toUInt32 >>> ((4 : Int32) &&& 31).toUInt32).toInt32) &&& (3 : Int32)))])) ?_ fun t k => XS.iand X0.here hx rfl (hb hby at_19) rfl k
  refine own_pre (B := s₁.setTop (mkF m 22 #[.val (.int x0), .val (.int x1), .val (.int x2), .val (.int x3), .val (.int x4), .val (.int x5), .val (.int (x4 &&& (3 : Int32))), .val (.int (((x4.toUInt32 >>> ((2 : Int32) &&& 31).toUInt32).toInt32) &&& (3 : Int32))), .val (.int (((x4.toUInt32 >>> ((4 : Int32) &&& 31).toUInt32).toInt32) &&& (3 : Int32))), .unset, .unset, .unset, .unset] [])) ?_ fun t k => XS.istore X0.here hx rfl (hb hby at_20) rfl  (l' := #[.val (.int x0), .val (.int x1), .val (.int x2), .val (.int x3), .val (.int x4), .val (.int x5), .val (.int (x4 &&& (3 : Int32))), .val (.int (((x4.toUInt32 >>> ((2 : Int32) &&& 31).toUInt32).toInt32) &&& (3 : Int32))), .val (.int (((x4.toUInt32 >>> ((4 : Int32) &&& 31).toUInt32).toInt32) &&& (3 : Int32))), .unset, .unset, .unset, .unset]) rfl k
  refine own_pre (B := s₁.setTop (mkF m 24 #[.val (.int x0), .val (.int x1), .val (.int x2), .val (.int x3), .val (.int x4), .val (.int x5), .val (.int (x4 &&& (3 : Int32))), .val (.int (((x4.toUInt32 >>> ((2 : Int32) &&& 31).toUInt32).toInt32) &&& (3 : Int32))), .val (.int (((x4.toUInt32 >>> ((4 : Int32) &&& 31).toUInt32).toInt32) &&& (3 : Int32))), .unset, .unset, .unset, .unset] [(.int x4)])) ?_ fun t k => XS.iload X0.here hx rfl (hb hby at_22) rfl  k
  refine own_pre (B := s₁.setTop (mkF m 26 #[.val (.int x0), .val (.int x1), .val (.int x2), .val (.int x3), .val (.int x4), .val (.int x5), .val (.int (x4 &&& (3 : Int32))), .val (.int (((x4.toUInt32 >>> ((2 : Int32) &&& 31).toUInt32).toInt32) &&& (3 : Int32))), .val (.int (((x4.toUInt32 >>> ((4 : Int32) &&& 31).toUInt32).toInt32) &&& (3 : Int32))), .unset, .unset, .unset, .unset] [(.int (6 : Int32)), (.int x4)])) ?_ fun t k => XS.bipush X0.here hx rfl (hb hby at_24) k
  refine own_pre (B := s₁.setTop (mkF m 27 #[.val (.int x0), .val (.int x1), .val (.int x2), .val (.int x3), .val (.int x4), .val (.int x5), .val (.int (x4 &&& (3 : Int32))), .val (.int (((x4.toUInt32 >>> ((2 : Int32) &&& 31).toUInt32).toInt32) &&& (3 : Int32))), .val (.int (((x4.toUInt32 >>> ((4 : Int32) &&& 31).toUInt32).toInt32) &&& (3 : Int32))), .unset, .unset, .unset, .unset] [(.int ((x4.toUInt32 >>> ((6 : Int32) &&& 31).toUInt32).toInt32))])) ?_ fun t k => XS.iushr X0.here hx rfl (hb hby at_26) rfl k
  refine own_pre (B := s₁.setTop (mkF m 28 #[.val (.int x0), .val (.int x1), .val (.int x2), .val (.int x3), .val (.int x4), .val (.int x5), .val (.int (x4 &&& (3 : Int32))), .val (.int (((x4.toUInt32 >>> ((2 : Int32) &&& 31).toUInt32).toInt32) &&& (3 : Int32))), .val (.int (((x4.toUInt32 >>> ((4 : Int32) &&& 31).toUInt32).toInt32) &&& (3 : Int32))), .unset, .unset, .unset, .unset] [(.int (3 : Int32)), (.int ((x4.toUInt32 >>> ((6 : Int32) &&& 31).toUInt32).toInt32))])) ?_ fun t k => XS.iconst X0.here hx rfl (hb hby at_27) k
  refine own_pre (B := s₁.setTop (mkF m 29 #[.val (.int x0), .val (.int x1), .val (.int x2), .val (.int x3), .val (.int x4), .val (.int x5), .val (.int (x4 &&& (3 : Int32))), .val (.int (((x4.toUInt32 >>> ((2 : Int32) &&& 31).toUInt32).toInt32) &&& (3 : Int32))), .val (.int (((x4.toUInt32 >>> ((4 : Int32) &&& 31).toUInt32).toInt32) &&& (3 : Int32))), .unset, .unset, .unset, .unset] [(.int (((x4.toUInt32 >>> ((6 : Int32) &&& 31).toUInt32).toInt32) &&& (3 : Int32)))])) ?_ fun t k => XS.iand X0.here hx rfl (hb hby at_28) rfl k
  refine own_pre (B := s₁.setTop (mkF m 31 #[.val (.int x0), .val (.int x1), .val (.int x2), .val (.int x3), .val (.int x4), .val (.int x5), .val (.int (x4 &&& (3 : Int32))), .val (.int (((x4.toUInt32 >>> ((2 : Int32) &&& 31).toUInt32).toInt32) &&& (3 : Int32))), .val (.int (((x4.toUInt32 >>> ((4 : Int32) &&& 31).toUInt32).toInt32) &&& (3 : Int32))), .val (.int (((x4.toUInt32 >>> ((6 : Int32) &&& 31).toUInt32).toInt32) &&& (3 : Int32))), .unset, .unset, .unset] [])) ?_ fun t k => XS.istore X0.here hx rfl (hb hby at_29) rfl  (l' := #[.val (.int x0), .val (.int x1), .val (.int x2), .val (.int x3), .val (.int x4), .val (.int x5), .val (.int (x4 &&& (3 : Int32))), .val (.int (((x4.toUInt32 >>> ((2 : Int32) &&& 31).toUInt32).toInt32) &&& (3 : Int32))), .val (.int (((x4.toUInt32 >>> ((4 : Int32) &&& 31).toUInt32).toInt32) &&& (3 : Int32))), .val (.int (((x4.toUInt32 >>> ((6 : Int32) &&& 31).toUInt32).toInt32) &&& (3 : Int32))), .unset, .unset, .unset]) rfl k
  generalize hmmo6 : (x4 &&& (3 : Int32)) = mo6
  generalize hmmo7 : (((x4.toUInt32 >>> ((2 : Int32) &&& 31).toUInt32).toInt32) &&& (3 : Int32)) = mo7
  generalize hmmo8 : (((x4.toUInt32 >>> ((4 : Int32) &&& 31).toUInt32).toInt32) &&& (3 : Int32)) = mo8
  generalize hmmo9 : (((x4.toUInt32 >>> ((6 : Int32) &&& 31).toUInt32).toInt32) &&& (3 : Int32)) = mo9
  obtain ⟨T1, h1, X1, e1, E1, A1, D1, -, st1⟩ := newO X0 hx hZ hown (hw _ (List.mem_of_getElem? (i := 0) rfl)) (hw _ (List.mem_of_getElem? (i := 1) rfl)) (hw _ (List.mem_of_getElem? (i := 2) rfl)) e0 (g := (mkF m 31 #[.val (.int x0), .val (.int x1), .val (.int x2), .val (.int x3), .val (.int x4), .val (.int x5), .val (.int mo6), .val (.int mo7), .val (.int mo8), .val (.int mo9), .unset, .unset, .unset] [])) rfl (hb hby at_31) (by decide) (by decide)
  obtain ⟨b1, g1⟩ : ∃ z, z = h0.size := ⟨_, rfl⟩
  rw [← g1] at A1 D1 st1
  have Z1 : n0 ≤ h1.size := Nat.le_trans Z0 E1.1
  have gz1 : n0 ≤ b1 := Nat.le_trans Z0 (Nat.le_of_eq g1.symm)
  have F1_area : Fld Z h1 b1 "com/example/halyard/halyard/com/ObjectType" "area" "I" (.int (0 : Int32)) := D1 (Or.inr (hw _ (List.mem_of_getElem? (i := 15) rfl))) (ty := .int) (by decide)
  have F1_service : Fld Z h1 b1 "com/example/halyard/halyard/com/ObjectType" "service" "I" (.int (0 : Int32)) := D1 (Or.inr (hw _ (List.mem_of_getElem? (i := 17) rfl))) (ty := .int) (by decide)
  have F1_version : Fld Z h1 b1 "com/example/halyard/halyard/com/ObjectType" "version" "I" (.int (0 : Int32)) := D1 (Or.inr (hw _ (List.mem_of_getElem? (i := 19) rfl))) (ty := .int) (by decide)
  have F1_number : Fld Z h1 b1 "com/example/halyard/halyard/com/ObjectType" "number" "I" (.int (0 : Int32)) := D1 (Or.inr (hw _ (List.mem_of_getElem? (i := 21) rfl))) (ty := .int) (by decide)
  refine own_pre (B := T1.setTop (mkF m 34 #[.val (.int x0), .val (.int x1), .val (.int x2), .val (.int x3), .val (.int x4), .val (.int x5), .val (.int mo6), .val (.int mo7), .val (.int mo8), .val (.int mo9), .unset, .unset, .unset] [(.ref b1)])) ?_ st1
  refine own_pre (B := T1.setTop (mkF m 35 #[.val (.int x0), .val (.int x1), .val (.int x2), .val (.int x3), .val (.int x4), .val (.int x5), .val (.int mo6), .val (.int mo7), .val (.int mo8), .val (.int mo9), .unset, .unset, .unset] [(.ref b1), (.ref b1)])) ?_ fun t k => XS.dup X1.here hx rfl (hb hby at_34) rfl rfl k
  refine own_pre (B := T1.setTop (mkF m 36 #[.val (.int x0), .val (.int x1), .val (.int x2), .val (.int x3), .val (.int x4), .val (.int x5), .val (.int mo6), .val (.int mo7), .val (.int mo8), .val (.int mo9), .unset, .unset, .unset] [(.int x0), (.ref b1), (.ref b1)])) ?_ fun t k => XS.iloadN X1.here hx rfl (hb hby at_35) rfl  k
  refine own_pre (B := T1.setTop (mkF m 37 #[.val (.int x0), .val (.int x1), .val (.int x2), .val (.int x3), .val (.int x4), .val (.int x5), .val (.int mo6), .val (.int mo7), .val (.int mo8), .val (.int mo9), .unset, .unset, .unset] [(.int x1), (.int x0), (.ref b1), (.ref b1)])) ?_ fun t k => XS.iloadN X1.here hx rfl (hb hby at_36) rfl  k
  refine own_pre (B := T1.setTop (mkF m 38 #[.val (.int x0), .val (.int x1), .val (.int x2), .val (.int x3), .val (.int x4), .val (.int x5), .val (.int mo6), .val (.int mo7), .val (.int mo8), .val (.int mo9), .unset, .unset, .unset] [(.int x2), (.int x1), (.int x0), (.ref b1), (.ref b1)])) ?_ fun t k => XS.iloadN X1.here hx rfl (hb hby at_37) rfl  k
  refine own_pre (B := T1.setTop (mkF m 39 #[.val (.int x0), .val (.int x1), .val (.int x2), .val (.int x3), .val (.int x4), .val (.int x5), .val (.int mo6), .val (.int mo7), .val (.int mo8), .val (.int mo9), .unset, .unset, .unset] [(.int x3), (.int x2), (.int x1), (.int x0), (.ref b1), (.ref b1)])) ?_ fun t k => XS.iloadN X1.here hx rfl (hb hby at_38) rfl  k
  obtain ⟨_, _, ⟨T2, L2, k2, n2⟩, -, X2, ⟨Lc2, hQ2, l2, y2, z2⟩, st2⟩ := X1.specialBack hx (y := (⟨"com/example/halyard/halyard/com/ObjectType", "<init>", "(IIII)V"⟩ : MethodName)) rfl hown (mvT hZ (hw _ (List.mem_of_getElem? (i := 3) rfl))) (mvT hZ (hw _ (List.mem_of_getElem? (i := 4) rfl))) (mvT hZ (hw _ (List.mem_of_getElem? (i := 5) rfl))) (by decide) (backOf (W := 1) (rm1 l Z a0 hw [] b1 x0 x1 x2 x3 h1 n0 Z1 A1 F1_area F1_service F1_version F1_number gz1) hZ (hw _ (List.mem_of_getElem? (i := 5) rfl)) (hw _ (List.mem_of_getElem? (i := 2) rfl)) (by decide) (by decide)) (g := (mkF m 39 #[.val (.int x0), .val (.int x1), .val (.int x2), .val (.int x3), .val (.int x4), .val (.int x5), .val (.int mo6), .val (.int mo7), .val (.int mo8), .val (.int mo9), .unset, .unset, .unset] [(.int x3), (.int x2), (.int x1), (.int x0), (.ref b1), (.ref b1)])) rfl (by rw [hml]; rfl) (Steps.refl _) (a := b1) (argsL := [(.int x0), (.int x1), (.int x2), (.int x3)]) (rest := [(.ref b1)]) (lenOf pd__IIII_V rfl) rfl (by show 2 * 0 + _ ≤ _; exact Nat.le_of_eq rfl) (hb hby at_39) (fun _ _ => ⟨rfl, e1, (by decide : 1 + 0 ≤ _), (by decide : 4 + 0 ≤ _)⟩)
  dsimp only [Pt.U, Pt.locs, Pt.cells, Pt.slots] at X2 l2 y2 z2 st2 hQ2
  subst l2 y2 z2
  obtain ⟨rfl, Nq2, K2, E2, F2_area, F2_service, F2_version, F2_number⟩ := hQ2
  have N2 := Fr.app N0 Nq2
  have Z2 := Nat.le_trans Z1 K2.1
  refine own_pre (B := T2.setTop (mkF m 42 #[.val (.int x0), .val (.int x1), .val (.int x2), .val (.int x3), .val (.int x4), .val (.int x5), .val (.int mo6), .val (.int mo7), .val (.int mo8), .val (.int mo9), .unset, .unset, .unset] [(.ref b1)])) ?_ (fun t k => st2.trans k)
  refine own_pre (B := T2.setTop (mkF m 44 #[.val (.int x0), .val (.int x1), .val (.int x2), .val (.int x3), .val (.int x4), .val (.int x5), .val (.int mo6), .val (.int mo7), .val (.int mo8), .val (.int mo9), .val (.ref b1), .unset, .unset] [])) ?_ fun t k => XS.astore X2.here hx rfl (hb hby at_42) rfl rfl (l' := #[.val (.int x0), .val (.int x1), .val (.int x2), .val (.int x3), .val (.int x4), .val (.int x5), .val (.int mo6), .val (.int mo7), .val (.int mo8), .val (.int mo9), .val (.ref b1), .unset, .unset]) rfl k
  obtain ⟨T3, h3, X3, e3, E3, A3, D3, -, st3⟩ := newO X2 hx hZ hown (hw _ (List.mem_of_getElem? (i := 0) rfl)) (hw _ (List.mem_of_getElem? (i := 1) rfl)) (hw _ (List.mem_of_getElem? (i := 2) rfl)) rfl (g := (mkF m 44 #[.val (.int x0), .val (.int x1), .val (.int x2), .val (.int x3), .val (.int x4), .val (.int x5), .val (.int mo6), .val (.int mo7), .val (.int mo8), .val (.int mo9), .val (.ref b1), .unset, .unset] [])) rfl (hb hby at_44) (by decide) (by decide)
  obtain ⟨b3, g3⟩ : ∃ z, z = T2.heap.size := ⟨_, rfl⟩
  rw [← g3] at A3 D3 st3
  have ne4 : b1 ≠ b3 := Nat.ne_of_lt (Nat.lt_of_lt_of_le E2.lt (Nat.le_of_eq g3.symm))
  have Z3 : n0 ≤ h3.size := Nat.le_trans Z2 E3.1
  have gz3 : n0 ≤ b3 := Nat.le_trans Z2 (Nat.le_of_eq g3.symm)
  have F3_area : Fld Z h3 b3 "com/example/halyard/halyard/com/ObjectType" "area" "I" (.int (0 : Int32)) := D3 (Or.inr (hw _ (List.mem_of_getElem? (i := 15) rfl))) (ty := .int) (by decide)
  have F3_service : Fld Z h3 b3 "com/example/halyard/halyard/com/ObjectType" "service" "I" (.int (0 : Int32)) := D3 (Or.inr (hw _ (List.mem_of_getElem? (i := 17) rfl))) (ty := .int) (by decide)
  have F3_version : Fld Z h3 b3 "com/example/halyard/halyard/com/ObjectType" "version" "I" (.int (0 : Int32)) := D3 (Or.inr (hw _ (List.mem_of_getElem? (i := 19) rfl))) (ty := .int) (by decide)
  have F3_number : Fld Z h3 b3 "com/example/halyard/halyard/com/ObjectType" "number" "I" (.int (0 : Int32)) := D3 (Or.inr (hw _ (List.mem_of_getElem? (i := 21) rfl))) (ty := .int) (by decide)
  refine own_pre (B := T3.setTop (mkF m 47 #[.val (.int x0), .val (.int x1), .val (.int x2), .val (.int x3), .val (.int x4), .val (.int x5), .val (.int mo6), .val (.int mo7), .val (.int mo8), .val (.int mo9), .val (.ref b1), .unset, .unset] [(.ref b3)])) ?_ st3
  refine own_pre (B := T3.setTop (mkF m 48 #[.val (.int x0), .val (.int x1), .val (.int x2), .val (.int x3), .val (.int x4), .val (.int x5), .val (.int mo6), .val (.int mo7), .val (.int mo8), .val (.int mo9), .val (.ref b1), .unset, .unset] [(.ref b3), (.ref b3)])) ?_ fun t k => XS.dup X3.here hx rfl (hb hby at_47) rfl rfl k
  refine own_pre (B := T3.setTop (mkF m 50 #[.val (.int x0), .val (.int x1), .val (.int x2), .val (.int x3), .val (.int x4), .val (.int x5), .val (.int mo6), .val (.int mo7), .val (.int mo8), .val (.int mo9), .val (.ref b1), .unset, .unset] [(.int mo6), (.ref b3), (.ref b3)])) ?_ fun t k => XS.iload X3.here hx rfl (hb hby at_48) rfl  k
  refine own_pre (B := T3.setTop (mkF m 51 #[.val (.int x0), .val (.int x1), .val (.int x2), .val (.int x3), .val (.int x4), .val (.int x5), .val (.int mo6), .val (.int mo7), .val (.int mo8), .val (.int mo9), .val (.ref b1), .unset, .unset] [(.int x0), (.int mo6), (.ref b3), (.ref b3)])) ?_ fun t k => XS.iloadN X3.here hx rfl (hb hby at_50) rfl  k
  refine own_pre (B := T3.setTop (mkF m 53 #[.val (.int x0), .val (.int x1), .val (.int x2), .val (.int x3), .val (.int x4), .val (.int x5), .val (.int mo6), .val (.int mo7), .val (.int mo8), .val (.int mo9), .val (.ref b1), .unset, .unset] [(.int x5), (.int x0), (.int mo6), (.ref b3), (.ref b3)])) ?_ fun t k => XS.iload X3.here hx rfl (hb hby at_51) rfl  k
  obtain ⟨_, _, ⟨T5, L5, k5, n5⟩, -, X5, ⟨Lc5, hQ5, l5, y5, z5⟩, st5⟩ := Jvm.LawKit.callS X3 hx (y := (⟨"com/example/halyard/halyard/com/ObjectTypeMatchesPinLaw", "pick", "(III)I"⟩ : MethodName)) hown (mvT hZ (hw _ (List.mem_of_getElem? (i := 22) rfl))) (mvT hZ (hw _ (List.mem_of_getElem? (i := 23) rfl))) (mvT hZ (hw _ (List.mem_of_getElem? (i := 24) rfl))) (mvT hZ (hw _ (List.mem_of_getElem? (i := 25) rfl))) (by decide) (backOf (W := 2) (rm4 l Z a0 hw [] mo6 x0 x5 h3 n0 Z3 ) hZ (hw _ (List.mem_of_getElem? (i := 25) rfl)) (hw _ (List.mem_of_getElem? (i := 24) rfl)) (by decide) (by decide)) (g := (mkF m 53 #[.val (.int x0), .val (.int x1), .val (.int x2), .val (.int x3), .val (.int x4), .val (.int x5), .val (.int mo6), .val (.int mo7), .val (.int mo8), .val (.int mo9), .val (.ref b1), .unset, .unset] [(.int x5), (.int x0), (.int mo6), (.ref b3), (.ref b3)])) rfl (by rw [hml]; rfl) (argsL := [(.int mo6), (.int x0), (.int x5)]) (rest := [(.ref b3), (.ref b3)]) (lenOf pd__III_I rfl) rfl (by show 2 * 0 + _ ≤ _; exact Nat.le_of_eq rfl) (hb hby at_53) (fun _ _ => ⟨rfl, e3, (by decide : 2 + 0 ≤ _), (by decide : 8 + 0 ≤ _)⟩)
  dsimp only [Pt.U, Pt.locs, Pt.cells, Pt.slots] at X5 l5 y5 z5 st5 hQ5
  subst l5 y5 z5
  obtain ⟨rfl, Nq5, e5⟩ := hQ5
  have N5 := Fr.app N2 Nq5
  refine own_pre (B := T5.setTop (mkF m 56 #[.val (.int x0), .val (.int x1), .val (.int x2), .val (.int x3), .val (.int x4), .val (.int x5), .val (.int mo6), .val (.int mo7), .val (.int mo8), .val (.int mo9), .val (.ref b1), .unset, .unset] [(.int (own_pick mo6 x0 x5)), (.ref b3), (.ref b3)])) ?_ st5
  refine own_pre (B := T5.setTop (mkF m 58 #[.val (.int x0), .val (.int x1), .val (.int x2), .val (.int x3), .val (.int x4), .val (.int x5), .val (.int mo6), .val (.int mo7), .val (.int mo8), .val (.int mo9), .val (.ref b1), .unset, .unset] [(.int mo7), (.int (own_pick mo6 x0 x5)), (.ref b3), (.ref b3)])) ?_ fun t k => XS.iload X5.here hx rfl (hb hby at_56) rfl  k
  refine own_pre (B := T5.setTop (mkF m 59 #[.val (.int x0), .val (.int x1), .val (.int x2), .val (.int x3), .val (.int x4), .val (.int x5), .val (.int mo6), .val (.int mo7), .val (.int mo8), .val (.int mo9), .val (.ref b1), .unset, .unset] [(.int x1), (.int mo7), (.int (own_pick mo6 x0 x5)), (.ref b3), (.ref b3)])) ?_ fun t k => XS.iloadN X5.here hx rfl (hb hby at_58) rfl  k
  refine own_pre (B := T5.setTop (mkF m 61 #[.val (.int x0), .val (.int x1), .val (.int x2), .val (.int x3), .val (.int x4), .val (.int x5), .val (.int mo6), .val (.int mo7), .val (.int mo8), .val (.int mo9), .val (.ref b1), .unset, .unset] [(.int x5), (.int x1), (.int mo7), (.int (own_pick mo6 x0 x5)), (.ref b3), (.ref b3)])) ?_ fun t k => XS.iload X5.here hx rfl (hb hby at_59) rfl  k
  obtain ⟨_, _, ⟨T6, L6, k6, n6⟩, -, X6, ⟨Lc6, hQ6, l6, y6, z6⟩, st6⟩ := Jvm.LawKit.callS X5 hx (y := (⟨"com/example/halyard/halyard/com/ObjectTypeMatchesPinLaw", "pick", "(III)I"⟩ : MethodName)) hown (mvT hZ (hw _ (List.mem_of_getElem? (i := 22) rfl))) (mvT hZ (hw _ (List.mem_of_getElem? (i := 23) rfl))) (mvT hZ (hw _ (List.mem_of_getElem? (i := 24) rfl))) (mvT hZ (hw _ (List.mem_of_getElem? (i := 25) rfl))) (by decide) (backOf (W := 3) (rm4 l Z a0 hw [] mo7 x1 x5 h3 n0 Z3 ) hZ (hw _ (List.mem_of_getElem? (i := 25) rfl)) (hw _ (List.mem_of_getElem? (i := 24) rfl)) (by decide) (by decide)) (g := (mkF m 61 #[.val (.int x0), .val (.int x1), .val (.int x2), .val (.int x3), .val (.int x4), .val (.int x5), .val (.int mo6), .val (.int mo7), .val (.int mo8), .val (.int mo9), .val (.ref b1), .unset, .unset] [(.int x5), (.int x1), (.int mo7), (.int (own_pick mo6 x0 x5)), (.ref b3), (.ref b3)])) rfl (by rw [hml]; rfl) (argsL := [(.int mo7), (.int x1), (.int x5)]) (rest := [(.int (own_pick mo6 x0 x5)), (.ref b3), (.ref b3)]) (lenOf pd__III_I rfl) rfl (by show 2 * 0 + _ ≤ _; exact Nat.le_of_eq rfl) (hb hby at_61) (fun _ _ => ⟨rfl, e5, (by decide : 2 + 0 ≤ _), (by decide : 8 + 0 ≤ _)⟩)
  dsimp only [Pt.U, Pt.locs, Pt.cells, Pt.slots] at X6 l6 y6 z6 st6 hQ6
  subst l6 y6 z6
  obtain ⟨rfl, Nq6, e6⟩ := hQ6
  have N6 := Fr.app N5 Nq6
  refine own_pre (B := T6.setTop (mkF m 64 #[.val (.int x0), .val (.int x1), .val (.int x2), .val (.int x3), .val (.int x4), .val (.int x5), .val (.int mo6), .val (.int mo7), .val (.int mo8), .val (.int mo9), .val (.ref b1), .unset, .unset] [(.int (own_pick mo7 x1 x5)), (.int (own_pick mo6 x0 x5)), (.ref b3), (.ref b3)])) ?_ st6
  refine own_pre (B := T6.setTop (mkF m 66 #[.val (.int x0), .val (.int x1), .val (.int x2), .val (.int x3), .val (.int x4), .val (.int x5), .val (.int mo6), .val (.int mo7), .val (.int mo8), .val (.int mo9), .val (.ref b1), .unset, .unset] [(.int mo8), (.int (own_pick mo7 x1 x5)), (.int (own_pick mo6 x0 x5)), (.ref b3), (.ref b3)])) ?_ fun t k => XS.iload X6.here hx rfl (hb hby at_64) rfl  k
  refine own_pre (B := T6.setTop (mkF m 67 #[.val (.int x0), .val (.int x1), .val (.int x2), .val (.int x3), .val (.int x4), .val (.int x5), .val (.int mo6), .val (.int mo7), .val (.int mo8), .val (.int mo9), .val (.ref b1), .unset, .unset] [(.int x2), (.int mo8), (.int (own_pick mo7 x1 x5)), (.int (own_pick mo6 x0 x5)), (.ref b3), (.ref b3)])) ?_ fun t k => XS.iloadN X6.here hx rfl (hb hby at_66) rfl  k
  refine own_pre (B := T6.setTop (mkF m 69 #[.val (.int x0), .val (.int x1), .val (.int x2), .val (.int x3), .val (.int x4), .val (.int x5), .val (.int mo6), .val (.int mo7), .val (.int mo8), .val (.int mo9), .val (.ref b1), .unset, .unset] [(.int x5), (.int x2), (.int mo8), (.int (own_pick mo7 x1 x5)), (.int (own_pick mo6 x0 x5)), (.ref b3), (.ref b3)])) ?_ fun t k => XS.iload X6.here hx rfl (hb hby at_67) rfl  k
  obtain ⟨_, _, ⟨T7, L7, k7, n7⟩, -, X7, ⟨Lc7, hQ7, l7, y7, z7⟩, st7⟩ := Jvm.LawKit.callS X6 hx (y := (⟨"com/example/halyard/halyard/com/ObjectTypeMatchesPinLaw", "pick", "(III)I"⟩ : MethodName)) hown (mvT hZ (hw _ (List.mem_of_getElem? (i := 22) rfl))) (mvT hZ (hw _ (List.mem_of_getElem? (i := 23) rfl))) (mvT hZ (hw _ (List.mem_of_getElem? (i := 24) rfl))) (mvT hZ (hw _ (List.mem_of_getElem? (i := 25) rfl))) (by decide) (backOf (W := 4) (rm4 l Z a0 hw [] mo8 x2 x5 h3 n0 Z3 ) hZ (hw _ (List.mem_of_getElem? (i := 25) rfl)) (hw _ (List.mem_of_getElem? (i := 24) rfl)) (by decide) (by decide)) (g := (mkF m 69 #[.val (.int x0), .val (.int x1), .val (.int x2), .val (.int x3), .val (.int x4), .val (.int x5), .val (.int mo6), .val (.int mo7), .val (.int mo8), .val (.int mo9), .val (.ref b1), .unset, .unset] [(.int x5), (.int x2), (.int mo8), (.int (own_pick mo7 x1 x5)), (.int (own_pick mo6 x0 x5)), (.ref b3), (.ref b3)])) rfl (by rw [hml]; rfl) (argsL := [(.int mo8), (.int x2), (.int x5)]) (rest := [(.int (own_pick mo7 x1 x5)), (.int (own_pick mo6 x0 x5)), (.ref b3), (.ref b3)]) (lenOf pd__III_I rfl) rfl (by show 2 * 0 + _ ≤ _; exact Nat.le_of_eq rfl) (hb hby at_69) (fun _ _ => ⟨rfl, e6, (by decide : 2 + 0 ≤ _), (by decide : 8 + 0 ≤ _)⟩)
  dsimp only [Pt.U, Pt.locs, Pt.cells, Pt.slots] at X7 l7 y7 z7 st7 hQ7
  subst l7 y7 z7
  obtain ⟨rfl, Nq7, e7⟩ := hQ7
  have N7 := Fr.app N6 Nq7
  refine own_pre (B := T7.setTop (mkF m 72 #[.val (.int x0), .val (.int x1), .val (.int x2), .val (.int x3), .val (.int x4), .val (.int x5), .val (.int mo6), .val (.int mo7), .val (.int mo8), .val (.int mo9), .val (.ref b1), .unset, .unset] [(.int (own_pick mo8 x2 x5)), (.int (own_pick mo7 x1 x5)), (.int (own_pick mo6 x0 x5)), (.ref b3), (.ref b3)])) ?_ st7
  refine own_pre (B := T7.setTop (mkF m 74 #[.val (.int x0), .val (.int x1), .val (.int x2), .val (.int x3), .val (.int x4), .val (.int x5), .val (.int mo6), .val (.int mo7), .val (.int mo8), .val (.int mo9), .val (.ref b1), .unset, .unset] [(.int mo9), (.int (own_pick mo8 x2 x5)), (.int (own_pick mo7 x1 x5)), (.int (own_pick mo6 x0 x5)), (.ref b3), (.ref b3)])) ?_ fun t k => XS.iload X7.here hx rfl (hb hby at_72) rfl  k
  refine own_pre (B := T7.setTop (mkF m 75 #[.val (.int x0), .val (.int x1), .val (.int x2), .val (.int x3), .val (.int x4), .val (.int x5), .val (.int mo6), .val (.int mo7), .val (.int mo8), .val (.int mo9), .val (.ref b1), .unset, .unset] [(.int x3), (.int mo9), (.int (own_pick mo8 x2 x5)), (.int (own_pick mo7 x1 x5)), (.int (own_pick mo6 x0 x5)), (.ref b3), (.ref b3)])) ?_ fun t k => XS.iloadN X7.here hx rfl (hb hby at_74) rfl  k
  refine own_pre (B := T7.setTop (mkF m 77 #[.val (.int x0), .val (.int x1), .val (.int x2), .val (.int x3), .val (.int x4), .val (.int x5), .val (.int mo6), .val (.int mo7), .val (.int mo8), .val (.int mo9), .val (.ref b1), .unset, .unset] [(.int x5), (.int x3), (.int mo9), (.int (own_pick mo8 x2 x5)), (.int (own_pick mo7 x1 x5)), (.int (own_pick mo6 x0 x5)), (.ref b3), (.ref b3)])) ?_ fun t k => XS.iload X7.here hx rfl (hb hby at_75) rfl  k
  obtain ⟨_, _, ⟨T8, L8, k8, n8⟩, -, X8, ⟨Lc8, hQ8, l8, y8, z8⟩, st8⟩ := Jvm.LawKit.callS X7 hx (y := (⟨"com/example/halyard/halyard/com/ObjectTypeMatchesPinLaw", "pick", "(III)I"⟩ : MethodName)) hown (mvT hZ (hw _ (List.mem_of_getElem? (i := 22) rfl))) (mvT hZ (hw _ (List.mem_of_getElem? (i := 23) rfl))) (mvT hZ (hw _ (List.mem_of_getElem? (i := 24) rfl))) (mvT hZ (hw _ (List.mem_of_getElem? (i := 25) rfl))) (by decide) (backOf (W := 5) (rm4 l Z a0 hw [] mo9 x3 x5 h3 n0 Z3 ) hZ (hw _ (List.mem_of_getElem? (i := 25) rfl)) (hw _ (List.mem_of_getElem? (i := 24) rfl)) (by decide) (by decide)) (g := (mkF m 77 #[.val (.int x0), .val (.int x1), .val (.int x2), .val (.int x3), .val (.int x4), .val (.int x5), .val (.int mo6), .val (.int mo7), .val (.int mo8), .val (.int mo9), .val (.ref b1), .unset, .unset] [(.int x5), (.int x3), (.int mo9), (.int (own_pick mo8 x2 x5)), (.int (own_pick mo7 x1 x5)), (.int (own_pick mo6 x0 x5)), (.ref b3), (.ref b3)])) rfl (by rw [hml]; rfl) (argsL := [(.int mo9), (.int x3), (.int x5)]) (rest := [(.int (own_pick mo8 x2 x5)), (.int (own_pick mo7 x1 x5)), (.int (own_pick mo6 x0 x5)), (.ref b3), (.ref b3)]) (lenOf pd__III_I rfl) rfl (by show 2 * 0 + _ ≤ _; exact Nat.le_of_eq rfl) (hb hby at_77) (fun _ _ => ⟨rfl, e7, (by decide : 2 + 0 ≤ _), (by decide : 8 + 0 ≤ _)⟩)
  dsimp only [Pt.U, Pt.locs, Pt.cells, Pt.slots] at X8 l8 y8 z8 st8 hQ8
  subst l8 y8 z8
  obtain ⟨rfl, Nq8, e8⟩ := hQ8
  have N8 := Fr.app N7 Nq8
  refine own_pre (B := T8.setTop (mkF m 80 #[.val (.int x0), .val (.int x1), .val (.int x2), .val (.int x3), .val (.int x4), .val (.int x5), .val (.int mo6), .val (.int mo7), .val (.int mo8), .val (.int mo9), .val (.ref b1), .unset, .unset] [(.int (own_pick mo9 x3 x5)), (.int (own_pick mo8 x2 x5)), (.int (own_pick mo7 x1 x5)), (.int (own_pick mo6 x0 x5)), (.ref b3), (.ref b3)])) ?_ st8
  obtain ⟨_, _, ⟨T9, L9, k9, n9⟩, -, X9, ⟨Lc9, hQ9, l9, y9, z9⟩, st9⟩ := X8.specialBack hx (y := (⟨"com/example/halyard/halyard/com/ObjectType", "<init>", "(IIII)V"⟩ : MethodName)) rfl hown (mvT hZ (hw _ (List.mem_of_getElem? (i := 3) rfl))) (mvT hZ (hw _ (List.mem_of_getElem? (i := 4) rfl))) (mvT hZ (hw _ (List.mem_of_getElem? (i := 5) rfl))) (by decide) (backOf (W := 1) (rm1 l Z a0 hw [] b3 (own_pick mo6 x0 x5) (own_pick mo7 x1 x5) (own_pick mo8 x2 x5) (own_pick mo9 x3 x5) h3 n0 Z3 A3 F3_area F3_service F3_version F3_number gz3) hZ (hw _ (List.mem_of_getElem? (i := 5) rfl)) (hw _ (List.mem_of_getElem? (i := 2) rfl)) (by decide) (by decide)) (g := (mkF m 80 #[.val (.int x0), .val (.int x1), .val (.int x2), .val (.int x3), .val (.int x4), .val (.int x5), .val (.int mo6), .val (.int mo7), .val (.int mo8), .val (.int mo9), .val (.ref b1), .unset, .unset] [(.int (own_pick mo9 x3 x5)), (.int (own_pick mo8 x2 x5)), (.int (own_pick mo7 x1 x5)), (.int (own_pick mo6 x0 x5)), (.ref b3), (.ref b3)])) rfl (by rw [hml]; rfl) (Steps.refl _) (a := b3) (argsL := [(.int (own_pick mo6 x0 x5)), (.int (own_pick mo7 x1 x5)), (.int (own_pick mo8 x2 x5)), (.int (own_pick mo9 x3 x5))]) (rest := [(.ref b3)]) (lenOf pd__IIII_V rfl) rfl (by show 2 * 0 + _ ≤ _; exact Nat.le_of_eq rfl) (hb hby at_80) (fun _ _ => ⟨rfl, e8, (by decide : 2 + 0 ≤ _), (by decide : 8 + 0 ≤ _)⟩)
  dsimp only [Pt.U, Pt.locs, Pt.cells, Pt.slots] at X9 l9 y9 z9 st9 hQ9
  subst l9 y9 z9
  obtain ⟨rfl, Nq9, K9, E9, F9_area, F9_service, F9_version, F9_number⟩ := hQ9
  have N9 := Fr.app N8 Nq9
  have Z9 := Nat.le_trans Z3 K9.1
  refine own_pre (B := T9.setTop (mkF m 83 #[.val (.int x0), .val (.int x1), .val (.int x2), .val (.int x3), .val (.int x4), .val (.int x5), .val (.int mo6), .val (.int mo7), .val (.int mo8), .val (.int mo9), .val (.ref b1), .unset, .unset] [(.ref b3)])) ?_ (fun t k => st9.trans k)
  refine own_pre (B := T9.setTop (mkF m 85 #[.val (.int x0), .val (.int x1), .val (.int x2), .val (.int x3), .val (.int x4), .val (.int x5), .val (.int mo6), .val (.int mo7), .val (.int mo8), .val (.int mo9), .val (.ref b1), .val (.ref b3), .unset] [])) ?_ fun t k => XS.astore X9.here hx rfl (hb hby at_83) rfl rfl (l' := #[.val (.int x0), .val (.int x1), .val (.int x2), .val (.int x3), .val (.int x4), .val (.int x5), .val (.int mo6), .val (.int mo7), .val (.int mo8), .val (.int mo9), .val (.ref b1), .val (.ref b3), .unset]) rfl k
  refine own_pre (B := T9.setTop (mkF m 87 #[.val (.int x0), .val (.int x1), .val (.int x2), .val (.int x3), .val (.int x4), .val (.int x5), .val (.int mo6), .val (.int mo7), .val (.int mo8), .val (.int mo9), .val (.ref b1), .val (.ref b3), .unset] [(.int mo6)])) ?_ fun t k => XS.iload X9.here hx rfl (hb hby at_85) rfl  k
  refine own_pre (B := T9.setTop (mkF m 88 #[.val (.int x0), .val (.int x1), .val (.int x2), .val (.int x3), .val (.int x4), .val (.int x5), .val (.int mo6), .val (.int mo7), .val (.int mo8), .val (.int mo9), .val (.ref b1), .val (.ref b3), .unset] [(.int x0), (.int mo6)])) ?_ fun t k => XS.iloadN X9.here hx rfl (hb hby at_87) rfl  k
  refine own_pre (B := T9.setTop (mkF m 90 #[.val (.int x0), .val (.int x1), .val (.int x2), .val (.int x3), .val (.int x4), .val (.int x5), .val (.int mo6), .val (.int mo7), .val (.int mo8), .val (.int mo9), .val (.ref b1), .val (.ref b3), .unset] [(.int x5), (.int x0), (.int mo6)])) ?_ fun t k => XS.iload X9.here hx rfl (hb hby at_88) rfl  k
  obtain ⟨_, _, ⟨T10, L10, k10, n10⟩, -, X10, ⟨Lc10, hQ10, l10, y10, z10⟩, st10⟩ := Jvm.LawKit.callS X9 hx (y := (⟨"com/example/halyard/halyard/com/ObjectTypeMatchesPinLaw", "expect", "(III)Z"⟩ : MethodName)) hown (mvT hZ (hw _ (List.mem_of_getElem? (i := 26) rfl))) (mvT hZ (hw _ (List.mem_of_getElem? (i := 27) rfl))) (mvT hZ (hw _ (List.mem_of_getElem? (i := 24) rfl))) (mvT hZ (hw _ (List.mem_of_getElem? (i := 28) rfl))) (by decide) (backOf (W := 0) (rm5 l Z a0 hw [] mo6 x0 x5 T9.heap n0 Z9 ) hZ (hw _ (List.mem_of_getElem? (i := 28) rfl)) (hw _ (List.mem_of_getElem? (i := 24) rfl)) (by decide) (by decide)) (g := (mkF m 90 #[.val (.int x0), .val (.int x1), .val (.int x2), .val (.int x3), .val (.int x4), .val (.int x5), .val (.int mo6), .val (.int mo7), .val (.int mo8), .val (.int mo9), .val (.ref b1), .val (.ref b3), .unset] [(.int x5), (.int x0), (.int mo6)])) rfl (by rw [hml]; rfl) (argsL := [(.int mo6), (.int x0), (.int x5)]) (rest := []) (lenOf pd__III_Z rfl) rfl (by show 2 * 0 + _ ≤ _; exact Nat.le_of_eq rfl) (hb hby at_90) (fun _ _ => ⟨rfl, rfl, (by decide : 2 + 0 ≤ _), (by decide : 8 + 0 ≤ _)⟩)
  dsimp only [Pt.U, Pt.locs, Pt.cells, Pt.slots] at X10 l10 y10 z10 st10 hQ10
  subst l10 y10 z10
  obtain ⟨rfl, Nq10, e10⟩ := hQ10
  have N10 := Fr.app N9 Nq10
  refine own_pre (B := T10.setTop (mkF m 93 #[.val (.int x0), .val (.int x1), .val (.int x2), .val (.int x3), .val (.int x4), .val (.int x5), .val (.int mo6), .val (.int mo7), .val (.int mo8), .val (.int mo9), .val (.ref b1), .val (.ref b3), .unset] [(.int (own_exp mo6 x0 x5))])) ?_ st10
  have Jj12 : ∀ (T13 : State) (l13 : List Loc) (X13 : Stand p l e room_1 s m #[(.int x0), (.int x1), (.int x2), (.int x3), (.int x4), (.int x5)] below meth c T13 l13 2 8) (N13 : Fr n0 l13) (e13 : T13.heap = T9.heap) (j12_s0 : Int32) (hvj12_s0 : j12_s0 = (if (own_exp mo6 x0 x5) = (0 : Int32) then (0 : Int32) else (if (own_exp mo7 x1 x5) = (0 : Int32) then (0 : Int32) else (if (own_exp mo8 x2 x5) = (0 : Int32) then (0 : Int32) else (if (own_exp mo9 x3 x5) = (0 : Int32) then (0 : Int32) else (1 : Int32)))))), own_E p e below s (Q0 Z x0 x1 x2 x3 x4 x5 h0 n0) 16 128 (T13.setTop (mkF m 134 #[.val (.int x0), .val (.int x1), .val (.int x2), .val (.int x3), .val (.int x4), .val (.int x5), .val (.int mo6), .val (.int mo7), .val (.int mo8), .val (.int mo9), .val (.ref b1), .val (.ref b3), .unset] [(.int j12_s0)])) := by
    intro T13 l13 X13 N13 e13 j12_s0 hvj12_s0
    refine own_pre (B := T13.setTop (mkF m 136 #[.val (.int x0), .val (.int x1), .val (.int x2), .val (.int x3), .val (.int x4), .val (.int x5), .val (.int mo6), .val (.int mo7), .val (.int mo8), .val (.int mo9), .val (.ref b1), .val (.ref b3), .val (.int j12_s0)] [])) ?_ fun t k => XS.istore X13.here hx rfl (hb hby at_134) rfl  (l' := #[.val (.int x0), .val (.int x1), .val (.int x2), .val (.int x3), .val (.int x4), .val (.int x5), .val (.int mo6), .val (.int mo7), .val (.int mo8), .val (.int mo9), .val (.ref b1), .val (.ref b3), .val (.int j12_s0)]) rfl k
    refine own_pre (B := T13.setTop (mkF m 138 #[.val (.int x0), .val (.int x1), .val (.int x2), .val (.int x3), .val (.int x4), .val (.int x5), .val (.int mo6), .val (.int mo7), .val (.int mo8), .val (.int mo9), .val (.ref b1), .val (.ref b3), .val (.int j12_s0)] [(.ref b3)])) ?_ fun t k => XS.aload X13.here hx rfl (hb hby at_136) rfl rfl k
    refine own_pre (B := T13.setTop (mkF m 140 #[.val (.int x0), .val (.int x1), .val (.int x2), .val (.int x3), .val (.int x4), .val (.int x5), .val (.int mo6), .val (.int mo7), .val (.int mo8), .val (.int mo9), .val (.ref b1), .val (.ref b3), .val (.int j12_s0)] [(.ref b1), (.ref b3)])) ?_ fun t k => XS.aload X13.here hx rfl (hb hby at_138) rfl rfl k
    have f15 := ((F2_area.ext E3).keep K9 (ninS ne4 nin0))
    have f16 := ((F2_service.ext E3).keep K9 (ninS ne4 nin0))
    have f17 := ((F2_version.ext E3).keep K9 (ninS ne4 nin0))
    have f18 := ((F2_number.ext E3).keep K9 (ninS ne4 nin0))
    obtain ⟨cq14, kq14, q14a, q14b, q14c⟩ := isOf hZ e13 E9
    obtain ⟨_, _, ⟨T14, L14, k14, n14⟩, -, X14, ⟨Lc14, hQ14, l14, y14, z14⟩, st14⟩ := X13.virtualBack hx (y := (⟨"com/example/halyard/halyard/com/ObjectType", "matches", "(Lcom/example/halyard/halyard/com/ObjectType;)Z"⟩ : MethodName)) (z := (⟨"com/example/halyard/halyard/com/ObjectType", "matches", "(Lcom/example/halyard/halyard/com/ObjectType;)Z"⟩ : MethodName)) hown (mvT hZ (hw _ (List.mem_of_getElem? (i := 29) rfl))) (mvT hZ (hw _ (List.mem_of_getElem? (i := 30) rfl))) (notFace_of_selects (args := #[]) (mvT hZ (hw _ (List.mem_of_getElem? (i := 32) rfl)))) (mvT hZ (hw _ (List.mem_of_getElem? (i := 32) rfl))) (mvT hZ (hw _ (List.mem_of_getElem? (i := 31) rfl))) (by decide) (backOf (W := 0) (rm6 l Z a0 hw [] b3 b1 (own_pick mo6 x0 x5) (own_pick mo7 x1 x5) (own_pick mo8 x2 x5) (own_pick mo9 x3 x5) x0 x1 x2 x3 T9.heap n0 Z9 F9_area F9_service F9_version F9_number f15 f16 f17 f18) hZ (hw _ (List.mem_of_getElem? (i := 33) rfl)) (hw _ (List.mem_of_getElem? (i := 2) rfl)) (by decide) (by decide)) q14a q14c (g := (mkF m 140 #[.val (.int x0), .val (.int x1), .val (.int x2), .val (.int x3), .val (.int x4), .val (.int x5), .val (.int mo6), .val (.int mo7), .val (.int mo8), .val (.int mo9), .val (.ref b1), .val (.ref b3), .val (.int j12_s0)] [(.ref b1), (.ref b3)])) rfl (by rw [hml]; rfl) (Steps.refl _) (argsL := [(.ref b1)]) (rest := []) (lenOf pd__Lcom_example_halyard_halyard_com_ObjectType__Z rfl) rfl (by show 2 * 0 + _ ≤ _; exact Nat.le_of_eq rfl) (hb hby at_140) (fun _ _ => ⟨rfl, e13, (by decide : 2 + 0 ≤ _), (by decide : 8 + 0 ≤ _)⟩)
    dsimp only [Pt.U, Pt.locs, Pt.cells, Pt.slots] at X14 l14 y14 z14 st14 hQ14
    subst l14 y14 z14
    obtain ⟨rfl, Nq14, e14⟩ := hQ14
    have N14 := Fr.app N13 Nq14
    refine own_pre (B := T14.setTop (mkF m 143 #[.val (.int x0), .val (.int x1), .val (.int x2), .val (.int x3), .val (.int x4), .val (.int x5), .val (.int mo6), .val (.int mo7), .val (.int mo8), .val (.int mo9), .val (.ref b1), .val (.ref b3), .val (.int j12_s0)] [(.int (own_mt (own_pick mo6 x0 x5) x0 (own_pick mo7 x1 x5) x1 (own_pick mo8 x2 x5) x2 (own_pick mo9 x3 x5) x3))])) ?_ (fun t k => st14.trans k)
    refine own_pre (B := T14.setTop (mkF m 145 #[.val (.int x0), .val (.int x1), .val (.int x2), .val (.int x3), .val (.int x4), .val (.int x5), .val (.int mo6), .val (.int mo7), .val (.int mo8), .val (.int mo9), .val (.ref b1), .val (.ref b3), .val (.int j12_s0)] [(.int j12_s0), (.int (own_mt (own_pick mo6 x0 x5) x0 (own_pick mo7 x1 x5) x1 (own_pick mo8 x2 x5) x2 (own_pick mo9 x3 x5) x3))])) ?_ fun t k => XS.iload X14.here hx rfl (hb hby at_143) rfl  k
    refine own_pre (B := T14.setTop (mkF m 148 #[.val (.int x0), .val (.int x1), .val (.int x2), .val (.int x3), .val (.int x4), .val (.int x5), .val (.int mo6), .val (.int mo7), .val (.int mo8), .val (.int mo9), .val (.ref b1), .val (.ref b3), .val (.int j12_s0)] [])) ?_ fun t k => XS.icmpNo X14.here hx rfl (hb hby at_145) rfl (teq (own_fin x0 x1 x2 x3 x4 x5 mo6 hmmo6 mo7 hmmo7 mo8 hmmo8 mo9 hmmo9 j12_s0 hvj12_s0)).2 k
    refine own_pre (B := T14.setTop (mkF m 149 #[.val (.int x0), .val (.int x1), .val (.int x2), .val (.int x3), .val (.int x4), .val (.int x5), .val (.int mo6), .val (.int mo7), .val (.int mo8), .val (.int mo9), .val (.ref b1), .val (.ref b3), .val (.int j12_s0)] [(.int (1 : Int32))])) ?_ fun t k => XS.iconst X14.here hx rfl (hb hby at_148) k
    refine own_pre (B := T14.setTop (mkF m 153 #[.val (.int x0), .val (.int x1), .val (.int x2), .val (.int x3), .val (.int x4), .val (.int x5), .val (.int mo6), .val (.int mo7), .val (.int mo8), .val (.int mo9), .val (.ref b1), .val (.ref b3), .val (.int j12_s0)] [(.int (1 : Int32))])) ?_ fun t k => XS.goto X14.here hx rfl (pc0 := 149) (pc' := 153) rfl (hb hby at_149) (by decide) (by decide) k
    refine own_retN X14 hx hlk (t := .boolean) (z' := (1 : Int32)) Bd.returns (by simp) (hb hby at_153) (by decide) ?_ (by decide) (by decide)
    rw [e14]
    exact ⟨rfl, N14⟩
  by_cases h93_11 : (own_exp mo6 x0 x5) = (0 : Int32)
  · skip
    refine own_pre (B := T10.setTop (mkF m 133 #[.val (.int x0), .val (.int x1), .val (.int x2), .val (.int x3), .val (.int x4), .val (.int x5), .val (.int mo6), .val (.int mo7), .val (.int mo8), .val (.int mo9), .val (.ref b1), .val (.ref b3), .unset] [])) ?_ fun t k => XS.ifYes X10.here hx rfl (pc0 := 93) (pc' := 133) rfl (hb hby at_93) rfl ((if0 _ _).trans (teq h93_11).1) (by decide) (by decide) k
    refine own_pre (B := T10.setTop (mkF m 134 #[.val (.int x0), .val (.int x1), .val (.int x2), .val (.int x3), .val (.int x4), .val (.int x5), .val (.int mo6), .val (.int mo7), .val (.int mo8), .val (.int mo9), .val (.ref b1), .val (.ref b3), .unset] [(.int (0 : Int32))])) ?_ fun t k => XS.iconst X10.here hx rfl (hb hby at_133) k
    exact Jj12 T10 _ X10 N10 e10 ((0 : Int32)) (if_pos h93_11).symm
  · skip
    refine own_pre (B := T10.setTop (mkF m 96 #[.val (.int x0), .val (.int x1), .val (.int x2), .val (.int x3), .val (.int x4), .val (.int x5), .val (.int mo6), .val (.int mo7), .val (.int mo8), .val (.int mo9), .val (.ref b1), .val (.ref b3), .unset] [])) ?_ fun t k => XS.ifNo X10.here hx rfl (hb hby at_93) rfl ((if0 _ _).trans (feq h93_11).1) k
    refine own_pre (B := T10.setTop (mkF m 98 #[.val (.int x0), .val (.int x1), .val (.int x2), .val (.int x3), .val (.int x4), .val (.int x5), .val (.int mo6), .val (.int mo7), .val (.int mo8), .val (.int mo9), .val (.ref b1), .val (.ref b3), .unset] [(.int mo7)])) ?_ fun t k => XS.iload X10.here hx rfl (hb hby at_96) rfl  k
    refine own_pre (B := T10.setTop (mkF m 99 #[.val (.int x0), .val (.int x1), .val (.int x2), .val (.int x3), .val (.int x4), .val (.int x5), .val (.int mo6), .val (.int mo7), .val (.int mo8), .val (.int mo9), .val (.ref b1), .val (.ref b3), .unset] [(.int x1), (.int mo7)])) ?_ fun t k => XS.iloadN X10.here hx rfl (hb hby at_98) rfl  k
    refine own_pre (B := T10.setTop (mkF m 101 #[.val (.int x0), .val (.int x1), .val (.int x2), .val (.int x3), .val (.int x4), .val (.int x5), .val (.int mo6), .val (.int mo7), .val (.int mo8), .val (.int mo9), .val (.ref b1), .val (.ref b3), .unset] [(.int x5), (.int x1), (.int mo7)])) ?_ fun t k => XS.iload X10.here hx rfl (hb hby at_99) rfl  k
    obtain ⟨_, _, ⟨T19, L19, k19, n19⟩, -, X19, ⟨Lc19, hQ19, l19, y19, z19⟩, st19⟩ := Jvm.LawKit.callS X10 hx (y := (⟨"com/example/halyard/halyard/com/ObjectTypeMatchesPinLaw", "expect", "(III)Z"⟩ : MethodName)) hown (mvT hZ (hw _ (List.mem_of_getElem? (i := 26) rfl))) (mvT hZ (hw _ (List.mem_of_getElem? (i := 27) rfl))) (mvT hZ (hw _ (List.mem_of_getElem? (i := 24) rfl))) (mvT hZ (hw _ (List.mem_of_getElem? (i := 28) rfl))) (by decide) (backOf (W := 0) (rm5 l Z a0 hw [] mo7 x1 x5 T9.heap n0 Z9 ) hZ (hw _ (List.mem_of_getElem? (i := 28) rfl)) (hw _ (List.mem_of_getElem? (i := 24) rfl)) (by decide) (by decide)) (g := (mkF m 101 #[.val (.int x0), .val (.int x1), .val (.int x2), .val (.int x3), .val (.int x4), .val (.int x5), .val (.int mo6), .val (.int mo7), .val (.int mo8), .val (.int mo9), .val (.ref b1), .val (.ref b3), .unset] [(.int x5), (.int x1), (.int mo7)])) rfl (by rw [hml]; rfl) (argsL := [(.int mo7), (.int x1), (.int x5)]) (rest := []) (lenOf pd__III_Z rfl) rfl (by show 2 * 0 + _ ≤ _; exact Nat.le_of_eq rfl) (hb hby at_101) (fun _ _ => ⟨rfl, e10, (by decide : 2 + 0 ≤ _), (by decide : 8 + 0 ≤ _)⟩)
    dsimp only [Pt.U, Pt.locs, Pt.cells, Pt.slots] at X19 l19 y19 z19 st19 hQ19
    subst l19 y19 z19
    obtain ⟨rfl, Nq19, e19⟩ := hQ19
    have N19 := Fr.app N10 Nq19
    refine own_pre (B := T19.setTop (mkF m 104 #[.val (.int x0), .val (.int x1), .val (.int x2), .val (.int x3), .val (.int x4), .val (.int x5), .val (.int mo6), .val (.int mo7), .val (.int mo8), .val (.int mo9), .val (.ref b1), .val (.ref b3), .unset] [(.int (own_exp mo7 x1 x5))])) ?_ st19
    by_cases h104_20 : (own_exp mo7 x1 x5) = (0 : Int32)
    · skip
      refine own_pre (B := T19.setTop (mkF m 133 #[.val (.int x0), .val (.int x1), .val (.int x2), .val (.int x3), .val (.int x4), .val (.int x5), .val (.int mo6), .val (.int mo7), .val (.int mo8), .val (.int mo9), .val (.ref b1), .val (.ref b3), .unset] [])) ?_ fun t k => XS.ifYes X19.here hx rfl (pc0 := 104) (pc' := 133) rfl (hb hby at_104) rfl ((if0 _ _).trans (teq h104_20).1) (by decide) (by decide) k
      refine own_pre (B := T19.setTop (mkF m 134 #[.val (.int x0), .val (.int x1), .val (.int x2), .val (.int x3), .val (.int x4), .val (.int x5), .val (.int mo6), .val (.int mo7), .val (.int mo8), .val (.int mo9), .val (.ref b1), .val (.ref b3), .unset] [(.int (0 : Int32))])) ?_ fun t k => XS.iconst X19.here hx rfl (hb hby at_133) k
      exact Jj12 T19 _ X19 N19 e19 ((0 : Int32)) ((if_neg h93_11).trans (if_pos h104_20)).symm
    · skip
      refine own_pre (B := T19.setTop (mkF m 107 #[.val (.int x0), .val (.int x1), .val (.int x2), .val (.int x3), .val (.int x4), .val (.int x5), .val (.int mo6), .val (.int mo7), .val (.int mo8), .val (.int mo9), .val (.ref b1), .val (.ref b3), .unset] [])) ?_ fun t k => XS.ifNo X19.here hx rfl (hb hby at_104) rfl ((if0 _ _).trans (feq h104_20).1) k
      refine own_pre (B := T19.setTop (mkF m 109 #[.val (.int x0), .val (.int x1), .val (.int x2), .val (.int x3), .val (.int x4), .val (.int x5), .val (.int mo6), .val (.int mo7), .val (.int mo8), .val (.int mo9), .val (.ref b1), .val (.ref b3), .unset] [(.int mo8)])) ?_ fun t k => XS.iload X19.here hx rfl (hb hby at_107) rfl  k
      refine own_pre (B := T19.setTop (mkF m 110 #[.val (.int x0), .val (.int x1), .val (.int x2), .val (.int x3), .val (.int x4), .val (.int x5), .val (.int mo6), .val (.int mo7), .val (.int mo8), .val (.int mo9), .val (.ref b1), .val (.ref b3), .unset] [(.int x2), (.int mo8)])) ?_ fun t k => XS.iloadN X19.here hx rfl (hb hby at_109) rfl  k
      refine own_pre (B := T19.setTop (mkF m 112 #[.val (.int x0), .val (.int x1), .val (.int x2), .val (.int x3), .val (.int x4), .val (.int x5), .val (.int mo6), .val (.int mo7), .val (.int mo8), .val (.int mo9), .val (.ref b1), .val (.ref b3), .unset] [(.int x5), (.int x2), (.int mo8)])) ?_ fun t k => XS.iload X19.here hx rfl (hb hby at_110) rfl  k
      obtain ⟨_, _, ⟨T21, L21, k21, n21⟩, -, X21, ⟨Lc21, hQ21, l21, y21, z21⟩, st21⟩ := Jvm.LawKit.callS X19 hx (y := (⟨"com/example/halyard/halyard/com/ObjectTypeMatchesPinLaw", "expect", "(III)Z"⟩ : MethodName)) hown (mvT hZ (hw _ (List.mem_of_getElem? (i := 26) rfl))) (mvT hZ (hw _ (List.mem_of_getElem? (i := 27) rfl))) (mvT hZ (hw _ (List.mem_of_getElem? (i := 24) rfl))) (mvT hZ (hw _ (List.mem_of_getElem? (i := 28) rfl))) (by decide) (backOf (W := 0) (rm5 l Z a0 hw [] mo8 x2 x5 T9.heap n0 Z9 ) hZ (hw _ (List.mem_of_getElem? (i := 28) rfl)) (hw _ (List.mem_of_getElem? (i := 24) rfl)) (by decide) (by decide)) (g := (mkF m 112 #[.val (.int x0), .val (.int x1), .val (.int x2), .val (.int x3), .val (.int x4), .val (.int x5), .val (.int mo6), .val (.int mo7), .val (.int mo8), .val (.int mo9), .val (.ref b1), .val (.ref b3), .unset] [(.int x5), (.int x2), (.int mo8)])) rfl (by rw [hml]; rfl) (argsL := [(.int mo8), (.int x2), (.int x5)]) (rest := []) (lenOf pd__III_Z rfl) rfl (by show 2 * 0 + _ ≤ _; exact Nat.le_of_eq rfl) (hb hby at_112) (fun _ _ => ⟨rfl, e19, (by decide : 2 + 0 ≤ _), (by decide : 8 + 0 ≤ _)⟩)
      dsimp only [Pt.U, Pt.locs, Pt.cells, Pt.slots] at X21 l21 y21 z21 st21 hQ21
      subst l21 y21 z21
      obtain ⟨rfl, Nq21, e21⟩ := hQ21
      have N21 := Fr.app N19 Nq21
      refine own_pre (B := T21.setTop (mkF m 115 #[.val (.int x0), .val (.int x1), .val (.int x2), .val (.int x3), .val (.int x4), .val (.int x5), .val (.int mo6), .val (.int mo7), .val (.int mo8), .val (.int mo9), .val (.ref b1), .val (.ref b3), .unset] [(.int (own_exp mo8 x2 x5))])) ?_ st21
      by_cases h115_22 : (own_exp mo8 x2 x5) = (0 : Int32)
      · skip
        refine own_pre (B := T21.setTop (mkF m 133 #[.val (.int x0), .val (.int x1), .val (.int x2), .val (.int x3), .val (.int x4), .val (.int x5), .val (.int mo6), .val (.int mo7), .val (.int mo8), .val (.int mo9), .val (.ref b1), .val (.ref b3), .unset] [])) ?_ fun t k => XS.ifYes X21.here hx rfl (pc0 := 115) (pc' := 133) rfl (hb hby at_115) rfl ((if0 _ _).trans (teq h115_22).1) (by decide) (by decide) k
        refine own_pre (B := T21.setTop (mkF m 134 #[.val (.int x0), .val (.int x1), .val (.int x2), .val (.int x3), .val (.int x4), .val (.int x5), .val (.int mo6), .val (.int mo7), .val (.int mo8), .val (.int mo9), .val (.ref b1), .val (.ref b3), .unset] [(.int (0 : Int32))])) ?_ fun t k => XS.iconst X21.here hx rfl (hb hby at_133) k
        exact Jj12 T21 _ X21 N21 e21 ((0 : Int32)) (((if_neg h93_11).trans (if_neg h104_20)).trans (if_pos h115_22)).symm
      · skip
        refine own_pre (B := T21.setTop (mkF m 118 #[.val (.int x0), .val (.int x1), .val (.int x2), .val (.int x3), .val (.int x4), .val (.int x5), .val (.int mo6), .val (.int mo7), .val (.int mo8), .val (.int mo9), .val (.ref b1), .val (.ref b3), .unset] [])) ?_ fun t k => XS.ifNo X21.here hx rfl (hb hby at_115) rfl ((if0 _ _).trans (feq h115_22).1) k
        refine own_pre (B := T21.setTop (mkF m 120 #[.val (.int x0), .val (.int x1), .val (.int x2), .val (.int x3), .val (.int x4), .val (.int x5), .val (.int mo6), .val (.int mo7), .val (.int mo8), .val (.int mo9), .val (.ref b1), .val (.ref b3), .unset] [(.int mo9)])) ?_ fun t k => XS.iload X21.here hx rfl (hb hby at_118) rfl  k
        refine own_pre (B := T21.setTop (mkF m 121 #[.val (.int x0), .val (.int x1), .val (.int x2), .val (.int x3), .val (.int x4), .val (.int x5), .val (.int mo6), .val (.int mo7), .val (.int mo8), .val (.int mo9), .val (.ref b1), .val (.ref b3), .unset] [(.int x3), (.int mo9)])) ?_ fun t k => XS.iloadN X21.here hx rfl (hb hby at_120) rfl  k
        refine own_pre (B := T21.setTop (mkF m 123 #[.val (.int x0), .val (.int x1), .val (.int x2), .val (.int x3), .val (.int x4), .val (.int x5), .val (.int mo6), .val (.int mo7), .val (.int mo8), .val (.int mo9), .val (.ref b1), .val (.ref b3), .unset] [(.int x5), (.int x3), (.int mo9)])) ?_ fun t k => XS.iload X21.here hx rfl (hb hby at_121) rfl  k
        obtain ⟨_, _, ⟨T23, L23, k23, n23⟩, -, X23, ⟨Lc23, hQ23, l23, y23, z23⟩, st23⟩ := Jvm.LawKit.callS X21 hx (y := (⟨"com/example/halyard/halyard/com/ObjectTypeMatchesPinLaw", "expect", "(III)Z"⟩ : MethodName)) hown (mvT hZ (hw _ (List.mem_of_getElem? (i := 26) rfl))) (mvT hZ (hw _ (List.mem_of_getElem? (i := 27) rfl))) (mvT hZ (hw _ (List.mem_of_getElem? (i := 24) rfl))) (mvT hZ (hw _ (List.mem_of_getElem? (i := 28) rfl))) (by decide) (backOf (W := 0) (rm5 l Z a0 hw [] mo9 x3 x5 T9.heap n0 Z9 ) hZ (hw _ (List.mem_of_getElem? (i := 28) rfl)) (hw _ (List.mem_of_getElem? (i := 24) rfl)) (by decide) (by decide)) (g := (mkF m 123 #[.val (.int x0), .val (.int x1), .val (.int x2), .val (.int x3), .val (.int x4), .val (.int x5), .val (.int mo6), .val (.int mo7), .val (.int mo8), .val (.int mo9), .val (.ref b1), .val (.ref b3), .unset] [(.int x5), (.int x3), (.int mo9)])) rfl (by rw [hml]; rfl) (argsL := [(.int mo9), (.int x3), (.int x5)]) (rest := []) (lenOf pd__III_Z rfl) rfl (by show 2 * 0 + _ ≤ _; exact Nat.le_of_eq rfl) (hb hby at_123) (fun _ _ => ⟨rfl, e21, (by decide : 2 + 0 ≤ _), (by decide : 8 + 0 ≤ _)⟩)
        dsimp only [Pt.U, Pt.locs, Pt.cells, Pt.slots] at X23 l23 y23 z23 st23 hQ23
        subst l23 y23 z23
        obtain ⟨rfl, Nq23, e23⟩ := hQ23
        have N23 := Fr.app N21 Nq23
        refine own_pre (B := T23.setTop (mkF m 126 #[.val (.int x0), .val (.int x1), .val (.int x2), .val (.int x3), .val (.int x4), .val (.int x5), .val (.int mo6), .val (.int mo7), .val (.int mo8), .val (.int mo9), .val (.ref b1), .val (.ref b3), .unset] [(.int (own_exp mo9 x3 x5))])) ?_ st23
        by_cases h126_24 : (own_exp mo9 x3 x5) = (0 : Int32)
        · skip
          refine own_pre (B := T23.setTop (mkF m 133 #[.val (.int x0), .val (.int x1), .val (.int x2), .val (.int x3), .val (.int x4), .val (.int x5), .val (.int mo6), .val (.int mo7), .val (.int mo8), .val (.int mo9), .val (.ref b1), .val (.ref b3), .unset] [])) ?_ fun t k => XS.ifYes X23.here hx rfl (pc0 := 126) (pc' := 133) rfl (hb hby at_126) rfl ((if0 _ _).trans (teq h126_24).1) (by decide) (by decide) k
          refine own_pre (B := T23.setTop (mkF m 134 #[.val (.int x0), .val (.int x1), .val (.int x2), .val (.int x3), .val (.int x4), .val (.int x5), .val (.int mo6), .val (.int mo7), .val (.int mo8), .val (.int mo9), .val (.ref b1), .val (.ref b3), .unset] [(.int (0 : Int32))])) ?_ fun t k => XS.iconst X23.here hx rfl (hb hby at_133) k
          exact Jj12 T23 _ X23 N23 e23 ((0 : Int32)) ((((if_neg h93_11).trans (if_neg h104_20)).trans (if_neg h115_22)).trans (if_pos h126_24)).symm
        · skip
          refine own_pre (B := T23.setTop (mkF m 129 #[.val (.int x0), .val (.int x1), .val (.int x2), .val (.int x3), .val (.int x4), .val (.int x5), .val (.int mo6), .val (.int mo7), .val (.int mo8), .val (.int mo9), .val (.ref b1), .val (.ref b3), .unset] [])) ?_ fun t k => XS.ifNo X23.here hx rfl (hb hby at_126) rfl ((if0 _ _).trans (feq h126_24).1) k
          refine own_pre (B := T23.setTop (mkF m 130 #[.val (.int x0), .val (.int x1), .val (.int x2), .val (.int x3), .val (.int x4), .val (.int x5), .val (.int mo6), .val (.int mo7), .val (.int mo8), .val (.int mo9), .val (.ref b1), .val (.ref b3), .unset] [(.int (1 : Int32))])) ?_ fun t k => XS.iconst X23.here hx rfl (hb hby at_129) k
          refine own_pre (B := T23.setTop (mkF m 134 #[.val (.int x0), .val (.int x1), .val (.int x2), .val (.int x3), .val (.int x4), .val (.int x5), .val (.int mo6), .val (.int mo7), .val (.int mo8), .val (.int mo9), .val (.ref b1), .val (.ref b3), .unset] [(.int (1 : Int32))])) ?_ fun t k => XS.goto X23.here hx rfl (pc0 := 130) (pc' := 134) rfl (hb hby at_130) (by decide) (by decide) k
          exact Jj12 T23 _ X23 N23 e23 ((1 : Int32)) ((((if_neg h93_11).trans (if_neg h104_20)).trans (if_neg h115_22)).trans (if_neg h126_24)).symm
set_option maxRecDepth 65536 in
set_option maxHeartbeats 40000000 in
theorem comes_1 {Post : Tables → Env → Array Value → State → Outcome → State → Prop} (hpost : ∀ tb e args s v u, (limb_1_1.after args s (.returned v) u = true ∧ limb_1_2.after args s (.returned v) u = true ∧ True) → FrameEnd s (.returned v) u (Jvm.fieldLocs frame_1_writes args s ++ Jvm.arrayLocs frame_1_arrays args s ++ Jvm.staticLocs frame_1_statics s) 16 128 → Post tb e args s (.returned v) u) :
    ArmFor flags0 classFile x code maxLocals ret World_1 tables_1 room_1 Calls_1 rest_1 Pre_1 Post := by
  intro l hfl _ _ p e ha hc hk s m args below hf hA hF happ hP
  obtain ⟨hcalls, hrest, hpre⟩ := hP
  obtain ⟨-, -, -, hnamed, -, -, -, hat⟩ := (Spec.applies_iff hf).mp happ
  obtain ⟨hg, hn⟩ := and_e (Cond.before_iff.mp (show (Jvm.Cond.and given_1 narrow_1).before args s = true from hpre))
  obtain ⟨g1, g2⟩ := and_e hg
  obtain ⟨g3, g4⟩ := and_e g2
  obtain ⟨g5, g6⟩ := and_e g4
  obtain ⟨g7, g8⟩ := and_e g6
  obtain ⟨g9, g10⟩ := and_e g8
  obtain ⟨g11, g12⟩ := and_e g10
  obtain ⟨w0, w1, w2, w3, w4, w5, rfl⟩ : ∃ w0 w1 w2 w3 w4 w5 : Value, args = #[w0, w1, w2, w3, w4, w5] := by
    have hs : args.size = 6 := by simpa [Cond.value, given_1] using g1
    obtain ⟨L⟩ := args
    match L, hs with
    | [w0, w1, w2, w3, w4, w5], _ => exact ⟨w0, w1, w2, w3, w4, w5, rfl⟩
  have hw := fun d (hd : d ∈ tables_1) => atoms_spec (ws := Jvm.Cond.code x code maxLocals ret :: tables_1) hat d (List.mem_cons_of_mem _ hd)
  have hfit : Fit s := fun {y c} hc i hi => by
    obtain ⟨ha, rfl⟩ := Array.getElem?_eq_some_iff.mp hc
    have q := List.all_eq_true.mp ((Array.all_eq_true_iff_forall_mem.mp hF) _ (Array.getElem_mem ha)) i (List.mem_range.mpr hi)
    simpa [Array.getElem?_eq_getElem hi] using q
  obtain ⟨i0, ei0⟩ := is_v g3
  obtain rfl : w0 = (.int i0) := Option.some.inj ei0
  obtain ⟨i1, ei1⟩ := is_v g5
  obtain rfl : w1 = (.int i1) := Option.some.inj ei1
  obtain ⟨i2, ei2⟩ := is_v g7
  obtain rfl : w2 = (.int i2) := Option.some.inj ei2
  obtain ⟨i3, ei3⟩ := is_v g9
  obtain rfl : w3 = (.int i3) := Option.some.inj ei3
  obtain ⟨i4, ei4⟩ := is_v g11
  obtain rfl : w4 = (.int i4) := Option.some.inj ei4
  obtain ⟨i5, ei5⟩ := is_v g12
  obtain rfl : w5 = (.int i5) := Option.some.inj ei5
  obtain ⟨n, o, h1, h2, h3, _, L, rfl, ⟨rfl, N⟩, hq⟩ := rm0 l s _ hw tables_1 i0 i1 i2 i3 i4 i5  s.heap s.heap.size (Nat.le_refl _)  p e ha hc hk s m _ below hf ((Spec.applies_iff_loose hf).mp happ).1 ⟨rfl, State.Warmed39.refl s, rfl⟩ trivial
  refine ⟨n, _, h1, h2, h3, hpost _ _ _ _ _ _ ⟨Cond.after_iff.mpr rfl, Cond.after_iff.mpr (eq_i res_at (Term.int_eval (1)) rfl), trivial⟩ ⟨hq.1, hq.2.1, (hq.2.2.sift fun y hy => Or.inr (N y hy)).mono (by decide) (by decide)⟩⟩
theorem main_1_1 : Claimed_1_1 := comes_1 fun _ _ _ _ _ _ h hF => ⟨h.1, hF⟩
theorem main_1_2 : Claimed_1_2 := comes_1 fun _ _ _ _ _ _ h hF => ⟨h.2.1, hF⟩
end Jvm.Pilot.@@N@@
namespace Jvm.Pilot.@@N@@
open Jvm Jvm.ClassFile Sem Op Lib Jvm.Free Jvm.Stand Jvm.Pilot.@@N@@.Jvm.D
/-! MADE BY PROGRAM (witnessworld.py) out of the Statement's table words and the real class files: 10 classes; the members and pool entries that the words name. The judged class is class 1, her method 3. -/
namespace start1
open Jvm.ClassFile
def u (s : String) : CpInfo := .utf8 (stringToUtf16 s)
/-- a pool by its gaps: so many unusable entries, then the entry; so many at the end -/
def gap : Nat → List CpInfo → List CpInfo
  | 0, r => r
  | n + 1, r => .unusable :: gap n r
def poolList (es : List (Nat × CpInfo)) (last : Nat) : List CpInfo := es.foldr (fun e r => gap e.1 (e.2 :: r)) (gap last [])
def pool (es : List (Nat × CpInfo)) (last : Nat) : Array CpInfo := ⟨poolList es last⟩
def fileOf (pool : Array CpInfo) (this : Nat) (attrs : Array Attribute := #[]) (ms : Array MethodInfo := #[]) (fl : Nat := 33) (sup : Nat := 0) (ifs : Array Nat := #[]) (fds : Array FieldInfo := #[]) : ClassFile where
  minorVersion := 0
  majorVersion := 65
  constantPool := pool
  accessFlags := fl
  thisClass := this
  superClass := sup
  interfaces := ifs
  fields := fds
  methods := ms
  attributes := attrs
def plain (name : String) (sup : Option ClassId) : Class where
  name := name
  kind := .ordinary
  loader := none
  accessFlags := 33
  super := sup
  interfaces := #[]
  cf := none
  fields := #[]
  methods := #[]
  instanceTypes := #[]
  staticTypes := #[]
  resolved := #[]
  callSites := []
  init := .initialized
  statics := none
  mirror := none

def pool0 : Array CpInfo := pool [(5, u "<init>"), (0, u "()V"), (1, .class_ 10), (1, u "java/lang/Object")] 113

def k0c0 : Code := { maxStack := 0, maxLocals := 1, code := object_method_1_code, exceptionTable := #[], attributes := #[] }
def k0m0 : Method := { name := "<init>", desc := "()V", sig := { parameters := [], returnType := none }, accessFlags := 1, code := some k0c0 }
/-- java/lang/Object -/
def k0 : Class := { plain "java/lang/Object" none with
  accessFlags := 33
  interfaces := #[]
  cf := some (fileOf pool0 8 #[] #[{ accessFlags := 1, nameIndex := 5, descriptorIndex := 6, attributes := #[] }] 33 0 #[] #[])
  fields := #[]
  methods := #[k0m0]
  instanceTypes := #[]
  staticTypes := #[]
  resolved := Array.replicate 124 none
  statics := none }

def pool1 : Array CpInfo := pool [(2, .class_ 4), (1, u "java/lang/Object"), (0, u "<init>"), (0, u "()V"), (0, .class_ 8), (0, u "com/example/halyard/halyard/com/ObjectType"), (0, .methodref 7 10), (0, .nameAndType 5 11), (0, u "(IIII)V"), (0, .methodref 13 14), (0, .class_ 15), (0, .nameAndType 16 17), (0, u "com/example/halyard/halyard/com/ObjectTypeMatchesPinLaw"), (0, u "pick"), (0, u "(III)I"), (0, .methodref 13 19), (0, .nameAndType 20 21), (0, u "expect"), (0, u "(III)Z"), (0, .methodref 7 23), (0, .nameAndType 24 25), (0, u "matches"), (0, u "(Lcom/example/halyard/halyard/com/ObjectType;)Z"), (3, u "law"), (0, u "(IIIIII)Z")] 2

def k1m0 : Method := { name := "<init>", desc := "()V", sig := { parameters := [], returnType := none }, accessFlags := 2, code := none }
def k1c1 : Code := { maxStack := 2, maxLocals := 3, code := method_2_code, exceptionTable := #[], attributes := #[] }
def k1m1 : Method := { name := "pick", desc := "(III)I", sig := { parameters := [.int, .int, .int], returnType := some .int }, accessFlags := 10, code := some k1c1 }
def k1c2 : Code := { maxStack := 2, maxLocals := 3, code := method_3_code, exceptionTable := #[], attributes := #[] }
def k1m2 : Method := { name := "expect", desc := "(III)Z", sig := { parameters := [.int, .int, .int], returnType := some .boolean }, accessFlags := 10, code := some k1c2 }
def k1c3 : Code := { maxStack := 8, maxLocals := 13, code := code, exceptionTable := #[], attributes := #[] }
def k1m3 : Method := { name := "law", desc := "(IIIIII)Z", sig := { parameters := [.int, .int, .int, .int, .int, .int], returnType := some .boolean }, accessFlags := 9, code := some k1c3 }
/-- com/example/halyard/halyard/com/ObjectTypeMatchesPinLaw -/
def k1 : Class := { plain "com/example/halyard/halyard/com/ObjectTypeMatchesPinLaw" (some 0) with
  accessFlags := 49
  interfaces := #[]
  cf := some (fileOf pool1 13 #[] #[{ accessFlags := 2, nameIndex := 5, descriptorIndex := 6, attributes := #[] }, { accessFlags := 10, nameIndex := 16, descriptorIndex := 17, attributes := #[] }, { accessFlags := 10, nameIndex := 20, descriptorIndex := 21, attributes := #[] }, { accessFlags := 9, nameIndex := 29, descriptorIndex := 30, attributes := #[] }] 49 2 #[] #[])
  fields := #[]
  methods := #[k1m0, k1m1, k1m2, k1m3]
  instanceTypes := #[]
  staticTypes := #[]
  resolved := Array.replicate 33 none
  statics := none }

def pool2 : Array CpInfo := pool [(1, .methodref 2 3), (0, .class_ 4), (0, .nameAndType 5 6), (0, u "java/lang/Object"), (0, u "<init>"), (0, u "()V"), (0, .class_ 8), (0, u "java/lang/Record")] 13

def k2c0 : Code := { maxStack := 1, maxLocals := 1, code := jdk_30_method_1_code, exceptionTable := #[], attributes := #[] }
def k2m0 : Method := { name := "<init>", desc := "()V", sig := { parameters := [], returnType := none }, accessFlags := 4, code := some k2c0 }
/-- java/lang/Record -/
def k2 : Class := { plain "java/lang/Record" (some 0) with
  accessFlags := 1057
  interfaces := #[]
  cf := some (fileOf pool2 7 #[] #[{ accessFlags := 4, nameIndex := 5, descriptorIndex := 6, attributes := #[] }] 1057 2 #[] #[])
  fields := #[]
  methods := #[k2m0]
  instanceTypes := #[]
  staticTypes := #[]
  resolved := Array.replicate 22 none
  statics := none }

def pool3 : Array CpInfo := pool [(1, .methodref 2 3), (0, .class_ 4), (0, .nameAndType 5 6), (0, u "java/lang/Record"), (0, u "<init>"), (0, u "()V"), (0, .fieldref 8 9), (0, .class_ 10), (0, .nameAndType 11 12), (0, u "com/example/halyard/halyard/com/ObjectType"), (0, u "area"), (0, u "I"), (0, .fieldref 8 14), (0, .nameAndType 15 12), (0, u "service"), (0, .fieldref 8 17), (0, .nameAndType 18 12), (0, u "version"), (0, .fieldref 8 20), (0, .nameAndType 21 12), (0, u "number"), (31, u "(IIII)V"), (2, u "TYPE"), (0, u "Lcom/example/halyard/halyard/mal/TypeName;"), (63, u "SHORT_FORM_PART"), (8, u "matches"), (0, u "(Lcom/example/halyard/halyard/com/ObjectType;)Z")] 42

def k3c0 : Code := { maxStack := 2, maxLocals := 5, code := prog_27_method_1_code, exceptionTable := #[], attributes := #[] }
def k3m0 : Method := { name := "<init>", desc := "(IIII)V", sig := { parameters := [.int, .int, .int, .int], returnType := none }, accessFlags := 1, code := some k3c0 }
def k3c1 : Code := { maxStack := 2, maxLocals := 2, code := prog_27_method_3_code, exceptionTable := #[], attributes := #[] }
def k3m1 : Method := { name := "matches", desc := "(Lcom/example/halyard/halyard/com/ObjectType;)Z", sig := { parameters := [(.object "com/example/halyard/halyard/com/ObjectType")], returnType := some .boolean }, accessFlags := 1, code := some k3c1 }
/-- com/example/halyard/halyard/com/ObjectType -/
def k3 : Class := { plain "com/example/halyard/halyard/com/ObjectType" (some 2) with
  accessFlags := 49
  interfaces := #[]
  cf := some (fileOf pool3 8 #[] #[{ accessFlags := 1, nameIndex := 5, descriptorIndex := 53, attributes := #[] }, { accessFlags := 1, nameIndex := 130, descriptorIndex := 131, attributes := #[] }] 49 2 #[] #[{ accessFlags := 18, nameIndex := 11, descriptorIndex := 12, attributes := #[] }, { accessFlags := 18, nameIndex := 15, descriptorIndex := 12, attributes := #[] }, { accessFlags := 18, nameIndex := 18, descriptorIndex := 12, attributes := #[] }, { accessFlags := 18, nameIndex := 21, descriptorIndex := 12, attributes := #[] }, { accessFlags := 24, nameIndex := 56, descriptorIndex := 57, attributes := #[] }, { accessFlags := 26, nameIndex := 121, descriptorIndex := 12, attributes := #[] }])
  fields := #[{ name := "area", type := .int, accessFlags := 18, slot := 0, constantValue := 0 }, { name := "service", type := .int, accessFlags := 18, slot := 1, constantValue := 0 }, { name := "version", type := .int, accessFlags := 18, slot := 2, constantValue := 0 }, { name := "number", type := .int, accessFlags := 18, slot := 3, constantValue := 0 }, { name := "TYPE", type := (.object "com/example/halyard/halyard/mal/TypeName"), accessFlags := 24, slot := 0, constantValue := 0 }, { name := "SHORT_FORM_PART", type := .int, accessFlags := 26, slot := 1, constantValue := 0 }]
  methods := #[k3m0, k3m1]
  instanceTypes := #[.int, .int, .int, .int]
  staticTypes := #[(.object "com/example/halyard/halyard/mal/TypeName"), .int]
  resolved := Array.replicate 174 none
  statics := none }

def pool4 : Array CpInfo := pool [(1, u "java/lang/Cloneable"), (0, .class_ 1), (0, u "java/lang/Object"), (0, .class_ 3)] 3

/-- java/lang/Cloneable -/
def k4 : Class := { plain "java/lang/Cloneable" (some 0) with
  accessFlags := 1537
  interfaces := #[]
  cf := some (fileOf pool4 2 #[] #[] 1537 4 #[] #[])
  fields := #[]
  methods := #[]
  instanceTypes := #[]
  staticTypes := #[]
  resolved := Array.replicate 8 none
  statics := none }

def pool5 : Array CpInfo := pool [(1, u "java/io/Serializable"), (0, .class_ 1), (0, u "java/lang/Object"), (0, .class_ 3)] 3

/-- java/io/Serializable -/
def k5 : Class := { plain "java/io/Serializable" (some 0) with
  accessFlags := 1537
  interfaces := #[]
  cf := some (fileOf pool5 2 #[] #[] 1537 4 #[] #[])
  fields := #[]
  methods := #[]
  instanceTypes := #[]
  staticTypes := #[]
  resolved := Array.replicate 8 none
  statics := none }

/-- the primitive byte -/
def k6 : Class := { plain "byte" none with kind := .primitive 'B', accessFlags := 0x411 }
/-- [B -/
def k7 : Class := { plain "[B" (some 0) with kind := .array 6 .byte, interfaces := #[4, 5], accessFlags := 1041 }

/-- the primitive int -/
def k8 : Class := { plain "int" none with kind := .primitive 'I', accessFlags := 0x411 }
/-- [I -/
def k9 : Class := { plain "[I" (some 0) with kind := .array 8 .int, interfaces := #[4, 5], accessFlags := 1041 }

def heap : Heap := #[]
def classes : Array Class := #[k0, k1, k2, k3, k4, k5, k6, k7, k8, k9]
def interned : List (Array UInt16 × Addr) := []
def slotsUsed : Nat := 0
def theMethod : MethodId := ⟨1, 3⟩
def args0 : Array Value := #[.int 1, .int 2, .int 3, .int 4, .int 5, .int 6]
def aboutOver (below : List Frame) : State where
  vm := { classes := classes, interned := interned.toArray }
  heap := heap
  slotsUsed := slotsUsed
  threads := #[{ frames := .invoking theMethod args0 :: below }]
def below0 : List Frame := [.native { method := ⟨0, 0⟩, args := #[] }]
def about1 : State := aboutOver below0
def p0 : Program := .bare "" "" ""
def e0 : Env := launch0.env 0 0 0
theorem w_frames : about1.frames = Frame.invoking theMethod args0 :: below0 := rfl
set_option maxRecDepth 65536 in
theorem w_args : argsFit about1.vm theMethod args0 = true := by decide +kernel
set_option maxRecDepth 65536 in
theorem w_heap : heapFits about1 = true := by decide +kernel
set_option maxRecDepth 65536 in
theorem w_runnable : about1.curStatus? = some .runnable := by decide +kernel
set_option maxRecDepth 65536 in
theorem w_alone : about1.alone = true := by decide +kernel
set_option maxRecDepth 65536 in
theorem w_named : about1.methodNamed? x = some theMethod := by decide +kernel
set_option maxRecDepth 65536 in
theorem w_hears : about1.hears theMethod below0 = true := by decide +kernel
set_option maxRecDepth 65536 in
theorem w_ripe : about1.ripe theMethod args0 below0 = true := by decide +kernel
theorem w_running : about1.status = .running := rfl
set_option maxRecDepth 65536 in
theorem w_room : about1.hasRoom e0.platform room_1 = true :=
  launch0.hasRoom_least _ room_1 (by decide +kernel) (by decide +kernel) (by decide +kernel) (by decide +kernel) (by decide +kernel) (by decide +kernel)
theorem allAtoms_all (ts : List Jvm.Cond) (a : Array Jvm.Value) (st : Jvm.State) : (allAtoms ts).before a st = ts.all (fun c => c.before a st) := by
  induction ts with
  | nil => rfl
  | cons c t ih =>
    show (Jvm.Cond.and c (allAtoms t)).before a st = _
    rw [Jvm.Cond.before_and, ih, List.all_cons]
def words1 : List Jvm.Cond := Jvm.Cond.code x code maxLocals ret :: tables_1
/-- a 'code' word, met by the world's own term for the bytes: nothing is compared byte by byte -/
theorem code_word {y : MethodName} {bytes : ByteArray} {mx : Nat} {rt : Option FieldType} {a : Array Value} {s : State} {m : MethodId} {meth : Method} {c : Code} (h1 : s.methodNamed? y = some m) (h2 : s.vm.method? m = some meth) (h3 : meth.code = some c) (h4 : c.code = bytes)
    (h5 : (c.maxLocals == mx && c.exceptionTable.isEmpty && decide (c.maxStack ≤ mostOperands) && decide (meth.sig.returnType = rt) && !meth.locks && decide (parseMethodDescriptor y.desc = some meth.sig)) = true) : (Jvm.Cond.code y bytes mx rt).before a s = true := by
  simp only [Bool.and_eq_true, beq_iff_eq, Bool.not_eq_true', decide_eq_true_eq] at h5
  obtain ⟨⟨⟨⟨⟨g1, g2⟩, g3⟩, g4⟩, g5⟩, g6⟩ := h5
  simp [Cond.before, Cond.holds, Cond.value, h1, h2, h3, h4, g1, g2, g3, g4, g5, g6]
def isCode : Jvm.Cond → Bool
  | .code _ _ _ _ => true
  | _ => false
theorem all_split {L : List Jvm.Cond} {P : Jvm.Cond → Bool} (h1 : L.all (fun c => isCode c || P c) = true) (h2 : ∀ c ∈ L.filter isCode, P c = true) : L.all P = true := by
  refine List.all_eq_true.mpr fun c hc => ?_
  have h := List.all_eq_true.mp h1 c hc
  rcases Bool.eq_false_or_eq_true (isCode c) with hi | hi
  · exact h2 c (List.mem_filter.mpr ⟨hc, hi⟩)
  · simpa [hi] using h
set_option maxRecDepth 65536 in
theorem w_c0 : (Jvm.Cond.code x code maxLocals ret).before args0 about1 = true := code_word (m := ⟨1, 3⟩) (meth := k1m3) (c := k1c3) (by decide +kernel) rfl rfl rfl (by decide +kernel)
set_option maxRecDepth 65536 in
theorem w_c1 : (Jvm.Cond.code ({ cls := "com/example/halyard/halyard/com/ObjectType", name := "<init>", desc := "(IIII)V" } : Jvm.MethodName) prog_27_method_1_code (5 : Nat) (Option.none : Option Jvm.ClassFile.FieldType)).before args0 about1 = true := code_word (m := ⟨3, 0⟩) (meth := k3m0) (c := k3c0) (by decide +kernel) rfl rfl rfl (by decide +kernel)
set_option maxRecDepth 65536 in
theorem w_c2 : (Jvm.Cond.code ({ cls := "java/lang/Record", name := "<init>", desc := "()V" } : Jvm.MethodName) jdk_30_method_1_code (1 : Nat) (Option.none : Option Jvm.ClassFile.FieldType)).before args0 about1 = true := code_word (m := ⟨2, 0⟩) (meth := k2m0) (c := k2c0) (by decide +kernel) rfl rfl rfl (by decide +kernel)
set_option maxRecDepth 65536 in
theorem w_c3 : (Jvm.Cond.code ({ cls := "java/lang/Object", name := "<init>", desc := "()V" } : Jvm.MethodName) object_method_1_code (1 : Nat) (Option.none : Option Jvm.ClassFile.FieldType)).before args0 about1 = true := code_word (m := ⟨0, 0⟩) (meth := k0m0) (c := k0c0) (by decide +kernel) rfl rfl rfl (by decide +kernel)
set_option maxRecDepth 65536 in
theorem w_c4 : (Jvm.Cond.code ({ cls := "com/example/halyard/halyard/com/ObjectTypeMatchesPinLaw", name := "pick", desc := "(III)I" } : Jvm.MethodName) method_2_code (3 : Nat) (Option.some Jvm.ClassFile.FieldType.int)).before args0 about1 = true := code_word (m := ⟨1, 1⟩) (meth := k1m1) (c := k1c1) (by decide +kernel) rfl rfl rfl (by decide +kernel)
set_option maxRecDepth 65536 in
theorem w_c5 : (Jvm.Cond.code ({ cls := "com/example/halyard/halyard/com/ObjectTypeMatchesPinLaw", name := "expect", desc := "(III)Z" } : Jvm.MethodName) method_3_code (3 : Nat) (Option.some Jvm.ClassFile.FieldType.boolean)).before args0 about1 = true := code_word (m := ⟨1, 2⟩) (meth := k1m2) (c := k1c2) (by decide +kernel) rfl rfl rfl (by decide +kernel)
set_option maxRecDepth 65536 in
theorem w_c6 : (Jvm.Cond.code ({ cls := "com/example/halyard/halyard/com/ObjectType", name := "matches", desc := "(Lcom/example/halyard/halyard/com/ObjectType;)Z" } : Jvm.MethodName) prog_27_method_3_code (2 : Nat) (Option.some Jvm.ClassFile.FieldType.boolean)).before args0 about1 = true := code_word (m := ⟨3, 1⟩) (meth := k3m1) (c := k3c1) (by decide +kernel) rfl rfl rfl (by decide +kernel)
def codes1 : List Jvm.Cond := [Jvm.Cond.code x code maxLocals ret, Jvm.Cond.code ({ cls := "com/example/halyard/halyard/com/ObjectType", name := "<init>", desc := "(IIII)V" } : Jvm.MethodName) prog_27_method_1_code (5 : Nat) (Option.none : Option Jvm.ClassFile.FieldType), Jvm.Cond.code ({ cls := "java/lang/Record", name := "<init>", desc := "()V" } : Jvm.MethodName) jdk_30_method_1_code (1 : Nat) (Option.none : Option Jvm.ClassFile.FieldType), Jvm.Cond.code ({ cls := "java/lang/Object", name := "<init>", desc := "()V" } : Jvm.MethodName) object_method_1_code (1 : Nat) (Option.none : Option Jvm.ClassFile.FieldType), Jvm.Cond.code ({ cls := "com/example/halyard/halyard/com/ObjectTypeMatchesPinLaw", name := "pick", desc := "(III)I" } : Jvm.MethodName) method_2_code (3 : Nat) (Option.some Jvm.ClassFile.FieldType.int), Jvm.Cond.code ({ cls := "com/example/halyard/halyard/com/ObjectTypeMatchesPinLaw", name := "expect", desc := "(III)Z" } : Jvm.MethodName) method_3_code (3 : Nat) (Option.some Jvm.ClassFile.FieldType.boolean), Jvm.Cond.code ({ cls := "com/example/halyard/halyard/com/ObjectType", name := "matches", desc := "(Lcom/example/halyard/halyard/com/ObjectType;)Z" } : Jvm.MethodName) prog_27_method_3_code (2 : Nat) (Option.some Jvm.ClassFile.FieldType.boolean)]
set_option maxRecDepth 65536 in
theorem codes_eq : words1.filter isCode = codes1 := rfl
theorem w_codes : ∀ c ∈ words1.filter isCode, c.before args0 about1 = true := by
  rw [codes_eq]
  intro c hc
  simp only [codes1, List.mem_cons, List.not_mem_nil, or_false] at hc
  rcases hc with rfl | rfl | rfl | rfl | rfl | rfl | rfl
  · exact w_c0
  · exact w_c1
  · exact w_c2
  · exact w_c3
  · exact w_c4
  · exact w_c5
  · exact w_c6
set_option maxRecDepth 65536 in
theorem w_t1 : (words1.take 24).all (fun c => isCode c || c.before args0 about1) = true := by decide +kernel
set_option maxRecDepth 65536 in
theorem w_t2 : (words1.drop 24).all (fun c => isCode c || c.before args0 about1) = true := by decide +kernel
theorem w_tables : (allAtoms (Jvm.Cond.code x code maxLocals ret :: tables_1)).before args0 about1 = true := by
  rw [allAtoms_all]
  show words1.all (fun c => c.before args0 about1) = true
  refine all_split ?_ w_codes
  rw [← List.take_append_drop 24 words1, List.all_append, w_t1, w_t2]
  rfl
set_option maxRecDepth 65536 in
theorem w_case : (Jvm.Cond.and given_1 narrow_1).before args0 about1 = true := by decide +kernel
theorem w_applies : (headSpec (Jvm.Cond.code x code maxLocals ret :: tables_1) room_1).applies x e0.platform about1 = true :=
  (Spec.applies_iff w_frames).mpr ⟨w_running, w_runnable, w_alone, w_named, w_hears, w_ripe, w_room, w_tables⟩
theorem atStart : AtStart classFile x code maxLocals ret World_1 tables_1 room_1 Calls_1 rest_1 Pre_1 launch0 p0 e0 about1 theMethod args0 below0 :=
  ⟨lists_1, trivial, launch0.admits_env _ _ _, launch0.least_env, fairChoices_fair.cas, fairChoices_fair.clock, w_frames, w_args, w_heap, w_applies, trivial, trivial, w_case⟩
end start1
theorem witness_1 : WitnessClaimed_1 := ⟨start1.p0, start1.e0, start1.about1, start1.theMethod, start1.args0, start1.below0, start1.atStart⟩
end Jvm.Pilot.@@N@@
