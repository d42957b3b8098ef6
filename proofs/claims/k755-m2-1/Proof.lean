import JvmDerived
import JvmDerived.Pilot.@@N@@Statement
import JvmDerived.Pilot.@@N@@Code
set_option linter.unusedVariables false
set_option linter.unusedSimpArgs false
namespace Jvm.Pilot.@@N@@
open Jvm Jvm.ClassFile Sem Op Lib Jvm.Free Jvm.Stand Jvm.LawKit Jvm.RoadKit Bundle Jvm.Pilot.@@N@@.Jvm.D
section Own
variable {p : Program} {l : Launch} {e : Env} {R : Room} {s : State} {m : MethodId} {args : Array Value} {below : List Frame} {meth : Method} {c : Code} {T : State} {locs : List Loc} {cells slots : Nat} {Z : State} {a0 : Array Value} {h : Heap}
/-- from the state A the body ends as Q says, with at most C cells and S slots made -/
def own_E (p : Program) (e : Env) (below : List Frame) (s : State) (Q : Option Value → Heap → List Loc → Prop) (C S : Nat) (A : State) : Prop :=
  ∃ s₂ o, Steps p.tables e below A s₂ ∧ s₂.status = .running ∧ Ended s₂ below o ∧ ∃ v L, o = .returned v ∧ Q v s₂.heap L ∧ FrameEnd s o s₂ L C S
theorem own_pre {Q : Option Value → Heap → List Loc → Prop} {C S : Nat} {A B : State} (h : own_E p e below s Q C S B) (k : ∀ t, Steps p.tables e below B t → Steps p.tables e below A t) : own_E p e below s Q C S A := by
  obtain ⟨s₂, o, h1, h2⟩ := h
  exact ⟨s₂, o, k _ h1, h2⟩
theorem own_out {Q : Option Value → Heap → List Loc → Prop} {C S : Nat} {A : State} (X : Stand p l e R s m args below meth c T locs cells slots) (hk : meth.locks = false) {v : Option Value} (hv : meth.sig.returnType = none → v = none)
    (st : ∀ fs, (∀ (f : JFrame) (acts : List Action), f.method = m → f.locked = none → f.entered = [] → (doReturn e (T.setTop f) acts v).1 = T.setFrames fs) → Steps p.tables e below A (T.setFrames fs))
    (hQ : Q v T.heap locs) (hc : cells ≤ C) (hs : slots ≤ S) : own_E p e below s Q C S A := by
  obtain ⟨fs, hr, hrun, hended, hW, hsame⟩ := X.leave (v := v) hv hk
  exact ⟨_, _, st fs hr, hrun, hended, _, _, rfl, hQ, ⟨_, rfl⟩, hW, hsame.mono hc hs⟩
theorem own_retN {Q : Option Value → Heap → List Loc → Prop} {C S : Nat} (X : Stand p l e R s m args below meth c T locs cells slots) (hx : p.tables.exec = Jvm.exec) (hk : meth.locks = false) {t : FieldType} {pc : Nat} {Ls : Array Slot} {z z' : Int32} {rest : List Value} (hret : meth.sig.returnType = some t) (ht : t = .boolean ∨ t = .byte ∨ t = .char ∨ t = .short) (hd : decode c.code pc = .ok (.ireturn, 1)) (hn : nar t z = z')
    (hQ : Q (some (.int z')) T.heap locs) (hc : cells ≤ C) (hs : slots ≤ S) : own_E p e below s Q C S (T.setTop (mkF m pc Ls (.int z :: rest))) := by
  subst hn
  exact own_out X hk (fun h => by rw [hret] at h; cases h) (fun fs hr => retN X hx hret ht hd hr) hQ hc hs
theorem own_retI {Q : Option Value → Heap → List Loc → Prop} {C S : Nat} (X : Stand p l e R s m args below meth c T locs cells slots) (hx : p.tables.exec = Jvm.exec) (hk : meth.locks = false) {pc : Nat} {Ls : Array Slot} {z : Int32} {rest : List Value} (hret : meth.sig.returnType = some .int) (hd : decode c.code pc = .ok (.ireturn, 1))
    (hQ : Q (some (.int z)) T.heap locs) (hc : cells ≤ C) (hs : slots ≤ S) : own_E p e below s Q C S (T.setTop (mkF m pc Ls (.int z :: rest))) :=
  own_out X hk (fun h => by rw [hret] at h; cases h) (fun fs hr => retOut X hx hret rfl (Or.inl ⟨rfl, Or.inl rfl, z, rfl⟩) hd hr) hQ hc hs
theorem own_retJ {Q : Option Value → Heap → List Loc → Prop} {C S : Nat} (X : Stand p l e R s m args below meth c T locs cells slots) (hx : p.tables.exec = Jvm.exec) (hk : meth.locks = false) {pc : Nat} {Ls : Array Slot} {z : Int64} {rest : List Value} (hret : meth.sig.returnType = some .long) (hd : decode c.code pc = .ok (.lreturn, 1))
    (hQ : Q (some (.long z)) T.heap locs) (hc : cells ≤ C) (hs : slots ≤ S) : own_E p e below s Q C S (T.setTop (mkF m pc Ls (.long z :: rest))) :=
  own_out X hk (fun h => by rw [hret] at h; cases h) (fun fs hr => retOut X hx hret rfl (Or.inr (Or.inl ⟨rfl, rfl, z, rfl⟩)) hd hr) hQ hc hs
theorem own_nar_ref {t : FieldType} {w : Value} (hw : w.isRef = true) (ht : t.isReference = true) : narrow t w = w := by
  rcases ref_cases hw with rfl | ⟨z, rfl⟩ <;> cases t <;> first | rfl | (cases ht; done)
theorem own_fit_ref {t : FieldType} {w : Value} (hw : w.isRef = true) (ht : t.isReference = true) : fits t w = true := by
  rcases ref_cases hw with rfl | ⟨z, rfl⟩ <;> cases t <;> first | rfl | (cases ht; done)
theorem own_retA {Q : Option Value → Heap → List Loc → Prop} {C S : Nat} (X : Stand p l e R s m args below meth c T locs cells slots) (hx : p.tables.exec = Jvm.exec) (hk : meth.locks = false) {t : FieldType} {pc : Nat} {Ls : Array Slot} {w : Value} {rest : List Value} (hret : meth.sig.returnType = some t) (ht : t.isReference = true) (hw : w.isRef = true) (hd : decode c.code pc = .ok (.areturn, 1))
    (hQ : Q (some w) T.heap locs) (hc : cells ≤ C) (hs : slots ≤ S) : own_E p e below s Q C S (T.setTop (mkF m pc Ls (w :: rest))) :=
  own_out X hk (fun h => by rw [hret] at h; cases h) (fun fs hr => retOut X hx hret (own_nar_ref hw ht) (Or.inr (Or.inr (Or.inr (Or.inr ⟨rfl, ht, hw⟩)))) hd hr) hQ hc hs
theorem own_retV {Q : Option Value → Heap → List Loc → Prop} {C S : Nat} (X : Stand p l e R s m args below meth c T locs cells slots) (hx : p.tables.exec = Jvm.exec) (hk : meth.locks = false) {pc : Nat} {Ls : Array Slot} (hret : meth.sig.returnType = none) (hd : decode c.code pc = .ok (.return_, 1))
    (hQ : Q none T.heap locs) (hc : cells ≤ C) (hs : slots ≤ S) : own_E p e below s Q C S (T.setTop (mkF m pc Ls [])) :=
  own_out X hk (fun _ => rfl) (fun fs hr => X.returnOut hx hret hd hr) hQ hc hs
theorem own_lrem {g : JFrame} {target : State} (X : Stand p l e R s m args below meth c T locs cells slots) (hx : p.tables.exec = Jvm.exec) (hg : g.method = m) {x y : Int64} {rest : List Value} (hd : decode c.code g.pc = .ok (.lrem, 1)) (hs : g.stack = .long y :: .long x :: rest) (hy : y ≠ 0)
    (hr : Steps p.tables e below (T.setTop { g with pc := g.pc + 1, stack := .long (x % y) :: rest }) target) : Steps p.tables e below (T.setTop g) target :=
  XS.lrem X.here hx hg hd hs hy (by rw [lrem_mod]; exact hr)
end Own
theorem own_fld {args : Array Value} {s : State} {t : Term} {x : Addr} {C n d : String} {k : Int32} (ev : t.eval args s none [] s = some (.ref x)) (h : (Cond.eq (Term.field t C n d) (Term.int k)).value args s none s [] = some true) : Fld s s.heap x C n d (.int k) := by
  refine Fld.start ?_
  obtain ⟨u, w, h1, h2, h3⟩ := cmp_v (Or.inl h)
  rw [fld_at ev] at h1
  have h2' : w = .int k := (Option.some.inj (h2.symm.trans (Term.int_eval k))).symm ▸ rfl
  subst h2'
  cases u <;> try (simp [Kin] at h3; done)
  rename_i z
  have q : (Cond.eq (Term.field t C n d) (Term.int k)).value args s none s [] = some (decide (z = k)) := by
    simp [Cond.value, fld_at ev, h1, Term.int_eval k]
  have : z = k := gotT q h
  rw [h1, this]
def own_wv (a c d : Addr) : Int32 := if a = c then 0 else if a = d then 0 else 1
theorem d1_0 : decode prog_48_method_4_code 0 = .ok (.aload_n 0, 1) := by decide +kernel
theorem d1_1 : decode prog_48_method_4_code 1 = .ok (.getstatic 7, 3) := by decide +kernel
theorem d1_4 : decode prog_48_method_4_code 4 = .ok (.if_acmp .eq 14, 3) := by decide +kernel
theorem d1_18 : decode prog_48_method_4_code 18 = .ok (.iconst 0, 1) := by decide +kernel
theorem d1_19 : decode prog_48_method_4_code 19 = .ok (.ireturn, 1) := by decide +kernel
theorem d1_7 : decode prog_48_method_4_code 7 = .ok (.aload_n 0, 1) := by decide +kernel
theorem d1_8 : decode prog_48_method_4_code 8 = .ok (.getstatic 10, 3) := by decide +kernel
theorem d1_11 : decode prog_48_method_4_code 11 = .ok (.if_acmp .eq 7, 3) := by decide +kernel
theorem d1_14 : decode prog_48_method_4_code 14 = .ok (.iconst 1, 1) := by decide +kernel
theorem d1_15 : decode prog_48_method_4_code 15 = .ok (.goto 4, 3) := by decide +kernel
theorem pn_com_example_pipecaret_pipecaret_message_MessageEdit_Operation : plainName "com/example/pipecaret/pipecaret/message/MessageEdit$Operation" = true := by first | (simp [plainName, overriddenIn]; done) | decide +kernel
theorem ef_1 (m : MethodId) (x0 : Addr) : entryFrame m #[(.ref x0)] 1 = mkF m 0 #[.val (.ref x0)] [] := by first | rfl | (simp [entryFrame, mkF, argsToLocals, Value.category]; done)
def Q1 (Z : State) (x0 : Addr) (a_CLEAR : Addr) (a_DELETE : Addr) (h0 : Heap) (n0 : Nat) (v : Option Value) (h : Heap) (L : List Loc) : Prop := v = some (.int (own_wv x0 a_CLEAR a_DELETE)) ∧ Fr n0 L ∧ h = h0
set_option maxRecDepth 65536 in
set_option maxHeartbeats 40000000 in
theorem rm1 (l : Launch) (Z : State) (a0 : Array Value) (hw : ∀ d ∈ tables_1, d.before a0 Z = true) (ws : List Jvm.Cond) (x0 : Addr) (a_CLEAR : Addr) (a_DELETE : Addr) (h0 : Heap) (n0 : Nat) (Z0 : n0 ≤ h0.size) (S_CLEAR : Sta Z h0 "com/example/pipecaret/pipecaret/message/MessageEdit$Operation" "CLEAR" "Lcom/example/pipecaret/pipecaret/message/MessageEdit$Operation;" (.ref a_CLEAR)) (S_DELETE : Sta Z h0 "com/example/pipecaret/pipecaret/message/MessageEdit$Operation" "DELETE" "Lcom/example/pipecaret/pipecaret/message/MessageEdit$Operation;" (.ref a_DELETE)) :
    MetFree l (⟨"com/example/pipecaret/pipecaret/message/MessageEdit$Operation", "writesValue", "()Z"⟩ : MethodName) (head1 (Jvm.Cond.code (⟨"com/example/pipecaret/pipecaret/message/MessageEdit$Operation", "writesValue", "()Z"⟩ : MethodName) prog_48_method_4_code 1 (some .boolean) :: ws) ({ frames := 0, cells := 0, slots := 0, locals := 0 } : Room)) (fun a U => a = #[(.ref x0)] ∧ Z.Warmed39 U.vm ∧ U.heap = h0) (fun _ _ _ _ _ => True) (fun _ U o U' => ∃ v L, o = .returned v ∧ Q1 Z x0 a_CLEAR a_DELETE h0 n0 v U'.heap L ∧ FrameEnd U o U' L ({ frames := 0, cells := 0, slots := 0, locals := 0 } : Room).cells ({ frames := 0, cells := 0, slots := 0, locals := 0 } : Room).slots) := by
  refine MetFree.of_bodySF (plainFor_of_name pn_com_example_pipecaret_pipecaret_message_MessageEdit_Operation) hisR ?_
  intro p e s m args below meth c s₁ Bd hml0 hP hK
  obtain ⟨rfl, hZ, hh⟩ := hP
  have hx := Bd.exec
  have hby := Bd.bytes
  have hml : c.maxLocals = 1 := hml0
  have hown : s.vm.findClass "com/example/pipecaret/pipecaret/message/MessageEdit$Operation" = some m.cls := findClass_of_methodNamed Bd.named
  have hnm := (name_of_methodNamed Bd.named Bd.method).1
  have hlk : meth.locks = false := BodyLoose.notSynchronized Bd
  have X0 : Stand p l e ({ frames := 0, cells := 0, slots := 0, locals := 0 } : Room) s m #[(.ref x0)] below meth c s₁ [] 0 0 := Stand.of_body Bd
  have e0 : s₁.heap = h0 := by rw [← hh, Bd.state]; rfl
  have N0 := Fr.nil n0
  show own_E p e below s (Q1 Z x0 a_CLEAR a_DELETE h0 n0) 0 0 (s₁.setTop (entryFrame m #[(.ref x0)] 1))
  refine own_pre (B := s₁.setTop (mkF m 0 #[.val (.ref x0)] [])) ?_ (fun t k => castTop (ef_1 m x0) k)
  refine own_pre (B := s₁.setTop (mkF m 1 #[.val (.ref x0)] [(.ref x0)])) ?_ fun t k => XS.aloadN X0.here hx rfl (hb hby d1_0) rfl rfl k
  obtain ⟨T1, X1, e1, st1⟩ := getS2 X0 hx hZ hown (host := "") (Or.inl (hw _ (List.mem_of_getElem? (i := 9) rfl))) Via.refl e0 S_CLEAR (g := (mkF m 1 #[.val (.ref x0)] [(.ref x0)])) rfl (hb hby d1_1)
  refine own_pre (B := T1.setTop (mkF m 4 #[.val (.ref x0)] [(.ref a_CLEAR), (.ref x0)])) ?_ st1
  by_cases h4_2 : x0 = a_CLEAR
  · skip
    refine own_pre (B := T1.setTop (mkF m 18 #[.val (.ref x0)] [])) ?_ fun t k => Jvm.RoadKit.acmp (g := (mkF m 4 #[.val (.ref x0)] [(.ref a_CLEAR), (.ref x0)])) X1 hx rfl rfl rfl (pc0 := 4) (pc' := 18) (same := true) rfl (hb hby d1_4) rfl (decide_eq_true (congrArg Value.ref h4_2)) (by decide) (by decide) k
    refine own_pre (B := T1.setTop (mkF m 19 #[.val (.ref x0)] [(.int (0 : Int32))])) ?_ fun t k => XS.iconst X1.here hx rfl (hb hby d1_18) k
    refine own_retN X1 hx hlk (t := .boolean) (z' := (0 : Int32)) Bd.returns (by simp) (hb hby d1_19) (by decide) ?_ (by decide) (by decide)
    rw [e1]
    exact ⟨by simp [own_wv, h4_2], N0, rfl⟩
  · skip
    refine own_pre (B := T1.setTop (mkF m 7 #[.val (.ref x0)] [])) ?_ fun t k => Jvm.RoadKit.acmp (g := (mkF m 4 #[.val (.ref x0)] [(.ref a_CLEAR), (.ref x0)])) X1 hx rfl rfl rfl (pc0 := 4) (pc' := 7) (same := false) rfl (hb hby d1_4) rfl (decide_eq_false fun q => h4_2 (Value.ref.inj q)) (by decide) (by decide) k
    refine own_pre (B := T1.setTop (mkF m 8 #[.val (.ref x0)] [(.ref x0)])) ?_ fun t k => XS.aloadN X1.here hx rfl (hb hby d1_7) rfl rfl k
    obtain ⟨T3, X3, e3, st3⟩ := getS2 X1 hx hZ hown (host := "") (Or.inl (hw _ (List.mem_of_getElem? (i := 11) rfl))) Via.refl e1 S_DELETE (g := (mkF m 8 #[.val (.ref x0)] [(.ref x0)])) rfl (hb hby d1_8)
    refine own_pre (B := T3.setTop (mkF m 11 #[.val (.ref x0)] [(.ref a_DELETE), (.ref x0)])) ?_ st3
    by_cases h11_4 : x0 = a_DELETE
    · skip
      refine own_pre (B := T3.setTop (mkF m 18 #[.val (.ref x0)] [])) ?_ fun t k => Jvm.RoadKit.acmp (g := (mkF m 11 #[.val (.ref x0)] [(.ref a_DELETE), (.ref x0)])) X3 hx rfl rfl rfl (pc0 := 11) (pc' := 18) (same := true) rfl (hb hby d1_11) rfl (decide_eq_true (congrArg Value.ref h11_4)) (by decide) (by decide) k
      refine own_pre (B := T3.setTop (mkF m 19 #[.val (.ref x0)] [(.int (0 : Int32))])) ?_ fun t k => XS.iconst X3.here hx rfl (hb hby d1_18) k
      refine own_retN X3 hx hlk (t := .boolean) (z' := (0 : Int32)) Bd.returns (by simp) (hb hby d1_19) (by decide) ?_ (by decide) (by decide)
      rw [e3]
      exact ⟨by simp [own_wv, h4_2, h11_4], N0, rfl⟩
    · skip
      refine own_pre (B := T3.setTop (mkF m 14 #[.val (.ref x0)] [])) ?_ fun t k => Jvm.RoadKit.acmp (g := (mkF m 11 #[.val (.ref x0)] [(.ref a_DELETE), (.ref x0)])) X3 hx rfl rfl rfl (pc0 := 11) (pc' := 14) (same := false) rfl (hb hby d1_11) rfl (decide_eq_false fun q => h11_4 (Value.ref.inj q)) (by decide) (by decide) k
      refine own_pre (B := T3.setTop (mkF m 15 #[.val (.ref x0)] [(.int (1 : Int32))])) ?_ fun t k => XS.iconst X3.here hx rfl (hb hby d1_14) k
      refine own_pre (B := T3.setTop (mkF m 19 #[.val (.ref x0)] [(.int (1 : Int32))])) ?_ fun t k => XS.goto X3.here hx rfl (pc0 := 15) (pc' := 19) rfl (hb hby d1_15) (by decide) (by decide) k
      refine own_retN X3 hx hlk (t := .boolean) (z' := (1 : Int32)) Bd.returns (by simp) (hb hby d1_19) (by decide) ?_ (by decide) (by decide)
      rw [e3]
      exact ⟨by simp [own_wv, h4_2, h11_4], N0, rfl⟩
theorem pd___Z : parseMethodDescriptor "()Z" = some ⟨[], some .boolean⟩ := by decide +kernel
theorem pn_com_example_pipecaret_pipecaret_message_OperationWritesValuePinLaw : plainName "com/example/pipecaret/pipecaret/message/OperationWritesValuePinLaw" = true := by first | (simp [plainName, overriddenIn]; done) | decide +kernel
theorem ef_0 (m : MethodId) (x0 : Int32) : entryFrame m #[(.int x0)] maxLocals = mkF m 0 #[.val (.int x0), .unset, .unset, .unset] [] := by first | rfl | (simp [entryFrame, mkF, argsToLocals, Value.category, maxLocals]; done)
def Q0 (Z : State) (x0 : Int32) (a_SET : Addr) (a_CLEAR : Addr) (a_DELETE : Addr) (a_ADD : Addr) (a_INSERT : Addr) (a_INSERT_AFTER : Addr) (h0 : Heap) (n0 : Nat) (v : Option Value) (h : Heap) (L : List Loc) : Prop := v = some (.int 1) ∧ Fr n0 L
set_option maxRecDepth 65536 in
set_option maxHeartbeats 40000000 in
theorem rm0 (l : Launch) (Z : State) (a0 : Array Value) (hw : ∀ d ∈ tables_1, d.before a0 Z = true) (ws : List Jvm.Cond) (x0 : Int32) (a_SET : Addr) (a_CLEAR : Addr) (a_DELETE : Addr) (a_ADD : Addr) (a_INSERT : Addr) (a_INSERT_AFTER : Addr) (h0 : Heap) (n0 : Nat) (Z0 : n0 ≤ h0.size) (S_SET : Sta Z h0 "com/example/pipecaret/pipecaret/message/MessageEdit$Operation" "SET" "Lcom/example/pipecaret/pipecaret/message/MessageEdit$Operation;" (.ref a_SET)) (S_CLEAR : Sta Z h0 "com/example/pipecaret/pipecaret/message/MessageEdit$Operation" "CLEAR" "Lcom/example/pipecaret/pipecaret/message/MessageEdit$Operation;" (.ref a_CLEAR)) (S_DELETE : Sta Z h0 "com/example/pipecaret/pipecaret/message/MessageEdit$Operation" "DELETE" "Lcom/example/pipecaret/pipecaret/message/MessageEdit$Operation;" (.ref a_DELETE)) (S_ADD : Sta Z h0 "com/example/pipecaret/pipecaret/message/MessageEdit$Operation" "ADD" "Lcom/example/pipecaret/pipecaret/message/MessageEdit$Operation;" (.ref a_ADD)) (S_INSERT : Sta Z h0 "com/example/pipecaret/pipecaret/message/MessageEdit$Operation" "INSERT" "Lcom/example/pipecaret/pipecaret/message/MessageEdit$Operation;" (.ref a_INSERT)) (S_INSERT_AFTER : Sta Z h0 "com/example/pipecaret/pipecaret/message/MessageEdit$Operation" "INSERT_AFTER" "Lcom/example/pipecaret/pipecaret/message/MessageEdit$Operation;" (.ref a_INSERT_AFTER)) (E_SET : Exa Z h0 a_SET "com/example/pipecaret/pipecaret/message/MessageEdit$Operation") (E_CLEAR : Exa Z h0 a_CLEAR "com/example/pipecaret/pipecaret/message/MessageEdit$Operation") (E_DELETE : Exa Z h0 a_DELETE "com/example/pipecaret/pipecaret/message/MessageEdit$Operation") (E_ADD : Exa Z h0 a_ADD "com/example/pipecaret/pipecaret/message/MessageEdit$Operation") (E_INSERT : Exa Z h0 a_INSERT "com/example/pipecaret/pipecaret/message/MessageEdit$Operation") (E_INSERT_AFTER : Exa Z h0 a_INSERT_AFTER "com/example/pipecaret/pipecaret/message/MessageEdit$Operation") (ne_SET_CLEAR : a_SET ≠ a_CLEAR) (ne_SET_DELETE : a_SET ≠ a_DELETE) (ne_CLEAR_DELETE : a_CLEAR ≠ a_DELETE) (ne_DELETE_CLEAR : a_DELETE ≠ a_CLEAR) (ne_ADD_CLEAR : a_ADD ≠ a_CLEAR) (ne_ADD_DELETE : a_ADD ≠ a_DELETE) (ne_INSERT_CLEAR : a_INSERT ≠ a_CLEAR) (ne_INSERT_DELETE : a_INSERT ≠ a_DELETE) (ne_INSERT_AFTER_CLEAR : a_INSERT_AFTER ≠ a_CLEAR) (ne_INSERT_AFTER_DELETE : a_INSERT_AFTER ≠ a_DELETE) :
    MetFree l x (head1 (Jvm.Cond.code x code maxLocals ret :: ws) room_1) (fun a U => a = #[(.int x0)] ∧ Z.Warmed39 U.vm ∧ U.heap = h0) (fun _ _ _ _ _ => True) (fun _ U o U' => ∃ v L, o = .returned v ∧ Q0 Z x0 a_SET a_CLEAR a_DELETE a_ADD a_INSERT a_INSERT_AFTER h0 n0 v U'.heap L ∧ FrameEnd U o U' L 0 0) := by
  refine MetFree.of_bodySF (plainFor_of_name pn_com_example_pipecaret_pipecaret_message_OperationWritesValuePinLaw) hisR ?_
  intro p e s m args below meth c s₁ Bd hml0 hP hK
  obtain ⟨rfl, hZ, hh⟩ := hP
  have hx := Bd.exec
  have hby := Bd.bytes
  have hml : c.maxLocals = 4 := hml0
  have hown : s.vm.findClass "com/example/pipecaret/pipecaret/message/OperationWritesValuePinLaw" = some m.cls := findClass_of_methodNamed Bd.named
  have hnm := (name_of_methodNamed Bd.named Bd.method).1
  have hlk : meth.locks = false := BodyLoose.notSynchronized Bd
  have X0 : Stand p l e room_1 s m #[(.int x0)] below meth c s₁ [] 0 0 := Stand.of_body Bd
  have e0 : s₁.heap = h0 := by rw [← hh, Bd.state]; rfl
  have N0 := Fr.nil n0
  show own_E p e below s (Q0 Z x0 a_SET a_CLEAR a_DELETE a_ADD a_INSERT a_INSERT_AFTER h0 n0) 0 0 (s₁.setTop (entryFrame m #[(.int x0)] maxLocals))
  refine own_pre (B := s₁.setTop (mkF m 0 #[.val (.int x0), .unset, .unset, .unset] [])) ?_ (fun t k => castTop (ef_0 m x0) k)
  refine own_pre (B := s₁.setTop (mkF m 1 #[.val (.int x0), .unset, .unset, .unset] [(.int x0)])) ?_ fun t k => XS.iloadN X0.here hx rfl (hb hby at_0) rfl  k
  refine own_pre (B := s₁.setTop (mkF m 3 #[.val (.int x0), .unset, .unset, .unset] [(.int (2147483647 : Int32)), (.int x0)])) ?_ (X0.ldcInt hx hown (mvT hZ (hw _ (List.mem_of_getElem? (i := 0) rfl))) (g := (mkF m 1 #[.val (.int x0), .unset, .unset, .unset] [(.int x0)])) rfl (hb hby at_1))
  refine own_pre (B := s₁.setTop (mkF m 4 #[.val (.int x0), .unset, .unset, .unset] [(.int (x0 &&& (2147483647 : Int32)))])) ?_ fun t k => XS.iand X0.here hx rfl (hb hby at_3) rfl k
  refine own_pre (B := s₁.setTop (mkF m 6 #[.val (.int x0), .unset, .unset, .unset] [(.int (6 : Int32)), (.int (x0 &&& (2147483647 : Int32)))])) ?_ fun t k => XS.bipush X0.here hx rfl (hb hby at_4) k
  refine own_pre (B := s₁.setTop (mkF m 7 #[.val (.int x0), .unset, .unset, .unset] [(.int ((x0 &&& (2147483647 : Int32)) % (6 : Int32)))])) ?_ fun t k => iremM X0 hx rfl (hb hby at_6) rfl (by decide) k
  refine own_pre (B := s₁.setTop (mkF m 8 #[.val (.int x0), .val (.int ((x0 &&& (2147483647 : Int32)) % (6 : Int32))), .unset, .unset] [])) ?_ fun t k => XS.istoreN X0.here hx rfl (hb hby at_7) rfl  (l' := #[.val (.int x0), .val (.int ((x0 &&& (2147483647 : Int32)) % (6 : Int32))), .unset, .unset]) rfl k
  refine own_pre (B := s₁.setTop (mkF m 9 #[.val (.int x0), .val (.int ((x0 &&& (2147483647 : Int32)) % (6 : Int32))), .unset, .unset] [(.int ((x0 &&& (2147483647 : Int32)) % (6 : Int32)))])) ?_ fun t k => XS.iloadN X0.here hx rfl (hb hby at_8) rfl  k
  by_cases h9_1 : ((x0 &&& (2147483647 : Int32)) % (6 : Int32)) = (0 : Int32)
  · skip
    refine own_pre (B := s₁.setTop (mkF m 12 #[.val (.int x0), .val (.int ((x0 &&& (2147483647 : Int32)) % (6 : Int32))), .unset, .unset] [])) ?_ fun t k => XS.ifNo X0.here hx rfl (hb hby at_9) rfl ((if0 _ _).trans (teq h9_1).2) k
    obtain ⟨T2, X2, e2, st2⟩ := getS2 X0 hx hZ hown (host := "") (Or.inl (hw _ (List.mem_of_getElem? (i := 1) rfl))) Via.refl e0 S_SET (g := (mkF m 12 #[.val (.int x0), .val (.int ((x0 &&& (2147483647 : Int32)) % (6 : Int32))), .unset, .unset] [])) rfl (hb hby at_12)
    refine own_pre (B := T2.setTop (mkF m 15 #[.val (.int x0), .val (.int ((x0 &&& (2147483647 : Int32)) % (6 : Int32))), .unset, .unset] [(.ref a_SET)])) ?_ st2
    refine own_pre (B := T2.setTop (mkF m 16 #[.val (.int x0), .val (.int ((x0 &&& (2147483647 : Int32)) % (6 : Int32))), .val (.ref a_SET), .unset] [])) ?_ fun t k => XS.astoreN X2.here hx rfl (hb hby at_15) rfl rfl (l' := #[.val (.int x0), .val (.int ((x0 &&& (2147483647 : Int32)) % (6 : Int32))), .val (.ref a_SET), .unset]) rfl k
    refine own_pre (B := T2.setTop (mkF m 17 #[.val (.int x0), .val (.int ((x0 &&& (2147483647 : Int32)) % (6 : Int32))), .val (.ref a_SET), .unset] [(.int (1 : Int32))])) ?_ fun t k => XS.iconst X2.here hx rfl (hb hby at_16) k
    refine own_pre (B := T2.setTop (mkF m 18 #[.val (.int x0), .val (.int ((x0 &&& (2147483647 : Int32)) % (6 : Int32))), .val (.ref a_SET), .val (.int (1 : Int32))] [])) ?_ fun t k => XS.istoreN X2.here hx rfl (hb hby at_17) rfl  (l' := #[.val (.int x0), .val (.int ((x0 &&& (2147483647 : Int32)) % (6 : Int32))), .val (.ref a_SET), .val (.int (1 : Int32))]) rfl k
    refine own_pre (B := T2.setTop (mkF m 83 #[.val (.int x0), .val (.int ((x0 &&& (2147483647 : Int32)) % (6 : Int32))), .val (.ref a_SET), .val (.int (1 : Int32))] [])) ?_ fun t k => XS.goto X2.here hx rfl (pc0 := 18) (pc' := 83) rfl (hb hby at_18) (by decide) (by decide) k
    refine own_pre (B := T2.setTop (mkF m 84 #[.val (.int x0), .val (.int ((x0 &&& (2147483647 : Int32)) % (6 : Int32))), .val (.ref a_SET), .val (.int (1 : Int32))] [(.ref a_SET)])) ?_ fun t k => XS.aloadN X2.here hx rfl (hb hby at_83) rfl rfl k
    obtain ⟨cq3, kq3, q3a, q3b, q3c⟩ := isOf hZ e2 E_SET
    obtain ⟨_, _, ⟨T3, L3, k3, n3⟩, -, X3, ⟨Lc3, hQ3, l3, y3, z3⟩, st3⟩ := X2.virtualBack hx (y := (⟨"com/example/pipecaret/pipecaret/message/MessageEdit$Operation", "writesValue", "()Z"⟩ : MethodName)) (z := (⟨"com/example/pipecaret/pipecaret/message/MessageEdit$Operation", "writesValue", "()Z"⟩ : MethodName)) hown (mvT hZ (hw _ (List.mem_of_getElem? (i := 4) rfl))) (mvT hZ (hw _ (List.mem_of_getElem? (i := 5) rfl))) (notFace_of_selects (args := #[]) (mvT hZ (hw _ (List.mem_of_getElem? (i := 7) rfl)))) (mvT hZ (hw _ (List.mem_of_getElem? (i := 7) rfl))) (mvT hZ (hw _ (List.mem_of_getElem? (i := 6) rfl))) (by decide) (backOf (W := 0) (rm1 l Z a0 hw [] a_SET a_CLEAR a_DELETE h0 n0 Z0 S_CLEAR S_DELETE) hZ (hw _ (List.mem_of_getElem? (i := 8) rfl)) (hw _ (List.mem_of_getElem? (i := 2) rfl)) (by decide) (by decide)) q3a q3c (g := (mkF m 84 #[.val (.int x0), .val (.int ((x0 &&& (2147483647 : Int32)) % (6 : Int32))), .val (.ref a_SET), .val (.int (1 : Int32))] [(.ref a_SET)])) rfl (by rw [hml]; rfl) (Steps.refl _) (argsL := []) (rest := []) (lenOf pd___Z rfl) rfl (by show 2 * 0 + _ ≤ _; exact Nat.le_of_eq rfl) (hb hby at_84) (fun _ _ => ⟨rfl, e2, (by decide : 0 + 0 ≤ _), (by decide : 0 + 0 ≤ _)⟩)
    dsimp only [Pt.U, Pt.locs, Pt.cells, Pt.slots] at X3 l3 y3 z3 st3 hQ3
    subst l3 y3 z3
    obtain ⟨rfl, Nq3, e3⟩ := hQ3
    have N3 := Fr.app N0 Nq3
    refine own_pre (B := T3.setTop (mkF m 87 #[.val (.int x0), .val (.int ((x0 &&& (2147483647 : Int32)) % (6 : Int32))), .val (.ref a_SET), .val (.int (1 : Int32))] [(.int (own_wv a_SET a_CLEAR a_DELETE))])) ?_ (fun t k => st3.trans k)
    refine own_pre (B := T3.setTop (mkF m 88 #[.val (.int x0), .val (.int ((x0 &&& (2147483647 : Int32)) % (6 : Int32))), .val (.ref a_SET), .val (.int (1 : Int32))] [(.int (1 : Int32)), (.int (own_wv a_SET a_CLEAR a_DELETE))])) ?_ fun t k => XS.iloadN X3.here hx rfl (hb hby at_87) rfl  k
    refine own_pre (B := T3.setTop (mkF m 91 #[.val (.int x0), .val (.int ((x0 &&& (2147483647 : Int32)) % (6 : Int32))), .val (.ref a_SET), .val (.int (1 : Int32))] [])) ?_ fun t k => XS.icmpNo X3.here hx rfl (hb hby at_88) rfl (teq (by simp [own_wv, ne_SET_CLEAR, ne_SET_DELETE, ne_CLEAR_DELETE, ne_DELETE_CLEAR, ne_ADD_CLEAR, ne_ADD_DELETE, ne_INSERT_CLEAR, ne_INSERT_DELETE, ne_INSERT_AFTER_CLEAR, ne_INSERT_AFTER_DELETE])).2 k
    refine own_pre (B := T3.setTop (mkF m 92 #[.val (.int x0), .val (.int ((x0 &&& (2147483647 : Int32)) % (6 : Int32))), .val (.ref a_SET), .val (.int (1 : Int32))] [(.int (1 : Int32))])) ?_ fun t k => XS.iconst X3.here hx rfl (hb hby at_91) k
    refine own_pre (B := T3.setTop (mkF m 96 #[.val (.int x0), .val (.int ((x0 &&& (2147483647 : Int32)) % (6 : Int32))), .val (.ref a_SET), .val (.int (1 : Int32))] [(.int (1 : Int32))])) ?_ fun t k => XS.goto X3.here hx rfl (pc0 := 92) (pc' := 96) rfl (hb hby at_92) (by decide) (by decide) k
    refine own_retN X3 hx hlk (t := .boolean) (z' := (1 : Int32)) Bd.returns (by simp) (hb hby at_96) (by decide) ?_ (by decide) (by decide)
    rw [e3]
    exact ⟨rfl, N3⟩
  · skip
    refine own_pre (B := s₁.setTop (mkF m 21 #[.val (.int x0), .val (.int ((x0 &&& (2147483647 : Int32)) % (6 : Int32))), .unset, .unset] [])) ?_ fun t k => XS.ifYes X0.here hx rfl (pc0 := 9) (pc' := 21) rfl (hb hby at_9) rfl ((if0 _ _).trans (feq h9_1).2) (by decide) (by decide) k
    refine own_pre (B := s₁.setTop (mkF m 22 #[.val (.int x0), .val (.int ((x0 &&& (2147483647 : Int32)) % (6 : Int32))), .unset, .unset] [(.int ((x0 &&& (2147483647 : Int32)) % (6 : Int32)))])) ?_ fun t k => XS.iloadN X0.here hx rfl (hb hby at_21) rfl  k
    refine own_pre (B := s₁.setTop (mkF m 23 #[.val (.int x0), .val (.int ((x0 &&& (2147483647 : Int32)) % (6 : Int32))), .unset, .unset] [(.int (1 : Int32)), (.int ((x0 &&& (2147483647 : Int32)) % (6 : Int32)))])) ?_ fun t k => XS.iconst X0.here hx rfl (hb hby at_22) k
    by_cases h23_4 : ((x0 &&& (2147483647 : Int32)) % (6 : Int32)) = (1 : Int32)
    · skip
      refine own_pre (B := s₁.setTop (mkF m 26 #[.val (.int x0), .val (.int ((x0 &&& (2147483647 : Int32)) % (6 : Int32))), .unset, .unset] [])) ?_ fun t k => XS.icmpNo X0.here hx rfl (hb hby at_23) rfl (teq h23_4).2 k
      obtain ⟨T5, X5, e5, st5⟩ := getS2 X0 hx hZ hown (host := "") (Or.inl (hw _ (List.mem_of_getElem? (i := 16) rfl))) Via.refl e0 S_CLEAR (g := (mkF m 26 #[.val (.int x0), .val (.int ((x0 &&& (2147483647 : Int32)) % (6 : Int32))), .unset, .unset] [])) rfl (hb hby at_26)
      refine own_pre (B := T5.setTop (mkF m 29 #[.val (.int x0), .val (.int ((x0 &&& (2147483647 : Int32)) % (6 : Int32))), .unset, .unset] [(.ref a_CLEAR)])) ?_ st5
      refine own_pre (B := T5.setTop (mkF m 30 #[.val (.int x0), .val (.int ((x0 &&& (2147483647 : Int32)) % (6 : Int32))), .val (.ref a_CLEAR), .unset] [])) ?_ fun t k => XS.astoreN X5.here hx rfl (hb hby at_29) rfl rfl (l' := #[.val (.int x0), .val (.int ((x0 &&& (2147483647 : Int32)) % (6 : Int32))), .val (.ref a_CLEAR), .unset]) rfl k
      refine own_pre (B := T5.setTop (mkF m 31 #[.val (.int x0), .val (.int ((x0 &&& (2147483647 : Int32)) % (6 : Int32))), .val (.ref a_CLEAR), .unset] [(.int (0 : Int32))])) ?_ fun t k => XS.iconst X5.here hx rfl (hb hby at_30) k
      refine own_pre (B := T5.setTop (mkF m 32 #[.val (.int x0), .val (.int ((x0 &&& (2147483647 : Int32)) % (6 : Int32))), .val (.ref a_CLEAR), .val (.int (0 : Int32))] [])) ?_ fun t k => XS.istoreN X5.here hx rfl (hb hby at_31) rfl  (l' := #[.val (.int x0), .val (.int ((x0 &&& (2147483647 : Int32)) % (6 : Int32))), .val (.ref a_CLEAR), .val (.int (0 : Int32))]) rfl k
      refine own_pre (B := T5.setTop (mkF m 83 #[.val (.int x0), .val (.int ((x0 &&& (2147483647 : Int32)) % (6 : Int32))), .val (.ref a_CLEAR), .val (.int (0 : Int32))] [])) ?_ fun t k => XS.goto X5.here hx rfl (pc0 := 32) (pc' := 83) rfl (hb hby at_32) (by decide) (by decide) k
      refine own_pre (B := T5.setTop (mkF m 84 #[.val (.int x0), .val (.int ((x0 &&& (2147483647 : Int32)) % (6 : Int32))), .val (.ref a_CLEAR), .val (.int (0 : Int32))] [(.ref a_CLEAR)])) ?_ fun t k => XS.aloadN X5.here hx rfl (hb hby at_83) rfl rfl k
      obtain ⟨cq6, kq6, q6a, q6b, q6c⟩ := isOf hZ e5 E_CLEAR
      obtain ⟨_, _, ⟨T6, L6, k6, n6⟩, -, X6, ⟨Lc6, hQ6, l6, y6, z6⟩, st6⟩ := X5.virtualBack hx (y := (⟨"com/example/pipecaret/pipecaret/message/MessageEdit$Operation", "writesValue", "()Z"⟩ : MethodName)) (z := (⟨"com/example/pipecaret/pipecaret/message/MessageEdit$Operation", "writesValue", "()Z"⟩ : MethodName)) hown (mvT hZ (hw _ (List.mem_of_getElem? (i := 4) rfl))) (mvT hZ (hw _ (List.mem_of_getElem? (i := 5) rfl))) (notFace_of_selects (args := #[]) (mvT hZ (hw _ (List.mem_of_getElem? (i := 7) rfl)))) (mvT hZ (hw _ (List.mem_of_getElem? (i := 7) rfl))) (mvT hZ (hw _ (List.mem_of_getElem? (i := 6) rfl))) (by decide) (backOf (W := 0) (rm1 l Z a0 hw [] a_CLEAR a_CLEAR a_DELETE h0 n0 Z0 S_CLEAR S_DELETE) hZ (hw _ (List.mem_of_getElem? (i := 8) rfl)) (hw _ (List.mem_of_getElem? (i := 2) rfl)) (by decide) (by decide)) q6a q6c (g := (mkF m 84 #[.val (.int x0), .val (.int ((x0 &&& (2147483647 : Int32)) % (6 : Int32))), .val (.ref a_CLEAR), .val (.int (0 : Int32))] [(.ref a_CLEAR)])) rfl (by rw [hml]; rfl) (Steps.refl _) (argsL := []) (rest := []) (lenOf pd___Z rfl) rfl (by show 2 * 0 + _ ≤ _; exact Nat.le_of_eq rfl) (hb hby at_84) (fun _ _ => ⟨rfl, e5, (by decide : 0 + 0 ≤ _), (by decide : 0 + 0 ≤ _)⟩)
      dsimp only [Pt.U, Pt.locs, Pt.cells, Pt.slots] at X6 l6 y6 z6 st6 hQ6
      subst l6 y6 z6
      obtain ⟨rfl, Nq6, e6⟩ := hQ6
      have N6 := Fr.app N0 Nq6
      refine own_pre (B := T6.setTop (mkF m 87 #[.val (.int x0), .val (.int ((x0 &&& (2147483647 : Int32)) % (6 : Int32))), .val (.ref a_CLEAR), .val (.int (0 : Int32))] [(.int (own_wv a_CLEAR a_CLEAR a_DELETE))])) ?_ (fun t k => st6.trans k)
      refine own_pre (B := T6.setTop (mkF m 88 #[.val (.int x0), .val (.int ((x0 &&& (2147483647 : Int32)) % (6 : Int32))), .val (.ref a_CLEAR), .val (.int (0 : Int32))] [(.int (0 : Int32)), (.int (own_wv a_CLEAR a_CLEAR a_DELETE))])) ?_ fun t k => XS.iloadN X6.here hx rfl (hb hby at_87) rfl  k
      refine own_pre (B := T6.setTop (mkF m 91 #[.val (.int x0), .val (.int ((x0 &&& (2147483647 : Int32)) % (6 : Int32))), .val (.ref a_CLEAR), .val (.int (0 : Int32))] [])) ?_ fun t k => XS.icmpNo X6.here hx rfl (hb hby at_88) rfl (teq (by simp [own_wv, ne_SET_CLEAR, ne_SET_DELETE, ne_CLEAR_DELETE, ne_DELETE_CLEAR, ne_ADD_CLEAR, ne_ADD_DELETE, ne_INSERT_CLEAR, ne_INSERT_DELETE, ne_INSERT_AFTER_CLEAR, ne_INSERT_AFTER_DELETE])).2 k
      refine own_pre (B := T6.setTop (mkF m 92 #[.val (.int x0), .val (.int ((x0 &&& (2147483647 : Int32)) % (6 : Int32))), .val (.ref a_CLEAR), .val (.int (0 : Int32))] [(.int (1 : Int32))])) ?_ fun t k => XS.iconst X6.here hx rfl (hb hby at_91) k
      refine own_pre (B := T6.setTop (mkF m 96 #[.val (.int x0), .val (.int ((x0 &&& (2147483647 : Int32)) % (6 : Int32))), .val (.ref a_CLEAR), .val (.int (0 : Int32))] [(.int (1 : Int32))])) ?_ fun t k => XS.goto X6.here hx rfl (pc0 := 92) (pc' := 96) rfl (hb hby at_92) (by decide) (by decide) k
      refine own_retN X6 hx hlk (t := .boolean) (z' := (1 : Int32)) Bd.returns (by simp) (hb hby at_96) (by decide) ?_ (by decide) (by decide)
      rw [e6]
      exact ⟨rfl, N6⟩
    · skip
      refine own_pre (B := s₁.setTop (mkF m 35 #[.val (.int x0), .val (.int ((x0 &&& (2147483647 : Int32)) % (6 : Int32))), .unset, .unset] [])) ?_ fun t k => XS.icmpYes X0.here hx rfl (pc0 := 23) (pc' := 35) rfl (hb hby at_23) rfl (feq h23_4).2 (by decide) (by decide) k
      refine own_pre (B := s₁.setTop (mkF m 36 #[.val (.int x0), .val (.int ((x0 &&& (2147483647 : Int32)) % (6 : Int32))), .unset, .unset] [(.int ((x0 &&& (2147483647 : Int32)) % (6 : Int32)))])) ?_ fun t k => XS.iloadN X0.here hx rfl (hb hby at_35) rfl  k
      refine own_pre (B := s₁.setTop (mkF m 37 #[.val (.int x0), .val (.int ((x0 &&& (2147483647 : Int32)) % (6 : Int32))), .unset, .unset] [(.int (2 : Int32)), (.int ((x0 &&& (2147483647 : Int32)) % (6 : Int32)))])) ?_ fun t k => XS.iconst X0.here hx rfl (hb hby at_36) k
      by_cases h37_7 : ((x0 &&& (2147483647 : Int32)) % (6 : Int32)) = (2 : Int32)
      · skip
        refine own_pre (B := s₁.setTop (mkF m 40 #[.val (.int x0), .val (.int ((x0 &&& (2147483647 : Int32)) % (6 : Int32))), .unset, .unset] [])) ?_ fun t k => XS.icmpNo X0.here hx rfl (hb hby at_37) rfl (teq h37_7).2 k
        obtain ⟨T8, X8, e8, st8⟩ := getS2 X0 hx hZ hown (host := "") (Or.inl (hw _ (List.mem_of_getElem? (i := 15) rfl))) Via.refl e0 S_DELETE (g := (mkF m 40 #[.val (.int x0), .val (.int ((x0 &&& (2147483647 : Int32)) % (6 : Int32))), .unset, .unset] [])) rfl (hb hby at_40)
        refine own_pre (B := T8.setTop (mkF m 43 #[.val (.int x0), .val (.int ((x0 &&& (2147483647 : Int32)) % (6 : Int32))), .unset, .unset] [(.ref a_DELETE)])) ?_ st8
        refine own_pre (B := T8.setTop (mkF m 44 #[.val (.int x0), .val (.int ((x0 &&& (2147483647 : Int32)) % (6 : Int32))), .val (.ref a_DELETE), .unset] [])) ?_ fun t k => XS.astoreN X8.here hx rfl (hb hby at_43) rfl rfl (l' := #[.val (.int x0), .val (.int ((x0 &&& (2147483647 : Int32)) % (6 : Int32))), .val (.ref a_DELETE), .unset]) rfl k
        refine own_pre (B := T8.setTop (mkF m 45 #[.val (.int x0), .val (.int ((x0 &&& (2147483647 : Int32)) % (6 : Int32))), .val (.ref a_DELETE), .unset] [(.int (0 : Int32))])) ?_ fun t k => XS.iconst X8.here hx rfl (hb hby at_44) k
        refine own_pre (B := T8.setTop (mkF m 46 #[.val (.int x0), .val (.int ((x0 &&& (2147483647 : Int32)) % (6 : Int32))), .val (.ref a_DELETE), .val (.int (0 : Int32))] [])) ?_ fun t k => XS.istoreN X8.here hx rfl (hb hby at_45) rfl  (l' := #[.val (.int x0), .val (.int ((x0 &&& (2147483647 : Int32)) % (6 : Int32))), .val (.ref a_DELETE), .val (.int (0 : Int32))]) rfl k
        refine own_pre (B := T8.setTop (mkF m 83 #[.val (.int x0), .val (.int ((x0 &&& (2147483647 : Int32)) % (6 : Int32))), .val (.ref a_DELETE), .val (.int (0 : Int32))] [])) ?_ fun t k => XS.goto X8.here hx rfl (pc0 := 46) (pc' := 83) rfl (hb hby at_46) (by decide) (by decide) k
        refine own_pre (B := T8.setTop (mkF m 84 #[.val (.int x0), .val (.int ((x0 &&& (2147483647 : Int32)) % (6 : Int32))), .val (.ref a_DELETE), .val (.int (0 : Int32))] [(.ref a_DELETE)])) ?_ fun t k => XS.aloadN X8.here hx rfl (hb hby at_83) rfl rfl k
        obtain ⟨cq9, kq9, q9a, q9b, q9c⟩ := isOf hZ e8 E_DELETE
        obtain ⟨_, _, ⟨T9, L9, k9, n9⟩, -, X9, ⟨Lc9, hQ9, l9, y9, z9⟩, st9⟩ := X8.virtualBack hx (y := (⟨"com/example/pipecaret/pipecaret/message/MessageEdit$Operation", "writesValue", "()Z"⟩ : MethodName)) (z := (⟨"com/example/pipecaret/pipecaret/message/MessageEdit$Operation", "writesValue", "()Z"⟩ : MethodName)) hown (mvT hZ (hw _ (List.mem_of_getElem? (i := 4) rfl))) (mvT hZ (hw _ (List.mem_of_getElem? (i := 5) rfl))) (notFace_of_selects (args := #[]) (mvT hZ (hw _ (List.mem_of_getElem? (i := 7) rfl)))) (mvT hZ (hw _ (List.mem_of_getElem? (i := 7) rfl))) (mvT hZ (hw _ (List.mem_of_getElem? (i := 6) rfl))) (by decide) (backOf (W := 0) (rm1 l Z a0 hw [] a_DELETE a_CLEAR a_DELETE h0 n0 Z0 S_CLEAR S_DELETE) hZ (hw _ (List.mem_of_getElem? (i := 8) rfl)) (hw _ (List.mem_of_getElem? (i := 2) rfl)) (by decide) (by decide)) q9a q9c (g := (mkF m 84 #[.val (.int x0), .val (.int ((x0 &&& (2147483647 : Int32)) % (6 : Int32))), .val (.ref a_DELETE), .val (.int (0 : Int32))] [(.ref a_DELETE)])) rfl (by rw [hml]; rfl) (Steps.refl _) (argsL := []) (rest := []) (lenOf pd___Z rfl) rfl (by show 2 * 0 + _ ≤ _; exact Nat.le_of_eq rfl) (hb hby at_84) (fun _ _ => ⟨rfl, e8, (by decide : 0 + 0 ≤ _), (by decide : 0 + 0 ≤ _)⟩)
        dsimp only [Pt.U, Pt.locs, Pt.cells, Pt.slots] at X9 l9 y9 z9 st9 hQ9
        subst l9 y9 z9
        obtain ⟨rfl, Nq9, e9⟩ := hQ9
        have N9 := Fr.app N0 Nq9
        refine own_pre (B := T9.setTop (mkF m 87 #[.val (.int x0), .val (.int ((x0 &&& (2147483647 : Int32)) % (6 : Int32))), .val (.ref a_DELETE), .val (.int (0 : Int32))] [(.int (own_wv a_DELETE a_CLEAR a_DELETE))])) ?_ (fun t k => st9.trans k)
        refine own_pre (B := T9.setTop (mkF m 88 #[.val (.int x0), .val (.int ((x0 &&& (2147483647 : Int32)) % (6 : Int32))), .val (.ref a_DELETE), .val (.int (0 : Int32))] [(.int (0 : Int32)), (.int (own_wv a_DELETE a_CLEAR a_DELETE))])) ?_ fun t k => XS.iloadN X9.here hx rfl (hb hby at_87) rfl  k
        refine own_pre (B := T9.setTop (mkF m 91 #[.val (.int x0), .val (.int ((x0 &&& (2147483647 : Int32)) % (6 : Int32))), .val (.ref a_DELETE), .val (.int (0 : Int32))] [])) ?_ fun t k => XS.icmpNo X9.here hx rfl (hb hby at_88) rfl (teq (by simp [own_wv, ne_SET_CLEAR, ne_SET_DELETE, ne_CLEAR_DELETE, ne_DELETE_CLEAR, ne_ADD_CLEAR, ne_ADD_DELETE, ne_INSERT_CLEAR, ne_INSERT_DELETE, ne_INSERT_AFTER_CLEAR, ne_INSERT_AFTER_DELETE])).2 k
        refine own_pre (B := T9.setTop (mkF m 92 #[.val (.int x0), .val (.int ((x0 &&& (2147483647 : Int32)) % (6 : Int32))), .val (.ref a_DELETE), .val (.int (0 : Int32))] [(.int (1 : Int32))])) ?_ fun t k => XS.iconst X9.here hx rfl (hb hby at_91) k
        refine own_pre (B := T9.setTop (mkF m 96 #[.val (.int x0), .val (.int ((x0 &&& (2147483647 : Int32)) % (6 : Int32))), .val (.ref a_DELETE), .val (.int (0 : Int32))] [(.int (1 : Int32))])) ?_ fun t k => XS.goto X9.here hx rfl (pc0 := 92) (pc' := 96) rfl (hb hby at_92) (by decide) (by decide) k
        refine own_retN X9 hx hlk (t := .boolean) (z' := (1 : Int32)) Bd.returns (by simp) (hb hby at_96) (by decide) ?_ (by decide) (by decide)
        rw [e9]
        exact ⟨rfl, N9⟩
      · skip
        refine own_pre (B := s₁.setTop (mkF m 49 #[.val (.int x0), .val (.int ((x0 &&& (2147483647 : Int32)) % (6 : Int32))), .unset, .unset] [])) ?_ fun t k => XS.icmpYes X0.here hx rfl (pc0 := 37) (pc' := 49) rfl (hb hby at_37) rfl (feq h37_7).2 (by decide) (by decide) k
        refine own_pre (B := s₁.setTop (mkF m 50 #[.val (.int x0), .val (.int ((x0 &&& (2147483647 : Int32)) % (6 : Int32))), .unset, .unset] [(.int ((x0 &&& (2147483647 : Int32)) % (6 : Int32)))])) ?_ fun t k => XS.iloadN X0.here hx rfl (hb hby at_49) rfl  k
        refine own_pre (B := s₁.setTop (mkF m 51 #[.val (.int x0), .val (.int ((x0 &&& (2147483647 : Int32)) % (6 : Int32))), .unset, .unset] [(.int (3 : Int32)), (.int ((x0 &&& (2147483647 : Int32)) % (6 : Int32)))])) ?_ fun t k => XS.iconst X0.here hx rfl (hb hby at_50) k
        by_cases h51_10 : ((x0 &&& (2147483647 : Int32)) % (6 : Int32)) = (3 : Int32)
        · skip
          refine own_pre (B := s₁.setTop (mkF m 54 #[.val (.int x0), .val (.int ((x0 &&& (2147483647 : Int32)) % (6 : Int32))), .unset, .unset] [])) ?_ fun t k => XS.icmpNo X0.here hx rfl (hb hby at_51) rfl (teq h51_10).2 k
          obtain ⟨T11, X11, e11, st11⟩ := getS2 X0 hx hZ hown (host := "") (Or.inl (hw _ (List.mem_of_getElem? (i := 13) rfl))) Via.refl e0 S_ADD (g := (mkF m 54 #[.val (.int x0), .val (.int ((x0 &&& (2147483647 : Int32)) % (6 : Int32))), .unset, .unset] [])) rfl (hb hby at_54)
          refine own_pre (B := T11.setTop (mkF m 57 #[.val (.int x0), .val (.int ((x0 &&& (2147483647 : Int32)) % (6 : Int32))), .unset, .unset] [(.ref a_ADD)])) ?_ st11
          refine own_pre (B := T11.setTop (mkF m 58 #[.val (.int x0), .val (.int ((x0 &&& (2147483647 : Int32)) % (6 : Int32))), .val (.ref a_ADD), .unset] [])) ?_ fun t k => XS.astoreN X11.here hx rfl (hb hby at_57) rfl rfl (l' := #[.val (.int x0), .val (.int ((x0 &&& (2147483647 : Int32)) % (6 : Int32))), .val (.ref a_ADD), .unset]) rfl k
          refine own_pre (B := T11.setTop (mkF m 59 #[.val (.int x0), .val (.int ((x0 &&& (2147483647 : Int32)) % (6 : Int32))), .val (.ref a_ADD), .unset] [(.int (1 : Int32))])) ?_ fun t k => XS.iconst X11.here hx rfl (hb hby at_58) k
          refine own_pre (B := T11.setTop (mkF m 60 #[.val (.int x0), .val (.int ((x0 &&& (2147483647 : Int32)) % (6 : Int32))), .val (.ref a_ADD), .val (.int (1 : Int32))] [])) ?_ fun t k => XS.istoreN X11.here hx rfl (hb hby at_59) rfl  (l' := #[.val (.int x0), .val (.int ((x0 &&& (2147483647 : Int32)) % (6 : Int32))), .val (.ref a_ADD), .val (.int (1 : Int32))]) rfl k
          refine own_pre (B := T11.setTop (mkF m 83 #[.val (.int x0), .val (.int ((x0 &&& (2147483647 : Int32)) % (6 : Int32))), .val (.ref a_ADD), .val (.int (1 : Int32))] [])) ?_ fun t k => XS.goto X11.here hx rfl (pc0 := 60) (pc' := 83) rfl (hb hby at_60) (by decide) (by decide) k
          refine own_pre (B := T11.setTop (mkF m 84 #[.val (.int x0), .val (.int ((x0 &&& (2147483647 : Int32)) % (6 : Int32))), .val (.ref a_ADD), .val (.int (1 : Int32))] [(.ref a_ADD)])) ?_ fun t k => XS.aloadN X11.here hx rfl (hb hby at_83) rfl rfl k
          obtain ⟨cq12, kq12, q12a, q12b, q12c⟩ := isOf hZ e11 E_ADD
          obtain ⟨_, _, ⟨T12, L12, k12, n12⟩, -, X12, ⟨Lc12, hQ12, l12, y12, z12⟩, st12⟩ := X11.virtualBack hx (y := (⟨"com/example/pipecaret/pipecaret/message/MessageEdit$Operation", "writesValue", "()Z"⟩ : MethodName)) (z := (⟨"com/example/pipecaret/pipecaret/message/MessageEdit$Operation", "writesValue", "()Z"⟩ : MethodName)) hown (mvT hZ (hw _ (List.mem_of_getElem? (i := 4) rfl))) (mvT hZ (hw _ (List.mem_of_getElem? (i := 5) rfl))) (notFace_of_selects (args := #[]) (mvT hZ (hw _ (List.mem_of_getElem? (i := 7) rfl)))) (mvT hZ (hw _ (List.mem_of_getElem? (i := 7) rfl))) (mvT hZ (hw _ (List.mem_of_getElem? (i := 6) rfl))) (by decide) (backOf (W := 0) (rm1 l Z a0 hw [] a_ADD a_CLEAR a_DELETE h0 n0 Z0 S_CLEAR S_DELETE) hZ (hw _ (List.mem_of_getElem? (i := 8) rfl)) (hw _ (List.mem_of_getElem? (i := 2) rfl)) (by decide) (by decide)) q12a q12c (g := (mkF m 84 #[.val (.int x0), .val (.int ((x0 &&& (2147483647 : Int32)) % (6 : Int32))), .val (.ref a_ADD), .val (.int (1 : Int32))] [(.ref a_ADD)])) rfl (by rw [hml]; rfl) (Steps.refl _) (argsL := []) (rest := []) (lenOf pd___Z rfl) rfl (by show 2 * 0 + _ ≤ _; exact Nat.le_of_eq rfl) (hb hby at_84) (fun _ _ => ⟨rfl, e11, (by decide : 0 + 0 ≤ _), (by decide : 0 + 0 ≤ _)⟩)
          dsimp only [Pt.U, Pt.locs, Pt.cells, Pt.slots] at X12 l12 y12 z12 st12 hQ12
          subst l12 y12 z12
          obtain ⟨rfl, Nq12, e12⟩ := hQ12
          have N12 := Fr.app N0 Nq12
          refine own_pre (B := T12.setTop (mkF m 87 #[.val (.int x0), .val (.int ((x0 &&& (2147483647 : Int32)) % (6 : Int32))), .val (.ref a_ADD), .val (.int (1 : Int32))] [(.int (own_wv a_ADD a_CLEAR a_DELETE))])) ?_ (fun t k => st12.trans k)
          refine own_pre (B := T12.setTop (mkF m 88 #[.val (.int x0), .val (.int ((x0 &&& (2147483647 : Int32)) % (6 : Int32))), .val (.ref a_ADD), .val (.int (1 : Int32))] [(.int (1 : Int32)), (.int (own_wv a_ADD a_CLEAR a_DELETE))])) ?_ fun t k => XS.iloadN X12.here hx rfl (hb hby at_87) rfl  k
          refine own_pre (B := T12.setTop (mkF m 91 #[.val (.int x0), .val (.int ((x0 &&& (2147483647 : Int32)) % (6 : Int32))), .val (.ref a_ADD), .val (.int (1 : Int32))] [])) ?_ fun t k => XS.icmpNo X12.here hx rfl (hb hby at_88) rfl (teq (by simp [own_wv, ne_SET_CLEAR, ne_SET_DELETE, ne_CLEAR_DELETE, ne_DELETE_CLEAR, ne_ADD_CLEAR, ne_ADD_DELETE, ne_INSERT_CLEAR, ne_INSERT_DELETE, ne_INSERT_AFTER_CLEAR, ne_INSERT_AFTER_DELETE])).2 k
          refine own_pre (B := T12.setTop (mkF m 92 #[.val (.int x0), .val (.int ((x0 &&& (2147483647 : Int32)) % (6 : Int32))), .val (.ref a_ADD), .val (.int (1 : Int32))] [(.int (1 : Int32))])) ?_ fun t k => XS.iconst X12.here hx rfl (hb hby at_91) k
          refine own_pre (B := T12.setTop (mkF m 96 #[.val (.int x0), .val (.int ((x0 &&& (2147483647 : Int32)) % (6 : Int32))), .val (.ref a_ADD), .val (.int (1 : Int32))] [(.int (1 : Int32))])) ?_ fun t k => XS.goto X12.here hx rfl (pc0 := 92) (pc' := 96) rfl (hb hby at_92) (by decide) (by decide) k
          refine own_retN X12 hx hlk (t := .boolean) (z' := (1 : Int32)) Bd.returns (by simp) (hb hby at_96) (by decide) ?_ (by decide) (by decide)
          rw [e12]
          exact ⟨rfl, N12⟩
        · skip
          refine own_pre (B := s₁.setTop (mkF m 63 #[.val (.int x0), .val (.int ((x0 &&& (2147483647 : Int32)) % (6 : Int32))), .unset, .unset] [])) ?_ fun t k => XS.icmpYes X0.here hx rfl (pc0 := 51) (pc' := 63) rfl (hb hby at_51) rfl (feq h51_10).2 (by decide) (by decide) k
          refine own_pre (B := s₁.setTop (mkF m 64 #[.val (.int x0), .val (.int ((x0 &&& (2147483647 : Int32)) % (6 : Int32))), .unset, .unset] [(.int ((x0 &&& (2147483647 : Int32)) % (6 : Int32)))])) ?_ fun t k => XS.iloadN X0.here hx rfl (hb hby at_63) rfl  k
          refine own_pre (B := s₁.setTop (mkF m 65 #[.val (.int x0), .val (.int ((x0 &&& (2147483647 : Int32)) % (6 : Int32))), .unset, .unset] [(.int (4 : Int32)), (.int ((x0 &&& (2147483647 : Int32)) % (6 : Int32)))])) ?_ fun t k => XS.iconst X0.here hx rfl (hb hby at_64) k
          by_cases h65_13 : ((x0 &&& (2147483647 : Int32)) % (6 : Int32)) = (4 : Int32)
          · skip
            refine own_pre (B := s₁.setTop (mkF m 68 #[.val (.int x0), .val (.int ((x0 &&& (2147483647 : Int32)) % (6 : Int32))), .unset, .unset] [])) ?_ fun t k => XS.icmpNo X0.here hx rfl (hb hby at_65) rfl (teq h65_13).2 k
            obtain ⟨T14, X14, e14, st14⟩ := getS2 X0 hx hZ hown (host := "") (Or.inl (hw _ (List.mem_of_getElem? (i := 19) rfl))) Via.refl e0 S_INSERT (g := (mkF m 68 #[.val (.int x0), .val (.int ((x0 &&& (2147483647 : Int32)) % (6 : Int32))), .unset, .unset] [])) rfl (hb hby at_68)
            refine own_pre (B := T14.setTop (mkF m 71 #[.val (.int x0), .val (.int ((x0 &&& (2147483647 : Int32)) % (6 : Int32))), .unset, .unset] [(.ref a_INSERT)])) ?_ st14
            refine own_pre (B := T14.setTop (mkF m 72 #[.val (.int x0), .val (.int ((x0 &&& (2147483647 : Int32)) % (6 : Int32))), .val (.ref a_INSERT), .unset] [])) ?_ fun t k => XS.astoreN X14.here hx rfl (hb hby at_71) rfl rfl (l' := #[.val (.int x0), .val (.int ((x0 &&& (2147483647 : Int32)) % (6 : Int32))), .val (.ref a_INSERT), .unset]) rfl k
            refine own_pre (B := T14.setTop (mkF m 73 #[.val (.int x0), .val (.int ((x0 &&& (2147483647 : Int32)) % (6 : Int32))), .val (.ref a_INSERT), .unset] [(.int (1 : Int32))])) ?_ fun t k => XS.iconst X14.here hx rfl (hb hby at_72) k
            refine own_pre (B := T14.setTop (mkF m 74 #[.val (.int x0), .val (.int ((x0 &&& (2147483647 : Int32)) % (6 : Int32))), .val (.ref a_INSERT), .val (.int (1 : Int32))] [])) ?_ fun t k => XS.istoreN X14.here hx rfl (hb hby at_73) rfl  (l' := #[.val (.int x0), .val (.int ((x0 &&& (2147483647 : Int32)) % (6 : Int32))), .val (.ref a_INSERT), .val (.int (1 : Int32))]) rfl k
            refine own_pre (B := T14.setTop (mkF m 83 #[.val (.int x0), .val (.int ((x0 &&& (2147483647 : Int32)) % (6 : Int32))), .val (.ref a_INSERT), .val (.int (1 : Int32))] [])) ?_ fun t k => XS.goto X14.here hx rfl (pc0 := 74) (pc' := 83) rfl (hb hby at_74) (by decide) (by decide) k
            refine own_pre (B := T14.setTop (mkF m 84 #[.val (.int x0), .val (.int ((x0 &&& (2147483647 : Int32)) % (6 : Int32))), .val (.ref a_INSERT), .val (.int (1 : Int32))] [(.ref a_INSERT)])) ?_ fun t k => XS.aloadN X14.here hx rfl (hb hby at_83) rfl rfl k
            obtain ⟨cq15, kq15, q15a, q15b, q15c⟩ := isOf hZ e14 E_INSERT
            obtain ⟨_, _, ⟨T15, L15, k15, n15⟩, -, X15, ⟨Lc15, hQ15, l15, y15, z15⟩, st15⟩ := X14.virtualBack hx (y := (⟨"com/example/pipecaret/pipecaret/message/MessageEdit$Operation", "writesValue", "()Z"⟩ : MethodName)) (z := (⟨"com/example/pipecaret/pipecaret/message/MessageEdit$Operation", "writesValue", "()Z"⟩ : MethodName)) hown (mvT hZ (hw _ (List.mem_of_getElem? (i := 4) rfl))) (mvT hZ (hw _ (List.mem_of_getElem? (i := 5) rfl))) (notFace_of_selects (args := #[]) (mvT hZ (hw _ (List.mem_of_getElem? (i := 7) rfl)))) (mvT hZ (hw _ (List.mem_of_getElem? (i := 7) rfl))) (mvT hZ (hw _ (List.mem_of_getElem? (i := 6) rfl))) (by decide) (backOf (W := 0) (rm1 l Z a0 hw [] a_INSERT a_CLEAR a_DELETE h0 n0 Z0 S_CLEAR S_DELETE) hZ (hw _ (List.mem_of_getElem? (i := 8) rfl)) (hw _ (List.mem_of_getElem? (i := 2) rfl)) (by decide) (by decide)) q15a q15c (g := (mkF m 84 #[.val (.int x0), .val (.int ((x0 &&& (2147483647 : Int32)) % (6 : Int32))), .val (.ref a_INSERT), .val (.int (1 : Int32))] [(.ref a_INSERT)])) rfl (by rw [hml]; rfl) (Steps.refl _) (argsL := []) (rest := []) (lenOf pd___Z rfl) rfl (by show 2 * 0 + _ ≤ _; exact Nat.le_of_eq rfl) (hb hby at_84) (fun _ _ => ⟨rfl, e14, (by decide : 0 + 0 ≤ _), (by decide : 0 + 0 ≤ _)⟩)
            dsimp only [Pt.U, Pt.locs, Pt.cells, Pt.slots] at X15 l15 y15 z15 st15 hQ15
            subst l15 y15 z15
            obtain ⟨rfl, Nq15, e15⟩ := hQ15
            have N15 := Fr.app N0 Nq15
            refine own_pre (B := T15.setTop (mkF m 87 #[.val (.int x0), .val (.int ((x0 &&& (2147483647 : Int32)) % (6 : Int32))), .val (.ref a_INSERT), .val (.int (1 : Int32))] [(.int (own_wv a_INSERT a_CLEAR a_DELETE))])) ?_ (fun t k => st15.trans k)
            refine own_pre (B := T15.setTop (mkF m 88 #[.val (.int x0), .val (.int ((x0 &&& (2147483647 : Int32)) % (6 : Int32))), .val (.ref a_INSERT), .val (.int (1 : Int32))] [(.int (1 : Int32)), (.int (own_wv a_INSERT a_CLEAR a_DELETE))])) ?_ fun t k => XS.iloadN X15.here hx rfl (hb hby at_87) rfl  k
            refine own_pre (B := T15.setTop (mkF m 91 #[.val (.int x0), .val (.int ((x0 &&& (2147483647 : Int32)) % (6 : Int32))), .val (.ref a_INSERT), .val (.int (1 : Int32))] [])) ?_ fun t k => XS.icmpNo X15.here hx rfl (hb hby at_88) rfl (teq (by simp [own_wv, ne_SET_CLEAR, ne_SET_DELETE, ne_CLEAR_DELETE, ne_DELETE_CLEAR, ne_ADD_CLEAR, ne_ADD_DELETE, ne_INSERT_CLEAR, ne_INSERT_DELETE, ne_INSERT_AFTER_CLEAR, ne_INSERT_AFTER_DELETE])).2 k
            refine own_pre (B := T15.setTop (mkF m 92 #[.val (.int x0), .val (.int ((x0 &&& (2147483647 : Int32)) % (6 : Int32))), .val (.ref a_INSERT), .val (.int (1 : Int32))] [(.int (1 : Int32))])) ?_ fun t k => XS.iconst X15.here hx rfl (hb hby at_91) k
            refine own_pre (B := T15.setTop (mkF m 96 #[.val (.int x0), .val (.int ((x0 &&& (2147483647 : Int32)) % (6 : Int32))), .val (.ref a_INSERT), .val (.int (1 : Int32))] [(.int (1 : Int32))])) ?_ fun t k => XS.goto X15.here hx rfl (pc0 := 92) (pc' := 96) rfl (hb hby at_92) (by decide) (by decide) k
            refine own_retN X15 hx hlk (t := .boolean) (z' := (1 : Int32)) Bd.returns (by simp) (hb hby at_96) (by decide) ?_ (by decide) (by decide)
            rw [e15]
            exact ⟨rfl, N15⟩
          · skip
            refine own_pre (B := s₁.setTop (mkF m 77 #[.val (.int x0), .val (.int ((x0 &&& (2147483647 : Int32)) % (6 : Int32))), .unset, .unset] [])) ?_ fun t k => XS.icmpYes X0.here hx rfl (pc0 := 65) (pc' := 77) rfl (hb hby at_65) rfl (feq h65_13).2 (by decide) (by decide) k
            obtain ⟨T16, X16, e16, st16⟩ := getS2 X0 hx hZ hown (host := "") (Or.inl (hw _ (List.mem_of_getElem? (i := 17) rfl))) Via.refl e0 S_INSERT_AFTER (g := (mkF m 77 #[.val (.int x0), .val (.int ((x0 &&& (2147483647 : Int32)) % (6 : Int32))), .unset, .unset] [])) rfl (hb hby at_77)
            refine own_pre (B := T16.setTop (mkF m 80 #[.val (.int x0), .val (.int ((x0 &&& (2147483647 : Int32)) % (6 : Int32))), .unset, .unset] [(.ref a_INSERT_AFTER)])) ?_ st16
            refine own_pre (B := T16.setTop (mkF m 81 #[.val (.int x0), .val (.int ((x0 &&& (2147483647 : Int32)) % (6 : Int32))), .val (.ref a_INSERT_AFTER), .unset] [])) ?_ fun t k => XS.astoreN X16.here hx rfl (hb hby at_80) rfl rfl (l' := #[.val (.int x0), .val (.int ((x0 &&& (2147483647 : Int32)) % (6 : Int32))), .val (.ref a_INSERT_AFTER), .unset]) rfl k
            refine own_pre (B := T16.setTop (mkF m 82 #[.val (.int x0), .val (.int ((x0 &&& (2147483647 : Int32)) % (6 : Int32))), .val (.ref a_INSERT_AFTER), .unset] [(.int (1 : Int32))])) ?_ fun t k => XS.iconst X16.here hx rfl (hb hby at_81) k
            refine own_pre (B := T16.setTop (mkF m 83 #[.val (.int x0), .val (.int ((x0 &&& (2147483647 : Int32)) % (6 : Int32))), .val (.ref a_INSERT_AFTER), .val (.int (1 : Int32))] [])) ?_ fun t k => XS.istoreN X16.here hx rfl (hb hby at_82) rfl  (l' := #[.val (.int x0), .val (.int ((x0 &&& (2147483647 : Int32)) % (6 : Int32))), .val (.ref a_INSERT_AFTER), .val (.int (1 : Int32))]) rfl k
            refine own_pre (B := T16.setTop (mkF m 84 #[.val (.int x0), .val (.int ((x0 &&& (2147483647 : Int32)) % (6 : Int32))), .val (.ref a_INSERT_AFTER), .val (.int (1 : Int32))] [(.ref a_INSERT_AFTER)])) ?_ fun t k => XS.aloadN X16.here hx rfl (hb hby at_83) rfl rfl k
            obtain ⟨cq17, kq17, q17a, q17b, q17c⟩ := isOf hZ e16 E_INSERT_AFTER
            obtain ⟨_, _, ⟨T17, L17, k17, n17⟩, -, X17, ⟨Lc17, hQ17, l17, y17, z17⟩, st17⟩ := X16.virtualBack hx (y := (⟨"com/example/pipecaret/pipecaret/message/MessageEdit$Operation", "writesValue", "()Z"⟩ : MethodName)) (z := (⟨"com/example/pipecaret/pipecaret/message/MessageEdit$Operation", "writesValue", "()Z"⟩ : MethodName)) hown (mvT hZ (hw _ (List.mem_of_getElem? (i := 4) rfl))) (mvT hZ (hw _ (List.mem_of_getElem? (i := 5) rfl))) (notFace_of_selects (args := #[]) (mvT hZ (hw _ (List.mem_of_getElem? (i := 7) rfl)))) (mvT hZ (hw _ (List.mem_of_getElem? (i := 7) rfl))) (mvT hZ (hw _ (List.mem_of_getElem? (i := 6) rfl))) (by decide) (backOf (W := 0) (rm1 l Z a0 hw [] a_INSERT_AFTER a_CLEAR a_DELETE h0 n0 Z0 S_CLEAR S_DELETE) hZ (hw _ (List.mem_of_getElem? (i := 8) rfl)) (hw _ (List.mem_of_getElem? (i := 2) rfl)) (by decide) (by decide)) q17a q17c (g := (mkF m 84 #[.val (.int x0), .val (.int ((x0 &&& (2147483647 : Int32)) % (6 : Int32))), .val (.ref a_INSERT_AFTER), .val (.int (1 : Int32))] [(.ref a_INSERT_AFTER)])) rfl (by rw [hml]; rfl) (Steps.refl _) (argsL := []) (rest := []) (lenOf pd___Z rfl) rfl (by show 2 * 0 + _ ≤ _; exact Nat.le_of_eq rfl) (hb hby at_84) (fun _ _ => ⟨rfl, e16, (by decide : 0 + 0 ≤ _), (by decide : 0 + 0 ≤ _)⟩)
            dsimp only [Pt.U, Pt.locs, Pt.cells, Pt.slots] at X17 l17 y17 z17 st17 hQ17
            subst l17 y17 z17
            obtain ⟨rfl, Nq17, e17⟩ := hQ17
            have N17 := Fr.app N0 Nq17
            refine own_pre (B := T17.setTop (mkF m 87 #[.val (.int x0), .val (.int ((x0 &&& (2147483647 : Int32)) % (6 : Int32))), .val (.ref a_INSERT_AFTER), .val (.int (1 : Int32))] [(.int (own_wv a_INSERT_AFTER a_CLEAR a_DELETE))])) ?_ (fun t k => st17.trans k)
            refine own_pre (B := T17.setTop (mkF m 88 #[.val (.int x0), .val (.int ((x0 &&& (2147483647 : Int32)) % (6 : Int32))), .val (.ref a_INSERT_AFTER), .val (.int (1 : Int32))] [(.int (1 : Int32)), (.int (own_wv a_INSERT_AFTER a_CLEAR a_DELETE))])) ?_ fun t k => XS.iloadN X17.here hx rfl (hb hby at_87) rfl  k
            refine own_pre (B := T17.setTop (mkF m 91 #[.val (.int x0), .val (.int ((x0 &&& (2147483647 : Int32)) % (6 : Int32))), .val (.ref a_INSERT_AFTER), .val (.int (1 : Int32))] [])) ?_ fun t k => XS.icmpNo X17.here hx rfl (hb hby at_88) rfl (teq (by simp [own_wv, ne_SET_CLEAR, ne_SET_DELETE, ne_CLEAR_DELETE, ne_DELETE_CLEAR, ne_ADD_CLEAR, ne_ADD_DELETE, ne_INSERT_CLEAR, ne_INSERT_DELETE, ne_INSERT_AFTER_CLEAR, ne_INSERT_AFTER_DELETE])).2 k
            refine own_pre (B := T17.setTop (mkF m 92 #[.val (.int x0), .val (.int ((x0 &&& (2147483647 : Int32)) % (6 : Int32))), .val (.ref a_INSERT_AFTER), .val (.int (1 : Int32))] [(.int (1 : Int32))])) ?_ fun t k => XS.iconst X17.here hx rfl (hb hby at_91) k
            refine own_pre (B := T17.setTop (mkF m 96 #[.val (.int x0), .val (.int ((x0 &&& (2147483647 : Int32)) % (6 : Int32))), .val (.ref a_INSERT_AFTER), .val (.int (1 : Int32))] [(.int (1 : Int32))])) ?_ fun t k => XS.goto X17.here hx rfl (pc0 := 92) (pc' := 96) rfl (hb hby at_92) (by decide) (by decide) k
            refine own_retN X17 hx hlk (t := .boolean) (z' := (1 : Int32)) Bd.returns (by simp) (hb hby at_96) (by decide) ?_ (by decide) (by decide)
            rw [e17]
            exact ⟨rfl, N17⟩
set_option maxRecDepth 65536 in
set_option maxHeartbeats 40000000 in
theorem comes_1 {Post : Tables → Env → Array Value → State → Outcome → State → Prop} (hpost : ∀ tb e args s v u, (limb_1_1.after args s (.returned v) u = true ∧ limb_1_2.after args s (.returned v) u = true ∧ True) → FrameEnd s (.returned v) u (Jvm.fieldLocs frame_1_writes args s ++ Jvm.arrayLocs frame_1_arrays args s ++ Jvm.staticLocs frame_1_statics s) 0 0 → Post tb e args s (.returned v) u) :
    ArmFor flags0 classFile x code maxLocals ret World_1 tables_1 room_1 Calls_1 rest_1 Pre_1 Post := by
  intro l hfl _ _ p e ha hc hk s m args below hf hA hF happ hP
  obtain ⟨hcalls, hrest, hpre⟩ := hP
  obtain ⟨-, -, -, hnamed, -, -, -, hat⟩ := (Spec.applies_iff hf).mp happ
  obtain ⟨hg, hn⟩ := and_e (Cond.before_iff.mp (show (Jvm.Cond.and given_1 narrow_1).before args s = true from hpre))
  obtain ⟨g1, g2⟩ := and_e hg
  obtain ⟨w0, rfl⟩ : ∃ w0 : Value, args = #[w0] := by
    have hs : args.size = 1 := by simpa [Cond.value, given_1] using g1
    obtain ⟨L⟩ := args
    match L, hs with
    | [w0], _ => exact ⟨w0, rfl⟩
  have hw := fun d (hd : d ∈ tables_1) => atoms_spec (ws := Jvm.Cond.code x code maxLocals ret :: tables_1) hat d (List.mem_cons_of_mem _ hd)
  have hfit : Fit s := fun {y c} hc i hi => by
    obtain ⟨ha, rfl⟩ := Array.getElem?_eq_some_iff.mp hc
    have q := List.all_eq_true.mp ((Array.all_eq_true_iff_forall_mem.mp hF) _ (Array.getElem_mem ha)) i (List.mem_range.mpr hi)
    simpa [Array.getElem?_eq_getElem hi] using q
  obtain ⟨i0, ei0⟩ := is_v g2
  obtain rfl : w0 = (.int i0) := Option.some.inj ei0
  obtain ⟨gn1, gn2⟩ := and_e hn
  obtain ⟨gn3, gn4⟩ := and_e gn2
  obtain ⟨gn5, gn6⟩ := and_e gn4
  obtain ⟨gn7, gn8⟩ := and_e gn6
  obtain ⟨gn9, gn10⟩ := and_e gn8
  obtain ⟨gn11, gn12⟩ := and_e gn10
  obtain ⟨gn13, gn14⟩ := and_e gn12
  obtain ⟨gn15, gn16⟩ := and_e gn14
  obtain ⟨gn17, gn18⟩ := and_e gn16
  obtain ⟨gn19, gn20⟩ := and_e gn18
  obtain ⟨gn21, gn22⟩ := and_e gn20
  obtain ⟨a_SET, ea_SET⟩ := exa_v gn1
  have E_SET := Exa.start ea_SET gn1
  have S_SET := Sta.start ea_SET (Or.inr ⟨(hw _ (List.mem_of_getElem? (i := 2) rfl)), (hw _ (List.mem_of_getElem? (i := 3) rfl))⟩)
  obtain ⟨a_CLEAR, ea_CLEAR⟩ := exa_v gn3
  have E_CLEAR := Exa.start ea_CLEAR gn3
  have S_CLEAR := Sta.start ea_CLEAR (Or.inr ⟨(hw _ (List.mem_of_getElem? (i := 2) rfl)), (hw _ (List.mem_of_getElem? (i := 10) rfl))⟩)
  obtain ⟨a_DELETE, ea_DELETE⟩ := exa_v gn9
  have E_DELETE := Exa.start ea_DELETE gn9
  have S_DELETE := Sta.start ea_DELETE (Or.inr ⟨(hw _ (List.mem_of_getElem? (i := 2) rfl)), (hw _ (List.mem_of_getElem? (i := 12) rfl))⟩)
  obtain ⟨a_ADD, ea_ADD⟩ := exa_v gn13
  have E_ADD := Exa.start ea_ADD gn13
  have S_ADD := Sta.start ea_ADD (Or.inr ⟨(hw _ (List.mem_of_getElem? (i := 2) rfl)), (hw _ (List.mem_of_getElem? (i := 14) rfl))⟩)
  obtain ⟨a_INSERT, ea_INSERT⟩ := exa_v gn21
  have E_INSERT := Exa.start ea_INSERT gn21
  have S_INSERT := Sta.start ea_INSERT (Or.inr ⟨(hw _ (List.mem_of_getElem? (i := 2) rfl)), (hw _ (List.mem_of_getElem? (i := 20) rfl))⟩)
  obtain ⟨a_INSERT_AFTER, ea_INSERT_AFTER⟩ := exa_v gn17
  have E_INSERT_AFTER := Exa.start ea_INSERT_AFTER gn17
  have S_INSERT_AFTER := Sta.start ea_INSERT_AFTER (Or.inr ⟨(hw _ (List.mem_of_getElem? (i := 2) rfl)), (hw _ (List.mem_of_getElem? (i := 18) rfl))⟩)
  have F_SET_ordinal := own_fld ea_SET gn5
  have F_CLEAR_ordinal := own_fld ea_CLEAR gn7
  have F_DELETE_ordinal := own_fld ea_DELETE gn11
  have F_ADD_ordinal := own_fld ea_ADD gn15
  have F_INSERT_AFTER_ordinal := own_fld ea_INSERT_AFTER gn19
  have F_INSERT_ordinal := own_fld ea_INSERT gn22
  obtain ⟨n, o, h1, h2, h3, _, L, rfl, ⟨rfl, N⟩, hq⟩ := rm0 l s _ hw tables_1 i0 a_SET a_CLEAR a_DELETE a_ADD a_INSERT a_INSERT_AFTER s.heap s.heap.size (Nat.le_refl _) S_SET S_CLEAR S_DELETE S_ADD S_INSERT S_INSERT_AFTER E_SET E_CLEAR E_DELETE E_ADD E_INSERT E_INSERT_AFTER (Fld.ne F_SET_ordinal F_CLEAR_ordinal (by decide)) (Fld.ne F_SET_ordinal F_DELETE_ordinal (by decide)) (Fld.ne F_CLEAR_ordinal F_DELETE_ordinal (by decide)) (Fld.ne F_DELETE_ordinal F_CLEAR_ordinal (by decide)) (Fld.ne F_ADD_ordinal F_CLEAR_ordinal (by decide)) (Fld.ne F_ADD_ordinal F_DELETE_ordinal (by decide)) (Fld.ne F_INSERT_ordinal F_CLEAR_ordinal (by decide)) (Fld.ne F_INSERT_ordinal F_DELETE_ordinal (by decide)) (Fld.ne F_INSERT_AFTER_ordinal F_CLEAR_ordinal (by decide)) (Fld.ne F_INSERT_AFTER_ordinal F_DELETE_ordinal (by decide)) p e ha hc hk s m _ below hf ((Spec.applies_iff_loose hf).mp happ).1 ⟨rfl, State.Warmed39.refl s, rfl⟩ trivial
  refine ⟨n, _, h1, h2, h3, hpost _ _ _ _ _ _ ⟨Cond.after_iff.mpr rfl, Cond.after_iff.mpr (eq_i res_at (Term.int_eval (1)) rfl), trivial⟩ ⟨hq.1, hq.2.1, (hq.2.2.sift fun y hy => Or.inr (N y hy)).mono (by decide) (by decide)⟩⟩
theorem main_1_1 : Claimed_1_1 := comes_1 fun _ _ _ _ _ _ h hF => ⟨h.1, hF⟩
theorem main_1_2 : Claimed_1_2 := comes_1 fun _ _ _ _ _ _ h hF => ⟨h.2.1, hF⟩
end Jvm.Pilot.@@N@@
namespace Jvm.Pilot.@@N@@
open Jvm Jvm.ClassFile Sem Op Lib Jvm.Free Jvm.Stand Jvm.Pilot.@@N@@.Jvm.D
/-! MADE BY PROGRAM (witnessworld.py) out of the Statement's table words and the real class files: 12 classes; the members and pool entries that the words name. The judged class is class 1, her method 1. -/
namespace start1
open Jvm.ClassFile
def u (s : String) : CpInfo := .utf8 (stringToUtf16 s)
/-- a pool by its gaps: so many unusable entries, then the entry; so many at the end -/
def gap : Nat → List CpInfo → List CpInfo
  | 0, r => r
  | n + 1, r => .unusable :: gap n r
def poolList (es : List (Nat × CpInfo)) (last : Nat) : List CpInfo := es.foldr (fun e r => gap e.1 (e.2 :: r)) (gap last [])
def pool (es : List (Nat × CpInfo)) (last : Nat) : Array CpInfo := ⟨poolList es last⟩
def fileOf (pool : Array CpInfo) (this : Nat) (attrs : Array Attribute := #[]) (ms : Array MethodInfo := #[]) (fl : Nat := 33) (sup : Nat := 0) (ifs : Array Nat := #[]) (fds : Array FieldInfo := #[]) : ClassFile where
  minorVersion := 0
  majorVersion := 65
  constantPool := pool
  accessFlags := fl
  thisClass := this
  superClass := sup
  interfaces := ifs
  fields := fds
  methods := ms
  attributes := attrs
def plain (name : String) (sup : Option ClassId) : Class where
  name := name
  kind := .ordinary
  loader := none
  accessFlags := 33
  super := sup
  interfaces := #[]
  cf := none
  fields := #[]
  methods := #[]
  instanceTypes := #[]
  staticTypes := #[]
  resolved := #[]
  callSites := []
  init := .initialized
  statics := none
  mirror := none

def pool0 : Array CpInfo := pool [(5, u "<init>"), (0, u "()V"), (1, .class_ 10), (1, u "java/lang/Object")] 113

def k0m0 : Method := { name := "<init>", desc := "()V", sig := { parameters := [], returnType := none }, accessFlags := 1, code := none }
/-- java/lang/Object -/
def k0 : Class := { plain "java/lang/Object" none with
  accessFlags := 33
  interfaces := #[]
  cf := some (fileOf pool0 8 #[] #[{ accessFlags := 1, nameIndex := 5, descriptorIndex := 6, attributes := #[] }] 33 0 #[] #[])
  fields := #[]
  methods := #[k0m0]
  instanceTypes := #[]
  staticTypes := #[]
  resolved := Array.replicate 124 none
  statics := none }

def pool1 : Array CpInfo := pool [(2, .class_ 4), (1, u "java/lang/Object"), (0, u "<init>"), (0, u "()V"), (0, .integer 2147483647), (0, .fieldref 9 10), (0, .class_ 11), (0, .nameAndType 12 13), (0, u "com/example/pipecaret/pipecaret/message/MessageEdit$Operation"), (0, u "SET"), (0, u "Lcom/example/pipecaret/pipecaret/message/MessageEdit$Operation;"), (0, .fieldref 9 15), (0, .nameAndType 16 13), (0, u "CLEAR"), (0, .fieldref 9 18), (0, .nameAndType 19 13), (0, u "DELETE"), (0, .fieldref 9 21), (0, .nameAndType 22 13), (0, u "ADD"), (0, .fieldref 9 24), (0, .nameAndType 25 13), (0, u "INSERT"), (0, .fieldref 9 27), (0, .nameAndType 28 13), (0, u "INSERT_AFTER"), (0, .methodref 9 30), (0, .nameAndType 31 32), (0, u "writesValue"), (0, u "()Z"), (0, .class_ 34), (0, u "com/example/pipecaret/pipecaret/message/OperationWritesValuePinLaw"), (2, u "law"), (0, u "(I)Z")] 7

def k1m0 : Method := { name := "<init>", desc := "()V", sig := { parameters := [], returnType := none }, accessFlags := 1, code := none }
def k1c1 : Code := { maxStack := 2, maxLocals := 4, code := code, exceptionTable := #[], attributes := #[] }
def k1m1 : Method := { name := "law", desc := "(I)Z", sig := { parameters := [.int], returnType := some .boolean }, accessFlags := 9, code := some k1c1 }
/-- com/example/pipecaret/pipecaret/message/OperationWritesValuePinLaw -/
def k1 : Class := { plain "com/example/pipecaret/pipecaret/message/OperationWritesValuePinLaw" (some 0) with
  accessFlags := 49
  interfaces := #[]
  cf := some (fileOf pool1 33 #[] #[{ accessFlags := 1, nameIndex := 5, descriptorIndex := 6, attributes := #[] }, { accessFlags := 9, nameIndex := 37, descriptorIndex := 38, attributes := #[] }] 49 2 #[] #[])
  fields := #[]
  methods := #[k1m0, k1m1]
  instanceTypes := #[]
  staticTypes := #[]
  resolved := Array.replicate 46 none
  statics := none }

def pool2 : Array CpInfo := pool [(1, .class_ 2), (0, u "java/lang/constant/Constable"), (0, .class_ 4), (0, u "java/lang/Object")] 6

/-- java/lang/constant/Constable -/
def k2 : Class := { plain "java/lang/constant/Constable" (some 0) with
  accessFlags := 1537
  interfaces := #[]
  cf := some (fileOf pool2 1 #[] #[] 1537 3 #[] #[])
  fields := #[]
  methods := #[]
  instanceTypes := #[]
  staticTypes := #[]
  resolved := Array.replicate 11 none
  statics := none }

def pool3 : Array CpInfo := pool [(1, .class_ 2), (0, u "java/lang/Comparable"), (0, .class_ 4), (0, u "java/lang/Object")] 7

/-- java/lang/Comparable -/
def k3 : Class := { plain "java/lang/Comparable" (some 0) with
  accessFlags := 1537
  interfaces := #[]
  cf := some (fileOf pool3 1 #[] #[] 1537 3 #[] #[])
  fields := #[]
  methods := #[]
  instanceTypes := #[]
  staticTypes := #[]
  resolved := Array.replicate 12 none
  statics := none }

def pool4 : Array CpInfo := pool [(1, .class_ 2), (0, u "java/io/Serializable"), (0, .class_ 4), (0, u "java/lang/Object")] 2

/-- java/io/Serializable -/
def k4 : Class := { plain "java/io/Serializable" (some 0) with
  accessFlags := 1537
  interfaces := #[]
  cf := some (fileOf pool4 1 #[] #[] 1537 3 #[] #[])
  fields := #[]
  methods := #[]
  instanceTypes := #[]
  staticTypes := #[]
  resolved := Array.replicate 7 none
  statics := none }

def pool5 : Array CpInfo := pool [(2, .class_ 4), (1, u "java/lang/Enum"), (0, u "name"), (0, u "Ljava/lang/String;"), (2, u "ordinal"), (0, u "I"), (1, .class_ 14), (1, u "java/lang/Object"), (4, u "hash"), (86, .class_ 108), (1, u "java/lang/Enum$EnumDesc"), (2, .class_ 112), (0, u "java/lang/constant/Constable"), (0, .class_ 114), (0, u "java/lang/Comparable"), (0, .class_ 116), (0, u "java/io/Serializable")] 87

/-- java/lang/Enum -/
def k5 : Class := { plain "java/lang/Enum" (some 0) with
  accessFlags := 1057
  interfaces := #[2, 3, 4]
  cf := some (fileOf pool5 2 #[.nestMembers #[106]] #[] 1057 12 #[111, 113, 115] #[{ accessFlags := 18, nameIndex := 5, descriptorIndex := 6, attributes := #[] }, { accessFlags := 18, nameIndex := 9, descriptorIndex := 10, attributes := #[] }, { accessFlags := 2, nameIndex := 19, descriptorIndex := 10, attributes := #[] }])
  fields := #[{ name := "name", type := (.object "java/lang/String"), accessFlags := 18, slot := 0, constantValue := 0 }, { name := "ordinal", type := .int, accessFlags := 18, slot := 1, constantValue := 0 }, { name := "hash", type := .int, accessFlags := 2, slot := 2, constantValue := 0 }]
  methods := #[]
  instanceTypes := #[(.object "java/lang/String"), .int, .int]
  staticTypes := #[]
  resolved := Array.replicate 204 none
  statics := none }

def pool6 : Array CpInfo := pool [(1, .class_ 2), (0, u "com/example/pipecaret/pipecaret/message/MessageEdit$Operation"), (2, u "SET"), (0, u "Lcom/example/pipecaret/pipecaret/message/MessageEdit$Operation;"), (0, .fieldref 1 8), (0, .nameAndType 9 6), (0, u "CLEAR"), (0, .fieldref 1 11), (0, .nameAndType 12 6), (0, u "DELETE"), (2, u "ADD"), (2, u "INSERT"), (2, u "INSERT_AFTER"), (2, u "$VALUES"), (0, u "[Lcom/example/pipecaret/pipecaret/message/MessageEdit$Operation;"), (6, .class_ 34), (1, u "java/lang/Enum"), (53, u "()Z"), (30, u "writesValue"), (13, .class_ 134), (0, u "com/example/pipecaret/pipecaret/message/MessageEdit")] 20

def k6c0 : Code := { maxStack := 2, maxLocals := 1, code := prog_48_method_4_code, exceptionTable := #[], attributes := #[] }
def k6m0 : Method := { name := "writesValue", desc := "()Z", sig := { parameters := [], returnType := some .boolean }, accessFlags := 1, code := some k6c0 }
/-- com/example/pipecaret/pipecaret/message/MessageEdit$Operation -/
def k6 : Class := { plain "com/example/pipecaret/pipecaret/message/MessageEdit$Operation" (some 5) with
  accessFlags := 16433
  interfaces := #[]
  cf := some (fileOf pool6 1 #[.nestHost 133] #[{ accessFlags := 1, nameIndex := 119, descriptorIndex := 88, attributes := #[] }] 16433 32 #[] #[{ accessFlags := 16409, nameIndex := 5, descriptorIndex := 6, attributes := #[] }, { accessFlags := 16409, nameIndex := 9, descriptorIndex := 6, attributes := #[] }, { accessFlags := 16409, nameIndex := 12, descriptorIndex := 6, attributes := #[] }, { accessFlags := 16409, nameIndex := 15, descriptorIndex := 6, attributes := #[] }, { accessFlags := 16409, nameIndex := 18, descriptorIndex := 6, attributes := #[] }, { accessFlags := 16409, nameIndex := 21, descriptorIndex := 6, attributes := #[] }, { accessFlags := 4122, nameIndex := 24, descriptorIndex := 25, attributes := #[] }])
  fields := #[{ name := "SET", type := (.object "com/example/pipecaret/pipecaret/message/MessageEdit$Operation"), accessFlags := 16409, slot := 0, constantValue := 0 }, { name := "CLEAR", type := (.object "com/example/pipecaret/pipecaret/message/MessageEdit$Operation"), accessFlags := 16409, slot := 1, constantValue := 0 }, { name := "DELETE", type := (.object "com/example/pipecaret/pipecaret/message/MessageEdit$Operation"), accessFlags := 16409, slot := 2, constantValue := 0 }, { name := "ADD", type := (.object "com/example/pipecaret/pipecaret/message/MessageEdit$Operation"), accessFlags := 16409, slot := 3, constantValue := 0 }, { name := "INSERT", type := (.object "com/example/pipecaret/pipecaret/message/MessageEdit$Operation"), accessFlags := 16409, slot := 4, constantValue := 0 }, { name := "INSERT_AFTER", type := (.object "com/example/pipecaret/pipecaret/message/MessageEdit$Operation"), accessFlags := 16409, slot := 5, constantValue := 0 }, { name := "$VALUES", type := (.array (.object "com/example/pipecaret/pipecaret/message/MessageEdit$Operation")), accessFlags := 4122, slot := 6, constantValue := 0 }]
  methods := #[k6m0]
  instanceTypes := #[(.object "java/lang/String"), .int, .int]
  staticTypes := #[(.object "com/example/pipecaret/pipecaret/message/MessageEdit$Operation"), (.object "com/example/pipecaret/pipecaret/message/MessageEdit$Operation"), (.object "com/example/pipecaret/pipecaret/message/MessageEdit$Operation"), (.object "com/example/pipecaret/pipecaret/message/MessageEdit$Operation"), (.object "com/example/pipecaret/pipecaret/message/MessageEdit$Operation"), (.object "com/example/pipecaret/pipecaret/message/MessageEdit$Operation"), (.array (.object "com/example/pipecaret/pipecaret/message/MessageEdit$Operation"))]
  resolved := Array.replicate 155 none
  statics := some 0 }

def pool7 : Array CpInfo := pool [(1, u "java/lang/Cloneable"), (0, .class_ 1), (0, u "java/lang/Object"), (0, .class_ 3)] 3

/-- java/lang/Cloneable -/
def k7 : Class := { plain "java/lang/Cloneable" (some 0) with
  accessFlags := 1537
  interfaces := #[]
  cf := some (fileOf pool7 2 #[] #[] 1537 4 #[] #[])
  fields := #[]
  methods := #[]
  instanceTypes := #[]
  staticTypes := #[]
  resolved := Array.replicate 8 none
  statics := none }

/-- the primitive byte -/
def k8 : Class := { plain "byte" none with kind := .primitive 'B', accessFlags := 0x411 }
/-- [B -/
def k9 : Class := { plain "[B" (some 0) with kind := .array 8 .byte, interfaces := #[7, 4], accessFlags := 1041 }

/-- the primitive int -/
def k10 : Class := { plain "int" none with kind := .primitive 'I', accessFlags := 0x411 }
/-- [I -/
def k11 : Class := { plain "[I" (some 0) with kind := .array 10 .int, interfaces := #[7, 4], accessFlags := 1041 }

def heap : Heap := #[{ cls := 6, slots := #[.ref 1, .ref 2, .ref 3, .ref 4, .ref 5, .ref 6, .null], vm := .statics 6 },
  { cls := 6, slots := #[.null, .int 0, .int 0], vm := .none },
  { cls := 6, slots := #[.null, .int 1, .int 0], vm := .none },
  { cls := 6, slots := #[.null, .int 2, .int 0], vm := .none },
  { cls := 6, slots := #[.null, .int 3, .int 0], vm := .none },
  { cls := 6, slots := #[.null, .int 4, .int 0], vm := .none },
  { cls := 6, slots := #[.null, .int 5, .int 0], vm := .none }]
def classes : Array Class := #[k0, k1, k2, k3, k4, k5, k6, k7, k8, k9, k10, k11]
def interned : List (Array UInt16 × Addr) := []
def slotsUsed : Nat := 25
def theMethod : MethodId := ⟨1, 1⟩
def args0 : Array Value := #[.int 1]
def aboutOver (below : List Frame) : State where
  vm := { classes := classes, interned := interned.toArray }
  heap := heap
  slotsUsed := slotsUsed
  threads := #[{ frames := .invoking theMethod args0 :: below }]
def below0 : List Frame := [.native { method := ⟨0, 0⟩, args := #[] }]
def about1 : State := aboutOver below0
def p0 : Program := .bare "" "" ""
def e0 : Env := launch0.env 0 0 0
theorem w_frames : about1.frames = Frame.invoking theMethod args0 :: below0 := rfl
set_option maxRecDepth 65536 in
theorem w_args : argsFit about1.vm theMethod args0 = true := by decide +kernel
set_option maxRecDepth 65536 in
theorem w_heap : heapFits about1 = true := by decide +kernel
set_option maxRecDepth 65536 in
theorem w_runnable : about1.curStatus? = some .runnable := by decide +kernel
set_option maxRecDepth 65536 in
theorem w_alone : about1.alone = true := by decide +kernel
set_option maxRecDepth 65536 in
theorem w_named : about1.methodNamed? x = some theMethod := by decide +kernel
set_option maxRecDepth 65536 in
theorem w_hears : about1.hears theMethod below0 = true := by decide +kernel
set_option maxRecDepth 65536 in
theorem w_ripe : about1.ripe theMethod args0 below0 = true := by decide +kernel
theorem w_running : about1.status = .running := rfl
set_option maxRecDepth 65536 in
theorem w_room : about1.hasRoom e0.platform room_1 = true :=
  launch0.hasRoom_least _ room_1 (by decide +kernel) (by decide +kernel) (by decide +kernel) (by decide +kernel) (by decide +kernel) (by decide +kernel)
theorem allAtoms_all (ts : List Jvm.Cond) (a : Array Jvm.Value) (st : Jvm.State) : (allAtoms ts).before a st = ts.all (fun c => c.before a st) := by
  induction ts with
  | nil => rfl
  | cons c t ih =>
    show (Jvm.Cond.and c (allAtoms t)).before a st = _
    rw [Jvm.Cond.before_and, ih, List.all_cons]
def words1 : List Jvm.Cond := Jvm.Cond.code x code maxLocals ret :: tables_1
/-- a 'code' word, met by the world's own term for the bytes: nothing is compared byte by byte -/
theorem code_word {y : MethodName} {bytes : ByteArray} {mx : Nat} {rt : Option FieldType} {a : Array Value} {s : State} {m : MethodId} {meth : Method} {c : Code} (h1 : s.methodNamed? y = some m) (h2 : s.vm.method? m = some meth) (h3 : meth.code = some c) (h4 : c.code = bytes)
    (h5 : (c.maxLocals == mx && c.exceptionTable.isEmpty && decide (c.maxStack ≤ mostOperands) && decide (meth.sig.returnType = rt) && !meth.locks && decide (parseMethodDescriptor y.desc = some meth.sig)) = true) : (Jvm.Cond.code y bytes mx rt).before a s = true := by
  simp only [Bool.and_eq_true, beq_iff_eq, Bool.not_eq_true', decide_eq_true_eq] at h5
  obtain ⟨⟨⟨⟨⟨g1, g2⟩, g3⟩, g4⟩, g5⟩, g6⟩ := h5
  simp [Cond.before, Cond.holds, Cond.value, h1, h2, h3, h4, g1, g2, g3, g4, g5, g6]
def isCode : Jvm.Cond → Bool
  | .code _ _ _ _ => true
  | _ => false
theorem all_split {L : List Jvm.Cond} {P : Jvm.Cond → Bool} (h1 : L.all (fun c => isCode c || P c) = true) (h2 : ∀ c ∈ L.filter isCode, P c = true) : L.all P = true := by
  refine List.all_eq_true.mpr fun c hc => ?_
  have h := List.all_eq_true.mp h1 c hc
  rcases Bool.eq_false_or_eq_true (isCode c) with hi | hi
  · exact h2 c (List.mem_filter.mpr ⟨hc, hi⟩)
  · simpa [hi] using h
set_option maxRecDepth 65536 in
theorem w_c0 : (Jvm.Cond.code x code maxLocals ret).before args0 about1 = true := code_word (m := ⟨1, 1⟩) (meth := k1m1) (c := k1c1) (by decide +kernel) rfl rfl rfl (by decide +kernel)
set_option maxRecDepth 65536 in
theorem w_c1 : (Jvm.Cond.code ({ cls := "com/example/pipecaret/pipecaret/message/MessageEdit$Operation", name := "writesValue", desc := "()Z" } : Jvm.MethodName) prog_48_method_4_code (1 : Nat) (Option.some Jvm.ClassFile.FieldType.boolean)).before args0 about1 = true := code_word (m := ⟨6, 0⟩) (meth := k6m0) (c := k6c0) (by decide +kernel) rfl rfl rfl (by decide +kernel)
def codes1 : List Jvm.Cond := [Jvm.Cond.code x code maxLocals ret, Jvm.Cond.code ({ cls := "com/example/pipecaret/pipecaret/message/MessageEdit$Operation", name := "writesValue", desc := "()Z" } : Jvm.MethodName) prog_48_method_4_code (1 : Nat) (Option.some Jvm.ClassFile.FieldType.boolean)]
set_option maxRecDepth 65536 in
theorem codes_eq : words1.filter isCode = codes1 := rfl
theorem w_codes : ∀ c ∈ words1.filter isCode, c.before args0 about1 = true := by
  rw [codes_eq]
  intro c hc
  simp only [codes1, List.mem_cons, List.not_mem_nil, or_false] at hc
  rcases hc with rfl | rfl
  · exact w_c0
  · exact w_c1
set_option maxRecDepth 65536 in
theorem w_t1 : words1.all (fun c => isCode c || c.before args0 about1) = true := by decide +kernel
theorem w_tables : (allAtoms (Jvm.Cond.code x code maxLocals ret :: tables_1)).before args0 about1 = true := by
  rw [allAtoms_all]
  show words1.all (fun c => c.before args0 about1) = true
  refine all_split ?_ w_codes
  rw [w_t1]
set_option maxRecDepth 65536 in
theorem w_case : (Jvm.Cond.and given_1 narrow_1).before args0 about1 = true := by decide +kernel
theorem w_applies : (headSpec (Jvm.Cond.code x code maxLocals ret :: tables_1) room_1).applies x e0.platform about1 = true :=
  (Spec.applies_iff w_frames).mpr ⟨w_running, w_runnable, w_alone, w_named, w_hears, w_ripe, w_room, w_tables⟩
theorem atStart : AtStart classFile x code maxLocals ret World_1 tables_1 room_1 Calls_1 rest_1 Pre_1 launch0 p0 e0 about1 theMethod args0 below0 :=
  ⟨lists_1, trivial, launch0.admits_env _ _ _, launch0.least_env, fairChoices_fair.cas, fairChoices_fair.clock, w_frames, w_args, w_heap, w_applies, trivial, trivial, w_case⟩
end start1
theorem witness_1 : WitnessClaimed_1 := ⟨start1.p0, start1.e0, start1.about1, start1.theMethod, start1.args0, start1.below0, start1.atStart⟩
end Jvm.Pilot.@@N@@
