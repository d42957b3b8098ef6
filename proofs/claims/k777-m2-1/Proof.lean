import JvmDerived
import JvmDerived.Pilot.@@N@@Statement
import JvmDerived.Pilot.@@N@@Code
set_option linter.unusedVariables false
set_option linter.unusedSimpArgs false
namespace Jvm.Pilot.@@N@@
open Jvm Jvm.ClassFile Sem Op Lib Jvm.Free Jvm.Stand Jvm.LawKit Jvm.RoadKit Bundle Jvm.Pilot.@@N@@.Jvm.D
section Own
variable {p : Program} {l : Launch} {e : Env} {R : Room} {s : State} {m : MethodId} {args : Array Value} {below : List Frame} {meth : Method} {c : Code} {T : State} {locs : List Loc} {cells slots : Nat} {Z : State} {a0 : Array Value} {h : Heap}
/-- from the state A the body ends as Q says, with at most C cells and S slots made -/
def own_E (p : Program) (e : Env) (below : List Frame) (s : State) (Q : Option Value → Heap → List Loc → Prop) (C S : Nat) (A : State) : Prop :=
  ∃ s₂ o, Steps p.tables e below A s₂ ∧ s₂.status = .running ∧ Ended s₂ below o ∧ ∃ v L, o = .returned v ∧ Q v s₂.heap L ∧ FrameEnd s o s₂ L C S
theorem own_pre {Q : Option Value → Heap → List Loc → Prop} {C S : Nat} {A B : State} (h : own_E p e below s Q C S B) (k : ∀ t, Steps p.tables e below B t → Steps p.tables e below A t) : own_E p e below s Q C S A := by
  obtain ⟨s₂, o, h1, h2⟩ := h
  exact ⟨s₂, o, k _ h1, h2⟩
theorem own_out {Q : Option Value → Heap → List Loc → Prop} {C S : Nat} {A : State} (X : Stand p l e R s m args below meth c T locs cells slots) (hk : meth.locks = false) {v : Option Value} (hv : meth.sig.returnType = none → v = none)
    (st : ∀ fs, (∀ (f : JFrame) (acts : List Action), f.method = m → f.locked = none → f.entered = [] → (doReturn e (T.setTop f) acts v).1 = T.setFrames fs) → Steps p.tables e below A (T.setFrames fs))
    (hQ : Q v T.heap locs) (hc : cells ≤ C) (hs : slots ≤ S) : own_E p e below s Q C S A := by
  obtain ⟨fs, hr, hrun, hended, hW, hsame⟩ := X.leave (v := v) hv hk
  exact ⟨_, _, st fs hr, hrun, hended, _, _, rfl, hQ, ⟨_, rfl⟩, hW, hsame.mono hc hs⟩
theorem own_retN {Q : Option Value → Heap → List Loc → Prop} {C S : Nat} (X : Stand p l e R s m args below meth c T locs cells slots) (hx : p.tables.exec = Jvm.exec) (hk : meth.locks = false) {t : FieldType} {pc : Nat} {Ls : Array Slot} {z z' : Int32} {rest : List Value} (hret : meth.sig.returnType = some t) (ht : t = .boolean ∨ t = .byte ∨ t = .char ∨ t = .short) (hd : decode c.code pc = .ok (.ireturn, 1)) (hn : nar t z = z')
    (hQ : Q (some (.int z')) T.heap locs) (hc : cells ≤ C) (hs : slots ≤ S) : own_E p e below s Q C S (T.setTop (mkF m pc Ls (.int z :: rest))) := by
  subst hn
  exact own_out X hk (fun h => by rw [hret] at h; cases h) (fun fs hr => retN X hx hret ht hd hr) hQ hc hs
theorem own_retI {Q : Option Value → Heap → List Loc → Prop} {C S : Nat} (X : Stand p l e R s m args below meth c T locs cells slots) (hx : p.tables.exec = Jvm.exec) (hk : meth.locks = false) {pc : Nat} {Ls : Array Slot} {z : Int32} {rest : List Value} (hret : meth.sig.returnType = some .int) (hd : decode c.code pc = .ok (.ireturn, 1))
    (hQ : Q (some (.int z)) T.heap locs) (hc : cells ≤ C) (hs : slots ≤ S) : own_E p e below s Q C S (T.setTop (mkF m pc Ls (.int z :: rest))) :=
  own_out X hk (fun h => by rw [hret] at h; cases h) (fun fs hr => retOut X hx hret rfl (Or.inl ⟨rfl, Or.inl rfl, z, rfl⟩) hd hr) hQ hc hs
theorem own_retJ {Q : Option Value → Heap → List Loc → Prop} {C S : Nat} (X : Stand p l e R s m args below meth c T locs cells slots) (hx : p.tables.exec = Jvm.exec) (hk : meth.locks = false) {pc : Nat} {Ls : Array Slot} {z : Int64} {rest : List Value} (hret : meth.sig.returnType = some .long) (hd : decode c.code pc = .ok (.lreturn, 1))
    (hQ : Q (some (.long z)) T.heap locs) (hc : cells ≤ C) (hs : slots ≤ S) : own_E p e below s Q C S (T.setTop (mkF m pc Ls (.long z :: rest))) :=
  own_out X hk (fun h => by rw [hret] at h; cases h) (fun fs hr => retOut X hx hret rfl (Or.inr (Or.inl ⟨rfl, rfl, z, rfl⟩)) hd hr) hQ hc hs
theorem own_nar_ref {t : FieldType} {w : Value} (hw : w.isRef = true) (ht : t.isReference = true) : narrow t w = w := by
  rcases ref_cases hw with rfl | ⟨z, rfl⟩ <;> cases t <;> first | rfl | (cases ht; done)
theorem own_fit_ref {t : FieldType} {w : Value} (hw : w.isRef = true) (ht : t.isReference = true) : fits t w = true := by
  rcases ref_cases hw with rfl | ⟨z, rfl⟩ <;> cases t <;> first | rfl | (cases ht; done)
theorem own_retA {Q : Option Value → Heap → List Loc → Prop} {C S : Nat} (X : Stand p l e R s m args below meth c T locs cells slots) (hx : p.tables.exec = Jvm.exec) (hk : meth.locks = false) {t : FieldType} {pc : Nat} {Ls : Array Slot} {w : Value} {rest : List Value} (hret : meth.sig.returnType = some t) (ht : t.isReference = true) (hw : w.isRef = true) (hd : decode c.code pc = .ok (.areturn, 1))
    (hQ : Q (some w) T.heap locs) (hc : cells ≤ C) (hs : slots ≤ S) : own_E p e below s Q C S (T.setTop (mkF m pc Ls (w :: rest))) :=
  own_out X hk (fun h => by rw [hret] at h; cases h) (fun fs hr => retOut X hx hret (own_nar_ref hw ht) (Or.inr (Or.inr (Or.inr (Or.inr ⟨rfl, ht, hw⟩)))) hd hr) hQ hc hs
theorem own_retV {Q : Option Value → Heap → List Loc → Prop} {C S : Nat} (X : Stand p l e R s m args below meth c T locs cells slots) (hx : p.tables.exec = Jvm.exec) (hk : meth.locks = false) {pc : Nat} {Ls : Array Slot} (hret : meth.sig.returnType = none) (hd : decode c.code pc = .ok (.return_, 1))
    (hQ : Q none T.heap locs) (hc : cells ≤ C) (hs : slots ≤ S) : own_E p e below s Q C S (T.setTop (mkF m pc Ls [])) :=
  own_out X hk (fun _ => rfl) (fun fs hr => X.returnOut hx hret hd hr) hQ hc hs
theorem own_lrem {g : JFrame} {target : State} (X : Stand p l e R s m args below meth c T locs cells slots) (hx : p.tables.exec = Jvm.exec) (hg : g.method = m) {x y : Int64} {rest : List Value} (hd : decode c.code g.pc = .ok (.lrem, 1)) (hs : g.stack = .long y :: .long x :: rest) (hy : y ≠ 0)
    (hr : Steps p.tables e below (T.setTop { g with pc := g.pc + 1, stack := .long (x % y) :: rest }) target) : Steps p.tables e below (T.setTop g) target :=
  XS.lrem X.here hx hg hd hs hy (by rw [lrem_mod]; exact hr)
end Own
theorem own_fld {args : Array Value} {s : State} {t : Term} {x : Addr} {C n d : String} {k : Int32} (ev : t.eval args s none [] s = some (.ref x)) (h : (Cond.eq (Term.field t C n d) (Term.int k)).value args s none s [] = some true) : Fld s s.heap x C n d (.int k) := by
  refine Fld.start ?_
  obtain ⟨u, w, h1, h2, h3⟩ := cmp_v (Or.inl h)
  rw [fld_at ev] at h1
  have h2' : w = .int k := (Option.some.inj (h2.symm.trans (Term.int_eval k))).symm ▸ rfl
  subst h2'
  cases u <;> try (simp [Kin] at h3; done)
  rename_i z
  have q : (Cond.eq (Term.field t C n d) (Term.int k)).value args s none s [] = some (decide (z = k)) := by
    simp [Cond.value, fld_at ev, h1, Term.int_eval k]
  have : z = k := gotT q h
  rw [h1, this]
theorem own_odd (g : Int32) : (if g = (1 : Int32) then (1 : Int32) else (if g = (3 : Int32) then 1 else if g = (5 : Int32) then 1 else if g = (7 : Int32) then 1 else if g = (9 : Int32) then 1 else 0)) = (if g < (1 : Int32) then (0 : Int32) else (if (9 : Int32) < g then (0 : Int32) else (if (g &&& (1 : Int32)) = (1 : Int32) then (1 : Int32) else (0 : Int32)))) := by
  by_cases h1 : g < (1 : Int32)
  · have d : ∀ k : Int32, 1 ≤ k.toInt → ¬ g = k := fun k hk q => by
      rw [q, Int32.lt_iff_toInt_lt] at h1; simp only [Int32.reduceToInt] at h1; omega
    rw [if_pos h1, if_neg (d 1 (by decide)), if_neg (d 3 (by decide)), if_neg (d 5 (by decide)), if_neg (d 7 (by decide)), if_neg (d 9 (by decide))]
  · rw [if_neg h1]
    by_cases h2 : (9 : Int32) < g
    · have d : ∀ k : Int32, k.toInt ≤ 9 → ¬ g = k := fun k hk q => by
        rw [q, Int32.lt_iff_toInt_lt] at h2; simp only [Int32.reduceToInt] at h2; omega
      rw [if_pos h2, if_neg (d 1 (by decide)), if_neg (d 3 (by decide)), if_neg (d 5 (by decide)), if_neg (d 7 (by decide)), if_neg (d 9 (by decide))]
    · rw [if_neg h2]
      have q : g = 1 ∨ g = 2 ∨ g = 3 ∨ g = 4 ∨ g = 5 ∨ g = 6 ∨ g = 7 ∨ g = 8 ∨ g = 9 := by
        rw [Int32.lt_iff_toInt_lt] at h1 h2
        simp only [← Int32.toInt_inj, Int32.reduceToInt] at h1 h2 ⊢; omega
      rcases q with rfl | rfl | rfl | rfl | rfl | rfl | rfl | rfl | rfl <;> decide
def own_pick (i : Int32) (a_SEND a_SUBMIT a_REQUEST a_INVOKE a_PROGRESS a_PUBSUB : Addr) : Addr := if i = (0 : Int32) then a_SEND else if i = (1 : Int32) then a_SUBMIT else if i = (2 : Int32) then a_REQUEST else if i = (3 : Int32) then a_INVOKE else if i = (4 : Int32) then a_PROGRESS else a_PUBSUB
def own_sent (a q : Addr) (g : Int32) : Int32 := if g = (1 : Int32) then 1 else if a = q then (if g = (3 : Int32) then 1 else if g = (5 : Int32) then 1 else if g = (7 : Int32) then 1 else if g = (9 : Int32) then 1 else 0) else 0
theorem d1_0 : decode method_2_code 0 = .ok (.iload_n 0, 1) := by decide +kernel
theorem d1_1 : decode method_2_code 1 = .ok (.ldc 7, 2) := by decide +kernel
theorem d1_3 : decode method_2_code 3 = .ok (.iand, 1) := by decide +kernel
theorem d1_4 : decode method_2_code 4 = .ok (.bipush 6, 2) := by decide +kernel
theorem d1_6 : decode method_2_code 6 = .ok (.irem, 1) := by decide +kernel
theorem d1_7 : decode method_2_code 7 = .ok (.istore_n 1, 1) := by decide +kernel
theorem d1_8 : decode method_2_code 8 = .ok (.iload_n 1, 1) := by decide +kernel
theorem d1_9 : decode method_2_code 9 = .ok (.ifCond .ne 7, 3) := by decide +kernel
theorem d1_12 : decode method_2_code 12 = .ok (.getstatic 8, 3) := by decide +kernel
theorem d1_15 : decode method_2_code 15 = .ok (.areturn, 1) := by decide +kernel
theorem d1_16 : decode method_2_code 16 = .ok (.iload_n 1, 1) := by decide +kernel
theorem d1_17 : decode method_2_code 17 = .ok (.iconst 1, 1) := by decide +kernel
theorem d1_18 : decode method_2_code 18 = .ok (.if_icmp .ne 7, 3) := by decide +kernel
theorem d1_21 : decode method_2_code 21 = .ok (.getstatic 14, 3) := by decide +kernel
theorem d1_24 : decode method_2_code 24 = .ok (.areturn, 1) := by decide +kernel
theorem d1_25 : decode method_2_code 25 = .ok (.iload_n 1, 1) := by decide +kernel
theorem d1_26 : decode method_2_code 26 = .ok (.iconst 2, 1) := by decide +kernel
theorem d1_27 : decode method_2_code 27 = .ok (.if_icmp .ne 7, 3) := by decide +kernel
theorem d1_30 : decode method_2_code 30 = .ok (.getstatic 17, 3) := by decide +kernel
theorem d1_33 : decode method_2_code 33 = .ok (.areturn, 1) := by decide +kernel
theorem d1_34 : decode method_2_code 34 = .ok (.iload_n 1, 1) := by decide +kernel
theorem d1_35 : decode method_2_code 35 = .ok (.iconst 3, 1) := by decide +kernel
theorem d1_36 : decode method_2_code 36 = .ok (.if_icmp .ne 7, 3) := by decide +kernel
theorem d1_39 : decode method_2_code 39 = .ok (.getstatic 20, 3) := by decide +kernel
theorem d1_42 : decode method_2_code 42 = .ok (.areturn, 1) := by decide +kernel
theorem d1_43 : decode method_2_code 43 = .ok (.iload_n 1, 1) := by decide +kernel
theorem d1_44 : decode method_2_code 44 = .ok (.iconst 4, 1) := by decide +kernel
theorem d1_45 : decode method_2_code 45 = .ok (.if_icmp .ne 7, 3) := by decide +kernel
theorem d1_48 : decode method_2_code 48 = .ok (.getstatic 23, 3) := by decide +kernel
theorem d1_51 : decode method_2_code 51 = .ok (.areturn, 1) := by decide +kernel
theorem d1_52 : decode method_2_code 52 = .ok (.getstatic 26, 3) := by decide +kernel
theorem d1_55 : decode method_2_code 55 = .ok (.areturn, 1) := by decide +kernel
theorem pn_com_example_halyard_halyard_mal_InteractionTypeIsSentToProviderPinLaw : plainName "com/example/halyard/halyard/mal/InteractionTypeIsSentToProviderPinLaw" = true := by first | (simp [plainName, overriddenIn]; done) | decide +kernel
theorem ef_1 (m : MethodId) (x0 : Int32) : entryFrame m #[(.int x0)] 2 = mkF m 0 #[.val (.int x0), .unset] [] := by first | rfl | (simp [entryFrame, mkF, argsToLocals, Value.category]; done)
def Q1 (Z : State) (x0 : Int32) (a_SEND : Addr) (a_SUBMIT : Addr) (a_REQUEST : Addr) (a_INVOKE : Addr) (a_PROGRESS : Addr) (a_PUBSUB : Addr) (h0 : Heap) (n0 : Nat) (v : Option Value) (h : Heap) (L : List Loc) : Prop := v = some (.ref (own_pick ((x0 &&& (2147483647 : Int32)) % (6 : Int32)) a_SEND a_SUBMIT a_REQUEST a_INVOKE a_PROGRESS a_PUBSUB)) ∧ Fr n0 L ∧ h = h0
set_option maxRecDepth 65536 in
set_option maxHeartbeats 40000000 in
theorem rm1 (l : Launch) (Z : State) (a0 : Array Value) (hw : ∀ d ∈ tables_1, d.before a0 Z = true) (ws : List Jvm.Cond) (x0 : Int32) (a_SEND : Addr) (a_SUBMIT : Addr) (a_REQUEST : Addr) (a_INVOKE : Addr) (a_PROGRESS : Addr) (a_PUBSUB : Addr) (h0 : Heap) (n0 : Nat) (Z0 : n0 ≤ h0.size) (S_SEND : Sta Z h0 "com/example/halyard/halyard/mal/InteractionType" "SEND" "Lcom/example/halyard/halyard/mal/InteractionType;" (.ref a_SEND)) (S_SUBMIT : Sta Z h0 "com/example/halyard/halyard/mal/InteractionType" "SUBMIT" "Lcom/example/halyard/halyard/mal/InteractionType;" (.ref a_SUBMIT)) (S_REQUEST : Sta Z h0 "com/example/halyard/halyard/mal/InteractionType" "REQUEST" "Lcom/example/halyard/halyard/mal/InteractionType;" (.ref a_REQUEST)) (S_INVOKE : Sta Z h0 "com/example/halyard/halyard/mal/InteractionType" "INVOKE" "Lcom/example/halyard/halyard/mal/InteractionType;" (.ref a_INVOKE)) (S_PROGRESS : Sta Z h0 "com/example/halyard/halyard/mal/InteractionType" "PROGRESS" "Lcom/example/halyard/halyard/mal/InteractionType;" (.ref a_PROGRESS)) (S_PUBSUB : Sta Z h0 "com/example/halyard/halyard/mal/InteractionType" "PUBSUB" "Lcom/example/halyard/halyard/mal/InteractionType;" (.ref a_PUBSUB)) :
    MetFree l (⟨"com/example/halyard/halyard/mal/InteractionTypeIsSentToProviderPinLaw", "pick", "(I)Lcom/example/halyard/halyard/mal/InteractionType;"⟩ : MethodName) (head1 (Jvm.Cond.code (⟨"com/example/halyard/halyard/mal/InteractionTypeIsSentToProviderPinLaw", "pick", "(I)Lcom/example/halyard/halyard/mal/InteractionType;"⟩ : MethodName) method_2_code 2 (some (.object "com/example/halyard/halyard/mal/InteractionType")) :: ws) ({ frames := 0, cells := 0, slots := 0, locals := 0 } : Room)) (fun a U => a = #[(.int x0)] ∧ Z.Warmed39 U.vm ∧ U.heap = h0) (fun _ _ _ _ _ => True) (fun _ U o U' => ∃ v L, o = .returned v ∧ Q1 Z x0 a_SEND a_SUBMIT a_REQUEST a_INVOKE a_PROGRESS a_PUBSUB h0 n0 v U'.heap L ∧ FrameEnd U o U' L ({ frames := 0, cells := 0, slots := 0, locals := 0 } : Room).cells ({ frames := 0, cells := 0, slots := 0, locals := 0 } : Room).slots) := by
  refine MetFree.of_bodySF (plainFor_of_name pn_com_example_halyard_halyard_mal_InteractionTypeIsSentToProviderPinLaw) hisR ?_
  intro p e s m args below meth c s₁ Bd hml0 hP hK
  obtain ⟨rfl, hZ, hh⟩ := hP
  have hx := Bd.exec
  have hby := Bd.bytes
  have hml : c.maxLocals = 2 := hml0
  have hown : s.vm.findClass "com/example/halyard/halyard/mal/InteractionTypeIsSentToProviderPinLaw" = some m.cls := findClass_of_methodNamed Bd.named
  have hnm := (name_of_methodNamed Bd.named Bd.method).1
  have hlk : meth.locks = false := BodyLoose.notSynchronized Bd
  have X0 : Stand p l e ({ frames := 0, cells := 0, slots := 0, locals := 0 } : Room) s m #[(.int x0)] below meth c s₁ [] 0 0 := Stand.of_body Bd
  have e0 : s₁.heap = h0 := by rw [← hh, Bd.state]; rfl
  have N0 := Fr.nil n0
  show own_E p e below s (Q1 Z x0 a_SEND a_SUBMIT a_REQUEST a_INVOKE a_PROGRESS a_PUBSUB h0 n0) 0 0 (s₁.setTop (entryFrame m #[(.int x0)] 2))
  refine own_pre (B := s₁.setTop (mkF m 0 #[.val (.int x0), .unset] [])) ?_ (fun t k => castTop (ef_1 m x0) k)
  refine own_pre (B := s₁.setTop (mkF m 1 #[.val (.int x0), .unset] [(.int x0)])) ?_ fun t k => XS.iloadN X0.here hx rfl (hb hby d1_0) rfl  k
  refine own_pre (B := s₁.setTop (mkF m 3 #[.val (.int x0), .unset] [(.int (2147483647 : Int32)), (.int x0)])) ?_ (X0.ldcInt hx hown (mvT hZ (hw _ (List.mem_of_getElem? (i := 4) rfl))) (g := (mkF m 1 #[.val (.int x0), .unset] [(.int x0)])) rfl (hb hby d1_1))
  refine own_pre (B := s₁.setTop (mkF m 4 #[.val (.int x0), .unset] [(.int (x0 &&& (2147483647 : Int32)))])) ?_ fun t k => XS.iand X0.here hx rfl (hb hby d1_3) rfl k
  refine own_pre (B := s₁.setTop (mkF m 6 #[.val (.int x0), .unset] [(.int (6 : Int32)), (.int (x0 &&& (2147483647 : Int32)))])) ?_ fun t k => XS.bipush X0.here hx rfl (hb hby d1_4) k
  refine own_pre (B := s₁.setTop (mkF m 7 #[.val (.int x0), .unset] [(.int ((x0 &&& (2147483647 : Int32)) % (6 : Int32)))])) ?_ fun t k => iremM X0 hx rfl (hb hby d1_6) rfl (by decide) k
  refine own_pre (B := s₁.setTop (mkF m 8 #[.val (.int x0), .val (.int ((x0 &&& (2147483647 : Int32)) % (6 : Int32)))] [])) ?_ fun t k => XS.istoreN X0.here hx rfl (hb hby d1_7) rfl  (l' := #[.val (.int x0), .val (.int ((x0 &&& (2147483647 : Int32)) % (6 : Int32)))]) rfl k
  refine own_pre (B := s₁.setTop (mkF m 9 #[.val (.int x0), .val (.int ((x0 &&& (2147483647 : Int32)) % (6 : Int32)))] [(.int ((x0 &&& (2147483647 : Int32)) % (6 : Int32)))])) ?_ fun t k => XS.iloadN X0.here hx rfl (hb hby d1_8) rfl  k
  by_cases h9_1 : ((x0 &&& (2147483647 : Int32)) % (6 : Int32)) = (0 : Int32)
  · skip
    refine own_pre (B := s₁.setTop (mkF m 12 #[.val (.int x0), .val (.int ((x0 &&& (2147483647 : Int32)) % (6 : Int32)))] [])) ?_ fun t k => XS.ifNo X0.here hx rfl (hb hby d1_9) rfl ((if0 _ _).trans (teq h9_1).2) k
    obtain ⟨T2, X2, e2, st2⟩ := getS2 X0 hx hZ hown (host := "") (Or.inl (hw _ (List.mem_of_getElem? (i := 5) rfl))) Via.refl e0 S_SEND (g := (mkF m 12 #[.val (.int x0), .val (.int ((x0 &&& (2147483647 : Int32)) % (6 : Int32)))] [])) rfl (hb hby d1_12)
    refine own_pre (B := T2.setTop (mkF m 15 #[.val (.int x0), .val (.int ((x0 &&& (2147483647 : Int32)) % (6 : Int32)))] [(.ref a_SEND)])) ?_ st2
    refine own_retA X2 hx hlk (t := (.object "com/example/halyard/halyard/mal/InteractionType")) Bd.returns rfl rfl (hb hby d1_15) ?_ (by decide) (by decide)
    rw [e2]
    exact ⟨by simp [own_pick, h9_1], N0, rfl⟩
  · skip
    refine own_pre (B := s₁.setTop (mkF m 16 #[.val (.int x0), .val (.int ((x0 &&& (2147483647 : Int32)) % (6 : Int32)))] [])) ?_ fun t k => XS.ifYes X0.here hx rfl (pc0 := 9) (pc' := 16) rfl (hb hby d1_9) rfl ((if0 _ _).trans (feq h9_1).2) (by decide) (by decide) k
    refine own_pre (B := s₁.setTop (mkF m 17 #[.val (.int x0), .val (.int ((x0 &&& (2147483647 : Int32)) % (6 : Int32)))] [(.int ((x0 &&& (2147483647 : Int32)) % (6 : Int32)))])) ?_ fun t k => XS.iloadN X0.here hx rfl (hb hby d1_16) rfl  k
    refine own_pre (B := s₁.setTop (mkF m 18 #[.val (.int x0), .val (.int ((x0 &&& (2147483647 : Int32)) % (6 : Int32)))] [(.int (1 : Int32)), (.int ((x0 &&& (2147483647 : Int32)) % (6 : Int32)))])) ?_ fun t k => XS.iconst X0.here hx rfl (hb hby d1_17) k
    by_cases h18_3 : ((x0 &&& (2147483647 : Int32)) % (6 : Int32)) = (1 : Int32)
    · skip
      refine own_pre (B := s₁.setTop (mkF m 21 #[.val (.int x0), .val (.int ((x0 &&& (2147483647 : Int32)) % (6 : Int32)))] [])) ?_ fun t k => XS.icmpNo X0.here hx rfl (hb hby d1_18) rfl (teq h18_3).2 k
      obtain ⟨T4, X4, e4, st4⟩ := getS2 X0 hx hZ hown (host := "") (Or.inl (hw _ (List.mem_of_getElem? (i := 13) rfl))) Via.refl e0 S_SUBMIT (g := (mkF m 21 #[.val (.int x0), .val (.int ((x0 &&& (2147483647 : Int32)) % (6 : Int32)))] [])) rfl (hb hby d1_21)
      refine own_pre (B := T4.setTop (mkF m 24 #[.val (.int x0), .val (.int ((x0 &&& (2147483647 : Int32)) % (6 : Int32)))] [(.ref a_SUBMIT)])) ?_ st4
      refine own_retA X4 hx hlk (t := (.object "com/example/halyard/halyard/mal/InteractionType")) Bd.returns rfl rfl (hb hby d1_24) ?_ (by decide) (by decide)
      rw [e4]
      exact ⟨by simp [own_pick, h9_1, h18_3], N0, rfl⟩
    · skip
      refine own_pre (B := s₁.setTop (mkF m 25 #[.val (.int x0), .val (.int ((x0 &&& (2147483647 : Int32)) % (6 : Int32)))] [])) ?_ fun t k => XS.icmpYes X0.here hx rfl (pc0 := 18) (pc' := 25) rfl (hb hby d1_18) rfl (feq h18_3).2 (by decide) (by decide) k
      refine own_pre (B := s₁.setTop (mkF m 26 #[.val (.int x0), .val (.int ((x0 &&& (2147483647 : Int32)) % (6 : Int32)))] [(.int ((x0 &&& (2147483647 : Int32)) % (6 : Int32)))])) ?_ fun t k => XS.iloadN X0.here hx rfl (hb hby d1_25) rfl  k
      refine own_pre (B := s₁.setTop (mkF m 27 #[.val (.int x0), .val (.int ((x0 &&& (2147483647 : Int32)) % (6 : Int32)))] [(.int (2 : Int32)), (.int ((x0 &&& (2147483647 : Int32)) % (6 : Int32)))])) ?_ fun t k => XS.iconst X0.here hx rfl (hb hby d1_26) k
      by_cases h27_5 : ((x0 &&& (2147483647 : Int32)) % (6 : Int32)) = (2 : Int32)
      · skip
        refine own_pre (B := s₁.setTop (mkF m 30 #[.val (.int x0), .val (.int ((x0 &&& (2147483647 : Int32)) % (6 : Int32)))] [])) ?_ fun t k => XS.icmpNo X0.here hx rfl (hb hby d1_27) rfl (teq h27_5).2 k
        obtain ⟨T6, X6, e6, st6⟩ := getS2 X0 hx hZ hown (host := "") (Or.inl (hw _ (List.mem_of_getElem? (i := 17) rfl))) Via.refl e0 S_REQUEST (g := (mkF m 30 #[.val (.int x0), .val (.int ((x0 &&& (2147483647 : Int32)) % (6 : Int32)))] [])) rfl (hb hby d1_30)
        refine own_pre (B := T6.setTop (mkF m 33 #[.val (.int x0), .val (.int ((x0 &&& (2147483647 : Int32)) % (6 : Int32)))] [(.ref a_REQUEST)])) ?_ st6
        refine own_retA X6 hx hlk (t := (.object "com/example/halyard/halyard/mal/InteractionType")) Bd.returns rfl rfl (hb hby d1_33) ?_ (by decide) (by decide)
        rw [e6]
        exact ⟨by simp [own_pick, h9_1, h18_3, h27_5], N0, rfl⟩
      · skip
        refine own_pre (B := s₁.setTop (mkF m 34 #[.val (.int x0), .val (.int ((x0 &&& (2147483647 : Int32)) % (6 : Int32)))] [])) ?_ fun t k => XS.icmpYes X0.here hx rfl (pc0 := 27) (pc' := 34) rfl (hb hby d1_27) rfl (feq h27_5).2 (by decide) (by decide) k
        refine own_pre (B := s₁.setTop (mkF m 35 #[.val (.int x0), .val (.int ((x0 &&& (2147483647 : Int32)) % (6 : Int32)))] [(.int ((x0 &&& (2147483647 : Int32)) % (6 : Int32)))])) ?_ fun t k => XS.iloadN X0.here hx rfl (hb hby d1_34) rfl  k
        refine own_pre (B := s₁.setTop (mkF m 36 #[.val (.int x0), .val (.int ((x0 &&& (2147483647 : Int32)) % (6 : Int32)))] [(.int (3 : Int32)), (.int ((x0 &&& (2147483647 : Int32)) % (6 : Int32)))])) ?_ fun t k => XS.iconst X0.here hx rfl (hb hby d1_35) k
        by_cases h36_7 : ((x0 &&& (2147483647 : Int32)) % (6 : Int32)) = (3 : Int32)
        · skip
          refine own_pre (B := s₁.setTop (mkF m 39 #[.val (.int x0), .val (.int ((x0 &&& (2147483647 : Int32)) % (6 : Int32)))] [])) ?_ fun t k => XS.icmpNo X0.here hx rfl (hb hby d1_36) rfl (teq h36_7).2 k
          obtain ⟨T8, X8, e8, st8⟩ := getS2 X0 hx hZ hown (host := "") (Or.inl (hw _ (List.mem_of_getElem? (i := 20) rfl))) Via.refl e0 S_INVOKE (g := (mkF m 39 #[.val (.int x0), .val (.int ((x0 &&& (2147483647 : Int32)) % (6 : Int32)))] [])) rfl (hb hby d1_39)
          refine own_pre (B := T8.setTop (mkF m 42 #[.val (.int x0), .val (.int ((x0 &&& (2147483647 : Int32)) % (6 : Int32)))] [(.ref a_INVOKE)])) ?_ st8
          refine own_retA X8 hx hlk (t := (.object "com/example/halyard/halyard/mal/InteractionType")) Bd.returns rfl rfl (hb hby d1_42) ?_ (by decide) (by decide)
          rw [e8]
          exact ⟨by simp [own_pick, h9_1, h18_3, h27_5, h36_7], N0, rfl⟩
        · skip
          refine own_pre (B := s₁.setTop (mkF m 43 #[.val (.int x0), .val (.int ((x0 &&& (2147483647 : Int32)) % (6 : Int32)))] [])) ?_ fun t k => XS.icmpYes X0.here hx rfl (pc0 := 36) (pc' := 43) rfl (hb hby d1_36) rfl (feq h36_7).2 (by decide) (by decide) k
          refine own_pre (B := s₁.setTop (mkF m 44 #[.val (.int x0), .val (.int ((x0 &&& (2147483647 : Int32)) % (6 : Int32)))] [(.int ((x0 &&& (2147483647 : Int32)) % (6 : Int32)))])) ?_ fun t k => XS.iloadN X0.here hx rfl (hb hby d1_43) rfl  k
          refine own_pre (B := s₁.setTop (mkF m 45 #[.val (.int x0), .val (.int ((x0 &&& (2147483647 : Int32)) % (6 : Int32)))] [(.int (4 : Int32)), (.int ((x0 &&& (2147483647 : Int32)) % (6 : Int32)))])) ?_ fun t k => XS.iconst X0.here hx rfl (hb hby d1_44) k
          by_cases h45_9 : ((x0 &&& (2147483647 : Int32)) % (6 : Int32)) = (4 : Int32)
          · skip
            refine own_pre (B := s₁.setTop (mkF m 48 #[.val (.int x0), .val (.int ((x0 &&& (2147483647 : Int32)) % (6 : Int32)))] [])) ?_ fun t k => XS.icmpNo X0.here hx rfl (hb hby d1_45) rfl (teq h45_9).2 k
            obtain ⟨T10, X10, e10, st10⟩ := getS2 X0 hx hZ hown (host := "") (Or.inl (hw _ (List.mem_of_getElem? (i := 22) rfl))) Via.refl e0 S_PROGRESS (g := (mkF m 48 #[.val (.int x0), .val (.int ((x0 &&& (2147483647 : Int32)) % (6 : Int32)))] [])) rfl (hb hby d1_48)
            refine own_pre (B := T10.setTop (mkF m 51 #[.val (.int x0), .val (.int ((x0 &&& (2147483647 : Int32)) % (6 : Int32)))] [(.ref a_PROGRESS)])) ?_ st10
            refine own_retA X10 hx hlk (t := (.object "com/example/halyard/halyard/mal/InteractionType")) Bd.returns rfl rfl (hb hby d1_51) ?_ (by decide) (by decide)
            rw [e10]
            exact ⟨by simp [own_pick, h9_1, h18_3, h27_5, h36_7, h45_9], N0, rfl⟩
          · skip
            refine own_pre (B := s₁.setTop (mkF m 52 #[.val (.int x0), .val (.int ((x0 &&& (2147483647 : Int32)) % (6 : Int32)))] [])) ?_ fun t k => XS.icmpYes X0.here hx rfl (pc0 := 45) (pc' := 52) rfl (hb hby d1_45) rfl (feq h45_9).2 (by decide) (by decide) k
            obtain ⟨T11, X11, e11, st11⟩ := getS2 X0 hx hZ hown (host := "") (Or.inl (hw _ (List.mem_of_getElem? (i := 19) rfl))) Via.refl e0 S_PUBSUB (g := (mkF m 52 #[.val (.int x0), .val (.int ((x0 &&& (2147483647 : Int32)) % (6 : Int32)))] [])) rfl (hb hby d1_52)
            refine own_pre (B := T11.setTop (mkF m 55 #[.val (.int x0), .val (.int ((x0 &&& (2147483647 : Int32)) % (6 : Int32)))] [(.ref a_PUBSUB)])) ?_ st11
            refine own_retA X11 hx hlk (t := (.object "com/example/halyard/halyard/mal/InteractionType")) Bd.returns rfl rfl (hb hby d1_55) ?_ (by decide) (by decide)
            rw [e11]
            exact ⟨by simp [own_pick, h9_1, h18_3, h27_5, h36_7, h45_9], N0, rfl⟩
theorem d2_0 : decode prog_73_method_4_code 0 = .ok (.iload_n 1, 1) := by decide +kernel
theorem d2_1 : decode prog_73_method_4_code 1 = .ok (.iconst 3, 1) := by decide +kernel
theorem d2_2 : decode prog_73_method_4_code 2 = .ok (.if_icmp .eq 20, 3) := by decide +kernel
theorem d2_22 : decode prog_73_method_4_code 22 = .ok (.iconst 1, 1) := by decide +kernel
theorem d2_23 : decode prog_73_method_4_code 23 = .ok (.goto 4, 3) := by decide +kernel
theorem d2_5 : decode prog_73_method_4_code 5 = .ok (.iload_n 1, 1) := by decide +kernel
theorem d2_6 : decode prog_73_method_4_code 6 = .ok (.iconst 5, 1) := by decide +kernel
theorem d2_7 : decode prog_73_method_4_code 7 = .ok (.if_icmp .eq 15, 3) := by decide +kernel
theorem d2_10 : decode prog_73_method_4_code 10 = .ok (.iload_n 1, 1) := by decide +kernel
theorem d2_11 : decode prog_73_method_4_code 11 = .ok (.bipush 7, 2) := by decide +kernel
theorem d2_13 : decode prog_73_method_4_code 13 = .ok (.if_icmp .eq 9, 3) := by decide +kernel
theorem d2_16 : decode prog_73_method_4_code 16 = .ok (.iload_n 1, 1) := by decide +kernel
theorem d2_17 : decode prog_73_method_4_code 17 = .ok (.bipush 9, 2) := by decide +kernel
theorem d2_19 : decode prog_73_method_4_code 19 = .ok (.if_icmp .ne 7, 3) := by decide +kernel
theorem d2_26 : decode prog_73_method_4_code 26 = .ok (.iconst 0, 1) := by decide +kernel
theorem d2_27 : decode prog_73_method_4_code 27 = .ok (.istore_n 2, 1) := by decide +kernel
theorem d2_28 : decode prog_73_method_4_code 28 = .ok (.iload_n 1, 1) := by decide +kernel
theorem d2_29 : decode prog_73_method_4_code 29 = .ok (.iconst 1, 1) := by decide +kernel
theorem d2_30 : decode prog_73_method_4_code 30 = .ok (.if_icmp .eq 14, 3) := by decide +kernel
theorem d2_44 : decode prog_73_method_4_code 44 = .ok (.iconst 1, 1) := by decide +kernel
theorem d2_45 : decode prog_73_method_4_code 45 = .ok (.goto 4, 3) := by decide +kernel
theorem d2_49 : decode prog_73_method_4_code 49 = .ok (.ireturn, 1) := by decide +kernel
theorem d2_33 : decode prog_73_method_4_code 33 = .ok (.aload_n 0, 1) := by decide +kernel
theorem d2_34 : decode prog_73_method_4_code 34 = .ok (.getstatic 19, 3) := by decide +kernel
theorem d2_37 : decode prog_73_method_4_code 37 = .ok (.if_acmp .ne 11, 3) := by decide +kernel
theorem d2_40 : decode prog_73_method_4_code 40 = .ok (.iload_n 2, 1) := by decide +kernel
theorem d2_41 : decode prog_73_method_4_code 41 = .ok (.ifCond .eq 7, 3) := by decide +kernel
theorem d2_48 : decode prog_73_method_4_code 48 = .ok (.iconst 0, 1) := by decide +kernel
theorem pn_com_example_halyard_halyard_mal_InteractionType : plainName "com/example/halyard/halyard/mal/InteractionType" = true := by first | (simp [plainName, overriddenIn]; done) | decide +kernel
theorem ef_2 (m : MethodId) (x0 : Addr) (x1 : Int32) : entryFrame m #[(.ref x0), (.int x1)] 3 = mkF m 0 #[.val (.ref x0), .val (.int x1), .unset] [] := by first | rfl | (simp [entryFrame, mkF, argsToLocals, Value.category]; done)
def Q2 (Z : State) (x0 : Addr) (x1 : Int32) (a_PUBSUB : Addr) (h0 : Heap) (n0 : Nat) (v : Option Value) (h : Heap) (L : List Loc) : Prop := v = some (.int (own_sent x0 a_PUBSUB x1)) ∧ Fr n0 L ∧ h = h0
set_option maxRecDepth 65536 in
set_option maxHeartbeats 40000000 in
theorem rm2 (l : Launch) (Z : State) (a0 : Array Value) (hw : ∀ d ∈ tables_1, d.before a0 Z = true) (ws : List Jvm.Cond) (x0 : Addr) (x1 : Int32) (a_PUBSUB : Addr) (h0 : Heap) (n0 : Nat) (Z0 : n0 ≤ h0.size) (S_PUBSUB : Sta Z h0 "com/example/halyard/halyard/mal/InteractionType" "PUBSUB" "Lcom/example/halyard/halyard/mal/InteractionType;" (.ref a_PUBSUB)) :
    MetFree l (⟨"com/example/halyard/halyard/mal/InteractionType", "isSentToProvider", "(I)Z"⟩ : MethodName) (head1 (Jvm.Cond.code (⟨"com/example/halyard/halyard/mal/InteractionType", "isSentToProvider", "(I)Z"⟩ : MethodName) prog_73_method_4_code 3 (some .boolean) :: ws) ({ frames := 0, cells := 0, slots := 0, locals := 0 } : Room)) (fun a U => a = #[(.ref x0), (.int x1)] ∧ Z.Warmed39 U.vm ∧ U.heap = h0) (fun _ _ _ _ _ => True) (fun _ U o U' => ∃ v L, o = .returned v ∧ Q2 Z x0 x1 a_PUBSUB h0 n0 v U'.heap L ∧ FrameEnd U o U' L ({ frames := 0, cells := 0, slots := 0, locals := 0 } : Room).cells ({ frames := 0, cells := 0, slots := 0, locals := 0 } : Room).slots) := by
  refine MetFree.of_bodySF (plainFor_of_name pn_com_example_halyard_halyard_mal_InteractionType) hisR ?_
  intro p e s m args below meth c s₁ Bd hml0 hP hK
  obtain ⟨rfl, hZ, hh⟩ := hP
  have hx := Bd.exec
  have hby := Bd.bytes
  have hml : c.maxLocals = 3 := hml0
  have hown : s.vm.findClass "com/example/halyard/halyard/mal/InteractionType" = some m.cls := findClass_of_methodNamed Bd.named
  have hnm := (name_of_methodNamed Bd.named Bd.method).1
  have hlk : meth.locks = false := BodyLoose.notSynchronized Bd
  have X0 : Stand p l e ({ frames := 0, cells := 0, slots := 0, locals := 0 } : Room) s m #[(.ref x0), (.int x1)] below meth c s₁ [] 0 0 := Stand.of_body Bd
  have e0 : s₁.heap = h0 := by rw [← hh, Bd.state]; rfl
  have N0 := Fr.nil n0
  show own_E p e below s (Q2 Z x0 x1 a_PUBSUB h0 n0) 0 0 (s₁.setTop (entryFrame m #[(.ref x0), (.int x1)] 3))
  refine own_pre (B := s₁.setTop (mkF m 0 #[.val (.ref x0), .val (.int x1), .unset] [])) ?_ (fun t k => castTop (ef_2 m x0 x1) k)
  refine own_pre (B := s₁.setTop (mkF m 1 #[.val (.ref x0), .val (.int x1), .unset] [(.int x1)])) ?_ fun t k => XS.iloadN X0.here hx rfl (hb hby d2_0) rfl  k
  refine own_pre (B := s₁.setTop (mkF m 2 #[.val (.ref x0), .val (.int x1), .unset] [(.int (3 : Int32)), (.int x1)])) ?_ fun t k => XS.iconst X0.here hx rfl (hb hby d2_1) k
  have Jj2 : ∀ (T3 : State) (l3 : List Loc) (X3 : Stand p l e ({ frames := 0, cells := 0, slots := 0, locals := 0 } : Room) s m #[(.ref x0), (.int x1)] below meth c T3 l3 0 0) (N3 : Fr n0 l3) (e3 : T3.heap = h0) (j2_s0 : Int32) (hvj2_s0 : j2_s0 = (if x1 = (3 : Int32) then (1 : Int32) else (if x1 = (5 : Int32) then (1 : Int32) else (if x1 = (7 : Int32) then (1 : Int32) else (if x1 = (9 : Int32) then (1 : Int32) else (0 : Int32)))))), own_E p e below s (Q2 Z x0 x1 a_PUBSUB h0 n0) 0 0 (T3.setTop (mkF m 27 #[.val (.ref x0), .val (.int x1), .unset] [(.int j2_s0)])) := by
    intro T3 l3 X3 N3 e3 j2_s0 hvj2_s0
    refine own_pre (B := T3.setTop (mkF m 28 #[.val (.ref x0), .val (.int x1), .val (.int j2_s0)] [])) ?_ fun t k => XS.istoreN X3.here hx rfl (hb hby d2_27) rfl  (l' := #[.val (.ref x0), .val (.int x1), .val (.int j2_s0)]) rfl k
    refine own_pre (B := T3.setTop (mkF m 29 #[.val (.ref x0), .val (.int x1), .val (.int j2_s0)] [(.int x1)])) ?_ fun t k => XS.iloadN X3.here hx rfl (hb hby d2_28) rfl  k
    refine own_pre (B := T3.setTop (mkF m 30 #[.val (.ref x0), .val (.int x1), .val (.int j2_s0)] [(.int (1 : Int32)), (.int x1)])) ?_ fun t k => XS.iconst X3.here hx rfl (hb hby d2_29) k
    by_cases h30_4 : x1 = (1 : Int32)
    · skip
      refine own_pre (B := T3.setTop (mkF m 44 #[.val (.ref x0), .val (.int x1), .val (.int j2_s0)] [])) ?_ fun t k => XS.icmpYes X3.here hx rfl (pc0 := 30) (pc' := 44) rfl (hb hby d2_30) rfl (teq h30_4).1 (by decide) (by decide) k
      refine own_pre (B := T3.setTop (mkF m 45 #[.val (.ref x0), .val (.int x1), .val (.int j2_s0)] [(.int (1 : Int32))])) ?_ fun t k => XS.iconst X3.here hx rfl (hb hby d2_44) k
      refine own_pre (B := T3.setTop (mkF m 49 #[.val (.ref x0), .val (.int x1), .val (.int j2_s0)] [(.int (1 : Int32))])) ?_ fun t k => XS.goto X3.here hx rfl (pc0 := 45) (pc' := 49) rfl (hb hby d2_45) (by decide) (by decide) k
      refine own_retN X3 hx hlk (t := .boolean) (z' := (1 : Int32)) Bd.returns (by simp) (hb hby d2_49) (by decide) ?_ (by decide) (by decide)
      rw [e3]
      exact ⟨by unfold own_sent; rw [if_pos h30_4], N3, rfl⟩
    · skip
      refine own_pre (B := T3.setTop (mkF m 33 #[.val (.ref x0), .val (.int x1), .val (.int j2_s0)] [])) ?_ fun t k => XS.icmpNo X3.here hx rfl (hb hby d2_30) rfl (feq h30_4).1 k
      refine own_pre (B := T3.setTop (mkF m 34 #[.val (.ref x0), .val (.int x1), .val (.int j2_s0)] [(.ref x0)])) ?_ fun t k => XS.aloadN X3.here hx rfl (hb hby d2_33) rfl rfl k
      obtain ⟨T5, X5, e5, st5⟩ := getS2 X3 hx hZ hown (host := "") (Or.inl (hw _ (List.mem_of_getElem? (i := 15) rfl))) Via.refl e3 S_PUBSUB (g := (mkF m 34 #[.val (.ref x0), .val (.int x1), .val (.int j2_s0)] [(.ref x0)])) rfl (hb hby d2_34)
      refine own_pre (B := T5.setTop (mkF m 37 #[.val (.ref x0), .val (.int x1), .val (.int j2_s0)] [(.ref a_PUBSUB), (.ref x0)])) ?_ st5
      by_cases h37_6 : x0 = a_PUBSUB
      · skip
        refine own_pre (B := T5.setTop (mkF m 40 #[.val (.ref x0), .val (.int x1), .val (.int j2_s0)] [])) ?_ fun t k => Jvm.RoadKit.acmp (g := (mkF m 37 #[.val (.ref x0), .val (.int x1), .val (.int j2_s0)] [(.ref a_PUBSUB), (.ref x0)])) X5 hx rfl rfl rfl (pc0 := 37) (pc' := 40) (same := true) rfl (hb hby d2_37) rfl (decide_eq_true (congrArg Value.ref h37_6)) (by decide) (by decide) k
        refine own_pre (B := T5.setTop (mkF m 41 #[.val (.ref x0), .val (.int x1), .val (.int j2_s0)] [(.int j2_s0)])) ?_ fun t k => XS.iloadN X5.here hx rfl (hb hby d2_40) rfl  k
        by_cases h41_7 : j2_s0 = (0 : Int32)
        · skip
          refine own_pre (B := T5.setTop (mkF m 48 #[.val (.ref x0), .val (.int x1), .val (.int j2_s0)] [])) ?_ fun t k => XS.ifYes X5.here hx rfl (pc0 := 41) (pc' := 48) rfl (hb hby d2_41) rfl ((if0 _ _).trans (teq h41_7).1) (by decide) (by decide) k
          refine own_pre (B := T5.setTop (mkF m 49 #[.val (.ref x0), .val (.int x1), .val (.int j2_s0)] [(.int (0 : Int32))])) ?_ fun t k => XS.iconst X5.here hx rfl (hb hby d2_48) k
          refine own_retN X5 hx hlk (t := .boolean) (z' := (0 : Int32)) Bd.returns (by simp) (hb hby d2_49) (by decide) ?_ (by decide) (by decide)
          rw [e5]
          exact ⟨by have q := h41_7; rw [hvj2_s0] at q; unfold own_sent; rw [if_neg h30_4, if_pos h37_6]; revert q; (repeat' split) <;> simp_all, N3, rfl⟩
        · skip
          refine own_pre (B := T5.setTop (mkF m 44 #[.val (.ref x0), .val (.int x1), .val (.int j2_s0)] [])) ?_ fun t k => XS.ifNo X5.here hx rfl (hb hby d2_41) rfl ((if0 _ _).trans (feq h41_7).1) k
          refine own_pre (B := T5.setTop (mkF m 45 #[.val (.ref x0), .val (.int x1), .val (.int j2_s0)] [(.int (1 : Int32))])) ?_ fun t k => XS.iconst X5.here hx rfl (hb hby d2_44) k
          refine own_pre (B := T5.setTop (mkF m 49 #[.val (.ref x0), .val (.int x1), .val (.int j2_s0)] [(.int (1 : Int32))])) ?_ fun t k => XS.goto X5.here hx rfl (pc0 := 45) (pc' := 49) rfl (hb hby d2_45) (by decide) (by decide) k
          refine own_retN X5 hx hlk (t := .boolean) (z' := (1 : Int32)) Bd.returns (by simp) (hb hby d2_49) (by decide) ?_ (by decide) (by decide)
          rw [e5]
          exact ⟨by have q := h41_7; rw [hvj2_s0] at q; unfold own_sent; rw [if_neg h30_4, if_pos h37_6]; revert q; (repeat' split) <;> simp_all, N3, rfl⟩
      · skip
        refine own_pre (B := T5.setTop (mkF m 48 #[.val (.ref x0), .val (.int x1), .val (.int j2_s0)] [])) ?_ fun t k => Jvm.RoadKit.acmp (g := (mkF m 37 #[.val (.ref x0), .val (.int x1), .val (.int j2_s0)] [(.ref a_PUBSUB), (.ref x0)])) X5 hx rfl rfl rfl (pc0 := 37) (pc' := 48) (same := false) rfl (hb hby d2_37) rfl (decide_eq_false fun q => h37_6 (Value.ref.inj q)) (by decide) (by decide) k
        refine own_pre (B := T5.setTop (mkF m 49 #[.val (.ref x0), .val (.int x1), .val (.int j2_s0)] [(.int (0 : Int32))])) ?_ fun t k => XS.iconst X5.here hx rfl (hb hby d2_48) k
        refine own_retN X5 hx hlk (t := .boolean) (z' := (0 : Int32)) Bd.returns (by simp) (hb hby d2_49) (by decide) ?_ (by decide) (by decide)
        rw [e5]
        exact ⟨by unfold own_sent; rw [if_neg h30_4, if_neg h37_6], N3, rfl⟩
  by_cases h2_1 : x1 = (3 : Int32)
  · skip
    refine own_pre (B := s₁.setTop (mkF m 22 #[.val (.ref x0), .val (.int x1), .unset] [])) ?_ fun t k => XS.icmpYes X0.here hx rfl (pc0 := 2) (pc' := 22) rfl (hb hby d2_2) rfl (teq h2_1).1 (by decide) (by decide) k
    refine own_pre (B := s₁.setTop (mkF m 23 #[.val (.ref x0), .val (.int x1), .unset] [(.int (1 : Int32))])) ?_ fun t k => XS.iconst X0.here hx rfl (hb hby d2_22) k
    refine own_pre (B := s₁.setTop (mkF m 27 #[.val (.ref x0), .val (.int x1), .unset] [(.int (1 : Int32))])) ?_ fun t k => XS.goto X0.here hx rfl (pc0 := 23) (pc' := 27) rfl (hb hby d2_23) (by decide) (by decide) k
    exact Jj2 s₁ _ X0 N0 e0 ((1 : Int32)) (if_pos h2_1).symm
  · skip
    refine own_pre (B := s₁.setTop (mkF m 5 #[.val (.ref x0), .val (.int x1), .unset] [])) ?_ fun t k => XS.icmpNo X0.here hx rfl (hb hby d2_2) rfl (feq h2_1).1 k
    refine own_pre (B := s₁.setTop (mkF m 6 #[.val (.ref x0), .val (.int x1), .unset] [(.int x1)])) ?_ fun t k => XS.iloadN X0.here hx rfl (hb hby d2_5) rfl  k
    refine own_pre (B := s₁.setTop (mkF m 7 #[.val (.ref x0), .val (.int x1), .unset] [(.int (5 : Int32)), (.int x1)])) ?_ fun t k => XS.iconst X0.here hx rfl (hb hby d2_6) k
    by_cases h7_8 : x1 = (5 : Int32)
    · skip
      refine own_pre (B := s₁.setTop (mkF m 22 #[.val (.ref x0), .val (.int x1), .unset] [])) ?_ fun t k => XS.icmpYes X0.here hx rfl (pc0 := 7) (pc' := 22) rfl (hb hby d2_7) rfl (teq h7_8).1 (by decide) (by decide) k
      refine own_pre (B := s₁.setTop (mkF m 23 #[.val (.ref x0), .val (.int x1), .unset] [(.int (1 : Int32))])) ?_ fun t k => XS.iconst X0.here hx rfl (hb hby d2_22) k
      refine own_pre (B := s₁.setTop (mkF m 27 #[.val (.ref x0), .val (.int x1), .unset] [(.int (1 : Int32))])) ?_ fun t k => XS.goto X0.here hx rfl (pc0 := 23) (pc' := 27) rfl (hb hby d2_23) (by decide) (by decide) k
      exact Jj2 s₁ _ X0 N0 e0 ((1 : Int32)) ((if_neg h2_1).trans (if_pos h7_8)).symm
    · skip
      refine own_pre (B := s₁.setTop (mkF m 10 #[.val (.ref x0), .val (.int x1), .unset] [])) ?_ fun t k => XS.icmpNo X0.here hx rfl (hb hby d2_7) rfl (feq h7_8).1 k
      refine own_pre (B := s₁.setTop (mkF m 11 #[.val (.ref x0), .val (.int x1), .unset] [(.int x1)])) ?_ fun t k => XS.iloadN X0.here hx rfl (hb hby d2_10) rfl  k
      refine own_pre (B := s₁.setTop (mkF m 13 #[.val (.ref x0), .val (.int x1), .unset] [(.int (7 : Int32)), (.int x1)])) ?_ fun t k => XS.bipush X0.here hx rfl (hb hby d2_11) k
      by_cases h13_9 : x1 = (7 : Int32)
      · skip
        refine own_pre (B := s₁.setTop (mkF m 22 #[.val (.ref x0), .val (.int x1), .unset] [])) ?_ fun t k => XS.icmpYes X0.here hx rfl (pc0 := 13) (pc' := 22) rfl (hb hby d2_13) rfl (teq h13_9).1 (by decide) (by decide) k
        refine own_pre (B := s₁.setTop (mkF m 23 #[.val (.ref x0), .val (.int x1), .unset] [(.int (1 : Int32))])) ?_ fun t k => XS.iconst X0.here hx rfl (hb hby d2_22) k
        refine own_pre (B := s₁.setTop (mkF m 27 #[.val (.ref x0), .val (.int x1), .unset] [(.int (1 : Int32))])) ?_ fun t k => XS.goto X0.here hx rfl (pc0 := 23) (pc' := 27) rfl (hb hby d2_23) (by decide) (by decide) k
        exact Jj2 s₁ _ X0 N0 e0 ((1 : Int32)) (((if_neg h2_1).trans (if_neg h7_8)).trans (if_pos h13_9)).symm
      · skip
        refine own_pre (B := s₁.setTop (mkF m 16 #[.val (.ref x0), .val (.int x1), .unset] [])) ?_ fun t k => XS.icmpNo X0.here hx rfl (hb hby d2_13) rfl (feq h13_9).1 k
        refine own_pre (B := s₁.setTop (mkF m 17 #[.val (.ref x0), .val (.int x1), .unset] [(.int x1)])) ?_ fun t k => XS.iloadN X0.here hx rfl (hb hby d2_16) rfl  k
        refine own_pre (B := s₁.setTop (mkF m 19 #[.val (.ref x0), .val (.int x1), .unset] [(.int (9 : Int32)), (.int x1)])) ?_ fun t k => XS.bipush X0.here hx rfl (hb hby d2_17) k
        by_cases h19_10 : x1 = (9 : Int32)
        · skip
          refine own_pre (B := s₁.setTop (mkF m 22 #[.val (.ref x0), .val (.int x1), .unset] [])) ?_ fun t k => XS.icmpNo X0.here hx rfl (hb hby d2_19) rfl (teq h19_10).2 k
          refine own_pre (B := s₁.setTop (mkF m 23 #[.val (.ref x0), .val (.int x1), .unset] [(.int (1 : Int32))])) ?_ fun t k => XS.iconst X0.here hx rfl (hb hby d2_22) k
          refine own_pre (B := s₁.setTop (mkF m 27 #[.val (.ref x0), .val (.int x1), .unset] [(.int (1 : Int32))])) ?_ fun t k => XS.goto X0.here hx rfl (pc0 := 23) (pc' := 27) rfl (hb hby d2_23) (by decide) (by decide) k
          exact Jj2 s₁ _ X0 N0 e0 ((1 : Int32)) ((((if_neg h2_1).trans (if_neg h7_8)).trans (if_neg h13_9)).trans (if_pos h19_10)).symm
        · skip
          refine own_pre (B := s₁.setTop (mkF m 26 #[.val (.ref x0), .val (.int x1), .unset] [])) ?_ fun t k => XS.icmpYes X0.here hx rfl (pc0 := 19) (pc' := 26) rfl (hb hby d2_19) rfl (feq h19_10).2 (by decide) (by decide) k
          refine own_pre (B := s₁.setTop (mkF m 27 #[.val (.ref x0), .val (.int x1), .unset] [(.int (0 : Int32))])) ?_ fun t k => XS.iconst X0.here hx rfl (hb hby d2_26) k
          exact Jj2 s₁ _ X0 N0 e0 ((0 : Int32)) ((((if_neg h2_1).trans (if_neg h7_8)).trans (if_neg h13_9)).trans (if_neg h19_10)).symm
theorem pd__I_Lcom_example_halyard_halyard_mal_InteractionType_ : parseMethodDescriptor "(I)Lcom/example/halyard/halyard/mal/InteractionType;" = some ⟨[.int], some (.object "com/example/halyard/halyard/mal/InteractionType")⟩ := by decide +kernel
theorem pd__I_Z : parseMethodDescriptor "(I)Z" = some ⟨[.int], some .boolean⟩ := by decide +kernel
set_option maxRecDepth 65536 in
set_option maxHeartbeats 40000000 in
theorem own_fin (x0 : Int32) (x1 : Int32) (x2 : Int32) (a_SEND : Addr) (a_SUBMIT : Addr) (a_REQUEST : Addr) (a_INVOKE : Addr) (a_PROGRESS : Addr) (a_PUBSUB : Addr) (ne_SEND_PUBSUB : a_SEND ≠ a_PUBSUB) (ne_SUBMIT_PUBSUB : a_SUBMIT ≠ a_PUBSUB) (ne_REQUEST_PUBSUB : a_REQUEST ≠ a_PUBSUB) (ne_INVOKE_PUBSUB : a_INVOKE ≠ a_PUBSUB) (ne_PROGRESS_PUBSUB : a_PROGRESS ≠ a_PUBSUB) (a_T : Addr) (h_T : a_T = own_pick ((x0 &&& (2147483647 : Int32)) % (6 : Int32)) a_SEND a_SUBMIT a_REQUEST a_INVOKE a_PROGRESS a_PUBSUB) (j3_s0 : Int32) (hvj3_s0 : j3_s0 = (if (x2 &&& (1 : Int32)) = (0 : Int32) then (0 : Int32) else (1 : Int32))) (j6_s0 : Int32) (hvj6_s0 : j6_s0 = (if j3_s0 = (0 : Int32) then ((x1 &&& (15 : Int32)) - (2 : Int32)) else x1)) (j9_s0 : Int32) (hvj9_s0 : j9_s0 = (if ((x0 &&& (2147483647 : Int32)) % (6 : Int32)) = (5 : Int32) then (1 : Int32) else (0 : Int32))) (j12_l7 : Int32) (hvj12_l7 : j12_l7 = (if j9_s0 = (0 : Int32) then (if j6_s0 = (1 : Int32) then (1 : Int32) else (0 : Int32)) else (if j6_s0 < (1 : Int32) then (0 : Int32) else (if (9 : Int32) < j6_s0 then (0 : Int32) else (if (j6_s0 &&& (1 : Int32)) = (1 : Int32) then (1 : Int32) else (0 : Int32)))))) : (own_sent a_T a_PUBSUB j6_s0) = j12_l7 := by
  subst h_T
  have r := c_mask x0 2147483647 31 (by decide) (by decide)
  have q := (c_irem (x0 &&& 2147483647) 6 6 (by decide)).1 (by omega)
  have e0 : own_pick ((x0 &&& (2147483647 : Int32)) % (6 : Int32)) a_SEND a_SUBMIT a_REQUEST a_INVOKE a_PROGRESS a_PUBSUB = a_PUBSUB ↔ (x0 &&& (2147483647 : Int32)) % (6 : Int32) = (5 : Int32) := by
    generalize (x0 &&& (2147483647 : Int32)) % (6 : Int32) = i at *
    have i5 : i = 0 ∨ i = 1 ∨ i = 2 ∨ i = 3 ∨ i = 4 ∨ i = 5 := by
      simp only [← Int32.toInt_inj, Int32.reduceToInt]; omega
    rcases i5 with rfl | rfl | rfl | rfl | rfl | rfl <;> simp [own_pick, *]
  unfold own_sent
  simp only [e0]
  by_cases p5 : ((x0 &&& (2147483647 : Int32)) % (6 : Int32)) = (5 : Int32)
  · rw [if_pos p5] at hvj9_s0
    subst hvj9_s0
    rw [if_neg (by decide)] at hvj12_l7
    simp only [p5, if_true]
    rw [hvj12_l7]
    exact own_odd j6_s0
  · rw [if_neg p5] at hvj9_s0
    subst hvj9_s0
    rw [if_pos rfl] at hvj12_l7
    simp only [p5, if_false]
    rw [hvj12_l7]
theorem ef_0 (m : MethodId) (x0 : Int32) (x1 : Int32) (x2 : Int32) : entryFrame m #[(.int x0), (.int x1), (.int x2)] maxLocals = mkF m 0 #[.val (.int x0), .val (.int x1), .val (.int x2), .unset, .unset, .unset, .unset, .unset] [] := by first | rfl | (simp [entryFrame, mkF, argsToLocals, Value.category, maxLocals]; done)
def Q0 (Z : State) (x0 : Int32) (x1 : Int32) (x2 : Int32) (a_SEND : Addr) (a_SUBMIT : Addr) (a_REQUEST : Addr) (a_INVOKE : Addr) (a_PROGRESS : Addr) (a_PUBSUB : Addr) (h0 : Heap) (n0 : Nat) (v : Option Value) (h : Heap) (L : List Loc) : Prop := v = some (.int 1) ∧ Fr n0 L
set_option maxRecDepth 65536 in
set_option maxHeartbeats 40000000 in
theorem rm0 (l : Launch) (Z : State) (a0 : Array Value) (hw : ∀ d ∈ tables_1, d.before a0 Z = true) (ws : List Jvm.Cond) (x0 : Int32) (x1 : Int32) (x2 : Int32) (a_SEND : Addr) (a_SUBMIT : Addr) (a_REQUEST : Addr) (a_INVOKE : Addr) (a_PROGRESS : Addr) (a_PUBSUB : Addr) (h0 : Heap) (n0 : Nat) (Z0 : n0 ≤ h0.size) (S_SEND : Sta Z h0 "com/example/halyard/halyard/mal/InteractionType" "SEND" "Lcom/example/halyard/halyard/mal/InteractionType;" (.ref a_SEND)) (S_SUBMIT : Sta Z h0 "com/example/halyard/halyard/mal/InteractionType" "SUBMIT" "Lcom/example/halyard/halyard/mal/InteractionType;" (.ref a_SUBMIT)) (S_REQUEST : Sta Z h0 "com/example/halyard/halyard/mal/InteractionType" "REQUEST" "Lcom/example/halyard/halyard/mal/InteractionType;" (.ref a_REQUEST)) (S_INVOKE : Sta Z h0 "com/example/halyard/halyard/mal/InteractionType" "INVOKE" "Lcom/example/halyard/halyard/mal/InteractionType;" (.ref a_INVOKE)) (S_PROGRESS : Sta Z h0 "com/example/halyard/halyard/mal/InteractionType" "PROGRESS" "Lcom/example/halyard/halyard/mal/InteractionType;" (.ref a_PROGRESS)) (S_PUBSUB : Sta Z h0 "com/example/halyard/halyard/mal/InteractionType" "PUBSUB" "Lcom/example/halyard/halyard/mal/InteractionType;" (.ref a_PUBSUB)) (E_SEND : Exa Z h0 a_SEND "com/example/halyard/halyard/mal/InteractionType") (E_SUBMIT : Exa Z h0 a_SUBMIT "com/example/halyard/halyard/mal/InteractionType") (E_REQUEST : Exa Z h0 a_REQUEST "com/example/halyard/halyard/mal/InteractionType") (E_INVOKE : Exa Z h0 a_INVOKE "com/example/halyard/halyard/mal/InteractionType") (E_PROGRESS : Exa Z h0 a_PROGRESS "com/example/halyard/halyard/mal/InteractionType") (E_PUBSUB : Exa Z h0 a_PUBSUB "com/example/halyard/halyard/mal/InteractionType") (ne_SEND_PUBSUB : a_SEND ≠ a_PUBSUB) (ne_SUBMIT_PUBSUB : a_SUBMIT ≠ a_PUBSUB) (ne_REQUEST_PUBSUB : a_REQUEST ≠ a_PUBSUB) (ne_INVOKE_PUBSUB : a_INVOKE ≠ a_PUBSUB) (ne_PROGRESS_PUBSUB : a_PROGRESS ≠ a_PUBSUB) :
    MetFree l x (head1 (Jvm.Cond.code x code maxLocals ret :: ws) room_1) (fun a U => a = #[(.int x0), (.int x1), (.int x2)] ∧ Z.Warmed39 U.vm ∧ U.heap = h0) (fun _ _ _ _ _ => True) (fun _ U o U' => ∃ v L, o = .returned v ∧ Q0 Z x0 x1 x2 a_SEND a_SUBMIT a_REQUEST a_INVOKE a_PROGRESS a_PUBSUB h0 n0 v U'.heap L ∧ FrameEnd U o U' L 0 0) := by
  refine MetFree.of_bodySF (plainFor_of_name pn_com_example_halyard_halyard_mal_InteractionTypeIsSentToProviderPinLaw) hisR ?_
  intro p e s m args below meth c s₁ Bd hml0 hP hK
  obtain ⟨rfl, hZ, hh⟩ := hP
  have hx := Bd.exec
  have hby := Bd.bytes
  have hml : c.maxLocals = 8 := hml0
  have hown : s.vm.findClass "com/example/halyard/halyard/mal/InteractionTypeIsSentToProviderPinLaw" = some m.cls := findClass_of_methodNamed Bd.named
  have hnm := (name_of_methodNamed Bd.named Bd.method).1
  have hlk : meth.locks = false := BodyLoose.notSynchronized Bd
  have X0 : Stand p l e room_1 s m #[(.int x0), (.int x1), (.int x2)] below meth c s₁ [] 0 0 := Stand.of_body Bd
  have e0 : s₁.heap = h0 := by rw [← hh, Bd.state]; rfl
  have N0 := Fr.nil n0
  show own_E p e below s (Q0 Z x0 x1 x2 a_SEND a_SUBMIT a_REQUEST a_INVOKE a_PROGRESS a_PUBSUB h0 n0) 0 0 (s₁.setTop (entryFrame m #[(.int x0), (.int x1), (.int x2)] maxLocals))
  refine own_pre (B := s₁.setTop (mkF m 0 #[.val (.int x0), .val (.int x1), .val (.int x2), .unset, .unset, .unset, .unset, .unset] [])) ?_ (fun t k => castTop (ef_0 m x0 x1 x2) k)
  refine own_pre (B := s₁.setTop (mkF m 1 #[.val (.int x0), .val (.int x1), .val (.int x2), .unset, .unset, .unset, .unset, .unset] [(.int x0)])) ?_ fun t k => XS.iloadN X0.here hx rfl (hb hby at_0) rfl  k
  obtain ⟨_, _, ⟨T1, L1, k1, n1⟩, -, X1, ⟨Lc1, hQ1, l1, y1, z1⟩, st1⟩ := Jvm.LawKit.callS X0 hx (y := (⟨"com/example/halyard/halyard/mal/InteractionTypeIsSentToProviderPinLaw", "pick", "(I)Lcom/example/halyard/halyard/mal/InteractionType;"⟩ : MethodName)) hown (mvT hZ (hw _ (List.mem_of_getElem? (i := 0) rfl))) (mvT hZ (hw _ (List.mem_of_getElem? (i := 1) rfl))) (mvT hZ (hw _ (List.mem_of_getElem? (i := 2) rfl))) (mvT hZ (hw _ (List.mem_of_getElem? (i := 3) rfl))) (by decide) (backOf (W := 0) (rm1 l Z a0 hw [] x0 a_SEND a_SUBMIT a_REQUEST a_INVOKE a_PROGRESS a_PUBSUB h0 n0 Z0 S_SEND S_SUBMIT S_REQUEST S_INVOKE S_PROGRESS S_PUBSUB) hZ (hw _ (List.mem_of_getElem? (i := 3) rfl)) (hw _ (List.mem_of_getElem? (i := 2) rfl)) (by decide) (by decide)) (g := (mkF m 1 #[.val (.int x0), .val (.int x1), .val (.int x2), .unset, .unset, .unset, .unset, .unset] [(.int x0)])) rfl (by rw [hml]; rfl) (argsL := [(.int x0)]) (rest := []) (lenOf pd__I_Lcom_example_halyard_halyard_mal_InteractionType_ rfl) rfl (by show 2 * 0 + _ ≤ _; exact Nat.le_of_eq rfl) (hb hby at_1) (fun _ _ => ⟨rfl, e0, (by decide : 0 + 0 ≤ _), (by decide : 0 + 0 ≤ _)⟩)
  dsimp only [Pt.U, Pt.locs, Pt.cells, Pt.slots] at X1 l1 y1 z1 st1 hQ1
  subst l1 y1 z1
  obtain ⟨rfl, Nq1, e1⟩ := hQ1
  have N1 := Fr.app N0 Nq1
  obtain ⟨a_T, h_T⟩ : ∃ z, z = own_pick ((x0 &&& (2147483647 : Int32)) % (6 : Int32)) a_SEND a_SUBMIT a_REQUEST a_INVOKE a_PROGRESS a_PUBSUB := ⟨_, rfl⟩
  rw [← h_T] at st1
  have E_T : Exa Z h0 a_T "com/example/halyard/halyard/mal/InteractionType" := by rw [h_T]; unfold own_pick; (repeat' split) <;> assumption
  refine own_pre (B := T1.setTop (mkF m 4 #[.val (.int x0), .val (.int x1), .val (.int x2), .unset, .unset, .unset, .unset, .unset] [(.ref a_T)])) ?_ st1
  refine own_pre (B := T1.setTop (mkF m 5 #[.val (.int x0), .val (.int x1), .val (.int x2), .val (.ref a_T), .unset, .unset, .unset, .unset] [])) ?_ fun t k => XS.astoreN X1.here hx rfl (hb hby at_4) rfl rfl (l' := #[.val (.int x0), .val (.int x1), .val (.int x2), .val (.ref a_T), .unset, .unset, .unset, .unset]) rfl k
  refine own_pre (B := T1.setTop (mkF m 6 #[.val (.int x0), .val (.int x1), .val (.int x2), .val (.ref a_T), .unset, .unset, .unset, .unset] [(.int x2)])) ?_ fun t k => XS.iloadN X1.here hx rfl (hb hby at_5) rfl  k
  refine own_pre (B := T1.setTop (mkF m 7 #[.val (.int x0), .val (.int x1), .val (.int x2), .val (.ref a_T), .unset, .unset, .unset, .unset] [(.int (1 : Int32)), (.int x2)])) ?_ fun t k => XS.iconst X1.here hx rfl (hb hby at_6) k
  refine own_pre (B := T1.setTop (mkF m 8 #[.val (.int x0), .val (.int x1), .val (.int x2), .val (.ref a_T), .unset, .unset, .unset, .unset] [(.int (x2 &&& (1 : Int32)))])) ?_ fun t k => XS.iand X1.here hx rfl (hb hby at_7) rfl k
  have Jj3 : ∀ (T4 : State) (l4 : List Loc) (X4 : Stand p l e room_1 s m #[(.int x0), (.int x1), (.int x2)] below meth c T4 l4 0 0) (N4 : Fr n0 l4) (e4 : T4.heap = h0) (j3_s0 : Int32) (hvj3_s0 : j3_s0 = (if (x2 &&& (1 : Int32)) = (0 : Int32) then (0 : Int32) else (1 : Int32))), own_E p e below s (Q0 Z x0 x1 x2 a_SEND a_SUBMIT a_REQUEST a_INVOKE a_PROGRESS a_PUBSUB h0 n0) 0 0 (T4.setTop (mkF m 16 #[.val (.int x0), .val (.int x1), .val (.int x2), .val (.ref a_T), .unset, .unset, .unset, .unset] [(.int j3_s0)])) := by
    intro T4 l4 X4 N4 e4 j3_s0 hvj3_s0
    refine own_pre (B := T4.setTop (mkF m 18 #[.val (.int x0), .val (.int x1), .val (.int x2), .val (.ref a_T), .val (.int j3_s0), .unset, .unset, .unset] [])) ?_ fun t k => XS.istore X4.here hx rfl (hb hby at_16) rfl  (l' := #[.val (.int x0), .val (.int x1), .val (.int x2), .val (.ref a_T), .val (.int j3_s0), .unset, .unset, .unset]) rfl k
    refine own_pre (B := T4.setTop (mkF m 20 #[.val (.int x0), .val (.int x1), .val (.int x2), .val (.ref a_T), .val (.int j3_s0), .unset, .unset, .unset] [(.int j3_s0)])) ?_ fun t k => XS.iload X4.here hx rfl (hb hby at_18) rfl  k
    have Jj6 : ∀ (T7 : State) (l7 : List Loc) (X7 : Stand p l e room_1 s m #[(.int x0), (.int x1), (.int x2)] below meth c T7 l7 0 0) (N7 : Fr n0 l7) (e7 : T7.heap = h0) (j6_s0 : Int32) (hvj6_s0 : j6_s0 = (if j3_s0 = (0 : Int32) then ((x1 &&& (15 : Int32)) - (2 : Int32)) else x1)), own_E p e below s (Q0 Z x0 x1 x2 a_SEND a_SUBMIT a_REQUEST a_INVOKE a_PROGRESS a_PUBSUB h0 n0) 0 0 (T7.setTop (mkF m 33 #[.val (.int x0), .val (.int x1), .val (.int x2), .val (.ref a_T), .val (.int j3_s0), .unset, .unset, .unset] [(.int j6_s0)])) := by
      intro T7 l7 X7 N7 e7 j6_s0 hvj6_s0
      refine own_pre (B := T7.setTop (mkF m 35 #[.val (.int x0), .val (.int x1), .val (.int x2), .val (.ref a_T), .val (.int j3_s0), .val (.int j6_s0), .unset, .unset] [])) ?_ fun t k => XS.istore X7.here hx rfl (hb hby at_33) rfl  (l' := #[.val (.int x0), .val (.int x1), .val (.int x2), .val (.ref a_T), .val (.int j3_s0), .val (.int j6_s0), .unset, .unset]) rfl k
      refine own_pre (B := T7.setTop (mkF m 36 #[.val (.int x0), .val (.int x1), .val (.int x2), .val (.ref a_T), .val (.int j3_s0), .val (.int j6_s0), .unset, .unset] [(.int x0)])) ?_ fun t k => XS.iloadN X7.here hx rfl (hb hby at_35) rfl  k
      refine own_pre (B := T7.setTop (mkF m 38 #[.val (.int x0), .val (.int x1), .val (.int x2), .val (.ref a_T), .val (.int j3_s0), .val (.int j6_s0), .unset, .unset] [(.int (2147483647 : Int32)), (.int x0)])) ?_ (X7.ldcInt hx hown (mvT hZ (hw _ (List.mem_of_getElem? (i := 4) rfl))) (g := (mkF m 36 #[.val (.int x0), .val (.int x1), .val (.int x2), .val (.ref a_T), .val (.int j3_s0), .val (.int j6_s0), .unset, .unset] [(.int x0)])) rfl (hb hby at_36))
      refine own_pre (B := T7.setTop (mkF m 39 #[.val (.int x0), .val (.int x1), .val (.int x2), .val (.ref a_T), .val (.int j3_s0), .val (.int j6_s0), .unset, .unset] [(.int (x0 &&& (2147483647 : Int32)))])) ?_ fun t k => XS.iand X7.here hx rfl (hb hby at_38) rfl k
      refine own_pre (B := T7.setTop (mkF m 41 #[.val (.int x0), .val (.int x1), .val (.int x2), .val (.ref a_T), .val (.int j3_s0), .val (.int j6_s0), .unset, .unset] [(.int (6 : Int32)), (.int (x0 &&& (2147483647 : Int32)))])) ?_ fun t k => XS.bipush X7.here hx rfl (hb hby at_39) k
      refine own_pre (B := T7.setTop (mkF m 42 #[.val (.int x0), .val (.int x1), .val (.int x2), .val (.ref a_T), .val (.int j3_s0), .val (.int j6_s0), .unset, .unset] [(.int ((x0 &&& (2147483647 : Int32)) % (6 : Int32)))])) ?_ fun t k => iremM X7 hx rfl (hb hby at_41) rfl (by decide) k
      refine own_pre (B := T7.setTop (mkF m 43 #[.val (.int x0), .val (.int x1), .val (.int x2), .val (.ref a_T), .val (.int j3_s0), .val (.int j6_s0), .unset, .unset] [(.int (5 : Int32)), (.int ((x0 &&& (2147483647 : Int32)) % (6 : Int32)))])) ?_ fun t k => XS.iconst X7.here hx rfl (hb hby at_42) k
      have Jj9 : ∀ (T10 : State) (l10 : List Loc) (X10 : Stand p l e room_1 s m #[(.int x0), (.int x1), (.int x2)] below meth c T10 l10 0 0) (N10 : Fr n0 l10) (e10 : T10.heap = h0) (j9_s0 : Int32) (hvj9_s0 : j9_s0 = (if ((x0 &&& (2147483647 : Int32)) % (6 : Int32)) = (5 : Int32) then (1 : Int32) else (0 : Int32))), own_E p e below s (Q0 Z x0 x1 x2 a_SEND a_SUBMIT a_REQUEST a_INVOKE a_PROGRESS a_PUBSUB h0 n0) 0 0 (T10.setTop (mkF m 51 #[.val (.int x0), .val (.int x1), .val (.int x2), .val (.ref a_T), .val (.int j3_s0), .val (.int j6_s0), .unset, .unset] [(.int j9_s0)])) := by
        intro T10 l10 X10 N10 e10 j9_s0 hvj9_s0
        refine own_pre (B := T10.setTop (mkF m 53 #[.val (.int x0), .val (.int x1), .val (.int x2), .val (.ref a_T), .val (.int j3_s0), .val (.int j6_s0), .val (.int j9_s0), .unset] [])) ?_ fun t k => XS.istore X10.here hx rfl (hb hby at_51) rfl  (l' := #[.val (.int x0), .val (.int x1), .val (.int x2), .val (.ref a_T), .val (.int j3_s0), .val (.int j6_s0), .val (.int j9_s0), .unset]) rfl k
        refine own_pre (B := T10.setTop (mkF m 55 #[.val (.int x0), .val (.int x1), .val (.int x2), .val (.ref a_T), .val (.int j3_s0), .val (.int j6_s0), .val (.int j9_s0), .unset] [(.int j9_s0)])) ?_ fun t k => XS.iload X10.here hx rfl (hb hby at_53) rfl  k
        have Jj12 : ∀ (T13 : State) (l13 : List Loc) (X13 : Stand p l e room_1 s m #[(.int x0), (.int x1), (.int x2)] below meth c T13 l13 0 0) (N13 : Fr n0 l13) (e13 : T13.heap = h0) (j12_l7 : Int32) (hvj12_l7 : j12_l7 = (if j9_s0 = (0 : Int32) then (if j6_s0 = (1 : Int32) then (1 : Int32) else (0 : Int32)) else (if j6_s0 < (1 : Int32) then (0 : Int32) else (if (9 : Int32) < j6_s0 then (0 : Int32) else (if (j6_s0 &&& (1 : Int32)) = (1 : Int32) then (1 : Int32) else (0 : Int32)))))), own_E p e below s (Q0 Z x0 x1 x2 a_SEND a_SUBMIT a_REQUEST a_INVOKE a_PROGRESS a_PUBSUB h0 n0) 0 0 (T13.setTop (mkF m 102 #[.val (.int x0), .val (.int x1), .val (.int x2), .val (.ref a_T), .val (.int j3_s0), .val (.int j6_s0), .val (.int j9_s0), .val (.int j12_l7)] [])) := by
          intro T13 l13 X13 N13 e13 j12_l7 hvj12_l7
          refine own_pre (B := T13.setTop (mkF m 103 #[.val (.int x0), .val (.int x1), .val (.int x2), .val (.ref a_T), .val (.int j3_s0), .val (.int j6_s0), .val (.int j9_s0), .val (.int j12_l7)] [(.ref a_T)])) ?_ fun t k => XS.aloadN X13.here hx rfl (hb hby at_102) rfl rfl k
          refine own_pre (B := T13.setTop (mkF m 105 #[.val (.int x0), .val (.int x1), .val (.int x2), .val (.ref a_T), .val (.int j3_s0), .val (.int j6_s0), .val (.int j9_s0), .val (.int j12_l7)] [(.int j6_s0), (.ref a_T)])) ?_ fun t k => XS.iload X13.here hx rfl (hb hby at_103) rfl  k
          obtain ⟨cq14, kq14, q14a, q14b, q14c⟩ := isOf hZ e13 E_T
          obtain ⟨_, _, ⟨T14, L14, k14, n14⟩, -, X14, ⟨Lc14, hQ14, l14, y14, z14⟩, st14⟩ := X13.virtualBack hx (y := (⟨"com/example/halyard/halyard/mal/InteractionType", "isSentToProvider", "(I)Z"⟩ : MethodName)) (z := (⟨"com/example/halyard/halyard/mal/InteractionType", "isSentToProvider", "(I)Z"⟩ : MethodName)) hown (mvT hZ (hw _ (List.mem_of_getElem? (i := 8) rfl))) (mvT hZ (hw _ (List.mem_of_getElem? (i := 9) rfl))) (notFace_of_selects (args := #[]) (mvT hZ (hw _ (List.mem_of_getElem? (i := 11) rfl)))) (mvT hZ (hw _ (List.mem_of_getElem? (i := 11) rfl))) (mvT hZ (hw _ (List.mem_of_getElem? (i := 10) rfl))) (by decide) (backOf (W := 0) (rm2 l Z a0 hw [] a_T j6_s0 a_PUBSUB h0 n0 Z0 S_PUBSUB) hZ (hw _ (List.mem_of_getElem? (i := 12) rfl)) (hw _ (List.mem_of_getElem? (i := 6) rfl)) (by decide) (by decide)) q14a q14c (g := (mkF m 105 #[.val (.int x0), .val (.int x1), .val (.int x2), .val (.ref a_T), .val (.int j3_s0), .val (.int j6_s0), .val (.int j9_s0), .val (.int j12_l7)] [(.int j6_s0), (.ref a_T)])) rfl (by rw [hml]; rfl) (Steps.refl _) (argsL := [(.int j6_s0)]) (rest := []) (lenOf pd__I_Z rfl) rfl (by show 2 * 0 + _ ≤ _; exact Nat.le_of_eq rfl) (hb hby at_105) (fun _ _ => ⟨rfl, e13, (by decide : 0 + 0 ≤ _), (by decide : 0 + 0 ≤ _)⟩)
          dsimp only [Pt.U, Pt.locs, Pt.cells, Pt.slots] at X14 l14 y14 z14 st14 hQ14
          subst l14 y14 z14
          obtain ⟨rfl, Nq14, e14⟩ := hQ14
          have N14 := Fr.app N13 Nq14
          refine own_pre (B := T14.setTop (mkF m 108 #[.val (.int x0), .val (.int x1), .val (.int x2), .val (.ref a_T), .val (.int j3_s0), .val (.int j6_s0), .val (.int j9_s0), .val (.int j12_l7)] [(.int (own_sent a_T a_PUBSUB j6_s0))])) ?_ (fun t k => st14.trans k)
          refine own_pre (B := T14.setTop (mkF m 110 #[.val (.int x0), .val (.int x1), .val (.int x2), .val (.ref a_T), .val (.int j3_s0), .val (.int j6_s0), .val (.int j9_s0), .val (.int j12_l7)] [(.int j12_l7), (.int (own_sent a_T a_PUBSUB j6_s0))])) ?_ fun t k => XS.iload X14.here hx rfl (hb hby at_108) rfl  k
          refine own_pre (B := T14.setTop (mkF m 113 #[.val (.int x0), .val (.int x1), .val (.int x2), .val (.ref a_T), .val (.int j3_s0), .val (.int j6_s0), .val (.int j9_s0), .val (.int j12_l7)] [])) ?_ fun t k => XS.icmpNo X14.here hx rfl (hb hby at_110) rfl (teq (own_fin x0 x1 x2 a_SEND a_SUBMIT a_REQUEST a_INVOKE a_PROGRESS a_PUBSUB ne_SEND_PUBSUB ne_SUBMIT_PUBSUB ne_REQUEST_PUBSUB ne_INVOKE_PUBSUB ne_PROGRESS_PUBSUB a_T h_T j3_s0 hvj3_s0 j6_s0 hvj6_s0 j9_s0 hvj9_s0 j12_l7 hvj12_l7)).2 k
          refine own_pre (B := T14.setTop (mkF m 114 #[.val (.int x0), .val (.int x1), .val (.int x2), .val (.ref a_T), .val (.int j3_s0), .val (.int j6_s0), .val (.int j9_s0), .val (.int j12_l7)] [(.int (1 : Int32))])) ?_ fun t k => XS.iconst X14.here hx rfl (hb hby at_113) k
          refine own_pre (B := T14.setTop (mkF m 118 #[.val (.int x0), .val (.int x1), .val (.int x2), .val (.ref a_T), .val (.int j3_s0), .val (.int j6_s0), .val (.int j9_s0), .val (.int j12_l7)] [(.int (1 : Int32))])) ?_ fun t k => XS.goto X14.here hx rfl (pc0 := 114) (pc' := 118) rfl (hb hby at_114) (by decide) (by decide) k
          refine own_retN X14 hx hlk (t := .boolean) (z' := (1 : Int32)) Bd.returns (by simp) (hb hby at_118) (by decide) ?_ (by decide) (by decide)
          rw [e14]
          exact ⟨rfl, N14⟩
        by_cases h55_11 : j9_s0 = (0 : Int32)
        · skip
          refine own_pre (B := T10.setTop (mkF m 89 #[.val (.int x0), .val (.int x1), .val (.int x2), .val (.ref a_T), .val (.int j3_s0), .val (.int j6_s0), .val (.int j9_s0), .unset] [])) ?_ fun t k => XS.ifYes X10.here hx rfl (pc0 := 55) (pc' := 89) rfl (hb hby at_55) rfl ((if0 _ _).trans (teq h55_11).1) (by decide) (by decide) k
          refine own_pre (B := T10.setTop (mkF m 91 #[.val (.int x0), .val (.int x1), .val (.int x2), .val (.ref a_T), .val (.int j3_s0), .val (.int j6_s0), .val (.int j9_s0), .unset] [(.int j6_s0)])) ?_ fun t k => XS.iload X10.here hx rfl (hb hby at_89) rfl  k
          refine own_pre (B := T10.setTop (mkF m 92 #[.val (.int x0), .val (.int x1), .val (.int x2), .val (.ref a_T), .val (.int j3_s0), .val (.int j6_s0), .val (.int j9_s0), .unset] [(.int (1 : Int32)), (.int j6_s0)])) ?_ fun t k => XS.iconst X10.here hx rfl (hb hby at_91) k
          by_cases h92_15 : j6_s0 = (1 : Int32)
          · skip
            refine own_pre (B := T10.setTop (mkF m 95 #[.val (.int x0), .val (.int x1), .val (.int x2), .val (.ref a_T), .val (.int j3_s0), .val (.int j6_s0), .val (.int j9_s0), .unset] [])) ?_ fun t k => XS.icmpNo X10.here hx rfl (hb hby at_92) rfl (teq h92_15).2 k
            refine own_pre (B := T10.setTop (mkF m 96 #[.val (.int x0), .val (.int x1), .val (.int x2), .val (.ref a_T), .val (.int j3_s0), .val (.int j6_s0), .val (.int j9_s0), .unset] [(.int (1 : Int32))])) ?_ fun t k => XS.iconst X10.here hx rfl (hb hby at_95) k
            refine own_pre (B := T10.setTop (mkF m 100 #[.val (.int x0), .val (.int x1), .val (.int x2), .val (.ref a_T), .val (.int j3_s0), .val (.int j6_s0), .val (.int j9_s0), .unset] [(.int (1 : Int32))])) ?_ fun t k => XS.goto X10.here hx rfl (pc0 := 96) (pc' := 100) rfl (hb hby at_96) (by decide) (by decide) k
            refine own_pre (B := T10.setTop (mkF m 102 #[.val (.int x0), .val (.int x1), .val (.int x2), .val (.ref a_T), .val (.int j3_s0), .val (.int j6_s0), .val (.int j9_s0), .val (.int (1 : Int32))] [])) ?_ fun t k => XS.istore X10.here hx rfl (hb hby at_100) rfl  (l' := #[.val (.int x0), .val (.int x1), .val (.int x2), .val (.ref a_T), .val (.int j3_s0), .val (.int j6_s0), .val (.int j9_s0), .val (.int (1 : Int32))]) rfl k
            exact Jj12 T10 _ X10 N10 e10 ((1 : Int32)) ((if_pos h55_11).trans (if_pos h92_15)).symm
          · skip
            refine own_pre (B := T10.setTop (mkF m 99 #[.val (.int x0), .val (.int x1), .val (.int x2), .val (.ref a_T), .val (.int j3_s0), .val (.int j6_s0), .val (.int j9_s0), .unset] [])) ?_ fun t k => XS.icmpYes X10.here hx rfl (pc0 := 92) (pc' := 99) rfl (hb hby at_92) rfl (feq h92_15).2 (by decide) (by decide) k
            refine own_pre (B := T10.setTop (mkF m 100 #[.val (.int x0), .val (.int x1), .val (.int x2), .val (.ref a_T), .val (.int j3_s0), .val (.int j6_s0), .val (.int j9_s0), .unset] [(.int (0 : Int32))])) ?_ fun t k => XS.iconst X10.here hx rfl (hb hby at_99) k
            refine own_pre (B := T10.setTop (mkF m 102 #[.val (.int x0), .val (.int x1), .val (.int x2), .val (.ref a_T), .val (.int j3_s0), .val (.int j6_s0), .val (.int j9_s0), .val (.int (0 : Int32))] [])) ?_ fun t k => XS.istore X10.here hx rfl (hb hby at_100) rfl  (l' := #[.val (.int x0), .val (.int x1), .val (.int x2), .val (.ref a_T), .val (.int j3_s0), .val (.int j6_s0), .val (.int j9_s0), .val (.int (0 : Int32))]) rfl k
            exact Jj12 T10 _ X10 N10 e10 ((0 : Int32)) ((if_pos h55_11).trans (if_neg h92_15)).symm
        · skip
          refine own_pre (B := T10.setTop (mkF m 58 #[.val (.int x0), .val (.int x1), .val (.int x2), .val (.ref a_T), .val (.int j3_s0), .val (.int j6_s0), .val (.int j9_s0), .unset] [])) ?_ fun t k => XS.ifNo X10.here hx rfl (hb hby at_55) rfl ((if0 _ _).trans (feq h55_11).1) k
          refine own_pre (B := T10.setTop (mkF m 60 #[.val (.int x0), .val (.int x1), .val (.int x2), .val (.ref a_T), .val (.int j3_s0), .val (.int j6_s0), .val (.int j9_s0), .unset] [(.int j6_s0)])) ?_ fun t k => XS.iload X10.here hx rfl (hb hby at_58) rfl  k
          refine own_pre (B := T10.setTop (mkF m 61 #[.val (.int x0), .val (.int x1), .val (.int x2), .val (.ref a_T), .val (.int j3_s0), .val (.int j6_s0), .val (.int j9_s0), .unset] [(.int (1 : Int32)), (.int j6_s0)])) ?_ fun t k => XS.iconst X10.here hx rfl (hb hby at_60) k
          by_cases h61_16 : j6_s0 < (1 : Int32)
          · skip
            refine own_pre (B := T10.setTop (mkF m 83 #[.val (.int x0), .val (.int x1), .val (.int x2), .val (.ref a_T), .val (.int j3_s0), .val (.int j6_s0), .val (.int j9_s0), .unset] [])) ?_ fun t k => XS.icmpYes X10.here hx rfl (pc0 := 61) (pc' := 83) rfl (hb hby at_61) rfl (tlt h61_16).1 (by decide) (by decide) k
            refine own_pre (B := T10.setTop (mkF m 84 #[.val (.int x0), .val (.int x1), .val (.int x2), .val (.ref a_T), .val (.int j3_s0), .val (.int j6_s0), .val (.int j9_s0), .unset] [(.int (0 : Int32))])) ?_ fun t k => XS.iconst X10.here hx rfl (hb hby at_83) k
            refine own_pre (B := T10.setTop (mkF m 86 #[.val (.int x0), .val (.int x1), .val (.int x2), .val (.ref a_T), .val (.int j3_s0), .val (.int j6_s0), .val (.int j9_s0), .val (.int (0 : Int32))] [])) ?_ fun t k => XS.istore X10.here hx rfl (hb hby at_84) rfl  (l' := #[.val (.int x0), .val (.int x1), .val (.int x2), .val (.ref a_T), .val (.int j3_s0), .val (.int j6_s0), .val (.int j9_s0), .val (.int (0 : Int32))]) rfl k
            refine own_pre (B := T10.setTop (mkF m 102 #[.val (.int x0), .val (.int x1), .val (.int x2), .val (.ref a_T), .val (.int j3_s0), .val (.int j6_s0), .val (.int j9_s0), .val (.int (0 : Int32))] [])) ?_ fun t k => XS.goto X10.here hx rfl (pc0 := 86) (pc' := 102) rfl (hb hby at_86) (by decide) (by decide) k
            exact Jj12 T10 _ X10 N10 e10 ((0 : Int32)) ((if_neg h55_11).trans (if_pos h61_16)).symm
          · skip
            refine own_pre (B := T10.setTop (mkF m 64 #[.val (.int x0), .val (.int x1), .val (.int x2), .val (.ref a_T), .val (.int j3_s0), .val (.int j6_s0), .val (.int j9_s0), .unset] [])) ?_ fun t k => XS.icmpNo X10.here hx rfl (hb hby at_61) rfl (flt h61_16).1 k
            refine own_pre (B := T10.setTop (mkF m 66 #[.val (.int x0), .val (.int x1), .val (.int x2), .val (.ref a_T), .val (.int j3_s0), .val (.int j6_s0), .val (.int j9_s0), .unset] [(.int j6_s0)])) ?_ fun t k => XS.iload X10.here hx rfl (hb hby at_64) rfl  k
            refine own_pre (B := T10.setTop (mkF m 68 #[.val (.int x0), .val (.int x1), .val (.int x2), .val (.ref a_T), .val (.int j3_s0), .val (.int j6_s0), .val (.int j9_s0), .unset] [(.int (9 : Int32)), (.int j6_s0)])) ?_ fun t k => XS.bipush X10.here hx rfl (hb hby at_66) k
            by_cases h68_17 : (9 : Int32) < j6_s0
            · skip
              refine own_pre (B := T10.setTop (mkF m 83 #[.val (.int x0), .val (.int x1), .val (.int x2), .val (.ref a_T), .val (.int j3_s0), .val (.int j6_s0), .val (.int j9_s0), .unset] [])) ?_ fun t k => XS.icmpYes X10.here hx rfl (pc0 := 68) (pc' := 83) rfl (hb hby at_68) rfl (tlt h68_17).2.2.1 (by decide) (by decide) k
              refine own_pre (B := T10.setTop (mkF m 84 #[.val (.int x0), .val (.int x1), .val (.int x2), .val (.ref a_T), .val (.int j3_s0), .val (.int j6_s0), .val (.int j9_s0), .unset] [(.int (0 : Int32))])) ?_ fun t k => XS.iconst X10.here hx rfl (hb hby at_83) k
              refine own_pre (B := T10.setTop (mkF m 86 #[.val (.int x0), .val (.int x1), .val (.int x2), .val (.ref a_T), .val (.int j3_s0), .val (.int j6_s0), .val (.int j9_s0), .val (.int (0 : Int32))] [])) ?_ fun t k => XS.istore X10.here hx rfl (hb hby at_84) rfl  (l' := #[.val (.int x0), .val (.int x1), .val (.int x2), .val (.ref a_T), .val (.int j3_s0), .val (.int j6_s0), .val (.int j9_s0), .val (.int (0 : Int32))]) rfl k
              refine own_pre (B := T10.setTop (mkF m 102 #[.val (.int x0), .val (.int x1), .val (.int x2), .val (.ref a_T), .val (.int j3_s0), .val (.int j6_s0), .val (.int j9_s0), .val (.int (0 : Int32))] [])) ?_ fun t k => XS.goto X10.here hx rfl (pc0 := 86) (pc' := 102) rfl (hb hby at_86) (by decide) (by decide) k
              exact Jj12 T10 _ X10 N10 e10 ((0 : Int32)) (((if_neg h55_11).trans (if_neg h61_16)).trans (if_pos h68_17)).symm
            · skip
              refine own_pre (B := T10.setTop (mkF m 71 #[.val (.int x0), .val (.int x1), .val (.int x2), .val (.ref a_T), .val (.int j3_s0), .val (.int j6_s0), .val (.int j9_s0), .unset] [])) ?_ fun t k => XS.icmpNo X10.here hx rfl (hb hby at_68) rfl (flt h68_17).2.2.1 k
              refine own_pre (B := T10.setTop (mkF m 73 #[.val (.int x0), .val (.int x1), .val (.int x2), .val (.ref a_T), .val (.int j3_s0), .val (.int j6_s0), .val (.int j9_s0), .unset] [(.int j6_s0)])) ?_ fun t k => XS.iload X10.here hx rfl (hb hby at_71) rfl  k
              refine own_pre (B := T10.setTop (mkF m 74 #[.val (.int x0), .val (.int x1), .val (.int x2), .val (.ref a_T), .val (.int j3_s0), .val (.int j6_s0), .val (.int j9_s0), .unset] [(.int (1 : Int32)), (.int j6_s0)])) ?_ fun t k => XS.iconst X10.here hx rfl (hb hby at_73) k
              refine own_pre (B := T10.setTop (mkF m 75 #[.val (.int x0), .val (.int x1), .val (.int x2), .val (.ref a_T), .val (.int j3_s0), .val (.int j6_s0), .val (.int j9_s0), .unset] [(.int (j6_s0 &&& (1 : Int32)))])) ?_ fun t k => XS.iand X10.here hx rfl (hb hby at_74) rfl k
              refine own_pre (B := T10.setTop (mkF m 76 #[.val (.int x0), .val (.int x1), .val (.int x2), .val (.ref a_T), .val (.int j3_s0), .val (.int j6_s0), .val (.int j9_s0), .unset] [(.int (1 : Int32)), (.int (j6_s0 &&& (1 : Int32)))])) ?_ fun t k => XS.iconst X10.here hx rfl (hb hby at_75) k
              by_cases h76_18 : (j6_s0 &&& (1 : Int32)) = (1 : Int32)
              · skip
                refine own_pre (B := T10.setTop (mkF m 79 #[.val (.int x0), .val (.int x1), .val (.int x2), .val (.ref a_T), .val (.int j3_s0), .val (.int j6_s0), .val (.int j9_s0), .unset] [])) ?_ fun t k => XS.icmpNo X10.here hx rfl (hb hby at_76) rfl (teq h76_18).2 k
                refine own_pre (B := T10.setTop (mkF m 80 #[.val (.int x0), .val (.int x1), .val (.int x2), .val (.ref a_T), .val (.int j3_s0), .val (.int j6_s0), .val (.int j9_s0), .unset] [(.int (1 : Int32))])) ?_ fun t k => XS.iconst X10.here hx rfl (hb hby at_79) k
                refine own_pre (B := T10.setTop (mkF m 84 #[.val (.int x0), .val (.int x1), .val (.int x2), .val (.ref a_T), .val (.int j3_s0), .val (.int j6_s0), .val (.int j9_s0), .unset] [(.int (1 : Int32))])) ?_ fun t k => XS.goto X10.here hx rfl (pc0 := 80) (pc' := 84) rfl (hb hby at_80) (by decide) (by decide) k
                refine own_pre (B := T10.setTop (mkF m 86 #[.val (.int x0), .val (.int x1), .val (.int x2), .val (.ref a_T), .val (.int j3_s0), .val (.int j6_s0), .val (.int j9_s0), .val (.int (1 : Int32))] [])) ?_ fun t k => XS.istore X10.here hx rfl (hb hby at_84) rfl  (l' := #[.val (.int x0), .val (.int x1), .val (.int x2), .val (.ref a_T), .val (.int j3_s0), .val (.int j6_s0), .val (.int j9_s0), .val (.int (1 : Int32))]) rfl k
                refine own_pre (B := T10.setTop (mkF m 102 #[.val (.int x0), .val (.int x1), .val (.int x2), .val (.ref a_T), .val (.int j3_s0), .val (.int j6_s0), .val (.int j9_s0), .val (.int (1 : Int32))] [])) ?_ fun t k => XS.goto X10.here hx rfl (pc0 := 86) (pc' := 102) rfl (hb hby at_86) (by decide) (by decide) k
                exact Jj12 T10 _ X10 N10 e10 ((1 : Int32)) ((((if_neg h55_11).trans (if_neg h61_16)).trans (if_neg h68_17)).trans (if_pos h76_18)).symm
              · skip
                refine own_pre (B := T10.setTop (mkF m 83 #[.val (.int x0), .val (.int x1), .val (.int x2), .val (.ref a_T), .val (.int j3_s0), .val (.int j6_s0), .val (.int j9_s0), .unset] [])) ?_ fun t k => XS.icmpYes X10.here hx rfl (pc0 := 76) (pc' := 83) rfl (hb hby at_76) rfl (feq h76_18).2 (by decide) (by decide) k
                refine own_pre (B := T10.setTop (mkF m 84 #[.val (.int x0), .val (.int x1), .val (.int x2), .val (.ref a_T), .val (.int j3_s0), .val (.int j6_s0), .val (.int j9_s0), .unset] [(.int (0 : Int32))])) ?_ fun t k => XS.iconst X10.here hx rfl (hb hby at_83) k
                refine own_pre (B := T10.setTop (mkF m 86 #[.val (.int x0), .val (.int x1), .val (.int x2), .val (.ref a_T), .val (.int j3_s0), .val (.int j6_s0), .val (.int j9_s0), .val (.int (0 : Int32))] [])) ?_ fun t k => XS.istore X10.here hx rfl (hb hby at_84) rfl  (l' := #[.val (.int x0), .val (.int x1), .val (.int x2), .val (.ref a_T), .val (.int j3_s0), .val (.int j6_s0), .val (.int j9_s0), .val (.int (0 : Int32))]) rfl k
                refine own_pre (B := T10.setTop (mkF m 102 #[.val (.int x0), .val (.int x1), .val (.int x2), .val (.ref a_T), .val (.int j3_s0), .val (.int j6_s0), .val (.int j9_s0), .val (.int (0 : Int32))] [])) ?_ fun t k => XS.goto X10.here hx rfl (pc0 := 86) (pc' := 102) rfl (hb hby at_86) (by decide) (by decide) k
                exact Jj12 T10 _ X10 N10 e10 ((0 : Int32)) ((((if_neg h55_11).trans (if_neg h61_16)).trans (if_neg h68_17)).trans (if_neg h76_18)).symm
      by_cases h43_8 : ((x0 &&& (2147483647 : Int32)) % (6 : Int32)) = (5 : Int32)
      · skip
        refine own_pre (B := T7.setTop (mkF m 46 #[.val (.int x0), .val (.int x1), .val (.int x2), .val (.ref a_T), .val (.int j3_s0), .val (.int j6_s0), .unset, .unset] [])) ?_ fun t k => XS.icmpNo X7.here hx rfl (hb hby at_43) rfl (teq h43_8).2 k
        refine own_pre (B := T7.setTop (mkF m 47 #[.val (.int x0), .val (.int x1), .val (.int x2), .val (.ref a_T), .val (.int j3_s0), .val (.int j6_s0), .unset, .unset] [(.int (1 : Int32))])) ?_ fun t k => XS.iconst X7.here hx rfl (hb hby at_46) k
        refine own_pre (B := T7.setTop (mkF m 51 #[.val (.int x0), .val (.int x1), .val (.int x2), .val (.ref a_T), .val (.int j3_s0), .val (.int j6_s0), .unset, .unset] [(.int (1 : Int32))])) ?_ fun t k => XS.goto X7.here hx rfl (pc0 := 47) (pc' := 51) rfl (hb hby at_47) (by decide) (by decide) k
        exact Jj9 T7 _ X7 N7 e7 ((1 : Int32)) (if_pos h43_8).symm
      · skip
        refine own_pre (B := T7.setTop (mkF m 50 #[.val (.int x0), .val (.int x1), .val (.int x2), .val (.ref a_T), .val (.int j3_s0), .val (.int j6_s0), .unset, .unset] [])) ?_ fun t k => XS.icmpYes X7.here hx rfl (pc0 := 43) (pc' := 50) rfl (hb hby at_43) rfl (feq h43_8).2 (by decide) (by decide) k
        refine own_pre (B := T7.setTop (mkF m 51 #[.val (.int x0), .val (.int x1), .val (.int x2), .val (.ref a_T), .val (.int j3_s0), .val (.int j6_s0), .unset, .unset] [(.int (0 : Int32))])) ?_ fun t k => XS.iconst X7.here hx rfl (hb hby at_50) k
        exact Jj9 T7 _ X7 N7 e7 ((0 : Int32)) (if_neg h43_8).symm
    by_cases h20_5 : j3_s0 = (0 : Int32)
    · skip
      refine own_pre (B := T4.setTop (mkF m 27 #[.val (.int x0), .val (.int x1), .val (.int x2), .val (.ref a_T), .val (.int j3_s0), .unset, .unset, .unset] [])) ?_ fun t k => XS.ifYes X4.here hx rfl (pc0 := 20) (pc' := 27) rfl (hb hby at_20) rfl ((if0 _ _).trans (teq h20_5).1) (by decide) (by decide) k
      refine own_pre (B := T4.setTop (mkF m 28 #[.val (.int x0), .val (.int x1), .val (.int x2), .val (.ref a_T), .val (.int j3_s0), .unset, .unset, .unset] [(.int x1)])) ?_ fun t k => XS.iloadN X4.here hx rfl (hb hby at_27) rfl  k
      refine own_pre (B := T4.setTop (mkF m 30 #[.val (.int x0), .val (.int x1), .val (.int x2), .val (.ref a_T), .val (.int j3_s0), .unset, .unset, .unset] [(.int (15 : Int32)), (.int x1)])) ?_ fun t k => XS.bipush X4.here hx rfl (hb hby at_28) k
      refine own_pre (B := T4.setTop (mkF m 31 #[.val (.int x0), .val (.int x1), .val (.int x2), .val (.ref a_T), .val (.int j3_s0), .unset, .unset, .unset] [(.int (x1 &&& (15 : Int32)))])) ?_ fun t k => XS.iand X4.here hx rfl (hb hby at_30) rfl k
      refine own_pre (B := T4.setTop (mkF m 32 #[.val (.int x0), .val (.int x1), .val (.int x2), .val (.ref a_T), .val (.int j3_s0), .unset, .unset, .unset] [(.int (2 : Int32)), (.int (x1 &&& (15 : Int32)))])) ?_ fun t k => XS.iconst X4.here hx rfl (hb hby at_31) k
      refine own_pre (B := T4.setTop (mkF m 33 #[.val (.int x0), .val (.int x1), .val (.int x2), .val (.ref a_T), .val (.int j3_s0), .unset, .unset, .unset] [(.int ((x1 &&& (15 : Int32)) - (2 : Int32)))])) ?_ fun t k => XS.isub X4.here hx rfl (hb hby at_32) rfl k
      exact Jj6 T4 _ X4 N4 e4 (((x1 &&& (15 : Int32)) - (2 : Int32))) (if_pos h20_5).symm
    · skip
      refine own_pre (B := T4.setTop (mkF m 23 #[.val (.int x0), .val (.int x1), .val (.int x2), .val (.ref a_T), .val (.int j3_s0), .unset, .unset, .unset] [])) ?_ fun t k => XS.ifNo X4.here hx rfl (hb hby at_20) rfl ((if0 _ _).trans (feq h20_5).1) k
      refine own_pre (B := T4.setTop (mkF m 24 #[.val (.int x0), .val (.int x1), .val (.int x2), .val (.ref a_T), .val (.int j3_s0), .unset, .unset, .unset] [(.int x1)])) ?_ fun t k => XS.iloadN X4.here hx rfl (hb hby at_23) rfl  k
      refine own_pre (B := T4.setTop (mkF m 33 #[.val (.int x0), .val (.int x1), .val (.int x2), .val (.ref a_T), .val (.int j3_s0), .unset, .unset, .unset] [(.int x1)])) ?_ fun t k => XS.goto X4.here hx rfl (pc0 := 24) (pc' := 33) rfl (hb hby at_24) (by decide) (by decide) k
      exact Jj6 T4 _ X4 N4 e4 (x1) (if_neg h20_5).symm
  by_cases h8_2 : (x2 &&& (1 : Int32)) = (0 : Int32)
  · skip
    refine own_pre (B := T1.setTop (mkF m 15 #[.val (.int x0), .val (.int x1), .val (.int x2), .val (.ref a_T), .unset, .unset, .unset, .unset] [])) ?_ fun t k => XS.ifYes X1.here hx rfl (pc0 := 8) (pc' := 15) rfl (hb hby at_8) rfl ((if0 _ _).trans (teq h8_2).1) (by decide) (by decide) k
    refine own_pre (B := T1.setTop (mkF m 16 #[.val (.int x0), .val (.int x1), .val (.int x2), .val (.ref a_T), .unset, .unset, .unset, .unset] [(.int (0 : Int32))])) ?_ fun t k => XS.iconst X1.here hx rfl (hb hby at_15) k
    exact Jj3 T1 _ X1 N1 e1 ((0 : Int32)) (if_pos h8_2).symm
  · skip
    refine own_pre (B := T1.setTop (mkF m 11 #[.val (.int x0), .val (.int x1), .val (.int x2), .val (.ref a_T), .unset, .unset, .unset, .unset] [])) ?_ fun t k => XS.ifNo X1.here hx rfl (hb hby at_8) rfl ((if0 _ _).trans (feq h8_2).1) k
    refine own_pre (B := T1.setTop (mkF m 12 #[.val (.int x0), .val (.int x1), .val (.int x2), .val (.ref a_T), .unset, .unset, .unset, .unset] [(.int (1 : Int32))])) ?_ fun t k => XS.iconst X1.here hx rfl (hb hby at_11) k
    refine own_pre (B := T1.setTop (mkF m 16 #[.val (.int x0), .val (.int x1), .val (.int x2), .val (.ref a_T), .unset, .unset, .unset, .unset] [(.int (1 : Int32))])) ?_ fun t k => XS.goto X1.here hx rfl (pc0 := 12) (pc' := 16) rfl (hb hby at_12) (by decide) (by decide) k
    exact Jj3 T1 _ X1 N1 e1 ((1 : Int32)) (if_neg h8_2).symm
set_option maxRecDepth 65536 in
set_option maxHeartbeats 40000000 in
theorem comes_1 {Post : Tables → Env → Array Value → State → Outcome → State → Prop} (hpost : ∀ tb e args s v u, (limb_1_1.after args s (.returned v) u = true ∧ limb_1_2.after args s (.returned v) u = true ∧ True) → FrameEnd s (.returned v) u (Jvm.fieldLocs frame_1_writes args s ++ Jvm.arrayLocs frame_1_arrays args s ++ Jvm.staticLocs frame_1_statics s) 0 0 → Post tb e args s (.returned v) u) :
    ArmFor flags0 classFile x code maxLocals ret World_1 tables_1 room_1 Calls_1 rest_1 Pre_1 Post := by
  intro l hfl _ _ p e ha hc hk s m args below hf hA hF happ hP
  obtain ⟨hcalls, hrest, hpre⟩ := hP
  obtain ⟨-, -, -, hnamed, -, -, -, hat⟩ := (Spec.applies_iff hf).mp happ
  obtain ⟨hg, hn⟩ := and_e (Cond.before_iff.mp (show (Jvm.Cond.and given_1 narrow_1).before args s = true from hpre))
  obtain ⟨g1, g2⟩ := and_e hg
  obtain ⟨g3, g4⟩ := and_e g2
  obtain ⟨g5, g6⟩ := and_e g4
  obtain ⟨w0, w1, w2, rfl⟩ : ∃ w0 w1 w2 : Value, args = #[w0, w1, w2] := by
    have hs : args.size = 3 := by simpa [Cond.value, given_1] using g1
    obtain ⟨L⟩ := args
    match L, hs with
    | [w0, w1, w2], _ => exact ⟨w0, w1, w2, rfl⟩
  have hw := fun d (hd : d ∈ tables_1) => atoms_spec (ws := Jvm.Cond.code x code maxLocals ret :: tables_1) hat d (List.mem_cons_of_mem _ hd)
  have hfit : Fit s := fun {y c} hc i hi => by
    obtain ⟨ha, rfl⟩ := Array.getElem?_eq_some_iff.mp hc
    have q := List.all_eq_true.mp ((Array.all_eq_true_iff_forall_mem.mp hF) _ (Array.getElem_mem ha)) i (List.mem_range.mpr hi)
    simpa [Array.getElem?_eq_getElem hi] using q
  obtain ⟨i0, ei0⟩ := is_v g3
  obtain rfl : w0 = (.int i0) := Option.some.inj ei0
  obtain ⟨i1, ei1⟩ := is_v g5
  obtain rfl : w1 = (.int i1) := Option.some.inj ei1
  obtain ⟨i2, ei2⟩ := is_v g6
  obtain rfl : w2 = (.int i2) := Option.some.inj ei2
  obtain ⟨gn1, gn2⟩ := and_e hn
  obtain ⟨gn3, gn4⟩ := and_e gn2
  obtain ⟨gn5, gn6⟩ := and_e gn4
  obtain ⟨gn7, gn8⟩ := and_e gn6
  obtain ⟨gn9, gn10⟩ := and_e gn8
  obtain ⟨gn11, gn12⟩ := and_e gn10
  obtain ⟨gn13, gn14⟩ := and_e gn12
  obtain ⟨gn15, gn16⟩ := and_e gn14
  obtain ⟨gn17, gn18⟩ := and_e gn16
  obtain ⟨gn19, gn20⟩ := and_e gn18
  obtain ⟨gn21, gn22⟩ := and_e gn20
  obtain ⟨a_SEND, ea_SEND⟩ := exa_v gn1
  have E_SEND := Exa.start ea_SEND gn1
  have S_SEND := Sta.start ea_SEND (Or.inr ⟨(hw _ (List.mem_of_getElem? (i := 6) rfl)), (hw _ (List.mem_of_getElem? (i := 7) rfl))⟩)
  obtain ⟨a_SUBMIT, ea_SUBMIT⟩ := exa_v gn3
  have E_SUBMIT := Exa.start ea_SUBMIT gn3
  have S_SUBMIT := Sta.start ea_SUBMIT (Or.inr ⟨(hw _ (List.mem_of_getElem? (i := 6) rfl)), (hw _ (List.mem_of_getElem? (i := 14) rfl))⟩)
  obtain ⟨a_REQUEST, ea_REQUEST⟩ := exa_v gn11
  have E_REQUEST := Exa.start ea_REQUEST gn11
  have S_REQUEST := Sta.start ea_REQUEST (Or.inr ⟨(hw _ (List.mem_of_getElem? (i := 6) rfl)), (hw _ (List.mem_of_getElem? (i := 18) rfl))⟩)
  obtain ⟨a_INVOKE, ea_INVOKE⟩ := exa_v gn17
  have E_INVOKE := Exa.start ea_INVOKE gn17
  have S_INVOKE := Sta.start ea_INVOKE (Or.inr ⟨(hw _ (List.mem_of_getElem? (i := 6) rfl)), (hw _ (List.mem_of_getElem? (i := 21) rfl))⟩)
  obtain ⟨a_PROGRESS, ea_PROGRESS⟩ := exa_v gn21
  have E_PROGRESS := Exa.start ea_PROGRESS gn21
  have S_PROGRESS := Sta.start ea_PROGRESS (Or.inr ⟨(hw _ (List.mem_of_getElem? (i := 6) rfl)), (hw _ (List.mem_of_getElem? (i := 23) rfl))⟩)
  obtain ⟨a_PUBSUB, ea_PUBSUB⟩ := exa_v gn5
  have E_PUBSUB := Exa.start ea_PUBSUB gn5
  have S_PUBSUB := Sta.start ea_PUBSUB (Or.inr ⟨(hw _ (List.mem_of_getElem? (i := 6) rfl)), (hw _ (List.mem_of_getElem? (i := 16) rfl))⟩)
  have F_SUBMIT_ordinal := own_fld ea_SUBMIT gn7
  have F_PUBSUB_ordinal := own_fld ea_PUBSUB gn9
  have F_REQUEST_ordinal := own_fld ea_REQUEST gn13
  have F_SEND_ordinal := own_fld ea_SEND gn15
  have F_INVOKE_ordinal := own_fld ea_INVOKE gn19
  have F_PROGRESS_ordinal := own_fld ea_PROGRESS gn22
  obtain ⟨n, o, h1, h2, h3, _, L, rfl, ⟨rfl, N⟩, hq⟩ := rm0 l s _ hw tables_1 i0 i1 i2 a_SEND a_SUBMIT a_REQUEST a_INVOKE a_PROGRESS a_PUBSUB s.heap s.heap.size (Nat.le_refl _) S_SEND S_SUBMIT S_REQUEST S_INVOKE S_PROGRESS S_PUBSUB E_SEND E_SUBMIT E_REQUEST E_INVOKE E_PROGRESS E_PUBSUB (Fld.ne F_SEND_ordinal F_PUBSUB_ordinal (by decide)) (Fld.ne F_SUBMIT_ordinal F_PUBSUB_ordinal (by decide)) (Fld.ne F_REQUEST_ordinal F_PUBSUB_ordinal (by decide)) (Fld.ne F_INVOKE_ordinal F_PUBSUB_ordinal (by decide)) (Fld.ne F_PROGRESS_ordinal F_PUBSUB_ordinal (by decide)) p e ha hc hk s m _ below hf ((Spec.applies_iff_loose hf).mp happ).1 ⟨rfl, State.Warmed39.refl s, rfl⟩ trivial
  refine ⟨n, _, h1, h2, h3, hpost _ _ _ _ _ _ ⟨Cond.after_iff.mpr rfl, Cond.after_iff.mpr (eq_i res_at (Term.int_eval (1)) rfl), trivial⟩ ⟨hq.1, hq.2.1, (hq.2.2.sift fun y hy => Or.inr (N y hy)).mono (by decide) (by decide)⟩⟩
theorem main_1_1 : Claimed_1_1 := comes_1 fun _ _ _ _ _ _ h hF => ⟨h.1, hF⟩
theorem main_1_2 : Claimed_1_2 := comes_1 fun _ _ _ _ _ _ h hF => ⟨h.2.1, hF⟩
end Jvm.Pilot.@@N@@
namespace Jvm.Pilot.@@N@@
open Jvm Jvm.ClassFile Sem Op Lib Jvm.Free Jvm.Stand Jvm.Pilot.@@N@@.Jvm.D
/-! MADE BY PROGRAM (witnessworld.py) out of the Statement's table words and the real class files: 12 classes; the members and pool entries that the words name. The judged class is class 1, her method 2. -/
namespace start1
open Jvm.ClassFile
def u (s : String) : CpInfo := .utf8 (stringToUtf16 s)
/-- a pool by its gaps: so many unusable entries, then the entry; so many at the end -/
def gap : Nat → List CpInfo → List CpInfo
  | 0, r => r
  | n + 1, r => .unusable :: gap n r
def poolList (es : List (Nat × CpInfo)) (last : Nat) : List CpInfo := es.foldr (fun e r => gap e.1 (e.2 :: r)) (gap last [])
def pool (es : List (Nat × CpInfo)) (last : Nat) : Array CpInfo := ⟨poolList es last⟩
def fileOf (pool : Array CpInfo) (this : Nat) (attrs : Array Attribute := #[]) (ms : Array MethodInfo := #[]) (fl : Nat := 33) (sup : Nat := 0) (ifs : Array Nat := #[]) (fds : Array FieldInfo := #[]) : ClassFile where
  minorVersion := 0
  majorVersion := 65
  constantPool := pool
  accessFlags := fl
  thisClass := this
  superClass := sup
  interfaces := ifs
  fields := fds
  methods := ms
  attributes := attrs
def plain (name : String) (sup : Option ClassId) : Class where
  name := name
  kind := .ordinary
  loader := none
  accessFlags := 33
  super := sup
  interfaces := #[]
  cf := none
  fields := #[]
  methods := #[]
  instanceTypes := #[]
  staticTypes := #[]
  resolved := #[]
  callSites := []
  init := .initialized
  statics := none
  mirror := none

def pool0 : Array CpInfo := pool [(5, u "<init>"), (0, u "()V"), (1, .class_ 10), (1, u "java/lang/Object")] 113

def k0m0 : Method := { name := "<init>", desc := "()V", sig := { parameters := [], returnType := none }, accessFlags := 1, code := none }
/-- java/lang/Object -/
def k0 : Class := { plain "java/lang/Object" none with
  accessFlags := 33
  interfaces := #[]
  cf := some (fileOf pool0 8 #[] #[{ accessFlags := 1, nameIndex := 5, descriptorIndex := 6, attributes := #[] }] 33 0 #[] #[])
  fields := #[]
  methods := #[k0m0]
  instanceTypes := #[]
  staticTypes := #[]
  resolved := Array.replicate 124 none
  statics := none }

def pool1 : Array CpInfo := pool [(2, .class_ 4), (1, u "java/lang/Object"), (0, u "<init>"), (0, u "()V"), (0, .integer 2147483647), (0, .fieldref 9 10), (0, .class_ 11), (0, .nameAndType 12 13), (0, u "com/example/halyard/halyard/mal/InteractionType"), (0, u "SEND"), (0, u "Lcom/example/halyard/halyard/mal/InteractionType;"), (0, .fieldref 9 15), (0, .nameAndType 16 13), (0, u "SUBMIT"), (0, .fieldref 9 18), (0, .nameAndType 19 13), (0, u "REQUEST"), (0, .fieldref 9 21), (0, .nameAndType 22 13), (0, u "INVOKE"), (0, .fieldref 9 24), (0, .nameAndType 25 13), (0, u "PROGRESS"), (0, .fieldref 9 27), (0, .nameAndType 28 13), (0, u "PUBSUB"), (0, .methodref 30 31), (0, .class_ 32), (0, .nameAndType 33 34), (0, u "com/example/halyard/halyard/mal/InteractionTypeIsSentToProviderPinLaw"), (0, u "pick"), (0, u "(I)Lcom/example/halyard/halyard/mal/InteractionType;"), (0, .methodref 9 36), (0, .nameAndType 37 38), (0, u "isSentToProvider"), (0, u "(I)Z"), (3, u "law"), (0, u "(III)Z")] 2

def k1m0 : Method := { name := "<init>", desc := "()V", sig := { parameters := [], returnType := none }, accessFlags := 1, code := none }
def k1c1 : Code := { maxStack := 2, maxLocals := 2, code := method_2_code, exceptionTable := #[], attributes := #[] }
def k1m1 : Method := { name := "pick", desc := "(I)Lcom/example/halyard/halyard/mal/InteractionType;", sig := { parameters := [.int], returnType := some (.object "com/example/halyard/halyard/mal/InteractionType") }, accessFlags := 10, code := some k1c1 }
def k1c2 : Code := { maxStack := 2, maxLocals := 8, code := code, exceptionTable := #[], attributes := #[] }
def k1m2 : Method := { name := "law", desc := "(III)Z", sig := { parameters := [.int, .int, .int], returnType := some .boolean }, accessFlags := 9, code := some k1c2 }
/-- com/example/halyard/halyard/mal/InteractionTypeIsSentToProviderPinLaw -/
def k1 : Class := { plain "com/example/halyard/halyard/mal/InteractionTypeIsSentToProviderPinLaw" (some 0) with
  accessFlags := 49
  interfaces := #[]
  cf := some (fileOf pool1 30 #[] #[{ accessFlags := 1, nameIndex := 5, descriptorIndex := 6, attributes := #[] }, { accessFlags := 10, nameIndex := 33, descriptorIndex := 34, attributes := #[] }, { accessFlags := 9, nameIndex := 42, descriptorIndex := 43, attributes := #[] }] 49 2 #[] #[])
  fields := #[]
  methods := #[k1m0, k1m1, k1m2]
  instanceTypes := #[]
  staticTypes := #[]
  resolved := Array.replicate 46 none
  statics := none }

def pool2 : Array CpInfo := pool [(1, .class_ 2), (0, u "java/lang/constant/Constable"), (0, .class_ 4), (0, u "java/lang/Object")] 6

/-- java/lang/constant/Constable -/
def k2 : Class := { plain "java/lang/constant/Constable" (some 0) with
  accessFlags := 1537
  interfaces := #[]
  cf := some (fileOf pool2 1 #[] #[] 1537 3 #[] #[])
  fields := #[]
  methods := #[]
  instanceTypes := #[]
  staticTypes := #[]
  resolved := Array.replicate 11 none
  statics := none }

def pool3 : Array CpInfo := pool [(1, .class_ 2), (0, u "java/lang/Comparable"), (0, .class_ 4), (0, u "java/lang/Object")] 7

/-- java/lang/Comparable -/
def k3 : Class := { plain "java/lang/Comparable" (some 0) with
  accessFlags := 1537
  interfaces := #[]
  cf := some (fileOf pool3 1 #[] #[] 1537 3 #[] #[])
  fields := #[]
  methods := #[]
  instanceTypes := #[]
  staticTypes := #[]
  resolved := Array.replicate 12 none
  statics := none }

def pool4 : Array CpInfo := pool [(1, .class_ 2), (0, u "java/io/Serializable"), (0, .class_ 4), (0, u "java/lang/Object")] 2

/-- java/io/Serializable -/
def k4 : Class := { plain "java/io/Serializable" (some 0) with
  accessFlags := 1537
  interfaces := #[]
  cf := some (fileOf pool4 1 #[] #[] 1537 3 #[] #[])
  fields := #[]
  methods := #[]
  instanceTypes := #[]
  staticTypes := #[]
  resolved := Array.replicate 7 none
  statics := none }

def pool5 : Array CpInfo := pool [(2, .class_ 4), (1, u "java/lang/Enum"), (0, u "name"), (0, u "Ljava/lang/String;"), (2, u "ordinal"), (0, u "I"), (1, .class_ 14), (1, u "java/lang/Object"), (4, u "hash"), (86, .class_ 108), (1, u "java/lang/Enum$EnumDesc"), (2, .class_ 112), (0, u "java/lang/constant/Constable"), (0, .class_ 114), (0, u "java/lang/Comparable"), (0, .class_ 116), (0, u "java/io/Serializable")] 87

/-- java/lang/Enum -/
def k5 : Class := { plain "java/lang/Enum" (some 0) with
  accessFlags := 1057
  interfaces := #[2, 3, 4]
  cf := some (fileOf pool5 2 #[.nestMembers #[106]] #[] 1057 12 #[111, 113, 115] #[{ accessFlags := 18, nameIndex := 5, descriptorIndex := 6, attributes := #[] }, { accessFlags := 18, nameIndex := 9, descriptorIndex := 10, attributes := #[] }, { accessFlags := 2, nameIndex := 19, descriptorIndex := 10, attributes := #[] }])
  fields := #[{ name := "name", type := (.object "java/lang/String"), accessFlags := 18, slot := 0, constantValue := 0 }, { name := "ordinal", type := .int, accessFlags := 18, slot := 1, constantValue := 0 }, { name := "hash", type := .int, accessFlags := 2, slot := 2, constantValue := 0 }]
  methods := #[]
  instanceTypes := #[(.object "java/lang/String"), .int, .int]
  staticTypes := #[]
  resolved := Array.replicate 204 none
  statics := none }

def pool6 : Array CpInfo := pool [(1, .class_ 2), (0, u "com/example/halyard/halyard/mal/InteractionType"), (2, u "SEND"), (0, u "Lcom/example/halyard/halyard/mal/InteractionType;"), (2, u "SUBMIT"), (2, u "REQUEST"), (2, u "INVOKE"), (2, u "PROGRESS"), (0, .fieldref 1 20), (0, .nameAndType 21 6), (0, u "PUBSUB"), (2, u "$VALUES"), (0, u "[Lcom/example/halyard/halyard/mal/InteractionType;"), (6, .class_ 34), (1, u "java/lang/Enum"), (32, u "isSentToProvider"), (0, u "(I)Z")] 7

def k6c0 : Code := { maxStack := 2, maxLocals := 3, code := prog_73_method_4_code, exceptionTable := #[], attributes := #[] }
def k6m0 : Method := { name := "isSentToProvider", desc := "(I)Z", sig := { parameters := [.int], returnType := some .boolean }, accessFlags := 1, code := some k6c0 }
/-- com/example/halyard/halyard/mal/InteractionType -/
def k6 : Class := { plain "com/example/halyard/halyard/mal/InteractionType" (some 5) with
  accessFlags := 16433
  interfaces := #[]
  cf := some (fileOf pool6 1 #[] #[{ accessFlags := 1, nameIndex := 67, descriptorIndex := 68, attributes := #[] }] 16433 32 #[] #[{ accessFlags := 16409, nameIndex := 5, descriptorIndex := 6, attributes := #[] }, { accessFlags := 16409, nameIndex := 9, descriptorIndex := 6, attributes := #[] }, { accessFlags := 16409, nameIndex := 12, descriptorIndex := 6, attributes := #[] }, { accessFlags := 16409, nameIndex := 15, descriptorIndex := 6, attributes := #[] }, { accessFlags := 16409, nameIndex := 18, descriptorIndex := 6, attributes := #[] }, { accessFlags := 16409, nameIndex := 21, descriptorIndex := 6, attributes := #[] }, { accessFlags := 4122, nameIndex := 24, descriptorIndex := 25, attributes := #[] }])
  fields := #[{ name := "SEND", type := (.object "com/example/halyard/halyard/mal/InteractionType"), accessFlags := 16409, slot := 0, constantValue := 0 }, { name := "SUBMIT", type := (.object "com/example/halyard/halyard/mal/InteractionType"), accessFlags := 16409, slot := 1, constantValue := 0 }, { name := "REQUEST", type := (.object "com/example/halyard/halyard/mal/InteractionType"), accessFlags := 16409, slot := 2, constantValue := 0 }, { name := "INVOKE", type := (.object "com/example/halyard/halyard/mal/InteractionType"), accessFlags := 16409, slot := 3, constantValue := 0 }, { name := "PROGRESS", type := (.object "com/example/halyard/halyard/mal/InteractionType"), accessFlags := 16409, slot := 4, constantValue := 0 }, { name := "PUBSUB", type := (.object "com/example/halyard/halyard/mal/InteractionType"), accessFlags := 16409, slot := 5, constantValue := 0 }, { name := "$VALUES", type := (.array (.object "com/example/halyard/halyard/mal/InteractionType")), accessFlags := 4122, slot := 6, constantValue := 0 }]
  methods := #[k6m0]
  instanceTypes := #[(.object "java/lang/String"), .int, .int]
  staticTypes := #[(.object "com/example/halyard/halyard/mal/InteractionType"), (.object "com/example/halyard/halyard/mal/InteractionType"), (.object "com/example/halyard/halyard/mal/InteractionType"), (.object "com/example/halyard/halyard/mal/InteractionType"), (.object "com/example/halyard/halyard/mal/InteractionType"), (.object "com/example/halyard/halyard/mal/InteractionType"), (.array (.object "com/example/halyard/halyard/mal/InteractionType"))]
  resolved := Array.replicate 76 none
  statics := some 0 }

def pool7 : Array CpInfo := pool [(1, u "java/lang/Cloneable"), (0, .class_ 1), (0, u "java/lang/Object"), (0, .class_ 3)] 3

/-- java/lang/Cloneable -/
def k7 : Class := { plain "java/lang/Cloneable" (some 0) with
  accessFlags := 1537
  interfaces := #[]
  cf := some (fileOf pool7 2 #[] #[] 1537 4 #[] #[])
  fields := #[]
  methods := #[]
  instanceTypes := #[]
  staticTypes := #[]
  resolved := Array.replicate 8 none
  statics := none }

/-- the primitive byte -/
def k8 : Class := { plain "byte" none with kind := .primitive 'B', accessFlags := 0x411 }
/-- [B -/
def k9 : Class := { plain "[B" (some 0) with kind := .array 8 .byte, interfaces := #[7, 4], accessFlags := 1041 }

/-- the primitive int -/
def k10 : Class := { plain "int" none with kind := .primitive 'I', accessFlags := 0x411 }
/-- [I -/
def k11 : Class := { plain "[I" (some 0) with kind := .array 10 .int, interfaces := #[7, 4], accessFlags := 1041 }

def heap : Heap := #[{ cls := 6, slots := #[.ref 1, .ref 2, .ref 3, .ref 4, .ref 5, .ref 6, .null], vm := .statics 6 },
  { cls := 6, slots := #[.null, .int 0, .int 0], vm := .none },
  { cls := 6, slots := #[.null, .int 1, .int 0], vm := .none },
  { cls := 6, slots := #[.null, .int 2, .int 0], vm := .none },
  { cls := 6, slots := #[.null, .int 3, .int 0], vm := .none },
  { cls := 6, slots := #[.null, .int 4, .int 0], vm := .none },
  { cls := 6, slots := #[.null, .int 5, .int 0], vm := .none }]
def classes : Array Class := #[k0, k1, k2, k3, k4, k5, k6, k7, k8, k9, k10, k11]
def interned : List (Array UInt16 × Addr) := []
def slotsUsed : Nat := 25
def theMethod : MethodId := ⟨1, 2⟩
def args0 : Array Value := #[.int 1, .int 2, .int 3]
def aboutOver (below : List Frame) : State where
  vm := { classes := classes, interned := interned.toArray }
  heap := heap
  slotsUsed := slotsUsed
  threads := #[{ frames := .invoking theMethod args0 :: below }]
def below0 : List Frame := [.native { method := ⟨0, 0⟩, args := #[] }]
def about1 : State := aboutOver below0
def p0 : Program := .bare "" "" ""
def e0 : Env := launch0.env 0 0 0
theorem w_frames : about1.frames = Frame.invoking theMethod args0 :: below0 := rfl
set_option maxRecDepth 65536 in
theorem w_args : argsFit about1.vm theMethod args0 = true := by decide +kernel
set_option maxRecDepth 65536 in
theorem w_heap : heapFits about1 = true := by decide +kernel
set_option maxRecDepth 65536 in
theorem w_runnable : about1.curStatus? = some .runnable := by decide +kernel
set_option maxRecDepth 65536 in
theorem w_alone : about1.alone = true := by decide +kernel
set_option maxRecDepth 65536 in
theorem w_named : about1.methodNamed? x = some theMethod := by decide +kernel
set_option maxRecDepth 65536 in
theorem w_hears : about1.hears theMethod below0 = true := by decide +kernel
set_option maxRecDepth 65536 in
theorem w_ripe : about1.ripe theMethod args0 below0 = true := by decide +kernel
theorem w_running : about1.status = .running := rfl
set_option maxRecDepth 65536 in
theorem w_room : about1.hasRoom e0.platform room_1 = true :=
  launch0.hasRoom_least _ room_1 (by decide +kernel) (by decide +kernel) (by decide +kernel) (by decide +kernel) (by decide +kernel) (by decide +kernel)
theorem allAtoms_all (ts : List Jvm.Cond) (a : Array Jvm.Value) (st : Jvm.State) : (allAtoms ts).before a st = ts.all (fun c => c.before a st) := by
  induction ts with
  | nil => rfl
  | cons c t ih =>
    show (Jvm.Cond.and c (allAtoms t)).before a st = _
    rw [Jvm.Cond.before_and, ih, List.all_cons]
def words1 : List Jvm.Cond := Jvm.Cond.code x code maxLocals ret :: tables_1
/-- a 'code' word, met by the world's own term for the bytes: nothing is compared byte by byte -/
theorem code_word {y : MethodName} {bytes : ByteArray} {mx : Nat} {rt : Option FieldType} {a : Array Value} {s : State} {m : MethodId} {meth : Method} {c : Code} (h1 : s.methodNamed? y = some m) (h2 : s.vm.method? m = some meth) (h3 : meth.code = some c) (h4 : c.code = bytes)
    (h5 : (c.maxLocals == mx && c.exceptionTable.isEmpty && decide (c.maxStack ≤ mostOperands) && decide (meth.sig.returnType = rt) && !meth.locks && decide (parseMethodDescriptor y.desc = some meth.sig)) = true) : (Jvm.Cond.code y bytes mx rt).before a s = true := by
  simp only [Bool.and_eq_true, beq_iff_eq, Bool.not_eq_true', decide_eq_true_eq] at h5
  obtain ⟨⟨⟨⟨⟨g1, g2⟩, g3⟩, g4⟩, g5⟩, g6⟩ := h5
  simp [Cond.before, Cond.holds, Cond.value, h1, h2, h3, h4, g1, g2, g3, g4, g5, g6]
def isCode : Jvm.Cond → Bool
  | .code _ _ _ _ => true
  | _ => false
theorem all_split {L : List Jvm.Cond} {P : Jvm.Cond → Bool} (h1 : L.all (fun c => isCode c || P c) = true) (h2 : ∀ c ∈ L.filter isCode, P c = true) : L.all P = true := by
  refine List.all_eq_true.mpr fun c hc => ?_
  have h := List.all_eq_true.mp h1 c hc
  rcases Bool.eq_false_or_eq_true (isCode c) with hi | hi
  · exact h2 c (List.mem_filter.mpr ⟨hc, hi⟩)
  · simpa [hi] using h
set_option maxRecDepth 65536 in
theorem w_c0 : (Jvm.Cond.code x code maxLocals ret).before args0 about1 = true := code_word (m := ⟨1, 2⟩) (meth := k1m2) (c := k1c2) (by decide +kernel) rfl rfl rfl (by decide +kernel)
set_option maxRecDepth 65536 in
theorem w_c1 : (Jvm.Cond.code ({ cls := "com/example/halyard/halyard/mal/InteractionTypeIsSentToProviderPinLaw", name := "pick", desc := "(I)Lcom/example/halyard/halyard/mal/InteractionType;" } : Jvm.MethodName) method_2_code (2 : Nat) (Option.some (Jvm.ClassFile.FieldType.object "com/example/halyard/halyard/mal/InteractionType"))).before args0 about1 = true := code_word (m := ⟨1, 1⟩) (meth := k1m1) (c := k1c1) (by decide +kernel) rfl rfl rfl (by decide +kernel)
set_option maxRecDepth 65536 in
theorem w_c2 : (Jvm.Cond.code ({ cls := "com/example/halyard/halyard/mal/InteractionType", name := "isSentToProvider", desc := "(I)Z" } : Jvm.MethodName) prog_73_method_4_code (3 : Nat) (Option.some Jvm.ClassFile.FieldType.boolean)).before args0 about1 = true := code_word (m := ⟨6, 0⟩) (meth := k6m0) (c := k6c0) (by decide +kernel) rfl rfl rfl (by decide +kernel)
def codes1 : List Jvm.Cond := [Jvm.Cond.code x code maxLocals ret, Jvm.Cond.code ({ cls := "com/example/halyard/halyard/mal/InteractionTypeIsSentToProviderPinLaw", name := "pick", desc := "(I)Lcom/example/halyard/halyard/mal/InteractionType;" } : Jvm.MethodName) method_2_code (2 : Nat) (Option.some (Jvm.ClassFile.FieldType.object "com/example/halyard/halyard/mal/InteractionType")), Jvm.Cond.code ({ cls := "com/example/halyard/halyard/mal/InteractionType", name := "isSentToProvider", desc := "(I)Z" } : Jvm.MethodName) prog_73_method_4_code (3 : Nat) (Option.some Jvm.ClassFile.FieldType.boolean)]
set_option maxRecDepth 65536 in
theorem codes_eq : words1.filter isCode = codes1 := rfl
theorem w_codes : ∀ c ∈ words1.filter isCode, c.before args0 about1 = true := by
  rw [codes_eq]
  intro c hc
  simp only [codes1, List.mem_cons, List.not_mem_nil, or_false] at hc
  rcases hc with rfl | rfl | rfl
  · exact w_c0
  · exact w_c1
  · exact w_c2
set_option maxRecDepth 65536 in
theorem w_t1 : (words1.take 24).all (fun c => isCode c || c.before args0 about1) = true := by decide +kernel
set_option maxRecDepth 65536 in
theorem w_t2 : (words1.drop 24).all (fun c => isCode c || c.before args0 about1) = true := by decide +kernel
theorem w_tables : (allAtoms (Jvm.Cond.code x code maxLocals ret :: tables_1)).before args0 about1 = true := by
  rw [allAtoms_all]
  show words1.all (fun c => c.before args0 about1) = true
  refine all_split ?_ w_codes
  rw [← List.take_append_drop 24 words1, List.all_append, w_t1, w_t2]
  rfl
set_option maxRecDepth 65536 in
theorem w_case : (Jvm.Cond.and given_1 narrow_1).before args0 about1 = true := by decide +kernel
theorem w_applies : (headSpec (Jvm.Cond.code x code maxLocals ret :: tables_1) room_1).applies x e0.platform about1 = true :=
  (Spec.applies_iff w_frames).mpr ⟨w_running, w_runnable, w_alone, w_named, w_hears, w_ripe, w_room, w_tables⟩
theorem atStart : AtStart classFile x code maxLocals ret World_1 tables_1 room_1 Calls_1 rest_1 Pre_1 launch0 p0 e0 about1 theMethod args0 below0 :=
  ⟨lists_1, trivial, launch0.admits_env _ _ _, launch0.least_env, fairChoices_fair.cas, fairChoices_fair.clock, w_frames, w_args, w_heap, w_applies, trivial, trivial, w_case⟩
end start1
theorem witness_1 : WitnessClaimed_1 := ⟨start1.p0, start1.e0, start1.about1, start1.theMethod, start1.args0, start1.below0, start1.atStart⟩
end Jvm.Pilot.@@N@@
