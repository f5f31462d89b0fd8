import JvmDerived
import JvmDerived.Pilot.@@N@@Statement
import JvmDerived.Pilot.@@N@@Code
set_option linter.unusedVariables false
set_option linter.unusedSimpArgs false
namespace Jvm.RoadKit
open Sem ClassFile Op Lib Jvm.Stand Jvm.Free Jvm.LawKit
section New
variable {p : Program} {l : Launch} {e : Env} {R : Room} {s : State} {m : MethodId} {args : Array Value} {below : List Frame} {meth : Method} {c : Code} {T : State} {locs : List Loc} {cells slots : Nat}
theorem retI (X : Stand p l e R s m args below meth c T locs cells slots) (hx : p.tables.exec = Jvm.exec) {pc : Nat} {Ls : Array Slot} {z : Int32} {rest : List Value} (hret : meth.sig.returnType = some .int) (hd : decode c.code pc = .ok (.ireturn, 1)) {fs : List Frame}
    (hl : ∀ (f : JFrame) (acts : List Action), f.method = m → f.locked = none → f.entered = [] → (doReturn e (T.setTop f) acts (some (.int z))).1 = T.setFrames fs) : Steps p.tables e below (T.setTop (mkF m pc Ls (.int z :: rest))) (T.setFrames fs) := by
  have hm' : T.vm.method? m = some meth := X.method'
  have hn : narrow .int (.int z) = .int z := rfl
  show Steps p.tables e below (T.setTop { method := m, pc := pc, locals := Ls, stack := _ :: rest, locked := none }) _
  jvm_step X.here [X.here.top, hx, hd, hm', hret, hn]
  first | (intro acts; rw [hl _ acts rfl rfl rfl]) | rw [hl _ _ rfl rfl rfl]
  exact Steps.refl _
end New
end Jvm.RoadKit
namespace Jvm.Pilot.@@N@@
open Jvm Jvm.ClassFile Sem Op Lib Jvm.Free Jvm.Stand Jvm.LawKit Jvm.RoadKit Bundle Jvm.Pilot.@@N@@.Jvm.D
theorem own_fld {args : Array Value} {s : State} {t : Term} {C n d : String} {c : Int32} {a : Addr} (h : (Jvm.Cond.eq (Term.field t C n d) (Term.int c)).value args s none s [] = some true) (ht : t.eval args s none [] s = some (.ref a)) : Fld s s.heap a C n d (.int c) := by
  apply Fld.start
  obtain ⟨x, y, ex, ey, kx, ky⟩ := cmp_v (Or.inl h)
  have ey' : (Term.int c).eval args s none [] s = some (.int c) := Term.int_eval c
  cases ey.symm.trans ey'
  obtain ⟨z, rfl⟩ := ky
  have ex' := ex
  rw [fld_at ht] at ex'
  simp only [Cond.value, ex, ey'] at h
  rw [ex']
  simpa using h
def Qp (z : Int32) (h0 : Heap) (n0 : Nat) (v : Option Value) (h : Heap) (L : List Loc) : Prop := v = some (.int z) ∧ Fr n0 L ∧ h = h0
theorem pn_com_example_rensou_rensou_wordnet_PartOfSpeech : plainName "com/example/rensou/rensou/wordnet/PartOfSpeech" = true := by first | (simp [plainName, overriddenIn]; done) | decide +kernel
theorem ef_rm_inf (m : MethodId) (a1 : Addr) : entryFrame m #[(.ref a1)] 1 = mkF m 0 #[.val (.ref a1)] [] := by first | (simp [entryFrame, mkF, argsToLocals, Value.category]; done) | rfl
theorem d_prog_141_method_9_0 : decode prog_141_method_9_code 0 = .ok (.aload_n 0, 1) := by decide +kernel
theorem d_prog_141_method_9_1 : decode prog_141_method_9_code 1 = .ok (.getstatic 7, 3) := by decide +kernel
theorem d_prog_141_method_9_4 : decode prog_141_method_9_code 4 = .ok (.if_acmp .ne 7, 3) := by decide +kernel
theorem d_prog_141_method_9_7 : decode prog_141_method_9_code 7 = .ok (.iconst 1, 1) := by decide +kernel
theorem d_prog_141_method_9_8 : decode prog_141_method_9_code 8 = .ok (.goto 4, 3) := by decide +kernel
theorem d_prog_141_method_9_12 : decode prog_141_method_9_code 12 = .ok (.ireturn, 1) := by decide +kernel
theorem d_prog_141_method_9_11 : decode prog_141_method_9_code 11 = .ok (.iconst 0, 1) := by decide +kernel
set_option maxRecDepth 65536 in
set_option maxHeartbeats 40000000 in
theorem rm_inf (l : Launch) (Z : State) (a0 : Array Value) (hw : ∀ d ∈ tables_1, d.before a0 Z = true) (ws : List Jvm.Cond) (a1 : Addr) (b1 : Addr) (z : Int32) (h0 : Heap) (n0 : Nat) (Z0 : n0 ≤ h0.size) (S_b1 : Sta Z h0 "com/example/rensou/rensou/wordnet/PartOfSpeech" "VERB" "Lcom/example/rensou/rensou/wordnet/PartOfSpeech;" (.ref b1)) (hb0 : (if a1 = b1 then (1 : Int32) else 0) = z) :
    MetFree l (⟨"com/example/rensou/rensou/wordnet/PartOfSpeech", "inflectsFirstWord", "()Z"⟩ : MethodName) (head1 (Jvm.Cond.code (⟨"com/example/rensou/rensou/wordnet/PartOfSpeech", "inflectsFirstWord", "()Z"⟩ : MethodName) prog_141_method_9_code 1 (some .boolean) :: ws) ({ frames := 0, cells := 0, slots := 0, locals := 0 } : Room)) (fun a U => a = #[(.ref a1)] ∧ Z.Warmed39 U.vm ∧ U.heap = h0) (fun _ _ _ _ _ => True) (fun _ U o U' => ∃ v L, o = .returned v ∧ Qp z h0 n0 v U'.heap L ∧ FrameEnd U o U' L ({ frames := 0, cells := 0, slots := 0, locals := 0 } : Room).cells ({ frames := 0, cells := 0, slots := 0, locals := 0 } : Room).slots) := by
  refine MetFree.of_bodySF (plainFor_of_name pn_com_example_rensou_rensou_wordnet_PartOfSpeech) hisR ?_
  intro p e s m args below meth c s₁ Bd hml0 hP hK
  obtain ⟨rfl, hZ, hh⟩ := hP
  have hx := Bd.exec
  have hby := Bd.bytes
  have hml : c.maxLocals = 1 := hml0
  have hown : s.vm.findClass "com/example/rensou/rensou/wordnet/PartOfSpeech" = some m.cls := findClass_of_methodNamed Bd.named
  have hnm := (name_of_methodNamed Bd.named Bd.method).1
  have X0 : Stand p l e ({ frames := 0, cells := 0, slots := 0, locals := 0 } : Room) s m #[(.ref a1)] below meth c s₁ [] 0 0 := Stand.of_body Bd
  have e0 : s₁.heap = h0 := by rw [← hh, Bd.state]; rfl
  have N0 := Fr.nil n0
  obtain ⟨A0, hA0⟩ : ∃ A, A = s₁.setTop (entryFrame m #[(.ref a1)] 1) := ⟨_, rfl⟩
  have R0 : ∀ tgt, Steps p.tables e below (s₁.setTop (mkF m 0 #[.val (.ref a1)] [])) tgt → Steps p.tables e below A0 tgt := fun tgt hgo => by rw [hA0]; exact castTop (ef_rm_inf m a1) hgo
  have R1 : ∀ tgt, Steps p.tables e below (s₁.setTop (mkF m 1 #[.val (.ref a1)] [(.ref a1)])) tgt → Steps p.tables e below A0 tgt := by
    intro tgt hgo
    refine R0 tgt ?_
    show Steps p.tables e below (s₁.setTop (mkF m 0 #[.val (.ref a1)] [])) _
    refine XS.aloadN X0.here hx rfl (hb hby d_prog_141_method_9_0) rfl rfl ?_
    show Steps p.tables e below (s₁.setTop (mkF m 1 #[.val (.ref a1)] [(.ref a1)])) _
    exact hgo
  obtain ⟨T2, X2, e2, st2⟩ := getS2 X0 hx hZ hown (host := "") (Or.inl (hw _ (List.mem_of_getElem? (i := 8) rfl))) Via.refl e0 S_b1 (g := (mkF m 1 #[.val (.ref a1)] [(.ref a1)])) rfl (hb hby d_prog_141_method_9_1)
  have R3 : ∀ tgt, Steps p.tables e below (T2.setTop (mkF m 4 #[.val (.ref a1)] [(.ref b1), (.ref a1)])) tgt → Steps p.tables e below A0 tgt := fun tgt hgo => R1 tgt (st2 tgt hgo)
  by_cases ha4_4 : a1 = b1
  · have R5 : ∀ tgt, Steps p.tables e below (T2.setTop (mkF m 12 #[.val (.ref a1)] [(.int (1 : Int32))])) tgt → Steps p.tables e below A0 tgt := by
      intro tgt hgo
      refine R3 tgt ?_
      show Steps p.tables e below (T2.setTop (mkF m 4 #[.val (.ref a1)] [(.ref b1), (.ref a1)])) _
      refine Jvm.RoadKit.acmp (g := (mkF m 4 #[.val (.ref a1)] [(.ref b1), (.ref a1)])) X2 hx rfl rfl rfl (pc0 := 4) (pc' := 7) (same := true) rfl (hb hby d_prog_141_method_9_4) rfl (decide_eq_true (congrArg Value.ref ha4_4)) (by decide) (by decide) ?_
      show Steps p.tables e below (T2.setTop (mkF m 7 #[.val (.ref a1)] [])) _
      refine XS.iconst X2.here hx rfl (hb hby d_prog_141_method_9_7) ?_
      show Steps p.tables e below (T2.setTop (mkF m 8 #[.val (.ref a1)] [(.int (1 : Int32))])) _
      refine XS.goto X2.here hx rfl (pc0 := 8) (pc' := 12) rfl (hb hby d_prog_141_method_9_8) (by decide) (by decide) ?_
      show Steps p.tables e below (T2.setTop (mkF m 12 #[.val (.ref a1)] [(.int (1 : Int32))])) _
      exact hgo
    subst hA0
    obtain ⟨fs, hr, hrun, hended, hW, hsame⟩ := X2.leave (v := some (.int (1 : Int32))) (fun h => by rw [Bd.returns] at h; cases h)
    refine ⟨_, _, R5 _ ?_, hrun, hended, _, _, rfl, ?_, ⟨_, rfl⟩, hW, hsame.mono (by decide) (by decide)⟩
    · show Steps p.tables e below (T2.setTop (mkF m 12 #[.val (.ref a1)] [(.int (1 : Int32))])) _
      exact retN X2 hx (t := .boolean) Bd.returns (by simp) (hb hby d_prog_141_method_9_12) hr
    · show Qp z h0 n0 _ T2.heap _
      rw [e2]
      exact ⟨by rw [← hb0]; simp [ha4_4], N0, rfl⟩
  · have R6 : ∀ tgt, Steps p.tables e below (T2.setTop (mkF m 12 #[.val (.ref a1)] [(.int (0 : Int32))])) tgt → Steps p.tables e below A0 tgt := by
      intro tgt hgo
      refine R3 tgt ?_
      show Steps p.tables e below (T2.setTop (mkF m 4 #[.val (.ref a1)] [(.ref b1), (.ref a1)])) _
      refine Jvm.RoadKit.acmp (g := (mkF m 4 #[.val (.ref a1)] [(.ref b1), (.ref a1)])) X2 hx rfl rfl rfl (pc0 := 4) (pc' := 11) (same := false) rfl (hb hby d_prog_141_method_9_4) rfl (decide_eq_false fun q => ha4_4 (Value.ref.inj q)) (by decide) (by decide) ?_
      show Steps p.tables e below (T2.setTop (mkF m 11 #[.val (.ref a1)] [])) _
      refine XS.iconst X2.here hx rfl (hb hby d_prog_141_method_9_11) ?_
      show Steps p.tables e below (T2.setTop (mkF m 12 #[.val (.ref a1)] [(.int (0 : Int32))])) _
      exact hgo
    subst hA0
    obtain ⟨fs, hr, hrun, hended, hW, hsame⟩ := X2.leave (v := some (.int (0 : Int32))) (fun h => by rw [Bd.returns] at h; cases h)
    refine ⟨_, _, R6 _ ?_, hrun, hended, _, _, rfl, ?_, ⟨_, rfl⟩, hW, hsame.mono (by decide) (by decide)⟩
    · show Steps p.tables e below (T2.setTop (mkF m 12 #[.val (.ref a1)] [(.int (0 : Int32))])) _
      exact retN X2 hx (t := .boolean) Bd.returns (by simp) (hb hby d_prog_141_method_9_12) hr
    · show Qp z h0 n0 _ T2.heap _
      rw [e2]
      exact ⟨by rw [← hb0]; simp [ha4_4], N0, rfl⟩
theorem ef_rm_let (m : MethodId) (a1 : Addr) : entryFrame m #[(.ref a1)] 1 = mkF m 0 #[.val (.ref a1)] [] := by first | (simp [entryFrame, mkF, argsToLocals, Value.category]; done) | rfl
theorem d_prog_141_method_5_0 : decode prog_141_method_5_code 0 = .ok (.aload_n 0, 1) := by decide +kernel
theorem d_prog_141_method_5_1 : decode prog_141_method_5_code 1 = .ok (.getfield 39, 3) := by decide +kernel
theorem d_prog_141_method_5_4 : decode prog_141_method_5_code 4 = .ok (.ireturn, 1) := by decide +kernel
set_option maxRecDepth 65536 in
set_option maxHeartbeats 40000000 in
theorem rm_let (l : Launch) (Z : State) (a0 : Array Value) (hw : ∀ d ∈ tables_1, d.before a0 Z = true) (ws : List Jvm.Cond) (a1 : Addr) (z : Int32) (h0 : Heap) (n0 : Nat) (Z0 : n0 ≤ h0.size) (F1 : Fld Z h0 a1 "com/example/rensou/rensou/wordnet/PartOfSpeech" "letter" "C" (.int z)) (hb0 : nar .char z = z) :
    MetFree l (⟨"com/example/rensou/rensou/wordnet/PartOfSpeech", "letter", "()C"⟩ : MethodName) (head1 (Jvm.Cond.code (⟨"com/example/rensou/rensou/wordnet/PartOfSpeech", "letter", "()C"⟩ : MethodName) prog_141_method_5_code 1 (some .char) :: ws) ({ frames := 0, cells := 0, slots := 0, locals := 0 } : Room)) (fun a U => a = #[(.ref a1)] ∧ Z.Warmed39 U.vm ∧ U.heap = h0) (fun _ _ _ _ _ => True) (fun _ U o U' => ∃ v L, o = .returned v ∧ Qp z h0 n0 v U'.heap L ∧ FrameEnd U o U' L ({ frames := 0, cells := 0, slots := 0, locals := 0 } : Room).cells ({ frames := 0, cells := 0, slots := 0, locals := 0 } : Room).slots) := by
  refine MetFree.of_bodySF (plainFor_of_name pn_com_example_rensou_rensou_wordnet_PartOfSpeech) hisR ?_
  intro p e s m args below meth c s₁ Bd hml0 hP hK
  obtain ⟨rfl, hZ, hh⟩ := hP
  have hx := Bd.exec
  have hby := Bd.bytes
  have hml : c.maxLocals = 1 := hml0
  have hown : s.vm.findClass "com/example/rensou/rensou/wordnet/PartOfSpeech" = some m.cls := findClass_of_methodNamed Bd.named
  have hnm := (name_of_methodNamed Bd.named Bd.method).1
  have X0 : Stand p l e ({ frames := 0, cells := 0, slots := 0, locals := 0 } : Room) s m #[(.ref a1)] below meth c s₁ [] 0 0 := Stand.of_body Bd
  have e0 : s₁.heap = h0 := by rw [← hh, Bd.state]; rfl
  have N0 := Fr.nil n0
  obtain ⟨A0, hA0⟩ : ∃ A, A = s₁.setTop (entryFrame m #[(.ref a1)] 1) := ⟨_, rfl⟩
  have R0 : ∀ tgt, Steps p.tables e below (s₁.setTop (mkF m 0 #[.val (.ref a1)] [])) tgt → Steps p.tables e below A0 tgt := fun tgt hgo => by rw [hA0]; exact castTop (ef_rm_let m a1) hgo
  have R1 : ∀ tgt, Steps p.tables e below (s₁.setTop (mkF m 1 #[.val (.ref a1)] [(.ref a1)])) tgt → Steps p.tables e below A0 tgt := by
    intro tgt hgo
    refine R0 tgt ?_
    show Steps p.tables e below (s₁.setTop (mkF m 0 #[.val (.ref a1)] [])) _
    refine XS.aloadN X0.here hx rfl (hb hby d_prog_141_method_5_0) rfl rfl ?_
    show Steps p.tables e below (s₁.setTop (mkF m 1 #[.val (.ref a1)] [(.ref a1)])) _
    exact hgo
  obtain ⟨T2, X2, e2, st2⟩ := getF X0 hx hZ hown (host := "") (Or.inl (hw _ (List.mem_of_getElem? (i := 15) rfl))) Via.refl e0 F1 (g := (mkF m 1 #[.val (.ref a1)] [(.ref a1)])) rfl rfl (hb hby d_prog_141_method_5_1)
  have R3 : ∀ tgt, Steps p.tables e below (T2.setTop (mkF m 4 #[.val (.ref a1)] [(.int z)])) tgt → Steps p.tables e below A0 tgt := fun tgt hgo => R1 tgt (st2 tgt hgo)
  subst hA0
  obtain ⟨fs, hr, hrun, hended, hW, hsame⟩ := X2.leave (v := some (.int (nar .char z))) (fun h => by rw [Bd.returns] at h; cases h)
  refine ⟨_, _, R3 _ ?_, hrun, hended, _, _, rfl, ?_, ⟨_, rfl⟩, hW, hsame.mono (by decide) (by decide)⟩
  · show Steps p.tables e below (T2.setTop (mkF m 4 #[.val (.ref a1)] [(.int z)])) _
    exact retN X2 hx (t := .char) Bd.returns (by simp) (hb hby d_prog_141_method_5_4) hr
  · show Qp z h0 n0 _ T2.heap _
    rw [e2]
    exact ⟨by rw [hb0], N0, rfl⟩
def Q0 (n0 : Nat) (v : Option Value) (h : Heap) (L : List Loc) : Prop := v = some (.int 1) ∧ Fr n0 L
theorem pn_com_example_rensou_rensou_wordnet_PartOfSpeechInflectsFirstWordPinLaw : plainName "com/example/rensou/rensou/wordnet/PartOfSpeechInflectsFirstWordPinLaw" = true := by first | (simp [plainName, overriddenIn]; done) | decide +kernel
theorem ef_rm_law (m : MethodId) (p1 : Int32) : entryFrame m #[(.int p1)] maxLocals = mkF m 0 #[.val (.int p1), .unset, .unset, .unset, .unset] [] := by first | (simp [entryFrame, mkF, argsToLocals, Value.category, maxLocals]; done) | rfl
theorem pd_0 : parseMethodDescriptor "()Z" = some ⟨[], some .boolean⟩ := by decide +kernel
theorem pd_1 : parseMethodDescriptor "()C" = some ⟨[], some .char⟩ := by decide +kernel
set_option maxRecDepth 65536 in
set_option maxHeartbeats 40000000 in
theorem rm_law (l : Launch) (Z : State) (a0 : Array Value) (hw : ∀ d ∈ tables_1, d.before a0 Z = true) (ws : List Jvm.Cond) (p1 : Int32) (b0 b1 b2 b3 : Addr) (h0 : Heap) (n0 : Nat) (Z0 : n0 ≤ h0.size) (S_b0 : Sta Z h0 "com/example/rensou/rensou/wordnet/PartOfSpeech" "NOUN" "Lcom/example/rensou/rensou/wordnet/PartOfSpeech;" (.ref b0)) (S_b1 : Sta Z h0 "com/example/rensou/rensou/wordnet/PartOfSpeech" "VERB" "Lcom/example/rensou/rensou/wordnet/PartOfSpeech;" (.ref b1)) (S_b2 : Sta Z h0 "com/example/rensou/rensou/wordnet/PartOfSpeech" "ADJECTIVE" "Lcom/example/rensou/rensou/wordnet/PartOfSpeech;" (.ref b2)) (S_b3 : Sta Z h0 "com/example/rensou/rensou/wordnet/PartOfSpeech" "ADVERB" "Lcom/example/rensou/rensou/wordnet/PartOfSpeech;" (.ref b3)) (E_b0 : Exa Z h0 b0 "com/example/rensou/rensou/wordnet/PartOfSpeech") (E_b1 : Exa Z h0 b1 "com/example/rensou/rensou/wordnet/PartOfSpeech") (E_b2 : Exa Z h0 b2 "com/example/rensou/rensou/wordnet/PartOfSpeech") (E_b3 : Exa Z h0 b3 "com/example/rensou/rensou/wordnet/PartOfSpeech") (F_letter_b0 : Fld Z h0 b0 "com/example/rensou/rensou/wordnet/PartOfSpeech" "letter" "C" (.int (110 : Int32))) (F_letter_b1 : Fld Z h0 b1 "com/example/rensou/rensou/wordnet/PartOfSpeech" "letter" "C" (.int (118 : Int32))) (F_letter_b2 : Fld Z h0 b2 "com/example/rensou/rensou/wordnet/PartOfSpeech" "letter" "C" (.int (97 : Int32))) (F_letter_b3 : Fld Z h0 b3 "com/example/rensou/rensou/wordnet/PartOfSpeech" "letter" "C" (.int (114 : Int32))) (d_b0 : ¬ (b0 = b1)) (d_b2 : ¬ (b2 = b1)) (d_b3 : ¬ (b3 = b1)) :
    MetFree l x (head1 (Jvm.Cond.code x code maxLocals ret :: ws) room_1) (fun a U => a = #[(.int p1)] ∧ Z.Warmed39 U.vm ∧ U.heap = h0) (fun _ _ _ _ _ => True) (fun _ U o U' => ∃ v L, o = .returned v ∧ Q0 n0 v U'.heap L ∧ FrameEnd U o U' L room_1.cells room_1.slots) := by
  refine MetFree.of_bodySF (plainFor_of_name pn_com_example_rensou_rensou_wordnet_PartOfSpeechInflectsFirstWordPinLaw) hisR ?_
  intro p e s m args below meth c s₁ Bd hml0 hP hK
  obtain ⟨rfl, hZ, hh⟩ := hP
  have hx := Bd.exec
  have hby := Bd.bytes
  have hml : c.maxLocals = 5 := hml0
  have hown : s.vm.findClass "com/example/rensou/rensou/wordnet/PartOfSpeechInflectsFirstWordPinLaw" = some m.cls := findClass_of_methodNamed Bd.named
  have hnm := (name_of_methodNamed Bd.named Bd.method).1
  have X0 : Stand p l e room_1 s m #[(.int p1)] below meth c s₁ [] 0 0 := Stand.of_body Bd
  have e0 : s₁.heap = h0 := by rw [← hh, Bd.state]; rfl
  have N0 := Fr.nil n0
  obtain ⟨A0, hA0⟩ : ∃ A, A = s₁.setTop (entryFrame m #[(.int p1)] maxLocals) := ⟨_, rfl⟩
  have R0 : ∀ tgt, Steps p.tables e below (s₁.setTop (mkF m 0 #[.val (.int p1), .unset, .unset, .unset, .unset] [])) tgt → Steps p.tables e below A0 tgt := fun tgt hgo => by rw [hA0]; exact castTop (ef_rm_law m p1) hgo
  have R1 : ∀ tgt, Steps p.tables e below (s₁.setTop (mkF m 3 #[.val (.int p1), .unset, .unset, .unset, .unset] [(.int (p1 &&& (3 : Int32)))])) tgt → Steps p.tables e below A0 tgt := by
    intro tgt hgo
    refine R0 tgt ?_
    show Steps p.tables e below (s₁.setTop (mkF m 0 #[.val (.int p1), .unset, .unset, .unset, .unset] [])) _
    refine XS.iloadN X0.here hx rfl (hb hby at_0) rfl ?_
    show Steps p.tables e below (s₁.setTop (mkF m 1 #[.val (.int p1), .unset, .unset, .unset, .unset] [(.int p1)])) _
    refine XS.iconst X0.here hx rfl (hb hby at_1) ?_
    show Steps p.tables e below (s₁.setTop (mkF m 2 #[.val (.int p1), .unset, .unset, .unset, .unset] [(.int (3 : Int32)), (.int p1)])) _
    refine XS.iand X0.here hx rfl (hb hby at_2) rfl ?_
    show Steps p.tables e below (s₁.setTop (mkF m 3 #[.val (.int p1), .unset, .unset, .unset, .unset] [(.int (p1 &&& (3 : Int32)))])) _
    exact hgo
  obtain ⟨k, e_k⟩ : ∃ z : Int32, z = (p1 &&& (3 : Int32)) := ⟨_, rfl⟩
  rw [← e_k] at R1
  have R3 : ∀ tgt, Steps p.tables e below (s₁.setTop (mkF m 5 #[.val (.int p1), .val (.int k), .unset, .unset, .unset] [(.int k)])) tgt → Steps p.tables e below A0 tgt := by
    intro tgt hgo
    refine R1 tgt ?_
    show Steps p.tables e below (s₁.setTop (mkF m 3 #[.val (.int p1), .unset, .unset, .unset, .unset] [(.int k)])) _
    refine XS.istoreN X0.here hx rfl (hb hby at_3) rfl (l' := #[.val (.int p1), .val (.int k), .unset, .unset, .unset]) rfl ?_
    show Steps p.tables e below (s₁.setTop (mkF m 4 #[.val (.int p1), .val (.int k), .unset, .unset, .unset] [])) _
    refine XS.iloadN X0.here hx rfl (hb hby at_4) rfl ?_
    show Steps p.tables e below (s₁.setTop (mkF m 5 #[.val (.int p1), .val (.int k), .unset, .unset, .unset] [(.int k)])) _
    exact hgo
  by_cases hc5_2 : k = (0 : Int32)
  · have R4 : ∀ tgt, Steps p.tables e below (s₁.setTop (mkF m 8 #[.val (.int p1), .val (.int k), .unset, .unset, .unset] [])) tgt → Steps p.tables e below A0 tgt := by
      intro tgt hgo
      refine R3 tgt ?_
      show Steps p.tables e below (s₁.setTop (mkF m 5 #[.val (.int p1), .val (.int k), .unset, .unset, .unset] [(.int k)])) _
      refine XS.ifNo X0.here hx rfl (hb hby at_5) rfl ((if0 _ _).trans (teq hc5_2).2) ?_
      show Steps p.tables e below (s₁.setTop (mkF m 8 #[.val (.int p1), .val (.int k), .unset, .unset, .unset] [])) _
      exact hgo
    obtain ⟨T5, X5, e5, st5⟩ := getS2 X0 hx hZ hown (host := "") (Or.inl (hw _ (List.mem_of_getElem? (i := 0) rfl))) Via.refl e0 S_b0 (g := (mkF m 8 #[.val (.int p1), .val (.int k), .unset, .unset, .unset] [])) rfl (hb hby at_8)
    have R6 : ∀ tgt, Steps p.tables e below (T5.setTop (mkF m 11 #[.val (.int p1), .val (.int k), .unset, .unset, .unset] [(.ref b0)])) tgt → Steps p.tables e below A0 tgt := fun tgt hgo => R4 tgt (st5 tgt hgo)
    have R7 : ∀ tgt, Steps p.tables e below (T5.setTop (mkF m 52 #[.val (.int p1), .val (.int k), .val (.ref b0), .val (.int (0 : Int32)), .unset] [(.ref b0)])) tgt → Steps p.tables e below A0 tgt := by
      intro tgt hgo
      refine R6 tgt ?_
      show Steps p.tables e below (T5.setTop (mkF m 11 #[.val (.int p1), .val (.int k), .unset, .unset, .unset] [(.ref b0)])) _
      refine XS.astoreN X5.here hx rfl (hb hby at_11) rfl rfl (l' := #[.val (.int p1), .val (.int k), .val (.ref b0), .unset, .unset]) rfl ?_
      show Steps p.tables e below (T5.setTop (mkF m 12 #[.val (.int p1), .val (.int k), .val (.ref b0), .unset, .unset] [])) _
      refine XS.iconst X5.here hx rfl (hb hby at_12) ?_
      show Steps p.tables e below (T5.setTop (mkF m 13 #[.val (.int p1), .val (.int k), .val (.ref b0), .unset, .unset] [(.int (0 : Int32))])) _
      refine XS.istoreN X5.here hx rfl (hb hby at_13) rfl (l' := #[.val (.int p1), .val (.int k), .val (.ref b0), .val (.int (0 : Int32)), .unset]) rfl ?_
      show Steps p.tables e below (T5.setTop (mkF m 14 #[.val (.int p1), .val (.int k), .val (.ref b0), .val (.int (0 : Int32)), .unset] [])) _
      refine XS.goto X5.here hx rfl (pc0 := 14) (pc' := 51) rfl (hb hby at_14) (by decide) (by decide) ?_
      show Steps p.tables e below (T5.setTop (mkF m 51 #[.val (.int p1), .val (.int k), .val (.ref b0), .val (.int (0 : Int32)), .unset] [])) _
      refine XS.aloadN X5.here hx rfl (hb hby at_51) rfl rfl ?_
      show Steps p.tables e below (T5.setTop (mkF m 52 #[.val (.int p1), .val (.int k), .val (.ref b0), .val (.int (0 : Int32)), .unset] [(.ref b0)])) _
      exact hgo
    obtain ⟨cq8, kq8, q8a, q8b, q8c⟩ := isOf hZ e5 E_b0
    obtain ⟨_, _, ⟨T8, L8, k8, n8⟩, -, X8, ⟨Lc8, hQ8, l8, y8, z8⟩, st8⟩ := X5.virtualBack hx (y := (⟨"com/example/rensou/rensou/wordnet/PartOfSpeech", "inflectsFirstWord", "()Z"⟩ : MethodName)) (z := (⟨"com/example/rensou/rensou/wordnet/PartOfSpeech", "inflectsFirstWord", "()Z"⟩ : MethodName)) hown (mvT hZ (hw _ (List.mem_of_getElem? (i := 3) rfl))) (mvT hZ (hw _ (List.mem_of_getElem? (i := 4) rfl))) (notFace_of_selects (args := #[]) (mvT hZ (hw _ (List.mem_of_getElem? (i := 6) rfl)))) (mvT hZ (hw _ (List.mem_of_getElem? (i := 6) rfl))) (mvT hZ (hw _ (List.mem_of_getElem? (i := 5) rfl))) (by decide) (backOf (W := 0) (rm_inf l Z a0 hw [] b0 b1 (0 : Int32) h0 n0 Z0 S_b1 (if_neg d_b0)) hZ (hw _ (List.mem_of_getElem? (i := 7) rfl)) (hw _ (List.mem_of_getElem? (i := 1) rfl)) (by decide) (by decide)) q8a q8c (g := (mkF m 52 #[.val (.int p1), .val (.int k), .val (.ref b0), .val (.int (0 : Int32)), .unset] [(.ref b0)])) rfl (by rw [hml]; rfl) (Steps.refl _) (argsL := []) (rest := []) (lenOf pd_0 rfl) rfl (by show 2 * 0 + _ ≤ _; exact Nat.le_of_eq rfl) (hb hby at_52) (fun _ _ => ⟨rfl, e5, (by decide : 0 + 0 ≤ _), (by decide : 0 + 0 ≤ _)⟩)
    dsimp only [Pt.U, Pt.locs, Pt.cells, Pt.slots] at X8 l8 y8 z8 st8 hQ8
    subst l8 y8 z8
    obtain ⟨rfl, N8q, e8⟩ := hQ8
    have N8 := Fr.app N0 N8q
    have R9 : ∀ tgt, Steps p.tables e below (T8.setTop (mkF m 55 #[.val (.int p1), .val (.int k), .val (.ref b0), .val (.int (0 : Int32)), .unset] [(.int (0 : Int32))])) tgt → Steps p.tables e below A0 tgt := fun tgt hgo => R7 tgt (st8.trans hgo)
    have R10 : ∀ tgt, Steps p.tables e below (T8.setTop (mkF m 66 #[.val (.int p1), .val (.int k), .val (.ref b0), .val (.int (0 : Int32)), .val (.int (0 : Int32))] [(.ref b0), (.int (0 : Int32))])) tgt → Steps p.tables e below A0 tgt := by
      intro tgt hgo
      refine R9 tgt ?_
      show Steps p.tables e below (T8.setTop (mkF m 55 #[.val (.int p1), .val (.int k), .val (.ref b0), .val (.int (0 : Int32)), .unset] [(.int (0 : Int32))])) _
      refine XS.istore X8.here hx rfl (hb hby at_55) rfl (l' := #[.val (.int p1), .val (.int k), .val (.ref b0), .val (.int (0 : Int32)), .val (.int (0 : Int32))]) rfl ?_
      show Steps p.tables e below (T8.setTop (mkF m 57 #[.val (.int p1), .val (.int k), .val (.ref b0), .val (.int (0 : Int32)), .val (.int (0 : Int32))] [])) _
      refine XS.iload X8.here hx rfl (hb hby at_57) rfl ?_
      show Steps p.tables e below (T8.setTop (mkF m 59 #[.val (.int p1), .val (.int k), .val (.ref b0), .val (.int (0 : Int32)), .val (.int (0 : Int32))] [(.int (0 : Int32))])) _
      refine XS.iloadN X8.here hx rfl (hb hby at_59) rfl ?_
      show Steps p.tables e below (T8.setTop (mkF m 60 #[.val (.int p1), .val (.int k), .val (.ref b0), .val (.int (0 : Int32)), .val (.int (0 : Int32))] [(.int (0 : Int32)), (.int (0 : Int32))])) _
      refine XS.icmpNo X8.here hx rfl (hb hby at_60) rfl (teq (by decide : (0 : Int32) = (0 : Int32))).2 ?_
      show Steps p.tables e below (T8.setTop (mkF m 63 #[.val (.int p1), .val (.int k), .val (.ref b0), .val (.int (0 : Int32)), .val (.int (0 : Int32))] [])) _
      refine XS.iload X8.here hx rfl (hb hby at_63) rfl ?_
      show Steps p.tables e below (T8.setTop (mkF m 65 #[.val (.int p1), .val (.int k), .val (.ref b0), .val (.int (0 : Int32)), .val (.int (0 : Int32))] [(.int (0 : Int32))])) _
      refine XS.aloadN X8.here hx rfl (hb hby at_65) rfl rfl ?_
      show Steps p.tables e below (T8.setTop (mkF m 66 #[.val (.int p1), .val (.int k), .val (.ref b0), .val (.int (0 : Int32)), .val (.int (0 : Int32))] [(.ref b0), (.int (0 : Int32))])) _
      exact hgo
    obtain ⟨cq11, kq11, q11a, q11b, q11c⟩ := isOf hZ e8 E_b0
    obtain ⟨_, _, ⟨T11, L11, k11, n11⟩, -, X11, ⟨Lc11, hQ11, l11, y11, z11⟩, st11⟩ := X8.virtualBack hx (y := (⟨"com/example/rensou/rensou/wordnet/PartOfSpeech", "letter", "()C"⟩ : MethodName)) (z := (⟨"com/example/rensou/rensou/wordnet/PartOfSpeech", "letter", "()C"⟩ : MethodName)) hown (mvT hZ (hw _ (List.mem_of_getElem? (i := 10) rfl))) (mvT hZ (hw _ (List.mem_of_getElem? (i := 11) rfl))) (notFace_of_selects (args := #[]) (mvT hZ (hw _ (List.mem_of_getElem? (i := 13) rfl)))) (mvT hZ (hw _ (List.mem_of_getElem? (i := 13) rfl))) (mvT hZ (hw _ (List.mem_of_getElem? (i := 12) rfl))) (by decide) (backOf (W := 1) (rm_let l Z a0 hw [] b0 (110 : Int32) h0 n0 Z0 F_letter_b0 (by decide)) hZ (hw _ (List.mem_of_getElem? (i := 14) rfl)) (hw _ (List.mem_of_getElem? (i := 1) rfl)) (by decide) (by decide)) q11a q11c (g := (mkF m 66 #[.val (.int p1), .val (.int k), .val (.ref b0), .val (.int (0 : Int32)), .val (.int (0 : Int32))] [(.ref b0), (.int (0 : Int32))])) rfl (by rw [hml]; rfl) (Steps.refl _) (argsL := []) (rest := [(.int (0 : Int32))]) (lenOf pd_1 rfl) rfl (by show 2 * 0 + _ ≤ _; exact Nat.le_of_eq rfl) (hb hby at_66) (fun _ _ => ⟨rfl, e8, (by decide : 0 + 0 ≤ _), (by decide : 0 + 0 ≤ _)⟩)
    dsimp only [Pt.U, Pt.locs, Pt.cells, Pt.slots] at X11 l11 y11 z11 st11 hQ11
    subst l11 y11 z11
    obtain ⟨rfl, N11q, e11⟩ := hQ11
    have N11 := Fr.app N8 N11q
    have R12 : ∀ tgt, Steps p.tables e below (T11.setTop (mkF m 69 #[.val (.int p1), .val (.int k), .val (.ref b0), .val (.int (0 : Int32)), .val (.int (0 : Int32))] [(.int (110 : Int32)), (.int (0 : Int32))])) tgt → Steps p.tables e below A0 tgt := fun tgt hgo => R10 tgt (st11.trans hgo)
    have R13 : ∀ tgt, Steps p.tables e below (T11.setTop (mkF m 87 #[.val (.int p1), .val (.int k), .val (.ref b0), .val (.int (0 : Int32)), .val (.int (0 : Int32))] [(.int (1 : Int32))])) tgt → Steps p.tables e below A0 tgt := by
      intro tgt hgo
      refine R12 tgt ?_
      show Steps p.tables e below (T11.setTop (mkF m 69 #[.val (.int p1), .val (.int k), .val (.ref b0), .val (.int (0 : Int32)), .val (.int (0 : Int32))] [(.int (110 : Int32)), (.int (0 : Int32))])) _
      refine XS.bipush X11.here hx rfl (hb hby at_69) ?_
      show Steps p.tables e below (T11.setTop (mkF m 71 #[.val (.int p1), .val (.int k), .val (.ref b0), .val (.int (0 : Int32)), .val (.int (0 : Int32))] [(.int (118 : Int32)), (.int (110 : Int32)), (.int (0 : Int32))])) _
      refine XS.icmpYes X11.here hx rfl (pc0 := 71) (pc' := 78) rfl (hb hby at_71) rfl (feq (by decide : ¬ ((110 : Int32) = (118 : Int32)))).2 (by decide) (by decide) ?_
      show Steps p.tables e below (T11.setTop (mkF m 78 #[.val (.int p1), .val (.int k), .val (.ref b0), .val (.int (0 : Int32)), .val (.int (0 : Int32))] [(.int (0 : Int32))])) _
      refine XS.iconst X11.here hx rfl (hb hby at_78) ?_
      show Steps p.tables e below (T11.setTop (mkF m 79 #[.val (.int p1), .val (.int k), .val (.ref b0), .val (.int (0 : Int32)), .val (.int (0 : Int32))] [(.int (0 : Int32)), (.int (0 : Int32))])) _
      refine XS.icmpNo X11.here hx rfl (hb hby at_79) rfl (teq (by decide : (0 : Int32) = (0 : Int32))).2 ?_
      show Steps p.tables e below (T11.setTop (mkF m 82 #[.val (.int p1), .val (.int k), .val (.ref b0), .val (.int (0 : Int32)), .val (.int (0 : Int32))] [])) _
      refine XS.iconst X11.here hx rfl (hb hby at_82) ?_
      show Steps p.tables e below (T11.setTop (mkF m 83 #[.val (.int p1), .val (.int k), .val (.ref b0), .val (.int (0 : Int32)), .val (.int (0 : Int32))] [(.int (1 : Int32))])) _
      refine XS.goto X11.here hx rfl (pc0 := 83) (pc' := 87) rfl (hb hby at_83) (by decide) (by decide) ?_
      show Steps p.tables e below (T11.setTop (mkF m 87 #[.val (.int p1), .val (.int k), .val (.ref b0), .val (.int (0 : Int32)), .val (.int (0 : Int32))] [(.int (1 : Int32))])) _
      exact hgo
    subst hA0
    obtain ⟨fs, hr, hrun, hended, hW, hsame⟩ := X11.leave (v := some (.int (1 : Int32))) (fun h => by rw [Bd.returns] at h; cases h)
    refine ⟨_, _, R13 _ ?_, hrun, hended, _, _, rfl, ?_, ⟨_, rfl⟩, hW, hsame.mono (by decide) (by decide)⟩
    · show Steps p.tables e below (T11.setTop (mkF m 87 #[.val (.int p1), .val (.int k), .val (.ref b0), .val (.int (0 : Int32)), .val (.int (0 : Int32))] [(.int (1 : Int32))])) _
      exact retN X11 hx (t := .boolean) Bd.returns (by simp) (hb hby at_87) hr
    · show Q0 n0 _ T11.heap _
      rw [e11]
      exact ⟨rfl, N11⟩
  · have R15 : ∀ tgt, Steps p.tables e below (s₁.setTop (mkF m 19 #[.val (.int p1), .val (.int k), .unset, .unset, .unset] [(.int (1 : Int32)), (.int k)])) tgt → Steps p.tables e below A0 tgt := by
      intro tgt hgo
      refine R3 tgt ?_
      show Steps p.tables e below (s₁.setTop (mkF m 5 #[.val (.int p1), .val (.int k), .unset, .unset, .unset] [(.int k)])) _
      refine XS.ifYes X0.here hx rfl (pc0 := 5) (pc' := 17) rfl (hb hby at_5) rfl ((if0 _ _).trans (feq hc5_2).2) (by decide) (by decide) ?_
      show Steps p.tables e below (s₁.setTop (mkF m 17 #[.val (.int p1), .val (.int k), .unset, .unset, .unset] [])) _
      refine XS.iloadN X0.here hx rfl (hb hby at_17) rfl ?_
      show Steps p.tables e below (s₁.setTop (mkF m 18 #[.val (.int p1), .val (.int k), .unset, .unset, .unset] [(.int k)])) _
      refine XS.iconst X0.here hx rfl (hb hby at_18) ?_
      show Steps p.tables e below (s₁.setTop (mkF m 19 #[.val (.int p1), .val (.int k), .unset, .unset, .unset] [(.int (1 : Int32)), (.int k)])) _
      exact hgo
    by_cases hc19_14 : k = (1 : Int32)
    · have R16 : ∀ tgt, Steps p.tables e below (s₁.setTop (mkF m 22 #[.val (.int p1), .val (.int k), .unset, .unset, .unset] [])) tgt → Steps p.tables e below A0 tgt := by
        intro tgt hgo
        refine R15 tgt ?_
        show Steps p.tables e below (s₁.setTop (mkF m 19 #[.val (.int p1), .val (.int k), .unset, .unset, .unset] [(.int (1 : Int32)), (.int k)])) _
        refine XS.icmpNo X0.here hx rfl (hb hby at_19) rfl (teq hc19_14).2 ?_
        show Steps p.tables e below (s₁.setTop (mkF m 22 #[.val (.int p1), .val (.int k), .unset, .unset, .unset] [])) _
        exact hgo
      obtain ⟨T17, X17, e17, st17⟩ := getS2 X0 hx hZ hown (host := "") (Or.inl (hw _ (List.mem_of_getElem? (i := 21) rfl))) Via.refl e0 S_b1 (g := (mkF m 22 #[.val (.int p1), .val (.int k), .unset, .unset, .unset] [])) rfl (hb hby at_22)
      have R18 : ∀ tgt, Steps p.tables e below (T17.setTop (mkF m 25 #[.val (.int p1), .val (.int k), .unset, .unset, .unset] [(.ref b1)])) tgt → Steps p.tables e below A0 tgt := fun tgt hgo => R16 tgt (st17 tgt hgo)
      have R19 : ∀ tgt, Steps p.tables e below (T17.setTop (mkF m 52 #[.val (.int p1), .val (.int k), .val (.ref b1), .val (.int (1 : Int32)), .unset] [(.ref b1)])) tgt → Steps p.tables e below A0 tgt := by
        intro tgt hgo
        refine R18 tgt ?_
        show Steps p.tables e below (T17.setTop (mkF m 25 #[.val (.int p1), .val (.int k), .unset, .unset, .unset] [(.ref b1)])) _
        refine XS.astoreN X17.here hx rfl (hb hby at_25) rfl rfl (l' := #[.val (.int p1), .val (.int k), .val (.ref b1), .unset, .unset]) rfl ?_
        show Steps p.tables e below (T17.setTop (mkF m 26 #[.val (.int p1), .val (.int k), .val (.ref b1), .unset, .unset] [])) _
        refine XS.iconst X17.here hx rfl (hb hby at_26) ?_
        show Steps p.tables e below (T17.setTop (mkF m 27 #[.val (.int p1), .val (.int k), .val (.ref b1), .unset, .unset] [(.int (1 : Int32))])) _
        refine XS.istoreN X17.here hx rfl (hb hby at_27) rfl (l' := #[.val (.int p1), .val (.int k), .val (.ref b1), .val (.int (1 : Int32)), .unset]) rfl ?_
        show Steps p.tables e below (T17.setTop (mkF m 28 #[.val (.int p1), .val (.int k), .val (.ref b1), .val (.int (1 : Int32)), .unset] [])) _
        refine XS.goto X17.here hx rfl (pc0 := 28) (pc' := 51) rfl (hb hby at_28) (by decide) (by decide) ?_
        show Steps p.tables e below (T17.setTop (mkF m 51 #[.val (.int p1), .val (.int k), .val (.ref b1), .val (.int (1 : Int32)), .unset] [])) _
        refine XS.aloadN X17.here hx rfl (hb hby at_51) rfl rfl ?_
        show Steps p.tables e below (T17.setTop (mkF m 52 #[.val (.int p1), .val (.int k), .val (.ref b1), .val (.int (1 : Int32)), .unset] [(.ref b1)])) _
        exact hgo
      obtain ⟨cq20, kq20, q20a, q20b, q20c⟩ := isOf hZ e17 E_b1
      obtain ⟨_, _, ⟨T20, L20, k20, n20⟩, -, X20, ⟨Lc20, hQ20, l20, y20, z20⟩, st20⟩ := X17.virtualBack hx (y := (⟨"com/example/rensou/rensou/wordnet/PartOfSpeech", "inflectsFirstWord", "()Z"⟩ : MethodName)) (z := (⟨"com/example/rensou/rensou/wordnet/PartOfSpeech", "inflectsFirstWord", "()Z"⟩ : MethodName)) hown (mvT hZ (hw _ (List.mem_of_getElem? (i := 3) rfl))) (mvT hZ (hw _ (List.mem_of_getElem? (i := 4) rfl))) (notFace_of_selects (args := #[]) (mvT hZ (hw _ (List.mem_of_getElem? (i := 6) rfl)))) (mvT hZ (hw _ (List.mem_of_getElem? (i := 6) rfl))) (mvT hZ (hw _ (List.mem_of_getElem? (i := 5) rfl))) (by decide) (backOf (W := 0) (rm_inf l Z a0 hw [] b1 b1 (1 : Int32) h0 n0 Z0 S_b1 (if_pos rfl)) hZ (hw _ (List.mem_of_getElem? (i := 7) rfl)) (hw _ (List.mem_of_getElem? (i := 1) rfl)) (by decide) (by decide)) q20a q20c (g := (mkF m 52 #[.val (.int p1), .val (.int k), .val (.ref b1), .val (.int (1 : Int32)), .unset] [(.ref b1)])) rfl (by rw [hml]; rfl) (Steps.refl _) (argsL := []) (rest := []) (lenOf pd_0 rfl) rfl (by show 2 * 0 + _ ≤ _; exact Nat.le_of_eq rfl) (hb hby at_52) (fun _ _ => ⟨rfl, e17, (by decide : 0 + 0 ≤ _), (by decide : 0 + 0 ≤ _)⟩)
      dsimp only [Pt.U, Pt.locs, Pt.cells, Pt.slots] at X20 l20 y20 z20 st20 hQ20
      subst l20 y20 z20
      obtain ⟨rfl, N20q, e20⟩ := hQ20
      have N20 := Fr.app N0 N20q
      have R21 : ∀ tgt, Steps p.tables e below (T20.setTop (mkF m 55 #[.val (.int p1), .val (.int k), .val (.ref b1), .val (.int (1 : Int32)), .unset] [(.int (1 : Int32))])) tgt → Steps p.tables e below A0 tgt := fun tgt hgo => R19 tgt (st20.trans hgo)
      have R22 : ∀ tgt, Steps p.tables e below (T20.setTop (mkF m 66 #[.val (.int p1), .val (.int k), .val (.ref b1), .val (.int (1 : Int32)), .val (.int (1 : Int32))] [(.ref b1), (.int (1 : Int32))])) tgt → Steps p.tables e below A0 tgt := by
        intro tgt hgo
        refine R21 tgt ?_
        show Steps p.tables e below (T20.setTop (mkF m 55 #[.val (.int p1), .val (.int k), .val (.ref b1), .val (.int (1 : Int32)), .unset] [(.int (1 : Int32))])) _
        refine XS.istore X20.here hx rfl (hb hby at_55) rfl (l' := #[.val (.int p1), .val (.int k), .val (.ref b1), .val (.int (1 : Int32)), .val (.int (1 : Int32))]) rfl ?_
        show Steps p.tables e below (T20.setTop (mkF m 57 #[.val (.int p1), .val (.int k), .val (.ref b1), .val (.int (1 : Int32)), .val (.int (1 : Int32))] [])) _
        refine XS.iload X20.here hx rfl (hb hby at_57) rfl ?_
        show Steps p.tables e below (T20.setTop (mkF m 59 #[.val (.int p1), .val (.int k), .val (.ref b1), .val (.int (1 : Int32)), .val (.int (1 : Int32))] [(.int (1 : Int32))])) _
        refine XS.iloadN X20.here hx rfl (hb hby at_59) rfl ?_
        show Steps p.tables e below (T20.setTop (mkF m 60 #[.val (.int p1), .val (.int k), .val (.ref b1), .val (.int (1 : Int32)), .val (.int (1 : Int32))] [(.int (1 : Int32)), (.int (1 : Int32))])) _
        refine XS.icmpNo X20.here hx rfl (hb hby at_60) rfl (teq (by decide : (1 : Int32) = (1 : Int32))).2 ?_
        show Steps p.tables e below (T20.setTop (mkF m 63 #[.val (.int p1), .val (.int k), .val (.ref b1), .val (.int (1 : Int32)), .val (.int (1 : Int32))] [])) _
        refine XS.iload X20.here hx rfl (hb hby at_63) rfl ?_
        show Steps p.tables e below (T20.setTop (mkF m 65 #[.val (.int p1), .val (.int k), .val (.ref b1), .val (.int (1 : Int32)), .val (.int (1 : Int32))] [(.int (1 : Int32))])) _
        refine XS.aloadN X20.here hx rfl (hb hby at_65) rfl rfl ?_
        show Steps p.tables e below (T20.setTop (mkF m 66 #[.val (.int p1), .val (.int k), .val (.ref b1), .val (.int (1 : Int32)), .val (.int (1 : Int32))] [(.ref b1), (.int (1 : Int32))])) _
        exact hgo
      obtain ⟨cq23, kq23, q23a, q23b, q23c⟩ := isOf hZ e20 E_b1
      obtain ⟨_, _, ⟨T23, L23, k23, n23⟩, -, X23, ⟨Lc23, hQ23, l23, y23, z23⟩, st23⟩ := X20.virtualBack hx (y := (⟨"com/example/rensou/rensou/wordnet/PartOfSpeech", "letter", "()C"⟩ : MethodName)) (z := (⟨"com/example/rensou/rensou/wordnet/PartOfSpeech", "letter", "()C"⟩ : MethodName)) hown (mvT hZ (hw _ (List.mem_of_getElem? (i := 10) rfl))) (mvT hZ (hw _ (List.mem_of_getElem? (i := 11) rfl))) (notFace_of_selects (args := #[]) (mvT hZ (hw _ (List.mem_of_getElem? (i := 13) rfl)))) (mvT hZ (hw _ (List.mem_of_getElem? (i := 13) rfl))) (mvT hZ (hw _ (List.mem_of_getElem? (i := 12) rfl))) (by decide) (backOf (W := 1) (rm_let l Z a0 hw [] b1 (118 : Int32) h0 n0 Z0 F_letter_b1 (by decide)) hZ (hw _ (List.mem_of_getElem? (i := 14) rfl)) (hw _ (List.mem_of_getElem? (i := 1) rfl)) (by decide) (by decide)) q23a q23c (g := (mkF m 66 #[.val (.int p1), .val (.int k), .val (.ref b1), .val (.int (1 : Int32)), .val (.int (1 : Int32))] [(.ref b1), (.int (1 : Int32))])) rfl (by rw [hml]; rfl) (Steps.refl _) (argsL := []) (rest := [(.int (1 : Int32))]) (lenOf pd_1 rfl) rfl (by show 2 * 0 + _ ≤ _; exact Nat.le_of_eq rfl) (hb hby at_66) (fun _ _ => ⟨rfl, e20, (by decide : 0 + 0 ≤ _), (by decide : 0 + 0 ≤ _)⟩)
      dsimp only [Pt.U, Pt.locs, Pt.cells, Pt.slots] at X23 l23 y23 z23 st23 hQ23
      subst l23 y23 z23
      obtain ⟨rfl, N23q, e23⟩ := hQ23
      have N23 := Fr.app N20 N23q
      have R24 : ∀ tgt, Steps p.tables e below (T23.setTop (mkF m 69 #[.val (.int p1), .val (.int k), .val (.ref b1), .val (.int (1 : Int32)), .val (.int (1 : Int32))] [(.int (118 : Int32)), (.int (1 : Int32))])) tgt → Steps p.tables e below A0 tgt := fun tgt hgo => R22 tgt (st23.trans hgo)
      have R25 : ∀ tgt, Steps p.tables e below (T23.setTop (mkF m 87 #[.val (.int p1), .val (.int k), .val (.ref b1), .val (.int (1 : Int32)), .val (.int (1 : Int32))] [(.int (1 : Int32))])) tgt → Steps p.tables e below A0 tgt := by
        intro tgt hgo
        refine R24 tgt ?_
        show Steps p.tables e below (T23.setTop (mkF m 69 #[.val (.int p1), .val (.int k), .val (.ref b1), .val (.int (1 : Int32)), .val (.int (1 : Int32))] [(.int (118 : Int32)), (.int (1 : Int32))])) _
        refine XS.bipush X23.here hx rfl (hb hby at_69) ?_
        show Steps p.tables e below (T23.setTop (mkF m 71 #[.val (.int p1), .val (.int k), .val (.ref b1), .val (.int (1 : Int32)), .val (.int (1 : Int32))] [(.int (118 : Int32)), (.int (118 : Int32)), (.int (1 : Int32))])) _
        refine XS.icmpNo X23.here hx rfl (hb hby at_71) rfl (teq (by decide : (118 : Int32) = (118 : Int32))).2 ?_
        show Steps p.tables e below (T23.setTop (mkF m 74 #[.val (.int p1), .val (.int k), .val (.ref b1), .val (.int (1 : Int32)), .val (.int (1 : Int32))] [(.int (1 : Int32))])) _
        refine XS.iconst X23.here hx rfl (hb hby at_74) ?_
        show Steps p.tables e below (T23.setTop (mkF m 75 #[.val (.int p1), .val (.int k), .val (.ref b1), .val (.int (1 : Int32)), .val (.int (1 : Int32))] [(.int (1 : Int32)), (.int (1 : Int32))])) _
        refine XS.goto X23.here hx rfl (pc0 := 75) (pc' := 79) rfl (hb hby at_75) (by decide) (by decide) ?_
        show Steps p.tables e below (T23.setTop (mkF m 79 #[.val (.int p1), .val (.int k), .val (.ref b1), .val (.int (1 : Int32)), .val (.int (1 : Int32))] [(.int (1 : Int32)), (.int (1 : Int32))])) _
        refine XS.icmpNo X23.here hx rfl (hb hby at_79) rfl (teq (by decide : (1 : Int32) = (1 : Int32))).2 ?_
        show Steps p.tables e below (T23.setTop (mkF m 82 #[.val (.int p1), .val (.int k), .val (.ref b1), .val (.int (1 : Int32)), .val (.int (1 : Int32))] [])) _
        refine XS.iconst X23.here hx rfl (hb hby at_82) ?_
        show Steps p.tables e below (T23.setTop (mkF m 83 #[.val (.int p1), .val (.int k), .val (.ref b1), .val (.int (1 : Int32)), .val (.int (1 : Int32))] [(.int (1 : Int32))])) _
        refine XS.goto X23.here hx rfl (pc0 := 83) (pc' := 87) rfl (hb hby at_83) (by decide) (by decide) ?_
        show Steps p.tables e below (T23.setTop (mkF m 87 #[.val (.int p1), .val (.int k), .val (.ref b1), .val (.int (1 : Int32)), .val (.int (1 : Int32))] [(.int (1 : Int32))])) _
        exact hgo
      subst hA0
      obtain ⟨fs, hr, hrun, hended, hW, hsame⟩ := X23.leave (v := some (.int (1 : Int32))) (fun h => by rw [Bd.returns] at h; cases h)
      refine ⟨_, _, R25 _ ?_, hrun, hended, _, _, rfl, ?_, ⟨_, rfl⟩, hW, hsame.mono (by decide) (by decide)⟩
      · show Steps p.tables e below (T23.setTop (mkF m 87 #[.val (.int p1), .val (.int k), .val (.ref b1), .val (.int (1 : Int32)), .val (.int (1 : Int32))] [(.int (1 : Int32))])) _
        exact retN X23 hx (t := .boolean) Bd.returns (by simp) (hb hby at_87) hr
      · show Q0 n0 _ T23.heap _
        rw [e23]
        exact ⟨rfl, N23⟩
    · have R27 : ∀ tgt, Steps p.tables e below (s₁.setTop (mkF m 33 #[.val (.int p1), .val (.int k), .unset, .unset, .unset] [(.int (2 : Int32)), (.int k)])) tgt → Steps p.tables e below A0 tgt := by
        intro tgt hgo
        refine R15 tgt ?_
        show Steps p.tables e below (s₁.setTop (mkF m 19 #[.val (.int p1), .val (.int k), .unset, .unset, .unset] [(.int (1 : Int32)), (.int k)])) _
        refine XS.icmpYes X0.here hx rfl (pc0 := 19) (pc' := 31) rfl (hb hby at_19) rfl (feq hc19_14).2 (by decide) (by decide) ?_
        show Steps p.tables e below (s₁.setTop (mkF m 31 #[.val (.int p1), .val (.int k), .unset, .unset, .unset] [])) _
        refine XS.iloadN X0.here hx rfl (hb hby at_31) rfl ?_
        show Steps p.tables e below (s₁.setTop (mkF m 32 #[.val (.int p1), .val (.int k), .unset, .unset, .unset] [(.int k)])) _
        refine XS.iconst X0.here hx rfl (hb hby at_32) ?_
        show Steps p.tables e below (s₁.setTop (mkF m 33 #[.val (.int p1), .val (.int k), .unset, .unset, .unset] [(.int (2 : Int32)), (.int k)])) _
        exact hgo
      by_cases hc33_26 : k = (2 : Int32)
      · have R28 : ∀ tgt, Steps p.tables e below (s₁.setTop (mkF m 36 #[.val (.int p1), .val (.int k), .unset, .unset, .unset] [])) tgt → Steps p.tables e below A0 tgt := by
          intro tgt hgo
          refine R27 tgt ?_
          show Steps p.tables e below (s₁.setTop (mkF m 33 #[.val (.int p1), .val (.int k), .unset, .unset, .unset] [(.int (2 : Int32)), (.int k)])) _
          refine XS.icmpNo X0.here hx rfl (hb hby at_33) rfl (teq hc33_26).2 ?_
          show Steps p.tables e below (s₁.setTop (mkF m 36 #[.val (.int p1), .val (.int k), .unset, .unset, .unset] [])) _
          exact hgo
        obtain ⟨T29, X29, e29, st29⟩ := getS2 X0 hx hZ hown (host := "") (Or.inl (hw _ (List.mem_of_getElem? (i := 19) rfl))) Via.refl e0 S_b2 (g := (mkF m 36 #[.val (.int p1), .val (.int k), .unset, .unset, .unset] [])) rfl (hb hby at_36)
        have R30 : ∀ tgt, Steps p.tables e below (T29.setTop (mkF m 39 #[.val (.int p1), .val (.int k), .unset, .unset, .unset] [(.ref b2)])) tgt → Steps p.tables e below A0 tgt := fun tgt hgo => R28 tgt (st29 tgt hgo)
        have R31 : ∀ tgt, Steps p.tables e below (T29.setTop (mkF m 52 #[.val (.int p1), .val (.int k), .val (.ref b2), .val (.int (0 : Int32)), .unset] [(.ref b2)])) tgt → Steps p.tables e below A0 tgt := by
          intro tgt hgo
          refine R30 tgt ?_
          show Steps p.tables e below (T29.setTop (mkF m 39 #[.val (.int p1), .val (.int k), .unset, .unset, .unset] [(.ref b2)])) _
          refine XS.astoreN X29.here hx rfl (hb hby at_39) rfl rfl (l' := #[.val (.int p1), .val (.int k), .val (.ref b2), .unset, .unset]) rfl ?_
          show Steps p.tables e below (T29.setTop (mkF m 40 #[.val (.int p1), .val (.int k), .val (.ref b2), .unset, .unset] [])) _
          refine XS.iconst X29.here hx rfl (hb hby at_40) ?_
          show Steps p.tables e below (T29.setTop (mkF m 41 #[.val (.int p1), .val (.int k), .val (.ref b2), .unset, .unset] [(.int (0 : Int32))])) _
          refine XS.istoreN X29.here hx rfl (hb hby at_41) rfl (l' := #[.val (.int p1), .val (.int k), .val (.ref b2), .val (.int (0 : Int32)), .unset]) rfl ?_
          show Steps p.tables e below (T29.setTop (mkF m 42 #[.val (.int p1), .val (.int k), .val (.ref b2), .val (.int (0 : Int32)), .unset] [])) _
          refine XS.goto X29.here hx rfl (pc0 := 42) (pc' := 51) rfl (hb hby at_42) (by decide) (by decide) ?_
          show Steps p.tables e below (T29.setTop (mkF m 51 #[.val (.int p1), .val (.int k), .val (.ref b2), .val (.int (0 : Int32)), .unset] [])) _
          refine XS.aloadN X29.here hx rfl (hb hby at_51) rfl rfl ?_
          show Steps p.tables e below (T29.setTop (mkF m 52 #[.val (.int p1), .val (.int k), .val (.ref b2), .val (.int (0 : Int32)), .unset] [(.ref b2)])) _
          exact hgo
        obtain ⟨cq32, kq32, q32a, q32b, q32c⟩ := isOf hZ e29 E_b2
        obtain ⟨_, _, ⟨T32, L32, k32, n32⟩, -, X32, ⟨Lc32, hQ32, l32, y32, z32⟩, st32⟩ := X29.virtualBack hx (y := (⟨"com/example/rensou/rensou/wordnet/PartOfSpeech", "inflectsFirstWord", "()Z"⟩ : MethodName)) (z := (⟨"com/example/rensou/rensou/wordnet/PartOfSpeech", "inflectsFirstWord", "()Z"⟩ : MethodName)) hown (mvT hZ (hw _ (List.mem_of_getElem? (i := 3) rfl))) (mvT hZ (hw _ (List.mem_of_getElem? (i := 4) rfl))) (notFace_of_selects (args := #[]) (mvT hZ (hw _ (List.mem_of_getElem? (i := 6) rfl)))) (mvT hZ (hw _ (List.mem_of_getElem? (i := 6) rfl))) (mvT hZ (hw _ (List.mem_of_getElem? (i := 5) rfl))) (by decide) (backOf (W := 0) (rm_inf l Z a0 hw [] b2 b1 (0 : Int32) h0 n0 Z0 S_b1 (if_neg d_b2)) hZ (hw _ (List.mem_of_getElem? (i := 7) rfl)) (hw _ (List.mem_of_getElem? (i := 1) rfl)) (by decide) (by decide)) q32a q32c (g := (mkF m 52 #[.val (.int p1), .val (.int k), .val (.ref b2), .val (.int (0 : Int32)), .unset] [(.ref b2)])) rfl (by rw [hml]; rfl) (Steps.refl _) (argsL := []) (rest := []) (lenOf pd_0 rfl) rfl (by show 2 * 0 + _ ≤ _; exact Nat.le_of_eq rfl) (hb hby at_52) (fun _ _ => ⟨rfl, e29, (by decide : 0 + 0 ≤ _), (by decide : 0 + 0 ≤ _)⟩)
        dsimp only [Pt.U, Pt.locs, Pt.cells, Pt.slots] at X32 l32 y32 z32 st32 hQ32
        subst l32 y32 z32
        obtain ⟨rfl, N32q, e32⟩ := hQ32
        have N32 := Fr.app N0 N32q
        have R33 : ∀ tgt, Steps p.tables e below (T32.setTop (mkF m 55 #[.val (.int p1), .val (.int k), .val (.ref b2), .val (.int (0 : Int32)), .unset] [(.int (0 : Int32))])) tgt → Steps p.tables e below A0 tgt := fun tgt hgo => R31 tgt (st32.trans hgo)
        have R34 : ∀ tgt, Steps p.tables e below (T32.setTop (mkF m 66 #[.val (.int p1), .val (.int k), .val (.ref b2), .val (.int (0 : Int32)), .val (.int (0 : Int32))] [(.ref b2), (.int (0 : Int32))])) tgt → Steps p.tables e below A0 tgt := by
          intro tgt hgo
          refine R33 tgt ?_
          show Steps p.tables e below (T32.setTop (mkF m 55 #[.val (.int p1), .val (.int k), .val (.ref b2), .val (.int (0 : Int32)), .unset] [(.int (0 : Int32))])) _
          refine XS.istore X32.here hx rfl (hb hby at_55) rfl (l' := #[.val (.int p1), .val (.int k), .val (.ref b2), .val (.int (0 : Int32)), .val (.int (0 : Int32))]) rfl ?_
          show Steps p.tables e below (T32.setTop (mkF m 57 #[.val (.int p1), .val (.int k), .val (.ref b2), .val (.int (0 : Int32)), .val (.int (0 : Int32))] [])) _
          refine XS.iload X32.here hx rfl (hb hby at_57) rfl ?_
          show Steps p.tables e below (T32.setTop (mkF m 59 #[.val (.int p1), .val (.int k), .val (.ref b2), .val (.int (0 : Int32)), .val (.int (0 : Int32))] [(.int (0 : Int32))])) _
          refine XS.iloadN X32.here hx rfl (hb hby at_59) rfl ?_
          show Steps p.tables e below (T32.setTop (mkF m 60 #[.val (.int p1), .val (.int k), .val (.ref b2), .val (.int (0 : Int32)), .val (.int (0 : Int32))] [(.int (0 : Int32)), (.int (0 : Int32))])) _
          refine XS.icmpNo X32.here hx rfl (hb hby at_60) rfl (teq (by decide : (0 : Int32) = (0 : Int32))).2 ?_
          show Steps p.tables e below (T32.setTop (mkF m 63 #[.val (.int p1), .val (.int k), .val (.ref b2), .val (.int (0 : Int32)), .val (.int (0 : Int32))] [])) _
          refine XS.iload X32.here hx rfl (hb hby at_63) rfl ?_
          show Steps p.tables e below (T32.setTop (mkF m 65 #[.val (.int p1), .val (.int k), .val (.ref b2), .val (.int (0 : Int32)), .val (.int (0 : Int32))] [(.int (0 : Int32))])) _
          refine XS.aloadN X32.here hx rfl (hb hby at_65) rfl rfl ?_
          show Steps p.tables e below (T32.setTop (mkF m 66 #[.val (.int p1), .val (.int k), .val (.ref b2), .val (.int (0 : Int32)), .val (.int (0 : Int32))] [(.ref b2), (.int (0 : Int32))])) _
          exact hgo
        obtain ⟨cq35, kq35, q35a, q35b, q35c⟩ := isOf hZ e32 E_b2
        obtain ⟨_, _, ⟨T35, L35, k35, n35⟩, -, X35, ⟨Lc35, hQ35, l35, y35, z35⟩, st35⟩ := X32.virtualBack hx (y := (⟨"com/example/rensou/rensou/wordnet/PartOfSpeech", "letter", "()C"⟩ : MethodName)) (z := (⟨"com/example/rensou/rensou/wordnet/PartOfSpeech", "letter", "()C"⟩ : MethodName)) hown (mvT hZ (hw _ (List.mem_of_getElem? (i := 10) rfl))) (mvT hZ (hw _ (List.mem_of_getElem? (i := 11) rfl))) (notFace_of_selects (args := #[]) (mvT hZ (hw _ (List.mem_of_getElem? (i := 13) rfl)))) (mvT hZ (hw _ (List.mem_of_getElem? (i := 13) rfl))) (mvT hZ (hw _ (List.mem_of_getElem? (i := 12) rfl))) (by decide) (backOf (W := 1) (rm_let l Z a0 hw [] b2 (97 : Int32) h0 n0 Z0 F_letter_b2 (by decide)) hZ (hw _ (List.mem_of_getElem? (i := 14) rfl)) (hw _ (List.mem_of_getElem? (i := 1) rfl)) (by decide) (by decide)) q35a q35c (g := (mkF m 66 #[.val (.int p1), .val (.int k), .val (.ref b2), .val (.int (0 : Int32)), .val (.int (0 : Int32))] [(.ref b2), (.int (0 : Int32))])) rfl (by rw [hml]; rfl) (Steps.refl _) (argsL := []) (rest := [(.int (0 : Int32))]) (lenOf pd_1 rfl) rfl (by show 2 * 0 + _ ≤ _; exact Nat.le_of_eq rfl) (hb hby at_66) (fun _ _ => ⟨rfl, e32, (by decide : 0 + 0 ≤ _), (by decide : 0 + 0 ≤ _)⟩)
        dsimp only [Pt.U, Pt.locs, Pt.cells, Pt.slots] at X35 l35 y35 z35 st35 hQ35
        subst l35 y35 z35
        obtain ⟨rfl, N35q, e35⟩ := hQ35
        have N35 := Fr.app N32 N35q
        have R36 : ∀ tgt, Steps p.tables e below (T35.setTop (mkF m 69 #[.val (.int p1), .val (.int k), .val (.ref b2), .val (.int (0 : Int32)), .val (.int (0 : Int32))] [(.int (97 : Int32)), (.int (0 : Int32))])) tgt → Steps p.tables e below A0 tgt := fun tgt hgo => R34 tgt (st35.trans hgo)
        have R37 : ∀ tgt, Steps p.tables e below (T35.setTop (mkF m 87 #[.val (.int p1), .val (.int k), .val (.ref b2), .val (.int (0 : Int32)), .val (.int (0 : Int32))] [(.int (1 : Int32))])) tgt → Steps p.tables e below A0 tgt := by
          intro tgt hgo
          refine R36 tgt ?_
          show Steps p.tables e below (T35.setTop (mkF m 69 #[.val (.int p1), .val (.int k), .val (.ref b2), .val (.int (0 : Int32)), .val (.int (0 : Int32))] [(.int (97 : Int32)), (.int (0 : Int32))])) _
          refine XS.bipush X35.here hx rfl (hb hby at_69) ?_
          show Steps p.tables e below (T35.setTop (mkF m 71 #[.val (.int p1), .val (.int k), .val (.ref b2), .val (.int (0 : Int32)), .val (.int (0 : Int32))] [(.int (118 : Int32)), (.int (97 : Int32)), (.int (0 : Int32))])) _
          refine XS.icmpYes X35.here hx rfl (pc0 := 71) (pc' := 78) rfl (hb hby at_71) rfl (feq (by decide : ¬ ((97 : Int32) = (118 : Int32)))).2 (by decide) (by decide) ?_
          show Steps p.tables e below (T35.setTop (mkF m 78 #[.val (.int p1), .val (.int k), .val (.ref b2), .val (.int (0 : Int32)), .val (.int (0 : Int32))] [(.int (0 : Int32))])) _
          refine XS.iconst X35.here hx rfl (hb hby at_78) ?_
          show Steps p.tables e below (T35.setTop (mkF m 79 #[.val (.int p1), .val (.int k), .val (.ref b2), .val (.int (0 : Int32)), .val (.int (0 : Int32))] [(.int (0 : Int32)), (.int (0 : Int32))])) _
          refine XS.icmpNo X35.here hx rfl (hb hby at_79) rfl (teq (by decide : (0 : Int32) = (0 : Int32))).2 ?_
          show Steps p.tables e below (T35.setTop (mkF m 82 #[.val (.int p1), .val (.int k), .val (.ref b2), .val (.int (0 : Int32)), .val (.int (0 : Int32))] [])) _
          refine XS.iconst X35.here hx rfl (hb hby at_82) ?_
          show Steps p.tables e below (T35.setTop (mkF m 83 #[.val (.int p1), .val (.int k), .val (.ref b2), .val (.int (0 : Int32)), .val (.int (0 : Int32))] [(.int (1 : Int32))])) _
          refine XS.goto X35.here hx rfl (pc0 := 83) (pc' := 87) rfl (hb hby at_83) (by decide) (by decide) ?_
          show Steps p.tables e below (T35.setTop (mkF m 87 #[.val (.int p1), .val (.int k), .val (.ref b2), .val (.int (0 : Int32)), .val (.int (0 : Int32))] [(.int (1 : Int32))])) _
          exact hgo
        subst hA0
        obtain ⟨fs, hr, hrun, hended, hW, hsame⟩ := X35.leave (v := some (.int (1 : Int32))) (fun h => by rw [Bd.returns] at h; cases h)
        refine ⟨_, _, R37 _ ?_, hrun, hended, _, _, rfl, ?_, ⟨_, rfl⟩, hW, hsame.mono (by decide) (by decide)⟩
        · show Steps p.tables e below (T35.setTop (mkF m 87 #[.val (.int p1), .val (.int k), .val (.ref b2), .val (.int (0 : Int32)), .val (.int (0 : Int32))] [(.int (1 : Int32))])) _
          exact retN X35 hx (t := .boolean) Bd.returns (by simp) (hb hby at_87) hr
        · show Q0 n0 _ T35.heap _
          rw [e35]
          exact ⟨rfl, N35⟩
      · have R38 : ∀ tgt, Steps p.tables e below (s₁.setTop (mkF m 45 #[.val (.int p1), .val (.int k), .unset, .unset, .unset] [])) tgt → Steps p.tables e below A0 tgt := by
          intro tgt hgo
          refine R27 tgt ?_
          show Steps p.tables e below (s₁.setTop (mkF m 33 #[.val (.int p1), .val (.int k), .unset, .unset, .unset] [(.int (2 : Int32)), (.int k)])) _
          refine XS.icmpYes X0.here hx rfl (pc0 := 33) (pc' := 45) rfl (hb hby at_33) rfl (feq hc33_26).2 (by decide) (by decide) ?_
          show Steps p.tables e below (s₁.setTop (mkF m 45 #[.val (.int p1), .val (.int k), .unset, .unset, .unset] [])) _
          exact hgo
        obtain ⟨T39, X39, e39, st39⟩ := getS2 X0 hx hZ hown (host := "") (Or.inl (hw _ (List.mem_of_getElem? (i := 17) rfl))) Via.refl e0 S_b3 (g := (mkF m 45 #[.val (.int p1), .val (.int k), .unset, .unset, .unset] [])) rfl (hb hby at_45)
        have R40 : ∀ tgt, Steps p.tables e below (T39.setTop (mkF m 48 #[.val (.int p1), .val (.int k), .unset, .unset, .unset] [(.ref b3)])) tgt → Steps p.tables e below A0 tgt := fun tgt hgo => R38 tgt (st39 tgt hgo)
        have R41 : ∀ tgt, Steps p.tables e below (T39.setTop (mkF m 52 #[.val (.int p1), .val (.int k), .val (.ref b3), .val (.int (0 : Int32)), .unset] [(.ref b3)])) tgt → Steps p.tables e below A0 tgt := by
          intro tgt hgo
          refine R40 tgt ?_
          show Steps p.tables e below (T39.setTop (mkF m 48 #[.val (.int p1), .val (.int k), .unset, .unset, .unset] [(.ref b3)])) _
          refine XS.astoreN X39.here hx rfl (hb hby at_48) rfl rfl (l' := #[.val (.int p1), .val (.int k), .val (.ref b3), .unset, .unset]) rfl ?_
          show Steps p.tables e below (T39.setTop (mkF m 49 #[.val (.int p1), .val (.int k), .val (.ref b3), .unset, .unset] [])) _
          refine XS.iconst X39.here hx rfl (hb hby at_49) ?_
          show Steps p.tables e below (T39.setTop (mkF m 50 #[.val (.int p1), .val (.int k), .val (.ref b3), .unset, .unset] [(.int (0 : Int32))])) _
          refine XS.istoreN X39.here hx rfl (hb hby at_50) rfl (l' := #[.val (.int p1), .val (.int k), .val (.ref b3), .val (.int (0 : Int32)), .unset]) rfl ?_
          show Steps p.tables e below (T39.setTop (mkF m 51 #[.val (.int p1), .val (.int k), .val (.ref b3), .val (.int (0 : Int32)), .unset] [])) _
          refine XS.aloadN X39.here hx rfl (hb hby at_51) rfl rfl ?_
          show Steps p.tables e below (T39.setTop (mkF m 52 #[.val (.int p1), .val (.int k), .val (.ref b3), .val (.int (0 : Int32)), .unset] [(.ref b3)])) _
          exact hgo
        obtain ⟨cq42, kq42, q42a, q42b, q42c⟩ := isOf hZ e39 E_b3
        obtain ⟨_, _, ⟨T42, L42, k42, n42⟩, -, X42, ⟨Lc42, hQ42, l42, y42, z42⟩, st42⟩ := X39.virtualBack hx (y := (⟨"com/example/rensou/rensou/wordnet/PartOfSpeech", "inflectsFirstWord", "()Z"⟩ : MethodName)) (z := (⟨"com/example/rensou/rensou/wordnet/PartOfSpeech", "inflectsFirstWord", "()Z"⟩ : MethodName)) hown (mvT hZ (hw _ (List.mem_of_getElem? (i := 3) rfl))) (mvT hZ (hw _ (List.mem_of_getElem? (i := 4) rfl))) (notFace_of_selects (args := #[]) (mvT hZ (hw _ (List.mem_of_getElem? (i := 6) rfl)))) (mvT hZ (hw _ (List.mem_of_getElem? (i := 6) rfl))) (mvT hZ (hw _ (List.mem_of_getElem? (i := 5) rfl))) (by decide) (backOf (W := 0) (rm_inf l Z a0 hw [] b3 b1 (0 : Int32) h0 n0 Z0 S_b1 (if_neg d_b3)) hZ (hw _ (List.mem_of_getElem? (i := 7) rfl)) (hw _ (List.mem_of_getElem? (i := 1) rfl)) (by decide) (by decide)) q42a q42c (g := (mkF m 52 #[.val (.int p1), .val (.int k), .val (.ref b3), .val (.int (0 : Int32)), .unset] [(.ref b3)])) rfl (by rw [hml]; rfl) (Steps.refl _) (argsL := []) (rest := []) (lenOf pd_0 rfl) rfl (by show 2 * 0 + _ ≤ _; exact Nat.le_of_eq rfl) (hb hby at_52) (fun _ _ => ⟨rfl, e39, (by decide : 0 + 0 ≤ _), (by decide : 0 + 0 ≤ _)⟩)
        dsimp only [Pt.U, Pt.locs, Pt.cells, Pt.slots] at X42 l42 y42 z42 st42 hQ42
        subst l42 y42 z42
        obtain ⟨rfl, N42q, e42⟩ := hQ42
        have N42 := Fr.app N0 N42q
        have R43 : ∀ tgt, Steps p.tables e below (T42.setTop (mkF m 55 #[.val (.int p1), .val (.int k), .val (.ref b3), .val (.int (0 : Int32)), .unset] [(.int (0 : Int32))])) tgt → Steps p.tables e below A0 tgt := fun tgt hgo => R41 tgt (st42.trans hgo)
        have R44 : ∀ tgt, Steps p.tables e below (T42.setTop (mkF m 66 #[.val (.int p1), .val (.int k), .val (.ref b3), .val (.int (0 : Int32)), .val (.int (0 : Int32))] [(.ref b3), (.int (0 : Int32))])) tgt → Steps p.tables e below A0 tgt := by
          intro tgt hgo
          refine R43 tgt ?_
          show Steps p.tables e below (T42.setTop (mkF m 55 #[.val (.int p1), .val (.int k), .val (.ref b3), .val (.int (0 : Int32)), .unset] [(.int (0 : Int32))])) _
          refine XS.istore X42.here hx rfl (hb hby at_55) rfl (l' := #[.val (.int p1), .val (.int k), .val (.ref b3), .val (.int (0 : Int32)), .val (.int (0 : Int32))]) rfl ?_
          show Steps p.tables e below (T42.setTop (mkF m 57 #[.val (.int p1), .val (.int k), .val (.ref b3), .val (.int (0 : Int32)), .val (.int (0 : Int32))] [])) _
          refine XS.iload X42.here hx rfl (hb hby at_57) rfl ?_
          show Steps p.tables e below (T42.setTop (mkF m 59 #[.val (.int p1), .val (.int k), .val (.ref b3), .val (.int (0 : Int32)), .val (.int (0 : Int32))] [(.int (0 : Int32))])) _
          refine XS.iloadN X42.here hx rfl (hb hby at_59) rfl ?_
          show Steps p.tables e below (T42.setTop (mkF m 60 #[.val (.int p1), .val (.int k), .val (.ref b3), .val (.int (0 : Int32)), .val (.int (0 : Int32))] [(.int (0 : Int32)), (.int (0 : Int32))])) _
          refine XS.icmpNo X42.here hx rfl (hb hby at_60) rfl (teq (by decide : (0 : Int32) = (0 : Int32))).2 ?_
          show Steps p.tables e below (T42.setTop (mkF m 63 #[.val (.int p1), .val (.int k), .val (.ref b3), .val (.int (0 : Int32)), .val (.int (0 : Int32))] [])) _
          refine XS.iload X42.here hx rfl (hb hby at_63) rfl ?_
          show Steps p.tables e below (T42.setTop (mkF m 65 #[.val (.int p1), .val (.int k), .val (.ref b3), .val (.int (0 : Int32)), .val (.int (0 : Int32))] [(.int (0 : Int32))])) _
          refine XS.aloadN X42.here hx rfl (hb hby at_65) rfl rfl ?_
          show Steps p.tables e below (T42.setTop (mkF m 66 #[.val (.int p1), .val (.int k), .val (.ref b3), .val (.int (0 : Int32)), .val (.int (0 : Int32))] [(.ref b3), (.int (0 : Int32))])) _
          exact hgo
        obtain ⟨cq45, kq45, q45a, q45b, q45c⟩ := isOf hZ e42 E_b3
        obtain ⟨_, _, ⟨T45, L45, k45, n45⟩, -, X45, ⟨Lc45, hQ45, l45, y45, z45⟩, st45⟩ := X42.virtualBack hx (y := (⟨"com/example/rensou/rensou/wordnet/PartOfSpeech", "letter", "()C"⟩ : MethodName)) (z := (⟨"com/example/rensou/rensou/wordnet/PartOfSpeech", "letter", "()C"⟩ : MethodName)) hown (mvT hZ (hw _ (List.mem_of_getElem? (i := 10) rfl))) (mvT hZ (hw _ (List.mem_of_getElem? (i := 11) rfl))) (notFace_of_selects (args := #[]) (mvT hZ (hw _ (List.mem_of_getElem? (i := 13) rfl)))) (mvT hZ (hw _ (List.mem_of_getElem? (i := 13) rfl))) (mvT hZ (hw _ (List.mem_of_getElem? (i := 12) rfl))) (by decide) (backOf (W := 1) (rm_let l Z a0 hw [] b3 (114 : Int32) h0 n0 Z0 F_letter_b3 (by decide)) hZ (hw _ (List.mem_of_getElem? (i := 14) rfl)) (hw _ (List.mem_of_getElem? (i := 1) rfl)) (by decide) (by decide)) q45a q45c (g := (mkF m 66 #[.val (.int p1), .val (.int k), .val (.ref b3), .val (.int (0 : Int32)), .val (.int (0 : Int32))] [(.ref b3), (.int (0 : Int32))])) rfl (by rw [hml]; rfl) (Steps.refl _) (argsL := []) (rest := [(.int (0 : Int32))]) (lenOf pd_1 rfl) rfl (by show 2 * 0 + _ ≤ _; exact Nat.le_of_eq rfl) (hb hby at_66) (fun _ _ => ⟨rfl, e42, (by decide : 0 + 0 ≤ _), (by decide : 0 + 0 ≤ _)⟩)
        dsimp only [Pt.U, Pt.locs, Pt.cells, Pt.slots] at X45 l45 y45 z45 st45 hQ45
        subst l45 y45 z45
        obtain ⟨rfl, N45q, e45⟩ := hQ45
        have N45 := Fr.app N42 N45q
        have R46 : ∀ tgt, Steps p.tables e below (T45.setTop (mkF m 69 #[.val (.int p1), .val (.int k), .val (.ref b3), .val (.int (0 : Int32)), .val (.int (0 : Int32))] [(.int (114 : Int32)), (.int (0 : Int32))])) tgt → Steps p.tables e below A0 tgt := fun tgt hgo => R44 tgt (st45.trans hgo)
        have R47 : ∀ tgt, Steps p.tables e below (T45.setTop (mkF m 87 #[.val (.int p1), .val (.int k), .val (.ref b3), .val (.int (0 : Int32)), .val (.int (0 : Int32))] [(.int (1 : Int32))])) tgt → Steps p.tables e below A0 tgt := by
          intro tgt hgo
          refine R46 tgt ?_
          show Steps p.tables e below (T45.setTop (mkF m 69 #[.val (.int p1), .val (.int k), .val (.ref b3), .val (.int (0 : Int32)), .val (.int (0 : Int32))] [(.int (114 : Int32)), (.int (0 : Int32))])) _
          refine XS.bipush X45.here hx rfl (hb hby at_69) ?_
          show Steps p.tables e below (T45.setTop (mkF m 71 #[.val (.int p1), .val (.int k), .val (.ref b3), .val (.int (0 : Int32)), .val (.int (0 : Int32))] [(.int (118 : Int32)), (.int (114 : Int32)), (.int (0 : Int32))])) _
          refine XS.icmpYes X45.here hx rfl (pc0 := 71) (pc' := 78) rfl (hb hby at_71) rfl (feq (by decide : ¬ ((114 : Int32) = (118 : Int32)))).2 (by decide) (by decide) ?_
          show Steps p.tables e below (T45.setTop (mkF m 78 #[.val (.int p1), .val (.int k), .val (.ref b3), .val (.int (0 : Int32)), .val (.int (0 : Int32))] [(.int (0 : Int32))])) _
          refine XS.iconst X45.here hx rfl (hb hby at_78) ?_
          show Steps p.tables e below (T45.setTop (mkF m 79 #[.val (.int p1), .val (.int k), .val (.ref b3), .val (.int (0 : Int32)), .val (.int (0 : Int32))] [(.int (0 : Int32)), (.int (0 : Int32))])) _
          refine XS.icmpNo X45.here hx rfl (hb hby at_79) rfl (teq (by decide : (0 : Int32) = (0 : Int32))).2 ?_
          show Steps p.tables e below (T45.setTop (mkF m 82 #[.val (.int p1), .val (.int k), .val (.ref b3), .val (.int (0 : Int32)), .val (.int (0 : Int32))] [])) _
          refine XS.iconst X45.here hx rfl (hb hby at_82) ?_
          show Steps p.tables e below (T45.setTop (mkF m 83 #[.val (.int p1), .val (.int k), .val (.ref b3), .val (.int (0 : Int32)), .val (.int (0 : Int32))] [(.int (1 : Int32))])) _
          refine XS.goto X45.here hx rfl (pc0 := 83) (pc' := 87) rfl (hb hby at_83) (by decide) (by decide) ?_
          show Steps p.tables e below (T45.setTop (mkF m 87 #[.val (.int p1), .val (.int k), .val (.ref b3), .val (.int (0 : Int32)), .val (.int (0 : Int32))] [(.int (1 : Int32))])) _
          exact hgo
        subst hA0
        obtain ⟨fs, hr, hrun, hended, hW, hsame⟩ := X45.leave (v := some (.int (1 : Int32))) (fun h => by rw [Bd.returns] at h; cases h)
        refine ⟨_, _, R47 _ ?_, hrun, hended, _, _, rfl, ?_, ⟨_, rfl⟩, hW, hsame.mono (by decide) (by decide)⟩
        · show Steps p.tables e below (T45.setTop (mkF m 87 #[.val (.int p1), .val (.int k), .val (.ref b3), .val (.int (0 : Int32)), .val (.int (0 : Int32))] [(.int (1 : Int32))])) _
          exact retN X45 hx (t := .boolean) Bd.returns (by simp) (hb hby at_87) hr
        · show Q0 n0 _ T45.heap _
          rw [e45]
          exact ⟨rfl, N45⟩
set_option maxRecDepth 65536 in
set_option maxHeartbeats 40000000 in
theorem comes_1 {Post : Tables → Env → Array Value → State → Outcome → State → Prop} (hpost : ∀ tb e args s v u, (limb_1_1.after args s (.returned v) u = true ∧ limb_1_2.after args s (.returned v) u = true ∧ True) → FrameEnd s (.returned v) u (Jvm.fieldLocs frame_1_writes args s ++ Jvm.arrayLocs frame_1_arrays args s ++ Jvm.staticLocs frame_1_statics s) 0 0 → Post tb e args s (.returned v) u) :
    ArmFor flags0 classFile x code maxLocals ret World_1 tables_1 room_1 Calls_1 rest_1 Pre_1 Post := by
  intro l hfl _ _ p e ha hc hk s m args below hf hA hF happ hP
  obtain ⟨hcalls, hrest, hpre⟩ := hP
  obtain ⟨-, -, -, hnamed, -, -, -, hat⟩ := (Spec.applies_iff hf).mp happ
  obtain ⟨hg, hn⟩ := and_e (Cond.before_iff.mp (show (Jvm.Cond.and given_1 narrow_1).before args s = true from hpre))
  obtain ⟨hg0, hg⟩ := and_e hg
  have hg1 := hg
  obtain ⟨w0, rfl⟩ : ∃ w0 : Value, args = #[w0] := by
    have hs : args.size = 1 := by simpa [Cond.value, given_1] using hg0
    obtain ⟨L⟩ := args
    match L, hs with
    | [w0], _ => exact ⟨w0, rfl⟩
  have hw := fun d (hd : d ∈ tables_1) => atoms_spec (ws := Jvm.Cond.code x code maxLocals ret :: tables_1) hat d (List.mem_cons_of_mem _ hd)
  have hfit : Fit s := fun {y c} hc i hi => by
    obtain ⟨ha, rfl⟩ := Array.getElem?_eq_some_iff.mp hc
    have q := List.all_eq_true.mp ((Array.all_eq_true_iff_forall_mem.mp hF) _ (Array.getElem_mem ha)) i (List.mem_range.mpr hi)
    simpa [Array.getElem?_eq_getElem hi] using q
  obtain ⟨i0, ei0⟩ := is_v hg1
  obtain rfl : w0 = (.int i0) := Option.some.inj ei0
  obtain ⟨n0, hn⟩ := and_e hn
  obtain ⟨n1, hn⟩ := and_e hn
  obtain ⟨n2, hn⟩ := and_e hn
  obtain ⟨n3, hn⟩ := and_e hn
  obtain ⟨n4, hn⟩ := and_e hn
  obtain ⟨n5, hn⟩ := and_e hn
  obtain ⟨n6, hn⟩ := and_e hn
  obtain ⟨n7, hn⟩ := and_e hn
  obtain ⟨n8, hn⟩ := and_e hn
  obtain ⟨n9, hn⟩ := and_e hn
  obtain ⟨n10, hn⟩ := and_e hn
  have n11 := hn
  obtain ⟨b0, ev_b0⟩ := exa_v n0
  have E_b0 : Exa s s.heap b0 "com/example/rensou/rensou/wordnet/PartOfSpeech" := Exa.start ev_b0 n0
  have S_b0 : Sta s s.heap "com/example/rensou/rensou/wordnet/PartOfSpeech" "NOUN" "Lcom/example/rensou/rensou/wordnet/PartOfSpeech;" (.ref b0) := Sta.start ev_b0 (Or.inr ⟨(hw _ (List.mem_of_getElem? (i := 1) rfl)), (hw _ (List.mem_of_getElem? (i := 2) rfl))⟩)
  obtain ⟨b1, ev_b1⟩ := exa_v n1
  have E_b1 : Exa s s.heap b1 "com/example/rensou/rensou/wordnet/PartOfSpeech" := Exa.start ev_b1 n1
  have S_b1 : Sta s s.heap "com/example/rensou/rensou/wordnet/PartOfSpeech" "VERB" "Lcom/example/rensou/rensou/wordnet/PartOfSpeech;" (.ref b1) := Sta.start ev_b1 (Or.inr ⟨(hw _ (List.mem_of_getElem? (i := 1) rfl)), (hw _ (List.mem_of_getElem? (i := 9) rfl))⟩)
  obtain ⟨b3, ev_b3⟩ := exa_v n5
  have E_b3 : Exa s s.heap b3 "com/example/rensou/rensou/wordnet/PartOfSpeech" := Exa.start ev_b3 n5
  have S_b3 : Sta s s.heap "com/example/rensou/rensou/wordnet/PartOfSpeech" "ADVERB" "Lcom/example/rensou/rensou/wordnet/PartOfSpeech;" (.ref b3) := Sta.start ev_b3 (Or.inr ⟨(hw _ (List.mem_of_getElem? (i := 1) rfl)), (hw _ (List.mem_of_getElem? (i := 18) rfl))⟩)
  obtain ⟨b2, ev_b2⟩ := exa_v n8
  have E_b2 : Exa s s.heap b2 "com/example/rensou/rensou/wordnet/PartOfSpeech" := Exa.start ev_b2 n8
  have S_b2 : Sta s s.heap "com/example/rensou/rensou/wordnet/PartOfSpeech" "ADJECTIVE" "Lcom/example/rensou/rensou/wordnet/PartOfSpeech;" (.ref b2) := Sta.start ev_b2 (Or.inr ⟨(hw _ (List.mem_of_getElem? (i := 1) rfl)), (hw _ (List.mem_of_getElem? (i := 20) rfl))⟩)
  have F_ordinal_b0 : Fld s s.heap b0 "java/lang/Enum" "ordinal" "I" (.int (0 : Int32)) := own_fld n2 ev_b0
  have F_ordinal_b1 : Fld s s.heap b1 "java/lang/Enum" "ordinal" "I" (.int (1 : Int32)) := own_fld n3 ev_b1
  have F_letter_b0 : Fld s s.heap b0 "com/example/rensou/rensou/wordnet/PartOfSpeech" "letter" "C" (.int (110 : Int32)) := own_fld n4 ev_b0
  have F_ordinal_b3 : Fld s s.heap b3 "java/lang/Enum" "ordinal" "I" (.int (3 : Int32)) := own_fld n6 ev_b3
  have F_letter_b3 : Fld s s.heap b3 "com/example/rensou/rensou/wordnet/PartOfSpeech" "letter" "C" (.int (114 : Int32)) := own_fld n7 ev_b3
  have F_ordinal_b2 : Fld s s.heap b2 "java/lang/Enum" "ordinal" "I" (.int (2 : Int32)) := own_fld n9 ev_b2
  have F_letter_b2 : Fld s s.heap b2 "com/example/rensou/rensou/wordnet/PartOfSpeech" "letter" "C" (.int (97 : Int32)) := own_fld n10 ev_b2
  have F_letter_b1 : Fld s s.heap b1 "com/example/rensou/rensou/wordnet/PartOfSpeech" "letter" "C" (.int (118 : Int32)) := own_fld n11 ev_b1
  obtain ⟨n, o, h1, h2, h3, _, L, rfl, ⟨rfl, N⟩, hq⟩ := rm_law l s _ hw tables_1 i0 b0 b1 b2 b3 s.heap s.heap.size (Nat.le_refl _) S_b0 S_b1 S_b2 S_b3 E_b0 E_b1 E_b2 E_b3 F_letter_b0 F_letter_b1 F_letter_b2 F_letter_b3 (Fld.ne F_ordinal_b0 F_ordinal_b1 (by decide)) (Fld.ne F_ordinal_b2 F_ordinal_b1 (by decide)) (Fld.ne F_ordinal_b3 F_ordinal_b1 (by decide)) p e ha hc hk s m _ below hf ((Spec.applies_iff_loose hf).mp happ).1 ⟨rfl, State.Warmed39.refl s, rfl⟩ trivial
  refine ⟨n, _, h1, h2, h3, hpost _ _ _ _ _ _ ⟨Cond.after_iff.mpr rfl, Cond.after_iff.mpr (eq_i res_at (Term.int_eval (1)) rfl), trivial⟩ ⟨hq.1, hq.2.1, (hq.2.2.sift fun y hy => Or.inr (N y hy)).mono (by decide) (by decide)⟩⟩
theorem main_1_1 : Claimed_1_1 := comes_1 fun _ _ _ _ _ _ h hF => ⟨h.1, hF⟩
theorem main_1_2 : Claimed_1_2 := comes_1 fun _ _ _ _ _ _ h hF => ⟨h.2.1, hF⟩
end Jvm.Pilot.@@N@@
namespace Jvm.Pilot.@@N@@
open Jvm Jvm.ClassFile Sem Op Lib Jvm.Free Jvm.Stand Jvm.Pilot.@@N@@.Jvm.D
/-! MADE BY PROGRAM (witnessworld.py) out of the Statement's table words and the real class files: 12 classes; the members and pool entries that the words name. The judged class is class 1, her method 1. -/
namespace start1
open Jvm.ClassFile
def u (s : String) : CpInfo := .utf8 (stringToUtf16 s)
/-- a pool by its gaps: so many unusable entries, then the entry; so many at the end -/
def gap : Nat → List CpInfo → List CpInfo
  | 0, r => r
  | n + 1, r => .unusable :: gap n r
def poolList (es : List (Nat × CpInfo)) (last : Nat) : List CpInfo := es.foldr (fun e r => gap e.1 (e.2 :: r)) (gap last [])
def pool (es : List (Nat × CpInfo)) (last : Nat) : Array CpInfo := ⟨poolList es last⟩
def fileOf (pool : Array CpInfo) (this : Nat) (attrs : Array Attribute := #[]) (ms : Array MethodInfo := #[]) (fl : Nat := 33) (sup : Nat := 0) (ifs : Array Nat := #[]) (fds : Array FieldInfo := #[]) : ClassFile where
  minorVersion := 0
  majorVersion := 65
  constantPool := pool
  accessFlags := fl
  thisClass := this
  superClass := sup
  interfaces := ifs
  fields := fds
  methods := ms
  attributes := attrs
def plain (name : String) (sup : Option ClassId) : Class where
  name := name
  kind := .ordinary
  loader := none
  accessFlags := 33
  super := sup
  interfaces := #[]
  cf := none
  fields := #[]
  methods := #[]
  instanceTypes := #[]
  staticTypes := #[]
  resolved := #[]
  callSites := []
  init := .initialized
  statics := none
  mirror := none

def pool0 : Array CpInfo := pool [(5, u "<init>"), (0, u "()V"), (1, .class_ 10), (1, u "java/lang/Object")] 113

def k0m0 : Method := { name := "<init>", desc := "()V", sig := { parameters := [], returnType := none }, accessFlags := 1, code := none }
/-- java/lang/Object -/
def k0 : Class := { plain "java/lang/Object" none with
  accessFlags := 33
  interfaces := #[]
  cf := some (fileOf pool0 8 #[] #[{ accessFlags := 1, nameIndex := 5, descriptorIndex := 6, attributes := #[] }] 33 0 #[] #[])
  fields := #[]
  methods := #[k0m0]
  instanceTypes := #[]
  staticTypes := #[]
  resolved := Array.replicate 124 none
  statics := none }

def pool1 : Array CpInfo := pool [(2, .class_ 4), (1, u "java/lang/Object"), (0, u "<init>"), (0, u "()V"), (0, .fieldref 8 9), (0, .class_ 10), (0, .nameAndType 11 12), (0, u "com/example/rensou/rensou/wordnet/PartOfSpeech"), (0, u "NOUN"), (0, u "Lcom/example/rensou/rensou/wordnet/PartOfSpeech;"), (0, .fieldref 8 14), (0, .nameAndType 15 12), (0, u "VERB"), (0, .fieldref 8 17), (0, .nameAndType 18 12), (0, u "ADJECTIVE"), (0, .fieldref 8 20), (0, .nameAndType 21 12), (0, u "ADVERB"), (0, .methodref 8 23), (0, .nameAndType 24 25), (0, u "inflectsFirstWord"), (0, u "()Z"), (0, .methodref 8 27), (0, .nameAndType 28 29), (0, u "letter"), (0, u "()C"), (0, .class_ 31), (0, u "com/example/rensou/rensou/wordnet/PartOfSpeechInflectsFirstWordPinLaw"), (2, u "law"), (0, u "(I)Z")] 3

def k1m0 : Method := { name := "<init>", desc := "()V", sig := { parameters := [], returnType := none }, accessFlags := 2, code := none }
def k1c1 : Code := { maxStack := 3, maxLocals := 5, code := code, exceptionTable := #[], attributes := #[] }
def k1m1 : Method := { name := "law", desc := "(I)Z", sig := { parameters := [.int], returnType := some .boolean }, accessFlags := 9, code := some k1c1 }
/-- com/example/rensou/rensou/wordnet/PartOfSpeechInflectsFirstWordPinLaw -/
def k1 : Class := { plain "com/example/rensou/rensou/wordnet/PartOfSpeechInflectsFirstWordPinLaw" (some 0) with
  accessFlags := 49
  interfaces := #[]
  cf := some (fileOf pool1 30 #[] #[{ accessFlags := 2, nameIndex := 5, descriptorIndex := 6, attributes := #[] }, { accessFlags := 9, nameIndex := 34, descriptorIndex := 35, attributes := #[] }] 49 2 #[] #[])
  fields := #[]
  methods := #[k1m0, k1m1]
  instanceTypes := #[]
  staticTypes := #[]
  resolved := Array.replicate 39 none
  statics := none }

def pool2 : Array CpInfo := pool [(1, .class_ 2), (0, u "java/lang/constant/Constable"), (0, .class_ 4), (0, u "java/lang/Object")] 6

/-- java/lang/constant/Constable -/
def k2 : Class := { plain "java/lang/constant/Constable" (some 0) with
  accessFlags := 1537
  interfaces := #[]
  cf := some (fileOf pool2 1 #[] #[] 1537 3 #[] #[])
  fields := #[]
  methods := #[]
  instanceTypes := #[]
  staticTypes := #[]
  resolved := Array.replicate 11 none
  statics := none }

def pool3 : Array CpInfo := pool [(1, .class_ 2), (0, u "java/lang/Comparable"), (0, .class_ 4), (0, u "java/lang/Object")] 7

/-- java/lang/Comparable -/
def k3 : Class := { plain "java/lang/Comparable" (some 0) with
  accessFlags := 1537
  interfaces := #[]
  cf := some (fileOf pool3 1 #[] #[] 1537 3 #[] #[])
  fields := #[]
  methods := #[]
  instanceTypes := #[]
  staticTypes := #[]
  resolved := Array.replicate 12 none
  statics := none }

def pool4 : Array CpInfo := pool [(1, .class_ 2), (0, u "java/io/Serializable"), (0, .class_ 4), (0, u "java/lang/Object")] 2

/-- java/io/Serializable -/
def k4 : Class := { plain "java/io/Serializable" (some 0) with
  accessFlags := 1537
  interfaces := #[]
  cf := some (fileOf pool4 1 #[] #[] 1537 3 #[] #[])
  fields := #[]
  methods := #[]
  instanceTypes := #[]
  staticTypes := #[]
  resolved := Array.replicate 7 none
  statics := none }

def pool5 : Array CpInfo := pool [(2, .class_ 4), (1, u "java/lang/Enum"), (0, u "name"), (0, u "Ljava/lang/String;"), (2, u "ordinal"), (0, u "I"), (1, .class_ 14), (1, u "java/lang/Object"), (4, u "hash"), (86, .class_ 108), (1, u "java/lang/Enum$EnumDesc"), (2, .class_ 112), (0, u "java/lang/constant/Constable"), (0, .class_ 114), (0, u "java/lang/Comparable"), (0, .class_ 116), (0, u "java/io/Serializable")] 87

/-- java/lang/Enum -/
def k5 : Class := { plain "java/lang/Enum" (some 0) with
  accessFlags := 1057
  interfaces := #[2, 3, 4]
  cf := some (fileOf pool5 2 #[.nestMembers #[106]] #[] 1057 12 #[111, 113, 115] #[{ accessFlags := 18, nameIndex := 5, descriptorIndex := 6, attributes := #[] }, { accessFlags := 18, nameIndex := 9, descriptorIndex := 10, attributes := #[] }, { accessFlags := 2, nameIndex := 19, descriptorIndex := 10, attributes := #[] }])
  fields := #[{ name := "name", type := (.object "java/lang/String"), accessFlags := 18, slot := 0, constantValue := 0 }, { name := "ordinal", type := .int, accessFlags := 18, slot := 1, constantValue := 0 }, { name := "hash", type := .int, accessFlags := 2, slot := 2, constantValue := 0 }]
  methods := #[]
  instanceTypes := #[(.object "java/lang/String"), .int, .int]
  staticTypes := #[]
  resolved := Array.replicate 204 none
  statics := none }

def pool6 : Array CpInfo := pool [(1, .class_ 2), (0, u "com/example/rensou/rensou/wordnet/PartOfSpeech"), (2, u "NOUN"), (0, u "Lcom/example/rensou/rensou/wordnet/PartOfSpeech;"), (0, .fieldref 1 8), (0, .nameAndType 9 6), (0, u "VERB"), (2, u "ADJECTIVE"), (2, u "ADVERB"), (2, u "$VALUES"), (0, u "[Lcom/example/rensou/rensou/wordnet/PartOfSpeech;"), (6, .class_ 28), (1, u "java/lang/Enum"), (8, u "fileName"), (0, u "Ljava/lang/String;"), (0, .fieldref 1 40), (0, .nameAndType 41 42), (0, u "letter"), (0, u "C"), (28, u "NOUN_RULES"), (0, u "Ljava/util/List;"), (2, u "VERB_RULES"), (2, u "ADJECTIVE_RULES"), (96, u "()C"), (4, u "inflectsFirstWord"), (0, u "()Z")] 9

def k6c0 : Code := { maxStack := 1, maxLocals := 1, code := prog_141_method_5_code, exceptionTable := #[], attributes := #[] }
def k6m0 : Method := { name := "letter", desc := "()C", sig := { parameters := [], returnType := some .char }, accessFlags := 0, code := some k6c0 }
def k6c1 : Code := { maxStack := 2, maxLocals := 1, code := prog_141_method_9_code, exceptionTable := #[], attributes := #[] }
def k6m1 : Method := { name := "inflectsFirstWord", desc := "()Z", sig := { parameters := [], returnType := some .boolean }, accessFlags := 0, code := some k6c1 }
/-- com/example/rensou/rensou/wordnet/PartOfSpeech -/
def k6 : Class := { plain "com/example/rensou/rensou/wordnet/PartOfSpeech" (some 5) with
  accessFlags := 16432
  interfaces := #[]
  cf := some (fileOf pool6 1 #[] #[{ accessFlags := 0, nameIndex := 41, descriptorIndex := 175, attributes := #[] }, { accessFlags := 0, nameIndex := 180, descriptorIndex := 181, attributes := #[] }] 16432 26 #[] #[{ accessFlags := 16409, nameIndex := 5, descriptorIndex := 6, attributes := #[] }, { accessFlags := 16409, nameIndex := 9, descriptorIndex := 6, attributes := #[] }, { accessFlags := 16409, nameIndex := 12, descriptorIndex := 6, attributes := #[] }, { accessFlags := 16409, nameIndex := 15, descriptorIndex := 6, attributes := #[] }, { accessFlags := 26, nameIndex := 71, descriptorIndex := 72, attributes := #[] }, { accessFlags := 26, nameIndex := 75, descriptorIndex := 72, attributes := #[] }, { accessFlags := 26, nameIndex := 78, descriptorIndex := 72, attributes := #[] }, { accessFlags := 18, nameIndex := 37, descriptorIndex := 38, attributes := #[] }, { accessFlags := 18, nameIndex := 41, descriptorIndex := 42, attributes := #[] }, { accessFlags := 4122, nameIndex := 18, descriptorIndex := 19, attributes := #[] }])
  fields := #[{ name := "NOUN", type := (.object "com/example/rensou/rensou/wordnet/PartOfSpeech"), accessFlags := 16409, slot := 0, constantValue := 0 }, { name := "VERB", type := (.object "com/example/rensou/rensou/wordnet/PartOfSpeech"), accessFlags := 16409, slot := 1, constantValue := 0 }, { name := "ADJECTIVE", type := (.object "com/example/rensou/rensou/wordnet/PartOfSpeech"), accessFlags := 16409, slot := 2, constantValue := 0 }, { name := "ADVERB", type := (.object "com/example/rensou/rensou/wordnet/PartOfSpeech"), accessFlags := 16409, slot := 3, constantValue := 0 }, { name := "NOUN_RULES", type := (.object "java/util/List"), accessFlags := 26, slot := 4, constantValue := 0 }, { name := "VERB_RULES", type := (.object "java/util/List"), accessFlags := 26, slot := 5, constantValue := 0 }, { name := "ADJECTIVE_RULES", type := (.object "java/util/List"), accessFlags := 26, slot := 6, constantValue := 0 }, { name := "fileName", type := (.object "java/lang/String"), accessFlags := 18, slot := 3, constantValue := 0 }, { name := "letter", type := .char, accessFlags := 18, slot := 4, constantValue := 0 }, { name := "$VALUES", type := (.array (.object "com/example/rensou/rensou/wordnet/PartOfSpeech")), accessFlags := 4122, slot := 7, constantValue := 0 }]
  methods := #[k6m0, k6m1]
  instanceTypes := #[(.object "java/lang/String"), .int, .int, (.object "java/lang/String"), .char]
  staticTypes := #[(.object "com/example/rensou/rensou/wordnet/PartOfSpeech"), (.object "com/example/rensou/rensou/wordnet/PartOfSpeech"), (.object "com/example/rensou/rensou/wordnet/PartOfSpeech"), (.object "com/example/rensou/rensou/wordnet/PartOfSpeech"), (.object "java/util/List"), (.object "java/util/List"), (.object "java/util/List"), (.array (.object "com/example/rensou/rensou/wordnet/PartOfSpeech"))]
  resolved := Array.replicate 191 none
  statics := some 0 }

def pool7 : Array CpInfo := pool [(1, u "java/lang/Cloneable"), (0, .class_ 1), (0, u "java/lang/Object"), (0, .class_ 3)] 3

/-- java/lang/Cloneable -/
def k7 : Class := { plain "java/lang/Cloneable" (some 0) with
  accessFlags := 1537
  interfaces := #[]
  cf := some (fileOf pool7 2 #[] #[] 1537 4 #[] #[])
  fields := #[]
  methods := #[]
  instanceTypes := #[]
  staticTypes := #[]
  resolved := Array.replicate 8 none
  statics := none }

/-- the primitive byte -/
def k8 : Class := { plain "byte" none with kind := .primitive 'B', accessFlags := 0x411 }
/-- [B -/
def k9 : Class := { plain "[B" (some 0) with kind := .array 8 .byte, interfaces := #[7, 4], accessFlags := 1041 }

/-- the primitive int -/
def k10 : Class := { plain "int" none with kind := .primitive 'I', accessFlags := 0x411 }
/-- [I -/
def k11 : Class := { plain "[I" (some 0) with kind := .array 10 .int, interfaces := #[7, 4], accessFlags := 1041 }

def heap : Heap := #[{ cls := 6, slots := #[.ref 1, .ref 2, .ref 3, .ref 4, .null, .null, .null, .null], vm := .statics 6 },
  { cls := 6, slots := #[.null, .int 0, .int 0, .null, .int 110], vm := .none },
  { cls := 6, slots := #[.null, .int 1, .int 0, .null, .int 118], vm := .none },
  { cls := 6, slots := #[.null, .int 2, .int 0, .null, .int 97], vm := .none },
  { cls := 6, slots := #[.null, .int 3, .int 0, .null, .int 114], vm := .none }]
def classes : Array Class := #[k0, k1, k2, k3, k4, k5, k6, k7, k8, k9, k10, k11]
def interned : List (Array UInt16 × Addr) := []
def slotsUsed : Nat := 28
def theMethod : MethodId := ⟨1, 1⟩
def args0 : Array Value := #[.int 5]
def aboutOver (below : List Frame) : State where
  vm := { classes := classes, interned := interned.toArray }
  heap := heap
  slotsUsed := slotsUsed
  threads := #[{ frames := .invoking theMethod args0 :: below }]
def below0 : List Frame := [.native { method := ⟨0, 0⟩, args := #[] }]
def about1 : State := aboutOver below0
def p0 : Program := .bare "" "" ""
def e0 : Env := launch0.env 0 0 0
theorem w_frames : about1.frames = Frame.invoking theMethod args0 :: below0 := rfl
set_option maxRecDepth 65536 in
theorem w_args : argsFit about1.vm theMethod args0 = true := by decide +kernel
set_option maxRecDepth 65536 in
theorem w_heap : heapFits about1 = true := by decide +kernel
set_option maxRecDepth 65536 in
theorem w_runnable : about1.curStatus? = some .runnable := by decide +kernel
set_option maxRecDepth 65536 in
theorem w_alone : about1.alone = true := by decide +kernel
set_option maxRecDepth 65536 in
theorem w_named : about1.methodNamed? x = some theMethod := by decide +kernel
set_option maxRecDepth 65536 in
theorem w_hears : about1.hears theMethod below0 = true := by decide +kernel
set_option maxRecDepth 65536 in
theorem w_ripe : about1.ripe theMethod args0 below0 = true := by decide +kernel
theorem w_running : about1.status = .running := rfl
set_option maxRecDepth 65536 in
theorem w_room : about1.hasRoom e0.platform room_1 = true :=
  launch0.hasRoom_least _ room_1 (by decide +kernel) (by decide +kernel) (by decide +kernel) (by decide +kernel) (by decide +kernel) (by decide +kernel)
theorem allAtoms_all (ts : List Jvm.Cond) (a : Array Jvm.Value) (st : Jvm.State) : (allAtoms ts).before a st = ts.all (fun c => c.before a st) := by
  induction ts with
  | nil => rfl
  | cons c t ih =>
    show (Jvm.Cond.and c (allAtoms t)).before a st = _
    rw [Jvm.Cond.before_and, ih, List.all_cons]
def words1 : List Jvm.Cond := Jvm.Cond.code x code maxLocals ret :: tables_1
/-- a 'code' word, met by the world's own term for the bytes: nothing is compared byte by byte -/
theorem code_word {y : MethodName} {bytes : ByteArray} {mx : Nat} {rt : Option FieldType} {a : Array Value} {s : State} {m : MethodId} {meth : Method} {c : Code} (h1 : s.methodNamed? y = some m) (h2 : s.vm.method? m = some meth) (h3 : meth.code = some c) (h4 : c.code = bytes)
    (h5 : (c.maxLocals == mx && c.exceptionTable.isEmpty && decide (c.maxStack ≤ mostOperands) && decide (meth.sig.returnType = rt) && !meth.locks && decide (parseMethodDescriptor y.desc = some meth.sig)) = true) : (Jvm.Cond.code y bytes mx rt).before a s = true := by
  simp only [Bool.and_eq_true, beq_iff_eq, Bool.not_eq_true', decide_eq_true_eq] at h5
  obtain ⟨⟨⟨⟨⟨g1, g2⟩, g3⟩, g4⟩, g5⟩, g6⟩ := h5
  simp [Cond.before, Cond.holds, Cond.value, h1, h2, h3, h4, g1, g2, g3, g4, g5, g6]
def isCode : Jvm.Cond → Bool
  | .code _ _ _ _ => true
  | _ => false
theorem all_split {L : List Jvm.Cond} {P : Jvm.Cond → Bool} (h1 : L.all (fun c => isCode c || P c) = true) (h2 : ∀ c ∈ L.filter isCode, P c = true) : L.all P = true := by
  refine List.all_eq_true.mpr fun c hc => ?_
  have h := List.all_eq_true.mp h1 c hc
  rcases Bool.eq_false_or_eq_true (isCode c) with hi | hi
  · exact h2 c (List.mem_filter.mpr ⟨hc, hi⟩)
  · simpa [hi] using h
set_option maxRecDepth 65536 in
theorem w_c0 : (Jvm.Cond.code x code maxLocals ret).before args0 about1 = true := code_word (m := ⟨1, 1⟩) (meth := k1m1) (c := k1c1) (by decide +kernel) rfl rfl rfl (by decide +kernel)
set_option maxRecDepth 65536 in
theorem w_c1 : (Jvm.Cond.code ({ cls := "com/example/rensou/rensou/wordnet/PartOfSpeech", name := "inflectsFirstWord", desc := "()Z" } : Jvm.MethodName) prog_141_method_9_code (1 : Nat) (Option.some Jvm.ClassFile.FieldType.boolean)).before args0 about1 = true := code_word (m := ⟨6, 1⟩) (meth := k6m1) (c := k6c1) (by decide +kernel) rfl rfl rfl (by decide +kernel)
set_option maxRecDepth 65536 in
theorem w_c2 : (Jvm.Cond.code ({ cls := "com/example/rensou/rensou/wordnet/PartOfSpeech", name := "letter", desc := "()C" } : Jvm.MethodName) prog_141_method_5_code (1 : Nat) (Option.some Jvm.ClassFile.FieldType.char)).before args0 about1 = true := code_word (m := ⟨6, 0⟩) (meth := k6m0) (c := k6c0) (by decide +kernel) rfl rfl rfl (by decide +kernel)
def codes1 : List Jvm.Cond := [Jvm.Cond.code x code maxLocals ret, Jvm.Cond.code ({ cls := "com/example/rensou/rensou/wordnet/PartOfSpeech", name := "inflectsFirstWord", desc := "()Z" } : Jvm.MethodName) prog_141_method_9_code (1 : Nat) (Option.some Jvm.ClassFile.FieldType.boolean), Jvm.Cond.code ({ cls := "com/example/rensou/rensou/wordnet/PartOfSpeech", name := "letter", desc := "()C" } : Jvm.MethodName) prog_141_method_5_code (1 : Nat) (Option.some Jvm.ClassFile.FieldType.char)]
set_option maxRecDepth 65536 in
theorem codes_eq : words1.filter isCode = codes1 := rfl
theorem w_codes : ∀ c ∈ words1.filter isCode, c.before args0 about1 = true := by
  rw [codes_eq]
  intro c hc
  simp only [codes1, List.mem_cons, List.not_mem_nil, or_false] at hc
  rcases hc with rfl | rfl | rfl
  · exact w_c0
  · exact w_c1
  · exact w_c2
set_option maxRecDepth 65536 in
theorem w_t1 : words1.all (fun c => isCode c || c.before args0 about1) = true := by decide +kernel
theorem w_tables : (allAtoms (Jvm.Cond.code x code maxLocals ret :: tables_1)).before args0 about1 = true := by
  rw [allAtoms_all]
  show words1.all (fun c => c.before args0 about1) = true
  refine all_split ?_ w_codes
  rw [w_t1]
set_option maxRecDepth 65536 in
theorem w_case : (Jvm.Cond.and given_1 narrow_1).before args0 about1 = true := by decide +kernel
theorem w_applies : (headSpec (Jvm.Cond.code x code maxLocals ret :: tables_1) room_1).applies x e0.platform about1 = true :=
  (Spec.applies_iff w_frames).mpr ⟨w_running, w_runnable, w_alone, w_named, w_hears, w_ripe, w_room, w_tables⟩
theorem atStart : AtStart classFile x code maxLocals ret World_1 tables_1 room_1 Calls_1 rest_1 Pre_1 launch0 p0 e0 about1 theMethod args0 below0 :=
  ⟨lists_1, trivial, launch0.admits_env _ _ _, launch0.least_env, fairChoices_fair.cas, fairChoices_fair.clock, w_frames, w_args, w_heap, w_applies, trivial, trivial, w_case⟩
end start1
theorem witness_1 : WitnessClaimed_1 := ⟨start1.p0, start1.e0, start1.about1, start1.theMethod, start1.args0, start1.below0, start1.atStart⟩
end Jvm.Pilot.@@N@@
