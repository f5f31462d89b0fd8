import JvmDerived
import JvmDerived.Pilot.@@N@@Statement
import JvmDerived.Pilot.@@N@@Code
set_option linter.unusedVariables false
set_option linter.unusedSimpArgs false
@@BLOCK:NumsL.lean.txt@@
namespace Jvm.RoadKit
open Sem ClassFile Op Lib Jvm.Stand Jvm.Free Jvm.LawKit
section New
variable {p : Program} {l : Launch} {e : Env} {R : Room} {s : State} {m : MethodId} {args : Array Value} {below : List Frame} {meth : Method} {c : Code} {T : State} {locs : List Loc} {cells slots : Nat}
theorem retI (X : Stand p l e R s m args below meth c T locs cells slots) (hx : p.tables.exec = Jvm.exec) {pc : Nat} {Ls : Array Slot} {z : Int32} {rest : List Value} (hret : meth.sig.returnType = some .int) (hd : decode c.code pc = .ok (.ireturn, 1)) {fs : List Frame}
    (hl : ∀ (f : JFrame) (acts : List Action), f.method = m → f.locked = none → f.entered = [] → (doReturn e (T.setTop f) acts (some (.int z))).1 = T.setFrames fs) : Steps p.tables e below (T.setTop (mkF m pc Ls (.int z :: rest))) (T.setFrames fs) := by
  have hm' : T.vm.method? m = some meth := X.method'
  have hn : narrow .int (.int z) = .int z := rfl
  show Steps p.tables e below (T.setTop { method := m, pc := pc, locals := Ls, stack := _ :: rest, locked := none }) _
  jvm_step X.here [X.here.top, hx, hd, hm', hret, hn]
  first | (intro acts; rw [hl _ acts rfl rfl rfl]) | rw [hl _ _ rfl rfl rfl]
  exact Steps.refl _
end New
end Jvm.RoadKit
namespace Jvm.Pilot.@@N@@
open Jvm Jvm.ClassFile Sem Op Lib Jvm.Free Jvm.Stand Jvm.LawKit Jvm.RoadKit Bundle Jvm.Pilot.@@N@@.Jvm.D
theorem own_fld {args : Array Value} {s : State} {t : Term} {C n d : String} {c : Int32} {a : Addr} (h : (Jvm.Cond.eq (Term.field t C n d) (Term.int c)).value args s none s [] = some true) (ht : t.eval args s none [] s = some (.ref a)) : Fld s s.heap a C n d (.int c) := by
  apply Fld.start
  obtain ⟨x, y, ex, ey, kx, ky⟩ := cmp_v (Or.inl h)
  have ey' : (Term.int c).eval args s none [] s = some (.int c) := Term.int_eval c
  cases ey.symm.trans ey'
  obtain ⟨z, rfl⟩ := ky
  have ex' := ex
  rw [fld_at ht] at ex'
  simp only [Cond.value, ex, ey'] at h
  rw [ex']
  simpa using h
def own_sel (k : Int32) (b0 b1 b2 b3 b4 b5 : Addr) : Addr := if k = 0 then b0 else if k = 1 then b1 else if k = 2 then b2 else if k = 3 then b3 else if k = 4 then b4 else b5
def own_fb (a b4 b5 : Addr) : Int32 := if a = b4 then 1 else if a = b5 then 1 else 0
theorem own_sel_all {p : Addr → Prop} {k : Int32} {b0 b1 b2 b3 b4 b5 : Addr} (h0 : p b0) (h1 : p b1) (h2 : p b2) (h3 : p b3) (h4 : p b4) (h5 : p b5) : p (own_sel k b0 b1 b2 b3 b4 b5) := by
  unfold own_sel; split; exact h0; split; exact h1; split; exact h2; split; exact h3; split; exact h4; exact h5
theorem own_k (x k : Int32) (e : k = ((x &&& (2147483647 : Int32)) - (x &&& (2147483647 : Int32)) / (6 : Int32) * (6 : Int32))) : 0 ≤ k.toInt ∧ k.toInt < 6 := by
  have h1 := Jvm.Kit.i32_mask x (2147483647 : Int32) (k := 31) (by decide) (by decide)
  have h2 : 0 ≤ (x &&& (2147483647 : Int32)).toInt ∧ (x &&& (2147483647 : Int32)).toInt < 2147483648 := by rw [h1]; omega
  generalize (x &&& (2147483647 : Int32)) = a at h2 e
  have h4 : (6 : Int32).toInt = 6 := by decide
  have h5 := Jvm.Kit.i32_div (x := a) (y := 6) (by rw [h4]; omega)
  rw [h4, Int.tdiv_eq_ediv_of_nonneg h2.1] at h5
  have h6 := Jvm.Kit.i32_mul (p := a / 6) (q := 6) (by rw [h4, h5]; omega) (by rw [h4, h5]; omega)
  rw [h4, h5] at h6
  have h7 := Jvm.Kit.i32_sub (p := a) (q := a / 6 * 6) (by rw [h6]; omega) (by rw [h6]; omega)
  rw [e, h7, h6]; omega
theorem own_ne {x : Int32} {n : Int32} (h : x.toInt ≠ n.toInt) : x ≠ n := fun q => h (by rw [q])
theorem own_yes (k : Int32) (b0 b1 b2 b3 b4 b5 : Addr) (h : ¬ (k < (4 : Int32))) : own_fb (own_sel k b0 b1 b2 b3 b4 b5) b4 b5 = 1 := by
  rw [Int32.lt_iff_toInt_lt] at h
  have e4 : (4 : Int32).toInt = 4 := by decide
  rw [e4] at h
  have n0 : k ≠ 0 := own_ne (by show k.toInt ≠ 0; omega)
  have n1 : k ≠ 1 := own_ne (by show k.toInt ≠ 1; omega)
  have n2 : k ≠ 2 := own_ne (by show k.toInt ≠ 2; omega)
  have n3 : k ≠ 3 := own_ne (by show k.toInt ≠ 3; omega)
  unfold own_fb own_sel
  by_cases q : k = 4 <;> simp [n0, n1, n2, n3, q]
theorem own_no (k : Int32) (b0 b1 b2 b3 b4 b5 : Addr) (h : k < (4 : Int32)) (hk : 0 ≤ k.toInt) (d : (b0 ≠ b4 ∧ b1 ≠ b4 ∧ b2 ≠ b4 ∧ b3 ≠ b4) ∧ b0 ≠ b5 ∧ b1 ≠ b5 ∧ b2 ≠ b5 ∧ b3 ≠ b5) : own_fb (own_sel k b0 b1 b2 b3 b4 b5) b4 b5 = 0 := by
  rw [Int32.lt_iff_toInt_lt] at h
  have e4 : (4 : Int32).toInt = 4 := by decide
  rw [e4] at h
  obtain ⟨⟨d0, d1, d2, d3⟩, f0, f1, f2, f3⟩ := d
  have hd : k = 0 ∨ k = 1 ∨ k = 2 ∨ k = 3 := by
    have : k.toInt = 0 ∨ k.toInt = 1 ∨ k.toInt = 2 ∨ k.toInt = 3 := by omega
    rcases this with q | q | q | q
    · exact Or.inl (Int32.toInt_inj.mp q)
    · exact Or.inr (Or.inl (Int32.toInt_inj.mp q))
    · exact Or.inr (Or.inr (Or.inl (Int32.toInt_inj.mp q)))
    · exact Or.inr (Or.inr (Or.inr (Int32.toInt_inj.mp q)))
  unfold own_fb own_sel
  rcases hd with rfl | rfl | rfl | rfl <;> simp [d0, d1, d2, d3, f0, f1, f2, f3]
def Qp (k : Int32) (b0 b1 b2 b3 b4 b5 : Addr) (h0 : Heap) (n0 : Nat) (v : Option Value) (h : Heap) (L : List Loc) : Prop := v = some (.ref (own_sel k b0 b1 b2 b3 b4 b5)) ∧ Fr n0 L ∧ h = h0
theorem pn_com_example_verdict_ladder_verdictladder_policy_TierIsFallbackPinLaw : plainName "com/example/verdict_ladder/verdictladder/policy/TierIsFallbackPinLaw" = true := by first | (simp [plainName, overriddenIn]; done) | decide +kernel
theorem ef_rm_pick (m : MethodId) (p1 : Int32) : entryFrame m #[(.int p1)] 1 = mkF m 0 #[.val (.int p1)] [] := by first | (simp [entryFrame, mkF, argsToLocals, Value.category]; done) | rfl
theorem d_method_2_0 : decode method_2_code 0 = .ok (.iload_n 0, 1) := by decide +kernel
theorem d_method_2_1 : decode method_2_code 1 = .ok (.ifCond .ne 7, 3) := by decide +kernel
theorem d_method_2_4 : decode method_2_code 4 = .ok (.getstatic 7, 3) := by decide +kernel
theorem d_method_2_7 : decode method_2_code 7 = .ok (.areturn, 1) := by decide +kernel
theorem d_method_2_8 : decode method_2_code 8 = .ok (.iload_n 0, 1) := by decide +kernel
theorem d_method_2_9 : decode method_2_code 9 = .ok (.iconst 1, 1) := by decide +kernel
theorem d_method_2_10 : decode method_2_code 10 = .ok (.if_icmp .ne 7, 3) := by decide +kernel
theorem d_method_2_13 : decode method_2_code 13 = .ok (.getstatic 13, 3) := by decide +kernel
theorem d_method_2_16 : decode method_2_code 16 = .ok (.areturn, 1) := by decide +kernel
theorem d_method_2_17 : decode method_2_code 17 = .ok (.iload_n 0, 1) := by decide +kernel
theorem d_method_2_18 : decode method_2_code 18 = .ok (.iconst 2, 1) := by decide +kernel
theorem d_method_2_19 : decode method_2_code 19 = .ok (.if_icmp .ne 7, 3) := by decide +kernel
theorem d_method_2_22 : decode method_2_code 22 = .ok (.getstatic 16, 3) := by decide +kernel
theorem d_method_2_25 : decode method_2_code 25 = .ok (.areturn, 1) := by decide +kernel
theorem d_method_2_26 : decode method_2_code 26 = .ok (.iload_n 0, 1) := by decide +kernel
theorem d_method_2_27 : decode method_2_code 27 = .ok (.iconst 3, 1) := by decide +kernel
theorem d_method_2_28 : decode method_2_code 28 = .ok (.if_icmp .ne 7, 3) := by decide +kernel
theorem d_method_2_31 : decode method_2_code 31 = .ok (.getstatic 19, 3) := by decide +kernel
theorem d_method_2_34 : decode method_2_code 34 = .ok (.areturn, 1) := by decide +kernel
theorem d_method_2_35 : decode method_2_code 35 = .ok (.iload_n 0, 1) := by decide +kernel
theorem d_method_2_36 : decode method_2_code 36 = .ok (.iconst 4, 1) := by decide +kernel
theorem d_method_2_37 : decode method_2_code 37 = .ok (.if_icmp .ne 7, 3) := by decide +kernel
theorem d_method_2_40 : decode method_2_code 40 = .ok (.getstatic 22, 3) := by decide +kernel
theorem d_method_2_43 : decode method_2_code 43 = .ok (.areturn, 1) := by decide +kernel
theorem d_method_2_44 : decode method_2_code 44 = .ok (.getstatic 25, 3) := by decide +kernel
theorem d_method_2_47 : decode method_2_code 47 = .ok (.areturn, 1) := by decide +kernel
set_option maxRecDepth 65536 in
set_option maxHeartbeats 40000000 in
theorem rm_pick (l : Launch) (Z : State) (a0 : Array Value) (hw : ∀ d ∈ tables_1, d.before a0 Z = true) (ws : List Jvm.Cond) (p1 : Int32) (b0 b1 b2 b3 b4 b5 : Addr) (h0 : Heap) (n0 : Nat) (Z0 : n0 ≤ h0.size) (S_b0 : Sta Z h0 "com/example/verdict_ladder/verdictladder/policy/Tier" "STRICT" "Lcom/example/verdict_ladder/verdictladder/policy/Tier;" (.ref b0)) (S_b1 : Sta Z h0 "com/example/verdict_ladder/verdictladder/policy/Tier" "STANDARD" "Lcom/example/verdict_ladder/verdictladder/policy/Tier;" (.ref b1)) (S_b2 : Sta Z h0 "com/example/verdict_ladder/verdictladder/policy/Tier" "EVALUATION" "Lcom/example/verdict_ladder/verdictladder/policy/Tier;" (.ref b2)) (S_b3 : Sta Z h0 "com/example/verdict_ladder/verdictladder/policy/Tier" "CUSTOM" "Lcom/example/verdict_ladder/verdictladder/policy/Tier;" (.ref b3)) (S_b4 : Sta Z h0 "com/example/verdict_ladder/verdictladder/policy/Tier" "BUILT_IN" "Lcom/example/verdict_ladder/verdictladder/policy/Tier;" (.ref b4)) (S_b5 : Sta Z h0 "com/example/verdict_ladder/verdictladder/policy/Tier" "DEFAULT" "Lcom/example/verdict_ladder/verdictladder/policy/Tier;" (.ref b5)) :
    MetFree l (⟨"com/example/verdict_ladder/verdictladder/policy/TierIsFallbackPinLaw", "pick", "(I)Lcom/example/verdict_ladder/verdictladder/policy/Tier;"⟩ : MethodName) (head1 (Jvm.Cond.code (⟨"com/example/verdict_ladder/verdictladder/policy/TierIsFallbackPinLaw", "pick", "(I)Lcom/example/verdict_ladder/verdictladder/policy/Tier;"⟩ : MethodName) method_2_code 1 (some (.object "com/example/verdict_ladder/verdictladder/policy/Tier")) :: ws) ({ frames := 0, cells := 0, slots := 0, locals := 0 } : Room)) (fun a U => a = #[(.int p1)] ∧ Z.Warmed39 U.vm ∧ U.heap = h0) (fun _ _ _ _ _ => True) (fun _ U o U' => ∃ v L, o = .returned v ∧ Qp p1 b0 b1 b2 b3 b4 b5 h0 n0 v U'.heap L ∧ FrameEnd U o U' L ({ frames := 0, cells := 0, slots := 0, locals := 0 } : Room).cells ({ frames := 0, cells := 0, slots := 0, locals := 0 } : Room).slots) := by
  refine MetFree.of_bodySF (plainFor_of_name pn_com_example_verdict_ladder_verdictladder_policy_TierIsFallbackPinLaw) hisR ?_
  intro p e s m args below meth c s₁ Bd hml0 hP hK
  obtain ⟨rfl, hZ, hh⟩ := hP
  have hx := Bd.exec
  have hby := Bd.bytes
  have hml : c.maxLocals = 1 := hml0
  have hown : s.vm.findClass "com/example/verdict_ladder/verdictladder/policy/TierIsFallbackPinLaw" = some m.cls := findClass_of_methodNamed Bd.named
  have hnm := (name_of_methodNamed Bd.named Bd.method).1
  have X0 : Stand p l e ({ frames := 0, cells := 0, slots := 0, locals := 0 } : Room) s m #[(.int p1)] below meth c s₁ [] 0 0 := Stand.of_body Bd
  have e0 : s₁.heap = h0 := by rw [← hh, Bd.state]; rfl
  have N0 := Fr.nil n0
  obtain ⟨A0, hA0⟩ : ∃ A, A = s₁.setTop (entryFrame m #[(.int p1)] 1) := ⟨_, rfl⟩
  have R0 : ∀ tgt, Steps p.tables e below (s₁.setTop (mkF m 0 #[.val (.int p1)] [])) tgt → Steps p.tables e below A0 tgt := fun tgt hgo => by rw [hA0]; exact castTop (ef_rm_pick m p1) hgo
  have R2 : ∀ tgt, Steps p.tables e below (s₁.setTop (mkF m 1 #[.val (.int p1)] [(.int p1)])) tgt → Steps p.tables e below A0 tgt := by
    intro tgt hgo
    refine R0 tgt ?_
    show Steps p.tables e below (s₁.setTop (mkF m 0 #[.val (.int p1)] [])) _
    refine XS.iloadN X0.here hx rfl (hb hby d_method_2_0) rfl ?_
    show Steps p.tables e below (s₁.setTop (mkF m 1 #[.val (.int p1)] [(.int p1)])) _
    exact hgo
  by_cases hc1_1 : p1 = (0 : Int32)
  · have R3 : ∀ tgt, Steps p.tables e below (s₁.setTop (mkF m 4 #[.val (.int p1)] [])) tgt → Steps p.tables e below A0 tgt := by
      intro tgt hgo
      refine R2 tgt ?_
      show Steps p.tables e below (s₁.setTop (mkF m 1 #[.val (.int p1)] [(.int p1)])) _
      refine XS.ifNo X0.here hx rfl (hb hby d_method_2_1) rfl ((if0 _ _).trans (teq hc1_1).2) ?_
      show Steps p.tables e below (s₁.setTop (mkF m 4 #[.val (.int p1)] [])) _
      exact hgo
    obtain ⟨T4, X4, e4, st4⟩ := getS2 X0 hx hZ hown (host := "") (Or.inl (hw _ (List.mem_of_getElem? (i := 5) rfl))) Via.refl e0 S_b0 (g := (mkF m 4 #[.val (.int p1)] [])) rfl (hb hby d_method_2_4)
    have R5 : ∀ tgt, Steps p.tables e below (T4.setTop (mkF m 7 #[.val (.int p1)] [(.ref b0)])) tgt → Steps p.tables e below A0 tgt := fun tgt hgo => R3 tgt (st4 tgt hgo)
    subst hA0
    obtain ⟨fs, hr, hrun, hended, hW, hsame⟩ := X4.leave (v := some (.ref b0)) (fun h => by rw [Bd.returns] at h; cases h)
    refine ⟨_, _, R5 _ ?_, hrun, hended, _, _, rfl, ?_, ⟨_, rfl⟩, hW, hsame.mono (by decide) (by decide)⟩
    · show Steps p.tables e below (T4.setTop (mkF m 7 #[.val (.int p1)] [(.ref b0)])) _
      jvm_step X4.here [X4.here.top, hx, (hb hby d_method_2_7), X4.method', Bd.returns, Value.isRef, FieldType.isReference]
      first | (intro acts; rw [hr _ acts rfl rfl rfl]) | rw [hr _ _ rfl rfl rfl]
      exact Steps.refl _
    · show Qp p1 b0 b1 b2 b3 b4 b5 h0 n0 _ T4.heap _
      rw [e4]
      exact ⟨by simp [own_sel, hc1_1], N0, rfl⟩
  · have R7 : ∀ tgt, Steps p.tables e below (s₁.setTop (mkF m 10 #[.val (.int p1)] [(.int (1 : Int32)), (.int p1)])) tgt → Steps p.tables e below A0 tgt := by
      intro tgt hgo
      refine R2 tgt ?_
      show Steps p.tables e below (s₁.setTop (mkF m 1 #[.val (.int p1)] [(.int p1)])) _
      refine XS.ifYes X0.here hx rfl (pc0 := 1) (pc' := 8) rfl (hb hby d_method_2_1) rfl ((if0 _ _).trans (feq hc1_1).2) (by decide) (by decide) ?_
      show Steps p.tables e below (s₁.setTop (mkF m 8 #[.val (.int p1)] [])) _
      refine XS.iloadN X0.here hx rfl (hb hby d_method_2_8) rfl ?_
      show Steps p.tables e below (s₁.setTop (mkF m 9 #[.val (.int p1)] [(.int p1)])) _
      refine XS.iconst X0.here hx rfl (hb hby d_method_2_9) ?_
      show Steps p.tables e below (s₁.setTop (mkF m 10 #[.val (.int p1)] [(.int (1 : Int32)), (.int p1)])) _
      exact hgo
    by_cases hc10_6 : p1 = (1 : Int32)
    · have R8 : ∀ tgt, Steps p.tables e below (s₁.setTop (mkF m 13 #[.val (.int p1)] [])) tgt → Steps p.tables e below A0 tgt := by
        intro tgt hgo
        refine R7 tgt ?_
        show Steps p.tables e below (s₁.setTop (mkF m 10 #[.val (.int p1)] [(.int (1 : Int32)), (.int p1)])) _
        refine XS.icmpNo X0.here hx rfl (hb hby d_method_2_10) rfl (teq hc10_6).2 ?_
        show Steps p.tables e below (s₁.setTop (mkF m 13 #[.val (.int p1)] [])) _
        exact hgo
      obtain ⟨T9, X9, e9, st9⟩ := getS2 X0 hx hZ hown (host := "") (Or.inl (hw _ (List.mem_of_getElem? (i := 21) rfl))) Via.refl e0 S_b1 (g := (mkF m 13 #[.val (.int p1)] [])) rfl (hb hby d_method_2_13)
      have R10 : ∀ tgt, Steps p.tables e below (T9.setTop (mkF m 16 #[.val (.int p1)] [(.ref b1)])) tgt → Steps p.tables e below A0 tgt := fun tgt hgo => R8 tgt (st9 tgt hgo)
      subst hA0
      obtain ⟨fs, hr, hrun, hended, hW, hsame⟩ := X9.leave (v := some (.ref b1)) (fun h => by rw [Bd.returns] at h; cases h)
      refine ⟨_, _, R10 _ ?_, hrun, hended, _, _, rfl, ?_, ⟨_, rfl⟩, hW, hsame.mono (by decide) (by decide)⟩
      · show Steps p.tables e below (T9.setTop (mkF m 16 #[.val (.int p1)] [(.ref b1)])) _
        jvm_step X9.here [X9.here.top, hx, (hb hby d_method_2_16), X9.method', Bd.returns, Value.isRef, FieldType.isReference]
        first | (intro acts; rw [hr _ acts rfl rfl rfl]) | rw [hr _ _ rfl rfl rfl]
        exact Steps.refl _
      · show Qp p1 b0 b1 b2 b3 b4 b5 h0 n0 _ T9.heap _
        rw [e9]
        exact ⟨by simp [own_sel, hc1_1, hc10_6], N0, rfl⟩
    · have R12 : ∀ tgt, Steps p.tables e below (s₁.setTop (mkF m 19 #[.val (.int p1)] [(.int (2 : Int32)), (.int p1)])) tgt → Steps p.tables e below A0 tgt := by
        intro tgt hgo
        refine R7 tgt ?_
        show Steps p.tables e below (s₁.setTop (mkF m 10 #[.val (.int p1)] [(.int (1 : Int32)), (.int p1)])) _
        refine XS.icmpYes X0.here hx rfl (pc0 := 10) (pc' := 17) rfl (hb hby d_method_2_10) rfl (feq hc10_6).2 (by decide) (by decide) ?_
        show Steps p.tables e below (s₁.setTop (mkF m 17 #[.val (.int p1)] [])) _
        refine XS.iloadN X0.here hx rfl (hb hby d_method_2_17) rfl ?_
        show Steps p.tables e below (s₁.setTop (mkF m 18 #[.val (.int p1)] [(.int p1)])) _
        refine XS.iconst X0.here hx rfl (hb hby d_method_2_18) ?_
        show Steps p.tables e below (s₁.setTop (mkF m 19 #[.val (.int p1)] [(.int (2 : Int32)), (.int p1)])) _
        exact hgo
      by_cases hc19_11 : p1 = (2 : Int32)
      · have R13 : ∀ tgt, Steps p.tables e below (s₁.setTop (mkF m 22 #[.val (.int p1)] [])) tgt → Steps p.tables e below A0 tgt := by
          intro tgt hgo
          refine R12 tgt ?_
          show Steps p.tables e below (s₁.setTop (mkF m 19 #[.val (.int p1)] [(.int (2 : Int32)), (.int p1)])) _
          refine XS.icmpNo X0.here hx rfl (hb hby d_method_2_19) rfl (teq hc19_11).2 ?_
          show Steps p.tables e below (s₁.setTop (mkF m 22 #[.val (.int p1)] [])) _
          exact hgo
        obtain ⟨T14, X14, e14, st14⟩ := getS2 X0 hx hZ hown (host := "") (Or.inl (hw _ (List.mem_of_getElem? (i := 19) rfl))) Via.refl e0 S_b2 (g := (mkF m 22 #[.val (.int p1)] [])) rfl (hb hby d_method_2_22)
        have R15 : ∀ tgt, Steps p.tables e below (T14.setTop (mkF m 25 #[.val (.int p1)] [(.ref b2)])) tgt → Steps p.tables e below A0 tgt := fun tgt hgo => R13 tgt (st14 tgt hgo)
        subst hA0
        obtain ⟨fs, hr, hrun, hended, hW, hsame⟩ := X14.leave (v := some (.ref b2)) (fun h => by rw [Bd.returns] at h; cases h)
        refine ⟨_, _, R15 _ ?_, hrun, hended, _, _, rfl, ?_, ⟨_, rfl⟩, hW, hsame.mono (by decide) (by decide)⟩
        · show Steps p.tables e below (T14.setTop (mkF m 25 #[.val (.int p1)] [(.ref b2)])) _
          jvm_step X14.here [X14.here.top, hx, (hb hby d_method_2_25), X14.method', Bd.returns, Value.isRef, FieldType.isReference]
          first | (intro acts; rw [hr _ acts rfl rfl rfl]) | rw [hr _ _ rfl rfl rfl]
          exact Steps.refl _
        · show Qp p1 b0 b1 b2 b3 b4 b5 h0 n0 _ T14.heap _
          rw [e14]
          exact ⟨by simp [own_sel, hc1_1, hc10_6, hc19_11], N0, rfl⟩
      · have R17 : ∀ tgt, Steps p.tables e below (s₁.setTop (mkF m 28 #[.val (.int p1)] [(.int (3 : Int32)), (.int p1)])) tgt → Steps p.tables e below A0 tgt := by
          intro tgt hgo
          refine R12 tgt ?_
          show Steps p.tables e below (s₁.setTop (mkF m 19 #[.val (.int p1)] [(.int (2 : Int32)), (.int p1)])) _
          refine XS.icmpYes X0.here hx rfl (pc0 := 19) (pc' := 26) rfl (hb hby d_method_2_19) rfl (feq hc19_11).2 (by decide) (by decide) ?_
          show Steps p.tables e below (s₁.setTop (mkF m 26 #[.val (.int p1)] [])) _
          refine XS.iloadN X0.here hx rfl (hb hby d_method_2_26) rfl ?_
          show Steps p.tables e below (s₁.setTop (mkF m 27 #[.val (.int p1)] [(.int p1)])) _
          refine XS.iconst X0.here hx rfl (hb hby d_method_2_27) ?_
          show Steps p.tables e below (s₁.setTop (mkF m 28 #[.val (.int p1)] [(.int (3 : Int32)), (.int p1)])) _
          exact hgo
        by_cases hc28_16 : p1 = (3 : Int32)
        · have R18 : ∀ tgt, Steps p.tables e below (s₁.setTop (mkF m 31 #[.val (.int p1)] [])) tgt → Steps p.tables e below A0 tgt := by
            intro tgt hgo
            refine R17 tgt ?_
            show Steps p.tables e below (s₁.setTop (mkF m 28 #[.val (.int p1)] [(.int (3 : Int32)), (.int p1)])) _
            refine XS.icmpNo X0.here hx rfl (hb hby d_method_2_28) rfl (teq hc28_16).2 ?_
            show Steps p.tables e below (s₁.setTop (mkF m 31 #[.val (.int p1)] [])) _
            exact hgo
          obtain ⟨T19, X19, e19, st19⟩ := getS2 X0 hx hZ hown (host := "") (Or.inl (hw _ (List.mem_of_getElem? (i := 17) rfl))) Via.refl e0 S_b3 (g := (mkF m 31 #[.val (.int p1)] [])) rfl (hb hby d_method_2_31)
          have R20 : ∀ tgt, Steps p.tables e below (T19.setTop (mkF m 34 #[.val (.int p1)] [(.ref b3)])) tgt → Steps p.tables e below A0 tgt := fun tgt hgo => R18 tgt (st19 tgt hgo)
          subst hA0
          obtain ⟨fs, hr, hrun, hended, hW, hsame⟩ := X19.leave (v := some (.ref b3)) (fun h => by rw [Bd.returns] at h; cases h)
          refine ⟨_, _, R20 _ ?_, hrun, hended, _, _, rfl, ?_, ⟨_, rfl⟩, hW, hsame.mono (by decide) (by decide)⟩
          · show Steps p.tables e below (T19.setTop (mkF m 34 #[.val (.int p1)] [(.ref b3)])) _
            jvm_step X19.here [X19.here.top, hx, (hb hby d_method_2_34), X19.method', Bd.returns, Value.isRef, FieldType.isReference]
            first | (intro acts; rw [hr _ acts rfl rfl rfl]) | rw [hr _ _ rfl rfl rfl]
            exact Steps.refl _
          · show Qp p1 b0 b1 b2 b3 b4 b5 h0 n0 _ T19.heap _
            rw [e19]
            exact ⟨by simp [own_sel, hc1_1, hc10_6, hc19_11, hc28_16], N0, rfl⟩
        · have R22 : ∀ tgt, Steps p.tables e below (s₁.setTop (mkF m 37 #[.val (.int p1)] [(.int (4 : Int32)), (.int p1)])) tgt → Steps p.tables e below A0 tgt := by
            intro tgt hgo
            refine R17 tgt ?_
            show Steps p.tables e below (s₁.setTop (mkF m 28 #[.val (.int p1)] [(.int (3 : Int32)), (.int p1)])) _
            refine XS.icmpYes X0.here hx rfl (pc0 := 28) (pc' := 35) rfl (hb hby d_method_2_28) rfl (feq hc28_16).2 (by decide) (by decide) ?_
            show Steps p.tables e below (s₁.setTop (mkF m 35 #[.val (.int p1)] [])) _
            refine XS.iloadN X0.here hx rfl (hb hby d_method_2_35) rfl ?_
            show Steps p.tables e below (s₁.setTop (mkF m 36 #[.val (.int p1)] [(.int p1)])) _
            refine XS.iconst X0.here hx rfl (hb hby d_method_2_36) ?_
            show Steps p.tables e below (s₁.setTop (mkF m 37 #[.val (.int p1)] [(.int (4 : Int32)), (.int p1)])) _
            exact hgo
          by_cases hc37_21 : p1 = (4 : Int32)
          · have R23 : ∀ tgt, Steps p.tables e below (s₁.setTop (mkF m 40 #[.val (.int p1)] [])) tgt → Steps p.tables e below A0 tgt := by
              intro tgt hgo
              refine R22 tgt ?_
              show Steps p.tables e below (s₁.setTop (mkF m 37 #[.val (.int p1)] [(.int (4 : Int32)), (.int p1)])) _
              refine XS.icmpNo X0.here hx rfl (hb hby d_method_2_37) rfl (teq hc37_21).2 ?_
              show Steps p.tables e below (s₁.setTop (mkF m 40 #[.val (.int p1)] [])) _
              exact hgo
            obtain ⟨T24, X24, e24, st24⟩ := getS2 X0 hx hZ hown (host := "") (Or.inl (hw _ (List.mem_of_getElem? (i := 24) rfl))) Via.refl e0 S_b4 (g := (mkF m 40 #[.val (.int p1)] [])) rfl (hb hby d_method_2_40)
            have R25 : ∀ tgt, Steps p.tables e below (T24.setTop (mkF m 43 #[.val (.int p1)] [(.ref b4)])) tgt → Steps p.tables e below A0 tgt := fun tgt hgo => R23 tgt (st24 tgt hgo)
            subst hA0
            obtain ⟨fs, hr, hrun, hended, hW, hsame⟩ := X24.leave (v := some (.ref b4)) (fun h => by rw [Bd.returns] at h; cases h)
            refine ⟨_, _, R25 _ ?_, hrun, hended, _, _, rfl, ?_, ⟨_, rfl⟩, hW, hsame.mono (by decide) (by decide)⟩
            · show Steps p.tables e below (T24.setTop (mkF m 43 #[.val (.int p1)] [(.ref b4)])) _
              jvm_step X24.here [X24.here.top, hx, (hb hby d_method_2_43), X24.method', Bd.returns, Value.isRef, FieldType.isReference]
              first | (intro acts; rw [hr _ acts rfl rfl rfl]) | rw [hr _ _ rfl rfl rfl]
              exact Steps.refl _
            · show Qp p1 b0 b1 b2 b3 b4 b5 h0 n0 _ T24.heap _
              rw [e24]
              exact ⟨by simp [own_sel, hc1_1, hc10_6, hc19_11, hc28_16, hc37_21], N0, rfl⟩
          · have R26 : ∀ tgt, Steps p.tables e below (s₁.setTop (mkF m 44 #[.val (.int p1)] [])) tgt → Steps p.tables e below A0 tgt := by
              intro tgt hgo
              refine R22 tgt ?_
              show Steps p.tables e below (s₁.setTop (mkF m 37 #[.val (.int p1)] [(.int (4 : Int32)), (.int p1)])) _
              refine XS.icmpYes X0.here hx rfl (pc0 := 37) (pc' := 44) rfl (hb hby d_method_2_37) rfl (feq hc37_21).2 (by decide) (by decide) ?_
              show Steps p.tables e below (s₁.setTop (mkF m 44 #[.val (.int p1)] [])) _
              exact hgo
            obtain ⟨T27, X27, e27, st27⟩ := getS2 X0 hx hZ hown (host := "") (Or.inl (hw _ (List.mem_of_getElem? (i := 23) rfl))) Via.refl e0 S_b5 (g := (mkF m 44 #[.val (.int p1)] [])) rfl (hb hby d_method_2_44)
            have R28 : ∀ tgt, Steps p.tables e below (T27.setTop (mkF m 47 #[.val (.int p1)] [(.ref b5)])) tgt → Steps p.tables e below A0 tgt := fun tgt hgo => R26 tgt (st27 tgt hgo)
            subst hA0
            obtain ⟨fs, hr, hrun, hended, hW, hsame⟩ := X27.leave (v := some (.ref b5)) (fun h => by rw [Bd.returns] at h; cases h)
            refine ⟨_, _, R28 _ ?_, hrun, hended, _, _, rfl, ?_, ⟨_, rfl⟩, hW, hsame.mono (by decide) (by decide)⟩
            · show Steps p.tables e below (T27.setTop (mkF m 47 #[.val (.int p1)] [(.ref b5)])) _
              jvm_step X27.here [X27.here.top, hx, (hb hby d_method_2_47), X27.method', Bd.returns, Value.isRef, FieldType.isReference]
              first | (intro acts; rw [hr _ acts rfl rfl rfl]) | rw [hr _ _ rfl rfl rfl]
              exact Steps.refl _
            · show Qp p1 b0 b1 b2 b3 b4 b5 h0 n0 _ T27.heap _
              rw [e27]
              exact ⟨by simp [own_sel, hc1_1, hc10_6, hc19_11, hc28_16, hc37_21], N0, rfl⟩
def Qf (a b4 b5 : Addr) (h0 : Heap) (n0 : Nat) (v : Option Value) (h : Heap) (L : List Loc) : Prop := v = some (.int (own_fb a b4 b5)) ∧ Fr n0 L ∧ h = h0
theorem pn_com_example_verdict_ladder_verdictladder_policy_Tier : plainName "com/example/verdict_ladder/verdictladder/policy/Tier" = true := by first | (simp [plainName, overriddenIn]; done) | decide +kernel
theorem ef_rm_isf (m : MethodId) (a1 : Addr) : entryFrame m #[(.ref a1)] 1 = mkF m 0 #[.val (.ref a1)] [] := by first | (simp [entryFrame, mkF, argsToLocals, Value.category]; done) | rfl
theorem d_prog_23_method_6_0 : decode prog_23_method_6_code 0 = .ok (.aload_n 0, 1) := by decide +kernel
theorem d_prog_23_method_6_1 : decode prog_23_method_6_code 1 = .ok (.getstatic 16, 3) := by decide +kernel
theorem d_prog_23_method_6_4 : decode prog_23_method_6_code 4 = .ok (.if_acmp .eq 10, 3) := by decide +kernel
theorem d_prog_23_method_6_14 : decode prog_23_method_6_code 14 = .ok (.iconst 1, 1) := by decide +kernel
theorem d_prog_23_method_6_15 : decode prog_23_method_6_code 15 = .ok (.goto 4, 3) := by decide +kernel
theorem d_prog_23_method_6_19 : decode prog_23_method_6_code 19 = .ok (.ireturn, 1) := by decide +kernel
theorem d_prog_23_method_6_7 : decode prog_23_method_6_code 7 = .ok (.aload_n 0, 1) := by decide +kernel
theorem d_prog_23_method_6_8 : decode prog_23_method_6_code 8 = .ok (.getstatic 19, 3) := by decide +kernel
theorem d_prog_23_method_6_11 : decode prog_23_method_6_code 11 = .ok (.if_acmp .ne 7, 3) := by decide +kernel
theorem d_prog_23_method_6_18 : decode prog_23_method_6_code 18 = .ok (.iconst 0, 1) := by decide +kernel
set_option maxRecDepth 65536 in
set_option maxHeartbeats 40000000 in
theorem rm_isf (l : Launch) (Z : State) (a0 : Array Value) (hw : ∀ d ∈ tables_1, d.before a0 Z = true) (ws : List Jvm.Cond) (a1 : Addr) (b4 b5 : Addr) (h0 : Heap) (n0 : Nat) (Z0 : n0 ≤ h0.size) (S_b4 : Sta Z h0 "com/example/verdict_ladder/verdictladder/policy/Tier" "BUILT_IN" "Lcom/example/verdict_ladder/verdictladder/policy/Tier;" (.ref b4)) (S_b5 : Sta Z h0 "com/example/verdict_ladder/verdictladder/policy/Tier" "DEFAULT" "Lcom/example/verdict_ladder/verdictladder/policy/Tier;" (.ref b5)) :
    MetFree l (⟨"com/example/verdict_ladder/verdictladder/policy/Tier", "isFallback", "()Z"⟩ : MethodName) (head1 (Jvm.Cond.code (⟨"com/example/verdict_ladder/verdictladder/policy/Tier", "isFallback", "()Z"⟩ : MethodName) prog_23_method_6_code 1 (some .boolean) :: ws) ({ frames := 0, cells := 0, slots := 0, locals := 0 } : Room)) (fun a U => a = #[(.ref a1)] ∧ Z.Warmed39 U.vm ∧ U.heap = h0) (fun _ _ _ _ _ => True) (fun _ U o U' => ∃ v L, o = .returned v ∧ Qf a1 b4 b5 h0 n0 v U'.heap L ∧ FrameEnd U o U' L ({ frames := 0, cells := 0, slots := 0, locals := 0 } : Room).cells ({ frames := 0, cells := 0, slots := 0, locals := 0 } : Room).slots) := by
  refine MetFree.of_bodySF (plainFor_of_name pn_com_example_verdict_ladder_verdictladder_policy_Tier) hisR ?_
  intro p e s m args below meth c s₁ Bd hml0 hP hK
  obtain ⟨rfl, hZ, hh⟩ := hP
  have hx := Bd.exec
  have hby := Bd.bytes
  have hml : c.maxLocals = 1 := hml0
  have hown : s.vm.findClass "com/example/verdict_ladder/verdictladder/policy/Tier" = some m.cls := findClass_of_methodNamed Bd.named
  have hnm := (name_of_methodNamed Bd.named Bd.method).1
  have X0 : Stand p l e ({ frames := 0, cells := 0, slots := 0, locals := 0 } : Room) s m #[(.ref a1)] below meth c s₁ [] 0 0 := Stand.of_body Bd
  have e0 : s₁.heap = h0 := by rw [← hh, Bd.state]; rfl
  have N0 := Fr.nil n0
  obtain ⟨A0, hA0⟩ : ∃ A, A = s₁.setTop (entryFrame m #[(.ref a1)] 1) := ⟨_, rfl⟩
  have R0 : ∀ tgt, Steps p.tables e below (s₁.setTop (mkF m 0 #[.val (.ref a1)] [])) tgt → Steps p.tables e below A0 tgt := fun tgt hgo => by rw [hA0]; exact castTop (ef_rm_isf m a1) hgo
  have R1 : ∀ tgt, Steps p.tables e below (s₁.setTop (mkF m 1 #[.val (.ref a1)] [(.ref a1)])) tgt → Steps p.tables e below A0 tgt := by
    intro tgt hgo
    refine R0 tgt ?_
    show Steps p.tables e below (s₁.setTop (mkF m 0 #[.val (.ref a1)] [])) _
    refine XS.aloadN X0.here hx rfl (hb hby d_prog_23_method_6_0) rfl rfl ?_
    show Steps p.tables e below (s₁.setTop (mkF m 1 #[.val (.ref a1)] [(.ref a1)])) _
    exact hgo
  obtain ⟨T2, X2, e2, st2⟩ := getS2 X0 hx hZ hown (host := "") (Or.inl (hw _ (List.mem_of_getElem? (i := 13) rfl))) Via.refl e0 S_b4 (g := (mkF m 1 #[.val (.ref a1)] [(.ref a1)])) rfl (hb hby d_prog_23_method_6_1)
  have R3 : ∀ tgt, Steps p.tables e below (T2.setTop (mkF m 4 #[.val (.ref a1)] [(.ref b4), (.ref a1)])) tgt → Steps p.tables e below A0 tgt := fun tgt hgo => R1 tgt (st2 tgt hgo)
  by_cases ha4_4 : a1 = b4
  · have R5 : ∀ tgt, Steps p.tables e below (T2.setTop (mkF m 19 #[.val (.ref a1)] [(.int (1 : Int32))])) tgt → Steps p.tables e below A0 tgt := by
      intro tgt hgo
      refine R3 tgt ?_
      show Steps p.tables e below (T2.setTop (mkF m 4 #[.val (.ref a1)] [(.ref b4), (.ref a1)])) _
      refine Jvm.RoadKit.acmp (g := (mkF m 4 #[.val (.ref a1)] [(.ref b4), (.ref a1)])) X2 hx rfl rfl rfl (pc0 := 4) (pc' := 14) (same := true) rfl (hb hby d_prog_23_method_6_4) rfl (decide_eq_true (congrArg Value.ref ha4_4)) (by decide) (by decide) ?_
      show Steps p.tables e below (T2.setTop (mkF m 14 #[.val (.ref a1)] [])) _
      refine XS.iconst X2.here hx rfl (hb hby d_prog_23_method_6_14) ?_
      show Steps p.tables e below (T2.setTop (mkF m 15 #[.val (.ref a1)] [(.int (1 : Int32))])) _
      refine XS.goto X2.here hx rfl (pc0 := 15) (pc' := 19) rfl (hb hby d_prog_23_method_6_15) (by decide) (by decide) ?_
      show Steps p.tables e below (T2.setTop (mkF m 19 #[.val (.ref a1)] [(.int (1 : Int32))])) _
      exact hgo
    subst hA0
    obtain ⟨fs, hr, hrun, hended, hW, hsame⟩ := X2.leave (v := some (.int (1 : Int32))) (fun h => by rw [Bd.returns] at h; cases h)
    refine ⟨_, _, R5 _ ?_, hrun, hended, _, _, rfl, ?_, ⟨_, rfl⟩, hW, hsame.mono (by decide) (by decide)⟩
    · show Steps p.tables e below (T2.setTop (mkF m 19 #[.val (.ref a1)] [(.int (1 : Int32))])) _
      exact retN X2 hx (t := .boolean) Bd.returns (by simp) (hb hby d_prog_23_method_6_19) hr
    · show Qf a1 b4 b5 h0 n0 _ T2.heap _
      rw [e2]
      exact ⟨by simp [own_fb, ha4_4], N0, rfl⟩
  · have R6 : ∀ tgt, Steps p.tables e below (T2.setTop (mkF m 8 #[.val (.ref a1)] [(.ref a1)])) tgt → Steps p.tables e below A0 tgt := by
      intro tgt hgo
      refine R3 tgt ?_
      show Steps p.tables e below (T2.setTop (mkF m 4 #[.val (.ref a1)] [(.ref b4), (.ref a1)])) _
      refine Jvm.RoadKit.acmp (g := (mkF m 4 #[.val (.ref a1)] [(.ref b4), (.ref a1)])) X2 hx rfl rfl rfl (pc0 := 4) (pc' := 7) (same := false) rfl (hb hby d_prog_23_method_6_4) rfl (decide_eq_false fun q => ha4_4 (Value.ref.inj q)) (by decide) (by decide) ?_
      show Steps p.tables e below (T2.setTop (mkF m 7 #[.val (.ref a1)] [])) _
      refine XS.aloadN X2.here hx rfl (hb hby d_prog_23_method_6_7) rfl rfl ?_
      show Steps p.tables e below (T2.setTop (mkF m 8 #[.val (.ref a1)] [(.ref a1)])) _
      exact hgo
    obtain ⟨T7, X7, e7, st7⟩ := getS2 X2 hx hZ hown (host := "") (Or.inl (hw _ (List.mem_of_getElem? (i := 15) rfl))) Via.refl e2 S_b5 (g := (mkF m 8 #[.val (.ref a1)] [(.ref a1)])) rfl (hb hby d_prog_23_method_6_8)
    have R8 : ∀ tgt, Steps p.tables e below (T7.setTop (mkF m 11 #[.val (.ref a1)] [(.ref b5), (.ref a1)])) tgt → Steps p.tables e below A0 tgt := fun tgt hgo => R6 tgt (st7 tgt hgo)
    by_cases ha11_9 : a1 = b5
    · have R10 : ∀ tgt, Steps p.tables e below (T7.setTop (mkF m 19 #[.val (.ref a1)] [(.int (1 : Int32))])) tgt → Steps p.tables e below A0 tgt := by
        intro tgt hgo
        refine R8 tgt ?_
        show Steps p.tables e below (T7.setTop (mkF m 11 #[.val (.ref a1)] [(.ref b5), (.ref a1)])) _
        refine Jvm.RoadKit.acmp (g := (mkF m 11 #[.val (.ref a1)] [(.ref b5), (.ref a1)])) X7 hx rfl rfl rfl (pc0 := 11) (pc' := 14) (same := true) rfl (hb hby d_prog_23_method_6_11) rfl (decide_eq_true (congrArg Value.ref ha11_9)) (by decide) (by decide) ?_
        show Steps p.tables e below (T7.setTop (mkF m 14 #[.val (.ref a1)] [])) _
        refine XS.iconst X7.here hx rfl (hb hby d_prog_23_method_6_14) ?_
        show Steps p.tables e below (T7.setTop (mkF m 15 #[.val (.ref a1)] [(.int (1 : Int32))])) _
        refine XS.goto X7.here hx rfl (pc0 := 15) (pc' := 19) rfl (hb hby d_prog_23_method_6_15) (by decide) (by decide) ?_
        show Steps p.tables e below (T7.setTop (mkF m 19 #[.val (.ref a1)] [(.int (1 : Int32))])) _
        exact hgo
      subst hA0
      obtain ⟨fs, hr, hrun, hended, hW, hsame⟩ := X7.leave (v := some (.int (1 : Int32))) (fun h => by rw [Bd.returns] at h; cases h)
      refine ⟨_, _, R10 _ ?_, hrun, hended, _, _, rfl, ?_, ⟨_, rfl⟩, hW, hsame.mono (by decide) (by decide)⟩
      · show Steps p.tables e below (T7.setTop (mkF m 19 #[.val (.ref a1)] [(.int (1 : Int32))])) _
        exact retN X7 hx (t := .boolean) Bd.returns (by simp) (hb hby d_prog_23_method_6_19) hr
      · show Qf a1 b4 b5 h0 n0 _ T7.heap _
        rw [e7]
        exact ⟨by simp [own_fb, ha4_4, ha11_9], N0, rfl⟩
    · have R11 : ∀ tgt, Steps p.tables e below (T7.setTop (mkF m 19 #[.val (.ref a1)] [(.int (0 : Int32))])) tgt → Steps p.tables e below A0 tgt := by
        intro tgt hgo
        refine R8 tgt ?_
        show Steps p.tables e below (T7.setTop (mkF m 11 #[.val (.ref a1)] [(.ref b5), (.ref a1)])) _
        refine Jvm.RoadKit.acmp (g := (mkF m 11 #[.val (.ref a1)] [(.ref b5), (.ref a1)])) X7 hx rfl rfl rfl (pc0 := 11) (pc' := 18) (same := false) rfl (hb hby d_prog_23_method_6_11) rfl (decide_eq_false fun q => ha11_9 (Value.ref.inj q)) (by decide) (by decide) ?_
        show Steps p.tables e below (T7.setTop (mkF m 18 #[.val (.ref a1)] [])) _
        refine XS.iconst X7.here hx rfl (hb hby d_prog_23_method_6_18) ?_
        show Steps p.tables e below (T7.setTop (mkF m 19 #[.val (.ref a1)] [(.int (0 : Int32))])) _
        exact hgo
      subst hA0
      obtain ⟨fs, hr, hrun, hended, hW, hsame⟩ := X7.leave (v := some (.int (0 : Int32))) (fun h => by rw [Bd.returns] at h; cases h)
      refine ⟨_, _, R11 _ ?_, hrun, hended, _, _, rfl, ?_, ⟨_, rfl⟩, hW, hsame.mono (by decide) (by decide)⟩
      · show Steps p.tables e below (T7.setTop (mkF m 19 #[.val (.ref a1)] [(.int (0 : Int32))])) _
        exact retN X7 hx (t := .boolean) Bd.returns (by simp) (hb hby d_prog_23_method_6_19) hr
      · show Qf a1 b4 b5 h0 n0 _ T7.heap _
        rw [e7]
        exact ⟨by simp [own_fb, ha4_4, ha11_9], N0, rfl⟩
def Q0 (n0 : Nat) (v : Option Value) (h : Heap) (L : List Loc) : Prop := v = some (.int 1) ∧ Fr n0 L
theorem ef_rm_law (m : MethodId) (p1 : Int32) : entryFrame m #[(.int p1)] maxLocals = mkF m 0 #[.val (.int p1), .unset, .unset, .unset] [] := by first | (simp [entryFrame, mkF, argsToLocals, Value.category, maxLocals]; done) | rfl
theorem pd_0 : parseMethodDescriptor "(I)Lcom/example/verdict_ladder/verdictladder/policy/Tier;" = some ⟨[.int], some (.object "com/example/verdict_ladder/verdictladder/policy/Tier")⟩ := by decide +kernel
theorem pd_1 : parseMethodDescriptor "()Z" = some ⟨[], some .boolean⟩ := by decide +kernel
set_option maxRecDepth 65536 in
set_option maxHeartbeats 40000000 in
theorem rm_law (l : Launch) (Z : State) (a0 : Array Value) (hw : ∀ d ∈ tables_1, d.before a0 Z = true) (ws : List Jvm.Cond) (p1 : Int32) (b0 b1 b2 b3 b4 b5 : Addr) (h0 : Heap) (n0 : Nat) (Z0 : n0 ≤ h0.size) (S_b0 : Sta Z h0 "com/example/verdict_ladder/verdictladder/policy/Tier" "STRICT" "Lcom/example/verdict_ladder/verdictladder/policy/Tier;" (.ref b0)) (S_b1 : Sta Z h0 "com/example/verdict_ladder/verdictladder/policy/Tier" "STANDARD" "Lcom/example/verdict_ladder/verdictladder/policy/Tier;" (.ref b1)) (S_b2 : Sta Z h0 "com/example/verdict_ladder/verdictladder/policy/Tier" "EVALUATION" "Lcom/example/verdict_ladder/verdictladder/policy/Tier;" (.ref b2)) (S_b3 : Sta Z h0 "com/example/verdict_ladder/verdictladder/policy/Tier" "CUSTOM" "Lcom/example/verdict_ladder/verdictladder/policy/Tier;" (.ref b3)) (S_b4 : Sta Z h0 "com/example/verdict_ladder/verdictladder/policy/Tier" "BUILT_IN" "Lcom/example/verdict_ladder/verdictladder/policy/Tier;" (.ref b4)) (S_b5 : Sta Z h0 "com/example/verdict_ladder/verdictladder/policy/Tier" "DEFAULT" "Lcom/example/verdict_ladder/verdictladder/policy/Tier;" (.ref b5)) (E_b0 : Exa Z h0 b0 "com/example/verdict_ladder/verdictladder/policy/Tier") (E_b1 : Exa Z h0 b1 "com/example/verdict_ladder/verdictladder/policy/Tier") (E_b2 : Exa Z h0 b2 "com/example/verdict_ladder/verdictladder/policy/Tier") (E_b3 : Exa Z h0 b3 "com/example/verdict_ladder/verdictladder/policy/Tier") (E_b4 : Exa Z h0 b4 "com/example/verdict_ladder/verdictladder/policy/Tier") (E_b5 : Exa Z h0 b5 "com/example/verdict_ladder/verdictladder/policy/Tier") (hd : (b0 ≠ b4 ∧ b1 ≠ b4 ∧ b2 ≠ b4 ∧ b3 ≠ b4) ∧ b0 ≠ b5 ∧ b1 ≠ b5 ∧ b2 ≠ b5 ∧ b3 ≠ b5) :
    MetFree l x (head1 (Jvm.Cond.code x code maxLocals ret :: ws) room_1) (fun a U => a = #[(.int p1)] ∧ Z.Warmed39 U.vm ∧ U.heap = h0) (fun _ _ _ _ _ => True) (fun _ U o U' => ∃ v L, o = .returned v ∧ Q0 n0 v U'.heap L ∧ FrameEnd U o U' L room_1.cells room_1.slots) := by
  refine MetFree.of_bodySF (plainFor_of_name pn_com_example_verdict_ladder_verdictladder_policy_TierIsFallbackPinLaw) hisR ?_
  intro p e s m args below meth c s₁ Bd hml0 hP hK
  obtain ⟨rfl, hZ, hh⟩ := hP
  have hx := Bd.exec
  have hby := Bd.bytes
  have hml : c.maxLocals = 4 := hml0
  have hown : s.vm.findClass "com/example/verdict_ladder/verdictladder/policy/TierIsFallbackPinLaw" = some m.cls := findClass_of_methodNamed Bd.named
  have hnm := (name_of_methodNamed Bd.named Bd.method).1
  have X0 : Stand p l e room_1 s m #[(.int p1)] below meth c s₁ [] 0 0 := Stand.of_body Bd
  have e0 : s₁.heap = h0 := by rw [← hh, Bd.state]; rfl
  have N0 := Fr.nil n0
  obtain ⟨A0, hA0⟩ : ∃ A, A = s₁.setTop (entryFrame m #[(.int p1)] maxLocals) := ⟨_, rfl⟩
  have R0 : ∀ tgt, Steps p.tables e below (s₁.setTop (mkF m 0 #[.val (.int p1), .unset, .unset, .unset] [])) tgt → Steps p.tables e below A0 tgt := fun tgt hgo => by rw [hA0]; exact castTop (ef_rm_law m p1) hgo
  have R1 : ∀ tgt, Steps p.tables e below (s₁.setTop (mkF m 7 #[.val (.int p1), .unset, .unset, .unset] [(.int ((p1 &&& (2147483647 : Int32)) - (p1 &&& (2147483647 : Int32)) / (6 : Int32) * (6 : Int32)))])) tgt → Steps p.tables e below A0 tgt := by
    intro tgt hgo
    refine R0 tgt ?_
    show Steps p.tables e below (s₁.setTop (mkF m 0 #[.val (.int p1), .unset, .unset, .unset] [])) _
    refine XS.iloadN X0.here hx rfl (hb hby at_0) rfl ?_
    show Steps p.tables e below (s₁.setTop (mkF m 1 #[.val (.int p1), .unset, .unset, .unset] [(.int p1)])) _
    refine X0.ldcInt hx hown (mvT hZ (hw _ (List.mem_of_getElem? (i := 0) rfl))) (g := (mkF m 1 #[.val (.int p1), .unset, .unset, .unset] [(.int p1)])) rfl (hb hby at_1) _ ?_
    show Steps p.tables e below (s₁.setTop (mkF m 3 #[.val (.int p1), .unset, .unset, .unset] [(.int (2147483647 : Int32)), (.int p1)])) _
    refine XS.iand X0.here hx rfl (hb hby at_3) rfl ?_
    show Steps p.tables e below (s₁.setTop (mkF m 4 #[.val (.int p1), .unset, .unset, .unset] [(.int (p1 &&& (2147483647 : Int32)))])) _
    refine XS.bipush X0.here hx rfl (hb hby at_4) ?_
    show Steps p.tables e below (s₁.setTop (mkF m 6 #[.val (.int p1), .unset, .unset, .unset] [(.int (6 : Int32)), (.int (p1 &&& (2147483647 : Int32)))])) _
    refine XS.irem X0.here hx rfl (hb hby at_6) rfl (by decide) ?_
    show Steps p.tables e below (s₁.setTop (mkF m 7 #[.val (.int p1), .unset, .unset, .unset] [(.int ((p1 &&& (2147483647 : Int32)) - (p1 &&& (2147483647 : Int32)) / (6 : Int32) * (6 : Int32)))])) _
    exact hgo
  obtain ⟨k, e_k⟩ : ∃ z : Int32, z = ((p1 &&& (2147483647 : Int32)) - (p1 &&& (2147483647 : Int32)) / (6 : Int32) * (6 : Int32)) := ⟨_, rfl⟩
  rw [← e_k] at R1
  have R2 : ∀ tgt, Steps p.tables e below (s₁.setTop (mkF m 9 #[.val (.int p1), .val (.int k), .unset, .unset] [(.int k)])) tgt → Steps p.tables e below A0 tgt := by
    intro tgt hgo
    refine R1 tgt ?_
    show Steps p.tables e below (s₁.setTop (mkF m 7 #[.val (.int p1), .unset, .unset, .unset] [(.int k)])) _
    refine XS.istoreN X0.here hx rfl (hb hby at_7) rfl (l' := #[.val (.int p1), .val (.int k), .unset, .unset]) rfl ?_
    show Steps p.tables e below (s₁.setTop (mkF m 8 #[.val (.int p1), .val (.int k), .unset, .unset] [])) _
    refine XS.iloadN X0.here hx rfl (hb hby at_8) rfl ?_
    show Steps p.tables e below (s₁.setTop (mkF m 9 #[.val (.int p1), .val (.int k), .unset, .unset] [(.int k)])) _
    exact hgo
  obtain ⟨_, _, ⟨T3, L3, k3, n3⟩, -, X3, ⟨Lc3, hQ3, l3, y3, z3⟩, st3⟩ := Jvm.LawKit.callS X0 hx (y := (⟨"com/example/verdict_ladder/verdictladder/policy/TierIsFallbackPinLaw", "pick", "(I)Lcom/example/verdict_ladder/verdictladder/policy/Tier;"⟩ : MethodName)) hown (mvT hZ (hw _ (List.mem_of_getElem? (i := 1) rfl))) (mvT hZ (hw _ (List.mem_of_getElem? (i := 2) rfl))) (mvT hZ (hw _ (List.mem_of_getElem? (i := 3) rfl))) (mvT hZ (hw _ (List.mem_of_getElem? (i := 4) rfl))) (by decide) (backOf (W := 0) (rm_pick l Z a0 hw [] k b0 b1 b2 b3 b4 b5 h0 n0 Z0 S_b0 S_b1 S_b2 S_b3 S_b4 S_b5) hZ (hw _ (List.mem_of_getElem? (i := 4) rfl)) (hw _ (List.mem_of_getElem? (i := 3) rfl)) (by decide) (by decide)) (g := (mkF m 9 #[.val (.int p1), .val (.int k), .unset, .unset] [(.int k)])) rfl (by rw [hml]; rfl) (argsL := [(.int k)]) (rest := []) (lenOf pd_0 rfl) rfl (by show 2 * 0 + _ ≤ _; exact Nat.le_of_eq rfl) (hb hby at_9) (fun _ _ => ⟨rfl, e0, (by decide : 0 + 0 ≤ _), (by decide : 0 + 0 ≤ _)⟩)
  dsimp only [Pt.U, Pt.locs, Pt.cells, Pt.slots] at X3 l3 y3 z3 st3 hQ3
  subst l3 y3 z3
  obtain ⟨rfl, N3q, e3⟩ := hQ3
  have N3 := Fr.app N0 N3q
  have R4 : ∀ tgt, Steps p.tables e below (T3.setTop (mkF m 12 #[.val (.int p1), .val (.int k), .unset, .unset] [(.ref (own_sel k b0 b1 b2 b3 b4 b5))])) tgt → Steps p.tables e below A0 tgt := fun tgt hgo => R2 tgt (st3 tgt hgo)
  obtain ⟨t, e_t⟩ : ∃ z : Addr, z = (own_sel k b0 b1 b2 b3 b4 b5) := ⟨_, rfl⟩
  rw [← e_t] at R4
  have E_t : Exa Z h0 t "com/example/verdict_ladder/verdictladder/policy/Tier" := by rw [e_t]; exact own_sel_all (p := fun a => Exa Z h0 a "com/example/verdict_ladder/verdictladder/policy/Tier") E_b0 E_b1 E_b2 E_b3 E_b4 E_b5
  have R6 : ∀ tgt, Steps p.tables e below (T3.setTop (mkF m 15 #[.val (.int p1), .val (.int k), .val (.ref t), .unset] [(.int (4 : Int32)), (.int k)])) tgt → Steps p.tables e below A0 tgt := by
    intro tgt hgo
    refine R4 tgt ?_
    show Steps p.tables e below (T3.setTop (mkF m 12 #[.val (.int p1), .val (.int k), .unset, .unset] [(.ref t)])) _
    refine XS.astoreN X3.here hx rfl (hb hby at_12) rfl rfl (l' := #[.val (.int p1), .val (.int k), .val (.ref t), .unset]) rfl ?_
    show Steps p.tables e below (T3.setTop (mkF m 13 #[.val (.int p1), .val (.int k), .val (.ref t), .unset] [])) _
    refine XS.iloadN X3.here hx rfl (hb hby at_13) rfl ?_
    show Steps p.tables e below (T3.setTop (mkF m 14 #[.val (.int p1), .val (.int k), .val (.ref t), .unset] [(.int k)])) _
    refine XS.iconst X3.here hx rfl (hb hby at_14) ?_
    show Steps p.tables e below (T3.setTop (mkF m 15 #[.val (.int p1), .val (.int k), .val (.ref t), .unset] [(.int (4 : Int32)), (.int k)])) _
    exact hgo
  by_cases hc15_5 : k < (4 : Int32)
  · have R7 : ∀ tgt, Steps p.tables e below (T3.setTop (mkF m 25 #[.val (.int p1), .val (.int k), .val (.ref t), .val (.int (0 : Int32))] [(.ref t)])) tgt → Steps p.tables e below A0 tgt := by
      intro tgt hgo
      refine R6 tgt ?_
      show Steps p.tables e below (T3.setTop (mkF m 15 #[.val (.int p1), .val (.int k), .val (.ref t), .unset] [(.int (4 : Int32)), (.int k)])) _
      refine XS.icmpYes X3.here hx rfl (pc0 := 15) (pc' := 22) rfl (hb hby at_15) rfl (tlt hc15_5).1 (by decide) (by decide) ?_
      show Steps p.tables e below (T3.setTop (mkF m 22 #[.val (.int p1), .val (.int k), .val (.ref t), .unset] [])) _
      refine XS.iconst X3.here hx rfl (hb hby at_22) ?_
      show Steps p.tables e below (T3.setTop (mkF m 23 #[.val (.int p1), .val (.int k), .val (.ref t), .unset] [(.int (0 : Int32))])) _
      refine XS.istoreN X3.here hx rfl (hb hby at_23) rfl (l' := #[.val (.int p1), .val (.int k), .val (.ref t), .val (.int (0 : Int32))]) rfl ?_
      show Steps p.tables e below (T3.setTop (mkF m 24 #[.val (.int p1), .val (.int k), .val (.ref t), .val (.int (0 : Int32))] [])) _
      refine XS.aloadN X3.here hx rfl (hb hby at_24) rfl rfl ?_
      show Steps p.tables e below (T3.setTop (mkF m 25 #[.val (.int p1), .val (.int k), .val (.ref t), .val (.int (0 : Int32))] [(.ref t)])) _
      exact hgo
    obtain ⟨cq8, kq8, q8a, q8b, q8c⟩ := isOf hZ e3 E_t
    obtain ⟨_, _, ⟨T8, L8, k8, n8⟩, -, X8, ⟨Lc8, hQ8, l8, y8, z8⟩, st8⟩ := X3.virtualBack hx (y := (⟨"com/example/verdict_ladder/verdictladder/policy/Tier", "isFallback", "()Z"⟩ : MethodName)) (z := (⟨"com/example/verdict_ladder/verdictladder/policy/Tier", "isFallback", "()Z"⟩ : MethodName)) hown (mvT hZ (hw _ (List.mem_of_getElem? (i := 8) rfl))) (mvT hZ (hw _ (List.mem_of_getElem? (i := 9) rfl))) (notFace_of_selects (args := #[]) (mvT hZ (hw _ (List.mem_of_getElem? (i := 11) rfl)))) (mvT hZ (hw _ (List.mem_of_getElem? (i := 11) rfl))) (mvT hZ (hw _ (List.mem_of_getElem? (i := 10) rfl))) (by decide) (backOf (W := 0) (rm_isf l Z a0 hw [] t b4 b5 h0 n0 Z0 S_b4 S_b5) hZ (hw _ (List.mem_of_getElem? (i := 12) rfl)) (hw _ (List.mem_of_getElem? (i := 6) rfl)) (by decide) (by decide)) q8a q8c (g := (mkF m 25 #[.val (.int p1), .val (.int k), .val (.ref t), .val (.int (0 : Int32))] [(.ref t)])) rfl (by rw [hml]; rfl) (Steps.refl _) (argsL := []) (rest := []) (lenOf pd_1 rfl) rfl (by show 2 * 0 + _ ≤ _; exact Nat.le_of_eq rfl) (hb hby at_25) (fun _ _ => ⟨rfl, e3, (by decide : 0 + 0 ≤ _), (by decide : 0 + 0 ≤ _)⟩)
    dsimp only [Pt.U, Pt.locs, Pt.cells, Pt.slots] at X8 l8 y8 z8 st8 hQ8
    subst l8 y8 z8
    obtain ⟨rfl, N8q, e8⟩ := hQ8
    have N8 := Fr.app N3 N8q
    have R9 : ∀ tgt, Steps p.tables e below (T8.setTop (mkF m 28 #[.val (.int p1), .val (.int k), .val (.ref t), .val (.int (0 : Int32))] [(.int (own_fb t b4 b5))])) tgt → Steps p.tables e below A0 tgt := fun tgt hgo => R7 tgt (st8.trans hgo)
    have R10 : ∀ tgt, Steps p.tables e below (T8.setTop (mkF m 37 #[.val (.int p1), .val (.int k), .val (.ref t), .val (.int (0 : Int32))] [(.int (1 : Int32))])) tgt → Steps p.tables e below A0 tgt := by
      intro tgt hgo
      refine R9 tgt ?_
      show Steps p.tables e below (T8.setTop (mkF m 28 #[.val (.int p1), .val (.int k), .val (.ref t), .val (.int (0 : Int32))] [(.int (own_fb t b4 b5))])) _
      refine XS.iloadN X8.here hx rfl (hb hby at_28) rfl ?_
      show Steps p.tables e below (T8.setTop (mkF m 29 #[.val (.int p1), .val (.int k), .val (.ref t), .val (.int (0 : Int32))] [(.int (0 : Int32)), (.int (own_fb t b4 b5))])) _
      refine XS.icmpNo X8.here hx rfl (hb hby at_29) rfl (teq (by rw [e_t]; exact own_no k b0 b1 b2 b3 b4 b5 hc15_5 (own_k p1 k e_k).1 hd : (own_fb t b4 b5) = (0 : Int32))).2 ?_
      show Steps p.tables e below (T8.setTop (mkF m 32 #[.val (.int p1), .val (.int k), .val (.ref t), .val (.int (0 : Int32))] [])) _
      refine XS.iconst X8.here hx rfl (hb hby at_32) ?_
      show Steps p.tables e below (T8.setTop (mkF m 33 #[.val (.int p1), .val (.int k), .val (.ref t), .val (.int (0 : Int32))] [(.int (1 : Int32))])) _
      refine XS.goto X8.here hx rfl (pc0 := 33) (pc' := 37) rfl (hb hby at_33) (by decide) (by decide) ?_
      show Steps p.tables e below (T8.setTop (mkF m 37 #[.val (.int p1), .val (.int k), .val (.ref t), .val (.int (0 : Int32))] [(.int (1 : Int32))])) _
      exact hgo
    subst hA0
    obtain ⟨fs, hr, hrun, hended, hW, hsame⟩ := X8.leave (v := some (.int (1 : Int32))) (fun h => by rw [Bd.returns] at h; cases h)
    refine ⟨_, _, R10 _ ?_, hrun, hended, _, _, rfl, ?_, ⟨_, rfl⟩, hW, hsame.mono (by decide) (by decide)⟩
    · show Steps p.tables e below (T8.setTop (mkF m 37 #[.val (.int p1), .val (.int k), .val (.ref t), .val (.int (0 : Int32))] [(.int (1 : Int32))])) _
      exact retN X8 hx (t := .boolean) Bd.returns (by simp) (hb hby at_37) hr
    · show Q0 n0 _ T8.heap _
      rw [e8]
      exact ⟨rfl, N8⟩
  · have R11 : ∀ tgt, Steps p.tables e below (T3.setTop (mkF m 25 #[.val (.int p1), .val (.int k), .val (.ref t), .val (.int (1 : Int32))] [(.ref t)])) tgt → Steps p.tables e below A0 tgt := by
      intro tgt hgo
      refine R6 tgt ?_
      show Steps p.tables e below (T3.setTop (mkF m 15 #[.val (.int p1), .val (.int k), .val (.ref t), .unset] [(.int (4 : Int32)), (.int k)])) _
      refine XS.icmpNo X3.here hx rfl (hb hby at_15) rfl (flt hc15_5).1 ?_
      show Steps p.tables e below (T3.setTop (mkF m 18 #[.val (.int p1), .val (.int k), .val (.ref t), .unset] [])) _
      refine XS.iconst X3.here hx rfl (hb hby at_18) ?_
      show Steps p.tables e below (T3.setTop (mkF m 19 #[.val (.int p1), .val (.int k), .val (.ref t), .unset] [(.int (1 : Int32))])) _
      refine XS.goto X3.here hx rfl (pc0 := 19) (pc' := 23) rfl (hb hby at_19) (by decide) (by decide) ?_
      show Steps p.tables e below (T3.setTop (mkF m 23 #[.val (.int p1), .val (.int k), .val (.ref t), .unset] [(.int (1 : Int32))])) _
      refine XS.istoreN X3.here hx rfl (hb hby at_23) rfl (l' := #[.val (.int p1), .val (.int k), .val (.ref t), .val (.int (1 : Int32))]) rfl ?_
      show Steps p.tables e below (T3.setTop (mkF m 24 #[.val (.int p1), .val (.int k), .val (.ref t), .val (.int (1 : Int32))] [])) _
      refine XS.aloadN X3.here hx rfl (hb hby at_24) rfl rfl ?_
      show Steps p.tables e below (T3.setTop (mkF m 25 #[.val (.int p1), .val (.int k), .val (.ref t), .val (.int (1 : Int32))] [(.ref t)])) _
      exact hgo
    obtain ⟨cq12, kq12, q12a, q12b, q12c⟩ := isOf hZ e3 E_t
    obtain ⟨_, _, ⟨T12, L12, k12, n12⟩, -, X12, ⟨Lc12, hQ12, l12, y12, z12⟩, st12⟩ := X3.virtualBack hx (y := (⟨"com/example/verdict_ladder/verdictladder/policy/Tier", "isFallback", "()Z"⟩ : MethodName)) (z := (⟨"com/example/verdict_ladder/verdictladder/policy/Tier", "isFallback", "()Z"⟩ : MethodName)) hown (mvT hZ (hw _ (List.mem_of_getElem? (i := 8) rfl))) (mvT hZ (hw _ (List.mem_of_getElem? (i := 9) rfl))) (notFace_of_selects (args := #[]) (mvT hZ (hw _ (List.mem_of_getElem? (i := 11) rfl)))) (mvT hZ (hw _ (List.mem_of_getElem? (i := 11) rfl))) (mvT hZ (hw _ (List.mem_of_getElem? (i := 10) rfl))) (by decide) (backOf (W := 0) (rm_isf l Z a0 hw [] t b4 b5 h0 n0 Z0 S_b4 S_b5) hZ (hw _ (List.mem_of_getElem? (i := 12) rfl)) (hw _ (List.mem_of_getElem? (i := 6) rfl)) (by decide) (by decide)) q12a q12c (g := (mkF m 25 #[.val (.int p1), .val (.int k), .val (.ref t), .val (.int (1 : Int32))] [(.ref t)])) rfl (by rw [hml]; rfl) (Steps.refl _) (argsL := []) (rest := []) (lenOf pd_1 rfl) rfl (by show 2 * 0 + _ ≤ _; exact Nat.le_of_eq rfl) (hb hby at_25) (fun _ _ => ⟨rfl, e3, (by decide : 0 + 0 ≤ _), (by decide : 0 + 0 ≤ _)⟩)
    dsimp only [Pt.U, Pt.locs, Pt.cells, Pt.slots] at X12 l12 y12 z12 st12 hQ12
    subst l12 y12 z12
    obtain ⟨rfl, N12q, e12⟩ := hQ12
    have N12 := Fr.app N3 N12q
    have R13 : ∀ tgt, Steps p.tables e below (T12.setTop (mkF m 28 #[.val (.int p1), .val (.int k), .val (.ref t), .val (.int (1 : Int32))] [(.int (own_fb t b4 b5))])) tgt → Steps p.tables e below A0 tgt := fun tgt hgo => R11 tgt (st12.trans hgo)
    have R14 : ∀ tgt, Steps p.tables e below (T12.setTop (mkF m 37 #[.val (.int p1), .val (.int k), .val (.ref t), .val (.int (1 : Int32))] [(.int (1 : Int32))])) tgt → Steps p.tables e below A0 tgt := by
      intro tgt hgo
      refine R13 tgt ?_
      show Steps p.tables e below (T12.setTop (mkF m 28 #[.val (.int p1), .val (.int k), .val (.ref t), .val (.int (1 : Int32))] [(.int (own_fb t b4 b5))])) _
      refine XS.iloadN X12.here hx rfl (hb hby at_28) rfl ?_
      show Steps p.tables e below (T12.setTop (mkF m 29 #[.val (.int p1), .val (.int k), .val (.ref t), .val (.int (1 : Int32))] [(.int (1 : Int32)), (.int (own_fb t b4 b5))])) _
      refine XS.icmpNo X12.here hx rfl (hb hby at_29) rfl (teq (by rw [e_t]; exact own_yes k b0 b1 b2 b3 b4 b5 hc15_5 : (own_fb t b4 b5) = (1 : Int32))).2 ?_
      show Steps p.tables e below (T12.setTop (mkF m 32 #[.val (.int p1), .val (.int k), .val (.ref t), .val (.int (1 : Int32))] [])) _
      refine XS.iconst X12.here hx rfl (hb hby at_32) ?_
      show Steps p.tables e below (T12.setTop (mkF m 33 #[.val (.int p1), .val (.int k), .val (.ref t), .val (.int (1 : Int32))] [(.int (1 : Int32))])) _
      refine XS.goto X12.here hx rfl (pc0 := 33) (pc' := 37) rfl (hb hby at_33) (by decide) (by decide) ?_
      show Steps p.tables e below (T12.setTop (mkF m 37 #[.val (.int p1), .val (.int k), .val (.ref t), .val (.int (1 : Int32))] [(.int (1 : Int32))])) _
      exact hgo
    subst hA0
    obtain ⟨fs, hr, hrun, hended, hW, hsame⟩ := X12.leave (v := some (.int (1 : Int32))) (fun h => by rw [Bd.returns] at h; cases h)
    refine ⟨_, _, R14 _ ?_, hrun, hended, _, _, rfl, ?_, ⟨_, rfl⟩, hW, hsame.mono (by decide) (by decide)⟩
    · show Steps p.tables e below (T12.setTop (mkF m 37 #[.val (.int p1), .val (.int k), .val (.ref t), .val (.int (1 : Int32))] [(.int (1 : Int32))])) _
      exact retN X12 hx (t := .boolean) Bd.returns (by simp) (hb hby at_37) hr
    · show Q0 n0 _ T12.heap _
      rw [e12]
      exact ⟨rfl, N12⟩
set_option maxRecDepth 65536 in
set_option maxHeartbeats 40000000 in
theorem comes_1 {Post : Tables → Env → Array Value → State → Outcome → State → Prop} (hpost : ∀ tb e args s v u, (limb_1_1.after args s (.returned v) u = true ∧ limb_1_2.after args s (.returned v) u = true ∧ True) → FrameEnd s (.returned v) u (Jvm.fieldLocs frame_1_writes args s ++ Jvm.arrayLocs frame_1_arrays args s ++ Jvm.staticLocs frame_1_statics s) 0 0 → Post tb e args s (.returned v) u) :
    ArmFor flags0 classFile x code maxLocals ret World_1 tables_1 room_1 Calls_1 rest_1 Pre_1 Post := by
  intro l hfl _ _ p e ha hc hk s m args below hf hA hF happ hP
  obtain ⟨hcalls, hrest, hpre⟩ := hP
  obtain ⟨-, -, -, hnamed, -, -, -, hat⟩ := (Spec.applies_iff hf).mp happ
  obtain ⟨hg, hn⟩ := and_e (Cond.before_iff.mp (show (Jvm.Cond.and given_1 narrow_1).before args s = true from hpre))
  obtain ⟨hg0, hg⟩ := and_e hg
  have hg1 := hg
  obtain ⟨w0, rfl⟩ : ∃ w0 : Value, args = #[w0] := by
    have hs : args.size = 1 := by simpa [Cond.value, given_1] using hg0
    obtain ⟨L⟩ := args
    match L, hs with
    | [w0], _ => exact ⟨w0, rfl⟩
  have hw := fun d (hd : d ∈ tables_1) => atoms_spec (ws := Jvm.Cond.code x code maxLocals ret :: tables_1) hat d (List.mem_cons_of_mem _ hd)
  have hfit : Fit s := fun {y c} hc i hi => by
    obtain ⟨ha, rfl⟩ := Array.getElem?_eq_some_iff.mp hc
    have q := List.all_eq_true.mp ((Array.all_eq_true_iff_forall_mem.mp hF) _ (Array.getElem_mem ha)) i (List.mem_range.mpr hi)
    simpa [Array.getElem?_eq_getElem hi] using q
  obtain ⟨i0, ei0⟩ := is_v hg1
  obtain rfl : w0 = (.int i0) := Option.some.inj ei0
  obtain ⟨n0, hn⟩ := and_e hn
  obtain ⟨n1, hn⟩ := and_e hn
  obtain ⟨n2, hn⟩ := and_e hn
  obtain ⟨n3, hn⟩ := and_e hn
  obtain ⟨n4, hn⟩ := and_e hn
  obtain ⟨n5, hn⟩ := and_e hn
  obtain ⟨n6, hn⟩ := and_e hn
  obtain ⟨n7, hn⟩ := and_e hn
  obtain ⟨n8, hn⟩ := and_e hn
  obtain ⟨n9, hn⟩ := and_e hn
  obtain ⟨n10, hn⟩ := and_e hn
  have n11 := hn
  obtain ⟨b0, ev_b0⟩ := exa_v n0
  have E_b0 : Exa s s.heap b0 "com/example/verdict_ladder/verdictladder/policy/Tier" := Exa.start ev_b0 n0
  have S_b0 : Sta s s.heap "com/example/verdict_ladder/verdictladder/policy/Tier" "STRICT" "Lcom/example/verdict_ladder/verdictladder/policy/Tier;" (.ref b0) := Sta.start ev_b0 (Or.inr ⟨(hw _ (List.mem_of_getElem? (i := 6) rfl)), (hw _ (List.mem_of_getElem? (i := 7) rfl))⟩)
  obtain ⟨b4, ev_b4⟩ := exa_v n1
  have E_b4 : Exa s s.heap b4 "com/example/verdict_ladder/verdictladder/policy/Tier" := Exa.start ev_b4 n1
  have S_b4 : Sta s s.heap "com/example/verdict_ladder/verdictladder/policy/Tier" "BUILT_IN" "Lcom/example/verdict_ladder/verdictladder/policy/Tier;" (.ref b4) := Sta.start ev_b4 (Or.inr ⟨(hw _ (List.mem_of_getElem? (i := 6) rfl)), (hw _ (List.mem_of_getElem? (i := 14) rfl))⟩)
  obtain ⟨b5, ev_b5⟩ := exa_v n4
  have E_b5 : Exa s s.heap b5 "com/example/verdict_ladder/verdictladder/policy/Tier" := Exa.start ev_b5 n4
  have S_b5 : Sta s s.heap "com/example/verdict_ladder/verdictladder/policy/Tier" "DEFAULT" "Lcom/example/verdict_ladder/verdictladder/policy/Tier;" (.ref b5) := Sta.start ev_b5 (Or.inr ⟨(hw _ (List.mem_of_getElem? (i := 6) rfl)), (hw _ (List.mem_of_getElem? (i := 16) rfl))⟩)
  obtain ⟨b3, ev_b3⟩ := exa_v n6
  have E_b3 : Exa s s.heap b3 "com/example/verdict_ladder/verdictladder/policy/Tier" := Exa.start ev_b3 n6
  have S_b3 : Sta s s.heap "com/example/verdict_ladder/verdictladder/policy/Tier" "CUSTOM" "Lcom/example/verdict_ladder/verdictladder/policy/Tier;" (.ref b3) := Sta.start ev_b3 (Or.inr ⟨(hw _ (List.mem_of_getElem? (i := 6) rfl)), (hw _ (List.mem_of_getElem? (i := 18) rfl))⟩)
  obtain ⟨b2, ev_b2⟩ := exa_v n8
  have E_b2 : Exa s s.heap b2 "com/example/verdict_ladder/verdictladder/policy/Tier" := Exa.start ev_b2 n8
  have S_b2 : Sta s s.heap "com/example/verdict_ladder/verdictladder/policy/Tier" "EVALUATION" "Lcom/example/verdict_ladder/verdictladder/policy/Tier;" (.ref b2) := Sta.start ev_b2 (Or.inr ⟨(hw _ (List.mem_of_getElem? (i := 6) rfl)), (hw _ (List.mem_of_getElem? (i := 20) rfl))⟩)
  obtain ⟨b1, ev_b1⟩ := exa_v n10
  have E_b1 : Exa s s.heap b1 "com/example/verdict_ladder/verdictladder/policy/Tier" := Exa.start ev_b1 n10
  have S_b1 : Sta s s.heap "com/example/verdict_ladder/verdictladder/policy/Tier" "STANDARD" "Lcom/example/verdict_ladder/verdictladder/policy/Tier;" (.ref b1) := Sta.start ev_b1 (Or.inr ⟨(hw _ (List.mem_of_getElem? (i := 6) rfl)), (hw _ (List.mem_of_getElem? (i := 22) rfl))⟩)
  have F_ordinal_b0 : Fld s s.heap b0 "java/lang/Enum" "ordinal" "I" (.int (0 : Int32)) := own_fld n2 ev_b0
  have F_ordinal_b4 : Fld s s.heap b4 "java/lang/Enum" "ordinal" "I" (.int (4 : Int32)) := own_fld n3 ev_b4
  have F_ordinal_b5 : Fld s s.heap b5 "java/lang/Enum" "ordinal" "I" (.int (5 : Int32)) := own_fld n5 ev_b5
  have F_ordinal_b3 : Fld s s.heap b3 "java/lang/Enum" "ordinal" "I" (.int (3 : Int32)) := own_fld n7 ev_b3
  have F_ordinal_b2 : Fld s s.heap b2 "java/lang/Enum" "ordinal" "I" (.int (2 : Int32)) := own_fld n9 ev_b2
  have F_ordinal_b1 : Fld s s.heap b1 "java/lang/Enum" "ordinal" "I" (.int (1 : Int32)) := own_fld n11 ev_b1
  obtain ⟨n, o, h1, h2, h3, _, L, rfl, ⟨rfl, N⟩, hq⟩ := rm_law l s _ hw tables_1 i0 b0 b1 b2 b3 b4 b5 s.heap s.heap.size (Nat.le_refl _) S_b0 S_b1 S_b2 S_b3 S_b4 S_b5 E_b0 E_b1 E_b2 E_b3 E_b4 E_b5 ⟨⟨Fld.ne F_ordinal_b0 F_ordinal_b4 (by decide), Fld.ne F_ordinal_b1 F_ordinal_b4 (by decide), Fld.ne F_ordinal_b2 F_ordinal_b4 (by decide), Fld.ne F_ordinal_b3 F_ordinal_b4 (by decide)⟩, Fld.ne F_ordinal_b0 F_ordinal_b5 (by decide), Fld.ne F_ordinal_b1 F_ordinal_b5 (by decide), Fld.ne F_ordinal_b2 F_ordinal_b5 (by decide), Fld.ne F_ordinal_b3 F_ordinal_b5 (by decide)⟩ p e ha hc hk s m _ below hf ((Spec.applies_iff_loose hf).mp happ).1 ⟨rfl, State.Warmed39.refl s, rfl⟩ trivial
  refine ⟨n, _, h1, h2, h3, hpost _ _ _ _ _ _ ⟨Cond.after_iff.mpr rfl, Cond.after_iff.mpr (eq_i res_at (Term.int_eval (1)) rfl), trivial⟩ ⟨hq.1, hq.2.1, (hq.2.2.sift fun y hy => Or.inr (N y hy)).mono (by decide) (by decide)⟩⟩
theorem main_1_1 : Claimed_1_1 := comes_1 fun _ _ _ _ _ _ h hF => ⟨h.1, hF⟩
theorem main_1_2 : Claimed_1_2 := comes_1 fun _ _ _ _ _ _ h hF => ⟨h.2.1, hF⟩
end Jvm.Pilot.@@N@@
namespace Jvm.Pilot.@@N@@
open Jvm Jvm.ClassFile Sem Op Lib Jvm.Free Jvm.Stand Jvm.Pilot.@@N@@.Jvm.D
/-! MADE BY PROGRAM (witnessworld.py) out of the Statement's table words and the real class files: 12 classes; the members and pool entries that the words name. The judged class is class 1, her method 2. -/
namespace start1
open Jvm.ClassFile
def u (s : String) : CpInfo := .utf8 (stringToUtf16 s)
/-- a pool by its gaps: so many unusable entries, then the entry; so many at the end -/
def gap : Nat → List CpInfo → List CpInfo
  | 0, r => r
  | n + 1, r => .unusable :: gap n r
def poolList (es : List (Nat × CpInfo)) (last : Nat) : List CpInfo := es.foldr (fun e r => gap e.1 (e.2 :: r)) (gap last [])
def pool (es : List (Nat × CpInfo)) (last : Nat) : Array CpInfo := ⟨poolList es last⟩
def fileOf (pool : Array CpInfo) (this : Nat) (attrs : Array Attribute := #[]) (ms : Array MethodInfo := #[]) (fl : Nat := 33) (sup : Nat := 0) (ifs : Array Nat := #[]) (fds : Array FieldInfo := #[]) : ClassFile where
  minorVersion := 0
  majorVersion := 65
  constantPool := pool
  accessFlags := fl
  thisClass := this
  superClass := sup
  interfaces := ifs
  fields := fds
  methods := ms
  attributes := attrs
def plain (name : String) (sup : Option ClassId) : Class where
  name := name
  kind := .ordinary
  loader := none
  accessFlags := 33
  super := sup
  interfaces := #[]
  cf := none
  fields := #[]
  methods := #[]
  instanceTypes := #[]
  staticTypes := #[]
  resolved := #[]
  callSites := []
  init := .initialized
  statics := none
  mirror := none

def pool0 : Array CpInfo := pool [(5, u "<init>"), (0, u "()V"), (1, .class_ 10), (1, u "java/lang/Object")] 113

def k0m0 : Method := { name := "<init>", desc := "()V", sig := { parameters := [], returnType := none }, accessFlags := 1, code := none }
/-- java/lang/Object -/
def k0 : Class := { plain "java/lang/Object" none with
  accessFlags := 33
  interfaces := #[]
  cf := some (fileOf pool0 8 #[] #[{ accessFlags := 1, nameIndex := 5, descriptorIndex := 6, attributes := #[] }] 33 0 #[] #[])
  fields := #[]
  methods := #[k0m0]
  instanceTypes := #[]
  staticTypes := #[]
  resolved := Array.replicate 124 none
  statics := none }

def pool1 : Array CpInfo := pool [(2, .class_ 4), (1, u "java/lang/Object"), (0, u "<init>"), (0, u "()V"), (0, .fieldref 8 9), (0, .class_ 10), (0, .nameAndType 11 12), (0, u "com/example/verdict_ladder/verdictladder/policy/Tier"), (0, u "STRICT"), (0, u "Lcom/example/verdict_ladder/verdictladder/policy/Tier;"), (0, .fieldref 8 14), (0, .nameAndType 15 12), (0, u "STANDARD"), (0, .fieldref 8 17), (0, .nameAndType 18 12), (0, u "EVALUATION"), (0, .fieldref 8 20), (0, .nameAndType 21 12), (0, u "CUSTOM"), (0, .fieldref 8 23), (0, .nameAndType 24 12), (0, u "BUILT_IN"), (0, .fieldref 8 26), (0, .nameAndType 27 12), (0, u "DEFAULT"), (0, .integer 2147483647), (0, .methodref 30 31), (0, .class_ 32), (0, .nameAndType 33 34), (0, u "com/example/verdict_ladder/verdictladder/policy/TierIsFallbackPinLaw"), (0, u "pick"), (0, u "(I)Lcom/example/verdict_ladder/verdictladder/policy/Tier;"), (0, .methodref 8 36), (0, .nameAndType 37 38), (0, u "isFallback"), (0, u "()Z"), (3, u "law"), (0, u "(I)Z")] 2

def k1m0 : Method := { name := "<init>", desc := "()V", sig := { parameters := [], returnType := none }, accessFlags := 2, code := none }
def k1c1 : Code := { maxStack := 2, maxLocals := 1, code := method_2_code, exceptionTable := #[], attributes := #[] }
def k1m1 : Method := { name := "pick", desc := "(I)Lcom/example/verdict_ladder/verdictladder/policy/Tier;", sig := { parameters := [.int], returnType := some (.object "com/example/verdict_ladder/verdictladder/policy/Tier") }, accessFlags := 10, code := some k1c1 }
def k1c2 : Code := { maxStack := 2, maxLocals := 4, code := code, exceptionTable := #[], attributes := #[] }
def k1m2 : Method := { name := "law", desc := "(I)Z", sig := { parameters := [.int], returnType := some .boolean }, accessFlags := 9, code := some k1c2 }
/-- com/example/verdict_ladder/verdictladder/policy/TierIsFallbackPinLaw -/
def k1 : Class := { plain "com/example/verdict_ladder/verdictladder/policy/TierIsFallbackPinLaw" (some 0) with
  accessFlags := 49
  interfaces := #[]
  cf := some (fileOf pool1 30 #[] #[{ accessFlags := 2, nameIndex := 5, descriptorIndex := 6, attributes := #[] }, { accessFlags := 10, nameIndex := 33, descriptorIndex := 34, attributes := #[] }, { accessFlags := 9, nameIndex := 42, descriptorIndex := 43, attributes := #[] }] 49 2 #[] #[])
  fields := #[]
  methods := #[k1m0, k1m1, k1m2]
  instanceTypes := #[]
  staticTypes := #[]
  resolved := Array.replicate 46 none
  statics := none }

def pool2 : Array CpInfo := pool [(1, .class_ 2), (0, u "java/lang/constant/Constable"), (0, .class_ 4), (0, u "java/lang/Object")] 6

/-- java/lang/constant/Constable -/
def k2 : Class := { plain "java/lang/constant/Constable" (some 0) with
  accessFlags := 1537
  interfaces := #[]
  cf := some (fileOf pool2 1 #[] #[] 1537 3 #[] #[])
  fields := #[]
  methods := #[]
  instanceTypes := #[]
  staticTypes := #[]
  resolved := Array.replicate 11 none
  statics := none }

def pool3 : Array CpInfo := pool [(1, .class_ 2), (0, u "java/lang/Comparable"), (0, .class_ 4), (0, u "java/lang/Object")] 7

/-- java/lang/Comparable -/
def k3 : Class := { plain "java/lang/Comparable" (some 0) with
  accessFlags := 1537
  interfaces := #[]
  cf := some (fileOf pool3 1 #[] #[] 1537 3 #[] #[])
  fields := #[]
  methods := #[]
  instanceTypes := #[]
  staticTypes := #[]
  resolved := Array.replicate 12 none
  statics := none }

def pool4 : Array CpInfo := pool [(1, .class_ 2), (0, u "java/io/Serializable"), (0, .class_ 4), (0, u "java/lang/Object")] 2

/-- java/io/Serializable -/
def k4 : Class := { plain "java/io/Serializable" (some 0) with
  accessFlags := 1537
  interfaces := #[]
  cf := some (fileOf pool4 1 #[] #[] 1537 3 #[] #[])
  fields := #[]
  methods := #[]
  instanceTypes := #[]
  staticTypes := #[]
  resolved := Array.replicate 7 none
  statics := none }

def pool5 : Array CpInfo := pool [(2, .class_ 4), (1, u "java/lang/Enum"), (0, u "name"), (0, u "Ljava/lang/String;"), (2, u "ordinal"), (0, u "I"), (1, .class_ 14), (1, u "java/lang/Object"), (4, u "hash"), (86, .class_ 108), (1, u "java/lang/Enum$EnumDesc"), (2, .class_ 112), (0, u "java/lang/constant/Constable"), (0, .class_ 114), (0, u "java/lang/Comparable"), (0, .class_ 116), (0, u "java/io/Serializable")] 87

/-- java/lang/Enum -/
def k5 : Class := { plain "java/lang/Enum" (some 0) with
  accessFlags := 1057
  interfaces := #[2, 3, 4]
  cf := some (fileOf pool5 2 #[.nestMembers #[106]] #[] 1057 12 #[111, 113, 115] #[{ accessFlags := 18, nameIndex := 5, descriptorIndex := 6, attributes := #[] }, { accessFlags := 18, nameIndex := 9, descriptorIndex := 10, attributes := #[] }, { accessFlags := 2, nameIndex := 19, descriptorIndex := 10, attributes := #[] }])
  fields := #[{ name := "name", type := (.object "java/lang/String"), accessFlags := 18, slot := 0, constantValue := 0 }, { name := "ordinal", type := .int, accessFlags := 18, slot := 1, constantValue := 0 }, { name := "hash", type := .int, accessFlags := 2, slot := 2, constantValue := 0 }]
  methods := #[]
  instanceTypes := #[(.object "java/lang/String"), .int, .int]
  staticTypes := #[]
  resolved := Array.replicate 204 none
  statics := none }

def pool6 : Array CpInfo := pool [(1, .class_ 2), (0, u "com/example/verdict_ladder/verdictladder/policy/Tier"), (2, u "STRICT"), (0, u "Lcom/example/verdict_ladder/verdictladder/policy/Tier;"), (2, u "STANDARD"), (2, u "EVALUATION"), (2, u "CUSTOM"), (0, .fieldref 1 17), (0, .nameAndType 18 6), (0, u "BUILT_IN"), (0, .fieldref 1 20), (0, .nameAndType 21 6), (0, u "DEFAULT"), (2, u "$VALUES"), (0, u "[Lcom/example/verdict_ladder/verdictladder/policy/Tier;"), (6, .class_ 34), (1, u "java/lang/Enum"), (8, u "token"), (0, u "Ljava/lang/String;"), (2, u "BY_TOKEN"), (0, u "Lcom/example/verdict_ladder/verdictladder/ladder/TokenIndex;"), (52, u "isFallback"), (0, u "()Z")] 27

def k6c0 : Code := { maxStack := 2, maxLocals := 1, code := prog_23_method_6_code, exceptionTable := #[], attributes := #[] }
def k6m0 : Method := { name := "isFallback", desc := "()Z", sig := { parameters := [], returnType := some .boolean }, accessFlags := 1, code := some k6c0 }
/-- com/example/verdict_ladder/verdictladder/policy/Tier -/
def k6 : Class := { plain "com/example/verdict_ladder/verdictladder/policy/Tier" (some 5) with
  accessFlags := 16433
  interfaces := #[]
  cf := some (fileOf pool6 1 #[] #[{ accessFlags := 1, nameIndex := 101, descriptorIndex := 102, attributes := #[] }] 16433 32 #[] #[{ accessFlags := 16409, nameIndex := 5, descriptorIndex := 6, attributes := #[] }, { accessFlags := 16409, nameIndex := 9, descriptorIndex := 6, attributes := #[] }, { accessFlags := 16409, nameIndex := 12, descriptorIndex := 6, attributes := #[] }, { accessFlags := 16409, nameIndex := 15, descriptorIndex := 6, attributes := #[] }, { accessFlags := 16409, nameIndex := 18, descriptorIndex := 6, attributes := #[] }, { accessFlags := 16409, nameIndex := 21, descriptorIndex := 6, attributes := #[] }, { accessFlags := 26, nameIndex := 47, descriptorIndex := 48, attributes := #[] }, { accessFlags := 18, nameIndex := 43, descriptorIndex := 44, attributes := #[] }, { accessFlags := 4122, nameIndex := 24, descriptorIndex := 25, attributes := #[] }])
  fields := #[{ name := "STRICT", type := (.object "com/example/verdict_ladder/verdictladder/policy/Tier"), accessFlags := 16409, slot := 0, constantValue := 0 }, { name := "STANDARD", type := (.object "com/example/verdict_ladder/verdictladder/policy/Tier"), accessFlags := 16409, slot := 1, constantValue := 0 }, { name := "EVALUATION", type := (.object "com/example/verdict_ladder/verdictladder/policy/Tier"), accessFlags := 16409, slot := 2, constantValue := 0 }, { name := "CUSTOM", type := (.object "com/example/verdict_ladder/verdictladder/policy/Tier"), accessFlags := 16409, slot := 3, constantValue := 0 }, { name := "BUILT_IN", type := (.object "com/example/verdict_ladder/verdictladder/policy/Tier"), accessFlags := 16409, slot := 4, constantValue := 0 }, { name := "DEFAULT", type := (.object "com/example/verdict_ladder/verdictladder/policy/Tier"), accessFlags := 16409, slot := 5, constantValue := 0 }, { name := "BY_TOKEN", type := (.object "com/example/verdict_ladder/verdictladder/ladder/TokenIndex"), accessFlags := 26, slot := 6, constantValue := 0 }, { name := "token", type := (.object "java/lang/String"), accessFlags := 18, slot := 3, constantValue := 0 }, { name := "$VALUES", type := (.array (.object "com/example/verdict_ladder/verdictladder/policy/Tier")), accessFlags := 4122, slot := 7, constantValue := 0 }]
  methods := #[k6m0]
  instanceTypes := #[(.object "java/lang/String"), .int, .int, (.object "java/lang/String")]
  staticTypes := #[(.object "com/example/verdict_ladder/verdictladder/policy/Tier"), (.object "com/example/verdict_ladder/verdictladder/policy/Tier"), (.object "com/example/verdict_ladder/verdictladder/policy/Tier"), (.object "com/example/verdict_ladder/verdictladder/policy/Tier"), (.object "com/example/verdict_ladder/verdictladder/policy/Tier"), (.object "com/example/verdict_ladder/verdictladder/policy/Tier"), (.object "com/example/verdict_ladder/verdictladder/ladder/TokenIndex"), (.array (.object "com/example/verdict_ladder/verdictladder/policy/Tier"))]
  resolved := Array.replicate 130 none
  statics := some 0 }

def pool7 : Array CpInfo := pool [(1, u "java/lang/Cloneable"), (0, .class_ 1), (0, u "java/lang/Object"), (0, .class_ 3)] 3

/-- java/lang/Cloneable -/
def k7 : Class := { plain "java/lang/Cloneable" (some 0) with
  accessFlags := 1537
  interfaces := #[]
  cf := some (fileOf pool7 2 #[] #[] 1537 4 #[] #[])
  fields := #[]
  methods := #[]
  instanceTypes := #[]
  staticTypes := #[]
  resolved := Array.replicate 8 none
  statics := none }

/-- the primitive byte -/
def k8 : Class := { plain "byte" none with kind := .primitive 'B', accessFlags := 0x411 }
/-- [B -/
def k9 : Class := { plain "[B" (some 0) with kind := .array 8 .byte, interfaces := #[7, 4], accessFlags := 1041 }

/-- the primitive int -/
def k10 : Class := { plain "int" none with kind := .primitive 'I', accessFlags := 0x411 }
/-- [I -/
def k11 : Class := { plain "[I" (some 0) with kind := .array 10 .int, interfaces := #[7, 4], accessFlags := 1041 }

def heap : Heap := #[{ cls := 6, slots := #[.ref 1, .ref 2, .ref 3, .ref 4, .ref 5, .ref 6, .null, .null], vm := .statics 6 },
  { cls := 6, slots := #[.null, .int 0, .int 0, .null], vm := .none },
  { cls := 6, slots := #[.null, .int 1, .int 0, .null], vm := .none },
  { cls := 6, slots := #[.null, .int 2, .int 0, .null], vm := .none },
  { cls := 6, slots := #[.null, .int 3, .int 0, .null], vm := .none },
  { cls := 6, slots := #[.null, .int 4, .int 0, .null], vm := .none },
  { cls := 6, slots := #[.null, .int 5, .int 0, .null], vm := .none }]
def classes : Array Class := #[k0, k1, k2, k3, k4, k5, k6, k7, k8, k9, k10, k11]
def interned : List (Array UInt16 × Addr) := []
def slotsUsed : Nat := 32
def theMethod : MethodId := ⟨1, 2⟩
def args0 : Array Value := #[.int 5]
def aboutOver (below : List Frame) : State where
  vm := { classes := classes, interned := interned.toArray }
  heap := heap
  slotsUsed := slotsUsed
  threads := #[{ frames := .invoking theMethod args0 :: below }]
def below0 : List Frame := [.native { method := ⟨0, 0⟩, args := #[] }]
def about1 : State := aboutOver below0
def p0 : Program := .bare "" "" ""
def e0 : Env := launch0.env 0 0 0
theorem w_frames : about1.frames = Frame.invoking theMethod args0 :: below0 := rfl
set_option maxRecDepth 65536 in
theorem w_args : argsFit about1.vm theMethod args0 = true := by decide +kernel
set_option maxRecDepth 65536 in
theorem w_heap : heapFits about1 = true := by decide +kernel
set_option maxRecDepth 65536 in
theorem w_runnable : about1.curStatus? = some .runnable := by decide +kernel
set_option maxRecDepth 65536 in
theorem w_alone : about1.alone = true := by decide +kernel
set_option maxRecDepth 65536 in
theorem w_named : about1.methodNamed? x = some theMethod := by decide +kernel
set_option maxRecDepth 65536 in
theorem w_hears : about1.hears theMethod below0 = true := by decide +kernel
set_option maxRecDepth 65536 in
theorem w_ripe : about1.ripe theMethod args0 below0 = true := by decide +kernel
theorem w_running : about1.status = .running := rfl
set_option maxRecDepth 65536 in
theorem w_room : about1.hasRoom e0.platform room_1 = true :=
  launch0.hasRoom_least _ room_1 (by decide +kernel) (by decide +kernel) (by decide +kernel) (by decide +kernel) (by decide +kernel) (by decide +kernel)
theorem allAtoms_all (ts : List Jvm.Cond) (a : Array Jvm.Value) (st : Jvm.State) : (allAtoms ts).before a st = ts.all (fun c => c.before a st) := by
  induction ts with
  | nil => rfl
  | cons c t ih =>
    show (Jvm.Cond.and c (allAtoms t)).before a st = _
    rw [Jvm.Cond.before_and, ih, List.all_cons]
def words1 : List Jvm.Cond := Jvm.Cond.code x code maxLocals ret :: tables_1
/-- a 'code' word, met by the world's own term for the bytes: nothing is compared byte by byte -/
theorem code_word {y : MethodName} {bytes : ByteArray} {mx : Nat} {rt : Option FieldType} {a : Array Value} {s : State} {m : MethodId} {meth : Method} {c : Code} (h1 : s.methodNamed? y = some m) (h2 : s.vm.method? m = some meth) (h3 : meth.code = some c) (h4 : c.code = bytes)
    (h5 : (c.maxLocals == mx && c.exceptionTable.isEmpty && decide (c.maxStack ≤ mostOperands) && decide (meth.sig.returnType = rt) && !meth.locks && decide (parseMethodDescriptor y.desc = some meth.sig)) = true) : (Jvm.Cond.code y bytes mx rt).before a s = true := by
  simp only [Bool.and_eq_true, beq_iff_eq, Bool.not_eq_true', decide_eq_true_eq] at h5
  obtain ⟨⟨⟨⟨⟨g1, g2⟩, g3⟩, g4⟩, g5⟩, g6⟩ := h5
  simp [Cond.before, Cond.holds, Cond.value, h1, h2, h3, h4, g1, g2, g3, g4, g5, g6]
def isCode : Jvm.Cond → Bool
  | .code _ _ _ _ => true
  | _ => false
theorem all_split {L : List Jvm.Cond} {P : Jvm.Cond → Bool} (h1 : L.all (fun c => isCode c || P c) = true) (h2 : ∀ c ∈ L.filter isCode, P c = true) : L.all P = true := by
  refine List.all_eq_true.mpr fun c hc => ?_
  have h := List.all_eq_true.mp h1 c hc
  rcases Bool.eq_false_or_eq_true (isCode c) with hi | hi
  · exact h2 c (List.mem_filter.mpr ⟨hc, hi⟩)
  · simpa [hi] using h
set_option maxRecDepth 65536 in
theorem w_c0 : (Jvm.Cond.code x code maxLocals ret).before args0 about1 = true := code_word (m := ⟨1, 2⟩) (meth := k1m2) (c := k1c2) (by decide +kernel) rfl rfl rfl (by decide +kernel)
set_option maxRecDepth 65536 in
theorem w_c1 : (Jvm.Cond.code ({ cls := "com/example/verdict_ladder/verdictladder/policy/TierIsFallbackPinLaw", name := "pick", desc := "(I)Lcom/example/verdict_ladder/verdictladder/policy/Tier;" } : Jvm.MethodName) method_2_code (1 : Nat) (Option.some (Jvm.ClassFile.FieldType.object "com/example/verdict_ladder/verdictladder/policy/Tier"))).before args0 about1 = true := code_word (m := ⟨1, 1⟩) (meth := k1m1) (c := k1c1) (by decide +kernel) rfl rfl rfl (by decide +kernel)
set_option maxRecDepth 65536 in
theorem w_c2 : (Jvm.Cond.code ({ cls := "com/example/verdict_ladder/verdictladder/policy/Tier", name := "isFallback", desc := "()Z" } : Jvm.MethodName) prog_23_method_6_code (1 : Nat) (Option.some Jvm.ClassFile.FieldType.boolean)).before args0 about1 = true := code_word (m := ⟨6, 0⟩) (meth := k6m0) (c := k6c0) (by decide +kernel) rfl rfl rfl (by decide +kernel)
def codes1 : List Jvm.Cond := [Jvm.Cond.code x code maxLocals ret, Jvm.Cond.code ({ cls := "com/example/verdict_ladder/verdictladder/policy/TierIsFallbackPinLaw", name := "pick", desc := "(I)Lcom/example/verdict_ladder/verdictladder/policy/Tier;" } : Jvm.MethodName) method_2_code (1 : Nat) (Option.some (Jvm.ClassFile.FieldType.object "com/example/verdict_ladder/verdictladder/policy/Tier")), Jvm.Cond.code ({ cls := "com/example/verdict_ladder/verdictladder/policy/Tier", name := "isFallback", desc := "()Z" } : Jvm.MethodName) prog_23_method_6_code (1 : Nat) (Option.some Jvm.ClassFile.FieldType.boolean)]
set_option maxRecDepth 65536 in
theorem codes_eq : words1.filter isCode = codes1 := rfl
theorem w_codes : ∀ c ∈ words1.filter isCode, c.before args0 about1 = true := by
  rw [codes_eq]
  intro c hc
  simp only [codes1, List.mem_cons, List.not_mem_nil, or_false] at hc
  rcases hc with rfl | rfl | rfl
  · exact w_c0
  · exact w_c1
  · exact w_c2
set_option maxRecDepth 65536 in
theorem w_t1 : (words1.take 24).all (fun c => isCode c || c.before args0 about1) = true := by decide +kernel
set_option maxRecDepth 65536 in
theorem w_t2 : (words1.drop 24).all (fun c => isCode c || c.before args0 about1) = true := by decide +kernel
theorem w_tables : (allAtoms (Jvm.Cond.code x code maxLocals ret :: tables_1)).before args0 about1 = true := by
  rw [allAtoms_all]
  show words1.all (fun c => c.before args0 about1) = true
  refine all_split ?_ w_codes
  rw [← List.take_append_drop 24 words1, List.all_append, w_t1, w_t2]
  rfl
set_option maxRecDepth 65536 in
theorem w_case : (Jvm.Cond.and given_1 narrow_1).before args0 about1 = true := by decide +kernel
theorem w_applies : (headSpec (Jvm.Cond.code x code maxLocals ret :: tables_1) room_1).applies x e0.platform about1 = true :=
  (Spec.applies_iff w_frames).mpr ⟨w_running, w_runnable, w_alone, w_named, w_hears, w_ripe, w_room, w_tables⟩
theorem atStart : AtStart classFile x code maxLocals ret World_1 tables_1 room_1 Calls_1 rest_1 Pre_1 launch0 p0 e0 about1 theMethod args0 below0 :=
  ⟨lists_1, trivial, launch0.admits_env _ _ _, launch0.least_env, fairChoices_fair.cas, fairChoices_fair.clock, w_frames, w_args, w_heap, w_applies, trivial, trivial, w_case⟩
end start1
theorem witness_1 : WitnessClaimed_1 := ⟨start1.p0, start1.e0, start1.about1, start1.theMethod, start1.args0, start1.below0, start1.atStart⟩
end Jvm.Pilot.@@N@@
