import JvmDerived
import JvmDerived.Pilot.@@N@@Statement
import JvmDerived.Pilot.@@N@@Code
set_option linter.unusedVariables false
set_option linter.unusedSimpArgs false
@@BLOCK:NumsL.lean.txt@@
namespace Jvm.RoadKit
open Sem ClassFile Op Lib Jvm.Stand Jvm.Free Jvm.LawKit
section New
variable {p : Program} {l : Launch} {e : Env} {R : Room} {s : State} {m : MethodId} {args : Array Value} {below : List Frame} {meth : Method} {c : Code} {T : State} {locs : List Loc} {cells slots : Nat}
theorem retI (X : Stand p l e R s m args below meth c T locs cells slots) (hx : p.tables.exec = Jvm.exec) {pc : Nat} {Ls : Array Slot} {z : Int32} {rest : List Value} (hret : meth.sig.returnType = some .int) (hd : decode c.code pc = .ok (.ireturn, 1)) {fs : List Frame}
    (hl : ∀ (f : JFrame) (acts : List Action), f.method = m → f.locked = none → f.entered = [] → (doReturn e (T.setTop f) acts (some (.int z))).1 = T.setFrames fs) : Steps p.tables e below (T.setTop (mkF m pc Ls (.int z :: rest))) (T.setFrames fs) := by
  have hm' : T.vm.method? m = some meth := X.method'
  have hn : narrow .int (.int z) = .int z := rfl
  show Steps p.tables e below (T.setTop { method := m, pc := pc, locals := Ls, stack := _ :: rest, locked := none }) _
  jvm_step X.here [X.here.top, hx, hd, hm', hret, hn]
  first | (intro acts; rw [hl _ acts rfl rfl rfl]) | rw [hl _ _ rfl rfl rfl]
  exact Steps.refl _
end New
end Jvm.RoadKit
namespace Jvm.Pilot.@@N@@.OwnFp
open Jvm.FP.Core
theorem own_cancel {X Y a b : Nat} (h : X * 2 ^ a = Y * 2 ^ b) : X * 2 ^ (a - b) = Y * 2 ^ (b - a) := by
  rcases Nat.le_total a b with q | q
  · obtain ⟨d, rfl⟩ := Nat.le.dest q
    rw [show a - (a + d) = 0 by omega, show a + d - a = d by omega, Nat.pow_zero, Nat.mul_one]
    rw [Nat.pow_add, Nat.mul_comm (2 ^ a), ← Nat.mul_assoc] at h
    exact Nat.eq_of_mul_eq_mul_right (Nat.two_pow_pos a) h
  · obtain ⟨d, rfl⟩ := Nat.le.dest q
    rw [show b - (b + d) = 0 by omega, show b + d - b = d by omega, Nat.pow_zero, Nat.mul_one]
    rw [Nat.pow_add, Nat.mul_comm (2 ^ b), ← Nat.mul_assoc] at h
    exact Nat.eq_of_mul_eq_mul_right (Nat.two_pow_pos b) h
def Ex (d : Datum) (s : Bool) (n k : Nat) : Prop := ∃ (c : Nat) (q : Int), d = .fin s c q ∧ -1074 ≤ q ∧ k ≤ 1074 ∧ c * 2 ^ (q + 1074).toNat = n * 2 ^ (1074 - k)
theorem own_exact (s : Bool) (n k : Nat) (hn : n < 2 ^ 53) (hk : k ≤ 1000) : Ex (roundRatio b64 s n 1 (-(k : Int))) s n k := by
  by_cases h0 : n = 0
  · subst h0
    exact ⟨0, -1074, rfl, Int.le_refl _, by omega, by simp⟩
  · have a1 : n.log2 < 53 := (Nat.log2_lt h0).mpr hn
    have a2 := Nat.log2_self_le h0
    have a3 : n < 2 ^ (n.log2 + 1) := Nat.lt_log2_self
    generalize hl : n.log2 = g at a1 a2 a3
    have hc1 : n * 2 ^ (52 - g) < 2 ^ 53 := by
      have : 2 ^ (g + 1) * 2 ^ (52 - g) = (2 : Nat) ^ 53 := by rw [← Nat.pow_add]; congr 1; omega
      rw [← this]; exact Nat.mul_lt_mul_of_pos_right a3 (Nat.two_pow_pos _)
    have hc2 : 2 ^ 52 ≤ n * 2 ^ (52 - g) := by
      have : 2 ^ g * 2 ^ (52 - g) = (2 : Nat) ^ 52 := by rw [← Nat.pow_add]; congr 1; omega
      rw [← this]; exact Nat.mul_le_mul_right _ a2
    have hq1 : b64.qmin = -1074 := by decide
    have hq2 : b64.qmax = 971 := by decide
    have hp : b64.p = 53 := rfl
    have ht : b64.tails = 2 ^ 52 := rfl
    have e1 := roundRatio_exact good_b64 (s := s) (A := n) (B := 1) (c := n * 2 ^ (52 - g)) (e := -(k : Int)) (q := -(k : Int) - ((52 - g : Nat) : Int)) (by decide)
      ⟨hp ▸ hc1, by rw [hq1]; omega, by rw [hq2]; omega, Or.inr (ht ▸ hc2)⟩ (by
        rw [show (-(k : Int) - (-(k : Int) - ((52 - g : Nat) : Int))).toNat = 52 - g by omega, show (-(k : Int) - ((52 - g : Nat) : Int) - -(k : Int)).toNat = 0 by omega]; simp)
    refine ⟨_, _, e1, by omega, by omega, ?_⟩
    rw [Nat.mul_assoc, ← Nat.pow_add]; congr 2; omega
theorem own_mul {d d' : Datum} {s t : Bool} {n m k j : Nat} (h1 : Ex d s n k) (h2 : Ex d' t m j) : round b64 (exactProduct d d') = roundRatio b64 (s != t) (n * m) 1 (-((k + j : Nat) : Int)) := by
  obtain ⟨c, q, rfl, a1, a2, a3⟩ := h1
  obtain ⟨c', q', rfl, b1, b2, b3⟩ := h2
  refine roundRatio_congr (by decide) (by decide) ?_
  have h : (c * c') * 2 ^ ((q + 1074).toNat + (q' + 1074).toNat) = (n * m) * 2 ^ ((1074 - k) + (1074 - j)) := by
    rw [Nat.pow_add, Nat.pow_add, Nat.mul_mul_mul_comm, a3, b3, Nat.mul_mul_mul_comm]
  have h' := own_cancel h
  rw [Nat.mul_one, Nat.mul_one, show (q + q' - -((k + j : Nat) : Int)).toNat = (q + 1074).toNat + (q' + 1074).toNat - ((1074 - k) + (1074 - j)) by omega, show (-((k + j : Nat) : Int) - (q + q')).toNat = ((1074 - k) + (1074 - j)) - ((q + 1074).toNat + (q' + 1074).toNat) by omega]
  exact h'
theorem own_div {d : Datum} {s : Bool} {n k i : Nat} {r : Int} (hr : 52 + r = i) (h1 : Ex d s n k) : quotient b64 d (.fin false (2 ^ 52) r) = roundRatio b64 s n 1 (-((k + i : Nat) : Int)) := by
  obtain ⟨c, q, rfl, a1, a2, a3⟩ := h1
  have e : quotient b64 (.fin s c q) (.fin false (2 ^ 52) r) = roundRatio b64 (s != false) c (2 ^ 52) (q - r) := by
    simp only [quotient]; rw [if_neg (by decide)]
  rw [e, Bool.bne_false]
  refine roundRatio_congr (by decide) (by decide) ?_
  have h : c * 2 ^ ((q + 1074).toNat + 52) = (n * 2 ^ 52) * 2 ^ (1074 - k) := by
    rw [Nat.pow_add, ← Nat.mul_assoc, a3, Nat.mul_right_comm]
  have h' := own_cancel h
  rw [Nat.mul_one, show (q - r - -((k + i : Nat) : Int)).toNat = (q + 1074).toNat + 52 - (1074 - k) by omega, show (-((k + i : Nat) : Int) - (q - r)).toNat = (1074 - k) - ((q + 1074).toNat + 52) by omega]
  exact h'
theorem own_signed_mul (s : Bool) (c b : Nat) : signed s c * (b : Int) = signed s (c * b) := by cases s <;> simp [signed, Int.neg_mul]
theorem own_units {c : Nat} {q e : Int} (h1 : e ≤ q) (h2 : -1074 ≤ e) : inUnits c q e * 2 ^ (e + 1074).toNat = c * 2 ^ (q + 1074).toNat := by
  unfold inUnits
  rw [Nat.mul_assoc, ← Nat.pow_add]; congr 2; omega
theorem own_sub {d d' : Datum} {s t : Bool} {n m k : Nat} (h1 : Ex d s n k) (h2 : Ex d' t m k) : ∃ S, round b64 (exactSum d (negate d')) = roundRatio b64 S (signed s n - signed t m).natAbs 1 (-(k : Int)) := by
  obtain ⟨c, q, rfl, a1, a2, a3⟩ := h1
  obtain ⟨c', q', rfl, b1, b2, b3⟩ := h2
  refine ⟨_, roundRatio_congr (by decide) (by decide) ?_⟩
  generalize he : min q q' = e
  have u1 := own_units (c := c) (q := q) (e := e) (by omega) (by omega)
  have u2 := own_units (c := c') (q := q') (e := e) (by omega) (by omega)
  have neg : ∀ x : Nat, signed (!t) x = - signed t x := fun x => by cases t <;> simp [signed]
  have hs : (sumUnits s c q (!t) c' q' e) * ((2 ^ (e + 1074).toNat : Nat) : Int) = (signed s n - signed t m) * ((2 ^ (1074 - k) : Nat) : Int) := by
    unfold sumUnits
    rw [neg, ← Int.sub_eq_add_neg, Int.sub_mul, Int.sub_mul, own_signed_mul, own_signed_mul, own_signed_mul, own_signed_mul, u1, u2, a3, b3]
  have hn : (sumUnits s c q (!t) c' q' e).natAbs * 2 ^ (e + 1074).toNat = (signed s n - signed t m).natAbs * 2 ^ (1074 - k) := by
    have := congrArg Int.natAbs hs
    rwa [Int.natAbs_mul, Int.natAbs_mul, Int.natAbs_natCast, Int.natAbs_natCast] at this
  have h' := own_cancel hn
  rw [Nat.mul_one, Nat.mul_one, show (e - -(k : Int)).toNat = (e + 1074).toNat - (1074 - k) by omega, show (-(k : Int) - e).toNat = (1074 - k) - (e + 1074).toNat by omega]
  exact h'
theorem own_signed_of (a : Int) : signed (decide (a < 0)) a.natAbs = a := by
  unfold signed
  by_cases h : a < 0
  · simp [h]; omega
  · simp [h]; omega
theorem own_of_int (a : Int) (h : a.natAbs < 2 ^ 53) : Ex (round b64 (ofInt a)) (decide (a < 0)) a.natAbs 0 := own_exact _ _ 0 h (by omega)
theorem own_nn {x : UInt64} {s : Bool} {n k : Nat} (h : Ex (val64 x) s n k) : val64 x ≠ .nan := by obtain ⟨c, q, e, -⟩ := h; rw [e]; exact nofun
theorem own_dfin {x : UInt64} {s : Bool} {n k : Nat} (h : Ex (val64 x) s n k) : Jvm.Free.Fl.NoNaN64 x := by
  obtain ⟨c, q, e, -⟩ := h
  exact (Jvm.Free.Fl.fin64_core.mpr ⟨s, c, q, e⟩).noNaN
def b2048 : UInt64 := 4656722014701092864
def b2p44 : UInt64 := 4805340802404319232
theorem own_b2048 : val64 b2048 = .fin false (2 ^ 52) (-41) := by decide +kernel
theorem own_b2p44 : val64 b2p44 = .fin false (2 ^ 52) (-8) := by decide +kernel
/-- an int over 2048 -/
theorem own_q (a : Int32) (h : a.toInt.natAbs < 2 ^ 53) : Ex (val64 (ddiv (i2d a) b2048)) (decide (a.toInt < 0)) a.toInt.natAbs 11 := by
  rw [val64_ddiv, val64_i2d, own_b2048, own_div (i := 11) (by decide) (own_of_int _ h)]
  exact own_exact _ _ 11 h (by omega)
theorem own_diff (a b : Int32) (ha : a.toInt.natAbs < 2 ^ 52) (hb : b.toInt.natAbs < 2 ^ 52) : ∃ S, Ex (val64 (dsub (ddiv (i2d a) b2048) (ddiv (i2d b) b2048))) S (a.toInt - b.toInt).natAbs 11 := by
  obtain ⟨S, e⟩ := own_sub (own_q a (by omega)) (own_q b (by omega))
  rw [own_signed_of, own_signed_of] at e
  refine ⟨S, ?_⟩
  rw [val64_dsub, e]
  exact own_exact _ _ 11 (by omega) (by omega)
theorem own_prod {x y : UInt64} {s t : Bool} {n m k j : Nat} (h1 : Ex (val64 x) s n k) (h2 : Ex (val64 y) t m j) (hk : k + j ≤ 1000) (hn : n * m < 2 ^ 53) : Ex (val64 (dmul x y)) (s != t) (n * m) (k + j) := by
  rw [val64_dmul, own_mul h1 h2]
  exact own_exact _ _ _ hn hk
theorem own_sq {x : UInt64} {s : Bool} {n k : Nat} (h1 : Ex (val64 x) s n k) : val64 (dmul x x) = roundRatio b64 false (n * n) 1 (-((k + k : Nat) : Int)) := by
  rw [val64_dmul, own_mul h1 h1]; cases s <;> rfl
theorem own_expect (T : Int64) (N : Nat) (hT : T.toInt = (N : Int)) (hN : N < 2 ^ 53) : val64 (ddiv (l2d T) b2p44) = roundRatio b64 false N 1 (-((44 : Nat) : Int)) := by
  have h := own_of_int T.toInt (by rw [hT]; simpa using hN)
  rw [val64_ddiv, val64_l2d, own_b2p44, own_div (i := 44) (by decide) h, hT]
  rw [show decide ((N : Int) < 0) = false from decide_eq_false (by omega)]
  simp
theorem own_cmp {x y : UInt64} {N : Nat} (hN : N < 2 ^ 53) (hx : val64 x = roundRatio b64 false N 1 (-((44 : Nat) : Int))) (hy : val64 y = roundRatio b64 false N 1 (-((44 : Nat) : Int))) (o : ClassFile.CmpOp) : Jvm.Op.cmpValue (dcmp x y) o = 0 := by
  have e : dcmp x y = some .eq := by
    have h1 : dcmp x y = order (val64 x) (val64 y) := rfl
    obtain ⟨c, q, e, -⟩ := own_exact false N 44 hN (by omega)
    rw [h1, hy, hx, e]
    exact order_self nofun
  rw [e]; rfl
end Jvm.Pilot.@@N@@.OwnFp
namespace Jvm.Pilot.@@N@@
open Jvm Jvm.ClassFile Sem Op Lib Jvm.Free Jvm.Stand Jvm.LawKit Jvm.RoadKit Bundle Jvm.Pilot.@@N@@.Jvm.D
theorem own_rng (a : Int32) : -2048 ≤ ((a <<< ((20 : Int32) &&& 31)) >>> ((20 : Int32) &&& 31)).toInt ∧ ((a <<< ((20 : Int32) &&& 31)) >>> ((20 : Int32) &&& 31)).toInt < 2048 := by
  have h := Jvm.Kit.i32_shr (a <<< ((20 : Int32) &&& 31)) ((20 : Int32) &&& 31) (k := 20) (by decide)
  have h1 := Int32.le_toInt (a <<< ((20 : Int32) &&& 31))
  have h2 := Int32.toInt_lt (a <<< ((20 : Int32) &&& 31))
  rw [h]; omega
theorem own_t {w u c : Int32} (hw : -2048 ≤ w.toInt ∧ w.toInt < 2048) (hu : -2048 ≤ u.toInt ∧ u.toInt < 2048) (hc : -2048 ≤ c.toInt ∧ c.toInt < 2048) :
    ∃ N : Nat, N < 2 ^ 53 ∧ w.toInt.natAbs * (u.toInt - c.toInt).natAbs < 2 ^ 53 ∧ N = (w.toInt.natAbs * (u.toInt - c.toInt).natAbs) * (w.toInt.natAbs * (u.toInt - c.toInt).natAbs) ∧ ((w.toInt64 * (u - c).toInt64) * (w.toInt64 * (u - c).toInt64)).toInt = (N : Int) := by
  have a1 : w.toInt.natAbs ≤ 2048 := by omega
  have a2 : (u.toInt - c.toInt).natAbs ≤ 4096 := by omega
  have a3 : w.toInt.natAbs * (u.toInt - c.toInt).natAbs ≤ 2048 * 4096 := Nat.mul_le_mul a1 a2
  have e1 : (u - c).toInt = u.toInt - c.toInt := Jvm.Kit.i32_sub (by omega) (by omega)
  have hp : (w.toInt * (u.toInt - c.toInt)).natAbs = w.toInt.natAbs * (u.toInt - c.toInt).natAbs := Int.natAbs_mul _ _
  have e2 : (w.toInt64 * (u - c).toInt64).toInt = w.toInt * (u.toInt - c.toInt) := by
    have q := Jvm.Kit.i64_mul (x := w.toInt64) (y := (u - c).toInt64) (by rw [Int32.toInt_toInt64, Int32.toInt_toInt64, e1]; omega) (by rw [Int32.toInt_toInt64, Int32.toInt_toInt64, e1]; omega)
    rw [q, Int32.toInt_toInt64, Int32.toInt_toInt64, e1]
  generalize hm : w.toInt * (u.toInt - c.toInt) = m at hp e2
  generalize hn : w.toInt.natAbs * (u.toInt - c.toInt).natAbs = n at hp a3
  have a4 : n * n ≤ (2048 * 4096) * (2048 * 4096) := Nat.mul_le_mul a3 a3
  have sqi : m * m = ((n * n : Nat) : Int) := by rw [← hp, ← Int.natAbs_mul_self]
  refine ⟨n * n, by omega, by omega, rfl, ?_⟩
  have q := Jvm.Kit.i64_mul (x := w.toInt64 * (u - c).toInt64) (y := w.toInt64 * (u - c).toInt64) (by rw [e2, sqi]; omega) (by rw [e2, sqi]; omega)
  rw [q, e2, sqi]
def Qd (z : UInt64) (h0 : Heap) (n0 : Nat) (v : Option Value) (h : Heap) (L : List Loc) : Prop := v = some (.double z) ∧ Fr n0 L ∧ h = h0
theorem pn_com_example_rensou_rensou_search_Subspace : plainName "com/example/rensou/rensou/search/Subspace" = true := by first | (simp [plainName, overriddenIn]; done) | decide +kernel
theorem ef_rm_sq (m : MethodId) (d1 : UInt64) (d2 : UInt64) (d3 : UInt64) : entryFrame m #[(.double d1), (.double d2), (.double d3)] 8 = mkF m 0 #[.val (.double d1), .second, .val (.double d2), .second, .val (.double d3), .second, .unset, .unset] [] := by first | (simp [entryFrame, mkF, argsToLocals, Value.category]; done) | rfl
theorem d_prog_107_method_16_0 : decode prog_107_method_16_code 0 = .ok (.dload_n 0, 1) := by decide +kernel
theorem d_prog_107_method_16_1 : decode prog_107_method_16_code 1 = .ok (.dload_n 2, 1) := by decide +kernel
theorem d_prog_107_method_16_2 : decode prog_107_method_16_code 2 = .ok (.dload 4, 2) := by decide +kernel
theorem d_prog_107_method_16_4 : decode prog_107_method_16_code 4 = .ok (.dsub, 1) := by decide +kernel
theorem d_prog_107_method_16_5 : decode prog_107_method_16_code 5 = .ok (.dmul, 1) := by decide +kernel
theorem d_prog_107_method_16_6 : decode prog_107_method_16_code 6 = .ok (.dstore 6, 2) := by decide +kernel
theorem d_prog_107_method_16_8 : decode prog_107_method_16_code 8 = .ok (.dload 6, 2) := by decide +kernel
theorem d_prog_107_method_16_10 : decode prog_107_method_16_code 10 = .ok (.dload 6, 2) := by decide +kernel
theorem d_prog_107_method_16_12 : decode prog_107_method_16_code 12 = .ok (.dmul, 1) := by decide +kernel
theorem d_prog_107_method_16_13 : decode prog_107_method_16_code 13 = .ok (.dreturn, 1) := by decide +kernel
set_option maxRecDepth 65536 in
set_option maxHeartbeats 40000000 in
theorem rm_sq (l : Launch) (Z : State) (a0 : Array Value) (hw : ∀ d ∈ tables_1, d.before a0 Z = true) (ws : List Jvm.Cond) (d1 : UInt64) (d2 : UInt64) (d3 : UInt64) (h0 : Heap) (n0 : Nat) (Z0 : n0 ≤ h0.size) (nn1 : Jvm.Free.Fl.NoNaN64 (FP.dsub d2 d3)) (nn2 : Jvm.Free.Fl.NoNaN64 (FP.dmul d1 (FP.dsub d2 d3))) (nn3 : Jvm.Free.Fl.NoNaN64 (FP.dmul (FP.dmul d1 (FP.dsub d2 d3)) (FP.dmul d1 (FP.dsub d2 d3)))) :
    MetFree l (⟨"com/example/rensou/rensou/search/Subspace", "squaredTerm", "(DDD)D"⟩ : MethodName) (head1 (Jvm.Cond.code (⟨"com/example/rensou/rensou/search/Subspace", "squaredTerm", "(DDD)D"⟩ : MethodName) prog_107_method_16_code 8 (some .double) :: ws) ({ frames := 0, cells := 0, slots := 0, locals := 0 } : Room)) (fun a U => a = #[(.double d1), (.double d2), (.double d3)] ∧ Z.Warmed39 U.vm ∧ U.heap = h0) (fun _ _ _ _ _ => True) (fun _ U o U' => ∃ v L, o = .returned v ∧ Qd (FP.dmul (FP.dmul d1 (FP.dsub d2 d3)) (FP.dmul d1 (FP.dsub d2 d3))) h0 n0 v U'.heap L ∧ FrameEnd U o U' L ({ frames := 0, cells := 0, slots := 0, locals := 0 } : Room).cells ({ frames := 0, cells := 0, slots := 0, locals := 0 } : Room).slots) := by
  refine MetFree.of_bodySF (plainFor_of_name pn_com_example_rensou_rensou_search_Subspace) hisR ?_
  intro p e s m args below meth c s₁ Bd hml0 hP hK
  obtain ⟨rfl, hZ, hh⟩ := hP
  have hx := Bd.exec
  have hby := Bd.bytes
  have hml : c.maxLocals = 8 := hml0
  have hown : s.vm.findClass "com/example/rensou/rensou/search/Subspace" = some m.cls := findClass_of_methodNamed Bd.named
  have hnm := (name_of_methodNamed Bd.named Bd.method).1
  have X0 : Stand p l e ({ frames := 0, cells := 0, slots := 0, locals := 0 } : Room) s m #[(.double d1), (.double d2), (.double d3)] below meth c s₁ [] 0 0 := Stand.of_body Bd
  have e0 : s₁.heap = h0 := by rw [← hh, Bd.state]; rfl
  have N0 := Fr.nil n0
  obtain ⟨A0, hA0⟩ : ∃ A, A = s₁.setTop (entryFrame m #[(.double d1), (.double d2), (.double d3)] 8) := ⟨_, rfl⟩
  have R0 : ∀ tgt, Steps p.tables e below (s₁.setTop (mkF m 0 #[.val (.double d1), .second, .val (.double d2), .second, .val (.double d3), .second, .unset, .unset] [])) tgt → Steps p.tables e below A0 tgt := fun tgt hgo => by rw [hA0]; exact castTop (ef_rm_sq m d1 d2 d3) hgo
  have R1 : ∀ tgt, Steps p.tables e below (s₁.setTop (mkF m 13 #[.val (.double d1), .second, .val (.double d2), .second, .val (.double d3), .second, .val (.double (FP.dmul d1 (FP.dsub d2 d3))), .second] [(.double (FP.dmul (FP.dmul d1 (FP.dsub d2 d3)) (FP.dmul d1 (FP.dsub d2 d3))))])) tgt → Steps p.tables e below A0 tgt := by
    intro tgt hgo
    refine R0 tgt ?_
    show Steps p.tables e below (s₁.setTop (mkF m 0 #[.val (.double d1), .second, .val (.double d2), .second, .val (.double d3), .second, .unset, .unset] [])) _
    refine XS.dloadN X0.here hx rfl (hb hby d_prog_107_method_16_0) rfl ?_
    show Steps p.tables e below (s₁.setTop (mkF m 1 #[.val (.double d1), .second, .val (.double d2), .second, .val (.double d3), .second, .unset, .unset] [(.double d1)])) _
    refine XS.dloadN X0.here hx rfl (hb hby d_prog_107_method_16_1) rfl ?_
    show Steps p.tables e below (s₁.setTop (mkF m 2 #[.val (.double d1), .second, .val (.double d2), .second, .val (.double d3), .second, .unset, .unset] [(.double d2), (.double d1)])) _
    refine XS.dload X0.here hx rfl (hb hby d_prog_107_method_16_2) rfl ?_
    show Steps p.tables e below (s₁.setTop (mkF m 4 #[.val (.double d1), .second, .val (.double d2), .second, .val (.double d3), .second, .unset, .unset] [(.double d3), (.double d2), (.double d1)])) _
    refine XS.dsubS X0.here hx rfl (hb hby d_prog_107_method_16_4) rfl nn1 rfl ?_
    show Steps p.tables e below (s₁.setTop (mkF m 5 #[.val (.double d1), .second, .val (.double d2), .second, .val (.double d3), .second, .unset, .unset] [(.double (FP.dsub d2 d3)), (.double d1)])) _
    refine XS.dmulS X0.here hx rfl (hb hby d_prog_107_method_16_5) rfl nn2 rfl ?_
    show Steps p.tables e below (s₁.setTop (mkF m 6 #[.val (.double d1), .second, .val (.double d2), .second, .val (.double d3), .second, .unset, .unset] [(.double (FP.dmul d1 (FP.dsub d2 d3)))])) _
    refine XS.dstore X0.here hx rfl (hb hby d_prog_107_method_16_6) rfl (l' := #[.val (.double d1), .second, .val (.double d2), .second, .val (.double d3), .second, .val (.double (FP.dmul d1 (FP.dsub d2 d3))), .second]) rfl ?_
    show Steps p.tables e below (s₁.setTop (mkF m 8 #[.val (.double d1), .second, .val (.double d2), .second, .val (.double d3), .second, .val (.double (FP.dmul d1 (FP.dsub d2 d3))), .second] [])) _
    refine XS.dload X0.here hx rfl (hb hby d_prog_107_method_16_8) rfl ?_
    show Steps p.tables e below (s₁.setTop (mkF m 10 #[.val (.double d1), .second, .val (.double d2), .second, .val (.double d3), .second, .val (.double (FP.dmul d1 (FP.dsub d2 d3))), .second] [(.double (FP.dmul d1 (FP.dsub d2 d3)))])) _
    refine XS.dload X0.here hx rfl (hb hby d_prog_107_method_16_10) rfl ?_
    show Steps p.tables e below (s₁.setTop (mkF m 12 #[.val (.double d1), .second, .val (.double d2), .second, .val (.double d3), .second, .val (.double (FP.dmul d1 (FP.dsub d2 d3))), .second] [(.double (FP.dmul d1 (FP.dsub d2 d3))), (.double (FP.dmul d1 (FP.dsub d2 d3)))])) _
    refine XS.dmulS X0.here hx rfl (hb hby d_prog_107_method_16_12) rfl nn3 rfl ?_
    show Steps p.tables e below (s₁.setTop (mkF m 13 #[.val (.double d1), .second, .val (.double d2), .second, .val (.double d3), .second, .val (.double (FP.dmul d1 (FP.dsub d2 d3))), .second] [(.double (FP.dmul (FP.dmul d1 (FP.dsub d2 d3)) (FP.dmul d1 (FP.dsub d2 d3))))])) _
    exact hgo
  subst hA0
  obtain ⟨fs, hr, hrun, hended, hW, hsame⟩ := X0.leave (v := some (.double (FP.dmul (FP.dmul d1 (FP.dsub d2 d3)) (FP.dmul d1 (FP.dsub d2 d3))))) (fun h => by rw [Bd.returns] at h; cases h)
  refine ⟨_, _, R1 _ ?_, hrun, hended, _, _, rfl, ?_, ⟨_, rfl⟩, hW, hsame.mono (by decide) (by decide)⟩
  · show Steps p.tables e below (s₁.setTop (mkF m 13 #[.val (.double d1), .second, .val (.double d2), .second, .val (.double d3), .second, .val (.double (FP.dmul d1 (FP.dsub d2 d3))), .second] [(.double (FP.dmul (FP.dmul d1 (FP.dsub d2 d3)) (FP.dmul d1 (FP.dsub d2 d3))))])) _
    jvm_step X0.here [X0.here.top, hx, (hb hby d_prog_107_method_16_13), X0.method', Bd.returns, narrow]
    first | (intro acts; rw [hr _ acts rfl rfl rfl]) | rw [hr _ _ rfl rfl rfl]
    exact Steps.refl _
  · show Qd (FP.dmul (FP.dmul d1 (FP.dsub d2 d3)) (FP.dmul d1 (FP.dsub d2 d3))) h0 n0 _ s₁.heap _
    rw [e0]
    exact ⟨rfl, N0, rfl⟩
def Q0 (n0 : Nat) (v : Option Value) (h : Heap) (L : List Loc) : Prop := v = some (.int 1) ∧ Fr n0 L
theorem pn_com_example_rensou_rensou_search_SubspaceSquaredTermPinLaw : plainName "com/example/rensou/rensou/search/SubspaceSquaredTermPinLaw" = true := by first | (simp [plainName, overriddenIn]; done) | decide +kernel
theorem ef_rm_law (m : MethodId) (p1 : Int32) (p2 : Int32) (p3 : Int32) : entryFrame m #[(.int p1), (.int p2), (.int p3)] maxLocals = mkF m 0 #[.val (.int p1), .val (.int p2), .val (.int p3), .unset, .unset, .unset, .unset, .unset, .unset, .unset, .unset, .unset, .unset, .unset, .unset, .unset, .unset, .unset] [] := by first | (simp [entryFrame, mkF, argsToLocals, Value.category, maxLocals]; done) | rfl
theorem pd_0 : parseMethodDescriptor "(DDD)D" = some ⟨[.double, .double, .double], some .double⟩ := by decide +kernel
set_option maxRecDepth 65536 in
set_option maxHeartbeats 40000000 in
theorem rm_law (l : Launch) (Z : State) (a0 : Array Value) (hw : ∀ d ∈ tables_1, d.before a0 Z = true) (ws : List Jvm.Cond) (p1 : Int32) (p2 : Int32) (p3 : Int32) (h0 : Heap) (n0 : Nat) (Z0 : n0 ≤ h0.size) :
    MetFree l x (head1 (Jvm.Cond.code x code maxLocals ret :: ws) room_1) (fun a U => a = #[(.int p1), (.int p2), (.int p3)] ∧ Z.Warmed39 U.vm ∧ U.heap = h0) (fun _ _ _ _ _ => True) (fun _ U o U' => ∃ v L, o = .returned v ∧ Q0 n0 v U'.heap L ∧ FrameEnd U o U' L room_1.cells room_1.slots) := by
  refine MetFree.of_bodySF (plainFor_of_name pn_com_example_rensou_rensou_search_SubspaceSquaredTermPinLaw) hisR ?_
  intro p e s m args below meth c s₁ Bd hml0 hP hK
  obtain ⟨rfl, hZ, hh⟩ := hP
  have hx := Bd.exec
  have hby := Bd.bytes
  have hml : c.maxLocals = 18 := hml0
  have hown : s.vm.findClass "com/example/rensou/rensou/search/SubspaceSquaredTermPinLaw" = some m.cls := findClass_of_methodNamed Bd.named
  have hnm := (name_of_methodNamed Bd.named Bd.method).1
  have X0 : Stand p l e room_1 s m #[(.int p1), (.int p2), (.int p3)] below meth c s₁ [] 0 0 := Stand.of_body Bd
  have e0 : s₁.heap = h0 := by rw [← hh, Bd.state]; rfl
  have N0 := Fr.nil n0
  obtain ⟨A0, hA0⟩ : ∃ A, A = s₁.setTop (entryFrame m #[(.int p1), (.int p2), (.int p3)] maxLocals) := ⟨_, rfl⟩
  have R0 : ∀ tgt, Steps p.tables e below (s₁.setTop (mkF m 0 #[.val (.int p1), .val (.int p2), .val (.int p3), .unset, .unset, .unset, .unset, .unset, .unset, .unset, .unset, .unset, .unset, .unset, .unset, .unset, .unset, .unset] [])) tgt → Steps p.tables e below A0 tgt := fun tgt hgo => by rw [hA0]; exact castTop (ef_rm_law m p1 p2 p3) hgo
  have R1 : ∀ tgt, Steps p.tables e below (s₁.setTop (mkF m 7 #[.val (.int p1), .val (.int p2), .val (.int p3), .unset, .unset, .unset, .unset, .unset, .unset, .unset, .unset, .unset, .unset, .unset, .unset, .unset, .unset, .unset] [(.int ((p1 <<< ((20 : Int32) &&& 31)) >>> ((20 : Int32) &&& 31)))])) tgt → Steps p.tables e below A0 tgt := by
    intro tgt hgo
    refine R0 tgt ?_
    show Steps p.tables e below (s₁.setTop (mkF m 0 #[.val (.int p1), .val (.int p2), .val (.int p3), .unset, .unset, .unset, .unset, .unset, .unset, .unset, .unset, .unset, .unset, .unset, .unset, .unset, .unset, .unset] [])) _
    refine XS.iloadN X0.here hx rfl (hb hby at_0) rfl ?_
    show Steps p.tables e below (s₁.setTop (mkF m 1 #[.val (.int p1), .val (.int p2), .val (.int p3), .unset, .unset, .unset, .unset, .unset, .unset, .unset, .unset, .unset, .unset, .unset, .unset, .unset, .unset, .unset] [(.int p1)])) _
    refine XS.bipush X0.here hx rfl (hb hby at_1) ?_
    show Steps p.tables e below (s₁.setTop (mkF m 3 #[.val (.int p1), .val (.int p2), .val (.int p3), .unset, .unset, .unset, .unset, .unset, .unset, .unset, .unset, .unset, .unset, .unset, .unset, .unset, .unset, .unset] [(.int (20 : Int32)), (.int p1)])) _
    refine XS.ishl X0.here hx rfl (hb hby at_3) rfl ?_
    show Steps p.tables e below (s₁.setTop (mkF m 4 #[.val (.int p1), .val (.int p2), .val (.int p3), .unset, .unset, .unset, .unset, .unset, .unset, .unset, .unset, .unset, .unset, .unset, .unset, .unset, .unset, .unset] [(.int (p1 <<< ((20 : Int32) &&& 31)))])) _
    refine XS.bipush X0.here hx rfl (hb hby at_4) ?_
    show Steps p.tables e below (s₁.setTop (mkF m 6 #[.val (.int p1), .val (.int p2), .val (.int p3), .unset, .unset, .unset, .unset, .unset, .unset, .unset, .unset, .unset, .unset, .unset, .unset, .unset, .unset, .unset] [(.int (20 : Int32)), (.int (p1 <<< ((20 : Int32) &&& 31)))])) _
    refine XS.ishr X0.here hx rfl (hb hby at_6) rfl ?_
    show Steps p.tables e below (s₁.setTop (mkF m 7 #[.val (.int p1), .val (.int p2), .val (.int p3), .unset, .unset, .unset, .unset, .unset, .unset, .unset, .unset, .unset, .unset, .unset, .unset, .unset, .unset, .unset] [(.int ((p1 <<< ((20 : Int32) &&& 31)) >>> ((20 : Int32) &&& 31)))])) _
    exact hgo
  obtain ⟨w, e_w⟩ : ∃ z : Int32, z = ((p1 <<< ((20 : Int32) &&& 31)) >>> ((20 : Int32) &&& 31)) := ⟨_, rfl⟩
  rw [← e_w] at R1
  have r_w := e_w ▸ own_rng p1
  have q_w := OwnFp.own_q w (by omega)
  have R2 : ∀ tgt, Steps p.tables e below (s₁.setTop (mkF m 15 #[.val (.int p1), .val (.int p2), .val (.int p3), .val (.int w), .unset, .unset, .unset, .unset, .unset, .unset, .unset, .unset, .unset, .unset, .unset, .unset, .unset, .unset] [(.int ((p2 <<< ((20 : Int32) &&& 31)) >>> ((20 : Int32) &&& 31)))])) tgt → Steps p.tables e below A0 tgt := by
    intro tgt hgo
    refine R1 tgt ?_
    show Steps p.tables e below (s₁.setTop (mkF m 7 #[.val (.int p1), .val (.int p2), .val (.int p3), .unset, .unset, .unset, .unset, .unset, .unset, .unset, .unset, .unset, .unset, .unset, .unset, .unset, .unset, .unset] [(.int w)])) _
    refine XS.istoreN X0.here hx rfl (hb hby at_7) rfl (l' := #[.val (.int p1), .val (.int p2), .val (.int p3), .val (.int w), .unset, .unset, .unset, .unset, .unset, .unset, .unset, .unset, .unset, .unset, .unset, .unset, .unset, .unset]) rfl ?_
    show Steps p.tables e below (s₁.setTop (mkF m 8 #[.val (.int p1), .val (.int p2), .val (.int p3), .val (.int w), .unset, .unset, .unset, .unset, .unset, .unset, .unset, .unset, .unset, .unset, .unset, .unset, .unset, .unset] [])) _
    refine XS.iloadN X0.here hx rfl (hb hby at_8) rfl ?_
    show Steps p.tables e below (s₁.setTop (mkF m 9 #[.val (.int p1), .val (.int p2), .val (.int p3), .val (.int w), .unset, .unset, .unset, .unset, .unset, .unset, .unset, .unset, .unset, .unset, .unset, .unset, .unset, .unset] [(.int p2)])) _
    refine XS.bipush X0.here hx rfl (hb hby at_9) ?_
    show Steps p.tables e below (s₁.setTop (mkF m 11 #[.val (.int p1), .val (.int p2), .val (.int p3), .val (.int w), .unset, .unset, .unset, .unset, .unset, .unset, .unset, .unset, .unset, .unset, .unset, .unset, .unset, .unset] [(.int (20 : Int32)), (.int p2)])) _
    refine XS.ishl X0.here hx rfl (hb hby at_11) rfl ?_
    show Steps p.tables e below (s₁.setTop (mkF m 12 #[.val (.int p1), .val (.int p2), .val (.int p3), .val (.int w), .unset, .unset, .unset, .unset, .unset, .unset, .unset, .unset, .unset, .unset, .unset, .unset, .unset, .unset] [(.int (p2 <<< ((20 : Int32) &&& 31)))])) _
    refine XS.bipush X0.here hx rfl (hb hby at_12) ?_
    show Steps p.tables e below (s₁.setTop (mkF m 14 #[.val (.int p1), .val (.int p2), .val (.int p3), .val (.int w), .unset, .unset, .unset, .unset, .unset, .unset, .unset, .unset, .unset, .unset, .unset, .unset, .unset, .unset] [(.int (20 : Int32)), (.int (p2 <<< ((20 : Int32) &&& 31)))])) _
    refine XS.ishr X0.here hx rfl (hb hby at_14) rfl ?_
    show Steps p.tables e below (s₁.setTop (mkF m 15 #[.val (.int p1), .val (.int p2), .val (.int p3), .val (.int w), .unset, .unset, .unset, .unset, .unset, .unset, .unset, .unset, .unset, .unset, .unset, .unset, .unset, .unset] [(.int ((p2 <<< ((20 : Int32) &&& 31)) >>> ((20 : Int32) &&& 31)))])) _
    exact hgo
  obtain ⟨u, e_u⟩ : ∃ z : Int32, z = ((p2 <<< ((20 : Int32) &&& 31)) >>> ((20 : Int32) &&& 31)) := ⟨_, rfl⟩
  rw [← e_u] at R2
  have r_u := e_u ▸ own_rng p2
  have q_u := OwnFp.own_q u (by omega)
  have R3 : ∀ tgt, Steps p.tables e below (s₁.setTop (mkF m 24 #[.val (.int p1), .val (.int p2), .val (.int p3), .val (.int w), .val (.int u), .unset, .unset, .unset, .unset, .unset, .unset, .unset, .unset, .unset, .unset, .unset, .unset, .unset] [(.int ((p3 <<< ((20 : Int32) &&& 31)) >>> ((20 : Int32) &&& 31)))])) tgt → Steps p.tables e below A0 tgt := by
    intro tgt hgo
    refine R2 tgt ?_
    show Steps p.tables e below (s₁.setTop (mkF m 15 #[.val (.int p1), .val (.int p2), .val (.int p3), .val (.int w), .unset, .unset, .unset, .unset, .unset, .unset, .unset, .unset, .unset, .unset, .unset, .unset, .unset, .unset] [(.int u)])) _
    refine XS.istore X0.here hx rfl (hb hby at_15) rfl (l' := #[.val (.int p1), .val (.int p2), .val (.int p3), .val (.int w), .val (.int u), .unset, .unset, .unset, .unset, .unset, .unset, .unset, .unset, .unset, .unset, .unset, .unset, .unset]) rfl ?_
    show Steps p.tables e below (s₁.setTop (mkF m 17 #[.val (.int p1), .val (.int p2), .val (.int p3), .val (.int w), .val (.int u), .unset, .unset, .unset, .unset, .unset, .unset, .unset, .unset, .unset, .unset, .unset, .unset, .unset] [])) _
    refine XS.iloadN X0.here hx rfl (hb hby at_17) rfl ?_
    show Steps p.tables e below (s₁.setTop (mkF m 18 #[.val (.int p1), .val (.int p2), .val (.int p3), .val (.int w), .val (.int u), .unset, .unset, .unset, .unset, .unset, .unset, .unset, .unset, .unset, .unset, .unset, .unset, .unset] [(.int p3)])) _
    refine XS.bipush X0.here hx rfl (hb hby at_18) ?_
    show Steps p.tables e below (s₁.setTop (mkF m 20 #[.val (.int p1), .val (.int p2), .val (.int p3), .val (.int w), .val (.int u), .unset, .unset, .unset, .unset, .unset, .unset, .unset, .unset, .unset, .unset, .unset, .unset, .unset] [(.int (20 : Int32)), (.int p3)])) _
    refine XS.ishl X0.here hx rfl (hb hby at_20) rfl ?_
    show Steps p.tables e below (s₁.setTop (mkF m 21 #[.val (.int p1), .val (.int p2), .val (.int p3), .val (.int w), .val (.int u), .unset, .unset, .unset, .unset, .unset, .unset, .unset, .unset, .unset, .unset, .unset, .unset, .unset] [(.int (p3 <<< ((20 : Int32) &&& 31)))])) _
    refine XS.bipush X0.here hx rfl (hb hby at_21) ?_
    show Steps p.tables e below (s₁.setTop (mkF m 23 #[.val (.int p1), .val (.int p2), .val (.int p3), .val (.int w), .val (.int u), .unset, .unset, .unset, .unset, .unset, .unset, .unset, .unset, .unset, .unset, .unset, .unset, .unset] [(.int (20 : Int32)), (.int (p3 <<< ((20 : Int32) &&& 31)))])) _
    refine XS.ishr X0.here hx rfl (hb hby at_23) rfl ?_
    show Steps p.tables e below (s₁.setTop (mkF m 24 #[.val (.int p1), .val (.int p2), .val (.int p3), .val (.int w), .val (.int u), .unset, .unset, .unset, .unset, .unset, .unset, .unset, .unset, .unset, .unset, .unset, .unset, .unset] [(.int ((p3 <<< ((20 : Int32) &&& 31)) >>> ((20 : Int32) &&& 31)))])) _
    exact hgo
  obtain ⟨v, e_v⟩ : ∃ z : Int32, z = ((p3 <<< ((20 : Int32) &&& 31)) >>> ((20 : Int32) &&& 31)) := ⟨_, rfl⟩
  rw [← e_v] at R3
  have r_v := e_v ▸ own_rng p3
  have q_v := OwnFp.own_q v (by omega)
  obtain ⟨N, hN, hN1, hN2, hT⟩ := own_t r_w r_u r_v
  obtain ⟨S, q_d⟩ := OwnFp.own_diff u v (by omega) (by omega)
  have q_p := OwnFp.own_prod q_w q_d (by decide) hN1
  have gotE := OwnFp.own_sq q_p
  rw [← hN2] at gotE
  have expE := OwnFp.own_expect _ N hT hN
  have nnG : Jvm.Free.Fl.NoNaN64 _ := OwnFp.own_dfin (k := 44) (n := N) (s := false) (gotE ▸ OwnFp.own_exact false N 44 hN (by omega))
  have nnE : Jvm.Free.Fl.NoNaN64 _ := OwnFp.own_dfin (k := 44) (n := N) (s := false) (expE ▸ OwnFp.own_exact false N 44 hN (by omega))
  have R4 : ∀ tgt, Steps p.tables e below (s₁.setTop (mkF m 58 #[.val (.int p1), .val (.int p2), .val (.int p3), .val (.int w), .val (.int u), .val (.int v), .val (.double (FP.ddiv (FP.i2d w) (4656722014701092864 : UInt64))), .second, .val (.double (FP.ddiv (FP.i2d u) (4656722014701092864 : UInt64))), .second, .val (.double (FP.ddiv (FP.i2d v) (4656722014701092864 : UInt64))), .second, .unset, .unset, .unset, .unset, .unset, .unset] [(.double (FP.ddiv (FP.i2d v) (4656722014701092864 : UInt64))), (.double (FP.ddiv (FP.i2d u) (4656722014701092864 : UInt64))), (.double (FP.ddiv (FP.i2d w) (4656722014701092864 : UInt64)))])) tgt → Steps p.tables e below A0 tgt := by
    intro tgt hgo
    refine R3 tgt ?_
    show Steps p.tables e below (s₁.setTop (mkF m 24 #[.val (.int p1), .val (.int p2), .val (.int p3), .val (.int w), .val (.int u), .unset, .unset, .unset, .unset, .unset, .unset, .unset, .unset, .unset, .unset, .unset, .unset, .unset] [(.int v)])) _
    refine XS.istore X0.here hx rfl (hb hby at_24) rfl (l' := #[.val (.int p1), .val (.int p2), .val (.int p3), .val (.int w), .val (.int u), .val (.int v), .unset, .unset, .unset, .unset, .unset, .unset, .unset, .unset, .unset, .unset, .unset, .unset]) rfl ?_
    show Steps p.tables e below (s₁.setTop (mkF m 26 #[.val (.int p1), .val (.int p2), .val (.int p3), .val (.int w), .val (.int u), .val (.int v), .unset, .unset, .unset, .unset, .unset, .unset, .unset, .unset, .unset, .unset, .unset, .unset] [])) _
    refine XS.iloadN X0.here hx rfl (hb hby at_26) rfl ?_
    show Steps p.tables e below (s₁.setTop (mkF m 27 #[.val (.int p1), .val (.int p2), .val (.int p3), .val (.int w), .val (.int u), .val (.int v), .unset, .unset, .unset, .unset, .unset, .unset, .unset, .unset, .unset, .unset, .unset, .unset] [(.int w)])) _
    refine XS.i2dS X0.here hx rfl (hb hby at_27) rfl rfl ?_
    show Steps p.tables e below (s₁.setTop (mkF m 28 #[.val (.int p1), .val (.int p2), .val (.int p3), .val (.int w), .val (.int u), .val (.int v), .unset, .unset, .unset, .unset, .unset, .unset, .unset, .unset, .unset, .unset, .unset, .unset] [(.double (FP.i2d w))])) _
    refine X0.ldc2DoubleC hx hown (mvT hZ (hw _ (List.mem_of_getElem? (i := 0) rfl))) (g := (mkF m 28 #[.val (.int p1), .val (.int p2), .val (.int p3), .val (.int w), .val (.int u), .val (.int v), .unset, .unset, .unset, .unset, .unset, .unset, .unset, .unset, .unset, .unset, .unset, .unset] [(.double (FP.i2d w))])) rfl (hb hby at_28) _ ?_
    show Steps p.tables e below (s₁.setTop (mkF m 31 #[.val (.int p1), .val (.int p2), .val (.int p3), .val (.int w), .val (.int u), .val (.int v), .unset, .unset, .unset, .unset, .unset, .unset, .unset, .unset, .unset, .unset, .unset, .unset] [(.double (4656722014701092864 : UInt64)), (.double (FP.i2d w))])) _
    refine XS.ddivS X0.here hx rfl (hb hby at_31) rfl (OwnFp.own_dfin q_w) rfl ?_
    show Steps p.tables e below (s₁.setTop (mkF m 32 #[.val (.int p1), .val (.int p2), .val (.int p3), .val (.int w), .val (.int u), .val (.int v), .unset, .unset, .unset, .unset, .unset, .unset, .unset, .unset, .unset, .unset, .unset, .unset] [(.double (FP.ddiv (FP.i2d w) (4656722014701092864 : UInt64)))])) _
    refine XS.dstore X0.here hx rfl (hb hby at_32) rfl (l' := #[.val (.int p1), .val (.int p2), .val (.int p3), .val (.int w), .val (.int u), .val (.int v), .val (.double (FP.ddiv (FP.i2d w) (4656722014701092864 : UInt64))), .second, .unset, .unset, .unset, .unset, .unset, .unset, .unset, .unset, .unset, .unset]) rfl ?_
    show Steps p.tables e below (s₁.setTop (mkF m 34 #[.val (.int p1), .val (.int p2), .val (.int p3), .val (.int w), .val (.int u), .val (.int v), .val (.double (FP.ddiv (FP.i2d w) (4656722014701092864 : UInt64))), .second, .unset, .unset, .unset, .unset, .unset, .unset, .unset, .unset, .unset, .unset] [])) _
    refine XS.iload X0.here hx rfl (hb hby at_34) rfl ?_
    show Steps p.tables e below (s₁.setTop (mkF m 36 #[.val (.int p1), .val (.int p2), .val (.int p3), .val (.int w), .val (.int u), .val (.int v), .val (.double (FP.ddiv (FP.i2d w) (4656722014701092864 : UInt64))), .second, .unset, .unset, .unset, .unset, .unset, .unset, .unset, .unset, .unset, .unset] [(.int u)])) _
    refine XS.i2dS X0.here hx rfl (hb hby at_36) rfl rfl ?_
    show Steps p.tables e below (s₁.setTop (mkF m 37 #[.val (.int p1), .val (.int p2), .val (.int p3), .val (.int w), .val (.int u), .val (.int v), .val (.double (FP.ddiv (FP.i2d w) (4656722014701092864 : UInt64))), .second, .unset, .unset, .unset, .unset, .unset, .unset, .unset, .unset, .unset, .unset] [(.double (FP.i2d u))])) _
    refine X0.ldc2DoubleC hx hown (mvT hZ (hw _ (List.mem_of_getElem? (i := 0) rfl))) (g := (mkF m 37 #[.val (.int p1), .val (.int p2), .val (.int p3), .val (.int w), .val (.int u), .val (.int v), .val (.double (FP.ddiv (FP.i2d w) (4656722014701092864 : UInt64))), .second, .unset, .unset, .unset, .unset, .unset, .unset, .unset, .unset, .unset, .unset] [(.double (FP.i2d u))])) rfl (hb hby at_37) _ ?_
    show Steps p.tables e below (s₁.setTop (mkF m 40 #[.val (.int p1), .val (.int p2), .val (.int p3), .val (.int w), .val (.int u), .val (.int v), .val (.double (FP.ddiv (FP.i2d w) (4656722014701092864 : UInt64))), .second, .unset, .unset, .unset, .unset, .unset, .unset, .unset, .unset, .unset, .unset] [(.double (4656722014701092864 : UInt64)), (.double (FP.i2d u))])) _
    refine XS.ddivS X0.here hx rfl (hb hby at_40) rfl (OwnFp.own_dfin q_u) rfl ?_
    show Steps p.tables e below (s₁.setTop (mkF m 41 #[.val (.int p1), .val (.int p2), .val (.int p3), .val (.int w), .val (.int u), .val (.int v), .val (.double (FP.ddiv (FP.i2d w) (4656722014701092864 : UInt64))), .second, .unset, .unset, .unset, .unset, .unset, .unset, .unset, .unset, .unset, .unset] [(.double (FP.ddiv (FP.i2d u) (4656722014701092864 : UInt64)))])) _
    refine XS.dstore X0.here hx rfl (hb hby at_41) rfl (l' := #[.val (.int p1), .val (.int p2), .val (.int p3), .val (.int w), .val (.int u), .val (.int v), .val (.double (FP.ddiv (FP.i2d w) (4656722014701092864 : UInt64))), .second, .val (.double (FP.ddiv (FP.i2d u) (4656722014701092864 : UInt64))), .second, .unset, .unset, .unset, .unset, .unset, .unset, .unset, .unset]) rfl ?_
    show Steps p.tables e below (s₁.setTop (mkF m 43 #[.val (.int p1), .val (.int p2), .val (.int p3), .val (.int w), .val (.int u), .val (.int v), .val (.double (FP.ddiv (FP.i2d w) (4656722014701092864 : UInt64))), .second, .val (.double (FP.ddiv (FP.i2d u) (4656722014701092864 : UInt64))), .second, .unset, .unset, .unset, .unset, .unset, .unset, .unset, .unset] [])) _
    refine XS.iload X0.here hx rfl (hb hby at_43) rfl ?_
    show Steps p.tables e below (s₁.setTop (mkF m 45 #[.val (.int p1), .val (.int p2), .val (.int p3), .val (.int w), .val (.int u), .val (.int v), .val (.double (FP.ddiv (FP.i2d w) (4656722014701092864 : UInt64))), .second, .val (.double (FP.ddiv (FP.i2d u) (4656722014701092864 : UInt64))), .second, .unset, .unset, .unset, .unset, .unset, .unset, .unset, .unset] [(.int v)])) _
    refine XS.i2dS X0.here hx rfl (hb hby at_45) rfl rfl ?_
    show Steps p.tables e below (s₁.setTop (mkF m 46 #[.val (.int p1), .val (.int p2), .val (.int p3), .val (.int w), .val (.int u), .val (.int v), .val (.double (FP.ddiv (FP.i2d w) (4656722014701092864 : UInt64))), .second, .val (.double (FP.ddiv (FP.i2d u) (4656722014701092864 : UInt64))), .second, .unset, .unset, .unset, .unset, .unset, .unset, .unset, .unset] [(.double (FP.i2d v))])) _
    refine X0.ldc2DoubleC hx hown (mvT hZ (hw _ (List.mem_of_getElem? (i := 0) rfl))) (g := (mkF m 46 #[.val (.int p1), .val (.int p2), .val (.int p3), .val (.int w), .val (.int u), .val (.int v), .val (.double (FP.ddiv (FP.i2d w) (4656722014701092864 : UInt64))), .second, .val (.double (FP.ddiv (FP.i2d u) (4656722014701092864 : UInt64))), .second, .unset, .unset, .unset, .unset, .unset, .unset, .unset, .unset] [(.double (FP.i2d v))])) rfl (hb hby at_46) _ ?_
    show Steps p.tables e below (s₁.setTop (mkF m 49 #[.val (.int p1), .val (.int p2), .val (.int p3), .val (.int w), .val (.int u), .val (.int v), .val (.double (FP.ddiv (FP.i2d w) (4656722014701092864 : UInt64))), .second, .val (.double (FP.ddiv (FP.i2d u) (4656722014701092864 : UInt64))), .second, .unset, .unset, .unset, .unset, .unset, .unset, .unset, .unset] [(.double (4656722014701092864 : UInt64)), (.double (FP.i2d v))])) _
    refine XS.ddivS X0.here hx rfl (hb hby at_49) rfl (OwnFp.own_dfin q_v) rfl ?_
    show Steps p.tables e below (s₁.setTop (mkF m 50 #[.val (.int p1), .val (.int p2), .val (.int p3), .val (.int w), .val (.int u), .val (.int v), .val (.double (FP.ddiv (FP.i2d w) (4656722014701092864 : UInt64))), .second, .val (.double (FP.ddiv (FP.i2d u) (4656722014701092864 : UInt64))), .second, .unset, .unset, .unset, .unset, .unset, .unset, .unset, .unset] [(.double (FP.ddiv (FP.i2d v) (4656722014701092864 : UInt64)))])) _
    refine XS.dstore X0.here hx rfl (hb hby at_50) rfl (l' := #[.val (.int p1), .val (.int p2), .val (.int p3), .val (.int w), .val (.int u), .val (.int v), .val (.double (FP.ddiv (FP.i2d w) (4656722014701092864 : UInt64))), .second, .val (.double (FP.ddiv (FP.i2d u) (4656722014701092864 : UInt64))), .second, .val (.double (FP.ddiv (FP.i2d v) (4656722014701092864 : UInt64))), .second, .unset, .unset, .unset, .unset, .unset, .unset]) rfl ?_
    show Steps p.tables e below (s₁.setTop (mkF m 52 #[.val (.int p1), .val (.int p2), .val (.int p3), .val (.int w), .val (.int u), .val (.int v), .val (.double (FP.ddiv (FP.i2d w) (4656722014701092864 : UInt64))), .second, .val (.double (FP.ddiv (FP.i2d u) (4656722014701092864 : UInt64))), .second, .val (.double (FP.ddiv (FP.i2d v) (4656722014701092864 : UInt64))), .second, .unset, .unset, .unset, .unset, .unset, .unset] [])) _
    refine XS.dload X0.here hx rfl (hb hby at_52) rfl ?_
    show Steps p.tables e below (s₁.setTop (mkF m 54 #[.val (.int p1), .val (.int p2), .val (.int p3), .val (.int w), .val (.int u), .val (.int v), .val (.double (FP.ddiv (FP.i2d w) (4656722014701092864 : UInt64))), .second, .val (.double (FP.ddiv (FP.i2d u) (4656722014701092864 : UInt64))), .second, .val (.double (FP.ddiv (FP.i2d v) (4656722014701092864 : UInt64))), .second, .unset, .unset, .unset, .unset, .unset, .unset] [(.double (FP.ddiv (FP.i2d w) (4656722014701092864 : UInt64)))])) _
    refine XS.dload X0.here hx rfl (hb hby at_54) rfl ?_
    show Steps p.tables e below (s₁.setTop (mkF m 56 #[.val (.int p1), .val (.int p2), .val (.int p3), .val (.int w), .val (.int u), .val (.int v), .val (.double (FP.ddiv (FP.i2d w) (4656722014701092864 : UInt64))), .second, .val (.double (FP.ddiv (FP.i2d u) (4656722014701092864 : UInt64))), .second, .val (.double (FP.ddiv (FP.i2d v) (4656722014701092864 : UInt64))), .second, .unset, .unset, .unset, .unset, .unset, .unset] [(.double (FP.ddiv (FP.i2d u) (4656722014701092864 : UInt64))), (.double (FP.ddiv (FP.i2d w) (4656722014701092864 : UInt64)))])) _
    refine XS.dload X0.here hx rfl (hb hby at_56) rfl ?_
    show Steps p.tables e below (s₁.setTop (mkF m 58 #[.val (.int p1), .val (.int p2), .val (.int p3), .val (.int w), .val (.int u), .val (.int v), .val (.double (FP.ddiv (FP.i2d w) (4656722014701092864 : UInt64))), .second, .val (.double (FP.ddiv (FP.i2d u) (4656722014701092864 : UInt64))), .second, .val (.double (FP.ddiv (FP.i2d v) (4656722014701092864 : UInt64))), .second, .unset, .unset, .unset, .unset, .unset, .unset] [(.double (FP.ddiv (FP.i2d v) (4656722014701092864 : UInt64))), (.double (FP.ddiv (FP.i2d u) (4656722014701092864 : UInt64))), (.double (FP.ddiv (FP.i2d w) (4656722014701092864 : UInt64)))])) _
    exact hgo
  obtain ⟨_, _, ⟨T5, L5, k5, n5⟩, -, X5, ⟨Lc5, hQ5, l5, y5, z5⟩, st5⟩ := Jvm.LawKit.callS X0 hx (y := (⟨"com/example/rensou/rensou/search/Subspace", "squaredTerm", "(DDD)D"⟩ : MethodName)) hown (mvT hZ (hw _ (List.mem_of_getElem? (i := 1) rfl))) (mvT hZ (hw _ (List.mem_of_getElem? (i := 2) rfl))) (mvT hZ (hw _ (List.mem_of_getElem? (i := 3) rfl))) (mvT hZ (hw _ (List.mem_of_getElem? (i := 4) rfl))) (by decide) (backOf (W := 0) (rm_sq l Z a0 hw [] (FP.ddiv (FP.i2d w) (4656722014701092864 : UInt64)) (FP.ddiv (FP.i2d u) (4656722014701092864 : UInt64)) (FP.ddiv (FP.i2d v) (4656722014701092864 : UInt64)) h0 n0 Z0 (OwnFp.own_dfin q_d) (OwnFp.own_dfin q_p) nnG) hZ (hw _ (List.mem_of_getElem? (i := 4) rfl)) (hw _ (List.mem_of_getElem? (i := 3) rfl)) (by decide) (by decide)) (g := (mkF m 58 #[.val (.int p1), .val (.int p2), .val (.int p3), .val (.int w), .val (.int u), .val (.int v), .val (.double (FP.ddiv (FP.i2d w) (4656722014701092864 : UInt64))), .second, .val (.double (FP.ddiv (FP.i2d u) (4656722014701092864 : UInt64))), .second, .val (.double (FP.ddiv (FP.i2d v) (4656722014701092864 : UInt64))), .second, .unset, .unset, .unset, .unset, .unset, .unset] [(.double (FP.ddiv (FP.i2d v) (4656722014701092864 : UInt64))), (.double (FP.ddiv (FP.i2d u) (4656722014701092864 : UInt64))), (.double (FP.ddiv (FP.i2d w) (4656722014701092864 : UInt64)))])) rfl (by rw [hml]; rfl) (argsL := [(.double (FP.ddiv (FP.i2d w) (4656722014701092864 : UInt64))), (.double (FP.ddiv (FP.i2d u) (4656722014701092864 : UInt64))), (.double (FP.ddiv (FP.i2d v) (4656722014701092864 : UInt64)))]) (rest := []) (lenOf pd_0 rfl) rfl (by show 2 * 0 + _ ≤ _; exact Nat.le_of_eq rfl) (hb hby at_58) (fun _ _ => ⟨rfl, e0, (by decide : 0 + 0 ≤ _), (by decide : 0 + 0 ≤ _)⟩)
  dsimp only [Pt.U, Pt.locs, Pt.cells, Pt.slots] at X5 l5 y5 z5 st5 hQ5
  subst l5 y5 z5
  obtain ⟨rfl, N5q, e5⟩ := hQ5
  have N5 := Fr.app N0 N5q
  have R6 : ∀ tgt, Steps p.tables e below (T5.setTop (mkF m 61 #[.val (.int p1), .val (.int p2), .val (.int p3), .val (.int w), .val (.int u), .val (.int v), .val (.double (FP.ddiv (FP.i2d w) (4656722014701092864 : UInt64))), .second, .val (.double (FP.ddiv (FP.i2d u) (4656722014701092864 : UInt64))), .second, .val (.double (FP.ddiv (FP.i2d v) (4656722014701092864 : UInt64))), .second, .unset, .unset, .unset, .unset, .unset, .unset] [(.double (FP.dmul (FP.dmul (FP.ddiv (FP.i2d w) (4656722014701092864 : UInt64)) (FP.dsub (FP.ddiv (FP.i2d u) (4656722014701092864 : UInt64)) (FP.ddiv (FP.i2d v) (4656722014701092864 : UInt64)))) (FP.dmul (FP.ddiv (FP.i2d w) (4656722014701092864 : UInt64)) (FP.dsub (FP.ddiv (FP.i2d u) (4656722014701092864 : UInt64)) (FP.ddiv (FP.i2d v) (4656722014701092864 : UInt64))))))])) tgt → Steps p.tables e below A0 tgt := fun tgt hgo => R4 tgt (st5 tgt hgo)
  have R7 : ∀ tgt, Steps p.tables e below (T5.setTop (mkF m 99 #[.val (.int p1), .val (.int p2), .val (.int p3), .val (.int w), .val (.int u), .val (.int v), .val (.double (FP.ddiv (FP.i2d w) (4656722014701092864 : UInt64))), .second, .val (.double (FP.ddiv (FP.i2d u) (4656722014701092864 : UInt64))), .second, .val (.double (FP.ddiv (FP.i2d v) (4656722014701092864 : UInt64))), .second, .val (.double (FP.dmul (FP.dmul (FP.ddiv (FP.i2d w) (4656722014701092864 : UInt64)) (FP.dsub (FP.ddiv (FP.i2d u) (4656722014701092864 : UInt64)) (FP.ddiv (FP.i2d v) (4656722014701092864 : UInt64)))) (FP.dmul (FP.ddiv (FP.i2d w) (4656722014701092864 : UInt64)) (FP.dsub (FP.ddiv (FP.i2d u) (4656722014701092864 : UInt64)) (FP.ddiv (FP.i2d v) (4656722014701092864 : UInt64)))))), .second, .val (.long ((w.toInt64) * ((u - v).toInt64))), .second, .val (.double (FP.ddiv (FP.l2d (((w.toInt64) * ((u - v).toInt64)) * ((w.toInt64) * ((u - v).toInt64)))) (4805340802404319232 : UInt64))), .second] [(.int (1 : Int32))])) tgt → Steps p.tables e below A0 tgt := by
    intro tgt hgo
    refine R6 tgt ?_
    show Steps p.tables e below (T5.setTop (mkF m 61 #[.val (.int p1), .val (.int p2), .val (.int p3), .val (.int w), .val (.int u), .val (.int v), .val (.double (FP.ddiv (FP.i2d w) (4656722014701092864 : UInt64))), .second, .val (.double (FP.ddiv (FP.i2d u) (4656722014701092864 : UInt64))), .second, .val (.double (FP.ddiv (FP.i2d v) (4656722014701092864 : UInt64))), .second, .unset, .unset, .unset, .unset, .unset, .unset] [(.double (FP.dmul (FP.dmul (FP.ddiv (FP.i2d w) (4656722014701092864 : UInt64)) (FP.dsub (FP.ddiv (FP.i2d u) (4656722014701092864 : UInt64)) (FP.ddiv (FP.i2d v) (4656722014701092864 : UInt64)))) (FP.dmul (FP.ddiv (FP.i2d w) (4656722014701092864 : UInt64)) (FP.dsub (FP.ddiv (FP.i2d u) (4656722014701092864 : UInt64)) (FP.ddiv (FP.i2d v) (4656722014701092864 : UInt64))))))])) _
    refine XS.dstore X5.here hx rfl (hb hby at_61) rfl (l' := #[.val (.int p1), .val (.int p2), .val (.int p3), .val (.int w), .val (.int u), .val (.int v), .val (.double (FP.ddiv (FP.i2d w) (4656722014701092864 : UInt64))), .second, .val (.double (FP.ddiv (FP.i2d u) (4656722014701092864 : UInt64))), .second, .val (.double (FP.ddiv (FP.i2d v) (4656722014701092864 : UInt64))), .second, .val (.double (FP.dmul (FP.dmul (FP.ddiv (FP.i2d w) (4656722014701092864 : UInt64)) (FP.dsub (FP.ddiv (FP.i2d u) (4656722014701092864 : UInt64)) (FP.ddiv (FP.i2d v) (4656722014701092864 : UInt64)))) (FP.dmul (FP.ddiv (FP.i2d w) (4656722014701092864 : UInt64)) (FP.dsub (FP.ddiv (FP.i2d u) (4656722014701092864 : UInt64)) (FP.ddiv (FP.i2d v) (4656722014701092864 : UInt64)))))), .second, .unset, .unset, .unset, .unset]) rfl ?_
    show Steps p.tables e below (T5.setTop (mkF m 63 #[.val (.int p1), .val (.int p2), .val (.int p3), .val (.int w), .val (.int u), .val (.int v), .val (.double (FP.ddiv (FP.i2d w) (4656722014701092864 : UInt64))), .second, .val (.double (FP.ddiv (FP.i2d u) (4656722014701092864 : UInt64))), .second, .val (.double (FP.ddiv (FP.i2d v) (4656722014701092864 : UInt64))), .second, .val (.double (FP.dmul (FP.dmul (FP.ddiv (FP.i2d w) (4656722014701092864 : UInt64)) (FP.dsub (FP.ddiv (FP.i2d u) (4656722014701092864 : UInt64)) (FP.ddiv (FP.i2d v) (4656722014701092864 : UInt64)))) (FP.dmul (FP.ddiv (FP.i2d w) (4656722014701092864 : UInt64)) (FP.dsub (FP.ddiv (FP.i2d u) (4656722014701092864 : UInt64)) (FP.ddiv (FP.i2d v) (4656722014701092864 : UInt64)))))), .second, .unset, .unset, .unset, .unset] [])) _
    refine XS.iloadN X5.here hx rfl (hb hby at_63) rfl ?_
    show Steps p.tables e below (T5.setTop (mkF m 64 #[.val (.int p1), .val (.int p2), .val (.int p3), .val (.int w), .val (.int u), .val (.int v), .val (.double (FP.ddiv (FP.i2d w) (4656722014701092864 : UInt64))), .second, .val (.double (FP.ddiv (FP.i2d u) (4656722014701092864 : UInt64))), .second, .val (.double (FP.ddiv (FP.i2d v) (4656722014701092864 : UInt64))), .second, .val (.double (FP.dmul (FP.dmul (FP.ddiv (FP.i2d w) (4656722014701092864 : UInt64)) (FP.dsub (FP.ddiv (FP.i2d u) (4656722014701092864 : UInt64)) (FP.ddiv (FP.i2d v) (4656722014701092864 : UInt64)))) (FP.dmul (FP.ddiv (FP.i2d w) (4656722014701092864 : UInt64)) (FP.dsub (FP.ddiv (FP.i2d u) (4656722014701092864 : UInt64)) (FP.ddiv (FP.i2d v) (4656722014701092864 : UInt64)))))), .second, .unset, .unset, .unset, .unset] [(.int w)])) _
    refine XS.i2l X5.here hx rfl (hb hby at_64) rfl ?_
    show Steps p.tables e below (T5.setTop (mkF m 65 #[.val (.int p1), .val (.int p2), .val (.int p3), .val (.int w), .val (.int u), .val (.int v), .val (.double (FP.ddiv (FP.i2d w) (4656722014701092864 : UInt64))), .second, .val (.double (FP.ddiv (FP.i2d u) (4656722014701092864 : UInt64))), .second, .val (.double (FP.ddiv (FP.i2d v) (4656722014701092864 : UInt64))), .second, .val (.double (FP.dmul (FP.dmul (FP.ddiv (FP.i2d w) (4656722014701092864 : UInt64)) (FP.dsub (FP.ddiv (FP.i2d u) (4656722014701092864 : UInt64)) (FP.ddiv (FP.i2d v) (4656722014701092864 : UInt64)))) (FP.dmul (FP.ddiv (FP.i2d w) (4656722014701092864 : UInt64)) (FP.dsub (FP.ddiv (FP.i2d u) (4656722014701092864 : UInt64)) (FP.ddiv (FP.i2d v) (4656722014701092864 : UInt64)))))), .second, .unset, .unset, .unset, .unset] [(.long (w.toInt64))])) _
    refine XS.iload X5.here hx rfl (hb hby at_65) rfl ?_
    show Steps p.tables e below (T5.setTop (mkF m 67 #[.val (.int p1), .val (.int p2), .val (.int p3), .val (.int w), .val (.int u), .val (.int v), .val (.double (FP.ddiv (FP.i2d w) (4656722014701092864 : UInt64))), .second, .val (.double (FP.ddiv (FP.i2d u) (4656722014701092864 : UInt64))), .second, .val (.double (FP.ddiv (FP.i2d v) (4656722014701092864 : UInt64))), .second, .val (.double (FP.dmul (FP.dmul (FP.ddiv (FP.i2d w) (4656722014701092864 : UInt64)) (FP.dsub (FP.ddiv (FP.i2d u) (4656722014701092864 : UInt64)) (FP.ddiv (FP.i2d v) (4656722014701092864 : UInt64)))) (FP.dmul (FP.ddiv (FP.i2d w) (4656722014701092864 : UInt64)) (FP.dsub (FP.ddiv (FP.i2d u) (4656722014701092864 : UInt64)) (FP.ddiv (FP.i2d v) (4656722014701092864 : UInt64)))))), .second, .unset, .unset, .unset, .unset] [(.int u), (.long (w.toInt64))])) _
    refine XS.iload X5.here hx rfl (hb hby at_67) rfl ?_
    show Steps p.tables e below (T5.setTop (mkF m 69 #[.val (.int p1), .val (.int p2), .val (.int p3), .val (.int w), .val (.int u), .val (.int v), .val (.double (FP.ddiv (FP.i2d w) (4656722014701092864 : UInt64))), .second, .val (.double (FP.ddiv (FP.i2d u) (4656722014701092864 : UInt64))), .second, .val (.double (FP.ddiv (FP.i2d v) (4656722014701092864 : UInt64))), .second, .val (.double (FP.dmul (FP.dmul (FP.ddiv (FP.i2d w) (4656722014701092864 : UInt64)) (FP.dsub (FP.ddiv (FP.i2d u) (4656722014701092864 : UInt64)) (FP.ddiv (FP.i2d v) (4656722014701092864 : UInt64)))) (FP.dmul (FP.ddiv (FP.i2d w) (4656722014701092864 : UInt64)) (FP.dsub (FP.ddiv (FP.i2d u) (4656722014701092864 : UInt64)) (FP.ddiv (FP.i2d v) (4656722014701092864 : UInt64)))))), .second, .unset, .unset, .unset, .unset] [(.int v), (.int u), (.long (w.toInt64))])) _
    refine XS.isub X5.here hx rfl (hb hby at_69) rfl ?_
    show Steps p.tables e below (T5.setTop (mkF m 70 #[.val (.int p1), .val (.int p2), .val (.int p3), .val (.int w), .val (.int u), .val (.int v), .val (.double (FP.ddiv (FP.i2d w) (4656722014701092864 : UInt64))), .second, .val (.double (FP.ddiv (FP.i2d u) (4656722014701092864 : UInt64))), .second, .val (.double (FP.ddiv (FP.i2d v) (4656722014701092864 : UInt64))), .second, .val (.double (FP.dmul (FP.dmul (FP.ddiv (FP.i2d w) (4656722014701092864 : UInt64)) (FP.dsub (FP.ddiv (FP.i2d u) (4656722014701092864 : UInt64)) (FP.ddiv (FP.i2d v) (4656722014701092864 : UInt64)))) (FP.dmul (FP.ddiv (FP.i2d w) (4656722014701092864 : UInt64)) (FP.dsub (FP.ddiv (FP.i2d u) (4656722014701092864 : UInt64)) (FP.ddiv (FP.i2d v) (4656722014701092864 : UInt64)))))), .second, .unset, .unset, .unset, .unset] [(.int (u - v)), (.long (w.toInt64))])) _
    refine XS.i2l X5.here hx rfl (hb hby at_70) rfl ?_
    show Steps p.tables e below (T5.setTop (mkF m 71 #[.val (.int p1), .val (.int p2), .val (.int p3), .val (.int w), .val (.int u), .val (.int v), .val (.double (FP.ddiv (FP.i2d w) (4656722014701092864 : UInt64))), .second, .val (.double (FP.ddiv (FP.i2d u) (4656722014701092864 : UInt64))), .second, .val (.double (FP.ddiv (FP.i2d v) (4656722014701092864 : UInt64))), .second, .val (.double (FP.dmul (FP.dmul (FP.ddiv (FP.i2d w) (4656722014701092864 : UInt64)) (FP.dsub (FP.ddiv (FP.i2d u) (4656722014701092864 : UInt64)) (FP.ddiv (FP.i2d v) (4656722014701092864 : UInt64)))) (FP.dmul (FP.ddiv (FP.i2d w) (4656722014701092864 : UInt64)) (FP.dsub (FP.ddiv (FP.i2d u) (4656722014701092864 : UInt64)) (FP.ddiv (FP.i2d v) (4656722014701092864 : UInt64)))))), .second, .unset, .unset, .unset, .unset] [(.long ((u - v).toInt64)), (.long (w.toInt64))])) _
    refine XS.lmul X5.here hx rfl (hb hby at_71) rfl ?_
    show Steps p.tables e below (T5.setTop (mkF m 72 #[.val (.int p1), .val (.int p2), .val (.int p3), .val (.int w), .val (.int u), .val (.int v), .val (.double (FP.ddiv (FP.i2d w) (4656722014701092864 : UInt64))), .second, .val (.double (FP.ddiv (FP.i2d u) (4656722014701092864 : UInt64))), .second, .val (.double (FP.ddiv (FP.i2d v) (4656722014701092864 : UInt64))), .second, .val (.double (FP.dmul (FP.dmul (FP.ddiv (FP.i2d w) (4656722014701092864 : UInt64)) (FP.dsub (FP.ddiv (FP.i2d u) (4656722014701092864 : UInt64)) (FP.ddiv (FP.i2d v) (4656722014701092864 : UInt64)))) (FP.dmul (FP.ddiv (FP.i2d w) (4656722014701092864 : UInt64)) (FP.dsub (FP.ddiv (FP.i2d u) (4656722014701092864 : UInt64)) (FP.ddiv (FP.i2d v) (4656722014701092864 : UInt64)))))), .second, .unset, .unset, .unset, .unset] [(.long ((w.toInt64) * ((u - v).toInt64)))])) _
    refine XS.lstore X5.here hx rfl (hb hby at_72) rfl (l' := #[.val (.int p1), .val (.int p2), .val (.int p3), .val (.int w), .val (.int u), .val (.int v), .val (.double (FP.ddiv (FP.i2d w) (4656722014701092864 : UInt64))), .second, .val (.double (FP.ddiv (FP.i2d u) (4656722014701092864 : UInt64))), .second, .val (.double (FP.ddiv (FP.i2d v) (4656722014701092864 : UInt64))), .second, .val (.double (FP.dmul (FP.dmul (FP.ddiv (FP.i2d w) (4656722014701092864 : UInt64)) (FP.dsub (FP.ddiv (FP.i2d u) (4656722014701092864 : UInt64)) (FP.ddiv (FP.i2d v) (4656722014701092864 : UInt64)))) (FP.dmul (FP.ddiv (FP.i2d w) (4656722014701092864 : UInt64)) (FP.dsub (FP.ddiv (FP.i2d u) (4656722014701092864 : UInt64)) (FP.ddiv (FP.i2d v) (4656722014701092864 : UInt64)))))), .second, .val (.long ((w.toInt64) * ((u - v).toInt64))), .second, .unset, .unset]) rfl ?_
    show Steps p.tables e below (T5.setTop (mkF m 74 #[.val (.int p1), .val (.int p2), .val (.int p3), .val (.int w), .val (.int u), .val (.int v), .val (.double (FP.ddiv (FP.i2d w) (4656722014701092864 : UInt64))), .second, .val (.double (FP.ddiv (FP.i2d u) (4656722014701092864 : UInt64))), .second, .val (.double (FP.ddiv (FP.i2d v) (4656722014701092864 : UInt64))), .second, .val (.double (FP.dmul (FP.dmul (FP.ddiv (FP.i2d w) (4656722014701092864 : UInt64)) (FP.dsub (FP.ddiv (FP.i2d u) (4656722014701092864 : UInt64)) (FP.ddiv (FP.i2d v) (4656722014701092864 : UInt64)))) (FP.dmul (FP.ddiv (FP.i2d w) (4656722014701092864 : UInt64)) (FP.dsub (FP.ddiv (FP.i2d u) (4656722014701092864 : UInt64)) (FP.ddiv (FP.i2d v) (4656722014701092864 : UInt64)))))), .second, .val (.long ((w.toInt64) * ((u - v).toInt64))), .second, .unset, .unset] [])) _
    refine XS.lload X5.here hx rfl (hb hby at_74) rfl ?_
    show Steps p.tables e below (T5.setTop (mkF m 76 #[.val (.int p1), .val (.int p2), .val (.int p3), .val (.int w), .val (.int u), .val (.int v), .val (.double (FP.ddiv (FP.i2d w) (4656722014701092864 : UInt64))), .second, .val (.double (FP.ddiv (FP.i2d u) (4656722014701092864 : UInt64))), .second, .val (.double (FP.ddiv (FP.i2d v) (4656722014701092864 : UInt64))), .second, .val (.double (FP.dmul (FP.dmul (FP.ddiv (FP.i2d w) (4656722014701092864 : UInt64)) (FP.dsub (FP.ddiv (FP.i2d u) (4656722014701092864 : UInt64)) (FP.ddiv (FP.i2d v) (4656722014701092864 : UInt64)))) (FP.dmul (FP.ddiv (FP.i2d w) (4656722014701092864 : UInt64)) (FP.dsub (FP.ddiv (FP.i2d u) (4656722014701092864 : UInt64)) (FP.ddiv (FP.i2d v) (4656722014701092864 : UInt64)))))), .second, .val (.long ((w.toInt64) * ((u - v).toInt64))), .second, .unset, .unset] [(.long ((w.toInt64) * ((u - v).toInt64)))])) _
    refine XS.lload X5.here hx rfl (hb hby at_76) rfl ?_
    show Steps p.tables e below (T5.setTop (mkF m 78 #[.val (.int p1), .val (.int p2), .val (.int p3), .val (.int w), .val (.int u), .val (.int v), .val (.double (FP.ddiv (FP.i2d w) (4656722014701092864 : UInt64))), .second, .val (.double (FP.ddiv (FP.i2d u) (4656722014701092864 : UInt64))), .second, .val (.double (FP.ddiv (FP.i2d v) (4656722014701092864 : UInt64))), .second, .val (.double (FP.dmul (FP.dmul (FP.ddiv (FP.i2d w) (4656722014701092864 : UInt64)) (FP.dsub (FP.ddiv (FP.i2d u) (4656722014701092864 : UInt64)) (FP.ddiv (FP.i2d v) (4656722014701092864 : UInt64)))) (FP.dmul (FP.ddiv (FP.i2d w) (4656722014701092864 : UInt64)) (FP.dsub (FP.ddiv (FP.i2d u) (4656722014701092864 : UInt64)) (FP.ddiv (FP.i2d v) (4656722014701092864 : UInt64)))))), .second, .val (.long ((w.toInt64) * ((u - v).toInt64))), .second, .unset, .unset] [(.long ((w.toInt64) * ((u - v).toInt64))), (.long ((w.toInt64) * ((u - v).toInt64)))])) _
    refine XS.lmul X5.here hx rfl (hb hby at_78) rfl ?_
    show Steps p.tables e below (T5.setTop (mkF m 79 #[.val (.int p1), .val (.int p2), .val (.int p3), .val (.int w), .val (.int u), .val (.int v), .val (.double (FP.ddiv (FP.i2d w) (4656722014701092864 : UInt64))), .second, .val (.double (FP.ddiv (FP.i2d u) (4656722014701092864 : UInt64))), .second, .val (.double (FP.ddiv (FP.i2d v) (4656722014701092864 : UInt64))), .second, .val (.double (FP.dmul (FP.dmul (FP.ddiv (FP.i2d w) (4656722014701092864 : UInt64)) (FP.dsub (FP.ddiv (FP.i2d u) (4656722014701092864 : UInt64)) (FP.ddiv (FP.i2d v) (4656722014701092864 : UInt64)))) (FP.dmul (FP.ddiv (FP.i2d w) (4656722014701092864 : UInt64)) (FP.dsub (FP.ddiv (FP.i2d u) (4656722014701092864 : UInt64)) (FP.ddiv (FP.i2d v) (4656722014701092864 : UInt64)))))), .second, .val (.long ((w.toInt64) * ((u - v).toInt64))), .second, .unset, .unset] [(.long (((w.toInt64) * ((u - v).toInt64)) * ((w.toInt64) * ((u - v).toInt64))))])) _
    refine XS.l2dS X5.here hx rfl (hb hby at_79) rfl rfl ?_
    show Steps p.tables e below (T5.setTop (mkF m 80 #[.val (.int p1), .val (.int p2), .val (.int p3), .val (.int w), .val (.int u), .val (.int v), .val (.double (FP.ddiv (FP.i2d w) (4656722014701092864 : UInt64))), .second, .val (.double (FP.ddiv (FP.i2d u) (4656722014701092864 : UInt64))), .second, .val (.double (FP.ddiv (FP.i2d v) (4656722014701092864 : UInt64))), .second, .val (.double (FP.dmul (FP.dmul (FP.ddiv (FP.i2d w) (4656722014701092864 : UInt64)) (FP.dsub (FP.ddiv (FP.i2d u) (4656722014701092864 : UInt64)) (FP.ddiv (FP.i2d v) (4656722014701092864 : UInt64)))) (FP.dmul (FP.ddiv (FP.i2d w) (4656722014701092864 : UInt64)) (FP.dsub (FP.ddiv (FP.i2d u) (4656722014701092864 : UInt64)) (FP.ddiv (FP.i2d v) (4656722014701092864 : UInt64)))))), .second, .val (.long ((w.toInt64) * ((u - v).toInt64))), .second, .unset, .unset] [(.double (FP.l2d (((w.toInt64) * ((u - v).toInt64)) * ((w.toInt64) * ((u - v).toInt64)))))])) _
    refine X5.ldc2DoubleC hx hown (mvT hZ (hw _ (List.mem_of_getElem? (i := 5) rfl))) (g := (mkF m 80 #[.val (.int p1), .val (.int p2), .val (.int p3), .val (.int w), .val (.int u), .val (.int v), .val (.double (FP.ddiv (FP.i2d w) (4656722014701092864 : UInt64))), .second, .val (.double (FP.ddiv (FP.i2d u) (4656722014701092864 : UInt64))), .second, .val (.double (FP.ddiv (FP.i2d v) (4656722014701092864 : UInt64))), .second, .val (.double (FP.dmul (FP.dmul (FP.ddiv (FP.i2d w) (4656722014701092864 : UInt64)) (FP.dsub (FP.ddiv (FP.i2d u) (4656722014701092864 : UInt64)) (FP.ddiv (FP.i2d v) (4656722014701092864 : UInt64)))) (FP.dmul (FP.ddiv (FP.i2d w) (4656722014701092864 : UInt64)) (FP.dsub (FP.ddiv (FP.i2d u) (4656722014701092864 : UInt64)) (FP.ddiv (FP.i2d v) (4656722014701092864 : UInt64)))))), .second, .val (.long ((w.toInt64) * ((u - v).toInt64))), .second, .unset, .unset] [(.double (FP.l2d (((w.toInt64) * ((u - v).toInt64)) * ((w.toInt64) * ((u - v).toInt64)))))])) rfl (hb hby at_80) _ ?_
    show Steps p.tables e below (T5.setTop (mkF m 83 #[.val (.int p1), .val (.int p2), .val (.int p3), .val (.int w), .val (.int u), .val (.int v), .val (.double (FP.ddiv (FP.i2d w) (4656722014701092864 : UInt64))), .second, .val (.double (FP.ddiv (FP.i2d u) (4656722014701092864 : UInt64))), .second, .val (.double (FP.ddiv (FP.i2d v) (4656722014701092864 : UInt64))), .second, .val (.double (FP.dmul (FP.dmul (FP.ddiv (FP.i2d w) (4656722014701092864 : UInt64)) (FP.dsub (FP.ddiv (FP.i2d u) (4656722014701092864 : UInt64)) (FP.ddiv (FP.i2d v) (4656722014701092864 : UInt64)))) (FP.dmul (FP.ddiv (FP.i2d w) (4656722014701092864 : UInt64)) (FP.dsub (FP.ddiv (FP.i2d u) (4656722014701092864 : UInt64)) (FP.ddiv (FP.i2d v) (4656722014701092864 : UInt64)))))), .second, .val (.long ((w.toInt64) * ((u - v).toInt64))), .second, .unset, .unset] [(.double (4805340802404319232 : UInt64)), (.double (FP.l2d (((w.toInt64) * ((u - v).toInt64)) * ((w.toInt64) * ((u - v).toInt64)))))])) _
    refine XS.ddivS X5.here hx rfl (hb hby at_83) rfl nnE rfl ?_
    show Steps p.tables e below (T5.setTop (mkF m 84 #[.val (.int p1), .val (.int p2), .val (.int p3), .val (.int w), .val (.int u), .val (.int v), .val (.double (FP.ddiv (FP.i2d w) (4656722014701092864 : UInt64))), .second, .val (.double (FP.ddiv (FP.i2d u) (4656722014701092864 : UInt64))), .second, .val (.double (FP.ddiv (FP.i2d v) (4656722014701092864 : UInt64))), .second, .val (.double (FP.dmul (FP.dmul (FP.ddiv (FP.i2d w) (4656722014701092864 : UInt64)) (FP.dsub (FP.ddiv (FP.i2d u) (4656722014701092864 : UInt64)) (FP.ddiv (FP.i2d v) (4656722014701092864 : UInt64)))) (FP.dmul (FP.ddiv (FP.i2d w) (4656722014701092864 : UInt64)) (FP.dsub (FP.ddiv (FP.i2d u) (4656722014701092864 : UInt64)) (FP.ddiv (FP.i2d v) (4656722014701092864 : UInt64)))))), .second, .val (.long ((w.toInt64) * ((u - v).toInt64))), .second, .unset, .unset] [(.double (FP.ddiv (FP.l2d (((w.toInt64) * ((u - v).toInt64)) * ((w.toInt64) * ((u - v).toInt64)))) (4805340802404319232 : UInt64)))])) _
    refine XS.dstore X5.here hx rfl (hb hby at_84) rfl (l' := #[.val (.int p1), .val (.int p2), .val (.int p3), .val (.int w), .val (.int u), .val (.int v), .val (.double (FP.ddiv (FP.i2d w) (4656722014701092864 : UInt64))), .second, .val (.double (FP.ddiv (FP.i2d u) (4656722014701092864 : UInt64))), .second, .val (.double (FP.ddiv (FP.i2d v) (4656722014701092864 : UInt64))), .second, .val (.double (FP.dmul (FP.dmul (FP.ddiv (FP.i2d w) (4656722014701092864 : UInt64)) (FP.dsub (FP.ddiv (FP.i2d u) (4656722014701092864 : UInt64)) (FP.ddiv (FP.i2d v) (4656722014701092864 : UInt64)))) (FP.dmul (FP.ddiv (FP.i2d w) (4656722014701092864 : UInt64)) (FP.dsub (FP.ddiv (FP.i2d u) (4656722014701092864 : UInt64)) (FP.ddiv (FP.i2d v) (4656722014701092864 : UInt64)))))), .second, .val (.long ((w.toInt64) * ((u - v).toInt64))), .second, .val (.double (FP.ddiv (FP.l2d (((w.toInt64) * ((u - v).toInt64)) * ((w.toInt64) * ((u - v).toInt64)))) (4805340802404319232 : UInt64))), .second]) rfl ?_
    show Steps p.tables e below (T5.setTop (mkF m 86 #[.val (.int p1), .val (.int p2), .val (.int p3), .val (.int w), .val (.int u), .val (.int v), .val (.double (FP.ddiv (FP.i2d w) (4656722014701092864 : UInt64))), .second, .val (.double (FP.ddiv (FP.i2d u) (4656722014701092864 : UInt64))), .second, .val (.double (FP.ddiv (FP.i2d v) (4656722014701092864 : UInt64))), .second, .val (.double (FP.dmul (FP.dmul (FP.ddiv (FP.i2d w) (4656722014701092864 : UInt64)) (FP.dsub (FP.ddiv (FP.i2d u) (4656722014701092864 : UInt64)) (FP.ddiv (FP.i2d v) (4656722014701092864 : UInt64)))) (FP.dmul (FP.ddiv (FP.i2d w) (4656722014701092864 : UInt64)) (FP.dsub (FP.ddiv (FP.i2d u) (4656722014701092864 : UInt64)) (FP.ddiv (FP.i2d v) (4656722014701092864 : UInt64)))))), .second, .val (.long ((w.toInt64) * ((u - v).toInt64))), .second, .val (.double (FP.ddiv (FP.l2d (((w.toInt64) * ((u - v).toInt64)) * ((w.toInt64) * ((u - v).toInt64)))) (4805340802404319232 : UInt64))), .second] [])) _
    refine XS.dload X5.here hx rfl (hb hby at_86) rfl ?_
    show Steps p.tables e below (T5.setTop (mkF m 88 #[.val (.int p1), .val (.int p2), .val (.int p3), .val (.int w), .val (.int u), .val (.int v), .val (.double (FP.ddiv (FP.i2d w) (4656722014701092864 : UInt64))), .second, .val (.double (FP.ddiv (FP.i2d u) (4656722014701092864 : UInt64))), .second, .val (.double (FP.ddiv (FP.i2d v) (4656722014701092864 : UInt64))), .second, .val (.double (FP.dmul (FP.dmul (FP.ddiv (FP.i2d w) (4656722014701092864 : UInt64)) (FP.dsub (FP.ddiv (FP.i2d u) (4656722014701092864 : UInt64)) (FP.ddiv (FP.i2d v) (4656722014701092864 : UInt64)))) (FP.dmul (FP.ddiv (FP.i2d w) (4656722014701092864 : UInt64)) (FP.dsub (FP.ddiv (FP.i2d u) (4656722014701092864 : UInt64)) (FP.ddiv (FP.i2d v) (4656722014701092864 : UInt64)))))), .second, .val (.long ((w.toInt64) * ((u - v).toInt64))), .second, .val (.double (FP.ddiv (FP.l2d (((w.toInt64) * ((u - v).toInt64)) * ((w.toInt64) * ((u - v).toInt64)))) (4805340802404319232 : UInt64))), .second] [(.double (FP.dmul (FP.dmul (FP.ddiv (FP.i2d w) (4656722014701092864 : UInt64)) (FP.dsub (FP.ddiv (FP.i2d u) (4656722014701092864 : UInt64)) (FP.ddiv (FP.i2d v) (4656722014701092864 : UInt64)))) (FP.dmul (FP.ddiv (FP.i2d w) (4656722014701092864 : UInt64)) (FP.dsub (FP.ddiv (FP.i2d u) (4656722014701092864 : UInt64)) (FP.ddiv (FP.i2d v) (4656722014701092864 : UInt64))))))])) _
    refine XS.dload X5.here hx rfl (hb hby at_88) rfl ?_
    show Steps p.tables e below (T5.setTop (mkF m 90 #[.val (.int p1), .val (.int p2), .val (.int p3), .val (.int w), .val (.int u), .val (.int v), .val (.double (FP.ddiv (FP.i2d w) (4656722014701092864 : UInt64))), .second, .val (.double (FP.ddiv (FP.i2d u) (4656722014701092864 : UInt64))), .second, .val (.double (FP.ddiv (FP.i2d v) (4656722014701092864 : UInt64))), .second, .val (.double (FP.dmul (FP.dmul (FP.ddiv (FP.i2d w) (4656722014701092864 : UInt64)) (FP.dsub (FP.ddiv (FP.i2d u) (4656722014701092864 : UInt64)) (FP.ddiv (FP.i2d v) (4656722014701092864 : UInt64)))) (FP.dmul (FP.ddiv (FP.i2d w) (4656722014701092864 : UInt64)) (FP.dsub (FP.ddiv (FP.i2d u) (4656722014701092864 : UInt64)) (FP.ddiv (FP.i2d v) (4656722014701092864 : UInt64)))))), .second, .val (.long ((w.toInt64) * ((u - v).toInt64))), .second, .val (.double (FP.ddiv (FP.l2d (((w.toInt64) * ((u - v).toInt64)) * ((w.toInt64) * ((u - v).toInt64)))) (4805340802404319232 : UInt64))), .second] [(.double (FP.ddiv (FP.l2d (((w.toInt64) * ((u - v).toInt64)) * ((w.toInt64) * ((u - v).toInt64)))) (4805340802404319232 : UInt64))), (.double (FP.dmul (FP.dmul (FP.ddiv (FP.i2d w) (4656722014701092864 : UInt64)) (FP.dsub (FP.ddiv (FP.i2d u) (4656722014701092864 : UInt64)) (FP.ddiv (FP.i2d v) (4656722014701092864 : UInt64)))) (FP.dmul (FP.ddiv (FP.i2d w) (4656722014701092864 : UInt64)) (FP.dsub (FP.ddiv (FP.i2d u) (4656722014701092864 : UInt64)) (FP.ddiv (FP.i2d v) (4656722014701092864 : UInt64))))))])) _
    refine XS.dcmpS X5.here hx rfl (hb hby at_90) rfl (OwnFp.own_cmp hN gotE expE _) ?_
    show Steps p.tables e below (T5.setTop (mkF m 91 #[.val (.int p1), .val (.int p2), .val (.int p3), .val (.int w), .val (.int u), .val (.int v), .val (.double (FP.ddiv (FP.i2d w) (4656722014701092864 : UInt64))), .second, .val (.double (FP.ddiv (FP.i2d u) (4656722014701092864 : UInt64))), .second, .val (.double (FP.ddiv (FP.i2d v) (4656722014701092864 : UInt64))), .second, .val (.double (FP.dmul (FP.dmul (FP.ddiv (FP.i2d w) (4656722014701092864 : UInt64)) (FP.dsub (FP.ddiv (FP.i2d u) (4656722014701092864 : UInt64)) (FP.ddiv (FP.i2d v) (4656722014701092864 : UInt64)))) (FP.dmul (FP.ddiv (FP.i2d w) (4656722014701092864 : UInt64)) (FP.dsub (FP.ddiv (FP.i2d u) (4656722014701092864 : UInt64)) (FP.ddiv (FP.i2d v) (4656722014701092864 : UInt64)))))), .second, .val (.long ((w.toInt64) * ((u - v).toInt64))), .second, .val (.double (FP.ddiv (FP.l2d (((w.toInt64) * ((u - v).toInt64)) * ((w.toInt64) * ((u - v).toInt64)))) (4805340802404319232 : UInt64))), .second] [(.int (0 : Int32))])) _
    refine XS.ifNo X5.here hx rfl (hb hby at_91) rfl ((if0 _ _).trans (teq (by decide : (0 : Int32) = (0 : Int32))).2) ?_
    show Steps p.tables e below (T5.setTop (mkF m 94 #[.val (.int p1), .val (.int p2), .val (.int p3), .val (.int w), .val (.int u), .val (.int v), .val (.double (FP.ddiv (FP.i2d w) (4656722014701092864 : UInt64))), .second, .val (.double (FP.ddiv (FP.i2d u) (4656722014701092864 : UInt64))), .second, .val (.double (FP.ddiv (FP.i2d v) (4656722014701092864 : UInt64))), .second, .val (.double (FP.dmul (FP.dmul (FP.ddiv (FP.i2d w) (4656722014701092864 : UInt64)) (FP.dsub (FP.ddiv (FP.i2d u) (4656722014701092864 : UInt64)) (FP.ddiv (FP.i2d v) (4656722014701092864 : UInt64)))) (FP.dmul (FP.ddiv (FP.i2d w) (4656722014701092864 : UInt64)) (FP.dsub (FP.ddiv (FP.i2d u) (4656722014701092864 : UInt64)) (FP.ddiv (FP.i2d v) (4656722014701092864 : UInt64)))))), .second, .val (.long ((w.toInt64) * ((u - v).toInt64))), .second, .val (.double (FP.ddiv (FP.l2d (((w.toInt64) * ((u - v).toInt64)) * ((w.toInt64) * ((u - v).toInt64)))) (4805340802404319232 : UInt64))), .second] [])) _
    refine XS.iconst X5.here hx rfl (hb hby at_94) ?_
    show Steps p.tables e below (T5.setTop (mkF m 95 #[.val (.int p1), .val (.int p2), .val (.int p3), .val (.int w), .val (.int u), .val (.int v), .val (.double (FP.ddiv (FP.i2d w) (4656722014701092864 : UInt64))), .second, .val (.double (FP.ddiv (FP.i2d u) (4656722014701092864 : UInt64))), .second, .val (.double (FP.ddiv (FP.i2d v) (4656722014701092864 : UInt64))), .second, .val (.double (FP.dmul (FP.dmul (FP.ddiv (FP.i2d w) (4656722014701092864 : UInt64)) (FP.dsub (FP.ddiv (FP.i2d u) (4656722014701092864 : UInt64)) (FP.ddiv (FP.i2d v) (4656722014701092864 : UInt64)))) (FP.dmul (FP.ddiv (FP.i2d w) (4656722014701092864 : UInt64)) (FP.dsub (FP.ddiv (FP.i2d u) (4656722014701092864 : UInt64)) (FP.ddiv (FP.i2d v) (4656722014701092864 : UInt64)))))), .second, .val (.long ((w.toInt64) * ((u - v).toInt64))), .second, .val (.double (FP.ddiv (FP.l2d (((w.toInt64) * ((u - v).toInt64)) * ((w.toInt64) * ((u - v).toInt64)))) (4805340802404319232 : UInt64))), .second] [(.int (1 : Int32))])) _
    refine XS.goto X5.here hx rfl (pc0 := 95) (pc' := 99) rfl (hb hby at_95) (by decide) (by decide) ?_
    show Steps p.tables e below (T5.setTop (mkF m 99 #[.val (.int p1), .val (.int p2), .val (.int p3), .val (.int w), .val (.int u), .val (.int v), .val (.double (FP.ddiv (FP.i2d w) (4656722014701092864 : UInt64))), .second, .val (.double (FP.ddiv (FP.i2d u) (4656722014701092864 : UInt64))), .second, .val (.double (FP.ddiv (FP.i2d v) (4656722014701092864 : UInt64))), .second, .val (.double (FP.dmul (FP.dmul (FP.ddiv (FP.i2d w) (4656722014701092864 : UInt64)) (FP.dsub (FP.ddiv (FP.i2d u) (4656722014701092864 : UInt64)) (FP.ddiv (FP.i2d v) (4656722014701092864 : UInt64)))) (FP.dmul (FP.ddiv (FP.i2d w) (4656722014701092864 : UInt64)) (FP.dsub (FP.ddiv (FP.i2d u) (4656722014701092864 : UInt64)) (FP.ddiv (FP.i2d v) (4656722014701092864 : UInt64)))))), .second, .val (.long ((w.toInt64) * ((u - v).toInt64))), .second, .val (.double (FP.ddiv (FP.l2d (((w.toInt64) * ((u - v).toInt64)) * ((w.toInt64) * ((u - v).toInt64)))) (4805340802404319232 : UInt64))), .second] [(.int (1 : Int32))])) _
    exact hgo
  subst hA0
  obtain ⟨fs, hr, hrun, hended, hW, hsame⟩ := X5.leave (v := some (.int (1 : Int32))) (fun h => by rw [Bd.returns] at h; cases h)
  refine ⟨_, _, R7 _ ?_, hrun, hended, _, _, rfl, ?_, ⟨_, rfl⟩, hW, hsame.mono (by decide) (by decide)⟩
  · show Steps p.tables e below (T5.setTop (mkF m 99 #[.val (.int p1), .val (.int p2), .val (.int p3), .val (.int w), .val (.int u), .val (.int v), .val (.double (FP.ddiv (FP.i2d w) (4656722014701092864 : UInt64))), .second, .val (.double (FP.ddiv (FP.i2d u) (4656722014701092864 : UInt64))), .second, .val (.double (FP.ddiv (FP.i2d v) (4656722014701092864 : UInt64))), .second, .val (.double (FP.dmul (FP.dmul (FP.ddiv (FP.i2d w) (4656722014701092864 : UInt64)) (FP.dsub (FP.ddiv (FP.i2d u) (4656722014701092864 : UInt64)) (FP.ddiv (FP.i2d v) (4656722014701092864 : UInt64)))) (FP.dmul (FP.ddiv (FP.i2d w) (4656722014701092864 : UInt64)) (FP.dsub (FP.ddiv (FP.i2d u) (4656722014701092864 : UInt64)) (FP.ddiv (FP.i2d v) (4656722014701092864 : UInt64)))))), .second, .val (.long ((w.toInt64) * ((u - v).toInt64))), .second, .val (.double (FP.ddiv (FP.l2d (((w.toInt64) * ((u - v).toInt64)) * ((w.toInt64) * ((u - v).toInt64)))) (4805340802404319232 : UInt64))), .second] [(.int (1 : Int32))])) _
    exact retN X5 hx (t := .boolean) Bd.returns (by simp) (hb hby at_99) hr
  · show Q0 n0 _ T5.heap _
    rw [e5]
    exact ⟨rfl, N5⟩
set_option maxRecDepth 65536 in
set_option maxHeartbeats 40000000 in
theorem comes_1 {Post : Tables → Env → Array Value → State → Outcome → State → Prop} (hpost : ∀ tb e args s v u, (limb_1_1.after args s (.returned v) u = true ∧ limb_1_2.after args s (.returned v) u = true ∧ True) → FrameEnd s (.returned v) u (Jvm.fieldLocs frame_1_writes args s ++ Jvm.arrayLocs frame_1_arrays args s ++ Jvm.staticLocs frame_1_statics s) 0 0 → Post tb e args s (.returned v) u) :
    ArmFor flags0 classFile x code maxLocals ret World_1 tables_1 room_1 Calls_1 rest_1 Pre_1 Post := by
  intro l hfl _ _ p e ha hc hk s m args below hf hA hF happ hP
  obtain ⟨hcalls, hrest, hpre⟩ := hP
  obtain ⟨-, -, -, hnamed, -, -, -, hat⟩ := (Spec.applies_iff hf).mp happ
  obtain ⟨hg, hn⟩ := and_e (Cond.before_iff.mp (show (Jvm.Cond.and given_1 narrow_1).before args s = true from hpre))
  obtain ⟨hg0, hg⟩ := and_e hg
  obtain ⟨hg1, hg⟩ := and_e hg
  obtain ⟨hg2, hg⟩ := and_e hg
  have hg3 := hg
  obtain ⟨w0, w1, w2, rfl⟩ : ∃ w0 w1 w2 : Value, args = #[w0, w1, w2] := by
    have hs : args.size = 3 := by simpa [Cond.value, given_1] using hg0
    obtain ⟨L⟩ := args
    match L, hs with
    | [w0, w1, w2], _ => exact ⟨w0, w1, w2, rfl⟩
  have hw := fun d (hd : d ∈ tables_1) => atoms_spec (ws := Jvm.Cond.code x code maxLocals ret :: tables_1) hat d (List.mem_cons_of_mem _ hd)
  have hfit : Fit s := fun {y c} hc i hi => by
    obtain ⟨ha, rfl⟩ := Array.getElem?_eq_some_iff.mp hc
    have q := List.all_eq_true.mp ((Array.all_eq_true_iff_forall_mem.mp hF) _ (Array.getElem_mem ha)) i (List.mem_range.mpr hi)
    simpa [Array.getElem?_eq_getElem hi] using q
  obtain ⟨i0, ei0⟩ := is_v hg1
  obtain rfl : w0 = (.int i0) := Option.some.inj ei0
  obtain ⟨i1, ei1⟩ := is_v hg2
  obtain rfl : w1 = (.int i1) := Option.some.inj ei1
  obtain ⟨i2, ei2⟩ := is_v hg3
  obtain rfl : w2 = (.int i2) := Option.some.inj ei2
  obtain ⟨n, o, h1, h2, h3, _, L, rfl, ⟨rfl, N⟩, hq⟩ := rm_law l s _ hw tables_1 i0 i1 i2 s.heap s.heap.size (Nat.le_refl _) p e ha hc hk s m _ below hf ((Spec.applies_iff_loose hf).mp happ).1 ⟨rfl, State.Warmed39.refl s, rfl⟩ trivial
  refine ⟨n, _, h1, h2, h3, hpost _ _ _ _ _ _ ⟨Cond.after_iff.mpr rfl, Cond.after_iff.mpr (eq_i res_at (Term.int_eval (1)) rfl), trivial⟩ ⟨hq.1, hq.2.1, (hq.2.2.sift fun y hy => Or.inr (N y hy)).mono (by decide) (by decide)⟩⟩
theorem main_1_1 : Claimed_1_1 := comes_1 fun _ _ _ _ _ _ h hF => ⟨h.1, hF⟩
theorem main_1_2 : Claimed_1_2 := comes_1 fun _ _ _ _ _ _ h hF => ⟨h.2.1, hF⟩
end Jvm.Pilot.@@N@@
namespace Jvm.Pilot.@@N@@
open Jvm Jvm.ClassFile Sem Op Lib Jvm.Free Jvm.Stand Jvm.Pilot.@@N@@.Jvm.D
/-! MADE BY PROGRAM (witnessworld.py) out of the Statement's table words and the real class files: 9 classes; the members and pool entries that the words name. The judged class is class 1, her method 1. -/
namespace start1
open Jvm.ClassFile
def u (s : String) : CpInfo := .utf8 (stringToUtf16 s)
/-- a pool by its gaps: so many unusable entries, then the entry; so many at the end -/
def gap : Nat → List CpInfo → List CpInfo
  | 0, r => r
  | n + 1, r => .unusable :: gap n r
def poolList (es : List (Nat × CpInfo)) (last : Nat) : List CpInfo := es.foldr (fun e r => gap e.1 (e.2 :: r)) (gap last [])
def pool (es : List (Nat × CpInfo)) (last : Nat) : Array CpInfo := ⟨poolList es last⟩
def fileOf (pool : Array CpInfo) (this : Nat) (attrs : Array Attribute := #[]) (ms : Array MethodInfo := #[]) (fl : Nat := 33) (sup : Nat := 0) (ifs : Array Nat := #[]) (fds : Array FieldInfo := #[]) : ClassFile where
  minorVersion := 0
  majorVersion := 65
  constantPool := pool
  accessFlags := fl
  thisClass := this
  superClass := sup
  interfaces := ifs
  fields := fds
  methods := ms
  attributes := attrs
def plain (name : String) (sup : Option ClassId) : Class where
  name := name
  kind := .ordinary
  loader := none
  accessFlags := 33
  super := sup
  interfaces := #[]
  cf := none
  fields := #[]
  methods := #[]
  instanceTypes := #[]
  staticTypes := #[]
  resolved := #[]
  callSites := []
  init := .initialized
  statics := none
  mirror := none

def pool0 : Array CpInfo := pool [(5, u "<init>"), (0, u "()V"), (1, .class_ 10), (1, u "java/lang/Object")] 113

def k0m0 : Method := { name := "<init>", desc := "()V", sig := { parameters := [], returnType := none }, accessFlags := 1, code := none }
/-- java/lang/Object -/
def k0 : Class := { plain "java/lang/Object" none with
  accessFlags := 33
  interfaces := #[]
  cf := some (fileOf pool0 8 #[] #[{ accessFlags := 1, nameIndex := 5, descriptorIndex := 6, attributes := #[] }] 33 0 #[] #[])
  fields := #[]
  methods := #[k0m0]
  instanceTypes := #[]
  staticTypes := #[]
  resolved := Array.replicate 124 none
  statics := none }

def pool1 : Array CpInfo := pool [(2, .class_ 4), (1, u "java/lang/Object"), (0, u "<init>"), (0, u "()V"), (0, .double 4656722014701092864), (1, .methodref 10 11), (0, .class_ 12), (0, .nameAndType 13 14), (0, u "com/example/rensou/rensou/search/Subspace"), (0, u "squaredTerm"), (0, u "(DDD)D"), (0, .double 4805340802404319232), (1, .class_ 18), (0, u "com/example/rensou/rensou/search/SubspaceSquaredTermPinLaw"), (2, u "law"), (0, u "(III)Z")] 3

def k1m0 : Method := { name := "<init>", desc := "()V", sig := { parameters := [], returnType := none }, accessFlags := 1, code := none }
def k1c1 : Code := { maxStack := 6, maxLocals := 18, code := code, exceptionTable := #[], attributes := #[] }
def k1m1 : Method := { name := "law", desc := "(III)Z", sig := { parameters := [.int, .int, .int], returnType := some .boolean }, accessFlags := 9, code := some k1c1 }
/-- com/example/rensou/rensou/search/SubspaceSquaredTermPinLaw -/
def k1 : Class := { plain "com/example/rensou/rensou/search/SubspaceSquaredTermPinLaw" (some 0) with
  accessFlags := 49
  interfaces := #[]
  cf := some (fileOf pool1 17 #[] #[{ accessFlags := 1, nameIndex := 5, descriptorIndex := 6, attributes := #[] }, { accessFlags := 9, nameIndex := 21, descriptorIndex := 22, attributes := #[] }] 49 2 #[] #[])
  fields := #[]
  methods := #[k1m0, k1m1]
  instanceTypes := #[]
  staticTypes := #[]
  resolved := Array.replicate 26 none
  statics := none }

def pool2 : Array CpInfo := pool [(2, .class_ 4), (1, u "java/lang/Object"), (3, .class_ 10), (1, u "com/example/rensou/rensou/search/Subspace"), (0, u "axes"), (0, u "[I"), (2, u "weights"), (0, u "[D"), (2, u "termAxes"), (2, u "termWeights"), (2, u "termExpected"), (2, u "spaceWeights"), (8, u "weightsLength"), (0, u "D"), (2, u "leadingAxis"), (0, u "I"), (2, u "leadingWeight"), (4, u "otherOrderShrink"), (52, u "squaredTerm"), (0, u "(DDD)D"), (13, u "PULL")] 51

def k2c0 : Code := { maxStack := 6, maxLocals := 8, code := prog_107_method_16_code, exceptionTable := #[], attributes := #[] }
def k2m0 : Method := { name := "squaredTerm", desc := "(DDD)D", sig := { parameters := [.double, .double, .double], returnType := some .double }, accessFlags := 8, code := some k2c0 }
/-- com/example/rensou/rensou/search/Subspace -/
def k2 : Class := { plain "com/example/rensou/rensou/search/Subspace" (some 0) with
  accessFlags := 48
  interfaces := #[]
  cf := some (fileOf pool2 8 #[] #[{ accessFlags := 8, nameIndex := 103, descriptorIndex := 104, attributes := #[] }] 48 2 #[] #[{ accessFlags := 26, nameIndex := 118, descriptorIndex := 38, attributes := #[] }, { accessFlags := 18, nameIndex := 11, descriptorIndex := 12, attributes := #[] }, { accessFlags := 18, nameIndex := 15, descriptorIndex := 16, attributes := #[] }, { accessFlags := 18, nameIndex := 19, descriptorIndex := 12, attributes := #[] }, { accessFlags := 18, nameIndex := 22, descriptorIndex := 16, attributes := #[] }, { accessFlags := 18, nameIndex := 25, descriptorIndex := 16, attributes := #[] }, { accessFlags := 18, nameIndex := 28, descriptorIndex := 16, attributes := #[] }, { accessFlags := 18, nameIndex := 37, descriptorIndex := 38, attributes := #[] }, { accessFlags := 18, nameIndex := 41, descriptorIndex := 42, attributes := #[] }, { accessFlags := 18, nameIndex := 45, descriptorIndex := 38, attributes := #[] }, { accessFlags := 18, nameIndex := 50, descriptorIndex := 38, attributes := #[] }])
  fields := #[{ name := "PULL", type := .double, accessFlags := 26, slot := 0, constantValue := 0 }, { name := "axes", type := (.array .int), accessFlags := 18, slot := 0, constantValue := 0 }, { name := "weights", type := (.array .double), accessFlags := 18, slot := 1, constantValue := 0 }, { name := "termAxes", type := (.array .int), accessFlags := 18, slot := 2, constantValue := 0 }, { name := "termWeights", type := (.array .double), accessFlags := 18, slot := 3, constantValue := 0 }, { name := "termExpected", type := (.array .double), accessFlags := 18, slot := 4, constantValue := 0 }, { name := "spaceWeights", type := (.array .double), accessFlags := 18, slot := 5, constantValue := 0 }, { name := "weightsLength", type := .double, accessFlags := 18, slot := 6, constantValue := 0 }, { name := "leadingAxis", type := .int, accessFlags := 18, slot := 7, constantValue := 0 }, { name := "leadingWeight", type := .double, accessFlags := 18, slot := 8, constantValue := 0 }, { name := "otherOrderShrink", type := .double, accessFlags := 18, slot := 9, constantValue := 0 }]
  methods := #[k2m0]
  instanceTypes := #[(.array .int), (.array .double), (.array .int), (.array .double), (.array .double), (.array .double), .double, .int, .double, .double]
  staticTypes := #[.double]
  resolved := Array.replicate 170 none
  statics := none }

def pool3 : Array CpInfo := pool [(1, u "java/lang/Cloneable"), (0, .class_ 1), (0, u "java/lang/Object"), (0, .class_ 3)] 3

/-- java/lang/Cloneable -/
def k3 : Class := { plain "java/lang/Cloneable" (some 0) with
  accessFlags := 1537
  interfaces := #[]
  cf := some (fileOf pool3 2 #[] #[] 1537 4 #[] #[])
  fields := #[]
  methods := #[]
  instanceTypes := #[]
  staticTypes := #[]
  resolved := Array.replicate 8 none
  statics := none }

def pool4 : Array CpInfo := pool [(1, u "java/io/Serializable"), (0, .class_ 1), (0, u "java/lang/Object"), (0, .class_ 3)] 3

/-- java/io/Serializable -/
def k4 : Class := { plain "java/io/Serializable" (some 0) with
  accessFlags := 1537
  interfaces := #[]
  cf := some (fileOf pool4 2 #[] #[] 1537 4 #[] #[])
  fields := #[]
  methods := #[]
  instanceTypes := #[]
  staticTypes := #[]
  resolved := Array.replicate 8 none
  statics := none }

/-- the primitive byte -/
def k5 : Class := { plain "byte" none with kind := .primitive 'B', accessFlags := 0x411 }
/-- [B -/
def k6 : Class := { plain "[B" (some 0) with kind := .array 5 .byte, interfaces := #[3, 4], accessFlags := 1041 }

/-- the primitive int -/
def k7 : Class := { plain "int" none with kind := .primitive 'I', accessFlags := 0x411 }
/-- [I -/
def k8 : Class := { plain "[I" (some 0) with kind := .array 7 .int, interfaces := #[3, 4], accessFlags := 1041 }

def heap : Heap := #[]
def classes : Array Class := #[k0, k1, k2, k3, k4, k5, k6, k7, k8]
def interned : List (Array UInt16 × Addr) := []
def slotsUsed : Nat := 0
def theMethod : MethodId := ⟨1, 1⟩
def args0 : Array Value := #[.int 5, .int 7, .int 9]
def aboutOver (below : List Frame) : State where
  vm := { classes := classes, interned := interned.toArray }
  heap := heap
  slotsUsed := slotsUsed
  threads := #[{ frames := .invoking theMethod args0 :: below }]
def below0 : List Frame := [.native { method := ⟨0, 0⟩, args := #[] }]
def about1 : State := aboutOver below0
def p0 : Program := .bare "" "" ""
def e0 : Env := launch0.env 0 0 0
theorem w_frames : about1.frames = Frame.invoking theMethod args0 :: below0 := rfl
set_option maxRecDepth 65536 in
theorem w_args : argsFit about1.vm theMethod args0 = true := by decide +kernel
set_option maxRecDepth 65536 in
theorem w_heap : heapFits about1 = true := by decide +kernel
set_option maxRecDepth 65536 in
theorem w_runnable : about1.curStatus? = some .runnable := by decide +kernel
set_option maxRecDepth 65536 in
theorem w_alone : about1.alone = true := by decide +kernel
set_option maxRecDepth 65536 in
theorem w_named : about1.methodNamed? x = some theMethod := by decide +kernel
set_option maxRecDepth 65536 in
theorem w_hears : about1.hears theMethod below0 = true := by decide +kernel
set_option maxRecDepth 65536 in
theorem w_ripe : about1.ripe theMethod args0 below0 = true := by decide +kernel
theorem w_running : about1.status = .running := rfl
set_option maxRecDepth 65536 in
theorem w_room : about1.hasRoom e0.platform room_1 = true :=
  launch0.hasRoom_least _ room_1 (by decide +kernel) (by decide +kernel) (by decide +kernel) (by decide +kernel) (by decide +kernel) (by decide +kernel)
theorem allAtoms_all (ts : List Jvm.Cond) (a : Array Jvm.Value) (st : Jvm.State) : (allAtoms ts).before a st = ts.all (fun c => c.before a st) := by
  induction ts with
  | nil => rfl
  | cons c t ih =>
    show (Jvm.Cond.and c (allAtoms t)).before a st = _
    rw [Jvm.Cond.before_and, ih, List.all_cons]
def words1 : List Jvm.Cond := Jvm.Cond.code x code maxLocals ret :: tables_1
/-- a 'code' word, met by the world's own term for the bytes: nothing is compared byte by byte -/
theorem code_word {y : MethodName} {bytes : ByteArray} {mx : Nat} {rt : Option FieldType} {a : Array Value} {s : State} {m : MethodId} {meth : Method} {c : Code} (h1 : s.methodNamed? y = some m) (h2 : s.vm.method? m = some meth) (h3 : meth.code = some c) (h4 : c.code = bytes)
    (h5 : (c.maxLocals == mx && c.exceptionTable.isEmpty && decide (c.maxStack ≤ mostOperands) && decide (meth.sig.returnType = rt) && !meth.locks && decide (parseMethodDescriptor y.desc = some meth.sig)) = true) : (Jvm.Cond.code y bytes mx rt).before a s = true := by
  simp only [Bool.and_eq_true, beq_iff_eq, Bool.not_eq_true', decide_eq_true_eq] at h5
  obtain ⟨⟨⟨⟨⟨g1, g2⟩, g3⟩, g4⟩, g5⟩, g6⟩ := h5
  simp [Cond.before, Cond.holds, Cond.value, h1, h2, h3, h4, g1, g2, g3, g4, g5, g6]
def isCode : Jvm.Cond → Bool
  | .code _ _ _ _ => true
  | _ => false
theorem all_split {L : List Jvm.Cond} {P : Jvm.Cond → Bool} (h1 : L.all (fun c => isCode c || P c) = true) (h2 : ∀ c ∈ L.filter isCode, P c = true) : L.all P = true := by
  refine List.all_eq_true.mpr fun c hc => ?_
  have h := List.all_eq_true.mp h1 c hc
  rcases Bool.eq_false_or_eq_true (isCode c) with hi | hi
  · exact h2 c (List.mem_filter.mpr ⟨hc, hi⟩)
  · simpa [hi] using h
set_option maxRecDepth 65536 in
theorem w_c0 : (Jvm.Cond.code x code maxLocals ret).before args0 about1 = true := code_word (m := ⟨1, 1⟩) (meth := k1m1) (c := k1c1) (by decide +kernel) rfl rfl rfl (by decide +kernel)
set_option maxRecDepth 65536 in
theorem w_c1 : (Jvm.Cond.code ({ cls := "com/example/rensou/rensou/search/Subspace", name := "squaredTerm", desc := "(DDD)D" } : Jvm.MethodName) prog_107_method_16_code (8 : Nat) (Option.some Jvm.ClassFile.FieldType.double)).before args0 about1 = true := code_word (m := ⟨2, 0⟩) (meth := k2m0) (c := k2c0) (by decide +kernel) rfl rfl rfl (by decide +kernel)
def codes1 : List Jvm.Cond := [Jvm.Cond.code x code maxLocals ret, Jvm.Cond.code ({ cls := "com/example/rensou/rensou/search/Subspace", name := "squaredTerm", desc := "(DDD)D" } : Jvm.MethodName) prog_107_method_16_code (8 : Nat) (Option.some Jvm.ClassFile.FieldType.double)]
set_option maxRecDepth 65536 in
theorem codes_eq : words1.filter isCode = codes1 := rfl
theorem w_codes : ∀ c ∈ words1.filter isCode, c.before args0 about1 = true := by
  rw [codes_eq]
  intro c hc
  simp only [codes1, List.mem_cons, List.not_mem_nil, or_false] at hc
  rcases hc with rfl | rfl
  · exact w_c0
  · exact w_c1
set_option maxRecDepth 65536 in
theorem w_t1 : words1.all (fun c => isCode c || c.before args0 about1) = true := by decide +kernel
theorem w_tables : (allAtoms (Jvm.Cond.code x code maxLocals ret :: tables_1)).before args0 about1 = true := by
  rw [allAtoms_all]
  show words1.all (fun c => c.before args0 about1) = true
  refine all_split ?_ w_codes
  rw [w_t1]
set_option maxRecDepth 65536 in
theorem w_case : (Jvm.Cond.and given_1 narrow_1).before args0 about1 = true := by decide +kernel
theorem w_applies : (headSpec (Jvm.Cond.code x code maxLocals ret :: tables_1) room_1).applies x e0.platform about1 = true :=
  (Spec.applies_iff w_frames).mpr ⟨w_running, w_runnable, w_alone, w_named, w_hears, w_ripe, w_room, w_tables⟩
theorem atStart : AtStart classFile x code maxLocals ret World_1 tables_1 room_1 Calls_1 rest_1 Pre_1 launch0 p0 e0 about1 theMethod args0 below0 :=
  ⟨lists_1, trivial, launch0.admits_env _ _ _, launch0.least_env, fairChoices_fair.cas, fairChoices_fair.clock, w_frames, w_args, w_heap, w_applies, trivial, trivial, w_case⟩
end start1
theorem witness_1 : WitnessClaimed_1 := ⟨start1.p0, start1.e0, start1.about1, start1.theMethod, start1.args0, start1.below0, start1.atStart⟩
end Jvm.Pilot.@@N@@
