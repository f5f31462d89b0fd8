import JvmDerived
import JvmDerived.Pilot.@@N@@Statement
import JvmDerived.Pilot.@@N@@Code
set_option linter.unusedVariables false
set_option linter.unusedSimpArgs false
@@BLOCK:NumsL.lean.txt@@
namespace Jvm.RoadKit
open Sem ClassFile Op Lib Jvm.Stand Jvm.Free Jvm.LawKit
section New
variable {p : Program} {l : Launch} {e : Env} {R : Room} {s : State} {m : MethodId} {args : Array Value} {below : List Frame} {meth : Method} {c : Code} {T : State} {locs : List Loc} {cells slots : Nat}
theorem retI (X : Stand p l e R s m args below meth c T locs cells slots) (hx : p.tables.exec = Jvm.exec) {pc : Nat} {Ls : Array Slot} {z : Int32} {rest : List Value} (hret : meth.sig.returnType = some .int) (hd : decode c.code pc = .ok (.ireturn, 1)) {fs : List Frame}
    (hl : ∀ (f : JFrame) (acts : List Action), f.method = m → f.locked = none → f.entered = [] → (doReturn e (T.setTop f) acts (some (.int z))).1 = T.setFrames fs) : Steps p.tables e below (T.setTop (mkF m pc Ls (.int z :: rest))) (T.setFrames fs) := by
  have hm' : T.vm.method? m = some meth := X.method'
  have hn : narrow .int (.int z) = .int z := rfl
  show Steps p.tables e below (T.setTop { method := m, pc := pc, locals := Ls, stack := _ :: rest, locked := none }) _
  jvm_step X.here [X.here.top, hx, hd, hm', hret, hn]
  first | (intro acts; rw [hl _ acts rfl rfl rfl]) | rw [hl _ _ rfl rfl rfl]
  exact Steps.refl _
end New
end Jvm.RoadKit
/- laws to paste: Road.backV (cut by pick.py; bodies as the Statement names them) -/
namespace Jvm.Pilot.@@N@@
namespace StrChars
open Jvm Sem ClassFile Op Lib Jvm.Stand Jvm.Free.XT Jvm.Free.ALB Jvm.Free.JM Jvm.Free
open Jvm.Lib.Cold (StaticIs)
/-- a char array whose places are chars -/
def Ch (a : Addr) (A : Cell) (U : State) : Prop := Arr .char a A U ∧ Typed .char A
theorem Ch.mv {a : Addr} {A : Cell} {U U' : State} (h : Ch a A U) (hal : U.vm.Alike U'.vm) (hh : U'.heap = U.heap) : Ch a A U' := ⟨h.1.mv hal hh, h.2⟩
theorem Ch.keep {a : Addr} {A : Cell} {U U' : State} (h : Ch a A U) (hal : U.vm.Alike U'.vm) (hk : U'.heap[a]? = some A) : Ch a A U' := ⟨h.1.keep hal hk, h.2⟩
/-- what place i of a char[]'s cell holds -/
def cv (A : Cell) (i : Nat) : Int32 := match A.slots[i]? with | some (.int x) => x | _ => 0
theorem Ch.get {a : Addr} {A : Cell} {U : State} (h : Ch a A U) {i : Nat} (hi : i < A.slots.size) : A.slots[i]? = some (.int (cv A i)) := by
  have e := Array.getElem?_eq_getElem hi
  have f := h.2 i _ e
  unfold cv; rw [e]
  generalize A.slots[i] = v at f
  cases v <;> simp [fits] at f ⊢
/-- the byte that i2b leaves of a char -/
def lo8 (x : Int32) : Int32 := x.toInt8.toInt32
theorem fits_lo8 (y : Int32) : fits .byte (.int (lo8 y)) = true := by
  have h1 := y.toInt8.le_toInt
  have h2 := y.toInt8.toInt_lt
  simp only [lo8, fits, Bool.and_eq_true, decide_eq_true_eq, Int32.le_iff_toInt_le, Int8.toInt_toInt32, show (-128 : Int32).toInt = -128 from by decide, show (127 : Int32).toInt = 127 from by decide]
  omega
/-- A' is A but that each place j of lo .. hi - 1 holds f j -/
def Laid (A A' : Cell) (lo hi : Nat) (f : Nat → Value) : Prop := A'.cls = A.cls ∧ A'.vm = A.vm ∧ A'.slots.size = A.slots.size ∧ ∀ i, A'.slots[i]? = if lo ≤ i ∧ i < hi then some (f i) else A.slots[i]?
theorem Laid.zero (A : Cell) (lo : Nat) (f : Nat → Value) : Laid A A lo (lo + 0) f := ⟨rfl, rfl, rfl, fun i => by rw [if_neg (by omega)]⟩
theorem Laid.step {A Ak : Cell} {lo k : Nat} {f : Nat → Value} {v : Value} (h : Laid A Ak lo k f) (hlo : lo ≤ k) (hk : k < Ak.slots.size) (hv : v = f k) : Laid A (Ak.setSlot k v) lo (k + 1) f := by
  refine ⟨h.1, h.2.1, by simpa [Cell.setSlot] using h.2.2.1, fun i => ?_⟩
  by_cases e : k = i
  · subst e; rw [Cell.slots_setSlot_self v hk, if_pos (by omega), hv]
  · rw [Cell.slots_setSlot_ne v e, h.2.2.2 i]
    by_cases q : lo ≤ i ∧ i < k
    · rw [if_pos q, if_pos (by omega)]
    · rw [if_neg q, if_neg (by omega)]
def U16 : String := "java/lang/StringUTF16"
namespace Cmp5
def yN : MethodName := ⟨"java/lang/StringUTF16", "compress", "([CI[BII)I"⟩
abbrev yB : ByteArray := jdk_52_method_21_code
theorem d0 : decode yB 0 = .ok (.iconst 0, 1) := by decide +kernel
theorem d1 : decode yB 1 = .ok (.istore 5, 2) := by decide +kernel
theorem d3 : decode yB 3 = .ok (.iload 5, 2) := by decide +kernel
theorem d5 : decode yB 5 = .ok (.iload 4, 2) := by decide +kernel
theorem d7 : decode yB 7 = .ok (.if_icmp (.ge) 37, 3) := by decide +kernel
theorem d10 : decode yB 10 = .ok (.aload_n 0, 1) := by decide +kernel
theorem d11 : decode yB 11 = .ok (.iload_n 1, 1) := by decide +kernel
theorem d12 : decode yB 12 = .ok (.caload, 1) := by decide +kernel
theorem d13 : decode yB 13 = .ok (.istore 6, 2) := by decide +kernel
theorem d15 : decode yB 15 = .ok (.iload 6, 2) := by decide +kernel
theorem d17 : decode yB 17 = .ok (.sipush 255, 3) := by decide +kernel
theorem d20 : decode yB 20 = .ok (.if_icmp (.le) 6, 3) := by decide +kernel
theorem d26 : decode yB 26 = .ok (.aload_n 2, 1) := by decide +kernel
theorem d27 : decode yB 27 = .ok (.iload_n 3, 1) := by decide +kernel
theorem d28 : decode yB 28 = .ok (.iload 6, 2) := by decide +kernel
theorem d30 : decode yB 30 = .ok (.i2b, 1) := by decide +kernel
theorem d31 : decode yB 31 = .ok (.bastore, 1) := by decide +kernel
theorem d32 : decode yB 32 = .ok (.iinc 1 1, 3) := by decide +kernel
theorem d35 : decode yB 35 = .ok (.iinc 3 1, 3) := by decide +kernel
theorem d38 : decode yB 38 = .ok (.iinc 5 1, 3) := by decide +kernel
theorem d41 : decode yB 41 = .ok (.goto (-38), 3) := by decide +kernel
theorem d44 : decode yB 44 = .ok (.iload 4, 2) := by decide +kernel
theorem d46 : decode yB 46 = .ok (.ireturn, 1) := by decide +kernel
def site : List Cond := []
def tab : Cond := tabOf yN yB 7 (some .int) site
def P (b : Addr) (A : Cell) (d : Addr) (B : Cell) (o q len : Nat) (args : Array Value) (s : State) : Prop := args = #[.ref b, .int (Int32.ofNat o), .ref d, .int (Int32.ofNat q), .int (Int32.ofNat len)] ∧ Ch b A s ∧ Arr .byte d B s ∧ b ≠ d ∧ o + len ≤ A.slots.size ∧ q + len ≤ B.slots.size ∧ ∀ i, i < len → ¬ 255 < cv A (o + i)
def E (b : Addr) (A : Cell) (d : Addr) (B : Cell) (o q len : Nat) (r : Option Value) (s u : State) : Prop := r = some (.int (Int32.ofNat len)) ∧ ∃ B', Put d B' s u ∧ Laid B B' q (q + len) (fun j => Value.int (lo8 (cv A (o + (j - q)))))
/-- no char of the range above 255: len; the places written hold each char's low byte -/
theorem law (l : Launch) (b : Addr) (A : Cell) (d : Addr) (B : Cell) (o q len : Nat) : Law l yN 5 5 0 0 yB 7 (some .int) site (P b A d B o q len) (E b A d B o q len) (copyLocs d q len) 0 0 := by
  refine Law.of_walk (plainFor_of_name (by decide +kernel)) (by decide +kernel) (by decide +kernel) (by decide) (fun _ _ h => by rw [h.1]; rfl) (fun _ U U' hal hh h => ⟨h.1, h.2.1.mv hal hh, h.2.2.1.mv hal hh, h.2.2.2⟩) (fun r U U' V V' h1 hal h2 h => ⟨h.1, h.2.elim fun B' q => ⟨B', q.1.mv h1 h2, q.2⟩⟩) ?_
  intro p e s m args below meth c s₁ X0 hexec hbytes hml hret hlk hnm hown hh0 W hP
  obtain ⟨rfl, hA, hB, hne, l1, l2, hp⟩ := hP
  have c1 : Steps p.tables e below (s₁.setTop (entryFrame m #[.ref b, .int (Int32.ofNat o), .ref d, .int (Int32.ofNat q), .int (Int32.ofNat len)] 7)) (s₁.setTop (mkF m 0 #[.val (.ref b), .val (.int (Int32.ofNat o)), .val (.ref d), .val (.int (Int32.ofNat q)), .val (.int (Int32.ofNat len)), .unset, .unset] [])) := entry rfl
  have hA0 := hA.1.mv X0.warmed.alike hh0
  have hB0 := hB.mv X0.warmed.alike hh0
  have a31 := hA.1.2.2.2
  have c2 : Steps p.tables e below (s₁.setTop (entryFrame m #[.ref b, .int (Int32.ofNat o), .ref d, .int (Int32.ofNat q), .int (Int32.ofNat len)] 7)) (s₁.setTop (mkF m 3 #[.val (.ref b), .val (.int (Int32.ofNat o)), .val (.ref d), .val (.int (Int32.ofNat q)), .val (.int (Int32.ofNat len)), .val (.int 0), .unset] [])) := c1.trans (by
    refine iconstV X0.here hexec rfl 0 (hb hbytes d0) (by decide) ?_
    refine XS.istore X0.here hexec rfl (hb hbytes d1) rfl rfl ?_
    exact Steps.refl _)
  have loop : ∀ (r i : Nat), i + r = len → ∀ (z : Slot), (z = .unset ∨ ∃ w, z = .val w ∧ w.category = 1) → ∀ (Tl : State) (Bk : Cell), Stand p l e { frames := 0, locals := 0, cells := 0, slots := 0 } s m #[.ref b, .int (Int32.ofNat o), .ref d, .int (Int32.ofNat q), .int (Int32.ofNat len)] below meth c Tl ([] ++ copyLocs d q i) 0 0 → Put d Bk s₁ Tl → Laid B Bk q (q + i) (fun j => Value.int (lo8 (cv A (o + (j - q))))) →
      Steps p.tables e below (s₁.setTop (entryFrame m #[.ref b, .int (Int32.ofNat o), .ref d, .int (Int32.ofNat q), .int (Int32.ofNat len)] 7)) (Tl.setTop (mkF m 3 #[.val (.ref b), .val (.int (Int32.ofNat (o + i))), .val (.ref d), .val (.int (Int32.ofNat (q + i))), .val (.int (Int32.ofNat len)), .val (.int (Int32.ofNat i)), z] [])) → ∃ (T' : State) (B' : Cell) (z' : Slot), Stand p l e { frames := 0, locals := 0, cells := 0, slots := 0 } s m #[.ref b, .int (Int32.ofNat o), .ref d, .int (Int32.ofNat q), .int (Int32.ofNat len)] below meth c T' ([] ++ copyLocs d q len) 0 0 ∧ Put d B' s₁ T' ∧ Laid B B' q (q + len) (fun j => Value.int (lo8 (cv A (o + (j - q))))) ∧
      Steps p.tables e below (s₁.setTop (entryFrame m #[.ref b, .int (Int32.ofNat o), .ref d, .int (Int32.ofNat q), .int (Int32.ofNat len)] 7)) (T'.setTop (mkF m 3 #[.val (.ref b), .val (.int (Int32.ofNat (o + len))), .val (.ref d), .val (.int (Int32.ofNat (q + len))), .val (.int (Int32.ofNat len)), .val (.int (Int32.ofNat len)), z'] [])) := by
    intro r
    induction r with
    | zero =>
      intro i hi z hz Tl Bk Xl pl fl cl
      have hil : i = len := by omega
      rw [hil] at Xl fl cl
      exact ⟨Tl, Bk, z, Xl, pl, fl, cl⟩
    | succ r ih =>
      intro i hi z hz Tl Bk Xl pl fl cl
      have all := X0.warmed.alike.symm.trans Xl.warmed.alike
      have hAl := hA0.keep all (pl.other hne hA0.1)
      have hBk := hB0.like all pl.1 fl.1 fl.2.1 fl.2.2.1
      have hlt : q + i < Bk.slots.size := by rw [fl.2.2.1]; omega
      have c3 : Steps p.tables e below (s₁.setTop (entryFrame m #[.ref b, .int (Int32.ofNat o), .ref d, .int (Int32.ofNat q), .int (Int32.ofNat len)] 7)) (Tl.setTop (mkF m 12 #[.val (.ref b), .val (.int (Int32.ofNat (o + i))), .val (.ref d), .val (.int (Int32.ofNat (q + i))), .val (.int (Int32.ofNat len)), .val (.int (Int32.ofNat i)), z] [.int (Int32.ofNat (o + i)), .ref b])) := cl.trans (by
        refine XS.iload Xl.here hexec rfl (hb hbytes d3) rfl ?_
        refine XS.iload Xl.here hexec rfl (hb hbytes d5) rfl ?_
        refine XS.icmpNo Xl.here hexec rfl (hb hbytes d7) rfl (ii_ge_f (lt32 (by omega) (by omega))) ?_
        refine XS.aloadN Xl.here hexec rfl (hb hbytes d10) rfl rfl ?_
        refine XS.iloadN Xl.here hexec rfl (hb hbytes d11) rfl ?_
        exact Steps.refl _)
      have c4 : Steps p.tables e below (s₁.setTop (entryFrame m #[.ref b, .int (Int32.ofNat o), .ref d, .int (Int32.ofNat q), .int (Int32.ofNat len)] 7)) (Tl.setTop (mkF m 13 #[.val (.ref b), .val (.int (Int32.ofNat (o + i))), .val (.ref d), .val (.int (Int32.ofNat (q + i))), .val (.int (Int32.ofNat len)), .val (.int (Int32.ofNat i)), z] [.int (cv A (o + i))])) := c3.trans (by
        refine Xl.aget hexec hAl rfl (hA.get (i := o + i) (by omega)) rfl rfl (hb hbytes d12) ?_
        exact Steps.refl _)
      have c5 : Steps p.tables e below (s₁.setTop (entryFrame m #[.ref b, .int (Int32.ofNat o), .ref d, .int (Int32.ofNat q), .int (Int32.ofNat len)] 7)) (Tl.setTop (mkF m 15 #[.val (.ref b), .val (.int (Int32.ofNat (o + i))), .val (.ref d), .val (.int (Int32.ofNat (q + i))), .val (.int (Int32.ofNat len)), .val (.int (Int32.ofNat i)), .val (.int (cv A (o + i)))] [])) := c4.trans (by
        refine XS.istoreS Xl.here hexec rfl (hb hbytes d13) rfl rfl hz ?_
        exact Steps.refl _)
      have c6 : Steps p.tables e below (s₁.setTop (entryFrame m #[.ref b, .int (Int32.ofNat o), .ref d, .int (Int32.ofNat q), .int (Int32.ofNat len)] 7)) (Tl.setTop (mkF m 31 #[.val (.ref b), .val (.int (Int32.ofNat (o + i))), .val (.ref d), .val (.int (Int32.ofNat (q + i))), .val (.int (Int32.ofNat len)), .val (.int (Int32.ofNat i)), .val (.int (cv A (o + i)))] [.int (lo8 (cv A (o + i))), .int (Int32.ofNat (q + i)), .ref d])) := c5.trans (by
        refine XS.iload Xl.here hexec rfl (hb hbytes d15) rfl ?_
        refine sipushV Xl.here hexec rfl 255 (hb hbytes d17) (by decide) ?_
        refine XS.icmpYes Xl.here hexec rfl (pc0 := 20) rfl (hb hbytes d20) rfl (ii_le_t (hp i (by omega))) (by decide) rfl ?_
        refine XS.aloadN Xl.here hexec rfl (hb hbytes d26) rfl rfl ?_
        refine XS.iloadN Xl.here hexec rfl (hb hbytes d27) rfl ?_
        refine XS.iload Xl.here hexec rfl (hb hbytes d28) rfl ?_
        refine i2b Xl.here hexec rfl (hb hbytes d30) rfl ?_
        exact Steps.refl _)
      obtain ⟨T7, X7, p7, st7⟩ := Xl.aput hexec hBk rfl hlt rfl (fits_lo8 (cv A (o + i))) (g := (mkF m 31 #[.val (.ref b), .val (.int (Int32.ofNat (o + i))), .val (.ref d), .val (.int (Int32.ofNat (q + i))), .val (.int (Int32.ofNat len)), .val (.int (Int32.ofNat i)), .val (.int (cv A (o + i)))] [.int (lo8 (cv A (o + i))), .int (Int32.ofNat (q + i)), .ref d])) rfl (rest := []) rfl (hb hbytes d31)
      have c8 : Steps p.tables e below (s₁.setTop (entryFrame m #[.ref b, .int (Int32.ofNat o), .ref d, .int (Int32.ofNat q), .int (Int32.ofNat len)] 7)) (T7.setTop (mkF m 32 #[.val (.ref b), .val (.int (Int32.ofNat (o + i))), .val (.ref d), .val (.int (Int32.ofNat (q + i))), .val (.int (Int32.ofNat len)), .val (.int (Int32.ofNat i)), .val (.int (cv A (o + i)))] [])) := c6.trans (st7 _ (Steps.refl _))
      have c9 : Steps p.tables e below (s₁.setTop (entryFrame m #[.ref b, .int (Int32.ofNat o), .ref d, .int (Int32.ofNat q), .int (Int32.ofNat len)] 7)) (T7.setTop (mkF m 3 #[.val (.ref b), .val (.int (Int32.ofNat (o + i) + 1)), .val (.ref d), .val (.int (Int32.ofNat (q + i) + 1)), .val (.int (Int32.ofNat len)), .val (.int (Int32.ofNat i + 1)), .val (.int (cv A (o + i)))] [])) := c8.trans (by
        refine iincV X7.here hexec rfl 1 (hb hbytes d32) (by decide) rfl rfl ?_
        refine iincV X7.here hexec rfl 1 (hb hbytes d35) (by decide) rfl rfl ?_
        refine iincV X7.here hexec rfl 1 (hb hbytes d38) (by decide) rfl rfl ?_
        refine XS.goto X7.here hexec rfl (pc0 := 41) rfl (hb hbytes d41) (by decide) rfl ?_
        exact Steps.refl _)
      have c10 : Steps p.tables e below (s₁.setTop (entryFrame m #[.ref b, .int (Int32.ofNat o), .ref d, .int (Int32.ofNat q), .int (Int32.ofNat len)] 7)) (T7.setTop (mkF m 3 #[.val (.ref b), .val (.int (Int32.ofNat (o + (i + 1)))), .val (.ref d), .val (.int (Int32.ofNat (q + (i + 1)))), .val (.int (Int32.ofNat len)), .val (.int (Int32.ofNat (i + 1))), .val (.int (cv A (o + i)))] [])) := by
        have := c9
        rw [succ32, succ32, succ32] at this
        exact this
      exact ih (i + 1) (by omega) _ (Or.inr ⟨_, rfl, rfl⟩) T7 _ (by rw [copyLocs_step, ← List.append_assoc]; exact X7) (pl.trans p7) (fl.step (by omega) hlt (by simp)) c10
  obtain ⟨T9, B9, z9, X9, p9, f9, g9⟩ := loop len 0 (by omega) .unset (Or.inl rfl) s₁ B (by simpa [copyLocs] using X0) ⟨hB0.1, fun _ _ => rfl, rfl⟩ (Laid.zero _ _ _) c2
  have c11 : Steps p.tables e below (s₁.setTop (entryFrame m #[.ref b, .int (Int32.ofNat o), .ref d, .int (Int32.ofNat q), .int (Int32.ofNat len)] 7)) (T9.setTop (mkF m 46 #[.val (.ref b), .val (.int (Int32.ofNat (o + len))), .val (.ref d), .val (.int (Int32.ofNat (q + len))), .val (.int (Int32.ofNat len)), .val (.int (Int32.ofNat len)), z9] [.int (Int32.ofNat len)])) := g9.trans (by
    refine XS.iload X9.here hexec rfl (hb hbytes d3) rfl ?_
    refine XS.iload X9.here hexec rfl (hb hbytes d5) rfl ?_
    refine XS.icmpYes X9.here hexec rfl (pc0 := 7) rfl (hb hbytes d7) rfl (ii_ge_t (nlt32 (by omega) (Nat.le_refl _))) (by decide) rfl ?_
    refine XS.iload X9.here hexec rfl (hb hbytes d44) rfl ?_
    exact Steps.refl _)
  exact ⟨T9, some (.int (Int32.ofNat len)), _, _, _, X9, by simp, rfl, rfl, (fun h => by cases h), ⟨rfl, B9, p9.from hh0, f9⟩, fun fs hl => c11.trans (X9.ireturnOut hexec hret rfl (Or.inl rfl) (hb hbytes d46) hl)⟩
end Cmp5
namespace Cmp3
def yN : MethodName := ⟨"java/lang/StringUTF16", "compress", "([CII)[B"⟩
abbrev yB : ByteArray := jdk_52_method_16_code
theorem d0 : decode yB 0 = .ok (.iload_n 2, 1) := by decide +kernel
theorem d1 : decode yB 1 = .ok (.newarray .byte, 2) := by decide +kernel
theorem d3 : decode yB 3 = .ok (.astore_n 3, 1) := by decide +kernel
theorem d4 : decode yB 4 = .ok (.aload_n 0, 1) := by decide +kernel
theorem d5 : decode yB 5 = .ok (.iload_n 1, 1) := by decide +kernel
theorem d6 : decode yB 6 = .ok (.aload_n 3, 1) := by decide +kernel
theorem d7 : decode yB 7 = .ok (.iconst 0, 1) := by decide +kernel
theorem d8 : decode yB 8 = .ok (.iload_n 2, 1) := by decide +kernel
theorem d9 : decode yB 9 = .ok (.invokestatic 115, 3) := by decide +kernel
theorem d12 : decode yB 12 = .ok (.istore 4, 2) := by decide +kernel
theorem d14 : decode yB 14 = .ok (.iload 4, 2) := by decide +kernel
theorem d16 : decode yB 16 = .ok (.iload_n 2, 1) := by decide +kernel
theorem d17 : decode yB 17 = .ok (.if_icmp (.eq) 40, 3) := by decide +kernel
theorem d57 : decode yB 57 = .ok (.aload_n 3, 1) := by decide +kernel
theorem d58 : decode yB 58 = .ok (.areturn, 1) := by decide +kernel
def site : List Cond := [.arrayClass .byte, Cmp5.tab] ++ staticW U16 115 Cmp5.yN
def tab : Cond := tabOf yN yB 6 (some (.array .byte)) site
def P (b : Addr) (A : Cell) (o len : Nat) (args : Array Value) (s : State) : Prop := args = #[.ref b, .int (Int32.ofNat o), .int (Int32.ofNat len)] ∧ Ch b A s ∧ o + len ≤ A.slots.size ∧ len ≤ 536870912 ∧ ∀ i, i < len → ¬ 255 < cv A (o + i)
def E (b : Addr) (A : Cell) (o len : Nat) (r : Option Value) (s u : State) : Prop := NewArr .byte "[B" len (fun j => .int (lo8 (cv A (o + j)))) r s u ∧ u.heap.size = s.heap.size + 1
/-- no char of the range above 255: a new byte[] of their low bytes -/
theorem law (l : Launch) (b : Addr) (A : Cell) (o len : Nat) : Law l yN 3 3 1 18 yB 6 (some (.array .byte)) site (P b A o len) (E b A o len) [] 1 len := by
  refine Law.of_walk (plainFor_of_name (by decide +kernel)) (by decide +kernel) (by decide +kernel) (by decide) (fun _ _ h => by rw [h.1]; rfl) (fun _ U U' hal hh h => ⟨h.1, h.2.1.mv hal hh, h.2.2⟩) (fun r U U' V V' h1 hal h2 h => ⟨NewArr.mv r U U' V V' h1 hal h2 h.1, by rw [h1, h2]; exact h.2⟩) ?_
  intro p e s m args below meth c s₁ X0 hexec hbytes hml hret hlk hnm hown hh0 W hP
  obtain ⟨rfl, hA, l1, l2, hp⟩ := hP
  have a31 := hA.1.2.2.2
  have c1 : Steps p.tables e below (s₁.setTop (entryFrame m #[.ref b, .int (Int32.ofNat o), .int (Int32.ofNat len)] 6)) (s₁.setTop (mkF m 0 #[.val (.ref b), .val (.int (Int32.ofNat o)), .val (.int (Int32.ofNat len)), .unset, .unset, .unset] [])) := entry rfl
  have c2 : Steps p.tables e below (s₁.setTop (entryFrame m #[.ref b, .int (Int32.ofNat o), .int (Int32.ofNat len)] 6)) (s₁.setTop (mkF m 1 #[.val (.ref b), .val (.int (Int32.ofNat o)), .val (.int (Int32.ofNat len)), .unset, .unset, .unset] [.int (Int32.ofNat len)])) := c1.trans (by
    refine XS.iloadN X0.here hexec rfl (hb hbytes d0) rfl ?_
    exact Steps.refl _)
  obtain ⟨T3, B3, X3, ba3, bs3, bv3, bh3, bf3, st3⟩ := X0.anew hexec (atype := .byte) (wk W (.arrayClass .byte)) rfl (by show len * 1 ≤ _; omega) (by omega) (g := (mkF m 1 #[.val (.ref b), .val (.int (Int32.ofNat o)), .val (.int (Int32.ofNat len)), .unset, .unset, .unset] [.int (Int32.ofNat len)])) rfl (hb hbytes d1) (rest := []) rfl (Nat.le_refl _) (by show 0 + len ≤ len; omega)
  rw [hh0] at ba3 st3
  have kp3 : XT.Kept s T3 := (XT.Kept.of_eq hh0).push bh3
  have hA3 := hA.keep X3.warmed.alike (kp3 _ _ hA.1.1)
  have hne : b ≠ s.heap.size := hA.1.ne
  have c4 : Steps p.tables e below (s₁.setTop (entryFrame m #[.ref b, .int (Int32.ofNat o), .int (Int32.ofNat len)] 6)) (T3.setTop (mkF m 3 #[.val (.ref b), .val (.int (Int32.ofNat o)), .val (.int (Int32.ofNat len)), .unset, .unset, .unset] [.ref s.heap.size])) := c2.trans (st3 _ (Steps.refl _))
  have c5 : Steps p.tables e below (s₁.setTop (entryFrame m #[.ref b, .int (Int32.ofNat o), .int (Int32.ofNat len)] 6)) (T3.setTop (mkF m 9 #[.val (.ref b), .val (.int (Int32.ofNat o)), .val (.int (Int32.ofNat len)), .val (.ref s.heap.size), .unset, .unset] [.int (Int32.ofNat len), .int 0, .ref s.heap.size, .int (Int32.ofNat o), .ref b])) := c4.trans (by
    refine XS.astoreN X3.here hexec rfl (hb hbytes d3) rfl rfl rfl ?_
    refine XS.aloadN X3.here hexec rfl (hb hbytes d4) rfl rfl ?_
    refine XS.iloadN X3.here hexec rfl (hb hbytes d5) rfl ?_
    refine XS.aloadN X3.here hexec rfl (hb hbytes d6) rfl rfl ?_
    refine iconstV X3.here hexec rfl 0 (hb hbytes d7) (by decide) ?_
    refine XS.iloadN X3.here hexec rfl (hb hbytes d8) rfl ?_
    exact Steps.refl _)
  obtain ⟨v6, T6, X6, E6, g6⟩ := X3.callS hexec (Cmp5.law l b A s.heap.size B3 o 0 len) hown (wks W (staticW U16 115 Cmp5.yN)) (wk W Cmp5.tab) (W := 0) (Nat.le_of_ble_eq_true rfl) (Nat.le_of_ble_eq_true rfl) (Nat.le_refl _) (by show 0 + len + 0 ≤ len; omega) (g := (mkF m 9 #[.val (.ref b), .val (.int (Int32.ofNat o)), .val (.int (Int32.ofNat len)), .val (.ref s.heap.size), .unset, .unset] [.int (Int32.ofNat len), .int (Int32.ofNat 0), .ref s.heap.size, .int (Int32.ofNat o), .ref b])) rfl (by rw [hml]; rfl) c5 (argsL := [.ref b, .int (Int32.ofNat o), .ref s.heap.size, .int (Int32.ofNat 0), .int (Int32.ofNat len)]) (rest := []) rfl rfl (by show 2 * 0 + 0 ≤ _; decide) (hb hbytes d9) (⟨rfl, hA3, ba3, hne, l1, by rw [bs3]; simp, hp⟩)
  obtain ⟨rfl, B6, p6, f6⟩ := E6
  have c7 : Steps p.tables e below (s₁.setTop (entryFrame m #[.ref b, .int (Int32.ofNat o), .int (Int32.ofNat len)] 6)) (T6.setTop (mkF m 12 #[.val (.ref b), .val (.int (Int32.ofNat o)), .val (.int (Int32.ofNat len)), .val (.ref s.heap.size), .unset, .unset] [.int (Int32.ofNat len)])) := g6
  have c8 : Steps p.tables e below (s₁.setTop (entryFrame m #[.ref b, .int (Int32.ofNat o), .int (Int32.ofNat len)] 6)) (T6.setTop (mkF m 58 #[.val (.ref b), .val (.int (Int32.ofNat o)), .val (.int (Int32.ofNat len)), .val (.ref s.heap.size), .val (.int (Int32.ofNat len)), .unset] [.ref s.heap.size])) := c7.trans (by
    refine XS.istore X6.here hexec rfl (hb hbytes d12) rfl rfl ?_
    refine XS.iload X6.here hexec rfl (hb hbytes d14) rfl ?_
    refine XS.iloadN X6.here hexec rfl (hb hbytes d16) rfl ?_
    refine XS.icmpYes X6.here hexec rfl (pc0 := 17) rfl (hb hbytes d17) rfl (ii_eq_t rfl) (by decide) rfl ?_
    refine XS.aloadN X6.here hexec rfl (hb hbytes d57) rfl rfl ?_
    exact Steps.refl _)
  have X8 := X6.wide (L' := []) (cells' := 1) (slots' := len) (fun x hx hlt => by
    simp only [List.nil_append, copyLocs, List.mem_map, List.mem_range] at hx
    obtain ⟨i, -, rfl⟩ := hx
    exact absurd hlt (Nat.lt_irrefl _)) (Nat.le_refl _) (by omega)
  exact ⟨T6, some (.ref s.heap.size), _, _, _, X8, rfl, rfl, rfl, (fun h => by cases h), ⟨⟨rfl, B6, ba3.like (X3.warmed.alike.symm.trans X6.warmed.alike) p6.1 f6.1 f6.2.1 f6.2.2.1, f6.2.1.trans bv3, by rw [X6.warmed.alike.findClass, f6.1]; exact bf3, by rw [f6.2.2.1, bs3]; simp, fun j hj => by rw [f6.2.2.2 j, if_pos (by omega)]; rfl, kp3.put p6 (Nat.le_refl _)⟩, by rw [p6.2.2, bh3, hh0]; simp⟩, fun fs hl => c8.trans (X8.areturnOut hexec rfl hret rfl (hb hbytes d58) hl)⟩
end Cmp3
namespace CodL
def yN : MethodName := ⟨"java/lang/StringUTF16", "coderFromArrayLen", "([BI)B"⟩
abbrev yB : ByteArray := jdk_52_method_15_code
theorem d0 : decode yB 0 = .ok (.iload_n 1, 1) := by decide +kernel
theorem d1 : decode yB 1 = .ok (.aload_n 0, 1) := by decide +kernel
theorem d2 : decode yB 2 = .ok (.arraylength, 1) := by decide +kernel
theorem d3 : decode yB 3 = .ok (.isub, 1) := by decide +kernel
theorem d4 : decode yB 4 = .ok (.bipush 31, 2) := by decide +kernel
theorem d6 : decode yB 6 = .ok (.iushr, 1) := by decide +kernel
theorem d7 : decode yB 7 = .ok (.i2b, 1) := by decide +kernel
theorem d8 : decode yB 8 = .ok (.ireturn, 1) := by decide +kernel
def site : List Cond := []
def tab : Cond := tabOf yN yB 2 (some .byte) site
def P (d : Addr) (B : Cell) (args : Array Value) (s : State) : Prop := args = #[.ref d, .int (Int32.ofNat B.slots.size)] ∧ Arr .byte d B s
def E (r : Option Value) (s u : State) : Prop := XT.PureE (some (.int 0)) r s u
/-- an array as long as the number of chars: LATIN1 -/
theorem law (l : Launch) (d : Addr) (B : Cell) : Law l yN 2 2 0 0 yB 2 (some .byte) site (P d B) E [] 0 0 := by
  refine Law.of_walk (plainFor_of_name (by decide +kernel)) (by decide +kernel) (by decide +kernel) (by decide) (fun _ _ h => by rw [h.1]; rfl) (fun _ U U' hal hh h => ⟨h.1, h.2.mv hal hh⟩) (fun r U U' V V' h1 hal h2 h => XT.PureE.mv r U U' V V' h1 hal h2 h) ?_
  intro p e s m args below meth c s₁ X0 hexec hbytes hml hret hlk hnm hown hh0 W hP
  obtain ⟨rfl, hB⟩ := hP
  have hB0 := hB.mv X0.warmed.alike hh0
  have c1 : Steps p.tables e below (s₁.setTop (entryFrame m #[.ref d, .int (Int32.ofNat B.slots.size)] 2)) (s₁.setTop (mkF m 0 #[.val (.ref d), .val (.int (Int32.ofNat B.slots.size))] [])) := entry rfl
  have c2 : Steps p.tables e below (s₁.setTop (entryFrame m #[.ref d, .int (Int32.ofNat B.slots.size)] 2)) (s₁.setTop (mkF m 2 #[.val (.ref d), .val (.int (Int32.ofNat B.slots.size))] [.ref d, .int (Int32.ofNat B.slots.size)])) := c1.trans (by
    refine XS.iloadN X0.here hexec rfl (hb hbytes d0) rfl ?_
    refine XS.aloadN X0.here hexec rfl (hb hbytes d1) rfl rfl ?_
    exact Steps.refl _)
  have c3 : Steps p.tables e below (s₁.setTop (entryFrame m #[.ref d, .int (Int32.ofNat B.slots.size)] 2)) (s₁.setTop (mkF m 8 #[.val (.ref d), .val (.int (Int32.ofNat B.slots.size))] [.int (lo8 (ushr (Int32.ofNat B.slots.size - Int32.ofNat B.slots.size) 31))])) := c2.trans (by
    refine X0.alen hexec hB0 rfl rfl (hb hbytes d2) ?_
    refine XS.isub X0.here hexec rfl (hb hbytes d3) rfl ?_
    refine bipushV X0.here hexec rfl 31 (hb hbytes d4) (by decide) ?_
    refine iushr X0.here hexec rfl (hb hbytes d6) rfl ?_
    refine i2b X0.here hexec rfl (hb hbytes d7) rfl ?_
    exact Steps.refl _)
  have e0 : lo8 (ushr (Int32.ofNat B.slots.size - Int32.ofNat B.slots.size) 31) = 0 := by rw [Int32.sub_self]; decide
  rw [e0] at c3
  exact ⟨s₁, some (.int 0), _, _, _, X0, rfl, rfl, rfl, (fun h => by cases h), ⟨rfl, hh0⟩, fun fs hl => c3.trans (X0.ireturnOut hexec hret rfl (Or.inr (Or.inr (Or.inl rfl))) (hb hbytes d8) hl)⟩
end CodL
/-- the String at a is Latin-1 over a new byte[] (the heap's one new cell): the low bytes of the len chars of A from o on; every cell but a is kept -/
def Got (a : Addr) (D : Cell) (fV fC : Field) (A : Cell) (o len : Nat) (r : Option Value) (s u : State) : Prop := r = none ∧ ∃ D' V : Cell, Blank "java/lang/String" a D' u ∧ Same D D' [fV.slot, fC.slot] ∧ D'.slots[fV.slot]? = some (.ref s.heap.size) ∧ D'.slots[fC.slot]? = some (.int 0) ∧ Arr .byte s.heap.size V u ∧ V.vm = .none ∧ u.vm.findClass "[B" = some V.cls ∧ V.slots.size = len ∧ (∀ j, j < len → V.slots[j]? = some (.int (lo8 (cv A (o + j))))) ∧ (∀ (y : Addr) (c : Cell), y ≠ a → s.heap[y]? = some c → u.heap[y]? = some c) ∧ u.heap.size = s.heap.size + 1
theorem Got.mv {a : Addr} {D A : Cell} {fV fC : Field} {o len : Nat} : ∀ r (U U' V V' : State), U'.heap = U.heap → V.vm.Alike V'.vm → V'.heap = V.heap → Got a D fV fC A o len r U V → Got a D fV fC A o len r U' V' :=
  fun r U U' V V' h1 hal h2 ⟨e0, D', X, a1, a2, a3, a4, a5, a6, a7, a8, a9, a10, a11⟩ => ⟨e0, D', X, a1.mv hal h2, a2, by rw [h1]; exact a3, a4, by rw [h1]; exact a5.mv hal h2, a6, by rw [hal.findClass]; exact a7, a8, a9, by rw [h1, h2]; exact a10, by rw [h1, h2]; exact a11⟩
namespace New4
def yN : MethodName := ⟨"java/lang/String", "<init>", "([CIILjava/lang/Void;)V"⟩
abbrev yB : ByteArray := jdk_42_method_149_code
theorem d0 : decode yB 0 = .ok (.aload_n 0, 1) := by decide +kernel
theorem d1 : decode yB 1 = .ok (.invokespecial 1, 3) := by decide +kernel
theorem d4 : decode yB 4 = .ok (.iload_n 3, 1) := by decide +kernel
theorem d5 : decode yB 5 = .ok (.ifCond (.ne) 22, 3) := by decide +kernel
theorem d27 : decode yB 27 = .ok (.getstatic 38, 3) := by decide +kernel
theorem d30 : decode yB 30 = .ok (.ifCond (.eq) 28, 3) := by decide +kernel
theorem d33 : decode yB 33 = .ok (.aload_n 1, 1) := by decide +kernel
theorem d34 : decode yB 34 = .ok (.iload_n 2, 1) := by decide +kernel
theorem d35 : decode yB 35 = .ok (.iload_n 3, 1) := by decide +kernel
theorem d36 : decode yB 36 = .ok (.invokestatic 177, 3) := by decide +kernel
theorem d39 : decode yB 39 = .ok (.astore 5, 2) := by decide +kernel
theorem d41 : decode yB 41 = .ok (.aload_n 0, 1) := by decide +kernel
theorem d42 : decode yB 42 = .ok (.aload 5, 2) := by decide +kernel
theorem d44 : decode yB 44 = .ok (.iload_n 3, 1) := by decide +kernel
theorem d45 : decode yB 45 = .ok (.invokestatic 47, 3) := by decide +kernel
theorem d48 : decode yB 48 = .ok (.putfield 15, 3) := by decide +kernel
theorem d51 : decode yB 51 = .ok (.aload_n 0, 1) := by decide +kernel
theorem d52 : decode yB 52 = .ok (.aload 5, 2) := by decide +kernel
theorem d54 : decode yB 54 = .ok (.putfield 9, 3) := by decide +kernel
theorem d57 : decode yB 57 = .ok (.return_, 1) := by decide +kernel
def site : List Cond := [.fieldLink "java/lang/String" 38 "java/lang/String" "COMPACT_STRINGS" "Z", Cmp3.tab, CodL.tab, .laysFinal "java/lang/String" "java/lang/String" "value" "[B", .fieldLink "java/lang/String" 9 "java/lang/String" "value" "[B", .laysFinal "java/lang/String" "java/lang/String" "coder" "B", .fieldLink "java/lang/String" 15 "java/lang/String" "coder" "B"] ++ objW "java/lang/String" 1 ++ staticW "java/lang/String" 177 Cmp3.yN ++ staticW "java/lang/String" 47 CodL.yN
def tab : Cond := tabOf yN yB 6 none site
def P (a : Addr) (D : Cell) (fV fC : Field) (b : Addr) (A : Cell) (z : Int32) (o len : Nat) (args : Array Value) (s : State) : Prop := args = #[.ref a, .ref b, .int (Int32.ofNat o), .int (Int32.ofNat len), .null] ∧ Blank "java/lang/String" a D s ∧ Found "java/lang/String" "value" "[B" fV s ∧ Found "java/lang/String" "coder" "B" fC s ∧ Ch b A s ∧ StaticIs s "java/lang/String" "COMPACT_STRINGS" "Z" (.int z) ∧ ¬ z = 0 ∧ 0 < len ∧ o + len ≤ A.slots.size ∧ len ≤ 536870912 ∧ ∀ i, i < len → ¬ 255 < cv A (o + i)
def E (a : Addr) (D : Cell) (fV fC : Field) (A : Cell) (o len : Nat) (r : Option Value) (s u : State) : Prop := Got a D fV fC A o len r s u
/-- len > 0, no char of the range above 255: a Latin-1 String of their low bytes -/
theorem law (l : Launch) (a : Addr) (D : Cell) (fV fC : Field) (b : Addr) (A : Cell) (z : Int32) (o len : Nat) : Law l yN 5 4 2 35 yB 6 none site (P a D fV fC b A z o len) (E a D fV fC A o len) [⟨a, fC.slot⟩, ⟨a, fV.slot⟩] 1 len := by
  refine Law.of_walk (plainFor_of_name (by decide +kernel)) (by decide +kernel) (by decide +kernel) (by decide) (fun _ _ h => by rw [h.1]; rfl) (fun _ U U' hal hh h => ⟨h.1, h.2.1.mv hal hh, h.2.2.1.al hal, h.2.2.2.1.al hal, h.2.2.2.2.1.mv hal hh, h.2.2.2.2.2.1.there hal hh, h.2.2.2.2.2.2⟩) (fun r U U' V V' h1 hal h2 h => Got.mv r U U' V V' h1 hal h2 h) ?_
  intro p e s m args below meth c s₁ X0 hexec hbytes hml hret hlk hnm hown hh0 W hP
  obtain ⟨rfl, hB, f1, f2, hA, s1, hz, l0, l1, l2, hp⟩ := hP
  have a31 := hA.1.2.2.2
  have c1 : Steps p.tables e below (s₁.setTop (entryFrame m #[.ref a, .ref b, .int (Int32.ofNat o), .int (Int32.ofNat len), .null] 6)) (s₁.setTop (mkF m 0 #[.val (.ref a), .val (.ref b), .val (.int (Int32.ofNat o)), .val (.int (Int32.ofNat len)), .val .null, .unset] [])) := entry rfl
  have c2 : Steps p.tables e below (s₁.setTop (entryFrame m #[.ref a, .ref b, .int (Int32.ofNat o), .int (Int32.ofNat len), .null] 6)) (s₁.setTop (mkF m 1 #[.val (.ref a), .val (.ref b), .val (.int (Int32.ofNat o)), .val (.int (Int32.ofNat len)), .val .null, .unset] [.ref a])) := c1.trans (by
    refine XS.aloadN X0.here hexec rfl (hb hbytes d0) rfl rfl ?_
    exact Steps.refl _)
  obtain ⟨T3, X3, q3, st3⟩ := X0.oinit hexec hown (wks W (objW "java/lang/String" 1)) (g := (mkF m 1 #[.val (.ref a), .val (.ref b), .val (.int (Int32.ofNat o)), .val (.int (Int32.ofNat len)), .val .null, .unset] [.ref a])) rfl (by rw [hml]; rfl) (rest := []) rfl (hb hbytes d1) (W := 0) (by show 2 * 0 + 0 ≤ _; decide) (Nat.le_of_ble_eq_true rfl) (Nat.le_of_ble_eq_true rfl)
  have hh3 := q3.trans hh0
  have c4 : Steps p.tables e below (s₁.setTop (entryFrame m #[.ref a, .ref b, .int (Int32.ofNat o), .int (Int32.ofNat len), .null] 6)) (T3.setTop (mkF m 27 #[.val (.ref a), .val (.ref b), .val (.int (Int32.ofNat o)), .val (.int (Int32.ofNat len)), .val .null, .unset] [])) := (c2.trans (st3 _ (Steps.refl _))).trans (by
    refine XS.iloadN X3.here hexec rfl (hb hbytes d4) rfl ?_
    refine XS.ifYes X3.here hexec rfl (pc0 := 5) rfl (hb hbytes d5) rfl (i0_ne_t (nz32 (by omega) l0)) (by decide) rfl ?_
    exact Steps.refl _)
  obtain ⟨T5, X5, q5, st5⟩ := X3.sget hexec hown (wk W (.fieldLink "java/lang/String" 38 "java/lang/String" "COMPACT_STRINGS" "Z")) s1 (fun _ _ h => by rw [hh3]; exact h) (g := (mkF m 27 #[.val (.ref a), .val (.ref b), .val (.int (Int32.ofNat o)), .val (.int (Int32.ofNat len)), .val .null, .unset] [])) rfl (hb hbytes d27)
  have hh5 := q5.trans hh3
  have c6 : Steps p.tables e below (s₁.setTop (entryFrame m #[.ref a, .ref b, .int (Int32.ofNat o), .int (Int32.ofNat len), .null] 6)) (T5.setTop (mkF m 30 #[.val (.ref a), .val (.ref b), .val (.int (Int32.ofNat o)), .val (.int (Int32.ofNat len)), .val .null, .unset] [.int z])) := c4.trans (st5 _ (Steps.refl _))
  have c7 : Steps p.tables e below (s₁.setTop (entryFrame m #[.ref a, .ref b, .int (Int32.ofNat o), .int (Int32.ofNat len), .null] 6)) (T5.setTop (mkF m 36 #[.val (.ref a), .val (.ref b), .val (.int (Int32.ofNat o)), .val (.int (Int32.ofNat len)), .val .null, .unset] [.int (Int32.ofNat len), .int (Int32.ofNat o), .ref b])) := c6.trans (by
    refine XS.ifNo X5.here hexec rfl (hb hbytes d30) rfl (i0_eq_f hz) ?_
    refine XS.aloadN X5.here hexec rfl (hb hbytes d33) rfl rfl ?_
    refine XS.iloadN X5.here hexec rfl (hb hbytes d34) rfl ?_
    refine XS.iloadN X5.here hexec rfl (hb hbytes d35) rfl ?_
    exact Steps.refl _)
  obtain ⟨v8, T8, X8, E8, g8⟩ := X5.callS hexec (Cmp3.law l b A o len) hown (wks W (staticW "java/lang/String" 177 Cmp3.yN)) (wk W Cmp3.tab) (W := 0) (Nat.le_of_ble_eq_true rfl) (Nat.le_of_ble_eq_true rfl) (Nat.le_refl _) (by show 0 + len ≤ len; omega) (g := (mkF m 36 #[.val (.ref a), .val (.ref b), .val (.int (Int32.ofNat o)), .val (.int (Int32.ofNat len)), .val .null, .unset] [.int (Int32.ofNat len), .int (Int32.ofNat o), .ref b])) rfl (by rw [hml]; rfl) c7 (argsL := [.ref b, .int (Int32.ofNat o), .int (Int32.ofNat len)]) (rest := []) rfl rfl (by show 2 * 0 + 0 ≤ _; decide) (hb hbytes d36) (⟨rfl, hA.mv X5.warmed.alike hh5, l1, l2, hp⟩)
  obtain ⟨e8, z8⟩ := E8
  obtain ⟨rfl, N, n1, n2, n3, n4, n5, n6⟩ := NewArr.mv _ T5 s _ _ hh5.symm (Vm.Alike.refl _) rfl e8
  rw [hh5] at z8
  have hB1 := hB.keep X8.warmed.alike (n6 _ _ hB.1)
  have hne : s.heap.size ≠ a := (Nat.ne_of_lt (Array.getElem?_eq_some_iff.mp hB.1).1).symm
  have c9 : Steps p.tables e below (s₁.setTop (entryFrame m #[.ref a, .ref b, .int (Int32.ofNat o), .int (Int32.ofNat len), .null] 6)) (T8.setTop (mkF m 39 #[.val (.ref a), .val (.ref b), .val (.int (Int32.ofNat o)), .val (.int (Int32.ofNat len)), .val .null, .unset] [.ref s.heap.size])) := g8
  have c10 : Steps p.tables e below (s₁.setTop (entryFrame m #[.ref a, .ref b, .int (Int32.ofNat o), .int (Int32.ofNat len), .null] 6)) (T8.setTop (mkF m 45 #[.val (.ref a), .val (.ref b), .val (.int (Int32.ofNat o)), .val (.int (Int32.ofNat len)), .val .null, .val (.ref s.heap.size)] [.int (Int32.ofNat N.slots.size), .ref s.heap.size, .ref a])) := by
    have hc : Steps p.tables e below (s₁.setTop (entryFrame m #[.ref a, .ref b, .int (Int32.ofNat o), .int (Int32.ofNat len), .null] 6)) (T8.setTop (mkF m 45 #[.val (.ref a), .val (.ref b), .val (.int (Int32.ofNat o)), .val (.int (Int32.ofNat len)), .val .null, .val (.ref s.heap.size)] [.int (Int32.ofNat len), .ref s.heap.size, .ref a])) := c9.trans (by
      refine XS.astore X8.here hexec rfl (hb hbytes d39) rfl rfl rfl ?_
      refine XS.aloadN X8.here hexec rfl (hb hbytes d41) rfl rfl ?_
      refine XS.aload X8.here hexec rfl (hb hbytes d42) rfl rfl ?_
      refine XS.iloadN X8.here hexec rfl (hb hbytes d44) rfl ?_
      exact Steps.refl _)
    rw [n4]; exact hc
  obtain ⟨v11, T11, X11, E11, g11⟩ := X8.callS hexec (CodL.law l s.heap.size N) hown (wks W (staticW "java/lang/String" 47 CodL.yN)) (wk W CodL.tab) (W := 1) (Nat.le_of_ble_eq_true rfl) (Nat.le_of_ble_eq_true rfl) (Nat.le_refl _) (by show 0 + len + 0 ≤ len; omega) (g := (mkF m 45 #[.val (.ref a), .val (.ref b), .val (.int (Int32.ofNat o)), .val (.int (Int32.ofNat len)), .val .null, .val (.ref s.heap.size)] [.int (Int32.ofNat N.slots.size), .ref s.heap.size, .ref a])) rfl (by rw [hml]; rfl) c10 (argsL := [.ref s.heap.size, .int (Int32.ofNat N.slots.size)]) (rest := [.ref a]) rfl rfl (by show 2 * 0 + (1 + 0) ≤ _; decide) (hb hbytes d45) (⟨rfl, n1⟩)
  obtain ⟨rfl, q11⟩ := E11
  have hB11 := hB1.mv (X8.warmed.alike.symm.trans X11.warmed.alike) q11
  have c12 : Steps p.tables e below (s₁.setTop (entryFrame m #[.ref a, .ref b, .int (Int32.ofNat o), .int (Int32.ofNat len), .null] 6)) (T11.setTop (mkF m 48 #[.val (.ref a), .val (.ref b), .val (.int (Int32.ofNat o)), .val (.int (Int32.ofNat len)), .val .null, .val (.ref s.heap.size)] [.int 0, .ref a])) := g11
  obtain ⟨T13, X13, p13, bl13, sl13, st13⟩ := X11.finit hexec hown (wk W (.fieldLink "java/lang/String" 15 "java/lang/String" "coder" "B")) (Or.inr ⟨_, (wk W (.laysFinal "java/lang/String" "java/lang/String" "coder" "B"))⟩) (Or.inl ⟨rfl, hnm⟩) f2 (Or.inl rfl) hB11 (t := .byte) (by decide +kernel) rfl (g := (mkF m 48 #[.val (.ref a), .val (.ref b), .val (.int (Int32.ofNat o)), .val (.int (Int32.ofNat len)), .val .null, .val (.ref s.heap.size)] [.int 0, .ref a])) rfl (rest := []) rfl (hb hbytes d48)
  have c14 : Steps p.tables e below (s₁.setTop (entryFrame m #[.ref a, .ref b, .int (Int32.ofNat o), .int (Int32.ofNat len), .null] 6)) (T13.setTop (mkF m 54 #[.val (.ref a), .val (.ref b), .val (.int (Int32.ofNat o)), .val (.int (Int32.ofNat len)), .val .null, .val (.ref s.heap.size)] [.ref s.heap.size, .ref a])) := (c12.trans (st13 _ (Steps.refl _))).trans (by
    refine XS.aloadN X13.here hexec rfl (hb hbytes d51) rfl rfl ?_
    refine XS.aload X13.here hexec rfl (hb hbytes d52) rfl rfl ?_
    exact Steps.refl _)
  obtain ⟨T15, X15, p15, bl15, sl15, st15⟩ := X13.finit hexec hown (wk W (.fieldLink "java/lang/String" 9 "java/lang/String" "value" "[B")) (Or.inr ⟨_, (wk W (.laysFinal "java/lang/String" "java/lang/String" "value" "[B"))⟩) (Or.inl ⟨rfl, hnm⟩) f1 (Or.inl rfl) bl13 (t := (.array .byte)) (by decide +kernel) rfl (g := (mkF m 54 #[.val (.ref a), .val (.ref b), .val (.int (Int32.ofNat o)), .val (.int (Int32.ofNat len)), .val .null, .val (.ref s.heap.size)] [.ref s.heap.size, .ref a])) rfl (rest := []) rfl (hb hbytes d54)
  have c16 : Steps p.tables e below (s₁.setTop (entryFrame m #[.ref a, .ref b, .int (Int32.ofNat o), .int (Int32.ofNat len), .null] 6)) (T15.setTop (mkF m 57 #[.val (.ref a), .val (.ref b), .val (.int (Int32.ofNat o)), .val (.int (Int32.ofNat len)), .val .null, .val (.ref s.heap.size)] [])) := c14.trans (st15 _ (Steps.refl _))
  have ap := apart (Or.inr ⟨_, (wk W (.laysFinal "java/lang/String" "java/lang/String" "value" "[B"))⟩) (Or.inr ⟨_, (wk W (.laysFinal "java/lang/String" "java/lang/String" "coder" "B"))⟩) f1 f2 (t₁ := .array .byte) (t₂ := .byte) (by decide +kernel) (by decide +kernel) (by decide)
  have al := X8.warmed.alike.symm.trans X15.warmed.alike
  have n7 : T11.heap[s.heap.size]? = some N := by rw [q11]; exact n1.1
  exact ⟨T15, none, _, _, _, X15, by simp, rfl, by omega, (fun _ => rfl), ⟨rfl, _, N, bl15, ((Same.refl D _).set _ (by simp)).set _ (by simp), sl15, (Cell.slots_setSlot_ne _ ap).trans sl13, n1.keep al (p15.other hne (p13.other hne n7)), n2, by rw [al.findClass]; exact n3, n4, n5, fun y c h1 h2 => p15.other h1 (p13.other h1 (by rw [q11]; exact n6 y c h2)), by rw [p15.2.2, p13.2.2, q11]; exact z8⟩, fun fs hl => c16.trans (X15.returnOut hexec hret (hb hbytes d57) hl)⟩
end New4
namespace New1
def yN : MethodName := ⟨"java/lang/String", "<init>", "([C)V"⟩
abbrev yB : ByteArray := jdk_42_method_3_code
theorem d0 : decode yB 0 = .ok (.aload_n 0, 1) := by decide +kernel
theorem d1 : decode yB 1 = .ok (.aload_n 1, 1) := by decide +kernel
theorem d2 : decode yB 2 = .ok (.iconst 0, 1) := by decide +kernel
theorem d3 : decode yB 3 = .ok (.aload_n 1, 1) := by decide +kernel
theorem d4 : decode yB 4 = .ok (.arraylength, 1) := by decide +kernel
theorem d5 : decode yB 5 = .ok (.aconst_null, 1) := by decide +kernel
theorem d6 : decode yB 6 = .ok (.invokespecial 27, 3) := by decide +kernel
theorem d9 : decode yB 9 = .ok (.return_, 1) := by decide +kernel
def site : List Cond := [New4.tab] ++ initW "java/lang/String" 27 New4.yN
def tab : Cond := tabOf yN yB 2 none site
def P (a : Addr) (D : Cell) (fV fC : Field) (b : Addr) (A : Cell) (z : Int32) (args : Array Value) (s : State) : Prop := args = #[.ref a, .ref b] ∧ Blank "java/lang/String" a D s ∧ Found "java/lang/String" "value" "[B" fV s ∧ Found "java/lang/String" "coder" "B" fC s ∧ Ch b A s ∧ StaticIs s "java/lang/String" "COMPACT_STRINGS" "Z" (.int z) ∧ ¬ z = 0 ∧ 0 < A.slots.size ∧ A.slots.size ≤ 536870912 ∧ ∀ i, i < A.slots.size → ¬ 255 < cv A i
def E (a : Addr) (D : Cell) (fV fC : Field) (A : Cell) (r : Option Value) (s u : State) : Prop := Got a D fV fC A 0 A.slots.size r s u
/-- new String(chars), not empty, no char above 255: a Latin-1 String of their low bytes -/
theorem law (l : Launch) (a : Addr) (D : Cell) (fV fC : Field) (b : Addr) (A : Cell) (z : Int32) : Law l yN 2 1 3 52 yB 2 none site (P a D fV fC b A z) (E a D fV fC A) [⟨a, fC.slot⟩, ⟨a, fV.slot⟩] 1 A.slots.size := by
  refine Law.of_walk (plainFor_of_name (by decide +kernel)) (by decide +kernel) (by decide +kernel) (by decide) (fun _ _ h => by rw [h.1]; rfl) (fun _ U U' hal hh h => ⟨h.1, h.2.1.mv hal hh, h.2.2.1.al hal, h.2.2.2.1.al hal, h.2.2.2.2.1.mv hal hh, h.2.2.2.2.2.1.there hal hh, h.2.2.2.2.2.2⟩) (fun r U U' V V' h1 hal h2 h => Got.mv r U U' V V' h1 hal h2 h) ?_
  intro p e s m args below meth c s₁ X0 hexec hbytes hml hret hlk hnm hown hh0 W hP
  obtain ⟨rfl, hB, f1, f2, hA, s1, hz, l0, l2, hp⟩ := hP
  have c1 : Steps p.tables e below (s₁.setTop (entryFrame m #[.ref a, .ref b] 2)) (s₁.setTop (mkF m 0 #[.val (.ref a), .val (.ref b)] [])) := entry rfl
  have c2 : Steps p.tables e below (s₁.setTop (entryFrame m #[.ref a, .ref b] 2)) (s₁.setTop (mkF m 6 #[.val (.ref a), .val (.ref b)] [.null, .int (Int32.ofNat A.slots.size), .int 0, .ref b, .ref a])) := c1.trans (by
    refine XS.aloadN X0.here hexec rfl (hb hbytes d0) rfl rfl ?_
    refine XS.aloadN X0.here hexec rfl (hb hbytes d1) rfl rfl ?_
    refine iconstV X0.here hexec rfl 0 (hb hbytes d2) (by decide) ?_
    refine XS.aloadN X0.here hexec rfl (hb hbytes d3) rfl rfl ?_
    refine X0.alen hexec (hA.1.mv X0.warmed.alike hh0) rfl rfl (hb hbytes d4) ?_
    refine XS.aconstNull X0.here hexec rfl (hb hbytes d5) ?_
    exact Steps.refl _)
  obtain ⟨v3, T3, X3, E3, g3⟩ := X0.callN hexec (New4.law l a D fV fC b A z 0 A.slots.size) rfl hown (wks W (initW "java/lang/String" 27 New4.yN)) (W New4.tab (by simp only [site, List.mem_cons, List.mem_append, true_or, or_true])) (W := 0) (Nat.le_of_ble_eq_true rfl) (Nat.le_of_ble_eq_true rfl) (Nat.le_refl _) (by show 0 + A.slots.size ≤ A.slots.size; omega) (g := (mkF m 6 #[.val (.ref a), .val (.ref b)] [.null, .int (Int32.ofNat A.slots.size), .int (Int32.ofNat 0), .ref b, .ref a])) rfl (by rw [hml]; rfl) c2 (argsL := [.ref b, .int (Int32.ofNat 0), .int (Int32.ofNat A.slots.size), .null]) (rest := []) rfl rfl (by show 2 * 0 + 0 ≤ _; decide) (hb hbytes d6) (⟨rfl, hB.mv X0.warmed.alike hh0, f1.al X0.warmed.alike, f2.al X0.warmed.alike, hA.mv X0.warmed.alike hh0, s1.there X0.warmed.alike hh0, hz, l0, by omega, l2, fun i hi => by rw [Nat.zero_add]; exact hp i hi⟩)
  have e0 := Got.mv _ s₁ s _ _ hh0.symm (Vm.Alike.refl _) rfl E3
  obtain rfl := e0.1
  have c4 : Steps p.tables e below (s₁.setTop (entryFrame m #[.ref a, .ref b] 2)) (T3.setTop (mkF m 9 #[.val (.ref a), .val (.ref b)] [])) := g3
  exact ⟨T3, none, _, _, _, X3, by simp, rfl, by omega, (fun _ => rfl), e0, fun fs hl => c4.trans (X3.returnOut hexec hret (hb hbytes d9) hl)⟩
theorem pays {l : Launch} {R : Room} {p : Program} {e : Env} {below : List Frame} {s : State} {sargs : Array Value} {len W : Nat} (a : Addr) (D : Cell) (fV fC : Field) (b : Addr) (A : Cell) (z : Int32) (htab : tab.before sargs s = true) (hfr : 4 ≤ R.frames) (hlo : W + 65 ≤ R.locals) :
    Back l R p e below s sargs yN len W (fun A₁ a₁ => A₁.cells + 1 ≤ R.cells ∧ A₁.slots + A.slots.size ≤ R.slots ∧ P a D fV fC b A z a₁ A₁.U) (fun A₁ _ v₁ B₁ => E a D fV fC A v₁ A₁.U B₁.U ∧ B₁.locs = A₁.locs ++ [⟨a, fC.slot⟩, ⟨a, fV.slot⟩] ∧ B₁.cells = A₁.cells + 1 ∧ B₁.slots = A₁.slots + A.slots.size) :=
  (law l a D fV fC b A z).pays htab hfr (by omega)
end New1
end StrChars
namespace StrChars.Road
open Jvm Sem ClassFile Op Lib Jvm.Stand Jvm.Free Jvm.Free.XT
open Jvm.Lib.Cold (StaticIs)
abbrev ST : String := "java/lang/String"
/-- every table word that New1's law asks, flat -/
abbrev words : List Jvm.Cond := [.code New1.yN New1.yB 2 none, .initialized ST, .methodLink ST 27 New4.yN, .instanceMethod New4.yN,
  .code New4.yN New4.yB 6 none, .fieldLink ST 38 ST "COMPACT_STRINGS" "Z", .laysFinal ST ST "value" "[B", .fieldLink ST 9 ST "value" "[B", .laysFinal ST ST "coder" "B", .fieldLink ST 15 ST "coder" "B",
  .methodLink ST 1 Lib.objectInit, .instanceMethod Lib.objectInit, .code Lib.objectInit ⟨#[0xb1]⟩ 1 none, .methodLink ST 177 Cmp3.yN, .static Cmp3.yN, .methodLink ST 47 CodL.yN, .static CodL.yN,
  .code Cmp3.yN Cmp3.yB 6 (some (.array .byte)), .initialized U16, .arrayClass .byte, .methodLink U16 115 Cmp5.yN, .static Cmp5.yN, .code Cmp5.yN Cmp5.yB 7 (some .int), .code CodL.yN CodL.yB 2 (some .byte)]
theorem tab_of {a : Array Value} {s : State} (h : ∀ w ∈ words, w.before a s = true) : New1.tab.before a s = true := by
  have h5 : Cmp5.tab.before a s = true := unparts (wk h (.code Cmp5.yN Cmp5.yB 7 (some .int))) (wks h (.initialized Cmp5.yN.cls :: Cmp5.site))
  have hc : CodL.tab.before a s = true := unparts (wk h (.code CodL.yN CodL.yB 2 (some .byte))) (wks h (.initialized CodL.yN.cls :: CodL.site))
  have q5 : ∀ w ∈ Cmp5.tab :: words, w.before a s = true := fun w hw => (List.mem_cons.mp hw).elim (fun e => e ▸ h5) (h w)
  have h3 : Cmp3.tab.before a s = true := unparts (wk q5 (.code Cmp3.yN Cmp3.yB 6 (some (.array .byte)))) (wks q5 (.initialized Cmp3.yN.cls :: Cmp3.site))
  have q3 : ∀ w ∈ Cmp3.tab :: CodL.tab :: words, w.before a s = true := fun w hw => (List.mem_cons.mp hw).elim (fun e => e ▸ h3) fun hw => (List.mem_cons.mp hw).elim (fun e => e ▸ hc) (h w)
  have h4 : New4.tab.before a s = true := unparts (wk q3 (.code New4.yN New4.yB 6 none)) (wks q3 (.initialized New4.yN.cls :: New4.site))
  have q4 : ∀ w ∈ New4.tab :: words, w.before a s = true := fun w hw => (List.mem_cons.mp hw).elim (fun e => e ▸ h4) (h w)
  exact unparts (wk q4 (.code New1.yN New1.yB 2 none)) (wks q4 (.initialized New1.yN.cls :: New1.site))
/-- the words ride from the start Z to the walk's own state -/
theorem moved {Z s : State} {a0 args : Array Value} (hZ : Z.Warmed39 s.vm) (hw : ∀ d ∈ words, d.before a0 Z = true) : ∀ d ∈ words, d.before args s = true := fun d hd => by
  have q := hw d hd
  have t : ∀ d ∈ words, d = .arrayClass .byte ∨ (d.onTables && d.keepsFace) = true := by decide +kernel
  rcases t d hd with rfl | t
  · exact RoadKit.mvA hZ q
  · exact RoadKit.mv hZ q t
/-- WHAT COMES BACK, over the tables of the start Z: h the heap at the call, h' behind it -/
def Q (Z : State) (x : Addr) (A : Cell) (h : Heap) (v : Option Value) (h' : Heap) (L : List Loc) : Prop := v = none ∧ (∀ y ∈ L, y.base = x) ∧ RoadKit.Keep h h' [x] ∧ h'.size = h.size + 1 ∧ RoadKit.Exa Z h' x ST ∧ RoadKit.Fld Z h' x ST "value" "[B" (.ref h.size) ∧ RoadKit.Fld Z h' x ST "coder" "B" (.int 0) ∧
  (∃ V : Cell, RoadKit.Arr Z h' h.size V .byte ∧ V.vm = .none ∧ Z.vm.findClass "[B" = some V.cls ∧ V.slots.size = A.slots.size ∧ ∀ j, j < A.slots.size → V.slots[j]? = some (.int (lo8 (cv A j)))) ∧
  ∀ (O n d : String) (w : Value), RoadKit.Fld Z h x O n d w → RoadKit.slotOf Z O n d ≠ RoadKit.slotOf Z ST "value" "[B" → RoadKit.slotOf Z O n d ≠ RoadKit.slotOf Z ST "coder" "B" → RoadKit.Fld Z h' x O n d w
/-- **new String(chars) AT A CALL, IN THE ROAD'S FORM**: for specialBack behind newO: x the fresh String, b the char[] with the cell A -/
theorem back {p : Program} {l : Launch} {e : Env} {R : Room} {s : State} {args : Array Value} {below : List Frame} {len W : Nat} {Z : State} {a0 : Array Value} {h : Heap} (hZ : Z.Warmed39 s.vm) (hw : ∀ d ∈ words, d.before a0 Z = true) {kI : Nat} (wi : (Jvm.Cond.instantiable ST kI).before a0 Z = true)
    {x b : Addr} {A : Cell} {z : Int32} {v0 c0 : Value} (E : RoadKit.Exa Z h x ST) (V : RoadKit.Fld Z h x ST "value" "[B" v0) (C : RoadKit.Fld Z h x ST "coder" "B" c0) (K : RoadKit.Arr Z h b A .char) (hty : Typed .char A) (S : RoadKit.Sta Z h ST "COMPACT_STRINGS" "Z" (.int z)) (hz : ¬ z = 0)
    (l0 : 0 < A.slots.size) (l2 : A.slots.size ≤ 536870912) (hp : ∀ i, i < A.slots.size → ¬ 255 < cv A i) (hfr : 4 ≤ R.frames) (hlo : W + 65 ≤ R.locals) :
    Back l R p e below s args New1.yN len W (fun P a => a = #[.ref x, .ref b] ∧ P.U.heap = h ∧ P.cells + 1 ≤ R.cells ∧ P.slots + A.slots.size ≤ R.slots)
      (fun P _ v B => ∃ L, Q Z x A h v B.U.heap L ∧ B.locs = P.locs ++ L ∧ B.cells = P.cells + 1 ∧ B.slots = P.slots + A.slots.size) := by
  intro m meth c P g ig mk a X hg hsize hdg hW hn hp'
  obtain ⟨rfl, rfl, r1, r2⟩ := hp'
  have al : Z.vm.Alike P.U.vm := hZ.alike.trans X.warmed.alike
  obtain ⟨D, cfV, kV, iV, fV, hD, gV, stV, knV, obV, asV, slV⟩ := id V
  obtain ⟨D', cfC, kC, iC, fC, hD', gC, stC, -, -, asC, slC⟩ := id C
  cases hD.symm.trans hD'
  obtain ⟨D2, kD, e1, e2, e3, e4, e5⟩ := id E
  cases hD.symm.trans e1
  obtain ⟨c2, k2, i1, i2, i3, -⟩ := Cond.instantiable_spec wi
  cases e2.symm.trans i1
  cases e3.symm.trans i2
  obtain ⟨kU, u1, u2⟩ := al.2.2 _ _ e3
  have hB : Blank ST x D P.U := ⟨hD, ⟨knV, fun q hq => by rw [hq] at obV; cases obV⟩, by rw [al.findClass]; exact e2, kU, u1, by rw [u2]; exact i3, by rw [u2]; exact e5 i3⟩
  have F1 : Found ST "value" "[B" fV P.U := ⟨SBG.found_only al ⟨cfV, kV, iV, gV⟩, stV⟩
  have F2 : Found ST "coder" "B" fC P.U := ⟨SBG.found_only al ⟨cfC, kC, iC, gC⟩, stC⟩
  have hA : Ch b A P.U := ⟨⟨K.1, State.isArrayOf_alike al K.2.1, K.2.2, by omega⟩, hty⟩
  have hS : StaticIs P.U ST "COMPACT_STRINGS" "Z" (.int z) := by
    obtain ⟨cfS, iS, kS, fS, st, cS, t1, t2, t3, t4, t5, t6, t7⟩ := S
    exact StaticIs.there (s := { Z with heap := P.U.heap }) ⟨cfS, iS, kS, fS, st, cS, t1, t2, t3, t4, t5, (fun q => by rw [q] at t6; cases t6), t7⟩ al rfl
  obtain ⟨v, B, X', ⟨⟨hv, E', V', q1, q2, q3, q4, q5, q6, q7, q8, q9, q10, q11⟩, hl, hc, hs⟩, st⟩ := New1.pays x D fV fC b A z (tab_of (moved hZ hw)) hfr hlo m meth c P g ig mk _ X hg hsize hdg hW hn ⟨r1, r2, rfl, hB, F1, F2, hA, hS, hz, l0, l2, hp⟩
  have al' : Z.vm.Alike B.U.vm := hZ.alike.trans X'.warmed.alike
  have hsz : E'.slots.size = D.slots.size := by
    obtain ⟨-, -, -, kB, w1, w2, w3⟩ := q1
    obtain ⟨kB', y1, y2⟩ := al'.2.2 _ _ e3
    rw [q2.2.1] at w1
    cases w1.symm.trans y1
    rw [w3, e5 i3, y2]
  refine ⟨v, B, X', ⟨_, ⟨hv, ?_, ⟨by omega, fun y cy hy hn' => q10 y cy (by simpa using hn') hy, fun y cy hy => ?_⟩, q11, ⟨E', _, q1.1, by rw [q2.2.1]; exact e2, by rw [q2.2.1]; exact e3, by rw [q2.1]; exact obV, fun _ => by rw [hsz]; exact e5 i3⟩,
    ⟨E', cfV, kV, iV, fV, q1.1, gV, stV, by rw [q2.1]; exact knV, by rw [q2.1]; exact obV, by rw [q2.2.1]; exact asV, q3⟩, ⟨E', cfC, kC, iC, fC, q1.1, gC, stC, by rw [q2.1]; exact knV, by rw [q2.1]; exact obV, by rw [q2.2.1]; exact asC, q4⟩,
    ⟨V', ⟨q5.1, State.isArrayOf_alike al'.symm q5.2.1, q5.2.2.1⟩, q6, by rw [← al'.findClass]; exact q7, q8, fun j hj => by have := q9 j hj; rwa [Nat.zero_add] at this⟩, fun O n d w F n1 n2 => ?_⟩, hl, hc, hs⟩, st⟩
  · intro y hy
    simp only [List.mem_cons, List.not_mem_nil, or_false] at hy
    rcases hy with rfl | rfl <;> rfl
  · by_cases q : y = x
    · subst q
      cases hD.symm.trans hy
      exact ⟨E', q1.1, q2.2.1, q2.1, hsz⟩
    · exact ⟨cy, q10 y cy q hy, rfl, rfl, rfl⟩
  · obtain ⟨D3, cf, k, i, f, g1, g2, g3, g4, g5, g6, g7⟩ := F
    cases hD.symm.trans g1
    simp only [RoadKit.slotOf, g2, gV, gC, Option.map_some, Option.getD_some] at n1 n2
    exact ⟨E', cf, k, i, f, q1.1, g2, g3, by rw [q2.1]; exact g4, by rw [q2.1]; exact g5, by rw [q2.2.1]; exact g6, by rw [q2.2.2 f.slot (by simp [n1, n2])]; exact g7⟩
end StrChars.Road
namespace StrChars.Road
open Jvm Sem ClassFile Op Lib Jvm.Stand Jvm.Free Jvm.Free.XT
/-- WHAT COMES BACK, the byte[] as a list of values -/
def QA (Z : State) (x : Addr) (zn : Int32) (cs : List Int32) (h : Heap) (v : Option Value) (h' : Heap) (L : List Loc) : Prop := v = none ∧ (∀ y ∈ L, y.base = x) ∧ RoadKit.Keep h h' [x] ∧ h'.size = h.size + 1 ∧ RoadKit.Exa Z h' x ST ∧ RoadKit.Fld Z h' x ST "value" "[B" (.ref h.size) ∧ RoadKit.Fld Z h' x ST "coder" "B" (.int 0) ∧
  (∃ kb, Z.vm.findClass "[B" = some kb ∧ RoadKit.Arv Z h' h.size kb .byte zn (cs.map fun c => .int (lo8 c)) (.int 0)) ∧
  ∀ (O n d : String) (w : Value), RoadKit.Fld Z h x O n d w → RoadKit.slotOf Z O n d ≠ RoadKit.slotOf Z ST "value" "[B" → RoadKit.slotOf Z O n d ≠ RoadKit.slotOf Z ST "coder" "B" → RoadKit.Fld Z h' x O n d w
/-- **new String(chars) AT A CALL, THE ARRAYS AS LISTS**: the char[] at b holds cs, not empty, no char above 255 -/
theorem backArv {p : Program} {l : Launch} {e : Env} {R : Room} {s : State} {args : Array Value} {below : List Frame} {len W : Nat} {Z : State} {a0 : Array Value} {h : Heap} (hZ : Z.Warmed39 s.vm) (hw : ∀ d ∈ words, d.before a0 Z = true) {kI : Nat} (wi : (Jvm.Cond.instantiable ST kI).before a0 Z = true)
    {x b : Addr} {k : ClassId} {zn z : Int32} {cs : List Int32} {dv v0 c0 : Value} (E : RoadKit.Exa Z h x ST) (V : RoadKit.Fld Z h x ST "value" "[B" v0) (C : RoadKit.Fld Z h x ST "coder" "B" c0) (K : RoadKit.Arv Z h b k .char zn (cs.map Value.int) dv) (S : RoadKit.Sta Z h ST "COMPACT_STRINGS" "Z" (.int z)) (hz : ¬ z = 0)
    (hlen : zn.toNatClampNeg = cs.length) (h0 : 0 < cs.length) (hbig : cs.length ≤ 536870912) (hall : ∀ c ∈ cs, ¬ 255 < c) (hfr : 4 ≤ R.frames) (hlo : W + 65 ≤ R.locals) :
    Back l R p e below s args New1.yN len W (fun P a => a = #[.ref x, .ref b] ∧ P.U.heap = h ∧ P.cells + 1 ≤ R.cells ∧ P.slots + cs.length ≤ R.slots)
      (fun P _ v B => ∃ L, QA Z x zn cs h v B.U.heap L ∧ B.locs = P.locs ++ L ∧ B.cells = P.cells + 1 ∧ B.slots = P.slots + cs.length) := by
  obtain ⟨A, K1, K2, K3, K4, K5, K6⟩ := K
  have e : A.slots.size = cs.length := K3.trans hlen
  have hat : ∀ (i : Nat) (hi : i < cs.length), A.slots[i]? = some (.int cs[i]) := fun i hi => by rw [K5 i (by omega)]; simp [List.getD_eq_getElem?_getD, hi]
  have hcv : ∀ (i : Nat) (hi : i < cs.length), cv A i = cs[i] := fun i hi => by unfold cv; rw [hat i hi]
  have hty : Typed .char A := fun i v hv => by
    have hi : i < A.slots.size := (Array.getElem?_eq_some_iff.mp hv).1
    have q := K5 i hi
    rw [hv] at q
    rw [Option.some.inj q]
    exact K6 i hi
  refine Back.mono (back hZ hw wi E V C K1 hty S hz (by omega) (by omega) (fun i hi => by rw [hcv i (by omega)]; exact hall _ (List.getElem_mem _)) hfr hlo) (fun P a hp => ⟨hp.1, hp.2.1, hp.2.2.1, by rw [e]; exact hp.2.2.2⟩) (fun P a v B hp hq => ?_)
  obtain ⟨L, ⟨q1, q2, q3, q4, q5, q6, q7, ⟨V', v1, v2, v3, v4, v5⟩, q9⟩, hl, hc, hs⟩ := hq
  refine ⟨L, ⟨q1, q2, q3, q4, q5, q6, q7, ⟨V'.cls, v3, V', v1, rfl, by rw [v4, e, hlen], K4, fun i hi => ?_, fun i hi => ?_⟩, q9⟩, hl, hc, by rw [hs, e]⟩
  · have hi' : i < cs.length := by omega
    rw [v5 i (by omega), hcv i hi']; simp [List.getD_eq_getElem?_getD, hi']
  · have hi' : i < cs.length := by omega
    simp only [List.getD_eq_getElem?_getD, List.getElem?_map, List.getElem?_eq_getElem hi', Option.map_some, Option.getD_some]
    exact fits_lo8 _
end StrChars.Road
namespace StrChars.Road
open Jvm Sem ClassFile Op Lib Jvm.Stand Jvm.Free Jvm.Free.XT
/-- WHAT COMES BACK, in the writer's own shape -/
def QV (Z : State) (x : Addr) (N : Int32) (bs : List Int32) (h : Heap) (n0 : Nat) (v : Option Value) (h' : Heap) (L : List Loc) : Prop := v = none ∧ RoadKit.Fr n0 L ∧ RoadKit.Keep h h' [x] ∧ RoadKit.Exa Z h' x ST ∧ RoadKit.Fld Z h' x ST "coder" "B" (.int 0) ∧
  ∃ (t : Addr) (kb : ClassId), n0 ≤ t ∧ h.size ≤ t ∧ ¬ t = x ∧ RoadKit.Fld Z h' x ST "value" "[B" (.ref t) ∧ RoadKit.Arv Z h' t kb .byte N (bs.map Value.int) (.int 0)
/-- **new String(chars) AT A CALL, FOR THE WRITER**: a char[] of n known ints, each 0 to 255 -/
theorem backV {p : Program} {l : Launch} {e : Env} {R : Room} {s : State} {args : Array Value} {below : List Frame} {len W : Nat} {Z : State} {a0 : Array Value} {h : Heap} (hZ : Z.Warmed39 s.vm) (hw : ∀ d ∈ words, d.before a0 Z = true) {kI : Nat} (wi : (Jvm.Cond.instantiable ST kI).before a0 Z = true)
    {x b : Addr} {kC : ClassId} {cs bs : List Int32} {d v0 c0 : Value} {z N : Int32} {n n0 : Nat} (hx0 : n0 ≤ x) (hh0 : n0 ≤ h.size) (E : RoadKit.Exa Z h x ST) (V : RoadKit.Fld Z h x ST "value" "[B" v0) (C : RoadKit.Fld Z h x ST "coder" "B" c0) (K : RoadKit.Arv Z h b kC .char N (cs.map Value.int) d) (S : RoadKit.Sta Z h ST "COMPACT_STRINGS" "Z" (.int z)) (hz : ¬ z = 0)
    (hn : cs.length = n) (hN : N = Int32.ofNat n) (l0 : 0 < n) (l2 : n ≤ 4000) (hp : ∀ c ∈ cs, ¬ c < 0 ∧ ¬ (255 : Int32) < c) (hb : bs = cs.map (fun c => c.toInt8.toInt32)) (hfr : 4 ≤ R.frames) (hlo : W + 65 ≤ R.locals) :
    Back l R p e below s args (⟨"java/lang/String", "<init>", "([C)V"⟩ : MethodName) len W (fun P a => a = #[.ref x, .ref b] ∧ P.U.heap = h ∧ P.cells + 1 ≤ R.cells ∧ P.slots + n ≤ R.slots)
      (fun P _ v B => ∃ L, QV Z x N bs h n0 v B.U.heap L ∧ B.locs = P.locs ++ L ∧ B.cells = P.cells + 1 ∧ B.slots = P.slots + n) := by
  subst hn hN hb
  refine Back.mono (backArv hZ hw wi E V C K S hz (n32 (by omega)) l0 (by omega) (fun c hc => (hp c hc).2) hfr hlo) (fun P a hp => hp) (fun P a v B hp hq => ?_)
  obtain ⟨L, ⟨q1, q2, q3, q4, q5, q6, q7, ⟨kb, v1, v2⟩, q9⟩, hl, hc, hs⟩ := hq
  exact ⟨L, ⟨q1, fun y hy => by rw [q2 y hy]; exact hx0, q3, q5, q7, h.size, kb, hh0, Nat.le_refl _, Nat.ne_of_gt E.lt, q6, by rw [List.map_map]; exact v2⟩, hl, hc, hs⟩
end StrChars.Road
end Jvm.Pilot.@@N@@
namespace Jvm.Pilot.@@N@@
open Jvm Jvm.ClassFile Sem Op Lib Jvm.Free Jvm.Stand Jvm.LawKit Jvm.RoadKit Bundle Jvm.Pilot.@@N@@.Jvm.D
theorem own_delay (x : Int64) : ¬ (lcmpW (x &&& (4294967295 : Int64)) (0 : Int64) < (0 : Int32)) ∧ ¬ ((0 : Int32) < lcmpW (x &&& (4294967295 : Int64)) (4294967295 : Int64)) := by
  have h1 := Jvm.Kit.i64_mask x (4294967295 : Int64) (k := 32) (by decide) (by decide)
  rw [lw_lt, lw_gt, Int64.lt_iff_toInt_lt, Int64.lt_iff_toInt_lt, h1]
  have e0 : (0 : Int64).toInt = 0 := by decide
  have e1 : (4294967295 : Int64).toInt = 4294967295 := by decide
  rw [e0, e1]; omega
theorem own_n (x : Int32) : 0 ≤ (x &&& (3 : Int32)).toInt ∧ (x &&& (3 : Int32)).toInt < 4 := by
  have h1 := Jvm.Kit.i32_mask x (3 : Int32) (k := 2) (by decide) (by decide)
  rw [h1]; omega
theorem own_255 (x : Int32) : ¬ (x &&& (255 : Int32)) < 0 ∧ ¬ (255 : Int32) < (x &&& (255 : Int32)) := by
  have h1 := Jvm.Kit.i32_mask x (255 : Int32) (k := 8) (by decide) (by decide)
  have e0 : (0 : Int32).toInt = 0 := by decide
  have e1 : (255 : Int32).toInt = 255 := by decide
  rw [Int32.lt_iff_toInt_lt, Int32.lt_iff_toInt_lt, h1, e0, e1]; omega
def own_type (n : Int32) (d : Int64) : Int32 := if (0 : Int32) < n then 8 else if lcmpW d (0 : Int64) = 0 then 2 else 6
theorem own_neg {n : Int32} (h : 0 ≤ n.toInt ∧ n.toInt < 4) : ¬ n < 0 := by
  rw [Int32.lt_iff_toInt_lt]; have e0 : (0 : Int32).toInt = 0 := by decide
  rw [e0]; omega
theorem own_cap {n : Int32} (h : 0 ≤ n.toInt ∧ n.toInt < 4) : n.toNatClampNeg ≤ 3 := by
  unfold Int32.toNatClampNeg; omega
theorem own_len {n : Int32} (h : 0 ≤ n.toInt ∧ n.toInt < 4) : ¬ ((65535 : Int32) < n) := by
  rw [Int32.lt_iff_toInt_lt]; have e0 : (65535 : Int32).toInt = 65535 := by decide
  rw [e0]; omega
def Qn (h0 : Heap) (n0 : Nat) (v : Option Value) (h : Heap) (L : List Loc) : Prop := v = none ∧ Fr n0 L ∧ h = h0
def Qi (z : Int32) (h0 : Heap) (n0 : Nat) (v : Option Value) (h : Heap) (L : List Loc) : Prop := v = some (.int z) ∧ Fr n0 L ∧ h = h0
theorem pn_java_lang_Record : plainName "java/lang/Record" = true := by first | (simp [plainName, overriddenIn]; done) | decide +kernel
theorem ef_rm_rec (m : MethodId) (a1 : Addr) : entryFrame m #[(.ref a1)] 1 = mkF m 0 #[.val (.ref a1)] [] := by first | (simp [entryFrame, mkF, argsToLocals, Value.category]; done) | rfl
theorem d_jdk_30_method_1_0 : decode jdk_30_method_1_code 0 = .ok (.aload_n 0, 1) := by decide +kernel
theorem d_jdk_30_method_1_1 : decode jdk_30_method_1_code 1 = .ok (.invokespecial 1, 3) := by decide +kernel
theorem d_jdk_30_method_1_4 : decode jdk_30_method_1_code 4 = .ok (.return_, 1) := by decide +kernel
set_option maxRecDepth 65536 in
set_option maxHeartbeats 40000000 in
theorem rm_rec (l : Launch) (Z : State) (a0 : Array Value) (hw : ∀ d ∈ tables_1, d.before a0 Z = true) (ws : List Jvm.Cond) (a1 : Addr) (h0 : Heap) (n0 : Nat) (Z0 : n0 ≤ h0.size) :
    MetFree l (⟨"java/lang/Record", "<init>", "()V"⟩ : MethodName) (head1 (Jvm.Cond.code (⟨"java/lang/Record", "<init>", "()V"⟩ : MethodName) jdk_30_method_1_code 1 none :: ws) ({ frames := 1, cells := 0, slots := 0, locals := 12 } : Room)) (fun a U => a = #[(.ref a1)] ∧ Z.Warmed39 U.vm ∧ U.heap = h0) (fun _ _ _ _ _ => True) (fun _ U o U' => ∃ v L, o = .returned v ∧ Qn h0 n0 v U'.heap L ∧ FrameEnd U o U' L ({ frames := 1, cells := 0, slots := 0, locals := 12 } : Room).cells ({ frames := 1, cells := 0, slots := 0, locals := 12 } : Room).slots) := by
  refine MetFree.of_bodySF (plainFor_of_name pn_java_lang_Record) hisR ?_
  intro p e s m args below meth c s₁ Bd hml0 hP hK
  obtain ⟨rfl, hZ, hh⟩ := hP
  have hx := Bd.exec
  have hby := Bd.bytes
  have hml : c.maxLocals = 1 := hml0
  have hown : s.vm.findClass "java/lang/Record" = some m.cls := findClass_of_methodNamed Bd.named
  have hnm := (name_of_methodNamed Bd.named Bd.method).1
  have X0 : Stand p l e ({ frames := 1, cells := 0, slots := 0, locals := 12 } : Room) s m #[(.ref a1)] below meth c s₁ [] 0 0 := Stand.of_body Bd
  have e0 : s₁.heap = h0 := by rw [← hh, Bd.state]; rfl
  have N0 := Fr.nil n0
  obtain ⟨A0, hA0⟩ : ∃ A, A = s₁.setTop (entryFrame m #[(.ref a1)] 1) := ⟨_, rfl⟩
  have R0 : ∀ tgt, Steps p.tables e below (s₁.setTop (mkF m 0 #[.val (.ref a1)] [])) tgt → Steps p.tables e below A0 tgt := fun tgt hgo => by rw [hA0]; exact castTop (ef_rm_rec m a1) hgo
  have R1 : ∀ tgt, Steps p.tables e below (s₁.setTop (mkF m 1 #[.val (.ref a1)] [(.ref a1)])) tgt → Steps p.tables e below A0 tgt := by
    intro tgt hgo
    refine R0 tgt ?_
    show Steps p.tables e below (s₁.setTop (mkF m 0 #[.val (.ref a1)] [])) _
    refine XS.aloadN X0.here hx rfl (hb hby d_jdk_30_method_1_0) rfl rfl ?_
    show Steps p.tables e below (s₁.setTop (mkF m 1 #[.val (.ref a1)] [(.ref a1)])) _
    exact hgo
  obtain ⟨T2, X2, e2, st2⟩ := initO X0 hx hZ hown (hw _ (List.mem_of_getElem? (i := 42) rfl)) (hw _ (List.mem_of_getElem? (i := 14) rfl)) (hw _ (List.mem_of_getElem? (i := 15) rfl)) e0 (g := (mkF m 1 #[.val (.ref a1)] [(.ref a1)])) rfl (by rw [hml]; rfl) rfl (hb hby d_jdk_30_method_1_1) (by decide) (W := 0) (by show 2 * 0 + _ ≤ _; exact Nat.le_of_eq rfl) (by decide)
  have R3 : ∀ tgt, Steps p.tables e below (T2.setTop (mkF m 4 #[.val (.ref a1)] [])) tgt → Steps p.tables e below A0 tgt := fun tgt hgo => R1 tgt (st2 tgt hgo)
  subst hA0
  obtain ⟨fs, hr, hrun, hended, hW, hsame⟩ := X2.leave (v := none) (fun _ => rfl)
  refine ⟨_, _, R3 _ ?_, hrun, hended, _, _, rfl, ?_, ⟨_, rfl⟩, hW, hsame.mono (by decide) (by decide)⟩
  · show Steps p.tables e below (T2.setTop (mkF m 4 #[.val (.ref a1)] [])) _
    exact X2.returnOut hx Bd.returns (hb hby d_jdk_30_method_1_4) hr
  · show Qn h0 n0 _ T2.heap _
    rw [e2]
    exact ⟨rfl, N0, rfl⟩
theorem pn_com_example_loglane_loglane_wire_FrameWriter : plainName "com/example/loglane/loglane/wire/FrameWriter" = true := by first | (simp [plainName, overriddenIn]; done) | decide +kernel
theorem ef_rm_cd (m : MethodId) (q1 : Int64) : entryFrame m #[(.long q1)] 2 = mkF m 0 #[.val (.long q1), .second] [] := by first | (simp [entryFrame, mkF, argsToLocals, Value.category]; done) | rfl
theorem d_prog_318_method_6_0 : decode prog_318_method_6_code 0 = .ok (.lload_n 0, 1) := by decide +kernel
theorem d_prog_318_method_6_1 : decode prog_318_method_6_code 1 = .ok (.lconst 0, 1) := by decide +kernel
theorem d_prog_318_method_6_2 : decode prog_318_method_6_code 2 = .ok (.lcmp, 1) := by decide +kernel
theorem d_prog_318_method_6_3 : decode prog_318_method_6_code 3 = .ok (.ifCond .lt 11, 3) := by decide +kernel
theorem d_prog_318_method_6_6 : decode prog_318_method_6_code 6 = .ok (.lload_n 0, 1) := by decide +kernel
theorem d_prog_318_method_6_7 : decode prog_318_method_6_code 7 = .ok (.ldc2_w 91, 3) := by decide +kernel
theorem d_prog_318_method_6_10 : decode prog_318_method_6_code 10 = .ok (.lcmp, 1) := by decide +kernel
theorem d_prog_318_method_6_11 : decode prog_318_method_6_code 11 = .ok (.ifCond .le 17, 3) := by decide +kernel
theorem d_prog_318_method_6_28 : decode prog_318_method_6_code 28 = .ok (.return_, 1) := by decide +kernel
set_option maxRecDepth 65536 in
set_option maxHeartbeats 40000000 in
theorem rm_cd (l : Launch) (Z : State) (a0 : Array Value) (hw : ∀ d ∈ tables_1, d.before a0 Z = true) (ws : List Jvm.Cond) (q1 : Int64) (h0 : Heap) (n0 : Nat) (Z0 : n0 ≤ h0.size) (h1 : ¬ (lcmpW q1 (0 : Int64) < (0 : Int32))) (h2 : ¬ ((0 : Int32) < lcmpW q1 (4294967295 : Int64))) :
    MetFree l (⟨"com/example/loglane/loglane/wire/FrameWriter", "checkDelay", "(J)V"⟩ : MethodName) (head1 (Jvm.Cond.code (⟨"com/example/loglane/loglane/wire/FrameWriter", "checkDelay", "(J)V"⟩ : MethodName) prog_318_method_6_code 2 none :: ws) ({ frames := 0, cells := 0, slots := 0, locals := 0 } : Room)) (fun a U => a = #[(.long q1)] ∧ Z.Warmed39 U.vm ∧ U.heap = h0) (fun _ _ _ _ _ => True) (fun _ U o U' => ∃ v L, o = .returned v ∧ Qn h0 n0 v U'.heap L ∧ FrameEnd U o U' L ({ frames := 0, cells := 0, slots := 0, locals := 0 } : Room).cells ({ frames := 0, cells := 0, slots := 0, locals := 0 } : Room).slots) := by
  refine MetFree.of_bodySF (plainFor_of_name pn_com_example_loglane_loglane_wire_FrameWriter) hisR ?_
  intro p e s m args below meth c s₁ Bd hml0 hP hK
  obtain ⟨rfl, hZ, hh⟩ := hP
  have hx := Bd.exec
  have hby := Bd.bytes
  have hml : c.maxLocals = 2 := hml0
  have hown : s.vm.findClass "com/example/loglane/loglane/wire/FrameWriter" = some m.cls := findClass_of_methodNamed Bd.named
  have hnm := (name_of_methodNamed Bd.named Bd.method).1
  have X0 : Stand p l e ({ frames := 0, cells := 0, slots := 0, locals := 0 } : Room) s m #[(.long q1)] below meth c s₁ [] 0 0 := Stand.of_body Bd
  have e0 : s₁.heap = h0 := by rw [← hh, Bd.state]; rfl
  have N0 := Fr.nil n0
  obtain ⟨A0, hA0⟩ : ∃ A, A = s₁.setTop (entryFrame m #[(.long q1)] 2) := ⟨_, rfl⟩
  have R0 : ∀ tgt, Steps p.tables e below (s₁.setTop (mkF m 0 #[.val (.long q1), .second] [])) tgt → Steps p.tables e below A0 tgt := fun tgt hgo => by rw [hA0]; exact castTop (ef_rm_cd m q1) hgo
  have R1 : ∀ tgt, Steps p.tables e below (s₁.setTop (mkF m 28 #[.val (.long q1), .second] [])) tgt → Steps p.tables e below A0 tgt := by
    intro tgt hgo
    refine R0 tgt ?_
    show Steps p.tables e below (s₁.setTop (mkF m 0 #[.val (.long q1), .second] [])) _
    refine XS.lloadN X0.here hx rfl (hb hby d_prog_318_method_6_0) rfl ?_
    show Steps p.tables e below (s₁.setTop (mkF m 1 #[.val (.long q1), .second] [(.long q1)])) _
    refine XS.lconst X0.here hx rfl (hb hby d_prog_318_method_6_1) ?_
    show Steps p.tables e below (s₁.setTop (mkF m 2 #[.val (.long q1), .second] [(.long (0 : Int64)), (.long q1)])) _
    refine XS.lcmp X0.here hx rfl (hb hby d_prog_318_method_6_2) rfl ?_
    show Steps p.tables e below (s₁.setTop (mkF m 3 #[.val (.long q1), .second] [(.int (lcmpW q1 (0 : Int64)))])) _
    refine XS.ifNo X0.here hx rfl (hb hby d_prog_318_method_6_3) rfl ((if0 _ _).trans (flt (h1 : ¬ ((lcmpW q1 (0 : Int64)) < (0 : Int32)))).1) ?_
    show Steps p.tables e below (s₁.setTop (mkF m 6 #[.val (.long q1), .second] [])) _
    refine XS.lloadN X0.here hx rfl (hb hby d_prog_318_method_6_6) rfl ?_
    show Steps p.tables e below (s₁.setTop (mkF m 7 #[.val (.long q1), .second] [(.long q1)])) _
    refine X0.ldc2Long hx hown (mvT hZ (hw _ (List.mem_of_getElem? (i := 47) rfl))) (g := (mkF m 7 #[.val (.long q1), .second] [(.long q1)])) rfl (hb hby d_prog_318_method_6_7) _ ?_
    show Steps p.tables e below (s₁.setTop (mkF m 10 #[.val (.long q1), .second] [(.long (4294967295 : Int64)), (.long q1)])) _
    refine XS.lcmp X0.here hx rfl (hb hby d_prog_318_method_6_10) rfl ?_
    show Steps p.tables e below (s₁.setTop (mkF m 11 #[.val (.long q1), .second] [(.int (lcmpW q1 (4294967295 : Int64)))])) _
    refine XS.ifYes X0.here hx rfl (pc0 := 11) (pc' := 28) rfl (hb hby d_prog_318_method_6_11) rfl ((if0 _ _).trans (flt (h2 : ¬ ((0 : Int32) < (lcmpW q1 (4294967295 : Int64))))).2.2.2) (by decide) (by decide) ?_
    show Steps p.tables e below (s₁.setTop (mkF m 28 #[.val (.long q1), .second] [])) _
    exact hgo
  subst hA0
  obtain ⟨fs, hr, hrun, hended, hW, hsame⟩ := X0.leave (v := none) (fun _ => rfl)
  refine ⟨_, _, R1 _ ?_, hrun, hended, _, _, rfl, ?_, ⟨_, rfl⟩, hW, hsame.mono (by decide) (by decide)⟩
  · show Steps p.tables e below (s₁.setTop (mkF m 28 #[.val (.long q1), .second] [])) _
    exact X0.returnOut hx Bd.returns (hb hby d_prog_318_method_6_28) hr
  · show Qn h0 n0 _ s₁.heap _
    rw [e0]
    exact ⟨rfl, N0, rfl⟩
theorem ef_rm_cb (m : MethodId) (a1 : Addr) : entryFrame m #[(.ref a1)] 1 = mkF m 0 #[.val (.ref a1)] [] := by first | (simp [entryFrame, mkF, argsToLocals, Value.category]; done) | rfl
theorem d_prog_318_method_10_0 : decode prog_318_method_10_code 0 = .ok (.aload_n 0, 1) := by decide +kernel
theorem d_prog_318_method_10_1 : decode prog_318_method_10_code 1 = .ok (.arraylength, 1) := by decide +kernel
theorem d_prog_318_method_10_2 : decode prog_318_method_10_code 2 = .ok (.ldc 111, 2) := by decide +kernel
theorem d_prog_318_method_10_4 : decode prog_318_method_10_code 4 = .ok (.if_icmp .le 18, 3) := by decide +kernel
theorem d_prog_318_method_10_22 : decode prog_318_method_10_code 22 = .ok (.return_, 1) := by decide +kernel
set_option maxRecDepth 65536 in
set_option maxHeartbeats 40000000 in
theorem rm_cb (l : Launch) (Z : State) (a0 : Array Value) (hw : ∀ d ∈ tables_1, d.before a0 Z = true) (ws : List Jvm.Cond) (a1 : Addr) (kC : ClassId) (z1 : Int32) (vs : List Value) (h0 : Heap) (n0 : Nat) (Z0 : n0 ≤ h0.size) (V1 : Arv Z h0 a1 kC .byte z1 vs (.int (0 : Int32))) (h1 : ¬ ((65535 : Int32) < z1)) :
    MetFree l (⟨"com/example/loglane/loglane/wire/FrameWriter", "checkBytes", "([B)V"⟩ : MethodName) (head1 (Jvm.Cond.code (⟨"com/example/loglane/loglane/wire/FrameWriter", "checkBytes", "([B)V"⟩ : MethodName) prog_318_method_10_code 1 none :: ws) ({ frames := 0, cells := 0, slots := 0, locals := 0 } : Room)) (fun a U => a = #[(.ref a1)] ∧ Z.Warmed39 U.vm ∧ U.heap = h0) (fun _ _ _ _ _ => True) (fun _ U o U' => ∃ v L, o = .returned v ∧ Qn h0 n0 v U'.heap L ∧ FrameEnd U o U' L ({ frames := 0, cells := 0, slots := 0, locals := 0 } : Room).cells ({ frames := 0, cells := 0, slots := 0, locals := 0 } : Room).slots) := by
  refine MetFree.of_bodySF (plainFor_of_name pn_com_example_loglane_loglane_wire_FrameWriter) hisR ?_
  intro p e s m args below meth c s₁ Bd hml0 hP hK
  obtain ⟨rfl, hZ, hh⟩ := hP
  have hx := Bd.exec
  have hby := Bd.bytes
  have hml : c.maxLocals = 1 := hml0
  have hown : s.vm.findClass "com/example/loglane/loglane/wire/FrameWriter" = some m.cls := findClass_of_methodNamed Bd.named
  have hnm := (name_of_methodNamed Bd.named Bd.method).1
  have X0 : Stand p l e ({ frames := 0, cells := 0, slots := 0, locals := 0 } : Room) s m #[(.ref a1)] below meth c s₁ [] 0 0 := Stand.of_body Bd
  have e0 : s₁.heap = h0 := by rw [← hh, Bd.state]; rfl
  have N0 := Fr.nil n0
  obtain ⟨A0, hA0⟩ : ∃ A, A = s₁.setTop (entryFrame m #[(.ref a1)] 1) := ⟨_, rfl⟩
  have R0 : ∀ tgt, Steps p.tables e below (s₁.setTop (mkF m 0 #[.val (.ref a1)] [])) tgt → Steps p.tables e below A0 tgt := fun tgt hgo => by rw [hA0]; exact castTop (ef_rm_cb m a1) hgo
  have R1 : ∀ tgt, Steps p.tables e below (s₁.setTop (mkF m 1 #[.val (.ref a1)] [(.ref a1)])) tgt → Steps p.tables e below A0 tgt := by
    intro tgt hgo
    refine R0 tgt ?_
    show Steps p.tables e below (s₁.setTop (mkF m 0 #[.val (.ref a1)] [])) _
    refine XS.aloadN X0.here hx rfl (hb hby d_prog_318_method_10_0) rfl rfl ?_
    show Steps p.tables e below (s₁.setTop (mkF m 1 #[.val (.ref a1)] [(.ref a1)])) _
    exact hgo
  obtain ⟨cl2, Ar2, -, S2, Nn2, -, -⟩ := id V1
  have R3 : ∀ tgt, Steps p.tables e below (s₁.setTop (mkF m 2 #[.val (.ref a1)] [(.int z1)])) tgt → Steps p.tables e below A0 tgt := by
    intro tgt hgo
    refine R1 tgt ?_
    refine X0.arraylength hx (by rw [e0]; exact Ar2.1) (State.isArrayOf_alike hZ.alike Ar2.2.1) (g := (mkF m 1 #[.val (.ref a1)] [(.ref a1)])) rfl rfl (hb hby d_prog_318_method_10_1) _ ?_
    rw [len_of S2 Nn2]
    exact hgo
  have R4 : ∀ tgt, Steps p.tables e below (s₁.setTop (mkF m 22 #[.val (.ref a1)] [])) tgt → Steps p.tables e below A0 tgt := by
    intro tgt hgo
    refine R3 tgt ?_
    show Steps p.tables e below (s₁.setTop (mkF m 2 #[.val (.ref a1)] [(.int z1)])) _
    refine X0.ldcInt hx hown (mvT hZ (hw _ (List.mem_of_getElem? (i := 51) rfl))) (g := (mkF m 2 #[.val (.ref a1)] [(.int z1)])) rfl (hb hby d_prog_318_method_10_2) _ ?_
    show Steps p.tables e below (s₁.setTop (mkF m 4 #[.val (.ref a1)] [(.int (65535 : Int32)), (.int z1)])) _
    refine XS.icmpYes X0.here hx rfl (pc0 := 4) (pc' := 22) rfl (hb hby d_prog_318_method_10_4) rfl (flt (h1 : ¬ ((65535 : Int32) < z1))).2.2.2 (by decide) (by decide) ?_
    show Steps p.tables e below (s₁.setTop (mkF m 22 #[.val (.ref a1)] [])) _
    exact hgo
  subst hA0
  obtain ⟨fs, hr, hrun, hended, hW, hsame⟩ := X0.leave (v := none) (fun _ => rfl)
  refine ⟨_, _, R4 _ ?_, hrun, hended, _, _, rfl, ?_, ⟨_, rfl⟩, hW, hsame.mono (by decide) (by decide)⟩
  · show Steps p.tables e below (s₁.setTop (mkF m 22 #[.val (.ref a1)] [])) _
    exact X0.returnOut hx Bd.returns (hb hby d_prog_318_method_10_22) hr
  · show Qn h0 n0 _ s₁.heap _
    rw [e0]
    exact ⟨rfl, N0, rfl⟩
def Qc (Z : State) (a1 a5 : Addr) (q4 : Int64) (h0 : Heap) (n0 : Nat) (v : Option Value) (h : Heap) (L : List Loc) : Prop := v = none ∧ Fr n0 L ∧ Keep h0 h [a1] ∧ Exa Z h a1 "com/example/loglane/loglane/wire/Frame$Publish" ∧ Fld Z h a1 "com/example/loglane/loglane/wire/Frame$Publish" "delayMillis" "J" (.long q4) ∧ Fld Z h a1 "com/example/loglane/loglane/wire/Frame$Publish" "key" "[B" (.ref a5)
theorem pn_com_example_loglane_loglane_wire_Frame_Publish : plainName "com/example/loglane/loglane/wire/Frame$Publish" = true := by first | (simp [plainName, overriddenIn]; done) | decide +kernel
theorem ef_rm_ini (m : MethodId) (a1 : Addr) (p2 : Int32) (a3 : Addr) (q4 : Int64) (a5 : Addr) (a6 : Addr) : entryFrame m #[(.ref a1), (.int p2), (.ref a3), (.long q4), (.ref a5), (.ref a6)] 7 = mkF m 0 #[.val (.ref a1), .val (.int p2), .val (.ref a3), .val (.long q4), .second, .val (.ref a5), .val (.ref a6)] [] := by first | (simp [entryFrame, mkF, argsToLocals, Value.category]; done) | rfl
theorem d_prog_265_method_1_0 : decode prog_265_method_1_code 0 = .ok (.aload_n 0, 1) := by decide +kernel
theorem d_prog_265_method_1_1 : decode prog_265_method_1_code 1 = .ok (.invokespecial 1, 3) := by decide +kernel
theorem pd_0 : parseMethodDescriptor "()V" = some ⟨[], none⟩ := by decide +kernel
theorem d_prog_265_method_1_4 : decode prog_265_method_1_code 4 = .ok (.lload_n 3, 1) := by decide +kernel
theorem d_prog_265_method_1_5 : decode prog_265_method_1_code 5 = .ok (.invokestatic 7, 3) := by decide +kernel
theorem pd_1 : parseMethodDescriptor "(J)V" = some ⟨[.long], none⟩ := by decide +kernel
theorem d_prog_265_method_1_8 : decode prog_265_method_1_code 8 = .ok (.aload 5, 2) := by decide +kernel
theorem d_prog_265_method_1_10 : decode prog_265_method_1_code 10 = .ok (.invokestatic 13, 3) := by decide +kernel
theorem pd_2 : parseMethodDescriptor "([B)V" = some ⟨[(.array .byte)], none⟩ := by decide +kernel
theorem d_prog_265_method_1_13 : decode prog_265_method_1_code 13 = .ok (.aload_n 0, 1) := by decide +kernel
theorem d_prog_265_method_1_14 : decode prog_265_method_1_code 14 = .ok (.iload_n 1, 1) := by decide +kernel
theorem d_prog_265_method_1_15 : decode prog_265_method_1_code 15 = .ok (.putfield 17, 3) := by decide +kernel
theorem d_prog_265_method_1_18 : decode prog_265_method_1_code 18 = .ok (.aload_n 0, 1) := by decide +kernel
theorem d_prog_265_method_1_19 : decode prog_265_method_1_code 19 = .ok (.aload_n 2, 1) := by decide +kernel
theorem d_prog_265_method_1_20 : decode prog_265_method_1_code 20 = .ok (.putfield 23, 3) := by decide +kernel
theorem d_prog_265_method_1_23 : decode prog_265_method_1_code 23 = .ok (.aload_n 0, 1) := by decide +kernel
theorem d_prog_265_method_1_24 : decode prog_265_method_1_code 24 = .ok (.lload_n 3, 1) := by decide +kernel
theorem d_prog_265_method_1_25 : decode prog_265_method_1_code 25 = .ok (.putfield 27, 3) := by decide +kernel
theorem d_prog_265_method_1_28 : decode prog_265_method_1_code 28 = .ok (.aload_n 0, 1) := by decide +kernel
theorem d_prog_265_method_1_29 : decode prog_265_method_1_code 29 = .ok (.aload 5, 2) := by decide +kernel
theorem d_prog_265_method_1_31 : decode prog_265_method_1_code 31 = .ok (.putfield 31, 3) := by decide +kernel
theorem d_prog_265_method_1_34 : decode prog_265_method_1_code 34 = .ok (.aload_n 0, 1) := by decide +kernel
theorem d_prog_265_method_1_35 : decode prog_265_method_1_code 35 = .ok (.aload 6, 2) := by decide +kernel
theorem d_prog_265_method_1_37 : decode prog_265_method_1_code 37 = .ok (.putfield 35, 3) := by decide +kernel
theorem d_prog_265_method_1_40 : decode prog_265_method_1_code 40 = .ok (.return_, 1) := by decide +kernel
set_option maxRecDepth 65536 in
set_option maxHeartbeats 40000000 in
theorem rm_ini (l : Launch) (Z : State) (a0 : Array Value) (hw : ∀ d ∈ tables_1, d.before a0 Z = true) (ws : List Jvm.Cond) (a1 : Addr) (p2 : Int32) (a3 : Addr) (q4 : Int64) (a5 : Addr) (a6 : Addr) (kC : ClassId) (z1 : Int32) (vs : List Value) (h0 : Heap) (n0 : Nat) (Z0 : n0 ≤ h0.size) (ge1 : n0 ≤ a1) (E1 : Exa Z h0 a1 "com/example/loglane/loglane/wire/Frame$Publish") (F_request : Fld Z h0 a1 "com/example/loglane/loglane/wire/Frame$Publish" "request" "I" (.int (0 : Int32))) (F_topic : Fld Z h0 a1 "com/example/loglane/loglane/wire/Frame$Publish" "topic" "Ljava/lang/String;" .null) (F_delayMillis : Fld Z h0 a1 "com/example/loglane/loglane/wire/Frame$Publish" "delayMillis" "J" (.long (0 : Int64))) (F_key : Fld Z h0 a1 "com/example/loglane/loglane/wire/Frame$Publish" "key" "[B" .null) (F_body : Fld Z h0 a1 "com/example/loglane/loglane/wire/Frame$Publish" "body" "[B" .null) (V1 : Arv Z h0 a5 kC .byte z1 vs (.int (0 : Int32))) (h1 : ¬ ((65535 : Int32) < z1)) (h2 : ¬ (lcmpW q4 (0 : Int64) < (0 : Int32))) (h3 : ¬ ((0 : Int32) < lcmpW q4 (4294967295 : Int64))) :
    MetFree l (⟨"com/example/loglane/loglane/wire/Frame$Publish", "<init>", "(ILjava/lang/String;J[B[B)V"⟩ : MethodName) (head1 (Jvm.Cond.code (⟨"com/example/loglane/loglane/wire/Frame$Publish", "<init>", "(ILjava/lang/String;J[B[B)V"⟩ : MethodName) prog_265_method_1_code 7 none :: ws) ({ frames := 2, cells := 0, slots := 0, locals := 40 } : Room)) (fun a U => a = #[(.ref a1), (.int p2), (.ref a3), (.long q4), (.ref a5), (.ref a6)] ∧ Z.Warmed39 U.vm ∧ U.heap = h0) (fun _ _ _ _ _ => True) (fun _ U o U' => ∃ v L, o = .returned v ∧ Qc Z a1 a5 q4 h0 n0 v U'.heap L ∧ FrameEnd U o U' L ({ frames := 2, cells := 0, slots := 0, locals := 40 } : Room).cells ({ frames := 2, cells := 0, slots := 0, locals := 40 } : Room).slots) := by
  refine MetFree.of_bodySF (plainFor_of_name pn_com_example_loglane_loglane_wire_Frame_Publish) hisR ?_
  intro p e s m args below meth c s₁ Bd hml0 hP hK
  obtain ⟨rfl, hZ, hh⟩ := hP
  have hx := Bd.exec
  have hby := Bd.bytes
  have hml : c.maxLocals = 7 := hml0
  have hown : s.vm.findClass "com/example/loglane/loglane/wire/Frame$Publish" = some m.cls := findClass_of_methodNamed Bd.named
  have hnm := (name_of_methodNamed Bd.named Bd.method).1
  have X0 : Stand p l e ({ frames := 2, cells := 0, slots := 0, locals := 40 } : Room) s m #[(.ref a1), (.int p2), (.ref a3), (.long q4), (.ref a5), (.ref a6)] below meth c s₁ [] 0 0 := Stand.of_body Bd
  have e0 : s₁.heap = h0 := by rw [← hh, Bd.state]; rfl
  have N0 := Fr.nil n0
  obtain ⟨A0, hA0⟩ : ∃ A, A = s₁.setTop (entryFrame m #[(.ref a1), (.int p2), (.ref a3), (.long q4), (.ref a5), (.ref a6)] 7) := ⟨_, rfl⟩
  have R0 : ∀ tgt, Steps p.tables e below (s₁.setTop (mkF m 0 #[.val (.ref a1), .val (.int p2), .val (.ref a3), .val (.long q4), .second, .val (.ref a5), .val (.ref a6)] [])) tgt → Steps p.tables e below A0 tgt := fun tgt hgo => by rw [hA0]; exact castTop (ef_rm_ini m a1 p2 a3 q4 a5 a6) hgo
  have hZn := Z0
  have hK : Keep h0 h0 [a1] := Keep.refl _ _
  have R1 : ∀ tgt, Steps p.tables e below (s₁.setTop (mkF m 1 #[.val (.ref a1), .val (.int p2), .val (.ref a3), .val (.long q4), .second, .val (.ref a5), .val (.ref a6)] [(.ref a1)])) tgt → Steps p.tables e below A0 tgt := by
    intro tgt hgo
    refine R0 tgt ?_
    show Steps p.tables e below (s₁.setTop (mkF m 0 #[.val (.ref a1), .val (.int p2), .val (.ref a3), .val (.long q4), .second, .val (.ref a5), .val (.ref a6)] [])) _
    refine XS.aloadN X0.here hx rfl (hb hby d_prog_265_method_1_0) rfl rfl ?_
    show Steps p.tables e below (s₁.setTop (mkF m 1 #[.val (.ref a1), .val (.int p2), .val (.ref a3), .val (.long q4), .second, .val (.ref a5), .val (.ref a6)] [(.ref a1)])) _
    exact hgo
  obtain ⟨_, _, ⟨T2, L2, k2, n2⟩, -, X2, ⟨Lc2, hQ2, l2, y2, z2⟩, st2⟩ := X0.specialBack hx (y := (⟨"java/lang/Record", "<init>", "()V"⟩ : MethodName)) rfl hown (mvT hZ (hw _ (List.mem_of_getElem? (i := 37) rfl))) (mvT hZ (hw _ (List.mem_of_getElem? (i := 38) rfl))) (mvT hZ (hw _ (List.mem_of_getElem? (i := 41) rfl))) (by decide) (backOf (W := 0) (rm_rec l Z a0 hw [] a1 h0 n0 Z0) hZ (hw _ (List.mem_of_getElem? (i := 41) rfl)) (hw _ (List.mem_of_getElem? (i := 40) rfl)) (by decide) (by decide)) (g := (mkF m 1 #[.val (.ref a1), .val (.int p2), .val (.ref a3), .val (.long q4), .second, .val (.ref a5), .val (.ref a6)] [(.ref a1)])) rfl (by rw [hml]; rfl) (Steps.refl _) (a := a1) (argsL := []) (rest := []) (lenOf pd_0 rfl) rfl (by show 2 * 0 + _ ≤ _; exact Nat.le_of_eq rfl) (hb hby d_prog_265_method_1_1) (fun _ _ => ⟨rfl, e0, (by decide : 0 + 0 ≤ _), (by decide : 0 + 0 ≤ _)⟩)
  dsimp only [Pt.U, Pt.locs, Pt.cells, Pt.slots] at X2 l2 y2 z2 st2 hQ2
  subst l2 y2 z2
  obtain ⟨rfl, N2q, e2⟩ := hQ2
  have N2 := Fr.app N0 N2q
  have R3 : ∀ tgt, Steps p.tables e below (T2.setTop (mkF m 4 #[.val (.ref a1), .val (.int p2), .val (.ref a3), .val (.long q4), .second, .val (.ref a5), .val (.ref a6)] [])) tgt → Steps p.tables e below A0 tgt := fun tgt hgo => R1 tgt (st2.trans hgo)
  have R4 : ∀ tgt, Steps p.tables e below (T2.setTop (mkF m 5 #[.val (.ref a1), .val (.int p2), .val (.ref a3), .val (.long q4), .second, .val (.ref a5), .val (.ref a6)] [(.long q4)])) tgt → Steps p.tables e below A0 tgt := by
    intro tgt hgo
    refine R3 tgt ?_
    show Steps p.tables e below (T2.setTop (mkF m 4 #[.val (.ref a1), .val (.int p2), .val (.ref a3), .val (.long q4), .second, .val (.ref a5), .val (.ref a6)] [])) _
    refine XS.lloadN X2.here hx rfl (hb hby d_prog_265_method_1_4) rfl ?_
    show Steps p.tables e below (T2.setTop (mkF m 5 #[.val (.ref a1), .val (.int p2), .val (.ref a3), .val (.long q4), .second, .val (.ref a5), .val (.ref a6)] [(.long q4)])) _
    exact hgo
  obtain ⟨_, _, ⟨T5, L5, k5, n5⟩, -, X5, ⟨Lc5, hQ5, l5, y5, z5⟩, st5⟩ := Jvm.LawKit.callS X2 hx (y := (⟨"com/example/loglane/loglane/wire/FrameWriter", "checkDelay", "(J)V"⟩ : MethodName)) hown (mvT hZ (hw _ (List.mem_of_getElem? (i := 43) rfl))) (mvT hZ (hw _ (List.mem_of_getElem? (i := 44) rfl))) (mvT hZ (hw _ (List.mem_of_getElem? (i := 45) rfl))) (mvT hZ (hw _ (List.mem_of_getElem? (i := 46) rfl))) (by decide) (backOf (W := 0) (rm_cd l Z a0 hw [] q4 h0 n0 Z0 h2 h3) hZ (hw _ (List.mem_of_getElem? (i := 46) rfl)) (hw _ (List.mem_of_getElem? (i := 45) rfl)) (by decide) (by decide)) (g := (mkF m 5 #[.val (.ref a1), .val (.int p2), .val (.ref a3), .val (.long q4), .second, .val (.ref a5), .val (.ref a6)] [(.long q4)])) rfl (by rw [hml]; rfl) (argsL := [(.long q4)]) (rest := []) (lenOf pd_1 rfl) rfl (by show 2 * 0 + _ ≤ _; exact Nat.le_of_eq rfl) (hb hby d_prog_265_method_1_5) (fun _ _ => ⟨rfl, e2, (by decide : 0 + 0 ≤ _), (by decide : 0 + 0 ≤ _)⟩)
  dsimp only [Pt.U, Pt.locs, Pt.cells, Pt.slots] at X5 l5 y5 z5 st5 hQ5
  subst l5 y5 z5
  obtain ⟨rfl, N5q, e5⟩ := hQ5
  have N5 := Fr.app N2 N5q
  have R6 : ∀ tgt, Steps p.tables e below (T5.setTop (mkF m 8 #[.val (.ref a1), .val (.int p2), .val (.ref a3), .val (.long q4), .second, .val (.ref a5), .val (.ref a6)] [])) tgt → Steps p.tables e below A0 tgt := fun tgt hgo => R4 tgt (st5 tgt hgo)
  have R7 : ∀ tgt, Steps p.tables e below (T5.setTop (mkF m 10 #[.val (.ref a1), .val (.int p2), .val (.ref a3), .val (.long q4), .second, .val (.ref a5), .val (.ref a6)] [(.ref a5)])) tgt → Steps p.tables e below A0 tgt := by
    intro tgt hgo
    refine R6 tgt ?_
    show Steps p.tables e below (T5.setTop (mkF m 8 #[.val (.ref a1), .val (.int p2), .val (.ref a3), .val (.long q4), .second, .val (.ref a5), .val (.ref a6)] [])) _
    refine XS.aload X5.here hx rfl (hb hby d_prog_265_method_1_8) rfl rfl ?_
    show Steps p.tables e below (T5.setTop (mkF m 10 #[.val (.ref a1), .val (.int p2), .val (.ref a3), .val (.long q4), .second, .val (.ref a5), .val (.ref a6)] [(.ref a5)])) _
    exact hgo
  obtain ⟨_, _, ⟨T8, L8, k8, n8⟩, -, X8, ⟨Lc8, hQ8, l8, y8, z8⟩, st8⟩ := Jvm.LawKit.callS X5 hx (y := (⟨"com/example/loglane/loglane/wire/FrameWriter", "checkBytes", "([B)V"⟩ : MethodName)) hown (mvT hZ (hw _ (List.mem_of_getElem? (i := 48) rfl))) (mvT hZ (hw _ (List.mem_of_getElem? (i := 49) rfl))) (mvT hZ (hw _ (List.mem_of_getElem? (i := 45) rfl))) (mvT hZ (hw _ (List.mem_of_getElem? (i := 50) rfl))) (by decide) (backOf (W := 0) (rm_cb l Z a0 hw [] a5 kC z1 vs h0 n0 Z0 V1 h1) hZ (hw _ (List.mem_of_getElem? (i := 50) rfl)) (hw _ (List.mem_of_getElem? (i := 45) rfl)) (by decide) (by decide)) (g := (mkF m 10 #[.val (.ref a1), .val (.int p2), .val (.ref a3), .val (.long q4), .second, .val (.ref a5), .val (.ref a6)] [(.ref a5)])) rfl (by rw [hml]; rfl) (argsL := [(.ref a5)]) (rest := []) (lenOf pd_2 rfl) rfl (by show 2 * 0 + _ ≤ _; exact Nat.le_of_eq rfl) (hb hby d_prog_265_method_1_10) (fun _ _ => ⟨rfl, e5, (by decide : 0 + 0 ≤ _), (by decide : 0 + 0 ≤ _)⟩)
  dsimp only [Pt.U, Pt.locs, Pt.cells, Pt.slots] at X8 l8 y8 z8 st8 hQ8
  subst l8 y8 z8
  obtain ⟨rfl, N8q, e8⟩ := hQ8
  have N8 := Fr.app N5 N8q
  have R9 : ∀ tgt, Steps p.tables e below (T8.setTop (mkF m 13 #[.val (.ref a1), .val (.int p2), .val (.ref a3), .val (.long q4), .second, .val (.ref a5), .val (.ref a6)] [])) tgt → Steps p.tables e below A0 tgt := fun tgt hgo => R7 tgt (st8 tgt hgo)
  have R10 : ∀ tgt, Steps p.tables e below (T8.setTop (mkF m 15 #[.val (.ref a1), .val (.int p2), .val (.ref a3), .val (.long q4), .second, .val (.ref a5), .val (.ref a6)] [(.int p2), (.ref a1)])) tgt → Steps p.tables e below A0 tgt := by
    intro tgt hgo
    refine R9 tgt ?_
    show Steps p.tables e below (T8.setTop (mkF m 13 #[.val (.ref a1), .val (.int p2), .val (.ref a3), .val (.long q4), .second, .val (.ref a5), .val (.ref a6)] [])) _
    refine XS.aloadN X8.here hx rfl (hb hby d_prog_265_method_1_13) rfl rfl ?_
    show Steps p.tables e below (T8.setTop (mkF m 14 #[.val (.ref a1), .val (.int p2), .val (.ref a3), .val (.long q4), .second, .val (.ref a5), .val (.ref a6)] [(.ref a1)])) _
    refine XS.iloadN X8.here hx rfl (hb hby d_prog_265_method_1_14) rfl ?_
    show Steps p.tables e below (T8.setTop (mkF m 15 #[.val (.ref a1), .val (.int p2), .val (.ref a3), .val (.long q4), .second, .val (.ref a5), .val (.ref a6)] [(.int p2), (.ref a1)])) _
    exact hgo
  obtain ⟨T11, h11, X11, e11, W11, st11⟩ := putF X8 hx hZ hown (host := "") (Or.inl (hw _ (List.mem_of_getElem? (i := 52) rfl))) Via.refl e8 F_request E1 (Or.inr ⟨(hw _ (List.mem_of_getElem? (i := 53) rfl)), rfl, hnm⟩) (hw _ (List.mem_of_getElem? (i := 32) rfl)) (ty := .int) (by decide) rfl rfl (g := (mkF m 15 #[.val (.ref a1), .val (.int p2), .val (.ref a3), .val (.long q4), .second, .val (.ref a5), .val (.ref a6)] [(.int p2), (.ref a1)])) rfl rfl (hb hby d_prog_265_method_1_15)
  have N11 := Fr.snoc X11 N8 ge1
  replace hZn := Nat.le_trans hZn (Keep.of_wr W11).1
  replace hK := hK.wr W11 (Or.inl (List.mem_of_getElem? (i := 0) rfl))
  replace E1 := E1.wr W11
  replace F_request := F_request.same W11
  replace F_topic := F_topic.other W11 (Or.inr (slot_ne (Or.inr (hw _ (List.mem_of_getElem? (i := 55) rfl))) (Or.inr (hw _ (List.mem_of_getElem? (i := 53) rfl))) (by decide) (t := (.object "java/lang/String")) (t' := .int) (by decide) (by decide)))
  replace F_delayMillis := F_delayMillis.other W11 (Or.inr (slot_ne (Or.inr (hw _ (List.mem_of_getElem? (i := 57) rfl))) (Or.inr (hw _ (List.mem_of_getElem? (i := 53) rfl))) (by decide) (t := .long) (t' := .int) (by decide) (by decide)))
  replace F_key := F_key.other W11 (Or.inr (slot_ne (Or.inr (hw _ (List.mem_of_getElem? (i := 59) rfl))) (Or.inr (hw _ (List.mem_of_getElem? (i := 53) rfl))) (by decide) (t := (.array .byte)) (t' := .int) (by decide) (by decide)))
  replace F_body := F_body.other W11 (Or.inr (slot_ne (Or.inr (hw _ (List.mem_of_getElem? (i := 61) rfl))) (Or.inr (hw _ (List.mem_of_getElem? (i := 53) rfl))) (by decide) (t := (.array .byte)) (t' := .int) (by decide) (by decide)))
  have R12 : ∀ tgt, Steps p.tables e below (T11.setTop (mkF m 18 #[.val (.ref a1), .val (.int p2), .val (.ref a3), .val (.long q4), .second, .val (.ref a5), .val (.ref a6)] [])) tgt → Steps p.tables e below A0 tgt := fun tgt hgo => R10 tgt (st11 tgt hgo)
  have R13 : ∀ tgt, Steps p.tables e below (T11.setTop (mkF m 20 #[.val (.ref a1), .val (.int p2), .val (.ref a3), .val (.long q4), .second, .val (.ref a5), .val (.ref a6)] [(.ref a3), (.ref a1)])) tgt → Steps p.tables e below A0 tgt := by
    intro tgt hgo
    refine R12 tgt ?_
    show Steps p.tables e below (T11.setTop (mkF m 18 #[.val (.ref a1), .val (.int p2), .val (.ref a3), .val (.long q4), .second, .val (.ref a5), .val (.ref a6)] [])) _
    refine XS.aloadN X11.here hx rfl (hb hby d_prog_265_method_1_18) rfl rfl ?_
    show Steps p.tables e below (T11.setTop (mkF m 19 #[.val (.ref a1), .val (.int p2), .val (.ref a3), .val (.long q4), .second, .val (.ref a5), .val (.ref a6)] [(.ref a1)])) _
    refine XS.aloadN X11.here hx rfl (hb hby d_prog_265_method_1_19) rfl rfl ?_
    show Steps p.tables e below (T11.setTop (mkF m 20 #[.val (.ref a1), .val (.int p2), .val (.ref a3), .val (.long q4), .second, .val (.ref a5), .val (.ref a6)] [(.ref a3), (.ref a1)])) _
    exact hgo
  obtain ⟨T14, h14, X14, e14, W14, st14⟩ := putF X11 hx hZ hown (host := "") (Or.inl (hw _ (List.mem_of_getElem? (i := 54) rfl))) Via.refl e11 F_topic E1 (Or.inr ⟨(hw _ (List.mem_of_getElem? (i := 55) rfl)), rfl, hnm⟩) (hw _ (List.mem_of_getElem? (i := 32) rfl)) (ty := (.object "java/lang/String")) (by decide) rfl rfl (g := (mkF m 20 #[.val (.ref a1), .val (.int p2), .val (.ref a3), .val (.long q4), .second, .val (.ref a5), .val (.ref a6)] [(.ref a3), (.ref a1)])) rfl rfl (hb hby d_prog_265_method_1_20)
  have N14 := Fr.snoc X14 N11 ge1
  replace hZn := Nat.le_trans hZn (Keep.of_wr W14).1
  replace hK := hK.wr W14 (Or.inl (List.mem_of_getElem? (i := 0) rfl))
  replace E1 := E1.wr W14
  replace F_request := F_request.other W14 (Or.inr (slot_ne (Or.inr (hw _ (List.mem_of_getElem? (i := 53) rfl))) (Or.inr (hw _ (List.mem_of_getElem? (i := 55) rfl))) (by decide) (t := .int) (t' := (.object "java/lang/String")) (by decide) (by decide)))
  replace F_topic := F_topic.same W14
  replace F_delayMillis := F_delayMillis.other W14 (Or.inr (slot_ne (Or.inr (hw _ (List.mem_of_getElem? (i := 57) rfl))) (Or.inr (hw _ (List.mem_of_getElem? (i := 55) rfl))) (by decide) (t := .long) (t' := (.object "java/lang/String")) (by decide) (by decide)))
  replace F_key := F_key.other W14 (Or.inr (slot_ne (Or.inr (hw _ (List.mem_of_getElem? (i := 59) rfl))) (Or.inr (hw _ (List.mem_of_getElem? (i := 55) rfl))) (by decide) (t := (.array .byte)) (t' := (.object "java/lang/String")) (by decide) (by decide)))
  replace F_body := F_body.other W14 (Or.inr (slot_ne (Or.inr (hw _ (List.mem_of_getElem? (i := 61) rfl))) (Or.inr (hw _ (List.mem_of_getElem? (i := 55) rfl))) (by decide) (t := (.array .byte)) (t' := (.object "java/lang/String")) (by decide) (by decide)))
  have R15 : ∀ tgt, Steps p.tables e below (T14.setTop (mkF m 23 #[.val (.ref a1), .val (.int p2), .val (.ref a3), .val (.long q4), .second, .val (.ref a5), .val (.ref a6)] [])) tgt → Steps p.tables e below A0 tgt := fun tgt hgo => R13 tgt (st14 tgt hgo)
  have R16 : ∀ tgt, Steps p.tables e below (T14.setTop (mkF m 25 #[.val (.ref a1), .val (.int p2), .val (.ref a3), .val (.long q4), .second, .val (.ref a5), .val (.ref a6)] [(.long q4), (.ref a1)])) tgt → Steps p.tables e below A0 tgt := by
    intro tgt hgo
    refine R15 tgt ?_
    show Steps p.tables e below (T14.setTop (mkF m 23 #[.val (.ref a1), .val (.int p2), .val (.ref a3), .val (.long q4), .second, .val (.ref a5), .val (.ref a6)] [])) _
    refine XS.aloadN X14.here hx rfl (hb hby d_prog_265_method_1_23) rfl rfl ?_
    show Steps p.tables e below (T14.setTop (mkF m 24 #[.val (.ref a1), .val (.int p2), .val (.ref a3), .val (.long q4), .second, .val (.ref a5), .val (.ref a6)] [(.ref a1)])) _
    refine XS.lloadN X14.here hx rfl (hb hby d_prog_265_method_1_24) rfl ?_
    show Steps p.tables e below (T14.setTop (mkF m 25 #[.val (.ref a1), .val (.int p2), .val (.ref a3), .val (.long q4), .second, .val (.ref a5), .val (.ref a6)] [(.long q4), (.ref a1)])) _
    exact hgo
  obtain ⟨T17, h17, X17, e17, W17, st17⟩ := putF X14 hx hZ hown (host := "") (Or.inl (hw _ (List.mem_of_getElem? (i := 56) rfl))) Via.refl e14 F_delayMillis E1 (Or.inr ⟨(hw _ (List.mem_of_getElem? (i := 57) rfl)), rfl, hnm⟩) (hw _ (List.mem_of_getElem? (i := 32) rfl)) (ty := .long) (by decide) rfl rfl (g := (mkF m 25 #[.val (.ref a1), .val (.int p2), .val (.ref a3), .val (.long q4), .second, .val (.ref a5), .val (.ref a6)] [(.long q4), (.ref a1)])) rfl rfl (hb hby d_prog_265_method_1_25)
  have N17 := Fr.snoc X17 N14 ge1
  replace hZn := Nat.le_trans hZn (Keep.of_wr W17).1
  replace hK := hK.wr W17 (Or.inl (List.mem_of_getElem? (i := 0) rfl))
  replace E1 := E1.wr W17
  replace F_request := F_request.other W17 (Or.inr (slot_ne (Or.inr (hw _ (List.mem_of_getElem? (i := 53) rfl))) (Or.inr (hw _ (List.mem_of_getElem? (i := 57) rfl))) (by decide) (t := .int) (t' := .long) (by decide) (by decide)))
  replace F_topic := F_topic.other W17 (Or.inr (slot_ne (Or.inr (hw _ (List.mem_of_getElem? (i := 55) rfl))) (Or.inr (hw _ (List.mem_of_getElem? (i := 57) rfl))) (by decide) (t := (.object "java/lang/String")) (t' := .long) (by decide) (by decide)))
  replace F_delayMillis := F_delayMillis.same W17
  replace F_key := F_key.other W17 (Or.inr (slot_ne (Or.inr (hw _ (List.mem_of_getElem? (i := 59) rfl))) (Or.inr (hw _ (List.mem_of_getElem? (i := 57) rfl))) (by decide) (t := (.array .byte)) (t' := .long) (by decide) (by decide)))
  replace F_body := F_body.other W17 (Or.inr (slot_ne (Or.inr (hw _ (List.mem_of_getElem? (i := 61) rfl))) (Or.inr (hw _ (List.mem_of_getElem? (i := 57) rfl))) (by decide) (t := (.array .byte)) (t' := .long) (by decide) (by decide)))
  have R18 : ∀ tgt, Steps p.tables e below (T17.setTop (mkF m 28 #[.val (.ref a1), .val (.int p2), .val (.ref a3), .val (.long q4), .second, .val (.ref a5), .val (.ref a6)] [])) tgt → Steps p.tables e below A0 tgt := fun tgt hgo => R16 tgt (st17 tgt hgo)
  have R19 : ∀ tgt, Steps p.tables e below (T17.setTop (mkF m 31 #[.val (.ref a1), .val (.int p2), .val (.ref a3), .val (.long q4), .second, .val (.ref a5), .val (.ref a6)] [(.ref a5), (.ref a1)])) tgt → Steps p.tables e below A0 tgt := by
    intro tgt hgo
    refine R18 tgt ?_
    show Steps p.tables e below (T17.setTop (mkF m 28 #[.val (.ref a1), .val (.int p2), .val (.ref a3), .val (.long q4), .second, .val (.ref a5), .val (.ref a6)] [])) _
    refine XS.aloadN X17.here hx rfl (hb hby d_prog_265_method_1_28) rfl rfl ?_
    show Steps p.tables e below (T17.setTop (mkF m 29 #[.val (.ref a1), .val (.int p2), .val (.ref a3), .val (.long q4), .second, .val (.ref a5), .val (.ref a6)] [(.ref a1)])) _
    refine XS.aload X17.here hx rfl (hb hby d_prog_265_method_1_29) rfl rfl ?_
    show Steps p.tables e below (T17.setTop (mkF m 31 #[.val (.ref a1), .val (.int p2), .val (.ref a3), .val (.long q4), .second, .val (.ref a5), .val (.ref a6)] [(.ref a5), (.ref a1)])) _
    exact hgo
  obtain ⟨T20, h20, X20, e20, W20, st20⟩ := putF X17 hx hZ hown (host := "") (Or.inl (hw _ (List.mem_of_getElem? (i := 58) rfl))) Via.refl e17 F_key E1 (Or.inr ⟨(hw _ (List.mem_of_getElem? (i := 59) rfl)), rfl, hnm⟩) (hw _ (List.mem_of_getElem? (i := 32) rfl)) (ty := (.array .byte)) (by decide) rfl rfl (g := (mkF m 31 #[.val (.ref a1), .val (.int p2), .val (.ref a3), .val (.long q4), .second, .val (.ref a5), .val (.ref a6)] [(.ref a5), (.ref a1)])) rfl rfl (hb hby d_prog_265_method_1_31)
  have N20 := Fr.snoc X20 N17 ge1
  replace hZn := Nat.le_trans hZn (Keep.of_wr W20).1
  replace hK := hK.wr W20 (Or.inl (List.mem_of_getElem? (i := 0) rfl))
  replace E1 := E1.wr W20
  replace F_request := F_request.other W20 (Or.inr (slot_ne (Or.inr (hw _ (List.mem_of_getElem? (i := 53) rfl))) (Or.inr (hw _ (List.mem_of_getElem? (i := 59) rfl))) (by decide) (t := .int) (t' := (.array .byte)) (by decide) (by decide)))
  replace F_topic := F_topic.other W20 (Or.inr (slot_ne (Or.inr (hw _ (List.mem_of_getElem? (i := 55) rfl))) (Or.inr (hw _ (List.mem_of_getElem? (i := 59) rfl))) (by decide) (t := (.object "java/lang/String")) (t' := (.array .byte)) (by decide) (by decide)))
  replace F_delayMillis := F_delayMillis.other W20 (Or.inr (slot_ne (Or.inr (hw _ (List.mem_of_getElem? (i := 57) rfl))) (Or.inr (hw _ (List.mem_of_getElem? (i := 59) rfl))) (by decide) (t := .long) (t' := (.array .byte)) (by decide) (by decide)))
  replace F_key := F_key.same W20
  replace F_body := F_body.other W20 (Or.inr (slot_ne (Or.inr (hw _ (List.mem_of_getElem? (i := 61) rfl))) (Or.inr (hw _ (List.mem_of_getElem? (i := 59) rfl))) (by decide) (t := (.array .byte)) (t' := (.array .byte)) (by decide) (by decide)))
  have R21 : ∀ tgt, Steps p.tables e below (T20.setTop (mkF m 34 #[.val (.ref a1), .val (.int p2), .val (.ref a3), .val (.long q4), .second, .val (.ref a5), .val (.ref a6)] [])) tgt → Steps p.tables e below A0 tgt := fun tgt hgo => R19 tgt (st20 tgt hgo)
  have R22 : ∀ tgt, Steps p.tables e below (T20.setTop (mkF m 37 #[.val (.ref a1), .val (.int p2), .val (.ref a3), .val (.long q4), .second, .val (.ref a5), .val (.ref a6)] [(.ref a6), (.ref a1)])) tgt → Steps p.tables e below A0 tgt := by
    intro tgt hgo
    refine R21 tgt ?_
    show Steps p.tables e below (T20.setTop (mkF m 34 #[.val (.ref a1), .val (.int p2), .val (.ref a3), .val (.long q4), .second, .val (.ref a5), .val (.ref a6)] [])) _
    refine XS.aloadN X20.here hx rfl (hb hby d_prog_265_method_1_34) rfl rfl ?_
    show Steps p.tables e below (T20.setTop (mkF m 35 #[.val (.ref a1), .val (.int p2), .val (.ref a3), .val (.long q4), .second, .val (.ref a5), .val (.ref a6)] [(.ref a1)])) _
    refine XS.aload X20.here hx rfl (hb hby d_prog_265_method_1_35) rfl rfl ?_
    show Steps p.tables e below (T20.setTop (mkF m 37 #[.val (.ref a1), .val (.int p2), .val (.ref a3), .val (.long q4), .second, .val (.ref a5), .val (.ref a6)] [(.ref a6), (.ref a1)])) _
    exact hgo
  obtain ⟨T23, h23, X23, e23, W23, st23⟩ := putF X20 hx hZ hown (host := "") (Or.inl (hw _ (List.mem_of_getElem? (i := 60) rfl))) Via.refl e20 F_body E1 (Or.inr ⟨(hw _ (List.mem_of_getElem? (i := 61) rfl)), rfl, hnm⟩) (hw _ (List.mem_of_getElem? (i := 32) rfl)) (ty := (.array .byte)) (by decide) rfl rfl (g := (mkF m 37 #[.val (.ref a1), .val (.int p2), .val (.ref a3), .val (.long q4), .second, .val (.ref a5), .val (.ref a6)] [(.ref a6), (.ref a1)])) rfl rfl (hb hby d_prog_265_method_1_37)
  have N23 := Fr.snoc X23 N20 ge1
  replace hZn := Nat.le_trans hZn (Keep.of_wr W23).1
  replace hK := hK.wr W23 (Or.inl (List.mem_of_getElem? (i := 0) rfl))
  replace E1 := E1.wr W23
  replace F_request := F_request.other W23 (Or.inr (slot_ne (Or.inr (hw _ (List.mem_of_getElem? (i := 53) rfl))) (Or.inr (hw _ (List.mem_of_getElem? (i := 61) rfl))) (by decide) (t := .int) (t' := (.array .byte)) (by decide) (by decide)))
  replace F_topic := F_topic.other W23 (Or.inr (slot_ne (Or.inr (hw _ (List.mem_of_getElem? (i := 55) rfl))) (Or.inr (hw _ (List.mem_of_getElem? (i := 61) rfl))) (by decide) (t := (.object "java/lang/String")) (t' := (.array .byte)) (by decide) (by decide)))
  replace F_delayMillis := F_delayMillis.other W23 (Or.inr (slot_ne (Or.inr (hw _ (List.mem_of_getElem? (i := 57) rfl))) (Or.inr (hw _ (List.mem_of_getElem? (i := 61) rfl))) (by decide) (t := .long) (t' := (.array .byte)) (by decide) (by decide)))
  replace F_key := F_key.other W23 (Or.inr (slot_ne (Or.inr (hw _ (List.mem_of_getElem? (i := 59) rfl))) (Or.inr (hw _ (List.mem_of_getElem? (i := 61) rfl))) (by decide) (t := (.array .byte)) (t' := (.array .byte)) (by decide) (by decide)))
  replace F_body := F_body.same W23
  have R24 : ∀ tgt, Steps p.tables e below (T23.setTop (mkF m 40 #[.val (.ref a1), .val (.int p2), .val (.ref a3), .val (.long q4), .second, .val (.ref a5), .val (.ref a6)] [])) tgt → Steps p.tables e below A0 tgt := fun tgt hgo => R22 tgt (st23 tgt hgo)
  subst hA0
  obtain ⟨fs, hr, hrun, hended, hW, hsame⟩ := X23.leave (v := none) (fun _ => rfl)
  refine ⟨_, _, R24 _ ?_, hrun, hended, _, _, rfl, ?_, ⟨_, rfl⟩, hW, hsame.mono (by decide) (by decide)⟩
  · show Steps p.tables e below (T23.setTop (mkF m 40 #[.val (.ref a1), .val (.int p2), .val (.ref a3), .val (.long q4), .second, .val (.ref a5), .val (.ref a6)] [])) _
    exact X23.returnOut hx Bd.returns (hb hby d_prog_265_method_1_40) hr
  · show Qc Z a1 a5 q4 h0 n0 _ T23.heap _
    rw [e23]
    exact ⟨rfl, N23, hK, E1, F_delayMillis, F_key⟩
theorem ef_rm_typ (m : MethodId) (a1 : Addr) : entryFrame m #[(.ref a1)] 1 = mkF m 0 #[.val (.ref a1)] [] := by first | (simp [entryFrame, mkF, argsToLocals, Value.category]; done) | rfl
theorem d_prog_265_method_7_0 : decode prog_265_method_7_code 0 = .ok (.aload_n 0, 1) := by decide +kernel
theorem d_prog_265_method_7_1 : decode prog_265_method_7_code 1 = .ok (.getfield 31, 3) := by decide +kernel
theorem d_prog_265_method_7_4 : decode prog_265_method_7_code 4 = .ok (.arraylength, 1) := by decide +kernel
theorem d_prog_265_method_7_5 : decode prog_265_method_7_code 5 = .ok (.ifCond .le 6, 3) := by decide +kernel
theorem d_prog_265_method_7_8 : decode prog_265_method_7_code 8 = .ok (.bipush 8, 2) := by decide +kernel
theorem d_prog_265_method_7_10 : decode prog_265_method_7_code 10 = .ok (.ireturn, 1) := by decide +kernel
theorem d_prog_265_method_7_11 : decode prog_265_method_7_code 11 = .ok (.aload_n 0, 1) := by decide +kernel
theorem d_prog_265_method_7_12 : decode prog_265_method_7_code 12 = .ok (.getfield 27, 3) := by decide +kernel
theorem d_prog_265_method_7_15 : decode prog_265_method_7_code 15 = .ok (.lconst 0, 1) := by decide +kernel
theorem d_prog_265_method_7_16 : decode prog_265_method_7_code 16 = .ok (.lcmp, 1) := by decide +kernel
theorem d_prog_265_method_7_17 : decode prog_265_method_7_code 17 = .ok (.ifCond .ne 7, 3) := by decide +kernel
theorem d_prog_265_method_7_20 : decode prog_265_method_7_code 20 = .ok (.iconst 2, 1) := by decide +kernel
theorem d_prog_265_method_7_21 : decode prog_265_method_7_code 21 = .ok (.goto 5, 3) := by decide +kernel
theorem d_prog_265_method_7_26 : decode prog_265_method_7_code 26 = .ok (.ireturn, 1) := by decide +kernel
theorem d_prog_265_method_7_24 : decode prog_265_method_7_code 24 = .ok (.bipush 6, 2) := by decide +kernel
set_option maxRecDepth 65536 in
set_option maxHeartbeats 40000000 in
theorem rm_typ (l : Launch) (Z : State) (a0 : Array Value) (hw : ∀ d ∈ tables_1, d.before a0 Z = true) (ws : List Jvm.Cond) (a1 : Addr) (a5 : Addr) (q4 : Int64) (kC : ClassId) (z1 : Int32) (vs : List Value) (z : Int32) (h0 : Heap) (n0 : Nat) (Z0 : n0 ≤ h0.size) (F_key : Fld Z h0 a1 "com/example/loglane/loglane/wire/Frame$Publish" "key" "[B" (.ref a5)) (F_delay : Fld Z h0 a1 "com/example/loglane/loglane/wire/Frame$Publish" "delayMillis" "J" (.long q4)) (V1 : Arv Z h0 a5 kC .byte z1 vs (.int (0 : Int32))) (hz : own_type z1 q4 = z) :
    MetFree l (⟨"com/example/loglane/loglane/wire/Frame$Publish", "type", "()I"⟩ : MethodName) (head1 (Jvm.Cond.code (⟨"com/example/loglane/loglane/wire/Frame$Publish", "type", "()I"⟩ : MethodName) prog_265_method_7_code 1 (some .int) :: ws) ({ frames := 0, cells := 0, slots := 0, locals := 0 } : Room)) (fun a U => a = #[(.ref a1)] ∧ Z.Warmed39 U.vm ∧ U.heap = h0) (fun _ _ _ _ _ => True) (fun _ U o U' => ∃ v L, o = .returned v ∧ Qi z h0 n0 v U'.heap L ∧ FrameEnd U o U' L ({ frames := 0, cells := 0, slots := 0, locals := 0 } : Room).cells ({ frames := 0, cells := 0, slots := 0, locals := 0 } : Room).slots) := by
  refine MetFree.of_bodySF (plainFor_of_name pn_com_example_loglane_loglane_wire_Frame_Publish) hisR ?_
  intro p e s m args below meth c s₁ Bd hml0 hP hK
  obtain ⟨rfl, hZ, hh⟩ := hP
  have hx := Bd.exec
  have hby := Bd.bytes
  have hml : c.maxLocals = 1 := hml0
  have hown : s.vm.findClass "com/example/loglane/loglane/wire/Frame$Publish" = some m.cls := findClass_of_methodNamed Bd.named
  have hnm := (name_of_methodNamed Bd.named Bd.method).1
  have X0 : Stand p l e ({ frames := 0, cells := 0, slots := 0, locals := 0 } : Room) s m #[(.ref a1)] below meth c s₁ [] 0 0 := Stand.of_body Bd
  have e0 : s₁.heap = h0 := by rw [← hh, Bd.state]; rfl
  have N0 := Fr.nil n0
  obtain ⟨A0, hA0⟩ : ∃ A, A = s₁.setTop (entryFrame m #[(.ref a1)] 1) := ⟨_, rfl⟩
  have R0 : ∀ tgt, Steps p.tables e below (s₁.setTop (mkF m 0 #[.val (.ref a1)] [])) tgt → Steps p.tables e below A0 tgt := fun tgt hgo => by rw [hA0]; exact castTop (ef_rm_typ m a1) hgo
  have R1 : ∀ tgt, Steps p.tables e below (s₁.setTop (mkF m 1 #[.val (.ref a1)] [(.ref a1)])) tgt → Steps p.tables e below A0 tgt := by
    intro tgt hgo
    refine R0 tgt ?_
    show Steps p.tables e below (s₁.setTop (mkF m 0 #[.val (.ref a1)] [])) _
    refine XS.aloadN X0.here hx rfl (hb hby d_prog_265_method_7_0) rfl rfl ?_
    show Steps p.tables e below (s₁.setTop (mkF m 1 #[.val (.ref a1)] [(.ref a1)])) _
    exact hgo
  obtain ⟨T2, X2, e2, st2⟩ := getF X0 hx hZ hown (host := "") (Or.inl (hw _ (List.mem_of_getElem? (i := 58) rfl))) Via.refl e0 F_key (g := (mkF m 1 #[.val (.ref a1)] [(.ref a1)])) rfl rfl (hb hby d_prog_265_method_7_1)
  have R3 : ∀ tgt, Steps p.tables e below (T2.setTop (mkF m 4 #[.val (.ref a1)] [(.ref a5)])) tgt → Steps p.tables e below A0 tgt := fun tgt hgo => R1 tgt (st2 tgt hgo)
  obtain ⟨cl4, Ar4, -, S4, Nn4, -, -⟩ := id V1
  have R5 : ∀ tgt, Steps p.tables e below (T2.setTop (mkF m 5 #[.val (.ref a1)] [(.int z1)])) tgt → Steps p.tables e below A0 tgt := by
    intro tgt hgo
    refine R3 tgt ?_
    refine X2.arraylength hx (by rw [e2]; exact Ar4.1) (State.isArrayOf_alike hZ.alike Ar4.2.1) (g := (mkF m 4 #[.val (.ref a1)] [(.ref a5)])) rfl rfl (hb hby d_prog_265_method_7_4) _ ?_
    rw [len_of S4 Nn4]
    exact hgo
  by_cases hc5_6 : (0 : Int32) < z1
  · have R7 : ∀ tgt, Steps p.tables e below (T2.setTop (mkF m 10 #[.val (.ref a1)] [(.int (8 : Int32))])) tgt → Steps p.tables e below A0 tgt := by
      intro tgt hgo
      refine R5 tgt ?_
      show Steps p.tables e below (T2.setTop (mkF m 5 #[.val (.ref a1)] [(.int z1)])) _
      refine XS.ifNo X2.here hx rfl (hb hby d_prog_265_method_7_5) rfl ((if0 _ _).trans (tlt hc5_6).2.2.2) ?_
      show Steps p.tables e below (T2.setTop (mkF m 8 #[.val (.ref a1)] [])) _
      refine XS.bipush X2.here hx rfl (hb hby d_prog_265_method_7_8) ?_
      show Steps p.tables e below (T2.setTop (mkF m 10 #[.val (.ref a1)] [(.int (8 : Int32))])) _
      exact hgo
    subst hA0
    obtain ⟨fs, hr, hrun, hended, hW, hsame⟩ := X2.leave (v := some (.int (8 : Int32))) (fun h => by rw [Bd.returns] at h; cases h)
    refine ⟨_, _, R7 _ ?_, hrun, hended, _, _, rfl, ?_, ⟨_, rfl⟩, hW, hsame.mono (by decide) (by decide)⟩
    · show Steps p.tables e below (T2.setTop (mkF m 10 #[.val (.ref a1)] [(.int (8 : Int32))])) _
      exact retI X2 hx Bd.returns (hb hby d_prog_265_method_7_10) hr
    · show Qi z h0 n0 _ T2.heap _
      rw [e2]
      refine ⟨?_, N0, rfl⟩
      rw [← hz]; unfold own_type; rw [if_pos hc5_6]
  · have R8 : ∀ tgt, Steps p.tables e below (T2.setTop (mkF m 12 #[.val (.ref a1)] [(.ref a1)])) tgt → Steps p.tables e below A0 tgt := by
      intro tgt hgo
      refine R5 tgt ?_
      show Steps p.tables e below (T2.setTop (mkF m 5 #[.val (.ref a1)] [(.int z1)])) _
      refine XS.ifYes X2.here hx rfl (pc0 := 5) (pc' := 11) rfl (hb hby d_prog_265_method_7_5) rfl ((if0 _ _).trans (flt hc5_6).2.2.2) (by decide) (by decide) ?_
      show Steps p.tables e below (T2.setTop (mkF m 11 #[.val (.ref a1)] [])) _
      refine XS.aloadN X2.here hx rfl (hb hby d_prog_265_method_7_11) rfl rfl ?_
      show Steps p.tables e below (T2.setTop (mkF m 12 #[.val (.ref a1)] [(.ref a1)])) _
      exact hgo
    obtain ⟨T9, X9, e9, st9⟩ := getF X2 hx hZ hown (host := "") (Or.inl (hw _ (List.mem_of_getElem? (i := 56) rfl))) Via.refl e2 F_delay (g := (mkF m 12 #[.val (.ref a1)] [(.ref a1)])) rfl rfl (hb hby d_prog_265_method_7_12)
    have R10 : ∀ tgt, Steps p.tables e below (T9.setTop (mkF m 15 #[.val (.ref a1)] [(.long q4)])) tgt → Steps p.tables e below A0 tgt := fun tgt hgo => R8 tgt (st9 tgt hgo)
    have R12 : ∀ tgt, Steps p.tables e below (T9.setTop (mkF m 17 #[.val (.ref a1)] [(.int (lcmpW q4 (0 : Int64)))])) tgt → Steps p.tables e below A0 tgt := by
      intro tgt hgo
      refine R10 tgt ?_
      show Steps p.tables e below (T9.setTop (mkF m 15 #[.val (.ref a1)] [(.long q4)])) _
      refine XS.lconst X9.here hx rfl (hb hby d_prog_265_method_7_15) ?_
      show Steps p.tables e below (T9.setTop (mkF m 16 #[.val (.ref a1)] [(.long (0 : Int64)), (.long q4)])) _
      refine XS.lcmp X9.here hx rfl (hb hby d_prog_265_method_7_16) rfl ?_
      show Steps p.tables e below (T9.setTop (mkF m 17 #[.val (.ref a1)] [(.int (lcmpW q4 (0 : Int64)))])) _
      exact hgo
    by_cases hc17_11 : (lcmpW q4 (0 : Int64)) = (0 : Int32)
    · have R13 : ∀ tgt, Steps p.tables e below (T9.setTop (mkF m 26 #[.val (.ref a1)] [(.int (2 : Int32))])) tgt → Steps p.tables e below A0 tgt := by
        intro tgt hgo
        refine R12 tgt ?_
        show Steps p.tables e below (T9.setTop (mkF m 17 #[.val (.ref a1)] [(.int (lcmpW q4 (0 : Int64)))])) _
        refine XS.ifNo X9.here hx rfl (hb hby d_prog_265_method_7_17) rfl ((if0 _ _).trans (teq hc17_11).2) ?_
        show Steps p.tables e below (T9.setTop (mkF m 20 #[.val (.ref a1)] [])) _
        refine XS.iconst X9.here hx rfl (hb hby d_prog_265_method_7_20) ?_
        show Steps p.tables e below (T9.setTop (mkF m 21 #[.val (.ref a1)] [(.int (2 : Int32))])) _
        refine XS.goto X9.here hx rfl (pc0 := 21) (pc' := 26) rfl (hb hby d_prog_265_method_7_21) (by decide) (by decide) ?_
        show Steps p.tables e below (T9.setTop (mkF m 26 #[.val (.ref a1)] [(.int (2 : Int32))])) _
        exact hgo
      subst hA0
      obtain ⟨fs, hr, hrun, hended, hW, hsame⟩ := X9.leave (v := some (.int (2 : Int32))) (fun h => by rw [Bd.returns] at h; cases h)
      refine ⟨_, _, R13 _ ?_, hrun, hended, _, _, rfl, ?_, ⟨_, rfl⟩, hW, hsame.mono (by decide) (by decide)⟩
      · show Steps p.tables e below (T9.setTop (mkF m 26 #[.val (.ref a1)] [(.int (2 : Int32))])) _
        exact retI X9 hx Bd.returns (hb hby d_prog_265_method_7_26) hr
      · show Qi z h0 n0 _ T9.heap _
        rw [e9]
        refine ⟨?_, N0, rfl⟩
        rw [← hz]; unfold own_type; rw [if_neg hc5_6, if_pos hc17_11]
    · have R14 : ∀ tgt, Steps p.tables e below (T9.setTop (mkF m 26 #[.val (.ref a1)] [(.int (6 : Int32))])) tgt → Steps p.tables e below A0 tgt := by
        intro tgt hgo
        refine R12 tgt ?_
        show Steps p.tables e below (T9.setTop (mkF m 17 #[.val (.ref a1)] [(.int (lcmpW q4 (0 : Int64)))])) _
        refine XS.ifYes X9.here hx rfl (pc0 := 17) (pc' := 24) rfl (hb hby d_prog_265_method_7_17) rfl ((if0 _ _).trans (feq hc17_11).2) (by decide) (by decide) ?_
        show Steps p.tables e below (T9.setTop (mkF m 24 #[.val (.ref a1)] [])) _
        refine XS.bipush X9.here hx rfl (hb hby d_prog_265_method_7_24) ?_
        show Steps p.tables e below (T9.setTop (mkF m 26 #[.val (.ref a1)] [(.int (6 : Int32))])) _
        exact hgo
      subst hA0
      obtain ⟨fs, hr, hrun, hended, hW, hsame⟩ := X9.leave (v := some (.int (6 : Int32))) (fun h => by rw [Bd.returns] at h; cases h)
      refine ⟨_, _, R14 _ ?_, hrun, hended, _, _, rfl, ?_, ⟨_, rfl⟩, hW, hsame.mono (by decide) (by decide)⟩
      · show Steps p.tables e below (T9.setTop (mkF m 26 #[.val (.ref a1)] [(.int (6 : Int32))])) _
        exact retI X9 hx Bd.returns (hb hby d_prog_265_method_7_26) hr
      · show Qi z h0 n0 _ T9.heap _
        rw [e9]
        refine ⟨?_, N0, rfl⟩
        rw [← hz]; unfold own_type; rw [if_neg hc5_6, if_neg hc17_11]
def Q0 (n0 : Nat) (v : Option Value) (h : Heap) (L : List Loc) : Prop := v = some (.int 1) ∧ Fr n0 L
theorem pn_com_example_loglane_loglane_wire_PublishTypePinLaw : plainName "com/example/loglane/loglane/wire/PublishTypePinLaw" = true := by first | (simp [plainName, overriddenIn]; done) | decide +kernel
theorem ef_rm_law (m : MethodId) (p1 : Int32) (q2 : Int64) (p3 : Int32) (p4 : Int32) (p6 : Int32) (p7 : Int32) : entryFrame m #[(.int p1), (.long q2), (.int p3), (.int p4), (.int p6), (.int p7)] maxLocals = mkF m 0 #[.val (.int p1), .val (.long q2), .second, .val (.int p3), .val (.int p4), .val (.int p6), .val (.int p7), .unset, .unset, .unset, .unset, .unset, .unset, .unset, .unset, .unset] [] := by first | (simp [entryFrame, mkF, argsToLocals, Value.category, maxLocals]; done) | rfl
theorem pd_3 : parseMethodDescriptor "([C)V" = some ⟨[(.array .char)], none⟩ := by decide +kernel
theorem pd_4 : parseMethodDescriptor "(ILjava/lang/String;J[B[B)V" = some ⟨[.int, (.object "java/lang/String"), .long, (.array .byte), (.array .byte)], none⟩ := by decide +kernel
theorem pd_5 : parseMethodDescriptor "()I" = some ⟨[], some .int⟩ := by decide +kernel
set_option maxRecDepth 65536 in
set_option maxHeartbeats 40000000 in
theorem rm_law (l : Launch) (Z : State) (a0 : Array Value) (hw : ∀ d ∈ tables_1, d.before a0 Z = true) (ws : List Jvm.Cond) (p1 : Int32) (q2 : Int64) (p3 : Int32) (p4 : Int32) (p6 : Int32) (p7 : Int32) (z : Int32) (h0 : Heap) (n0 : Nat) (Z0 : n0 ≤ h0.size) (X00 : Old Z n0 h0) (S_cs : Sta Z Z.heap "java/lang/String" "COMPACT_STRINGS" "Z" (.int z)) (hz : ¬ z = 0) :
    MetFree l x (head1 (Jvm.Cond.code x code maxLocals ret :: ws) room_1) (fun a U => a = #[(.int p1), (.long q2), (.int p3), (.int p4), (.int p6), (.int p7)] ∧ Z.Warmed39 U.vm ∧ U.heap = h0) (fun _ _ _ _ _ => True) (fun _ U o U' => ∃ v L, o = .returned v ∧ Q0 n0 v U'.heap L ∧ FrameEnd U o U' L room_1.cells room_1.slots) := by
  refine MetFree.of_bodySF (plainFor_of_name pn_com_example_loglane_loglane_wire_PublishTypePinLaw) hisR ?_
  intro p e s m args below meth c s₁ Bd hml0 hP hK
  obtain ⟨rfl, hZ, hh⟩ := hP
  have hx := Bd.exec
  have hby := Bd.bytes
  have hml : c.maxLocals = 16 := hml0
  have hown : s.vm.findClass "com/example/loglane/loglane/wire/PublishTypePinLaw" = some m.cls := findClass_of_methodNamed Bd.named
  have hnm := (name_of_methodNamed Bd.named Bd.method).1
  have X0 : Stand p l e room_1 s m #[(.int p1), (.long q2), (.int p3), (.int p4), (.int p6), (.int p7)] below meth c s₁ [] 0 0 := Stand.of_body Bd
  have e0 : s₁.heap = h0 := by rw [← hh, Bd.state]; rfl
  have N0 := Fr.nil n0
  obtain ⟨A0, hA0⟩ : ∃ A, A = s₁.setTop (entryFrame m #[(.int p1), (.long q2), (.int p3), (.int p4), (.int p6), (.int p7)] maxLocals) := ⟨_, rfl⟩
  have R0 : ∀ tgt, Steps p.tables e below (s₁.setTop (mkF m 0 #[.val (.int p1), .val (.long q2), .second, .val (.int p3), .val (.int p4), .val (.int p6), .val (.int p7), .unset, .unset, .unset, .unset, .unset, .unset, .unset, .unset, .unset] [])) tgt → Steps p.tables e below A0 tgt := fun tgt hgo => by rw [hA0]; exact castTop (ef_rm_law m p1 q2 p3 p4 p6 p7) hgo
  have hZn := Z0
  have hK : Keep h0 h0 [] := Keep.refl _ _
  have hOld := X00
  have hws : ∀ d ∈ StrChars.Road.words, d.before a0 Z = true := fun d hd => hw d ((by decide +kernel : ∀ d ∈ StrChars.Road.words, d ∈ tables_1) d hd)
  have R1 : ∀ tgt, Steps p.tables e below (s₁.setTop (mkF m 5 #[.val (.int p1), .val (.long q2), .second, .val (.int p3), .val (.int p4), .val (.int p6), .val (.int p7), .unset, .unset, .unset, .unset, .unset, .unset, .unset, .unset, .unset] [(.long (q2 &&& (4294967295 : Int64)))])) tgt → Steps p.tables e below A0 tgt := by
    intro tgt hgo
    refine R0 tgt ?_
    show Steps p.tables e below (s₁.setTop (mkF m 0 #[.val (.int p1), .val (.long q2), .second, .val (.int p3), .val (.int p4), .val (.int p6), .val (.int p7), .unset, .unset, .unset, .unset, .unset, .unset, .unset, .unset, .unset] [])) _
    refine XS.lloadN X0.here hx rfl (hb hby at_0) rfl ?_
    show Steps p.tables e below (s₁.setTop (mkF m 1 #[.val (.int p1), .val (.long q2), .second, .val (.int p3), .val (.int p4), .val (.int p6), .val (.int p7), .unset, .unset, .unset, .unset, .unset, .unset, .unset, .unset, .unset] [(.long q2)])) _
    refine X0.ldc2Long hx hown (mvT hZ (hw _ (List.mem_of_getElem? (i := 0) rfl))) (g := (mkF m 1 #[.val (.int p1), .val (.long q2), .second, .val (.int p3), .val (.int p4), .val (.int p6), .val (.int p7), .unset, .unset, .unset, .unset, .unset, .unset, .unset, .unset, .unset] [(.long q2)])) rfl (hb hby at_1) _ ?_
    show Steps p.tables e below (s₁.setTop (mkF m 4 #[.val (.int p1), .val (.long q2), .second, .val (.int p3), .val (.int p4), .val (.int p6), .val (.int p7), .unset, .unset, .unset, .unset, .unset, .unset, .unset, .unset, .unset] [(.long (4294967295 : Int64)), (.long q2)])) _
    refine XS.land X0.here hx rfl (hb hby at_4) rfl ?_
    show Steps p.tables e below (s₁.setTop (mkF m 5 #[.val (.int p1), .val (.long q2), .second, .val (.int p3), .val (.int p4), .val (.int p6), .val (.int p7), .unset, .unset, .unset, .unset, .unset, .unset, .unset, .unset, .unset] [(.long (q2 &&& (4294967295 : Int64)))])) _
    exact hgo
  obtain ⟨d, e_d⟩ : ∃ z : Int64, z = (q2 &&& (4294967295 : Int64)) := ⟨_, rfl⟩
  rw [← e_d] at R1
  have hd := e_d ▸ own_delay q2
  have R3 : ∀ tgt, Steps p.tables e below (s₁.setTop (mkF m 11 #[.val (.int p1), .val (.long q2), .second, .val (.int p3), .val (.int p4), .val (.int p6), .val (.int p7), .val (.long d), .second, .unset, .unset, .unset, .unset, .unset, .unset, .unset] [(.int (p7 &&& (1 : Int32)))])) tgt → Steps p.tables e below A0 tgt := by
    intro tgt hgo
    refine R1 tgt ?_
    show Steps p.tables e below (s₁.setTop (mkF m 5 #[.val (.int p1), .val (.long q2), .second, .val (.int p3), .val (.int p4), .val (.int p6), .val (.int p7), .unset, .unset, .unset, .unset, .unset, .unset, .unset, .unset, .unset] [(.long d)])) _
    refine XS.lstore X0.here hx rfl (hb hby at_5) rfl (l' := #[.val (.int p1), .val (.long q2), .second, .val (.int p3), .val (.int p4), .val (.int p6), .val (.int p7), .val (.long d), .second, .unset, .unset, .unset, .unset, .unset, .unset, .unset]) rfl ?_
    show Steps p.tables e below (s₁.setTop (mkF m 7 #[.val (.int p1), .val (.long q2), .second, .val (.int p3), .val (.int p4), .val (.int p6), .val (.int p7), .val (.long d), .second, .unset, .unset, .unset, .unset, .unset, .unset, .unset] [])) _
    refine XS.iload X0.here hx rfl (hb hby at_7) rfl ?_
    show Steps p.tables e below (s₁.setTop (mkF m 9 #[.val (.int p1), .val (.long q2), .second, .val (.int p3), .val (.int p4), .val (.int p6), .val (.int p7), .val (.long d), .second, .unset, .unset, .unset, .unset, .unset, .unset, .unset] [(.int p7)])) _
    refine XS.iconst X0.here hx rfl (hb hby at_9) ?_
    show Steps p.tables e below (s₁.setTop (mkF m 10 #[.val (.int p1), .val (.long q2), .second, .val (.int p3), .val (.int p4), .val (.int p6), .val (.int p7), .val (.long d), .second, .unset, .unset, .unset, .unset, .unset, .unset, .unset] [(.int (1 : Int32)), (.int p7)])) _
    refine XS.iand X0.here hx rfl (hb hby at_10) rfl ?_
    show Steps p.tables e below (s₁.setTop (mkF m 11 #[.val (.int p1), .val (.long q2), .second, .val (.int p3), .val (.int p4), .val (.int p6), .val (.int p7), .val (.long d), .second, .unset, .unset, .unset, .unset, .unset, .unset, .unset] [(.int (p7 &&& (1 : Int32)))])) _
    exact hgo
  by_cases hc11_2 : (p7 &&& (1 : Int32)) = (0 : Int32)
  · have R4 : ∀ tgt, Steps p.tables e below (s₁.setTop (mkF m 20 #[.val (.int p1), .val (.long q2), .second, .val (.int p3), .val (.int p4), .val (.int p6), .val (.int p7), .val (.long d), .second, .unset, .unset, .unset, .unset, .unset, .unset, .unset] [(.int (p3 &&& (3 : Int32)))])) tgt → Steps p.tables e below A0 tgt := by
      intro tgt hgo
      refine R3 tgt ?_
      show Steps p.tables e below (s₁.setTop (mkF m 11 #[.val (.int p1), .val (.long q2), .second, .val (.int p3), .val (.int p4), .val (.int p6), .val (.int p7), .val (.long d), .second, .unset, .unset, .unset, .unset, .unset, .unset, .unset] [(.int (p7 &&& (1 : Int32)))])) _
      refine XS.ifYes X0.here hx rfl (pc0 := 11) (pc' := 17) rfl (hb hby at_11) rfl ((if0 _ _).trans (teq hc11_2).1) (by decide) (by decide) ?_
      show Steps p.tables e below (s₁.setTop (mkF m 17 #[.val (.int p1), .val (.long q2), .second, .val (.int p3), .val (.int p4), .val (.int p6), .val (.int p7), .val (.long d), .second, .unset, .unset, .unset, .unset, .unset, .unset, .unset] [])) _
      refine XS.iloadN X0.here hx rfl (hb hby at_17) rfl ?_
      show Steps p.tables e below (s₁.setTop (mkF m 18 #[.val (.int p1), .val (.long q2), .second, .val (.int p3), .val (.int p4), .val (.int p6), .val (.int p7), .val (.long d), .second, .unset, .unset, .unset, .unset, .unset, .unset, .unset] [(.int p3)])) _
      refine XS.iconst X0.here hx rfl (hb hby at_18) ?_
      show Steps p.tables e below (s₁.setTop (mkF m 19 #[.val (.int p1), .val (.long q2), .second, .val (.int p3), .val (.int p4), .val (.int p6), .val (.int p7), .val (.long d), .second, .unset, .unset, .unset, .unset, .unset, .unset, .unset] [(.int (3 : Int32)), (.int p3)])) _
      refine XS.iand X0.here hx rfl (hb hby at_19) rfl ?_
      show Steps p.tables e below (s₁.setTop (mkF m 20 #[.val (.int p1), .val (.long q2), .second, .val (.int p3), .val (.int p4), .val (.int p6), .val (.int p7), .val (.long d), .second, .unset, .unset, .unset, .unset, .unset, .unset, .unset] [(.int (p3 &&& (3 : Int32)))])) _
      exact hgo
    obtain ⟨n, e_n⟩ : ∃ z : Int32, z = (p3 &&& (3 : Int32)) := ⟨_, rfl⟩
    rw [← e_n] at R4
    have hn := e_n ▸ own_n p3
    have R5 : ∀ tgt, Steps p.tables e below (s₁.setTop (mkF m 24 #[.val (.int p1), .val (.long q2), .second, .val (.int p3), .val (.int p4), .val (.int p6), .val (.int p7), .val (.long d), .second, .val (.int n), .unset, .unset, .unset, .unset, .unset, .unset] [(.int n)])) tgt → Steps p.tables e below A0 tgt := by
      intro tgt hgo
      refine R4 tgt ?_
      show Steps p.tables e below (s₁.setTop (mkF m 20 #[.val (.int p1), .val (.long q2), .second, .val (.int p3), .val (.int p4), .val (.int p6), .val (.int p7), .val (.long d), .second, .unset, .unset, .unset, .unset, .unset, .unset, .unset] [(.int n)])) _
      refine XS.istore X0.here hx rfl (hb hby at_20) rfl (l' := #[.val (.int p1), .val (.long q2), .second, .val (.int p3), .val (.int p4), .val (.int p6), .val (.int p7), .val (.long d), .second, .val (.int n), .unset, .unset, .unset, .unset, .unset, .unset]) rfl ?_
      show Steps p.tables e below (s₁.setTop (mkF m 22 #[.val (.int p1), .val (.long q2), .second, .val (.int p3), .val (.int p4), .val (.int p6), .val (.int p7), .val (.long d), .second, .val (.int n), .unset, .unset, .unset, .unset, .unset, .unset] [])) _
      refine XS.iload X0.here hx rfl (hb hby at_22) rfl ?_
      show Steps p.tables e below (s₁.setTop (mkF m 24 #[.val (.int p1), .val (.long q2), .second, .val (.int p3), .val (.int p4), .val (.int p6), .val (.int p7), .val (.long d), .second, .val (.int n), .unset, .unset, .unset, .unset, .unset, .unset] [(.int n)])) _
      exact hgo
    obtain ⟨T6, h6, k6, X6, e6, E6, A6, st6⟩ := newP X0 hx hZ (hw _ (List.mem_of_getElem? (i := 1) rfl)) e0 (g := (mkF m 24 #[.val (.int p1), .val (.long q2), .second, .val (.int p3), .val (.int p4), .val (.int p6), .val (.int p7), .val (.long d), .second, .val (.int n), .unset, .unset, .unset, .unset, .unset, .unset] [(.int n)])) rfl (hb hby at_24) rfl (own_neg hn) (cap := 3) (own_cap hn) (by decide) (by decide) (by decide)
    obtain ⟨key, g6⟩ : ∃ z, z = h0.size := ⟨_, rfl⟩
    rw [← g6] at A6 st6
    have ge_key : n0 ≤ key := Nat.le_trans hZn (Nat.le_of_eq g6.symm)
    have sz_key : h0.size ≤ key := Nat.le_trans hK.1 (Nat.le_of_eq g6.symm)
    replace hZn := Nat.le_trans hZn E6.1
    replace hK := hK.ext E6
    replace hOld := hOld.ext E6
    have V_key := Arv.new A6 (own_neg hn)
    have R7 : ∀ tgt, Steps p.tables e below (T6.setTop (mkF m 26 #[.val (.int p1), .val (.long q2), .second, .val (.int p3), .val (.int p4), .val (.int p6), .val (.int p7), .val (.long d), .second, .val (.int n), .unset, .unset, .unset, .unset, .unset, .unset] [(.ref key)])) tgt → Steps p.tables e below A0 tgt := fun tgt hgo => R5 tgt (st6 tgt hgo)
    have R9 : ∀ tgt, Steps p.tables e below (T6.setTop (mkF m 30 #[.val (.int p1), .val (.long q2), .second, .val (.int p3), .val (.int p4), .val (.int p6), .val (.int p7), .val (.long d), .second, .val (.int n), .val (.ref key), .unset, .unset, .unset, .unset, .unset] [(.int n)])) tgt → Steps p.tables e below A0 tgt := by
      intro tgt hgo
      refine R7 tgt ?_
      show Steps p.tables e below (T6.setTop (mkF m 26 #[.val (.int p1), .val (.long q2), .second, .val (.int p3), .val (.int p4), .val (.int p6), .val (.int p7), .val (.long d), .second, .val (.int n), .unset, .unset, .unset, .unset, .unset, .unset] [(.ref key)])) _
      refine XS.astore X6.here hx rfl (hb hby at_26) rfl rfl (l' := #[.val (.int p1), .val (.long q2), .second, .val (.int p3), .val (.int p4), .val (.int p6), .val (.int p7), .val (.long d), .second, .val (.int n), .val (.ref key), .unset, .unset, .unset, .unset, .unset]) rfl ?_
      show Steps p.tables e below (T6.setTop (mkF m 28 #[.val (.int p1), .val (.long q2), .second, .val (.int p3), .val (.int p4), .val (.int p6), .val (.int p7), .val (.long d), .second, .val (.int n), .val (.ref key), .unset, .unset, .unset, .unset, .unset] [])) _
      refine XS.iload X6.here hx rfl (hb hby at_28) rfl ?_
      show Steps p.tables e below (T6.setTop (mkF m 30 #[.val (.int p1), .val (.long q2), .second, .val (.int p3), .val (.int p4), .val (.int p6), .val (.int p7), .val (.long d), .second, .val (.int n), .val (.ref key), .unset, .unset, .unset, .unset, .unset] [(.int n)])) _
      exact hgo
    by_cases hc30_8 : (0 : Int32) < n
    · have R10 : ∀ tgt, Steps p.tables e below (T6.setTop (mkF m 39 #[.val (.int p1), .val (.long q2), .second, .val (.int p3), .val (.int p4), .val (.int p6), .val (.int p7), .val (.long d), .second, .val (.int n), .val (.ref key), .unset, .unset, .unset, .unset, .unset] [(.int (p4.toInt8.toInt32)), (.int (0 : Int32)), (.ref key)])) tgt → Steps p.tables e below A0 tgt := by
        intro tgt hgo
        refine R9 tgt ?_
        show Steps p.tables e below (T6.setTop (mkF m 30 #[.val (.int p1), .val (.long q2), .second, .val (.int p3), .val (.int p4), .val (.int p6), .val (.int p7), .val (.long d), .second, .val (.int n), .val (.ref key), .unset, .unset, .unset, .unset, .unset] [(.int n)])) _
        refine XS.ifNo X6.here hx rfl (hb hby at_30) rfl ((if0 _ _).trans (tlt hc30_8).2.2.2) ?_
        show Steps p.tables e below (T6.setTop (mkF m 33 #[.val (.int p1), .val (.long q2), .second, .val (.int p3), .val (.int p4), .val (.int p6), .val (.int p7), .val (.long d), .second, .val (.int n), .val (.ref key), .unset, .unset, .unset, .unset, .unset] [])) _
        refine XS.aload X6.here hx rfl (hb hby at_33) rfl rfl ?_
        show Steps p.tables e below (T6.setTop (mkF m 35 #[.val (.int p1), .val (.long q2), .second, .val (.int p3), .val (.int p4), .val (.int p6), .val (.int p7), .val (.long d), .second, .val (.int n), .val (.ref key), .unset, .unset, .unset, .unset, .unset] [(.ref key)])) _
        refine XS.iconst X6.here hx rfl (hb hby at_35) ?_
        show Steps p.tables e below (T6.setTop (mkF m 36 #[.val (.int p1), .val (.long q2), .second, .val (.int p3), .val (.int p4), .val (.int p6), .val (.int p7), .val (.long d), .second, .val (.int n), .val (.ref key), .unset, .unset, .unset, .unset, .unset] [(.int (0 : Int32)), (.ref key)])) _
        refine XS.iload X6.here hx rfl (hb hby at_36) rfl ?_
        show Steps p.tables e below (T6.setTop (mkF m 38 #[.val (.int p1), .val (.long q2), .second, .val (.int p3), .val (.int p4), .val (.int p6), .val (.int p7), .val (.long d), .second, .val (.int n), .val (.ref key), .unset, .unset, .unset, .unset, .unset] [(.int p4), (.int (0 : Int32)), (.ref key)])) _
        refine XS.i2b X6.here hx rfl (hb hby at_38) rfl ?_
        show Steps p.tables e below (T6.setTop (mkF m 39 #[.val (.int p1), .val (.long q2), .second, .val (.int p3), .val (.int p4), .val (.int p6), .val (.int p7), .val (.long d), .second, .val (.int n), .val (.ref key), .unset, .unset, .unset, .unset, .unset] [(.int (p4.toInt8.toInt32)), (.int (0 : Int32)), (.ref key)])) _
        exact hgo
      replace V_key : Arv Z h6 key k6 .byte n [(.int (0 : Int32))] (.int (0 : Int32)) := V_key.pad (pad_rep [] (.int (0 : Int32)) 1)
      obtain ⟨cl11, Ar11, q11, S11, Nn11, H11, G11⟩ := V_key
      have hin11 : ¬ ((0 : Int32) < 0 ∨ cl11.slots.size ≤ ((0 : Int32)).toNatClampNeg) := inb_of S11 ⟨by decide, hc30_8⟩
      obtain ⟨T11, h11, X11, e11, W11, st11⟩ := stB X6 hx hZ e6 Ar11 (j := (0 : Int32)) hin11 (g := (mkF m 39 #[.val (.int p1), .val (.long q2), .second, .val (.int p3), .val (.int p4), .val (.int p6), .val (.int p7), .val (.long d), .second, .val (.int n), .val (.ref key), .unset, .unset, .unset, .unset, .unset] [(.int (p4.toInt8.toInt32)), (.int (0 : Int32)), (.ref key)])) rfl rfl (hb hby at_39)
      replace hZn := Nat.le_trans hZn (Keep.of_wr W11).1
      replace hK := hK.wr W11 (Or.inr sz_key)
      replace hOld := hOld.wr W11 ge_key
      have V_key : Arv Z h11 key k6 .byte n [(.int (nar .byte (p4.toInt8.toInt32)))] (.int (0 : Int32)) := Arv.set Ar11 q11 S11 Nn11 H11 G11 (fits_nar_byte _) W11 0 rfl (Nat.le_of_ble_eq_true rfl)
      have N11 := Fr.snoc X11 N0 ge_key
      have R12 : ∀ tgt, Steps p.tables e below (T11.setTop (mkF m 40 #[.val (.int p1), .val (.long q2), .second, .val (.int p3), .val (.int p4), .val (.int p6), .val (.int p7), .val (.long d), .second, .val (.int n), .val (.ref key), .unset, .unset, .unset, .unset, .unset] [])) tgt → Steps p.tables e below A0 tgt := fun tgt hgo => R10 tgt (st11 tgt hgo)
      have R13 : ∀ tgt, Steps p.tables e below (T11.setTop (mkF m 41 #[.val (.int p1), .val (.long q2), .second, .val (.int p3), .val (.int p4), .val (.int p6), .val (.int p7), .val (.long d), .second, .val (.int n), .val (.ref key), .unset, .unset, .unset, .unset, .unset] [(.int (1 : Int32))])) tgt → Steps p.tables e below A0 tgt := by
        intro tgt hgo
        refine R12 tgt ?_
        show Steps p.tables e below (T11.setTop (mkF m 40 #[.val (.int p1), .val (.long q2), .second, .val (.int p3), .val (.int p4), .val (.int p6), .val (.int p7), .val (.long d), .second, .val (.int n), .val (.ref key), .unset, .unset, .unset, .unset, .unset] [])) _
        refine XS.iconst X11.here hx rfl (hb hby at_40) ?_
        show Steps p.tables e below (T11.setTop (mkF m 41 #[.val (.int p1), .val (.long q2), .second, .val (.int p3), .val (.int p4), .val (.int p6), .val (.int p7), .val (.long d), .second, .val (.int n), .val (.ref key), .unset, .unset, .unset, .unset, .unset] [(.int (1 : Int32))])) _
        exact hgo
      obtain ⟨T14, h14, k14, X14, e14, E14, A14, st14⟩ := newP X11 hx hZ (hw _ (List.mem_of_getElem? (i := 2) rfl)) e11 (g := (mkF m 41 #[.val (.int p1), .val (.long q2), .second, .val (.int p3), .val (.int p4), .val (.int p6), .val (.int p7), .val (.long d), .second, .val (.int n), .val (.ref key), .unset, .unset, .unset, .unset, .unset] [(.int (1 : Int32))])) rfl (hb hby at_41) rfl (by decide) (cap := 1) (by decide) (by decide) (by decide) (by decide)
      obtain ⟨chs, g14⟩ : ∃ z, z = h11.size := ⟨_, rfl⟩
      rw [← g14] at A14 st14
      have ne_key_chs : key ≠ chs := Nat.ne_of_lt (Nat.lt_of_lt_of_le V_key.lt (Nat.le_of_eq g14.symm))
      have ge_chs : n0 ≤ chs := Nat.le_trans hZn (Nat.le_of_eq g14.symm)
      have sz_chs : h0.size ≤ chs := Nat.le_trans hK.1 (Nat.le_of_eq g14.symm)
      replace hZn := Nat.le_trans hZn E14.1
      replace hK := hK.ext E14
      replace hOld := hOld.ext E14
      replace V_key := V_key.ext E14
      have V_chs : Arv Z h14 chs k14 .char (1 : Int32) [(.int (0 : Int32))] (.int (0 : Int32)) := (Arv.new A14 (by decide)).pad (pad_rep [] (.int (0 : Int32)) 1)
      have R15 : ∀ tgt, Steps p.tables e below (T14.setTop (mkF m 43 #[.val (.int p1), .val (.long q2), .second, .val (.int p3), .val (.int p4), .val (.int p6), .val (.int p7), .val (.long d), .second, .val (.int n), .val (.ref key), .unset, .unset, .unset, .unset, .unset] [(.ref chs)])) tgt → Steps p.tables e below A0 tgt := fun tgt hgo => R13 tgt (st14 tgt hgo)
      have R16 : ∀ tgt, Steps p.tables e below (T14.setTop (mkF m 55 #[.val (.int p1), .val (.long q2), .second, .val (.int p3), .val (.int p4), .val (.int p6), .val (.int p7), .val (.long d), .second, .val (.int n), .val (.ref key), .val (.ref chs), .unset, .unset, .unset, .unset] [(.int ((p6 &&& (255 : Int32)).toUInt32.toUInt16.toUInt32.toInt32)), (.int (0 : Int32)), (.ref chs)])) tgt → Steps p.tables e below A0 tgt := by
        intro tgt hgo
        refine R15 tgt ?_
        show Steps p.tables e below (T14.setTop (mkF m 43 #[.val (.int p1), .val (.long q2), .second, .val (.int p3), .val (.int p4), .val (.int p6), .val (.int p7), .val (.long d), .second, .val (.int n), .val (.ref key), .unset, .unset, .unset, .unset, .unset] [(.ref chs)])) _
        refine XS.astore X14.here hx rfl (hb hby at_43) rfl rfl (l' := #[.val (.int p1), .val (.long q2), .second, .val (.int p3), .val (.int p4), .val (.int p6), .val (.int p7), .val (.long d), .second, .val (.int n), .val (.ref key), .val (.ref chs), .unset, .unset, .unset, .unset]) rfl ?_
        show Steps p.tables e below (T14.setTop (mkF m 45 #[.val (.int p1), .val (.long q2), .second, .val (.int p3), .val (.int p4), .val (.int p6), .val (.int p7), .val (.long d), .second, .val (.int n), .val (.ref key), .val (.ref chs), .unset, .unset, .unset, .unset] [])) _
        refine XS.aload X14.here hx rfl (hb hby at_45) rfl rfl ?_
        show Steps p.tables e below (T14.setTop (mkF m 47 #[.val (.int p1), .val (.long q2), .second, .val (.int p3), .val (.int p4), .val (.int p6), .val (.int p7), .val (.long d), .second, .val (.int n), .val (.ref key), .val (.ref chs), .unset, .unset, .unset, .unset] [(.ref chs)])) _
        refine XS.iconst X14.here hx rfl (hb hby at_47) ?_
        show Steps p.tables e below (T14.setTop (mkF m 48 #[.val (.int p1), .val (.long q2), .second, .val (.int p3), .val (.int p4), .val (.int p6), .val (.int p7), .val (.long d), .second, .val (.int n), .val (.ref key), .val (.ref chs), .unset, .unset, .unset, .unset] [(.int (0 : Int32)), (.ref chs)])) _
        refine XS.iload X14.here hx rfl (hb hby at_48) rfl ?_
        show Steps p.tables e below (T14.setTop (mkF m 50 #[.val (.int p1), .val (.long q2), .second, .val (.int p3), .val (.int p4), .val (.int p6), .val (.int p7), .val (.long d), .second, .val (.int n), .val (.ref key), .val (.ref chs), .unset, .unset, .unset, .unset] [(.int p6), (.int (0 : Int32)), (.ref chs)])) _
        refine XS.sipush X14.here hx rfl (hb hby at_50) ?_
        show Steps p.tables e below (T14.setTop (mkF m 53 #[.val (.int p1), .val (.long q2), .second, .val (.int p3), .val (.int p4), .val (.int p6), .val (.int p7), .val (.long d), .second, .val (.int n), .val (.ref key), .val (.ref chs), .unset, .unset, .unset, .unset] [(.int (255 : Int32)), (.int p6), (.int (0 : Int32)), (.ref chs)])) _
        refine XS.iand X14.here hx rfl (hb hby at_53) rfl ?_
        show Steps p.tables e below (T14.setTop (mkF m 54 #[.val (.int p1), .val (.long q2), .second, .val (.int p3), .val (.int p4), .val (.int p6), .val (.int p7), .val (.long d), .second, .val (.int n), .val (.ref key), .val (.ref chs), .unset, .unset, .unset, .unset] [(.int (p6 &&& (255 : Int32))), (.int (0 : Int32)), (.ref chs)])) _
        refine XS.i2c X14.here hx rfl (hb hby at_54) rfl ?_
        show Steps p.tables e below (T14.setTop (mkF m 55 #[.val (.int p1), .val (.long q2), .second, .val (.int p3), .val (.int p4), .val (.int p6), .val (.int p7), .val (.long d), .second, .val (.int n), .val (.ref key), .val (.ref chs), .unset, .unset, .unset, .unset] [(.int ((p6 &&& (255 : Int32)).toUInt32.toUInt16.toUInt32.toInt32)), (.int (0 : Int32)), (.ref chs)])) _
        exact hgo
      obtain ⟨cl17, Ar17, q17, S17, Nn17, H17, G17⟩ := V_chs
      have hin17 : ¬ ((0 : Int32) < 0 ∨ cl17.slots.size ≤ ((0 : Int32)).toNatClampNeg) := inb_of S17 ⟨by decide, by decide⟩
      obtain ⟨T17, h17, X17, e17, W17, st17⟩ := stC X14 hx hZ e14 Ar17 (j := (0 : Int32)) hin17 (g := (mkF m 55 #[.val (.int p1), .val (.long q2), .second, .val (.int p3), .val (.int p4), .val (.int p6), .val (.int p7), .val (.long d), .second, .val (.int n), .val (.ref key), .val (.ref chs), .unset, .unset, .unset, .unset] [(.int ((p6 &&& (255 : Int32)).toUInt32.toUInt16.toUInt32.toInt32)), (.int (0 : Int32)), (.ref chs)])) rfl rfl (hb hby at_55)
      replace hZn := Nat.le_trans hZn (Keep.of_wr W17).1
      replace hK := hK.wr W17 (Or.inr sz_chs)
      replace hOld := hOld.wr W17 ge_chs
      replace V_key := V_key.other W17 ne_key_chs
      have V_chs : Arv Z h17 chs k14 .char (1 : Int32) [(.int (nar .char ((p6 &&& (255 : Int32)).toUInt32.toUInt16.toUInt32.toInt32)))] (.int (0 : Int32)) := Arv.set Ar17 q17 S17 Nn17 H17 G17 (fits_nar_char _) W17 0 rfl (Nat.le_of_ble_eq_true rfl)
      have N17 := Fr.snoc X17 N11 ge_chs
      have R18 : ∀ tgt, Steps p.tables e below (T17.setTop (mkF m 56 #[.val (.int p1), .val (.long q2), .second, .val (.int p3), .val (.int p4), .val (.int p6), .val (.int p7), .val (.long d), .second, .val (.int n), .val (.ref key), .val (.ref chs), .unset, .unset, .unset, .unset] [])) tgt → Steps p.tables e below A0 tgt := fun tgt hgo => R16 tgt (st17 tgt hgo)
      obtain ⟨T19, h19, X19, e19, E19, A19, D19, -, st19⟩ := newO X17 hx hZ hown (hw _ (List.mem_of_getElem? (i := 3) rfl)) (hw _ (List.mem_of_getElem? (i := 4) rfl)) (hw _ (List.mem_of_getElem? (i := 5) rfl)) e17 (g := (mkF m 56 #[.val (.int p1), .val (.long q2), .second, .val (.int p3), .val (.int p4), .val (.int p6), .val (.int p7), .val (.long d), .second, .val (.int n), .val (.ref key), .val (.ref chs), .unset, .unset, .unset, .unset] [])) rfl (hb hby at_56) (by decide) (by decide)
      obtain ⟨str, g19⟩ : ∃ z, z = h17.size := ⟨_, rfl⟩
      rw [← g19] at A19 D19 st19
      have ne_key_str : key ≠ str := Nat.ne_of_lt (Nat.lt_of_lt_of_le V_key.lt (Nat.le_of_eq g19.symm))
      have ne_chs_str : chs ≠ str := Nat.ne_of_lt (Nat.lt_of_lt_of_le V_chs.lt (Nat.le_of_eq g19.symm))
      have ge_str : n0 ≤ str := Nat.le_trans hZn (Nat.le_of_eq g19.symm)
      have sz_str : h0.size ≤ str := Nat.le_trans hK.1 (Nat.le_of_eq g19.symm)
      replace hZn := Nat.le_trans hZn E19.1
      replace hK := hK.ext E19
      replace hOld := hOld.ext E19
      replace V_key := V_key.ext E19
      replace V_chs := V_chs.ext E19
      have E_str := A19
      have F_coder_str : Fld Z h19 str "java/lang/String" "coder" "B" (.int (0 : Int32)) := D19 (Or.inr (hw _ (List.mem_of_getElem? (i := 28) rfl))) (ty := .byte) (by decide)
      have F_value_str : Fld Z h19 str "java/lang/String" "value" "[B" .null := D19 (Or.inr (hw _ (List.mem_of_getElem? (i := 30) rfl))) (ty := (.array .byte)) (by decide)
      have R20 : ∀ tgt, Steps p.tables e below (T19.setTop (mkF m 59 #[.val (.int p1), .val (.long q2), .second, .val (.int p3), .val (.int p4), .val (.int p6), .val (.int p7), .val (.long d), .second, .val (.int n), .val (.ref key), .val (.ref chs), .unset, .unset, .unset, .unset] [(.ref str)])) tgt → Steps p.tables e below A0 tgt := fun tgt hgo => R18 tgt (st19 tgt hgo)
      have R21 : ∀ tgt, Steps p.tables e below (T19.setTop (mkF m 62 #[.val (.int p1), .val (.long q2), .second, .val (.int p3), .val (.int p4), .val (.int p6), .val (.int p7), .val (.long d), .second, .val (.int n), .val (.ref key), .val (.ref chs), .unset, .unset, .unset, .unset] [(.ref chs), (.ref str), (.ref str)])) tgt → Steps p.tables e below A0 tgt := by
        intro tgt hgo
        refine R20 tgt ?_
        show Steps p.tables e below (T19.setTop (mkF m 59 #[.val (.int p1), .val (.long q2), .second, .val (.int p3), .val (.int p4), .val (.int p6), .val (.int p7), .val (.long d), .second, .val (.int n), .val (.ref key), .val (.ref chs), .unset, .unset, .unset, .unset] [(.ref str)])) _
        refine XS.dup X19.here hx rfl (hb hby at_59) rfl rfl ?_
        show Steps p.tables e below (T19.setTop (mkF m 60 #[.val (.int p1), .val (.long q2), .second, .val (.int p3), .val (.int p4), .val (.int p6), .val (.int p7), .val (.long d), .second, .val (.int n), .val (.ref key), .val (.ref chs), .unset, .unset, .unset, .unset] [(.ref str), (.ref str)])) _
        refine XS.aload X19.here hx rfl (hb hby at_60) rfl rfl ?_
        show Steps p.tables e below (T19.setTop (mkF m 62 #[.val (.int p1), .val (.long q2), .second, .val (.int p3), .val (.int p4), .val (.int p6), .val (.int p7), .val (.long d), .second, .val (.int n), .val (.ref key), .val (.ref chs), .unset, .unset, .unset, .unset] [(.ref chs), (.ref str), (.ref str)])) _
        exact hgo
      have hlat : ∀ c ∈ [(nar .char ((p6 &&& (255 : Int32)).toUInt32.toUInt16.toUInt32.toInt32))], ¬ c < 0 ∧ ¬ (255 : Int32) < c := by
        intro c hc
        simp only [List.mem_cons, List.not_mem_nil, or_false] at hc
        subst hc
        rw [show (nar .char ((p6 &&& (255 : Int32)).toUInt32.toUInt16.toUInt32.toInt32)) = p6 &&& 255 from by simp only [nar, i2c_mask]]; exact own_255 p6
      obtain ⟨_, _, ⟨T22, L22, k22, n22⟩, -, X22, ⟨Lc22, hQ22, l22, y22, z22⟩, st22⟩ := X19.specialBack hx (y := (⟨"java/lang/String", "<init>", "([C)V"⟩ : MethodName)) rfl hown (mvT hZ (hw _ (List.mem_of_getElem? (i := 6) rfl))) (mvT hZ (hw _ (List.mem_of_getElem? (i := 7) rfl))) (mvT hZ (hw _ (List.mem_of_getElem? (i := 8) rfl))) (by decide) (StrChars.Road.backV (W := 1) hZ hws (kI := 4) (hw _ (List.mem_of_getElem? (i := 4) rfl)) (cs := [(nar .char ((p6 &&& (255 : Int32)).toUInt32.toUInt16.toUInt32.toInt32))]) (bs := [((nar .char ((p6 &&& (255 : Int32)).toUInt32.toUInt16.toUInt32.toInt32))).toInt8.toInt32]) (n := 1) ge_str hZn E_str F_value_str F_coder_str V_chs (S_cs.ext hOld.2) hz rfl rfl (by decide) (by decide) hlat rfl (by decide) (by decide)) (g := (mkF m 62 #[.val (.int p1), .val (.long q2), .second, .val (.int p3), .val (.int p4), .val (.int p6), .val (.int p7), .val (.long d), .second, .val (.int n), .val (.ref key), .val (.ref chs), .unset, .unset, .unset, .unset] [(.ref chs), (.ref str), (.ref str)])) rfl (by rw [hml]; rfl) (Steps.refl _) (a := str) (argsL := [(.ref chs)]) (rest := [(.ref str)]) (lenOf pd_3 rfl) rfl (by show 2 * 0 + _ ≤ _; exact Nat.le_of_eq rfl) (hb hby at_62) (fun _ _ => ⟨rfl, e19, (by decide : 3 + 1 ≤ _), (by decide : 8 + 1 ≤ _)⟩)
      dsimp only [Pt.U, Pt.locs, Pt.cells, Pt.slots] at X22 l22 y22 z22 st22 hQ22
      subst l22 y22 z22
      obtain ⟨rfl, N22q, K22, g22a, g22b, tb, kb, g22c, g22d, g22e, g22f, g22g⟩ := hQ22
      have N22 := Fr.app N17 N22q
      have R23 : ∀ tgt, Steps p.tables e below (T22.setTop (mkF m 65 #[.val (.int p1), .val (.long q2), .second, .val (.int p3), .val (.int p4), .val (.int p6), .val (.int p7), .val (.long d), .second, .val (.int n), .val (.ref key), .val (.ref chs), .unset, .unset, .unset, .unset] [(.ref str)])) tgt → Steps p.tables e below A0 tgt := fun tgt hgo => R21 tgt (st22.trans hgo)
      replace hZn := Nat.le_trans hZn K22.1
      replace hK := hK.trans K22 (allS (Or.inr sz_str) all0)
      replace hOld := hOld.keep K22 (allS ge_str all0)
      replace V_key := V_key.keep K22 (ninS ne_key_str nin0)
      replace V_chs := V_chs.keep K22 (ninS ne_chs_str nin0)
      replace E_str := E_str.keep K22
      have R24 : ∀ tgt, Steps p.tables e below (T22.setTop (mkF m 68 #[.val (.int p1), .val (.long q2), .second, .val (.int p3), .val (.int p4), .val (.int p6), .val (.int p7), .val (.long d), .second, .val (.int n), .val (.ref key), .val (.ref chs), .val (.ref str), .unset, .unset, .unset] [(.int (1 : Int32))])) tgt → Steps p.tables e below A0 tgt := by
        intro tgt hgo
        refine R23 tgt ?_
        show Steps p.tables e below (T22.setTop (mkF m 65 #[.val (.int p1), .val (.long q2), .second, .val (.int p3), .val (.int p4), .val (.int p6), .val (.int p7), .val (.long d), .second, .val (.int n), .val (.ref key), .val (.ref chs), .unset, .unset, .unset, .unset] [(.ref str)])) _
        refine XS.astore X22.here hx rfl (hb hby at_65) rfl rfl (l' := #[.val (.int p1), .val (.long q2), .second, .val (.int p3), .val (.int p4), .val (.int p6), .val (.int p7), .val (.long d), .second, .val (.int n), .val (.ref key), .val (.ref chs), .val (.ref str), .unset, .unset, .unset]) rfl ?_
        show Steps p.tables e below (T22.setTop (mkF m 67 #[.val (.int p1), .val (.long q2), .second, .val (.int p3), .val (.int p4), .val (.int p6), .val (.int p7), .val (.long d), .second, .val (.int n), .val (.ref key), .val (.ref chs), .val (.ref str), .unset, .unset, .unset] [])) _
        refine XS.iconst X22.here hx rfl (hb hby at_67) ?_
        show Steps p.tables e below (T22.setTop (mkF m 68 #[.val (.int p1), .val (.long q2), .second, .val (.int p3), .val (.int p4), .val (.int p6), .val (.int p7), .val (.long d), .second, .val (.int n), .val (.ref key), .val (.ref chs), .val (.ref str), .unset, .unset, .unset] [(.int (1 : Int32))])) _
        exact hgo
      obtain ⟨T25, h25, k25, X25, e25, E25, A25, st25⟩ := newP X22 hx hZ (hw _ (List.mem_of_getElem? (i := 1) rfl)) rfl (g := (mkF m 68 #[.val (.int p1), .val (.long q2), .second, .val (.int p3), .val (.int p4), .val (.int p6), .val (.int p7), .val (.long d), .second, .val (.int n), .val (.ref key), .val (.ref chs), .val (.ref str), .unset, .unset, .unset] [(.int (1 : Int32))])) rfl (hb hby at_68) rfl (by decide) (cap := 1) (by decide) (by decide) (by decide) (by decide)
      obtain ⟨bod, g25⟩ : ∃ z, z = T22.heap.size := ⟨_, rfl⟩
      rw [← g25] at A25 st25
      have ne_key_bod : key ≠ bod := Nat.ne_of_lt (Nat.lt_of_lt_of_le V_key.lt (Nat.le_of_eq g25.symm))
      have ne_chs_bod : chs ≠ bod := Nat.ne_of_lt (Nat.lt_of_lt_of_le V_chs.lt (Nat.le_of_eq g25.symm))
      have ne_str_bod : str ≠ bod := Nat.ne_of_lt (Nat.lt_of_lt_of_le E_str.lt (Nat.le_of_eq g25.symm))
      have ge_bod : n0 ≤ bod := Nat.le_trans hZn (Nat.le_of_eq g25.symm)
      have sz_bod : h0.size ≤ bod := Nat.le_trans hK.1 (Nat.le_of_eq g25.symm)
      replace hZn := Nat.le_trans hZn E25.1
      replace hK := hK.ext E25
      replace hOld := hOld.ext E25
      replace V_key := V_key.ext E25
      replace V_chs := V_chs.ext E25
      replace E_str := E_str.ext E25
      have V_bod : Arv Z h25 bod k25 .byte (1 : Int32) [(.int (0 : Int32))] (.int (0 : Int32)) := (Arv.new A25 (by decide)).pad (pad_rep [] (.int (0 : Int32)) 1)
      have R26 : ∀ tgt, Steps p.tables e below (T25.setTop (mkF m 70 #[.val (.int p1), .val (.long q2), .second, .val (.int p3), .val (.int p4), .val (.int p6), .val (.int p7), .val (.long d), .second, .val (.int n), .val (.ref key), .val (.ref chs), .val (.ref str), .unset, .unset, .unset] [(.ref bod)])) tgt → Steps p.tables e below A0 tgt := fun tgt hgo => R24 tgt (st25 tgt hgo)
      have R27 : ∀ tgt, Steps p.tables e below (T25.setTop (mkF m 78 #[.val (.int p1), .val (.long q2), .second, .val (.int p3), .val (.int p4), .val (.int p6), .val (.int p7), .val (.long d), .second, .val (.int n), .val (.ref key), .val (.ref chs), .val (.ref str), .val (.ref bod), .unset, .unset] [(.int (p4.toInt8.toInt32)), (.int (0 : Int32)), (.ref bod)])) tgt → Steps p.tables e below A0 tgt := by
        intro tgt hgo
        refine R26 tgt ?_
        show Steps p.tables e below (T25.setTop (mkF m 70 #[.val (.int p1), .val (.long q2), .second, .val (.int p3), .val (.int p4), .val (.int p6), .val (.int p7), .val (.long d), .second, .val (.int n), .val (.ref key), .val (.ref chs), .val (.ref str), .unset, .unset, .unset] [(.ref bod)])) _
        refine XS.astore X25.here hx rfl (hb hby at_70) rfl rfl (l' := #[.val (.int p1), .val (.long q2), .second, .val (.int p3), .val (.int p4), .val (.int p6), .val (.int p7), .val (.long d), .second, .val (.int n), .val (.ref key), .val (.ref chs), .val (.ref str), .val (.ref bod), .unset, .unset]) rfl ?_
        show Steps p.tables e below (T25.setTop (mkF m 72 #[.val (.int p1), .val (.long q2), .second, .val (.int p3), .val (.int p4), .val (.int p6), .val (.int p7), .val (.long d), .second, .val (.int n), .val (.ref key), .val (.ref chs), .val (.ref str), .val (.ref bod), .unset, .unset] [])) _
        refine XS.aload X25.here hx rfl (hb hby at_72) rfl rfl ?_
        show Steps p.tables e below (T25.setTop (mkF m 74 #[.val (.int p1), .val (.long q2), .second, .val (.int p3), .val (.int p4), .val (.int p6), .val (.int p7), .val (.long d), .second, .val (.int n), .val (.ref key), .val (.ref chs), .val (.ref str), .val (.ref bod), .unset, .unset] [(.ref bod)])) _
        refine XS.iconst X25.here hx rfl (hb hby at_74) ?_
        show Steps p.tables e below (T25.setTop (mkF m 75 #[.val (.int p1), .val (.long q2), .second, .val (.int p3), .val (.int p4), .val (.int p6), .val (.int p7), .val (.long d), .second, .val (.int n), .val (.ref key), .val (.ref chs), .val (.ref str), .val (.ref bod), .unset, .unset] [(.int (0 : Int32)), (.ref bod)])) _
        refine XS.iload X25.here hx rfl (hb hby at_75) rfl ?_
        show Steps p.tables e below (T25.setTop (mkF m 77 #[.val (.int p1), .val (.long q2), .second, .val (.int p3), .val (.int p4), .val (.int p6), .val (.int p7), .val (.long d), .second, .val (.int n), .val (.ref key), .val (.ref chs), .val (.ref str), .val (.ref bod), .unset, .unset] [(.int p4), (.int (0 : Int32)), (.ref bod)])) _
        refine XS.i2b X25.here hx rfl (hb hby at_77) rfl ?_
        show Steps p.tables e below (T25.setTop (mkF m 78 #[.val (.int p1), .val (.long q2), .second, .val (.int p3), .val (.int p4), .val (.int p6), .val (.int p7), .val (.long d), .second, .val (.int n), .val (.ref key), .val (.ref chs), .val (.ref str), .val (.ref bod), .unset, .unset] [(.int (p4.toInt8.toInt32)), (.int (0 : Int32)), (.ref bod)])) _
        exact hgo
      obtain ⟨cl28, Ar28, q28, S28, Nn28, H28, G28⟩ := V_bod
      have hin28 : ¬ ((0 : Int32) < 0 ∨ cl28.slots.size ≤ ((0 : Int32)).toNatClampNeg) := inb_of S28 ⟨by decide, by decide⟩
      obtain ⟨T28, h28, X28, e28, W28, st28⟩ := stB X25 hx hZ e25 Ar28 (j := (0 : Int32)) hin28 (g := (mkF m 78 #[.val (.int p1), .val (.long q2), .second, .val (.int p3), .val (.int p4), .val (.int p6), .val (.int p7), .val (.long d), .second, .val (.int n), .val (.ref key), .val (.ref chs), .val (.ref str), .val (.ref bod), .unset, .unset] [(.int (p4.toInt8.toInt32)), (.int (0 : Int32)), (.ref bod)])) rfl rfl (hb hby at_78)
      replace hZn := Nat.le_trans hZn (Keep.of_wr W28).1
      replace hK := hK.wr W28 (Or.inr sz_bod)
      replace hOld := hOld.wr W28 ge_bod
      replace V_key := V_key.other W28 ne_key_bod
      replace V_chs := V_chs.other W28 ne_chs_bod
      replace E_str := E_str.wr W28
      have V_bod : Arv Z h28 bod k25 .byte (1 : Int32) [(.int (nar .byte (p4.toInt8.toInt32)))] (.int (0 : Int32)) := Arv.set Ar28 q28 S28 Nn28 H28 G28 (fits_nar_byte _) W28 0 rfl (Nat.le_of_ble_eq_true rfl)
      have N28 := Fr.snoc X28 N22 ge_bod
      have R29 : ∀ tgt, Steps p.tables e below (T28.setTop (mkF m 79 #[.val (.int p1), .val (.long q2), .second, .val (.int p3), .val (.int p4), .val (.int p6), .val (.int p7), .val (.long d), .second, .val (.int n), .val (.ref key), .val (.ref chs), .val (.ref str), .val (.ref bod), .unset, .unset] [])) tgt → Steps p.tables e below A0 tgt := fun tgt hgo => R27 tgt (st28 tgt hgo)
      obtain ⟨T30, h30, X30, e30, E30, A30, D30, -, st30⟩ := newO X28 hx hZ hown (hw _ (List.mem_of_getElem? (i := 31) rfl)) (hw _ (List.mem_of_getElem? (i := 32) rfl)) (hw _ (List.mem_of_getElem? (i := 33) rfl)) e28 (g := (mkF m 79 #[.val (.int p1), .val (.long q2), .second, .val (.int p3), .val (.int p4), .val (.int p6), .val (.int p7), .val (.long d), .second, .val (.int n), .val (.ref key), .val (.ref chs), .val (.ref str), .val (.ref bod), .unset, .unset] [])) rfl (hb hby at_79) (by decide) (by decide)
      obtain ⟨pub, g30⟩ : ∃ z, z = h28.size := ⟨_, rfl⟩
      rw [← g30] at A30 D30 st30
      have ne_key_pub : key ≠ pub := Nat.ne_of_lt (Nat.lt_of_lt_of_le V_key.lt (Nat.le_of_eq g30.symm))
      have ne_chs_pub : chs ≠ pub := Nat.ne_of_lt (Nat.lt_of_lt_of_le V_chs.lt (Nat.le_of_eq g30.symm))
      have ne_str_pub : str ≠ pub := Nat.ne_of_lt (Nat.lt_of_lt_of_le E_str.lt (Nat.le_of_eq g30.symm))
      have ne_bod_pub : bod ≠ pub := Nat.ne_of_lt (Nat.lt_of_lt_of_le V_bod.lt (Nat.le_of_eq g30.symm))
      have ge_pub : n0 ≤ pub := Nat.le_trans hZn (Nat.le_of_eq g30.symm)
      have sz_pub : h0.size ≤ pub := Nat.le_trans hK.1 (Nat.le_of_eq g30.symm)
      replace hZn := Nat.le_trans hZn E30.1
      replace hK := hK.ext E30
      replace hOld := hOld.ext E30
      replace V_key := V_key.ext E30
      replace V_chs := V_chs.ext E30
      replace E_str := E_str.ext E30
      replace V_bod := V_bod.ext E30
      have E_pub := A30
      have F_request_pub : Fld Z h30 pub "com/example/loglane/loglane/wire/Frame$Publish" "request" "I" (.int (0 : Int32)) := D30 (Or.inr (hw _ (List.mem_of_getElem? (i := 53) rfl))) (ty := .int) (by decide)
      have F_topic_pub : Fld Z h30 pub "com/example/loglane/loglane/wire/Frame$Publish" "topic" "Ljava/lang/String;" .null := D30 (Or.inr (hw _ (List.mem_of_getElem? (i := 55) rfl))) (ty := (.object "java/lang/String")) (by decide)
      have F_delayMillis_pub : Fld Z h30 pub "com/example/loglane/loglane/wire/Frame$Publish" "delayMillis" "J" (.long (0 : Int64)) := D30 (Or.inr (hw _ (List.mem_of_getElem? (i := 57) rfl))) (ty := .long) (by decide)
      have F_key_pub : Fld Z h30 pub "com/example/loglane/loglane/wire/Frame$Publish" "key" "[B" .null := D30 (Or.inr (hw _ (List.mem_of_getElem? (i := 59) rfl))) (ty := (.array .byte)) (by decide)
      have F_body_pub : Fld Z h30 pub "com/example/loglane/loglane/wire/Frame$Publish" "body" "[B" .null := D30 (Or.inr (hw _ (List.mem_of_getElem? (i := 61) rfl))) (ty := (.array .byte)) (by decide)
      have R31 : ∀ tgt, Steps p.tables e below (T30.setTop (mkF m 82 #[.val (.int p1), .val (.long q2), .second, .val (.int p3), .val (.int p4), .val (.int p6), .val (.int p7), .val (.long d), .second, .val (.int n), .val (.ref key), .val (.ref chs), .val (.ref str), .val (.ref bod), .unset, .unset] [(.ref pub)])) tgt → Steps p.tables e below A0 tgt := fun tgt hgo => R29 tgt (st30 tgt hgo)
      have R32 : ∀ tgt, Steps p.tables e below (T30.setTop (mkF m 92 #[.val (.int p1), .val (.long q2), .second, .val (.int p3), .val (.int p4), .val (.int p6), .val (.int p7), .val (.long d), .second, .val (.int n), .val (.ref key), .val (.ref chs), .val (.ref str), .val (.ref bod), .unset, .unset] [(.ref bod), (.ref key), (.long d), (.ref str), (.int p1), (.ref pub), (.ref pub)])) tgt → Steps p.tables e below A0 tgt := by
        intro tgt hgo
        refine R31 tgt ?_
        show Steps p.tables e below (T30.setTop (mkF m 82 #[.val (.int p1), .val (.long q2), .second, .val (.int p3), .val (.int p4), .val (.int p6), .val (.int p7), .val (.long d), .second, .val (.int n), .val (.ref key), .val (.ref chs), .val (.ref str), .val (.ref bod), .unset, .unset] [(.ref pub)])) _
        refine XS.dup X30.here hx rfl (hb hby at_82) rfl rfl ?_
        show Steps p.tables e below (T30.setTop (mkF m 83 #[.val (.int p1), .val (.long q2), .second, .val (.int p3), .val (.int p4), .val (.int p6), .val (.int p7), .val (.long d), .second, .val (.int n), .val (.ref key), .val (.ref chs), .val (.ref str), .val (.ref bod), .unset, .unset] [(.ref pub), (.ref pub)])) _
        refine XS.iloadN X30.here hx rfl (hb hby at_83) rfl ?_
        show Steps p.tables e below (T30.setTop (mkF m 84 #[.val (.int p1), .val (.long q2), .second, .val (.int p3), .val (.int p4), .val (.int p6), .val (.int p7), .val (.long d), .second, .val (.int n), .val (.ref key), .val (.ref chs), .val (.ref str), .val (.ref bod), .unset, .unset] [(.int p1), (.ref pub), (.ref pub)])) _
        refine XS.aload X30.here hx rfl (hb hby at_84) rfl rfl ?_
        show Steps p.tables e below (T30.setTop (mkF m 86 #[.val (.int p1), .val (.long q2), .second, .val (.int p3), .val (.int p4), .val (.int p6), .val (.int p7), .val (.long d), .second, .val (.int n), .val (.ref key), .val (.ref chs), .val (.ref str), .val (.ref bod), .unset, .unset] [(.ref str), (.int p1), (.ref pub), (.ref pub)])) _
        refine XS.lload X30.here hx rfl (hb hby at_86) rfl ?_
        show Steps p.tables e below (T30.setTop (mkF m 88 #[.val (.int p1), .val (.long q2), .second, .val (.int p3), .val (.int p4), .val (.int p6), .val (.int p7), .val (.long d), .second, .val (.int n), .val (.ref key), .val (.ref chs), .val (.ref str), .val (.ref bod), .unset, .unset] [(.long d), (.ref str), (.int p1), (.ref pub), (.ref pub)])) _
        refine XS.aload X30.here hx rfl (hb hby at_88) rfl rfl ?_
        show Steps p.tables e below (T30.setTop (mkF m 90 #[.val (.int p1), .val (.long q2), .second, .val (.int p3), .val (.int p4), .val (.int p6), .val (.int p7), .val (.long d), .second, .val (.int n), .val (.ref key), .val (.ref chs), .val (.ref str), .val (.ref bod), .unset, .unset] [(.ref key), (.long d), (.ref str), (.int p1), (.ref pub), (.ref pub)])) _
        refine XS.aload X30.here hx rfl (hb hby at_90) rfl rfl ?_
        show Steps p.tables e below (T30.setTop (mkF m 92 #[.val (.int p1), .val (.long q2), .second, .val (.int p3), .val (.int p4), .val (.int p6), .val (.int p7), .val (.long d), .second, .val (.int n), .val (.ref key), .val (.ref chs), .val (.ref str), .val (.ref bod), .unset, .unset] [(.ref bod), (.ref key), (.long d), (.ref str), (.int p1), (.ref pub), (.ref pub)])) _
        exact hgo
      obtain ⟨_, _, ⟨T33, L33, k33, n33⟩, -, X33, ⟨Lc33, hQ33, l33, y33, z33⟩, st33⟩ := X30.specialBack hx (y := (⟨"com/example/loglane/loglane/wire/Frame$Publish", "<init>", "(ILjava/lang/String;J[B[B)V"⟩ : MethodName)) rfl hown (mvT hZ (hw _ (List.mem_of_getElem? (i := 34) rfl))) (mvT hZ (hw _ (List.mem_of_getElem? (i := 35) rfl))) (mvT hZ (hw _ (List.mem_of_getElem? (i := 36) rfl))) (by decide) (backOf (W := 1) (rm_ini l Z a0 hw [] pub p1 str d key bod _ _ _ h30 n0 hZn ge_pub E_pub F_request_pub F_topic_pub F_delayMillis_pub F_key_pub F_body_pub V_key (own_len hn) hd.1 hd.2) hZ (hw _ (List.mem_of_getElem? (i := 36) rfl)) (hw _ (List.mem_of_getElem? (i := 33) rfl)) (by decide) (by decide)) (g := (mkF m 92 #[.val (.int p1), .val (.long q2), .second, .val (.int p3), .val (.int p4), .val (.int p6), .val (.int p7), .val (.long d), .second, .val (.int n), .val (.ref key), .val (.ref chs), .val (.ref str), .val (.ref bod), .unset, .unset] [(.ref bod), (.ref key), (.long d), (.ref str), (.int p1), (.ref pub), (.ref pub)])) rfl (by rw [hml]; rfl) (Steps.refl _) (a := pub) (argsL := [(.int p1), (.ref str), (.long d), (.ref key), (.ref bod)]) (rest := [(.ref pub)]) (lenOf pd_4 rfl) rfl (by show 2 * 0 + _ ≤ _; exact Nat.le_of_eq rfl) (hb hby at_92) (fun _ _ => ⟨rfl, e30, (by decide : 6 + 0 ≤ _), (by decide : 15 + 0 ≤ _)⟩)
      dsimp only [Pt.U, Pt.locs, Pt.cells, Pt.slots] at X33 l33 y33 z33 st33 hQ33
      subst l33 y33 z33
      obtain ⟨rfl, N33q, K33, E33p, f33a, f33b⟩ := hQ33
      have N33 := Fr.app N28 N33q
      have R34 : ∀ tgt, Steps p.tables e below (T33.setTop (mkF m 95 #[.val (.int p1), .val (.long q2), .second, .val (.int p3), .val (.int p4), .val (.int p6), .val (.int p7), .val (.long d), .second, .val (.int n), .val (.ref key), .val (.ref chs), .val (.ref str), .val (.ref bod), .unset, .unset] [(.ref pub)])) tgt → Steps p.tables e below A0 tgt := fun tgt hgo => R32 tgt (st33.trans hgo)
      replace hZn := Nat.le_trans hZn K33.1
      replace hK := hK.trans K33 (allS (Or.inr sz_pub) all0)
      replace hOld := hOld.keep K33 (allS ge_pub all0)
      replace V_key := V_key.keep K33 (ninS ne_key_pub nin0)
      replace V_chs := V_chs.keep K33 (ninS ne_chs_pub nin0)
      replace E_str := E_str.keep K33
      replace V_bod := V_bod.keep K33 (ninS ne_bod_pub nin0)
      replace E_pub := E_pub.keep K33
      have F_d := f33a
      have F_k := f33b
      have R35 : ∀ tgt, Steps p.tables e below (T33.setTop (mkF m 128 #[.val (.int p1), .val (.long q2), .second, .val (.int p3), .val (.int p4), .val (.int p6), .val (.int p7), .val (.long d), .second, .val (.int n), .val (.ref key), .val (.ref chs), .val (.ref str), .val (.ref bod), .val (.ref pub), .val (.int (8 : Int32))] [(.ref pub)])) tgt → Steps p.tables e below A0 tgt := by
        intro tgt hgo
        refine R34 tgt ?_
        show Steps p.tables e below (T33.setTop (mkF m 95 #[.val (.int p1), .val (.long q2), .second, .val (.int p3), .val (.int p4), .val (.int p6), .val (.int p7), .val (.long d), .second, .val (.int n), .val (.ref key), .val (.ref chs), .val (.ref str), .val (.ref bod), .unset, .unset] [(.ref pub)])) _
        refine XS.astore X33.here hx rfl (hb hby at_95) rfl rfl (l' := #[.val (.int p1), .val (.long q2), .second, .val (.int p3), .val (.int p4), .val (.int p6), .val (.int p7), .val (.long d), .second, .val (.int n), .val (.ref key), .val (.ref chs), .val (.ref str), .val (.ref bod), .val (.ref pub), .unset]) rfl ?_
        show Steps p.tables e below (T33.setTop (mkF m 97 #[.val (.int p1), .val (.long q2), .second, .val (.int p3), .val (.int p4), .val (.int p6), .val (.int p7), .val (.long d), .second, .val (.int n), .val (.ref key), .val (.ref chs), .val (.ref str), .val (.ref bod), .val (.ref pub), .unset] [])) _
        refine XS.iload X33.here hx rfl (hb hby at_97) rfl ?_
        show Steps p.tables e below (T33.setTop (mkF m 99 #[.val (.int p1), .val (.long q2), .second, .val (.int p3), .val (.int p4), .val (.int p6), .val (.int p7), .val (.long d), .second, .val (.int n), .val (.ref key), .val (.ref chs), .val (.ref str), .val (.ref bod), .val (.ref pub), .unset] [(.int n)])) _
        refine XS.ifNo X33.here hx rfl (hb hby at_99) rfl ((if0 _ _).trans (tlt hc30_8).2.2.2) ?_
        show Steps p.tables e below (T33.setTop (mkF m 102 #[.val (.int p1), .val (.long q2), .second, .val (.int p3), .val (.int p4), .val (.int p6), .val (.int p7), .val (.long d), .second, .val (.int n), .val (.ref key), .val (.ref chs), .val (.ref str), .val (.ref bod), .val (.ref pub), .unset] [])) _
        refine XS.bipush X33.here hx rfl (hb hby at_102) ?_
        show Steps p.tables e below (T33.setTop (mkF m 104 #[.val (.int p1), .val (.long q2), .second, .val (.int p3), .val (.int p4), .val (.int p6), .val (.int p7), .val (.long d), .second, .val (.int n), .val (.ref key), .val (.ref chs), .val (.ref str), .val (.ref bod), .val (.ref pub), .unset] [(.int (8 : Int32))])) _
        refine XS.istore X33.here hx rfl (hb hby at_104) rfl (l' := #[.val (.int p1), .val (.long q2), .second, .val (.int p3), .val (.int p4), .val (.int p6), .val (.int p7), .val (.long d), .second, .val (.int n), .val (.ref key), .val (.ref chs), .val (.ref str), .val (.ref bod), .val (.ref pub), .val (.int (8 : Int32))]) rfl ?_
        show Steps p.tables e below (T33.setTop (mkF m 106 #[.val (.int p1), .val (.long q2), .second, .val (.int p3), .val (.int p4), .val (.int p6), .val (.int p7), .val (.long d), .second, .val (.int n), .val (.ref key), .val (.ref chs), .val (.ref str), .val (.ref bod), .val (.ref pub), .val (.int (8 : Int32))] [])) _
        refine XS.goto X33.here hx rfl (pc0 := 106) (pc' := 126) rfl (hb hby at_106) (by decide) (by decide) ?_
        show Steps p.tables e below (T33.setTop (mkF m 126 #[.val (.int p1), .val (.long q2), .second, .val (.int p3), .val (.int p4), .val (.int p6), .val (.int p7), .val (.long d), .second, .val (.int n), .val (.ref key), .val (.ref chs), .val (.ref str), .val (.ref bod), .val (.ref pub), .val (.int (8 : Int32))] [])) _
        refine XS.aload X33.here hx rfl (hb hby at_126) rfl rfl ?_
        show Steps p.tables e below (T33.setTop (mkF m 128 #[.val (.int p1), .val (.long q2), .second, .val (.int p3), .val (.int p4), .val (.int p6), .val (.int p7), .val (.long d), .second, .val (.int n), .val (.ref key), .val (.ref chs), .val (.ref str), .val (.ref bod), .val (.ref pub), .val (.int (8 : Int32))] [(.ref pub)])) _
        exact hgo
      obtain ⟨cq36, kq36, q36a, q36b, q36c⟩ := isOf hZ rfl E_pub
      obtain ⟨_, _, ⟨T36, L36, k36, n36⟩, -, X36, ⟨Lc36, hQ36, l36, y36, z36⟩, st36⟩ := X33.virtualBack hx (y := (⟨"com/example/loglane/loglane/wire/Frame$Publish", "type", "()I"⟩ : MethodName)) (z := (⟨"com/example/loglane/loglane/wire/Frame$Publish", "type", "()I"⟩ : MethodName)) hown (mvT hZ (hw _ (List.mem_of_getElem? (i := 62) rfl))) (mvT hZ (hw _ (List.mem_of_getElem? (i := 63) rfl))) (notFace_of_selects (args := #[]) (mvT hZ (hw _ (List.mem_of_getElem? (i := 65) rfl)))) (mvT hZ (hw _ (List.mem_of_getElem? (i := 65) rfl))) (mvT hZ (hw _ (List.mem_of_getElem? (i := 64) rfl))) (by decide) (backOf (W := 0) (rm_typ l Z a0 hw [] pub key d _ n _ (8 : Int32) T33.heap n0 hZn F_k F_d V_key (by unfold own_type; rw [if_pos hc30_8])) hZ (hw _ (List.mem_of_getElem? (i := 66) rfl)) (hw _ (List.mem_of_getElem? (i := 33) rfl)) (by decide) (by decide)) q36a q36c (g := (mkF m 128 #[.val (.int p1), .val (.long q2), .second, .val (.int p3), .val (.int p4), .val (.int p6), .val (.int p7), .val (.long d), .second, .val (.int n), .val (.ref key), .val (.ref chs), .val (.ref str), .val (.ref bod), .val (.ref pub), .val (.int (8 : Int32))] [(.ref pub)])) rfl (by rw [hml]; rfl) (Steps.refl _) (argsL := []) (rest := []) (lenOf pd_5 rfl) rfl (by show 2 * 0 + _ ≤ _; exact Nat.le_of_eq rfl) (hb hby at_128) (fun _ _ => ⟨rfl, rfl, (by decide : 6 + 0 ≤ _), (by decide : 15 + 0 ≤ _)⟩)
      dsimp only [Pt.U, Pt.locs, Pt.cells, Pt.slots] at X36 l36 y36 z36 st36 hQ36
      subst l36 y36 z36
      obtain ⟨rfl, N36q, e36⟩ := hQ36
      have N36 := Fr.app N33 N36q
      have R37 : ∀ tgt, Steps p.tables e below (T36.setTop (mkF m 131 #[.val (.int p1), .val (.long q2), .second, .val (.int p3), .val (.int p4), .val (.int p6), .val (.int p7), .val (.long d), .second, .val (.int n), .val (.ref key), .val (.ref chs), .val (.ref str), .val (.ref bod), .val (.ref pub), .val (.int (8 : Int32))] [(.int (8 : Int32))])) tgt → Steps p.tables e below A0 tgt := fun tgt hgo => R35 tgt (st36.trans hgo)
      have R38 : ∀ tgt, Steps p.tables e below (T36.setTop (mkF m 141 #[.val (.int p1), .val (.long q2), .second, .val (.int p3), .val (.int p4), .val (.int p6), .val (.int p7), .val (.long d), .second, .val (.int n), .val (.ref key), .val (.ref chs), .val (.ref str), .val (.ref bod), .val (.ref pub), .val (.int (8 : Int32))] [(.int (1 : Int32))])) tgt → Steps p.tables e below A0 tgt := by
        intro tgt hgo
        refine R37 tgt ?_
        show Steps p.tables e below (T36.setTop (mkF m 131 #[.val (.int p1), .val (.long q2), .second, .val (.int p3), .val (.int p4), .val (.int p6), .val (.int p7), .val (.long d), .second, .val (.int n), .val (.ref key), .val (.ref chs), .val (.ref str), .val (.ref bod), .val (.ref pub), .val (.int (8 : Int32))] [(.int (8 : Int32))])) _
        refine XS.iload X36.here hx rfl (hb hby at_131) rfl ?_
        show Steps p.tables e below (T36.setTop (mkF m 133 #[.val (.int p1), .val (.long q2), .second, .val (.int p3), .val (.int p4), .val (.int p6), .val (.int p7), .val (.long d), .second, .val (.int n), .val (.ref key), .val (.ref chs), .val (.ref str), .val (.ref bod), .val (.ref pub), .val (.int (8 : Int32))] [(.int (8 : Int32)), (.int (8 : Int32))])) _
        refine XS.icmpNo X36.here hx rfl (hb hby at_133) rfl (teq (by decide : (8 : Int32) = (8 : Int32))).2 ?_
        show Steps p.tables e below (T36.setTop (mkF m 136 #[.val (.int p1), .val (.long q2), .second, .val (.int p3), .val (.int p4), .val (.int p6), .val (.int p7), .val (.long d), .second, .val (.int n), .val (.ref key), .val (.ref chs), .val (.ref str), .val (.ref bod), .val (.ref pub), .val (.int (8 : Int32))] [])) _
        refine XS.iconst X36.here hx rfl (hb hby at_136) ?_
        show Steps p.tables e below (T36.setTop (mkF m 137 #[.val (.int p1), .val (.long q2), .second, .val (.int p3), .val (.int p4), .val (.int p6), .val (.int p7), .val (.long d), .second, .val (.int n), .val (.ref key), .val (.ref chs), .val (.ref str), .val (.ref bod), .val (.ref pub), .val (.int (8 : Int32))] [(.int (1 : Int32))])) _
        refine XS.goto X36.here hx rfl (pc0 := 137) (pc' := 141) rfl (hb hby at_137) (by decide) (by decide) ?_
        show Steps p.tables e below (T36.setTop (mkF m 141 #[.val (.int p1), .val (.long q2), .second, .val (.int p3), .val (.int p4), .val (.int p6), .val (.int p7), .val (.long d), .second, .val (.int n), .val (.ref key), .val (.ref chs), .val (.ref str), .val (.ref bod), .val (.ref pub), .val (.int (8 : Int32))] [(.int (1 : Int32))])) _
        exact hgo
      subst hA0
      obtain ⟨fs, hr, hrun, hended, hW, hsame⟩ := X36.leave (v := some (.int (1 : Int32))) (fun h => by rw [Bd.returns] at h; cases h)
      refine ⟨_, _, R38 _ ?_, hrun, hended, _, _, rfl, ?_, ⟨_, rfl⟩, hW, hsame.mono (by decide) (by decide)⟩
      · show Steps p.tables e below (T36.setTop (mkF m 141 #[.val (.int p1), .val (.long q2), .second, .val (.int p3), .val (.int p4), .val (.int p6), .val (.int p7), .val (.long d), .second, .val (.int n), .val (.ref key), .val (.ref chs), .val (.ref str), .val (.ref bod), .val (.ref pub), .val (.int (8 : Int32))] [(.int (1 : Int32))])) _
        exact retN X36 hx (t := .boolean) Bd.returns (by simp) (hb hby at_141) hr
      · show Q0 n0 _ T36.heap _
        rw [e36]
        exact ⟨rfl, N36⟩
    · have R39 : ∀ tgt, Steps p.tables e below (T6.setTop (mkF m 41 #[.val (.int p1), .val (.long q2), .second, .val (.int p3), .val (.int p4), .val (.int p6), .val (.int p7), .val (.long d), .second, .val (.int n), .val (.ref key), .unset, .unset, .unset, .unset, .unset] [(.int (1 : Int32))])) tgt → Steps p.tables e below A0 tgt := by
        intro tgt hgo
        refine R9 tgt ?_
        show Steps p.tables e below (T6.setTop (mkF m 30 #[.val (.int p1), .val (.long q2), .second, .val (.int p3), .val (.int p4), .val (.int p6), .val (.int p7), .val (.long d), .second, .val (.int n), .val (.ref key), .unset, .unset, .unset, .unset, .unset] [(.int n)])) _
        refine XS.ifYes X6.here hx rfl (pc0 := 30) (pc' := 40) rfl (hb hby at_30) rfl ((if0 _ _).trans (flt hc30_8).2.2.2) (by decide) (by decide) ?_
        show Steps p.tables e below (T6.setTop (mkF m 40 #[.val (.int p1), .val (.long q2), .second, .val (.int p3), .val (.int p4), .val (.int p6), .val (.int p7), .val (.long d), .second, .val (.int n), .val (.ref key), .unset, .unset, .unset, .unset, .unset] [])) _
        refine XS.iconst X6.here hx rfl (hb hby at_40) ?_
        show Steps p.tables e below (T6.setTop (mkF m 41 #[.val (.int p1), .val (.long q2), .second, .val (.int p3), .val (.int p4), .val (.int p6), .val (.int p7), .val (.long d), .second, .val (.int n), .val (.ref key), .unset, .unset, .unset, .unset, .unset] [(.int (1 : Int32))])) _
        exact hgo
      obtain ⟨T40, h40, k40, X40, e40, E40, A40, st40⟩ := newP X6 hx hZ (hw _ (List.mem_of_getElem? (i := 2) rfl)) e6 (g := (mkF m 41 #[.val (.int p1), .val (.long q2), .second, .val (.int p3), .val (.int p4), .val (.int p6), .val (.int p7), .val (.long d), .second, .val (.int n), .val (.ref key), .unset, .unset, .unset, .unset, .unset] [(.int (1 : Int32))])) rfl (hb hby at_41) rfl (by decide) (cap := 1) (by decide) (by decide) (by decide) (by decide)
      obtain ⟨chs, g40⟩ : ∃ z, z = h6.size := ⟨_, rfl⟩
      rw [← g40] at A40 st40
      have ne_key_chs : key ≠ chs := Nat.ne_of_lt (Nat.lt_of_lt_of_le V_key.lt (Nat.le_of_eq g40.symm))
      have ge_chs : n0 ≤ chs := Nat.le_trans hZn (Nat.le_of_eq g40.symm)
      have sz_chs : h0.size ≤ chs := Nat.le_trans hK.1 (Nat.le_of_eq g40.symm)
      replace hZn := Nat.le_trans hZn E40.1
      replace hK := hK.ext E40
      replace hOld := hOld.ext E40
      replace V_key := V_key.ext E40
      have V_chs : Arv Z h40 chs k40 .char (1 : Int32) [(.int (0 : Int32))] (.int (0 : Int32)) := (Arv.new A40 (by decide)).pad (pad_rep [] (.int (0 : Int32)) 1)
      have R41 : ∀ tgt, Steps p.tables e below (T40.setTop (mkF m 43 #[.val (.int p1), .val (.long q2), .second, .val (.int p3), .val (.int p4), .val (.int p6), .val (.int p7), .val (.long d), .second, .val (.int n), .val (.ref key), .unset, .unset, .unset, .unset, .unset] [(.ref chs)])) tgt → Steps p.tables e below A0 tgt := fun tgt hgo => R39 tgt (st40 tgt hgo)
      have R42 : ∀ tgt, Steps p.tables e below (T40.setTop (mkF m 55 #[.val (.int p1), .val (.long q2), .second, .val (.int p3), .val (.int p4), .val (.int p6), .val (.int p7), .val (.long d), .second, .val (.int n), .val (.ref key), .val (.ref chs), .unset, .unset, .unset, .unset] [(.int ((p6 &&& (255 : Int32)).toUInt32.toUInt16.toUInt32.toInt32)), (.int (0 : Int32)), (.ref chs)])) tgt → Steps p.tables e below A0 tgt := by
        intro tgt hgo
        refine R41 tgt ?_
        show Steps p.tables e below (T40.setTop (mkF m 43 #[.val (.int p1), .val (.long q2), .second, .val (.int p3), .val (.int p4), .val (.int p6), .val (.int p7), .val (.long d), .second, .val (.int n), .val (.ref key), .unset, .unset, .unset, .unset, .unset] [(.ref chs)])) _
        refine XS.astore X40.here hx rfl (hb hby at_43) rfl rfl (l' := #[.val (.int p1), .val (.long q2), .second, .val (.int p3), .val (.int p4), .val (.int p6), .val (.int p7), .val (.long d), .second, .val (.int n), .val (.ref key), .val (.ref chs), .unset, .unset, .unset, .unset]) rfl ?_
        show Steps p.tables e below (T40.setTop (mkF m 45 #[.val (.int p1), .val (.long q2), .second, .val (.int p3), .val (.int p4), .val (.int p6), .val (.int p7), .val (.long d), .second, .val (.int n), .val (.ref key), .val (.ref chs), .unset, .unset, .unset, .unset] [])) _
        refine XS.aload X40.here hx rfl (hb hby at_45) rfl rfl ?_
        show Steps p.tables e below (T40.setTop (mkF m 47 #[.val (.int p1), .val (.long q2), .second, .val (.int p3), .val (.int p4), .val (.int p6), .val (.int p7), .val (.long d), .second, .val (.int n), .val (.ref key), .val (.ref chs), .unset, .unset, .unset, .unset] [(.ref chs)])) _
        refine XS.iconst X40.here hx rfl (hb hby at_47) ?_
        show Steps p.tables e below (T40.setTop (mkF m 48 #[.val (.int p1), .val (.long q2), .second, .val (.int p3), .val (.int p4), .val (.int p6), .val (.int p7), .val (.long d), .second, .val (.int n), .val (.ref key), .val (.ref chs), .unset, .unset, .unset, .unset] [(.int (0 : Int32)), (.ref chs)])) _
        refine XS.iload X40.here hx rfl (hb hby at_48) rfl ?_
        show Steps p.tables e below (T40.setTop (mkF m 50 #[.val (.int p1), .val (.long q2), .second, .val (.int p3), .val (.int p4), .val (.int p6), .val (.int p7), .val (.long d), .second, .val (.int n), .val (.ref key), .val (.ref chs), .unset, .unset, .unset, .unset] [(.int p6), (.int (0 : Int32)), (.ref chs)])) _
        refine XS.sipush X40.here hx rfl (hb hby at_50) ?_
        show Steps p.tables e below (T40.setTop (mkF m 53 #[.val (.int p1), .val (.long q2), .second, .val (.int p3), .val (.int p4), .val (.int p6), .val (.int p7), .val (.long d), .second, .val (.int n), .val (.ref key), .val (.ref chs), .unset, .unset, .unset, .unset] [(.int (255 : Int32)), (.int p6), (.int (0 : Int32)), (.ref chs)])) _
        refine XS.iand X40.here hx rfl (hb hby at_53) rfl ?_
        show Steps p.tables e below (T40.setTop (mkF m 54 #[.val (.int p1), .val (.long q2), .second, .val (.int p3), .val (.int p4), .val (.int p6), .val (.int p7), .val (.long d), .second, .val (.int n), .val (.ref key), .val (.ref chs), .unset, .unset, .unset, .unset] [(.int (p6 &&& (255 : Int32))), (.int (0 : Int32)), (.ref chs)])) _
        refine XS.i2c X40.here hx rfl (hb hby at_54) rfl ?_
        show Steps p.tables e below (T40.setTop (mkF m 55 #[.val (.int p1), .val (.long q2), .second, .val (.int p3), .val (.int p4), .val (.int p6), .val (.int p7), .val (.long d), .second, .val (.int n), .val (.ref key), .val (.ref chs), .unset, .unset, .unset, .unset] [(.int ((p6 &&& (255 : Int32)).toUInt32.toUInt16.toUInt32.toInt32)), (.int (0 : Int32)), (.ref chs)])) _
        exact hgo
      obtain ⟨cl43, Ar43, q43, S43, Nn43, H43, G43⟩ := V_chs
      have hin43 : ¬ ((0 : Int32) < 0 ∨ cl43.slots.size ≤ ((0 : Int32)).toNatClampNeg) := inb_of S43 ⟨by decide, by decide⟩
      obtain ⟨T43, h43, X43, e43, W43, st43⟩ := stC X40 hx hZ e40 Ar43 (j := (0 : Int32)) hin43 (g := (mkF m 55 #[.val (.int p1), .val (.long q2), .second, .val (.int p3), .val (.int p4), .val (.int p6), .val (.int p7), .val (.long d), .second, .val (.int n), .val (.ref key), .val (.ref chs), .unset, .unset, .unset, .unset] [(.int ((p6 &&& (255 : Int32)).toUInt32.toUInt16.toUInt32.toInt32)), (.int (0 : Int32)), (.ref chs)])) rfl rfl (hb hby at_55)
      replace hZn := Nat.le_trans hZn (Keep.of_wr W43).1
      replace hK := hK.wr W43 (Or.inr sz_chs)
      replace hOld := hOld.wr W43 ge_chs
      replace V_key := V_key.other W43 ne_key_chs
      have V_chs : Arv Z h43 chs k40 .char (1 : Int32) [(.int (nar .char ((p6 &&& (255 : Int32)).toUInt32.toUInt16.toUInt32.toInt32)))] (.int (0 : Int32)) := Arv.set Ar43 q43 S43 Nn43 H43 G43 (fits_nar_char _) W43 0 rfl (Nat.le_of_ble_eq_true rfl)
      have N43 := Fr.snoc X43 N0 ge_chs
      have R44 : ∀ tgt, Steps p.tables e below (T43.setTop (mkF m 56 #[.val (.int p1), .val (.long q2), .second, .val (.int p3), .val (.int p4), .val (.int p6), .val (.int p7), .val (.long d), .second, .val (.int n), .val (.ref key), .val (.ref chs), .unset, .unset, .unset, .unset] [])) tgt → Steps p.tables e below A0 tgt := fun tgt hgo => R42 tgt (st43 tgt hgo)
      obtain ⟨T45, h45, X45, e45, E45, A45, D45, -, st45⟩ := newO X43 hx hZ hown (hw _ (List.mem_of_getElem? (i := 3) rfl)) (hw _ (List.mem_of_getElem? (i := 4) rfl)) (hw _ (List.mem_of_getElem? (i := 5) rfl)) e43 (g := (mkF m 56 #[.val (.int p1), .val (.long q2), .second, .val (.int p3), .val (.int p4), .val (.int p6), .val (.int p7), .val (.long d), .second, .val (.int n), .val (.ref key), .val (.ref chs), .unset, .unset, .unset, .unset] [])) rfl (hb hby at_56) (by decide) (by decide)
      obtain ⟨str, g45⟩ : ∃ z, z = h43.size := ⟨_, rfl⟩
      rw [← g45] at A45 D45 st45
      have ne_key_str : key ≠ str := Nat.ne_of_lt (Nat.lt_of_lt_of_le V_key.lt (Nat.le_of_eq g45.symm))
      have ne_chs_str : chs ≠ str := Nat.ne_of_lt (Nat.lt_of_lt_of_le V_chs.lt (Nat.le_of_eq g45.symm))
      have ge_str : n0 ≤ str := Nat.le_trans hZn (Nat.le_of_eq g45.symm)
      have sz_str : h0.size ≤ str := Nat.le_trans hK.1 (Nat.le_of_eq g45.symm)
      replace hZn := Nat.le_trans hZn E45.1
      replace hK := hK.ext E45
      replace hOld := hOld.ext E45
      replace V_key := V_key.ext E45
      replace V_chs := V_chs.ext E45
      have E_str := A45
      have F_coder_str : Fld Z h45 str "java/lang/String" "coder" "B" (.int (0 : Int32)) := D45 (Or.inr (hw _ (List.mem_of_getElem? (i := 28) rfl))) (ty := .byte) (by decide)
      have F_value_str : Fld Z h45 str "java/lang/String" "value" "[B" .null := D45 (Or.inr (hw _ (List.mem_of_getElem? (i := 30) rfl))) (ty := (.array .byte)) (by decide)
      have R46 : ∀ tgt, Steps p.tables e below (T45.setTop (mkF m 59 #[.val (.int p1), .val (.long q2), .second, .val (.int p3), .val (.int p4), .val (.int p6), .val (.int p7), .val (.long d), .second, .val (.int n), .val (.ref key), .val (.ref chs), .unset, .unset, .unset, .unset] [(.ref str)])) tgt → Steps p.tables e below A0 tgt := fun tgt hgo => R44 tgt (st45 tgt hgo)
      have R47 : ∀ tgt, Steps p.tables e below (T45.setTop (mkF m 62 #[.val (.int p1), .val (.long q2), .second, .val (.int p3), .val (.int p4), .val (.int p6), .val (.int p7), .val (.long d), .second, .val (.int n), .val (.ref key), .val (.ref chs), .unset, .unset, .unset, .unset] [(.ref chs), (.ref str), (.ref str)])) tgt → Steps p.tables e below A0 tgt := by
        intro tgt hgo
        refine R46 tgt ?_
        show Steps p.tables e below (T45.setTop (mkF m 59 #[.val (.int p1), .val (.long q2), .second, .val (.int p3), .val (.int p4), .val (.int p6), .val (.int p7), .val (.long d), .second, .val (.int n), .val (.ref key), .val (.ref chs), .unset, .unset, .unset, .unset] [(.ref str)])) _
        refine XS.dup X45.here hx rfl (hb hby at_59) rfl rfl ?_
        show Steps p.tables e below (T45.setTop (mkF m 60 #[.val (.int p1), .val (.long q2), .second, .val (.int p3), .val (.int p4), .val (.int p6), .val (.int p7), .val (.long d), .second, .val (.int n), .val (.ref key), .val (.ref chs), .unset, .unset, .unset, .unset] [(.ref str), (.ref str)])) _
        refine XS.aload X45.here hx rfl (hb hby at_60) rfl rfl ?_
        show Steps p.tables e below (T45.setTop (mkF m 62 #[.val (.int p1), .val (.long q2), .second, .val (.int p3), .val (.int p4), .val (.int p6), .val (.int p7), .val (.long d), .second, .val (.int n), .val (.ref key), .val (.ref chs), .unset, .unset, .unset, .unset] [(.ref chs), (.ref str), (.ref str)])) _
        exact hgo
      have hlat : ∀ c ∈ [(nar .char ((p6 &&& (255 : Int32)).toUInt32.toUInt16.toUInt32.toInt32))], ¬ c < 0 ∧ ¬ (255 : Int32) < c := by
        intro c hc
        simp only [List.mem_cons, List.not_mem_nil, or_false] at hc
        subst hc
        rw [show (nar .char ((p6 &&& (255 : Int32)).toUInt32.toUInt16.toUInt32.toInt32)) = p6 &&& 255 from by simp only [nar, i2c_mask]]; exact own_255 p6
      obtain ⟨_, _, ⟨T48, L48, k48, n48⟩, -, X48, ⟨Lc48, hQ48, l48, y48, z48⟩, st48⟩ := X45.specialBack hx (y := (⟨"java/lang/String", "<init>", "([C)V"⟩ : MethodName)) rfl hown (mvT hZ (hw _ (List.mem_of_getElem? (i := 6) rfl))) (mvT hZ (hw _ (List.mem_of_getElem? (i := 7) rfl))) (mvT hZ (hw _ (List.mem_of_getElem? (i := 8) rfl))) (by decide) (StrChars.Road.backV (W := 1) hZ hws (kI := 4) (hw _ (List.mem_of_getElem? (i := 4) rfl)) (cs := [(nar .char ((p6 &&& (255 : Int32)).toUInt32.toUInt16.toUInt32.toInt32))]) (bs := [((nar .char ((p6 &&& (255 : Int32)).toUInt32.toUInt16.toUInt32.toInt32))).toInt8.toInt32]) (n := 1) ge_str hZn E_str F_value_str F_coder_str V_chs (S_cs.ext hOld.2) hz rfl rfl (by decide) (by decide) hlat rfl (by decide) (by decide)) (g := (mkF m 62 #[.val (.int p1), .val (.long q2), .second, .val (.int p3), .val (.int p4), .val (.int p6), .val (.int p7), .val (.long d), .second, .val (.int n), .val (.ref key), .val (.ref chs), .unset, .unset, .unset, .unset] [(.ref chs), (.ref str), (.ref str)])) rfl (by rw [hml]; rfl) (Steps.refl _) (a := str) (argsL := [(.ref chs)]) (rest := [(.ref str)]) (lenOf pd_3 rfl) rfl (by show 2 * 0 + _ ≤ _; exact Nat.le_of_eq rfl) (hb hby at_62) (fun _ _ => ⟨rfl, e45, (by decide : 3 + 1 ≤ _), (by decide : 8 + 1 ≤ _)⟩)
      dsimp only [Pt.U, Pt.locs, Pt.cells, Pt.slots] at X48 l48 y48 z48 st48 hQ48
      subst l48 y48 z48
      obtain ⟨rfl, N48q, K48, g48a, g48b, tb, kb, g48c, g48d, g48e, g48f, g48g⟩ := hQ48
      have N48 := Fr.app N43 N48q
      have R49 : ∀ tgt, Steps p.tables e below (T48.setTop (mkF m 65 #[.val (.int p1), .val (.long q2), .second, .val (.int p3), .val (.int p4), .val (.int p6), .val (.int p7), .val (.long d), .second, .val (.int n), .val (.ref key), .val (.ref chs), .unset, .unset, .unset, .unset] [(.ref str)])) tgt → Steps p.tables e below A0 tgt := fun tgt hgo => R47 tgt (st48.trans hgo)
      replace hZn := Nat.le_trans hZn K48.1
      replace hK := hK.trans K48 (allS (Or.inr sz_str) all0)
      replace hOld := hOld.keep K48 (allS ge_str all0)
      replace V_key := V_key.keep K48 (ninS ne_key_str nin0)
      replace V_chs := V_chs.keep K48 (ninS ne_chs_str nin0)
      replace E_str := E_str.keep K48
      have R50 : ∀ tgt, Steps p.tables e below (T48.setTop (mkF m 68 #[.val (.int p1), .val (.long q2), .second, .val (.int p3), .val (.int p4), .val (.int p6), .val (.int p7), .val (.long d), .second, .val (.int n), .val (.ref key), .val (.ref chs), .val (.ref str), .unset, .unset, .unset] [(.int (1 : Int32))])) tgt → Steps p.tables e below A0 tgt := by
        intro tgt hgo
        refine R49 tgt ?_
        show Steps p.tables e below (T48.setTop (mkF m 65 #[.val (.int p1), .val (.long q2), .second, .val (.int p3), .val (.int p4), .val (.int p6), .val (.int p7), .val (.long d), .second, .val (.int n), .val (.ref key), .val (.ref chs), .unset, .unset, .unset, .unset] [(.ref str)])) _
        refine XS.astore X48.here hx rfl (hb hby at_65) rfl rfl (l' := #[.val (.int p1), .val (.long q2), .second, .val (.int p3), .val (.int p4), .val (.int p6), .val (.int p7), .val (.long d), .second, .val (.int n), .val (.ref key), .val (.ref chs), .val (.ref str), .unset, .unset, .unset]) rfl ?_
        show Steps p.tables e below (T48.setTop (mkF m 67 #[.val (.int p1), .val (.long q2), .second, .val (.int p3), .val (.int p4), .val (.int p6), .val (.int p7), .val (.long d), .second, .val (.int n), .val (.ref key), .val (.ref chs), .val (.ref str), .unset, .unset, .unset] [])) _
        refine XS.iconst X48.here hx rfl (hb hby at_67) ?_
        show Steps p.tables e below (T48.setTop (mkF m 68 #[.val (.int p1), .val (.long q2), .second, .val (.int p3), .val (.int p4), .val (.int p6), .val (.int p7), .val (.long d), .second, .val (.int n), .val (.ref key), .val (.ref chs), .val (.ref str), .unset, .unset, .unset] [(.int (1 : Int32))])) _
        exact hgo
      obtain ⟨T51, h51, k51, X51, e51, E51, A51, st51⟩ := newP X48 hx hZ (hw _ (List.mem_of_getElem? (i := 1) rfl)) rfl (g := (mkF m 68 #[.val (.int p1), .val (.long q2), .second, .val (.int p3), .val (.int p4), .val (.int p6), .val (.int p7), .val (.long d), .second, .val (.int n), .val (.ref key), .val (.ref chs), .val (.ref str), .unset, .unset, .unset] [(.int (1 : Int32))])) rfl (hb hby at_68) rfl (by decide) (cap := 1) (by decide) (by decide) (by decide) (by decide)
      obtain ⟨bod, g51⟩ : ∃ z, z = T48.heap.size := ⟨_, rfl⟩
      rw [← g51] at A51 st51
      have ne_key_bod : key ≠ bod := Nat.ne_of_lt (Nat.lt_of_lt_of_le V_key.lt (Nat.le_of_eq g51.symm))
      have ne_chs_bod : chs ≠ bod := Nat.ne_of_lt (Nat.lt_of_lt_of_le V_chs.lt (Nat.le_of_eq g51.symm))
      have ne_str_bod : str ≠ bod := Nat.ne_of_lt (Nat.lt_of_lt_of_le E_str.lt (Nat.le_of_eq g51.symm))
      have ge_bod : n0 ≤ bod := Nat.le_trans hZn (Nat.le_of_eq g51.symm)
      have sz_bod : h0.size ≤ bod := Nat.le_trans hK.1 (Nat.le_of_eq g51.symm)
      replace hZn := Nat.le_trans hZn E51.1
      replace hK := hK.ext E51
      replace hOld := hOld.ext E51
      replace V_key := V_key.ext E51
      replace V_chs := V_chs.ext E51
      replace E_str := E_str.ext E51
      have V_bod : Arv Z h51 bod k51 .byte (1 : Int32) [(.int (0 : Int32))] (.int (0 : Int32)) := (Arv.new A51 (by decide)).pad (pad_rep [] (.int (0 : Int32)) 1)
      have R52 : ∀ tgt, Steps p.tables e below (T51.setTop (mkF m 70 #[.val (.int p1), .val (.long q2), .second, .val (.int p3), .val (.int p4), .val (.int p6), .val (.int p7), .val (.long d), .second, .val (.int n), .val (.ref key), .val (.ref chs), .val (.ref str), .unset, .unset, .unset] [(.ref bod)])) tgt → Steps p.tables e below A0 tgt := fun tgt hgo => R50 tgt (st51 tgt hgo)
      have R53 : ∀ tgt, Steps p.tables e below (T51.setTop (mkF m 78 #[.val (.int p1), .val (.long q2), .second, .val (.int p3), .val (.int p4), .val (.int p6), .val (.int p7), .val (.long d), .second, .val (.int n), .val (.ref key), .val (.ref chs), .val (.ref str), .val (.ref bod), .unset, .unset] [(.int (p4.toInt8.toInt32)), (.int (0 : Int32)), (.ref bod)])) tgt → Steps p.tables e below A0 tgt := by
        intro tgt hgo
        refine R52 tgt ?_
        show Steps p.tables e below (T51.setTop (mkF m 70 #[.val (.int p1), .val (.long q2), .second, .val (.int p3), .val (.int p4), .val (.int p6), .val (.int p7), .val (.long d), .second, .val (.int n), .val (.ref key), .val (.ref chs), .val (.ref str), .unset, .unset, .unset] [(.ref bod)])) _
        refine XS.astore X51.here hx rfl (hb hby at_70) rfl rfl (l' := #[.val (.int p1), .val (.long q2), .second, .val (.int p3), .val (.int p4), .val (.int p6), .val (.int p7), .val (.long d), .second, .val (.int n), .val (.ref key), .val (.ref chs), .val (.ref str), .val (.ref bod), .unset, .unset]) rfl ?_
        show Steps p.tables e below (T51.setTop (mkF m 72 #[.val (.int p1), .val (.long q2), .second, .val (.int p3), .val (.int p4), .val (.int p6), .val (.int p7), .val (.long d), .second, .val (.int n), .val (.ref key), .val (.ref chs), .val (.ref str), .val (.ref bod), .unset, .unset] [])) _
        refine XS.aload X51.here hx rfl (hb hby at_72) rfl rfl ?_
        show Steps p.tables e below (T51.setTop (mkF m 74 #[.val (.int p1), .val (.long q2), .second, .val (.int p3), .val (.int p4), .val (.int p6), .val (.int p7), .val (.long d), .second, .val (.int n), .val (.ref key), .val (.ref chs), .val (.ref str), .val (.ref bod), .unset, .unset] [(.ref bod)])) _
        refine XS.iconst X51.here hx rfl (hb hby at_74) ?_
        show Steps p.tables e below (T51.setTop (mkF m 75 #[.val (.int p1), .val (.long q2), .second, .val (.int p3), .val (.int p4), .val (.int p6), .val (.int p7), .val (.long d), .second, .val (.int n), .val (.ref key), .val (.ref chs), .val (.ref str), .val (.ref bod), .unset, .unset] [(.int (0 : Int32)), (.ref bod)])) _
        refine XS.iload X51.here hx rfl (hb hby at_75) rfl ?_
        show Steps p.tables e below (T51.setTop (mkF m 77 #[.val (.int p1), .val (.long q2), .second, .val (.int p3), .val (.int p4), .val (.int p6), .val (.int p7), .val (.long d), .second, .val (.int n), .val (.ref key), .val (.ref chs), .val (.ref str), .val (.ref bod), .unset, .unset] [(.int p4), (.int (0 : Int32)), (.ref bod)])) _
        refine XS.i2b X51.here hx rfl (hb hby at_77) rfl ?_
        show Steps p.tables e below (T51.setTop (mkF m 78 #[.val (.int p1), .val (.long q2), .second, .val (.int p3), .val (.int p4), .val (.int p6), .val (.int p7), .val (.long d), .second, .val (.int n), .val (.ref key), .val (.ref chs), .val (.ref str), .val (.ref bod), .unset, .unset] [(.int (p4.toInt8.toInt32)), (.int (0 : Int32)), (.ref bod)])) _
        exact hgo
      obtain ⟨cl54, Ar54, q54, S54, Nn54, H54, G54⟩ := V_bod
      have hin54 : ¬ ((0 : Int32) < 0 ∨ cl54.slots.size ≤ ((0 : Int32)).toNatClampNeg) := inb_of S54 ⟨by decide, by decide⟩
      obtain ⟨T54, h54, X54, e54, W54, st54⟩ := stB X51 hx hZ e51 Ar54 (j := (0 : Int32)) hin54 (g := (mkF m 78 #[.val (.int p1), .val (.long q2), .second, .val (.int p3), .val (.int p4), .val (.int p6), .val (.int p7), .val (.long d), .second, .val (.int n), .val (.ref key), .val (.ref chs), .val (.ref str), .val (.ref bod), .unset, .unset] [(.int (p4.toInt8.toInt32)), (.int (0 : Int32)), (.ref bod)])) rfl rfl (hb hby at_78)
      replace hZn := Nat.le_trans hZn (Keep.of_wr W54).1
      replace hK := hK.wr W54 (Or.inr sz_bod)
      replace hOld := hOld.wr W54 ge_bod
      replace V_key := V_key.other W54 ne_key_bod
      replace V_chs := V_chs.other W54 ne_chs_bod
      replace E_str := E_str.wr W54
      have V_bod : Arv Z h54 bod k51 .byte (1 : Int32) [(.int (nar .byte (p4.toInt8.toInt32)))] (.int (0 : Int32)) := Arv.set Ar54 q54 S54 Nn54 H54 G54 (fits_nar_byte _) W54 0 rfl (Nat.le_of_ble_eq_true rfl)
      have N54 := Fr.snoc X54 N48 ge_bod
      have R55 : ∀ tgt, Steps p.tables e below (T54.setTop (mkF m 79 #[.val (.int p1), .val (.long q2), .second, .val (.int p3), .val (.int p4), .val (.int p6), .val (.int p7), .val (.long d), .second, .val (.int n), .val (.ref key), .val (.ref chs), .val (.ref str), .val (.ref bod), .unset, .unset] [])) tgt → Steps p.tables e below A0 tgt := fun tgt hgo => R53 tgt (st54 tgt hgo)
      obtain ⟨T56, h56, X56, e56, E56, A56, D56, -, st56⟩ := newO X54 hx hZ hown (hw _ (List.mem_of_getElem? (i := 31) rfl)) (hw _ (List.mem_of_getElem? (i := 32) rfl)) (hw _ (List.mem_of_getElem? (i := 33) rfl)) e54 (g := (mkF m 79 #[.val (.int p1), .val (.long q2), .second, .val (.int p3), .val (.int p4), .val (.int p6), .val (.int p7), .val (.long d), .second, .val (.int n), .val (.ref key), .val (.ref chs), .val (.ref str), .val (.ref bod), .unset, .unset] [])) rfl (hb hby at_79) (by decide) (by decide)
      obtain ⟨pub, g56⟩ : ∃ z, z = h54.size := ⟨_, rfl⟩
      rw [← g56] at A56 D56 st56
      have ne_key_pub : key ≠ pub := Nat.ne_of_lt (Nat.lt_of_lt_of_le V_key.lt (Nat.le_of_eq g56.symm))
      have ne_chs_pub : chs ≠ pub := Nat.ne_of_lt (Nat.lt_of_lt_of_le V_chs.lt (Nat.le_of_eq g56.symm))
      have ne_str_pub : str ≠ pub := Nat.ne_of_lt (Nat.lt_of_lt_of_le E_str.lt (Nat.le_of_eq g56.symm))
      have ne_bod_pub : bod ≠ pub := Nat.ne_of_lt (Nat.lt_of_lt_of_le V_bod.lt (Nat.le_of_eq g56.symm))
      have ge_pub : n0 ≤ pub := Nat.le_trans hZn (Nat.le_of_eq g56.symm)
      have sz_pub : h0.size ≤ pub := Nat.le_trans hK.1 (Nat.le_of_eq g56.symm)
      replace hZn := Nat.le_trans hZn E56.1
      replace hK := hK.ext E56
      replace hOld := hOld.ext E56
      replace V_key := V_key.ext E56
      replace V_chs := V_chs.ext E56
      replace E_str := E_str.ext E56
      replace V_bod := V_bod.ext E56
      have E_pub := A56
      have F_request_pub : Fld Z h56 pub "com/example/loglane/loglane/wire/Frame$Publish" "request" "I" (.int (0 : Int32)) := D56 (Or.inr (hw _ (List.mem_of_getElem? (i := 53) rfl))) (ty := .int) (by decide)
      have F_topic_pub : Fld Z h56 pub "com/example/loglane/loglane/wire/Frame$Publish" "topic" "Ljava/lang/String;" .null := D56 (Or.inr (hw _ (List.mem_of_getElem? (i := 55) rfl))) (ty := (.object "java/lang/String")) (by decide)
      have F_delayMillis_pub : Fld Z h56 pub "com/example/loglane/loglane/wire/Frame$Publish" "delayMillis" "J" (.long (0 : Int64)) := D56 (Or.inr (hw _ (List.mem_of_getElem? (i := 57) rfl))) (ty := .long) (by decide)
      have F_key_pub : Fld Z h56 pub "com/example/loglane/loglane/wire/Frame$Publish" "key" "[B" .null := D56 (Or.inr (hw _ (List.mem_of_getElem? (i := 59) rfl))) (ty := (.array .byte)) (by decide)
      have F_body_pub : Fld Z h56 pub "com/example/loglane/loglane/wire/Frame$Publish" "body" "[B" .null := D56 (Or.inr (hw _ (List.mem_of_getElem? (i := 61) rfl))) (ty := (.array .byte)) (by decide)
      have R57 : ∀ tgt, Steps p.tables e below (T56.setTop (mkF m 82 #[.val (.int p1), .val (.long q2), .second, .val (.int p3), .val (.int p4), .val (.int p6), .val (.int p7), .val (.long d), .second, .val (.int n), .val (.ref key), .val (.ref chs), .val (.ref str), .val (.ref bod), .unset, .unset] [(.ref pub)])) tgt → Steps p.tables e below A0 tgt := fun tgt hgo => R55 tgt (st56 tgt hgo)
      have R58 : ∀ tgt, Steps p.tables e below (T56.setTop (mkF m 92 #[.val (.int p1), .val (.long q2), .second, .val (.int p3), .val (.int p4), .val (.int p6), .val (.int p7), .val (.long d), .second, .val (.int n), .val (.ref key), .val (.ref chs), .val (.ref str), .val (.ref bod), .unset, .unset] [(.ref bod), (.ref key), (.long d), (.ref str), (.int p1), (.ref pub), (.ref pub)])) tgt → Steps p.tables e below A0 tgt := by
        intro tgt hgo
        refine R57 tgt ?_
        show Steps p.tables e below (T56.setTop (mkF m 82 #[.val (.int p1), .val (.long q2), .second, .val (.int p3), .val (.int p4), .val (.int p6), .val (.int p7), .val (.long d), .second, .val (.int n), .val (.ref key), .val (.ref chs), .val (.ref str), .val (.ref bod), .unset, .unset] [(.ref pub)])) _
        refine XS.dup X56.here hx rfl (hb hby at_82) rfl rfl ?_
        show Steps p.tables e below (T56.setTop (mkF m 83 #[.val (.int p1), .val (.long q2), .second, .val (.int p3), .val (.int p4), .val (.int p6), .val (.int p7), .val (.long d), .second, .val (.int n), .val (.ref key), .val (.ref chs), .val (.ref str), .val (.ref bod), .unset, .unset] [(.ref pub), (.ref pub)])) _
        refine XS.iloadN X56.here hx rfl (hb hby at_83) rfl ?_
        show Steps p.tables e below (T56.setTop (mkF m 84 #[.val (.int p1), .val (.long q2), .second, .val (.int p3), .val (.int p4), .val (.int p6), .val (.int p7), .val (.long d), .second, .val (.int n), .val (.ref key), .val (.ref chs), .val (.ref str), .val (.ref bod), .unset, .unset] [(.int p1), (.ref pub), (.ref pub)])) _
        refine XS.aload X56.here hx rfl (hb hby at_84) rfl rfl ?_
        show Steps p.tables e below (T56.setTop (mkF m 86 #[.val (.int p1), .val (.long q2), .second, .val (.int p3), .val (.int p4), .val (.int p6), .val (.int p7), .val (.long d), .second, .val (.int n), .val (.ref key), .val (.ref chs), .val (.ref str), .val (.ref bod), .unset, .unset] [(.ref str), (.int p1), (.ref pub), (.ref pub)])) _
        refine XS.lload X56.here hx rfl (hb hby at_86) rfl ?_
        show Steps p.tables e below (T56.setTop (mkF m 88 #[.val (.int p1), .val (.long q2), .second, .val (.int p3), .val (.int p4), .val (.int p6), .val (.int p7), .val (.long d), .second, .val (.int n), .val (.ref key), .val (.ref chs), .val (.ref str), .val (.ref bod), .unset, .unset] [(.long d), (.ref str), (.int p1), (.ref pub), (.ref pub)])) _
        refine XS.aload X56.here hx rfl (hb hby at_88) rfl rfl ?_
        show Steps p.tables e below (T56.setTop (mkF m 90 #[.val (.int p1), .val (.long q2), .second, .val (.int p3), .val (.int p4), .val (.int p6), .val (.int p7), .val (.long d), .second, .val (.int n), .val (.ref key), .val (.ref chs), .val (.ref str), .val (.ref bod), .unset, .unset] [(.ref key), (.long d), (.ref str), (.int p1), (.ref pub), (.ref pub)])) _
        refine XS.aload X56.here hx rfl (hb hby at_90) rfl rfl ?_
        show Steps p.tables e below (T56.setTop (mkF m 92 #[.val (.int p1), .val (.long q2), .second, .val (.int p3), .val (.int p4), .val (.int p6), .val (.int p7), .val (.long d), .second, .val (.int n), .val (.ref key), .val (.ref chs), .val (.ref str), .val (.ref bod), .unset, .unset] [(.ref bod), (.ref key), (.long d), (.ref str), (.int p1), (.ref pub), (.ref pub)])) _
        exact hgo
      obtain ⟨_, _, ⟨T59, L59, k59, n59⟩, -, X59, ⟨Lc59, hQ59, l59, y59, z59⟩, st59⟩ := X56.specialBack hx (y := (⟨"com/example/loglane/loglane/wire/Frame$Publish", "<init>", "(ILjava/lang/String;J[B[B)V"⟩ : MethodName)) rfl hown (mvT hZ (hw _ (List.mem_of_getElem? (i := 34) rfl))) (mvT hZ (hw _ (List.mem_of_getElem? (i := 35) rfl))) (mvT hZ (hw _ (List.mem_of_getElem? (i := 36) rfl))) (by decide) (backOf (W := 1) (rm_ini l Z a0 hw [] pub p1 str d key bod _ _ _ h56 n0 hZn ge_pub E_pub F_request_pub F_topic_pub F_delayMillis_pub F_key_pub F_body_pub V_key (own_len hn) hd.1 hd.2) hZ (hw _ (List.mem_of_getElem? (i := 36) rfl)) (hw _ (List.mem_of_getElem? (i := 33) rfl)) (by decide) (by decide)) (g := (mkF m 92 #[.val (.int p1), .val (.long q2), .second, .val (.int p3), .val (.int p4), .val (.int p6), .val (.int p7), .val (.long d), .second, .val (.int n), .val (.ref key), .val (.ref chs), .val (.ref str), .val (.ref bod), .unset, .unset] [(.ref bod), (.ref key), (.long d), (.ref str), (.int p1), (.ref pub), (.ref pub)])) rfl (by rw [hml]; rfl) (Steps.refl _) (a := pub) (argsL := [(.int p1), (.ref str), (.long d), (.ref key), (.ref bod)]) (rest := [(.ref pub)]) (lenOf pd_4 rfl) rfl (by show 2 * 0 + _ ≤ _; exact Nat.le_of_eq rfl) (hb hby at_92) (fun _ _ => ⟨rfl, e56, (by decide : 6 + 0 ≤ _), (by decide : 15 + 0 ≤ _)⟩)
      dsimp only [Pt.U, Pt.locs, Pt.cells, Pt.slots] at X59 l59 y59 z59 st59 hQ59
      subst l59 y59 z59
      obtain ⟨rfl, N59q, K59, E59p, f59a, f59b⟩ := hQ59
      have N59 := Fr.app N54 N59q
      have R60 : ∀ tgt, Steps p.tables e below (T59.setTop (mkF m 95 #[.val (.int p1), .val (.long q2), .second, .val (.int p3), .val (.int p4), .val (.int p6), .val (.int p7), .val (.long d), .second, .val (.int n), .val (.ref key), .val (.ref chs), .val (.ref str), .val (.ref bod), .unset, .unset] [(.ref pub)])) tgt → Steps p.tables e below A0 tgt := fun tgt hgo => R58 tgt (st59.trans hgo)
      replace hZn := Nat.le_trans hZn K59.1
      replace hK := hK.trans K59 (allS (Or.inr sz_pub) all0)
      replace hOld := hOld.keep K59 (allS ge_pub all0)
      replace V_key := V_key.keep K59 (ninS ne_key_pub nin0)
      replace V_chs := V_chs.keep K59 (ninS ne_chs_pub nin0)
      replace E_str := E_str.keep K59
      replace V_bod := V_bod.keep K59 (ninS ne_bod_pub nin0)
      replace E_pub := E_pub.keep K59
      have F_d := f59a
      have F_k := f59b
      have R62 : ∀ tgt, Steps p.tables e below (T59.setTop (mkF m 113 #[.val (.int p1), .val (.long q2), .second, .val (.int p3), .val (.int p4), .val (.int p6), .val (.int p7), .val (.long d), .second, .val (.int n), .val (.ref key), .val (.ref chs), .val (.ref str), .val (.ref bod), .val (.ref pub), .unset] [(.int (lcmpW d (0 : Int64)))])) tgt → Steps p.tables e below A0 tgt := by
        intro tgt hgo
        refine R60 tgt ?_
        show Steps p.tables e below (T59.setTop (mkF m 95 #[.val (.int p1), .val (.long q2), .second, .val (.int p3), .val (.int p4), .val (.int p6), .val (.int p7), .val (.long d), .second, .val (.int n), .val (.ref key), .val (.ref chs), .val (.ref str), .val (.ref bod), .unset, .unset] [(.ref pub)])) _
        refine XS.astore X59.here hx rfl (hb hby at_95) rfl rfl (l' := #[.val (.int p1), .val (.long q2), .second, .val (.int p3), .val (.int p4), .val (.int p6), .val (.int p7), .val (.long d), .second, .val (.int n), .val (.ref key), .val (.ref chs), .val (.ref str), .val (.ref bod), .val (.ref pub), .unset]) rfl ?_
        show Steps p.tables e below (T59.setTop (mkF m 97 #[.val (.int p1), .val (.long q2), .second, .val (.int p3), .val (.int p4), .val (.int p6), .val (.int p7), .val (.long d), .second, .val (.int n), .val (.ref key), .val (.ref chs), .val (.ref str), .val (.ref bod), .val (.ref pub), .unset] [])) _
        refine XS.iload X59.here hx rfl (hb hby at_97) rfl ?_
        show Steps p.tables e below (T59.setTop (mkF m 99 #[.val (.int p1), .val (.long q2), .second, .val (.int p3), .val (.int p4), .val (.int p6), .val (.int p7), .val (.long d), .second, .val (.int n), .val (.ref key), .val (.ref chs), .val (.ref str), .val (.ref bod), .val (.ref pub), .unset] [(.int n)])) _
        refine XS.ifYes X59.here hx rfl (pc0 := 99) (pc' := 109) rfl (hb hby at_99) rfl ((if0 _ _).trans (flt hc30_8).2.2.2) (by decide) (by decide) ?_
        show Steps p.tables e below (T59.setTop (mkF m 109 #[.val (.int p1), .val (.long q2), .second, .val (.int p3), .val (.int p4), .val (.int p6), .val (.int p7), .val (.long d), .second, .val (.int n), .val (.ref key), .val (.ref chs), .val (.ref str), .val (.ref bod), .val (.ref pub), .unset] [])) _
        refine XS.lload X59.here hx rfl (hb hby at_109) rfl ?_
        show Steps p.tables e below (T59.setTop (mkF m 111 #[.val (.int p1), .val (.long q2), .second, .val (.int p3), .val (.int p4), .val (.int p6), .val (.int p7), .val (.long d), .second, .val (.int n), .val (.ref key), .val (.ref chs), .val (.ref str), .val (.ref bod), .val (.ref pub), .unset] [(.long d)])) _
        refine XS.lconst X59.here hx rfl (hb hby at_111) ?_
        show Steps p.tables e below (T59.setTop (mkF m 112 #[.val (.int p1), .val (.long q2), .second, .val (.int p3), .val (.int p4), .val (.int p6), .val (.int p7), .val (.long d), .second, .val (.int n), .val (.ref key), .val (.ref chs), .val (.ref str), .val (.ref bod), .val (.ref pub), .unset] [(.long (0 : Int64)), (.long d)])) _
        refine XS.lcmp X59.here hx rfl (hb hby at_112) rfl ?_
        show Steps p.tables e below (T59.setTop (mkF m 113 #[.val (.int p1), .val (.long q2), .second, .val (.int p3), .val (.int p4), .val (.int p6), .val (.int p7), .val (.long d), .second, .val (.int n), .val (.ref key), .val (.ref chs), .val (.ref str), .val (.ref bod), .val (.ref pub), .unset] [(.int (lcmpW d (0 : Int64)))])) _
        exact hgo
      by_cases hc113_61 : (lcmpW d (0 : Int64)) = (0 : Int32)
      · have R63 : ∀ tgt, Steps p.tables e below (T59.setTop (mkF m 128 #[.val (.int p1), .val (.long q2), .second, .val (.int p3), .val (.int p4), .val (.int p6), .val (.int p7), .val (.long d), .second, .val (.int n), .val (.ref key), .val (.ref chs), .val (.ref str), .val (.ref bod), .val (.ref pub), .val (.int (2 : Int32))] [(.ref pub)])) tgt → Steps p.tables e below A0 tgt := by
          intro tgt hgo
          refine R62 tgt ?_
          show Steps p.tables e below (T59.setTop (mkF m 113 #[.val (.int p1), .val (.long q2), .second, .val (.int p3), .val (.int p4), .val (.int p6), .val (.int p7), .val (.long d), .second, .val (.int n), .val (.ref key), .val (.ref chs), .val (.ref str), .val (.ref bod), .val (.ref pub), .unset] [(.int (lcmpW d (0 : Int64)))])) _
          refine XS.ifNo X59.here hx rfl (hb hby at_113) rfl ((if0 _ _).trans (teq hc113_61).2) ?_
          show Steps p.tables e below (T59.setTop (mkF m 116 #[.val (.int p1), .val (.long q2), .second, .val (.int p3), .val (.int p4), .val (.int p6), .val (.int p7), .val (.long d), .second, .val (.int n), .val (.ref key), .val (.ref chs), .val (.ref str), .val (.ref bod), .val (.ref pub), .unset] [])) _
          refine XS.iconst X59.here hx rfl (hb hby at_116) ?_
          show Steps p.tables e below (T59.setTop (mkF m 117 #[.val (.int p1), .val (.long q2), .second, .val (.int p3), .val (.int p4), .val (.int p6), .val (.int p7), .val (.long d), .second, .val (.int n), .val (.ref key), .val (.ref chs), .val (.ref str), .val (.ref bod), .val (.ref pub), .unset] [(.int (2 : Int32))])) _
          refine XS.istore X59.here hx rfl (hb hby at_117) rfl (l' := #[.val (.int p1), .val (.long q2), .second, .val (.int p3), .val (.int p4), .val (.int p6), .val (.int p7), .val (.long d), .second, .val (.int n), .val (.ref key), .val (.ref chs), .val (.ref str), .val (.ref bod), .val (.ref pub), .val (.int (2 : Int32))]) rfl ?_
          show Steps p.tables e below (T59.setTop (mkF m 119 #[.val (.int p1), .val (.long q2), .second, .val (.int p3), .val (.int p4), .val (.int p6), .val (.int p7), .val (.long d), .second, .val (.int n), .val (.ref key), .val (.ref chs), .val (.ref str), .val (.ref bod), .val (.ref pub), .val (.int (2 : Int32))] [])) _
          refine XS.goto X59.here hx rfl (pc0 := 119) (pc' := 126) rfl (hb hby at_119) (by decide) (by decide) ?_
          show Steps p.tables e below (T59.setTop (mkF m 126 #[.val (.int p1), .val (.long q2), .second, .val (.int p3), .val (.int p4), .val (.int p6), .val (.int p7), .val (.long d), .second, .val (.int n), .val (.ref key), .val (.ref chs), .val (.ref str), .val (.ref bod), .val (.ref pub), .val (.int (2 : Int32))] [])) _
          refine XS.aload X59.here hx rfl (hb hby at_126) rfl rfl ?_
          show Steps p.tables e below (T59.setTop (mkF m 128 #[.val (.int p1), .val (.long q2), .second, .val (.int p3), .val (.int p4), .val (.int p6), .val (.int p7), .val (.long d), .second, .val (.int n), .val (.ref key), .val (.ref chs), .val (.ref str), .val (.ref bod), .val (.ref pub), .val (.int (2 : Int32))] [(.ref pub)])) _
          exact hgo
        obtain ⟨cq64, kq64, q64a, q64b, q64c⟩ := isOf hZ rfl E_pub
        obtain ⟨_, _, ⟨T64, L64, k64, n64⟩, -, X64, ⟨Lc64, hQ64, l64, y64, z64⟩, st64⟩ := X59.virtualBack hx (y := (⟨"com/example/loglane/loglane/wire/Frame$Publish", "type", "()I"⟩ : MethodName)) (z := (⟨"com/example/loglane/loglane/wire/Frame$Publish", "type", "()I"⟩ : MethodName)) hown (mvT hZ (hw _ (List.mem_of_getElem? (i := 62) rfl))) (mvT hZ (hw _ (List.mem_of_getElem? (i := 63) rfl))) (notFace_of_selects (args := #[]) (mvT hZ (hw _ (List.mem_of_getElem? (i := 65) rfl)))) (mvT hZ (hw _ (List.mem_of_getElem? (i := 65) rfl))) (mvT hZ (hw _ (List.mem_of_getElem? (i := 64) rfl))) (by decide) (backOf (W := 0) (rm_typ l Z a0 hw [] pub key d _ n _ (2 : Int32) T59.heap n0 hZn F_k F_d V_key (by unfold own_type; rw [if_neg hc30_8, if_pos hc113_61])) hZ (hw _ (List.mem_of_getElem? (i := 66) rfl)) (hw _ (List.mem_of_getElem? (i := 33) rfl)) (by decide) (by decide)) q64a q64c (g := (mkF m 128 #[.val (.int p1), .val (.long q2), .second, .val (.int p3), .val (.int p4), .val (.int p6), .val (.int p7), .val (.long d), .second, .val (.int n), .val (.ref key), .val (.ref chs), .val (.ref str), .val (.ref bod), .val (.ref pub), .val (.int (2 : Int32))] [(.ref pub)])) rfl (by rw [hml]; rfl) (Steps.refl _) (argsL := []) (rest := []) (lenOf pd_5 rfl) rfl (by show 2 * 0 + _ ≤ _; exact Nat.le_of_eq rfl) (hb hby at_128) (fun _ _ => ⟨rfl, rfl, (by decide : 6 + 0 ≤ _), (by decide : 15 + 0 ≤ _)⟩)
        dsimp only [Pt.U, Pt.locs, Pt.cells, Pt.slots] at X64 l64 y64 z64 st64 hQ64
        subst l64 y64 z64
        obtain ⟨rfl, N64q, e64⟩ := hQ64
        have N64 := Fr.app N59 N64q
        have R65 : ∀ tgt, Steps p.tables e below (T64.setTop (mkF m 131 #[.val (.int p1), .val (.long q2), .second, .val (.int p3), .val (.int p4), .val (.int p6), .val (.int p7), .val (.long d), .second, .val (.int n), .val (.ref key), .val (.ref chs), .val (.ref str), .val (.ref bod), .val (.ref pub), .val (.int (2 : Int32))] [(.int (2 : Int32))])) tgt → Steps p.tables e below A0 tgt := fun tgt hgo => R63 tgt (st64.trans hgo)
        have R66 : ∀ tgt, Steps p.tables e below (T64.setTop (mkF m 141 #[.val (.int p1), .val (.long q2), .second, .val (.int p3), .val (.int p4), .val (.int p6), .val (.int p7), .val (.long d), .second, .val (.int n), .val (.ref key), .val (.ref chs), .val (.ref str), .val (.ref bod), .val (.ref pub), .val (.int (2 : Int32))] [(.int (1 : Int32))])) tgt → Steps p.tables e below A0 tgt := by
          intro tgt hgo
          refine R65 tgt ?_
          show Steps p.tables e below (T64.setTop (mkF m 131 #[.val (.int p1), .val (.long q2), .second, .val (.int p3), .val (.int p4), .val (.int p6), .val (.int p7), .val (.long d), .second, .val (.int n), .val (.ref key), .val (.ref chs), .val (.ref str), .val (.ref bod), .val (.ref pub), .val (.int (2 : Int32))] [(.int (2 : Int32))])) _
          refine XS.iload X64.here hx rfl (hb hby at_131) rfl ?_
          show Steps p.tables e below (T64.setTop (mkF m 133 #[.val (.int p1), .val (.long q2), .second, .val (.int p3), .val (.int p4), .val (.int p6), .val (.int p7), .val (.long d), .second, .val (.int n), .val (.ref key), .val (.ref chs), .val (.ref str), .val (.ref bod), .val (.ref pub), .val (.int (2 : Int32))] [(.int (2 : Int32)), (.int (2 : Int32))])) _
          refine XS.icmpNo X64.here hx rfl (hb hby at_133) rfl (teq (by decide : (2 : Int32) = (2 : Int32))).2 ?_
          show Steps p.tables e below (T64.setTop (mkF m 136 #[.val (.int p1), .val (.long q2), .second, .val (.int p3), .val (.int p4), .val (.int p6), .val (.int p7), .val (.long d), .second, .val (.int n), .val (.ref key), .val (.ref chs), .val (.ref str), .val (.ref bod), .val (.ref pub), .val (.int (2 : Int32))] [])) _
          refine XS.iconst X64.here hx rfl (hb hby at_136) ?_
          show Steps p.tables e below (T64.setTop (mkF m 137 #[.val (.int p1), .val (.long q2), .second, .val (.int p3), .val (.int p4), .val (.int p6), .val (.int p7), .val (.long d), .second, .val (.int n), .val (.ref key), .val (.ref chs), .val (.ref str), .val (.ref bod), .val (.ref pub), .val (.int (2 : Int32))] [(.int (1 : Int32))])) _
          refine XS.goto X64.here hx rfl (pc0 := 137) (pc' := 141) rfl (hb hby at_137) (by decide) (by decide) ?_
          show Steps p.tables e below (T64.setTop (mkF m 141 #[.val (.int p1), .val (.long q2), .second, .val (.int p3), .val (.int p4), .val (.int p6), .val (.int p7), .val (.long d), .second, .val (.int n), .val (.ref key), .val (.ref chs), .val (.ref str), .val (.ref bod), .val (.ref pub), .val (.int (2 : Int32))] [(.int (1 : Int32))])) _
          exact hgo
        subst hA0
        obtain ⟨fs, hr, hrun, hended, hW, hsame⟩ := X64.leave (v := some (.int (1 : Int32))) (fun h => by rw [Bd.returns] at h; cases h)
        refine ⟨_, _, R66 _ ?_, hrun, hended, _, _, rfl, ?_, ⟨_, rfl⟩, hW, hsame.mono (by decide) (by decide)⟩
        · show Steps p.tables e below (T64.setTop (mkF m 141 #[.val (.int p1), .val (.long q2), .second, .val (.int p3), .val (.int p4), .val (.int p6), .val (.int p7), .val (.long d), .second, .val (.int n), .val (.ref key), .val (.ref chs), .val (.ref str), .val (.ref bod), .val (.ref pub), .val (.int (2 : Int32))] [(.int (1 : Int32))])) _
          exact retN X64 hx (t := .boolean) Bd.returns (by simp) (hb hby at_141) hr
        · show Q0 n0 _ T64.heap _
          rw [e64]
          exact ⟨rfl, N64⟩
      · have R67 : ∀ tgt, Steps p.tables e below (T59.setTop (mkF m 128 #[.val (.int p1), .val (.long q2), .second, .val (.int p3), .val (.int p4), .val (.int p6), .val (.int p7), .val (.long d), .second, .val (.int n), .val (.ref key), .val (.ref chs), .val (.ref str), .val (.ref bod), .val (.ref pub), .val (.int (6 : Int32))] [(.ref pub)])) tgt → Steps p.tables e below A0 tgt := by
          intro tgt hgo
          refine R62 tgt ?_
          show Steps p.tables e below (T59.setTop (mkF m 113 #[.val (.int p1), .val (.long q2), .second, .val (.int p3), .val (.int p4), .val (.int p6), .val (.int p7), .val (.long d), .second, .val (.int n), .val (.ref key), .val (.ref chs), .val (.ref str), .val (.ref bod), .val (.ref pub), .unset] [(.int (lcmpW d (0 : Int64)))])) _
          refine XS.ifYes X59.here hx rfl (pc0 := 113) (pc' := 122) rfl (hb hby at_113) rfl ((if0 _ _).trans (feq hc113_61).2) (by decide) (by decide) ?_
          show Steps p.tables e below (T59.setTop (mkF m 122 #[.val (.int p1), .val (.long q2), .second, .val (.int p3), .val (.int p4), .val (.int p6), .val (.int p7), .val (.long d), .second, .val (.int n), .val (.ref key), .val (.ref chs), .val (.ref str), .val (.ref bod), .val (.ref pub), .unset] [])) _
          refine XS.bipush X59.here hx rfl (hb hby at_122) ?_
          show Steps p.tables e below (T59.setTop (mkF m 124 #[.val (.int p1), .val (.long q2), .second, .val (.int p3), .val (.int p4), .val (.int p6), .val (.int p7), .val (.long d), .second, .val (.int n), .val (.ref key), .val (.ref chs), .val (.ref str), .val (.ref bod), .val (.ref pub), .unset] [(.int (6 : Int32))])) _
          refine XS.istore X59.here hx rfl (hb hby at_124) rfl (l' := #[.val (.int p1), .val (.long q2), .second, .val (.int p3), .val (.int p4), .val (.int p6), .val (.int p7), .val (.long d), .second, .val (.int n), .val (.ref key), .val (.ref chs), .val (.ref str), .val (.ref bod), .val (.ref pub), .val (.int (6 : Int32))]) rfl ?_
          show Steps p.tables e below (T59.setTop (mkF m 126 #[.val (.int p1), .val (.long q2), .second, .val (.int p3), .val (.int p4), .val (.int p6), .val (.int p7), .val (.long d), .second, .val (.int n), .val (.ref key), .val (.ref chs), .val (.ref str), .val (.ref bod), .val (.ref pub), .val (.int (6 : Int32))] [])) _
          refine XS.aload X59.here hx rfl (hb hby at_126) rfl rfl ?_
          show Steps p.tables e below (T59.setTop (mkF m 128 #[.val (.int p1), .val (.long q2), .second, .val (.int p3), .val (.int p4), .val (.int p6), .val (.int p7), .val (.long d), .second, .val (.int n), .val (.ref key), .val (.ref chs), .val (.ref str), .val (.ref bod), .val (.ref pub), .val (.int (6 : Int32))] [(.ref pub)])) _
          exact hgo
        obtain ⟨cq68, kq68, q68a, q68b, q68c⟩ := isOf hZ rfl E_pub
        obtain ⟨_, _, ⟨T68, L68, k68, n68⟩, -, X68, ⟨Lc68, hQ68, l68, y68, z68⟩, st68⟩ := X59.virtualBack hx (y := (⟨"com/example/loglane/loglane/wire/Frame$Publish", "type", "()I"⟩ : MethodName)) (z := (⟨"com/example/loglane/loglane/wire/Frame$Publish", "type", "()I"⟩ : MethodName)) hown (mvT hZ (hw _ (List.mem_of_getElem? (i := 62) rfl))) (mvT hZ (hw _ (List.mem_of_getElem? (i := 63) rfl))) (notFace_of_selects (args := #[]) (mvT hZ (hw _ (List.mem_of_getElem? (i := 65) rfl)))) (mvT hZ (hw _ (List.mem_of_getElem? (i := 65) rfl))) (mvT hZ (hw _ (List.mem_of_getElem? (i := 64) rfl))) (by decide) (backOf (W := 0) (rm_typ l Z a0 hw [] pub key d _ n _ (6 : Int32) T59.heap n0 hZn F_k F_d V_key (by unfold own_type; rw [if_neg hc30_8, if_neg hc113_61])) hZ (hw _ (List.mem_of_getElem? (i := 66) rfl)) (hw _ (List.mem_of_getElem? (i := 33) rfl)) (by decide) (by decide)) q68a q68c (g := (mkF m 128 #[.val (.int p1), .val (.long q2), .second, .val (.int p3), .val (.int p4), .val (.int p6), .val (.int p7), .val (.long d), .second, .val (.int n), .val (.ref key), .val (.ref chs), .val (.ref str), .val (.ref bod), .val (.ref pub), .val (.int (6 : Int32))] [(.ref pub)])) rfl (by rw [hml]; rfl) (Steps.refl _) (argsL := []) (rest := []) (lenOf pd_5 rfl) rfl (by show 2 * 0 + _ ≤ _; exact Nat.le_of_eq rfl) (hb hby at_128) (fun _ _ => ⟨rfl, rfl, (by decide : 6 + 0 ≤ _), (by decide : 15 + 0 ≤ _)⟩)
        dsimp only [Pt.U, Pt.locs, Pt.cells, Pt.slots] at X68 l68 y68 z68 st68 hQ68
        subst l68 y68 z68
        obtain ⟨rfl, N68q, e68⟩ := hQ68
        have N68 := Fr.app N59 N68q
        have R69 : ∀ tgt, Steps p.tables e below (T68.setTop (mkF m 131 #[.val (.int p1), .val (.long q2), .second, .val (.int p3), .val (.int p4), .val (.int p6), .val (.int p7), .val (.long d), .second, .val (.int n), .val (.ref key), .val (.ref chs), .val (.ref str), .val (.ref bod), .val (.ref pub), .val (.int (6 : Int32))] [(.int (6 : Int32))])) tgt → Steps p.tables e below A0 tgt := fun tgt hgo => R67 tgt (st68.trans hgo)
        have R70 : ∀ tgt, Steps p.tables e below (T68.setTop (mkF m 141 #[.val (.int p1), .val (.long q2), .second, .val (.int p3), .val (.int p4), .val (.int p6), .val (.int p7), .val (.long d), .second, .val (.int n), .val (.ref key), .val (.ref chs), .val (.ref str), .val (.ref bod), .val (.ref pub), .val (.int (6 : Int32))] [(.int (1 : Int32))])) tgt → Steps p.tables e below A0 tgt := by
          intro tgt hgo
          refine R69 tgt ?_
          show Steps p.tables e below (T68.setTop (mkF m 131 #[.val (.int p1), .val (.long q2), .second, .val (.int p3), .val (.int p4), .val (.int p6), .val (.int p7), .val (.long d), .second, .val (.int n), .val (.ref key), .val (.ref chs), .val (.ref str), .val (.ref bod), .val (.ref pub), .val (.int (6 : Int32))] [(.int (6 : Int32))])) _
          refine XS.iload X68.here hx rfl (hb hby at_131) rfl ?_
          show Steps p.tables e below (T68.setTop (mkF m 133 #[.val (.int p1), .val (.long q2), .second, .val (.int p3), .val (.int p4), .val (.int p6), .val (.int p7), .val (.long d), .second, .val (.int n), .val (.ref key), .val (.ref chs), .val (.ref str), .val (.ref bod), .val (.ref pub), .val (.int (6 : Int32))] [(.int (6 : Int32)), (.int (6 : Int32))])) _
          refine XS.icmpNo X68.here hx rfl (hb hby at_133) rfl (teq (by decide : (6 : Int32) = (6 : Int32))).2 ?_
          show Steps p.tables e below (T68.setTop (mkF m 136 #[.val (.int p1), .val (.long q2), .second, .val (.int p3), .val (.int p4), .val (.int p6), .val (.int p7), .val (.long d), .second, .val (.int n), .val (.ref key), .val (.ref chs), .val (.ref str), .val (.ref bod), .val (.ref pub), .val (.int (6 : Int32))] [])) _
          refine XS.iconst X68.here hx rfl (hb hby at_136) ?_
          show Steps p.tables e below (T68.setTop (mkF m 137 #[.val (.int p1), .val (.long q2), .second, .val (.int p3), .val (.int p4), .val (.int p6), .val (.int p7), .val (.long d), .second, .val (.int n), .val (.ref key), .val (.ref chs), .val (.ref str), .val (.ref bod), .val (.ref pub), .val (.int (6 : Int32))] [(.int (1 : Int32))])) _
          refine XS.goto X68.here hx rfl (pc0 := 137) (pc' := 141) rfl (hb hby at_137) (by decide) (by decide) ?_
          show Steps p.tables e below (T68.setTop (mkF m 141 #[.val (.int p1), .val (.long q2), .second, .val (.int p3), .val (.int p4), .val (.int p6), .val (.int p7), .val (.long d), .second, .val (.int n), .val (.ref key), .val (.ref chs), .val (.ref str), .val (.ref bod), .val (.ref pub), .val (.int (6 : Int32))] [(.int (1 : Int32))])) _
          exact hgo
        subst hA0
        obtain ⟨fs, hr, hrun, hended, hW, hsame⟩ := X68.leave (v := some (.int (1 : Int32))) (fun h => by rw [Bd.returns] at h; cases h)
        refine ⟨_, _, R70 _ ?_, hrun, hended, _, _, rfl, ?_, ⟨_, rfl⟩, hW, hsame.mono (by decide) (by decide)⟩
        · show Steps p.tables e below (T68.setTop (mkF m 141 #[.val (.int p1), .val (.long q2), .second, .val (.int p3), .val (.int p4), .val (.int p6), .val (.int p7), .val (.long d), .second, .val (.int n), .val (.ref key), .val (.ref chs), .val (.ref str), .val (.ref bod), .val (.ref pub), .val (.int (6 : Int32))] [(.int (1 : Int32))])) _
          exact retN X68 hx (t := .boolean) Bd.returns (by simp) (hb hby at_141) hr
        · show Q0 n0 _ T68.heap _
          rw [e68]
          exact ⟨rfl, N68⟩
  · have R71 : ∀ tgt, Steps p.tables e below (s₁.setTop (mkF m 20 #[.val (.int p1), .val (.long q2), .second, .val (.int p3), .val (.int p4), .val (.int p6), .val (.int p7), .val (.long (0 : Int64)), .second, .unset, .unset, .unset, .unset, .unset, .unset, .unset] [(.int (p3 &&& (3 : Int32)))])) tgt → Steps p.tables e below A0 tgt := by
      intro tgt hgo
      refine R3 tgt ?_
      show Steps p.tables e below (s₁.setTop (mkF m 11 #[.val (.int p1), .val (.long q2), .second, .val (.int p3), .val (.int p4), .val (.int p6), .val (.int p7), .val (.long d), .second, .unset, .unset, .unset, .unset, .unset, .unset, .unset] [(.int (p7 &&& (1 : Int32)))])) _
      refine XS.ifNo X0.here hx rfl (hb hby at_11) rfl ((if0 _ _).trans (feq hc11_2).1) ?_
      show Steps p.tables e below (s₁.setTop (mkF m 14 #[.val (.int p1), .val (.long q2), .second, .val (.int p3), .val (.int p4), .val (.int p6), .val (.int p7), .val (.long d), .second, .unset, .unset, .unset, .unset, .unset, .unset, .unset] [])) _
      refine XS.lconst X0.here hx rfl (hb hby at_14) ?_
      show Steps p.tables e below (s₁.setTop (mkF m 15 #[.val (.int p1), .val (.long q2), .second, .val (.int p3), .val (.int p4), .val (.int p6), .val (.int p7), .val (.long d), .second, .unset, .unset, .unset, .unset, .unset, .unset, .unset] [(.long (0 : Int64))])) _
      refine XS.lstore X0.here hx rfl (hb hby at_15) rfl (l' := #[.val (.int p1), .val (.long q2), .second, .val (.int p3), .val (.int p4), .val (.int p6), .val (.int p7), .val (.long (0 : Int64)), .second, .unset, .unset, .unset, .unset, .unset, .unset, .unset]) rfl ?_
      show Steps p.tables e below (s₁.setTop (mkF m 17 #[.val (.int p1), .val (.long q2), .second, .val (.int p3), .val (.int p4), .val (.int p6), .val (.int p7), .val (.long (0 : Int64)), .second, .unset, .unset, .unset, .unset, .unset, .unset, .unset] [])) _
      refine XS.iloadN X0.here hx rfl (hb hby at_17) rfl ?_
      show Steps p.tables e below (s₁.setTop (mkF m 18 #[.val (.int p1), .val (.long q2), .second, .val (.int p3), .val (.int p4), .val (.int p6), .val (.int p7), .val (.long (0 : Int64)), .second, .unset, .unset, .unset, .unset, .unset, .unset, .unset] [(.int p3)])) _
      refine XS.iconst X0.here hx rfl (hb hby at_18) ?_
      show Steps p.tables e below (s₁.setTop (mkF m 19 #[.val (.int p1), .val (.long q2), .second, .val (.int p3), .val (.int p4), .val (.int p6), .val (.int p7), .val (.long (0 : Int64)), .second, .unset, .unset, .unset, .unset, .unset, .unset, .unset] [(.int (3 : Int32)), (.int p3)])) _
      refine XS.iand X0.here hx rfl (hb hby at_19) rfl ?_
      show Steps p.tables e below (s₁.setTop (mkF m 20 #[.val (.int p1), .val (.long q2), .second, .val (.int p3), .val (.int p4), .val (.int p6), .val (.int p7), .val (.long (0 : Int64)), .second, .unset, .unset, .unset, .unset, .unset, .unset, .unset] [(.int (p3 &&& (3 : Int32)))])) _
      exact hgo
    obtain ⟨n, e_n⟩ : ∃ z : Int32, z = (p3 &&& (3 : Int32)) := ⟨_, rfl⟩
    rw [← e_n] at R71
    have hn := e_n ▸ own_n p3
    have R72 : ∀ tgt, Steps p.tables e below (s₁.setTop (mkF m 24 #[.val (.int p1), .val (.long q2), .second, .val (.int p3), .val (.int p4), .val (.int p6), .val (.int p7), .val (.long (0 : Int64)), .second, .val (.int n), .unset, .unset, .unset, .unset, .unset, .unset] [(.int n)])) tgt → Steps p.tables e below A0 tgt := by
      intro tgt hgo
      refine R71 tgt ?_
      show Steps p.tables e below (s₁.setTop (mkF m 20 #[.val (.int p1), .val (.long q2), .second, .val (.int p3), .val (.int p4), .val (.int p6), .val (.int p7), .val (.long (0 : Int64)), .second, .unset, .unset, .unset, .unset, .unset, .unset, .unset] [(.int n)])) _
      refine XS.istore X0.here hx rfl (hb hby at_20) rfl (l' := #[.val (.int p1), .val (.long q2), .second, .val (.int p3), .val (.int p4), .val (.int p6), .val (.int p7), .val (.long (0 : Int64)), .second, .val (.int n), .unset, .unset, .unset, .unset, .unset, .unset]) rfl ?_
      show Steps p.tables e below (s₁.setTop (mkF m 22 #[.val (.int p1), .val (.long q2), .second, .val (.int p3), .val (.int p4), .val (.int p6), .val (.int p7), .val (.long (0 : Int64)), .second, .val (.int n), .unset, .unset, .unset, .unset, .unset, .unset] [])) _
      refine XS.iload X0.here hx rfl (hb hby at_22) rfl ?_
      show Steps p.tables e below (s₁.setTop (mkF m 24 #[.val (.int p1), .val (.long q2), .second, .val (.int p3), .val (.int p4), .val (.int p6), .val (.int p7), .val (.long (0 : Int64)), .second, .val (.int n), .unset, .unset, .unset, .unset, .unset, .unset] [(.int n)])) _
      exact hgo
    obtain ⟨T73, h73, k73, X73, e73, E73, A73, st73⟩ := newP X0 hx hZ (hw _ (List.mem_of_getElem? (i := 1) rfl)) e0 (g := (mkF m 24 #[.val (.int p1), .val (.long q2), .second, .val (.int p3), .val (.int p4), .val (.int p6), .val (.int p7), .val (.long (0 : Int64)), .second, .val (.int n), .unset, .unset, .unset, .unset, .unset, .unset] [(.int n)])) rfl (hb hby at_24) rfl (own_neg hn) (cap := 3) (own_cap hn) (by decide) (by decide) (by decide)
    obtain ⟨key, g73⟩ : ∃ z, z = h0.size := ⟨_, rfl⟩
    rw [← g73] at A73 st73
    have ge_key : n0 ≤ key := Nat.le_trans hZn (Nat.le_of_eq g73.symm)
    have sz_key : h0.size ≤ key := Nat.le_trans hK.1 (Nat.le_of_eq g73.symm)
    replace hZn := Nat.le_trans hZn E73.1
    replace hK := hK.ext E73
    replace hOld := hOld.ext E73
    have V_key := Arv.new A73 (own_neg hn)
    have R74 : ∀ tgt, Steps p.tables e below (T73.setTop (mkF m 26 #[.val (.int p1), .val (.long q2), .second, .val (.int p3), .val (.int p4), .val (.int p6), .val (.int p7), .val (.long (0 : Int64)), .second, .val (.int n), .unset, .unset, .unset, .unset, .unset, .unset] [(.ref key)])) tgt → Steps p.tables e below A0 tgt := fun tgt hgo => R72 tgt (st73 tgt hgo)
    have R76 : ∀ tgt, Steps p.tables e below (T73.setTop (mkF m 30 #[.val (.int p1), .val (.long q2), .second, .val (.int p3), .val (.int p4), .val (.int p6), .val (.int p7), .val (.long (0 : Int64)), .second, .val (.int n), .val (.ref key), .unset, .unset, .unset, .unset, .unset] [(.int n)])) tgt → Steps p.tables e below A0 tgt := by
      intro tgt hgo
      refine R74 tgt ?_
      show Steps p.tables e below (T73.setTop (mkF m 26 #[.val (.int p1), .val (.long q2), .second, .val (.int p3), .val (.int p4), .val (.int p6), .val (.int p7), .val (.long (0 : Int64)), .second, .val (.int n), .unset, .unset, .unset, .unset, .unset, .unset] [(.ref key)])) _
      refine XS.astore X73.here hx rfl (hb hby at_26) rfl rfl (l' := #[.val (.int p1), .val (.long q2), .second, .val (.int p3), .val (.int p4), .val (.int p6), .val (.int p7), .val (.long (0 : Int64)), .second, .val (.int n), .val (.ref key), .unset, .unset, .unset, .unset, .unset]) rfl ?_
      show Steps p.tables e below (T73.setTop (mkF m 28 #[.val (.int p1), .val (.long q2), .second, .val (.int p3), .val (.int p4), .val (.int p6), .val (.int p7), .val (.long (0 : Int64)), .second, .val (.int n), .val (.ref key), .unset, .unset, .unset, .unset, .unset] [])) _
      refine XS.iload X73.here hx rfl (hb hby at_28) rfl ?_
      show Steps p.tables e below (T73.setTop (mkF m 30 #[.val (.int p1), .val (.long q2), .second, .val (.int p3), .val (.int p4), .val (.int p6), .val (.int p7), .val (.long (0 : Int64)), .second, .val (.int n), .val (.ref key), .unset, .unset, .unset, .unset, .unset] [(.int n)])) _
      exact hgo
    by_cases hc30_75 : (0 : Int32) < n
    · have R77 : ∀ tgt, Steps p.tables e below (T73.setTop (mkF m 39 #[.val (.int p1), .val (.long q2), .second, .val (.int p3), .val (.int p4), .val (.int p6), .val (.int p7), .val (.long (0 : Int64)), .second, .val (.int n), .val (.ref key), .unset, .unset, .unset, .unset, .unset] [(.int (p4.toInt8.toInt32)), (.int (0 : Int32)), (.ref key)])) tgt → Steps p.tables e below A0 tgt := by
        intro tgt hgo
        refine R76 tgt ?_
        show Steps p.tables e below (T73.setTop (mkF m 30 #[.val (.int p1), .val (.long q2), .second, .val (.int p3), .val (.int p4), .val (.int p6), .val (.int p7), .val (.long (0 : Int64)), .second, .val (.int n), .val (.ref key), .unset, .unset, .unset, .unset, .unset] [(.int n)])) _
        refine XS.ifNo X73.here hx rfl (hb hby at_30) rfl ((if0 _ _).trans (tlt hc30_75).2.2.2) ?_
        show Steps p.tables e below (T73.setTop (mkF m 33 #[.val (.int p1), .val (.long q2), .second, .val (.int p3), .val (.int p4), .val (.int p6), .val (.int p7), .val (.long (0 : Int64)), .second, .val (.int n), .val (.ref key), .unset, .unset, .unset, .unset, .unset] [])) _
        refine XS.aload X73.here hx rfl (hb hby at_33) rfl rfl ?_
        show Steps p.tables e below (T73.setTop (mkF m 35 #[.val (.int p1), .val (.long q2), .second, .val (.int p3), .val (.int p4), .val (.int p6), .val (.int p7), .val (.long (0 : Int64)), .second, .val (.int n), .val (.ref key), .unset, .unset, .unset, .unset, .unset] [(.ref key)])) _
        refine XS.iconst X73.here hx rfl (hb hby at_35) ?_
        show Steps p.tables e below (T73.setTop (mkF m 36 #[.val (.int p1), .val (.long q2), .second, .val (.int p3), .val (.int p4), .val (.int p6), .val (.int p7), .val (.long (0 : Int64)), .second, .val (.int n), .val (.ref key), .unset, .unset, .unset, .unset, .unset] [(.int (0 : Int32)), (.ref key)])) _
        refine XS.iload X73.here hx rfl (hb hby at_36) rfl ?_
        show Steps p.tables e below (T73.setTop (mkF m 38 #[.val (.int p1), .val (.long q2), .second, .val (.int p3), .val (.int p4), .val (.int p6), .val (.int p7), .val (.long (0 : Int64)), .second, .val (.int n), .val (.ref key), .unset, .unset, .unset, .unset, .unset] [(.int p4), (.int (0 : Int32)), (.ref key)])) _
        refine XS.i2b X73.here hx rfl (hb hby at_38) rfl ?_
        show Steps p.tables e below (T73.setTop (mkF m 39 #[.val (.int p1), .val (.long q2), .second, .val (.int p3), .val (.int p4), .val (.int p6), .val (.int p7), .val (.long (0 : Int64)), .second, .val (.int n), .val (.ref key), .unset, .unset, .unset, .unset, .unset] [(.int (p4.toInt8.toInt32)), (.int (0 : Int32)), (.ref key)])) _
        exact hgo
      replace V_key : Arv Z h73 key k73 .byte n [(.int (0 : Int32))] (.int (0 : Int32)) := V_key.pad (pad_rep [] (.int (0 : Int32)) 1)
      obtain ⟨cl78, Ar78, q78, S78, Nn78, H78, G78⟩ := V_key
      have hin78 : ¬ ((0 : Int32) < 0 ∨ cl78.slots.size ≤ ((0 : Int32)).toNatClampNeg) := inb_of S78 ⟨by decide, hc30_75⟩
      obtain ⟨T78, h78, X78, e78, W78, st78⟩ := stB X73 hx hZ e73 Ar78 (j := (0 : Int32)) hin78 (g := (mkF m 39 #[.val (.int p1), .val (.long q2), .second, .val (.int p3), .val (.int p4), .val (.int p6), .val (.int p7), .val (.long (0 : Int64)), .second, .val (.int n), .val (.ref key), .unset, .unset, .unset, .unset, .unset] [(.int (p4.toInt8.toInt32)), (.int (0 : Int32)), (.ref key)])) rfl rfl (hb hby at_39)
      replace hZn := Nat.le_trans hZn (Keep.of_wr W78).1
      replace hK := hK.wr W78 (Or.inr sz_key)
      replace hOld := hOld.wr W78 ge_key
      have V_key : Arv Z h78 key k73 .byte n [(.int (nar .byte (p4.toInt8.toInt32)))] (.int (0 : Int32)) := Arv.set Ar78 q78 S78 Nn78 H78 G78 (fits_nar_byte _) W78 0 rfl (Nat.le_of_ble_eq_true rfl)
      have N78 := Fr.snoc X78 N0 ge_key
      have R79 : ∀ tgt, Steps p.tables e below (T78.setTop (mkF m 40 #[.val (.int p1), .val (.long q2), .second, .val (.int p3), .val (.int p4), .val (.int p6), .val (.int p7), .val (.long (0 : Int64)), .second, .val (.int n), .val (.ref key), .unset, .unset, .unset, .unset, .unset] [])) tgt → Steps p.tables e below A0 tgt := fun tgt hgo => R77 tgt (st78 tgt hgo)
      have R80 : ∀ tgt, Steps p.tables e below (T78.setTop (mkF m 41 #[.val (.int p1), .val (.long q2), .second, .val (.int p3), .val (.int p4), .val (.int p6), .val (.int p7), .val (.long (0 : Int64)), .second, .val (.int n), .val (.ref key), .unset, .unset, .unset, .unset, .unset] [(.int (1 : Int32))])) tgt → Steps p.tables e below A0 tgt := by
        intro tgt hgo
        refine R79 tgt ?_
        show Steps p.tables e below (T78.setTop (mkF m 40 #[.val (.int p1), .val (.long q2), .second, .val (.int p3), .val (.int p4), .val (.int p6), .val (.int p7), .val (.long (0 : Int64)), .second, .val (.int n), .val (.ref key), .unset, .unset, .unset, .unset, .unset] [])) _
        refine XS.iconst X78.here hx rfl (hb hby at_40) ?_
        show Steps p.tables e below (T78.setTop (mkF m 41 #[.val (.int p1), .val (.long q2), .second, .val (.int p3), .val (.int p4), .val (.int p6), .val (.int p7), .val (.long (0 : Int64)), .second, .val (.int n), .val (.ref key), .unset, .unset, .unset, .unset, .unset] [(.int (1 : Int32))])) _
        exact hgo
      obtain ⟨T81, h81, k81, X81, e81, E81, A81, st81⟩ := newP X78 hx hZ (hw _ (List.mem_of_getElem? (i := 2) rfl)) e78 (g := (mkF m 41 #[.val (.int p1), .val (.long q2), .second, .val (.int p3), .val (.int p4), .val (.int p6), .val (.int p7), .val (.long (0 : Int64)), .second, .val (.int n), .val (.ref key), .unset, .unset, .unset, .unset, .unset] [(.int (1 : Int32))])) rfl (hb hby at_41) rfl (by decide) (cap := 1) (by decide) (by decide) (by decide) (by decide)
      obtain ⟨chs, g81⟩ : ∃ z, z = h78.size := ⟨_, rfl⟩
      rw [← g81] at A81 st81
      have ne_key_chs : key ≠ chs := Nat.ne_of_lt (Nat.lt_of_lt_of_le V_key.lt (Nat.le_of_eq g81.symm))
      have ge_chs : n0 ≤ chs := Nat.le_trans hZn (Nat.le_of_eq g81.symm)
      have sz_chs : h0.size ≤ chs := Nat.le_trans hK.1 (Nat.le_of_eq g81.symm)
      replace hZn := Nat.le_trans hZn E81.1
      replace hK := hK.ext E81
      replace hOld := hOld.ext E81
      replace V_key := V_key.ext E81
      have V_chs : Arv Z h81 chs k81 .char (1 : Int32) [(.int (0 : Int32))] (.int (0 : Int32)) := (Arv.new A81 (by decide)).pad (pad_rep [] (.int (0 : Int32)) 1)
      have R82 : ∀ tgt, Steps p.tables e below (T81.setTop (mkF m 43 #[.val (.int p1), .val (.long q2), .second, .val (.int p3), .val (.int p4), .val (.int p6), .val (.int p7), .val (.long (0 : Int64)), .second, .val (.int n), .val (.ref key), .unset, .unset, .unset, .unset, .unset] [(.ref chs)])) tgt → Steps p.tables e below A0 tgt := fun tgt hgo => R80 tgt (st81 tgt hgo)
      have R83 : ∀ tgt, Steps p.tables e below (T81.setTop (mkF m 55 #[.val (.int p1), .val (.long q2), .second, .val (.int p3), .val (.int p4), .val (.int p6), .val (.int p7), .val (.long (0 : Int64)), .second, .val (.int n), .val (.ref key), .val (.ref chs), .unset, .unset, .unset, .unset] [(.int ((p6 &&& (255 : Int32)).toUInt32.toUInt16.toUInt32.toInt32)), (.int (0 : Int32)), (.ref chs)])) tgt → Steps p.tables e below A0 tgt := by
        intro tgt hgo
        refine R82 tgt ?_
        show Steps p.tables e below (T81.setTop (mkF m 43 #[.val (.int p1), .val (.long q2), .second, .val (.int p3), .val (.int p4), .val (.int p6), .val (.int p7), .val (.long (0 : Int64)), .second, .val (.int n), .val (.ref key), .unset, .unset, .unset, .unset, .unset] [(.ref chs)])) _
        refine XS.astore X81.here hx rfl (hb hby at_43) rfl rfl (l' := #[.val (.int p1), .val (.long q2), .second, .val (.int p3), .val (.int p4), .val (.int p6), .val (.int p7), .val (.long (0 : Int64)), .second, .val (.int n), .val (.ref key), .val (.ref chs), .unset, .unset, .unset, .unset]) rfl ?_
        show Steps p.tables e below (T81.setTop (mkF m 45 #[.val (.int p1), .val (.long q2), .second, .val (.int p3), .val (.int p4), .val (.int p6), .val (.int p7), .val (.long (0 : Int64)), .second, .val (.int n), .val (.ref key), .val (.ref chs), .unset, .unset, .unset, .unset] [])) _
        refine XS.aload X81.here hx rfl (hb hby at_45) rfl rfl ?_
        show Steps p.tables e below (T81.setTop (mkF m 47 #[.val (.int p1), .val (.long q2), .second, .val (.int p3), .val (.int p4), .val (.int p6), .val (.int p7), .val (.long (0 : Int64)), .second, .val (.int n), .val (.ref key), .val (.ref chs), .unset, .unset, .unset, .unset] [(.ref chs)])) _
        refine XS.iconst X81.here hx rfl (hb hby at_47) ?_
        show Steps p.tables e below (T81.setTop (mkF m 48 #[.val (.int p1), .val (.long q2), .second, .val (.int p3), .val (.int p4), .val (.int p6), .val (.int p7), .val (.long (0 : Int64)), .second, .val (.int n), .val (.ref key), .val (.ref chs), .unset, .unset, .unset, .unset] [(.int (0 : Int32)), (.ref chs)])) _
        refine XS.iload X81.here hx rfl (hb hby at_48) rfl ?_
        show Steps p.tables e below (T81.setTop (mkF m 50 #[.val (.int p1), .val (.long q2), .second, .val (.int p3), .val (.int p4), .val (.int p6), .val (.int p7), .val (.long (0 : Int64)), .second, .val (.int n), .val (.ref key), .val (.ref chs), .unset, .unset, .unset, .unset] [(.int p6), (.int (0 : Int32)), (.ref chs)])) _
        refine XS.sipush X81.here hx rfl (hb hby at_50) ?_
        show Steps p.tables e below (T81.setTop (mkF m 53 #[.val (.int p1), .val (.long q2), .second, .val (.int p3), .val (.int p4), .val (.int p6), .val (.int p7), .val (.long (0 : Int64)), .second, .val (.int n), .val (.ref key), .val (.ref chs), .unset, .unset, .unset, .unset] [(.int (255 : Int32)), (.int p6), (.int (0 : Int32)), (.ref chs)])) _
        refine XS.iand X81.here hx rfl (hb hby at_53) rfl ?_
        show Steps p.tables e below (T81.setTop (mkF m 54 #[.val (.int p1), .val (.long q2), .second, .val (.int p3), .val (.int p4), .val (.int p6), .val (.int p7), .val (.long (0 : Int64)), .second, .val (.int n), .val (.ref key), .val (.ref chs), .unset, .unset, .unset, .unset] [(.int (p6 &&& (255 : Int32))), (.int (0 : Int32)), (.ref chs)])) _
        refine XS.i2c X81.here hx rfl (hb hby at_54) rfl ?_
        show Steps p.tables e below (T81.setTop (mkF m 55 #[.val (.int p1), .val (.long q2), .second, .val (.int p3), .val (.int p4), .val (.int p6), .val (.int p7), .val (.long (0 : Int64)), .second, .val (.int n), .val (.ref key), .val (.ref chs), .unset, .unset, .unset, .unset] [(.int ((p6 &&& (255 : Int32)).toUInt32.toUInt16.toUInt32.toInt32)), (.int (0 : Int32)), (.ref chs)])) _
        exact hgo
      obtain ⟨cl84, Ar84, q84, S84, Nn84, H84, G84⟩ := V_chs
      have hin84 : ¬ ((0 : Int32) < 0 ∨ cl84.slots.size ≤ ((0 : Int32)).toNatClampNeg) := inb_of S84 ⟨by decide, by decide⟩
      obtain ⟨T84, h84, X84, e84, W84, st84⟩ := stC X81 hx hZ e81 Ar84 (j := (0 : Int32)) hin84 (g := (mkF m 55 #[.val (.int p1), .val (.long q2), .second, .val (.int p3), .val (.int p4), .val (.int p6), .val (.int p7), .val (.long (0 : Int64)), .second, .val (.int n), .val (.ref key), .val (.ref chs), .unset, .unset, .unset, .unset] [(.int ((p6 &&& (255 : Int32)).toUInt32.toUInt16.toUInt32.toInt32)), (.int (0 : Int32)), (.ref chs)])) rfl rfl (hb hby at_55)
      replace hZn := Nat.le_trans hZn (Keep.of_wr W84).1
      replace hK := hK.wr W84 (Or.inr sz_chs)
      replace hOld := hOld.wr W84 ge_chs
      replace V_key := V_key.other W84 ne_key_chs
      have V_chs : Arv Z h84 chs k81 .char (1 : Int32) [(.int (nar .char ((p6 &&& (255 : Int32)).toUInt32.toUInt16.toUInt32.toInt32)))] (.int (0 : Int32)) := Arv.set Ar84 q84 S84 Nn84 H84 G84 (fits_nar_char _) W84 0 rfl (Nat.le_of_ble_eq_true rfl)
      have N84 := Fr.snoc X84 N78 ge_chs
      have R85 : ∀ tgt, Steps p.tables e below (T84.setTop (mkF m 56 #[.val (.int p1), .val (.long q2), .second, .val (.int p3), .val (.int p4), .val (.int p6), .val (.int p7), .val (.long (0 : Int64)), .second, .val (.int n), .val (.ref key), .val (.ref chs), .unset, .unset, .unset, .unset] [])) tgt → Steps p.tables e below A0 tgt := fun tgt hgo => R83 tgt (st84 tgt hgo)
      obtain ⟨T86, h86, X86, e86, E86, A86, D86, -, st86⟩ := newO X84 hx hZ hown (hw _ (List.mem_of_getElem? (i := 3) rfl)) (hw _ (List.mem_of_getElem? (i := 4) rfl)) (hw _ (List.mem_of_getElem? (i := 5) rfl)) e84 (g := (mkF m 56 #[.val (.int p1), .val (.long q2), .second, .val (.int p3), .val (.int p4), .val (.int p6), .val (.int p7), .val (.long (0 : Int64)), .second, .val (.int n), .val (.ref key), .val (.ref chs), .unset, .unset, .unset, .unset] [])) rfl (hb hby at_56) (by decide) (by decide)
      obtain ⟨str, g86⟩ : ∃ z, z = h84.size := ⟨_, rfl⟩
      rw [← g86] at A86 D86 st86
      have ne_key_str : key ≠ str := Nat.ne_of_lt (Nat.lt_of_lt_of_le V_key.lt (Nat.le_of_eq g86.symm))
      have ne_chs_str : chs ≠ str := Nat.ne_of_lt (Nat.lt_of_lt_of_le V_chs.lt (Nat.le_of_eq g86.symm))
      have ge_str : n0 ≤ str := Nat.le_trans hZn (Nat.le_of_eq g86.symm)
      have sz_str : h0.size ≤ str := Nat.le_trans hK.1 (Nat.le_of_eq g86.symm)
      replace hZn := Nat.le_trans hZn E86.1
      replace hK := hK.ext E86
      replace hOld := hOld.ext E86
      replace V_key := V_key.ext E86
      replace V_chs := V_chs.ext E86
      have E_str := A86
      have F_coder_str : Fld Z h86 str "java/lang/String" "coder" "B" (.int (0 : Int32)) := D86 (Or.inr (hw _ (List.mem_of_getElem? (i := 28) rfl))) (ty := .byte) (by decide)
      have F_value_str : Fld Z h86 str "java/lang/String" "value" "[B" .null := D86 (Or.inr (hw _ (List.mem_of_getElem? (i := 30) rfl))) (ty := (.array .byte)) (by decide)
      have R87 : ∀ tgt, Steps p.tables e below (T86.setTop (mkF m 59 #[.val (.int p1), .val (.long q2), .second, .val (.int p3), .val (.int p4), .val (.int p6), .val (.int p7), .val (.long (0 : Int64)), .second, .val (.int n), .val (.ref key), .val (.ref chs), .unset, .unset, .unset, .unset] [(.ref str)])) tgt → Steps p.tables e below A0 tgt := fun tgt hgo => R85 tgt (st86 tgt hgo)
      have R88 : ∀ tgt, Steps p.tables e below (T86.setTop (mkF m 62 #[.val (.int p1), .val (.long q2), .second, .val (.int p3), .val (.int p4), .val (.int p6), .val (.int p7), .val (.long (0 : Int64)), .second, .val (.int n), .val (.ref key), .val (.ref chs), .unset, .unset, .unset, .unset] [(.ref chs), (.ref str), (.ref str)])) tgt → Steps p.tables e below A0 tgt := by
        intro tgt hgo
        refine R87 tgt ?_
        show Steps p.tables e below (T86.setTop (mkF m 59 #[.val (.int p1), .val (.long q2), .second, .val (.int p3), .val (.int p4), .val (.int p6), .val (.int p7), .val (.long (0 : Int64)), .second, .val (.int n), .val (.ref key), .val (.ref chs), .unset, .unset, .unset, .unset] [(.ref str)])) _
        refine XS.dup X86.here hx rfl (hb hby at_59) rfl rfl ?_
        show Steps p.tables e below (T86.setTop (mkF m 60 #[.val (.int p1), .val (.long q2), .second, .val (.int p3), .val (.int p4), .val (.int p6), .val (.int p7), .val (.long (0 : Int64)), .second, .val (.int n), .val (.ref key), .val (.ref chs), .unset, .unset, .unset, .unset] [(.ref str), (.ref str)])) _
        refine XS.aload X86.here hx rfl (hb hby at_60) rfl rfl ?_
        show Steps p.tables e below (T86.setTop (mkF m 62 #[.val (.int p1), .val (.long q2), .second, .val (.int p3), .val (.int p4), .val (.int p6), .val (.int p7), .val (.long (0 : Int64)), .second, .val (.int n), .val (.ref key), .val (.ref chs), .unset, .unset, .unset, .unset] [(.ref chs), (.ref str), (.ref str)])) _
        exact hgo
      have hlat : ∀ c ∈ [(nar .char ((p6 &&& (255 : Int32)).toUInt32.toUInt16.toUInt32.toInt32))], ¬ c < 0 ∧ ¬ (255 : Int32) < c := by
        intro c hc
        simp only [List.mem_cons, List.not_mem_nil, or_false] at hc
        subst hc
        rw [show (nar .char ((p6 &&& (255 : Int32)).toUInt32.toUInt16.toUInt32.toInt32)) = p6 &&& 255 from by simp only [nar, i2c_mask]]; exact own_255 p6
      obtain ⟨_, _, ⟨T89, L89, k89, n89⟩, -, X89, ⟨Lc89, hQ89, l89, y89, z89⟩, st89⟩ := X86.specialBack hx (y := (⟨"java/lang/String", "<init>", "([C)V"⟩ : MethodName)) rfl hown (mvT hZ (hw _ (List.mem_of_getElem? (i := 6) rfl))) (mvT hZ (hw _ (List.mem_of_getElem? (i := 7) rfl))) (mvT hZ (hw _ (List.mem_of_getElem? (i := 8) rfl))) (by decide) (StrChars.Road.backV (W := 1) hZ hws (kI := 4) (hw _ (List.mem_of_getElem? (i := 4) rfl)) (cs := [(nar .char ((p6 &&& (255 : Int32)).toUInt32.toUInt16.toUInt32.toInt32))]) (bs := [((nar .char ((p6 &&& (255 : Int32)).toUInt32.toUInt16.toUInt32.toInt32))).toInt8.toInt32]) (n := 1) ge_str hZn E_str F_value_str F_coder_str V_chs (S_cs.ext hOld.2) hz rfl rfl (by decide) (by decide) hlat rfl (by decide) (by decide)) (g := (mkF m 62 #[.val (.int p1), .val (.long q2), .second, .val (.int p3), .val (.int p4), .val (.int p6), .val (.int p7), .val (.long (0 : Int64)), .second, .val (.int n), .val (.ref key), .val (.ref chs), .unset, .unset, .unset, .unset] [(.ref chs), (.ref str), (.ref str)])) rfl (by rw [hml]; rfl) (Steps.refl _) (a := str) (argsL := [(.ref chs)]) (rest := [(.ref str)]) (lenOf pd_3 rfl) rfl (by show 2 * 0 + _ ≤ _; exact Nat.le_of_eq rfl) (hb hby at_62) (fun _ _ => ⟨rfl, e86, (by decide : 3 + 1 ≤ _), (by decide : 8 + 1 ≤ _)⟩)
      dsimp only [Pt.U, Pt.locs, Pt.cells, Pt.slots] at X89 l89 y89 z89 st89 hQ89
      subst l89 y89 z89
      obtain ⟨rfl, N89q, K89, g89a, g89b, tb, kb, g89c, g89d, g89e, g89f, g89g⟩ := hQ89
      have N89 := Fr.app N84 N89q
      have R90 : ∀ tgt, Steps p.tables e below (T89.setTop (mkF m 65 #[.val (.int p1), .val (.long q2), .second, .val (.int p3), .val (.int p4), .val (.int p6), .val (.int p7), .val (.long (0 : Int64)), .second, .val (.int n), .val (.ref key), .val (.ref chs), .unset, .unset, .unset, .unset] [(.ref str)])) tgt → Steps p.tables e below A0 tgt := fun tgt hgo => R88 tgt (st89.trans hgo)
      replace hZn := Nat.le_trans hZn K89.1
      replace hK := hK.trans K89 (allS (Or.inr sz_str) all0)
      replace hOld := hOld.keep K89 (allS ge_str all0)
      replace V_key := V_key.keep K89 (ninS ne_key_str nin0)
      replace V_chs := V_chs.keep K89 (ninS ne_chs_str nin0)
      replace E_str := E_str.keep K89
      have R91 : ∀ tgt, Steps p.tables e below (T89.setTop (mkF m 68 #[.val (.int p1), .val (.long q2), .second, .val (.int p3), .val (.int p4), .val (.int p6), .val (.int p7), .val (.long (0 : Int64)), .second, .val (.int n), .val (.ref key), .val (.ref chs), .val (.ref str), .unset, .unset, .unset] [(.int (1 : Int32))])) tgt → Steps p.tables e below A0 tgt := by
        intro tgt hgo
        refine R90 tgt ?_
        show Steps p.tables e below (T89.setTop (mkF m 65 #[.val (.int p1), .val (.long q2), .second, .val (.int p3), .val (.int p4), .val (.int p6), .val (.int p7), .val (.long (0 : Int64)), .second, .val (.int n), .val (.ref key), .val (.ref chs), .unset, .unset, .unset, .unset] [(.ref str)])) _
        refine XS.astore X89.here hx rfl (hb hby at_65) rfl rfl (l' := #[.val (.int p1), .val (.long q2), .second, .val (.int p3), .val (.int p4), .val (.int p6), .val (.int p7), .val (.long (0 : Int64)), .second, .val (.int n), .val (.ref key), .val (.ref chs), .val (.ref str), .unset, .unset, .unset]) rfl ?_
        show Steps p.tables e below (T89.setTop (mkF m 67 #[.val (.int p1), .val (.long q2), .second, .val (.int p3), .val (.int p4), .val (.int p6), .val (.int p7), .val (.long (0 : Int64)), .second, .val (.int n), .val (.ref key), .val (.ref chs), .val (.ref str), .unset, .unset, .unset] [])) _
        refine XS.iconst X89.here hx rfl (hb hby at_67) ?_
        show Steps p.tables e below (T89.setTop (mkF m 68 #[.val (.int p1), .val (.long q2), .second, .val (.int p3), .val (.int p4), .val (.int p6), .val (.int p7), .val (.long (0 : Int64)), .second, .val (.int n), .val (.ref key), .val (.ref chs), .val (.ref str), .unset, .unset, .unset] [(.int (1 : Int32))])) _
        exact hgo
      obtain ⟨T92, h92, k92, X92, e92, E92, A92, st92⟩ := newP X89 hx hZ (hw _ (List.mem_of_getElem? (i := 1) rfl)) rfl (g := (mkF m 68 #[.val (.int p1), .val (.long q2), .second, .val (.int p3), .val (.int p4), .val (.int p6), .val (.int p7), .val (.long (0 : Int64)), .second, .val (.int n), .val (.ref key), .val (.ref chs), .val (.ref str), .unset, .unset, .unset] [(.int (1 : Int32))])) rfl (hb hby at_68) rfl (by decide) (cap := 1) (by decide) (by decide) (by decide) (by decide)
      obtain ⟨bod, g92⟩ : ∃ z, z = T89.heap.size := ⟨_, rfl⟩
      rw [← g92] at A92 st92
      have ne_key_bod : key ≠ bod := Nat.ne_of_lt (Nat.lt_of_lt_of_le V_key.lt (Nat.le_of_eq g92.symm))
      have ne_chs_bod : chs ≠ bod := Nat.ne_of_lt (Nat.lt_of_lt_of_le V_chs.lt (Nat.le_of_eq g92.symm))
      have ne_str_bod : str ≠ bod := Nat.ne_of_lt (Nat.lt_of_lt_of_le E_str.lt (Nat.le_of_eq g92.symm))
      have ge_bod : n0 ≤ bod := Nat.le_trans hZn (Nat.le_of_eq g92.symm)
      have sz_bod : h0.size ≤ bod := Nat.le_trans hK.1 (Nat.le_of_eq g92.symm)
      replace hZn := Nat.le_trans hZn E92.1
      replace hK := hK.ext E92
      replace hOld := hOld.ext E92
      replace V_key := V_key.ext E92
      replace V_chs := V_chs.ext E92
      replace E_str := E_str.ext E92
      have V_bod : Arv Z h92 bod k92 .byte (1 : Int32) [(.int (0 : Int32))] (.int (0 : Int32)) := (Arv.new A92 (by decide)).pad (pad_rep [] (.int (0 : Int32)) 1)
      have R93 : ∀ tgt, Steps p.tables e below (T92.setTop (mkF m 70 #[.val (.int p1), .val (.long q2), .second, .val (.int p3), .val (.int p4), .val (.int p6), .val (.int p7), .val (.long (0 : Int64)), .second, .val (.int n), .val (.ref key), .val (.ref chs), .val (.ref str), .unset, .unset, .unset] [(.ref bod)])) tgt → Steps p.tables e below A0 tgt := fun tgt hgo => R91 tgt (st92 tgt hgo)
      have R94 : ∀ tgt, Steps p.tables e below (T92.setTop (mkF m 78 #[.val (.int p1), .val (.long q2), .second, .val (.int p3), .val (.int p4), .val (.int p6), .val (.int p7), .val (.long (0 : Int64)), .second, .val (.int n), .val (.ref key), .val (.ref chs), .val (.ref str), .val (.ref bod), .unset, .unset] [(.int (p4.toInt8.toInt32)), (.int (0 : Int32)), (.ref bod)])) tgt → Steps p.tables e below A0 tgt := by
        intro tgt hgo
        refine R93 tgt ?_
        show Steps p.tables e below (T92.setTop (mkF m 70 #[.val (.int p1), .val (.long q2), .second, .val (.int p3), .val (.int p4), .val (.int p6), .val (.int p7), .val (.long (0 : Int64)), .second, .val (.int n), .val (.ref key), .val (.ref chs), .val (.ref str), .unset, .unset, .unset] [(.ref bod)])) _
        refine XS.astore X92.here hx rfl (hb hby at_70) rfl rfl (l' := #[.val (.int p1), .val (.long q2), .second, .val (.int p3), .val (.int p4), .val (.int p6), .val (.int p7), .val (.long (0 : Int64)), .second, .val (.int n), .val (.ref key), .val (.ref chs), .val (.ref str), .val (.ref bod), .unset, .unset]) rfl ?_
        show Steps p.tables e below (T92.setTop (mkF m 72 #[.val (.int p1), .val (.long q2), .second, .val (.int p3), .val (.int p4), .val (.int p6), .val (.int p7), .val (.long (0 : Int64)), .second, .val (.int n), .val (.ref key), .val (.ref chs), .val (.ref str), .val (.ref bod), .unset, .unset] [])) _
        refine XS.aload X92.here hx rfl (hb hby at_72) rfl rfl ?_
        show Steps p.tables e below (T92.setTop (mkF m 74 #[.val (.int p1), .val (.long q2), .second, .val (.int p3), .val (.int p4), .val (.int p6), .val (.int p7), .val (.long (0 : Int64)), .second, .val (.int n), .val (.ref key), .val (.ref chs), .val (.ref str), .val (.ref bod), .unset, .unset] [(.ref bod)])) _
        refine XS.iconst X92.here hx rfl (hb hby at_74) ?_
        show Steps p.tables e below (T92.setTop (mkF m 75 #[.val (.int p1), .val (.long q2), .second, .val (.int p3), .val (.int p4), .val (.int p6), .val (.int p7), .val (.long (0 : Int64)), .second, .val (.int n), .val (.ref key), .val (.ref chs), .val (.ref str), .val (.ref bod), .unset, .unset] [(.int (0 : Int32)), (.ref bod)])) _
        refine XS.iload X92.here hx rfl (hb hby at_75) rfl ?_
        show Steps p.tables e below (T92.setTop (mkF m 77 #[.val (.int p1), .val (.long q2), .second, .val (.int p3), .val (.int p4), .val (.int p6), .val (.int p7), .val (.long (0 : Int64)), .second, .val (.int n), .val (.ref key), .val (.ref chs), .val (.ref str), .val (.ref bod), .unset, .unset] [(.int p4), (.int (0 : Int32)), (.ref bod)])) _
        refine XS.i2b X92.here hx rfl (hb hby at_77) rfl ?_
        show Steps p.tables e below (T92.setTop (mkF m 78 #[.val (.int p1), .val (.long q2), .second, .val (.int p3), .val (.int p4), .val (.int p6), .val (.int p7), .val (.long (0 : Int64)), .second, .val (.int n), .val (.ref key), .val (.ref chs), .val (.ref str), .val (.ref bod), .unset, .unset] [(.int (p4.toInt8.toInt32)), (.int (0 : Int32)), (.ref bod)])) _
        exact hgo
      obtain ⟨cl95, Ar95, q95, S95, Nn95, H95, G95⟩ := V_bod
      have hin95 : ¬ ((0 : Int32) < 0 ∨ cl95.slots.size ≤ ((0 : Int32)).toNatClampNeg) := inb_of S95 ⟨by decide, by decide⟩
      obtain ⟨T95, h95, X95, e95, W95, st95⟩ := stB X92 hx hZ e92 Ar95 (j := (0 : Int32)) hin95 (g := (mkF m 78 #[.val (.int p1), .val (.long q2), .second, .val (.int p3), .val (.int p4), .val (.int p6), .val (.int p7), .val (.long (0 : Int64)), .second, .val (.int n), .val (.ref key), .val (.ref chs), .val (.ref str), .val (.ref bod), .unset, .unset] [(.int (p4.toInt8.toInt32)), (.int (0 : Int32)), (.ref bod)])) rfl rfl (hb hby at_78)
      replace hZn := Nat.le_trans hZn (Keep.of_wr W95).1
      replace hK := hK.wr W95 (Or.inr sz_bod)
      replace hOld := hOld.wr W95 ge_bod
      replace V_key := V_key.other W95 ne_key_bod
      replace V_chs := V_chs.other W95 ne_chs_bod
      replace E_str := E_str.wr W95
      have V_bod : Arv Z h95 bod k92 .byte (1 : Int32) [(.int (nar .byte (p4.toInt8.toInt32)))] (.int (0 : Int32)) := Arv.set Ar95 q95 S95 Nn95 H95 G95 (fits_nar_byte _) W95 0 rfl (Nat.le_of_ble_eq_true rfl)
      have N95 := Fr.snoc X95 N89 ge_bod
      have R96 : ∀ tgt, Steps p.tables e below (T95.setTop (mkF m 79 #[.val (.int p1), .val (.long q2), .second, .val (.int p3), .val (.int p4), .val (.int p6), .val (.int p7), .val (.long (0 : Int64)), .second, .val (.int n), .val (.ref key), .val (.ref chs), .val (.ref str), .val (.ref bod), .unset, .unset] [])) tgt → Steps p.tables e below A0 tgt := fun tgt hgo => R94 tgt (st95 tgt hgo)
      obtain ⟨T97, h97, X97, e97, E97, A97, D97, -, st97⟩ := newO X95 hx hZ hown (hw _ (List.mem_of_getElem? (i := 31) rfl)) (hw _ (List.mem_of_getElem? (i := 32) rfl)) (hw _ (List.mem_of_getElem? (i := 33) rfl)) e95 (g := (mkF m 79 #[.val (.int p1), .val (.long q2), .second, .val (.int p3), .val (.int p4), .val (.int p6), .val (.int p7), .val (.long (0 : Int64)), .second, .val (.int n), .val (.ref key), .val (.ref chs), .val (.ref str), .val (.ref bod), .unset, .unset] [])) rfl (hb hby at_79) (by decide) (by decide)
      obtain ⟨pub, g97⟩ : ∃ z, z = h95.size := ⟨_, rfl⟩
      rw [← g97] at A97 D97 st97
      have ne_key_pub : key ≠ pub := Nat.ne_of_lt (Nat.lt_of_lt_of_le V_key.lt (Nat.le_of_eq g97.symm))
      have ne_chs_pub : chs ≠ pub := Nat.ne_of_lt (Nat.lt_of_lt_of_le V_chs.lt (Nat.le_of_eq g97.symm))
      have ne_str_pub : str ≠ pub := Nat.ne_of_lt (Nat.lt_of_lt_of_le E_str.lt (Nat.le_of_eq g97.symm))
      have ne_bod_pub : bod ≠ pub := Nat.ne_of_lt (Nat.lt_of_lt_of_le V_bod.lt (Nat.le_of_eq g97.symm))
      have ge_pub : n0 ≤ pub := Nat.le_trans hZn (Nat.le_of_eq g97.symm)
      have sz_pub : h0.size ≤ pub := Nat.le_trans hK.1 (Nat.le_of_eq g97.symm)
      replace hZn := Nat.le_trans hZn E97.1
      replace hK := hK.ext E97
      replace hOld := hOld.ext E97
      replace V_key := V_key.ext E97
      replace V_chs := V_chs.ext E97
      replace E_str := E_str.ext E97
      replace V_bod := V_bod.ext E97
      have E_pub := A97
      have F_request_pub : Fld Z h97 pub "com/example/loglane/loglane/wire/Frame$Publish" "request" "I" (.int (0 : Int32)) := D97 (Or.inr (hw _ (List.mem_of_getElem? (i := 53) rfl))) (ty := .int) (by decide)
      have F_topic_pub : Fld Z h97 pub "com/example/loglane/loglane/wire/Frame$Publish" "topic" "Ljava/lang/String;" .null := D97 (Or.inr (hw _ (List.mem_of_getElem? (i := 55) rfl))) (ty := (.object "java/lang/String")) (by decide)
      have F_delayMillis_pub : Fld Z h97 pub "com/example/loglane/loglane/wire/Frame$Publish" "delayMillis" "J" (.long (0 : Int64)) := D97 (Or.inr (hw _ (List.mem_of_getElem? (i := 57) rfl))) (ty := .long) (by decide)
      have F_key_pub : Fld Z h97 pub "com/example/loglane/loglane/wire/Frame$Publish" "key" "[B" .null := D97 (Or.inr (hw _ (List.mem_of_getElem? (i := 59) rfl))) (ty := (.array .byte)) (by decide)
      have F_body_pub : Fld Z h97 pub "com/example/loglane/loglane/wire/Frame$Publish" "body" "[B" .null := D97 (Or.inr (hw _ (List.mem_of_getElem? (i := 61) rfl))) (ty := (.array .byte)) (by decide)
      have R98 : ∀ tgt, Steps p.tables e below (T97.setTop (mkF m 82 #[.val (.int p1), .val (.long q2), .second, .val (.int p3), .val (.int p4), .val (.int p6), .val (.int p7), .val (.long (0 : Int64)), .second, .val (.int n), .val (.ref key), .val (.ref chs), .val (.ref str), .val (.ref bod), .unset, .unset] [(.ref pub)])) tgt → Steps p.tables e below A0 tgt := fun tgt hgo => R96 tgt (st97 tgt hgo)
      have R99 : ∀ tgt, Steps p.tables e below (T97.setTop (mkF m 92 #[.val (.int p1), .val (.long q2), .second, .val (.int p3), .val (.int p4), .val (.int p6), .val (.int p7), .val (.long (0 : Int64)), .second, .val (.int n), .val (.ref key), .val (.ref chs), .val (.ref str), .val (.ref bod), .unset, .unset] [(.ref bod), (.ref key), (.long (0 : Int64)), (.ref str), (.int p1), (.ref pub), (.ref pub)])) tgt → Steps p.tables e below A0 tgt := by
        intro tgt hgo
        refine R98 tgt ?_
        show Steps p.tables e below (T97.setTop (mkF m 82 #[.val (.int p1), .val (.long q2), .second, .val (.int p3), .val (.int p4), .val (.int p6), .val (.int p7), .val (.long (0 : Int64)), .second, .val (.int n), .val (.ref key), .val (.ref chs), .val (.ref str), .val (.ref bod), .unset, .unset] [(.ref pub)])) _
        refine XS.dup X97.here hx rfl (hb hby at_82) rfl rfl ?_
        show Steps p.tables e below (T97.setTop (mkF m 83 #[.val (.int p1), .val (.long q2), .second, .val (.int p3), .val (.int p4), .val (.int p6), .val (.int p7), .val (.long (0 : Int64)), .second, .val (.int n), .val (.ref key), .val (.ref chs), .val (.ref str), .val (.ref bod), .unset, .unset] [(.ref pub), (.ref pub)])) _
        refine XS.iloadN X97.here hx rfl (hb hby at_83) rfl ?_
        show Steps p.tables e below (T97.setTop (mkF m 84 #[.val (.int p1), .val (.long q2), .second, .val (.int p3), .val (.int p4), .val (.int p6), .val (.int p7), .val (.long (0 : Int64)), .second, .val (.int n), .val (.ref key), .val (.ref chs), .val (.ref str), .val (.ref bod), .unset, .unset] [(.int p1), (.ref pub), (.ref pub)])) _
        refine XS.aload X97.here hx rfl (hb hby at_84) rfl rfl ?_
        show Steps p.tables e below (T97.setTop (mkF m 86 #[.val (.int p1), .val (.long q2), .second, .val (.int p3), .val (.int p4), .val (.int p6), .val (.int p7), .val (.long (0 : Int64)), .second, .val (.int n), .val (.ref key), .val (.ref chs), .val (.ref str), .val (.ref bod), .unset, .unset] [(.ref str), (.int p1), (.ref pub), (.ref pub)])) _
        refine XS.lload X97.here hx rfl (hb hby at_86) rfl ?_
        show Steps p.tables e below (T97.setTop (mkF m 88 #[.val (.int p1), .val (.long q2), .second, .val (.int p3), .val (.int p4), .val (.int p6), .val (.int p7), .val (.long (0 : Int64)), .second, .val (.int n), .val (.ref key), .val (.ref chs), .val (.ref str), .val (.ref bod), .unset, .unset] [(.long (0 : Int64)), (.ref str), (.int p1), (.ref pub), (.ref pub)])) _
        refine XS.aload X97.here hx rfl (hb hby at_88) rfl rfl ?_
        show Steps p.tables e below (T97.setTop (mkF m 90 #[.val (.int p1), .val (.long q2), .second, .val (.int p3), .val (.int p4), .val (.int p6), .val (.int p7), .val (.long (0 : Int64)), .second, .val (.int n), .val (.ref key), .val (.ref chs), .val (.ref str), .val (.ref bod), .unset, .unset] [(.ref key), (.long (0 : Int64)), (.ref str), (.int p1), (.ref pub), (.ref pub)])) _
        refine XS.aload X97.here hx rfl (hb hby at_90) rfl rfl ?_
        show Steps p.tables e below (T97.setTop (mkF m 92 #[.val (.int p1), .val (.long q2), .second, .val (.int p3), .val (.int p4), .val (.int p6), .val (.int p7), .val (.long (0 : Int64)), .second, .val (.int n), .val (.ref key), .val (.ref chs), .val (.ref str), .val (.ref bod), .unset, .unset] [(.ref bod), (.ref key), (.long (0 : Int64)), (.ref str), (.int p1), (.ref pub), (.ref pub)])) _
        exact hgo
      obtain ⟨_, _, ⟨T100, L100, k100, n100⟩, -, X100, ⟨Lc100, hQ100, l100, y100, z100⟩, st100⟩ := X97.specialBack hx (y := (⟨"com/example/loglane/loglane/wire/Frame$Publish", "<init>", "(ILjava/lang/String;J[B[B)V"⟩ : MethodName)) rfl hown (mvT hZ (hw _ (List.mem_of_getElem? (i := 34) rfl))) (mvT hZ (hw _ (List.mem_of_getElem? (i := 35) rfl))) (mvT hZ (hw _ (List.mem_of_getElem? (i := 36) rfl))) (by decide) (backOf (W := 1) (rm_ini l Z a0 hw [] pub p1 str (0 : Int64) key bod _ _ _ h97 n0 hZn ge_pub E_pub F_request_pub F_topic_pub F_delayMillis_pub F_key_pub F_body_pub V_key (own_len hn) (by decide) (by decide)) hZ (hw _ (List.mem_of_getElem? (i := 36) rfl)) (hw _ (List.mem_of_getElem? (i := 33) rfl)) (by decide) (by decide)) (g := (mkF m 92 #[.val (.int p1), .val (.long q2), .second, .val (.int p3), .val (.int p4), .val (.int p6), .val (.int p7), .val (.long (0 : Int64)), .second, .val (.int n), .val (.ref key), .val (.ref chs), .val (.ref str), .val (.ref bod), .unset, .unset] [(.ref bod), (.ref key), (.long (0 : Int64)), (.ref str), (.int p1), (.ref pub), (.ref pub)])) rfl (by rw [hml]; rfl) (Steps.refl _) (a := pub) (argsL := [(.int p1), (.ref str), (.long (0 : Int64)), (.ref key), (.ref bod)]) (rest := [(.ref pub)]) (lenOf pd_4 rfl) rfl (by show 2 * 0 + _ ≤ _; exact Nat.le_of_eq rfl) (hb hby at_92) (fun _ _ => ⟨rfl, e97, (by decide : 6 + 0 ≤ _), (by decide : 15 + 0 ≤ _)⟩)
      dsimp only [Pt.U, Pt.locs, Pt.cells, Pt.slots] at X100 l100 y100 z100 st100 hQ100
      subst l100 y100 z100
      obtain ⟨rfl, N100q, K100, E100p, f100a, f100b⟩ := hQ100
      have N100 := Fr.app N95 N100q
      have R101 : ∀ tgt, Steps p.tables e below (T100.setTop (mkF m 95 #[.val (.int p1), .val (.long q2), .second, .val (.int p3), .val (.int p4), .val (.int p6), .val (.int p7), .val (.long (0 : Int64)), .second, .val (.int n), .val (.ref key), .val (.ref chs), .val (.ref str), .val (.ref bod), .unset, .unset] [(.ref pub)])) tgt → Steps p.tables e below A0 tgt := fun tgt hgo => R99 tgt (st100.trans hgo)
      replace hZn := Nat.le_trans hZn K100.1
      replace hK := hK.trans K100 (allS (Or.inr sz_pub) all0)
      replace hOld := hOld.keep K100 (allS ge_pub all0)
      replace V_key := V_key.keep K100 (ninS ne_key_pub nin0)
      replace V_chs := V_chs.keep K100 (ninS ne_chs_pub nin0)
      replace E_str := E_str.keep K100
      replace V_bod := V_bod.keep K100 (ninS ne_bod_pub nin0)
      replace E_pub := E_pub.keep K100
      have F_d := f100a
      have F_k := f100b
      have R102 : ∀ tgt, Steps p.tables e below (T100.setTop (mkF m 128 #[.val (.int p1), .val (.long q2), .second, .val (.int p3), .val (.int p4), .val (.int p6), .val (.int p7), .val (.long (0 : Int64)), .second, .val (.int n), .val (.ref key), .val (.ref chs), .val (.ref str), .val (.ref bod), .val (.ref pub), .val (.int (8 : Int32))] [(.ref pub)])) tgt → Steps p.tables e below A0 tgt := by
        intro tgt hgo
        refine R101 tgt ?_
        show Steps p.tables e below (T100.setTop (mkF m 95 #[.val (.int p1), .val (.long q2), .second, .val (.int p3), .val (.int p4), .val (.int p6), .val (.int p7), .val (.long (0 : Int64)), .second, .val (.int n), .val (.ref key), .val (.ref chs), .val (.ref str), .val (.ref bod), .unset, .unset] [(.ref pub)])) _
        refine XS.astore X100.here hx rfl (hb hby at_95) rfl rfl (l' := #[.val (.int p1), .val (.long q2), .second, .val (.int p3), .val (.int p4), .val (.int p6), .val (.int p7), .val (.long (0 : Int64)), .second, .val (.int n), .val (.ref key), .val (.ref chs), .val (.ref str), .val (.ref bod), .val (.ref pub), .unset]) rfl ?_
        show Steps p.tables e below (T100.setTop (mkF m 97 #[.val (.int p1), .val (.long q2), .second, .val (.int p3), .val (.int p4), .val (.int p6), .val (.int p7), .val (.long (0 : Int64)), .second, .val (.int n), .val (.ref key), .val (.ref chs), .val (.ref str), .val (.ref bod), .val (.ref pub), .unset] [])) _
        refine XS.iload X100.here hx rfl (hb hby at_97) rfl ?_
        show Steps p.tables e below (T100.setTop (mkF m 99 #[.val (.int p1), .val (.long q2), .second, .val (.int p3), .val (.int p4), .val (.int p6), .val (.int p7), .val (.long (0 : Int64)), .second, .val (.int n), .val (.ref key), .val (.ref chs), .val (.ref str), .val (.ref bod), .val (.ref pub), .unset] [(.int n)])) _
        refine XS.ifNo X100.here hx rfl (hb hby at_99) rfl ((if0 _ _).trans (tlt hc30_75).2.2.2) ?_
        show Steps p.tables e below (T100.setTop (mkF m 102 #[.val (.int p1), .val (.long q2), .second, .val (.int p3), .val (.int p4), .val (.int p6), .val (.int p7), .val (.long (0 : Int64)), .second, .val (.int n), .val (.ref key), .val (.ref chs), .val (.ref str), .val (.ref bod), .val (.ref pub), .unset] [])) _
        refine XS.bipush X100.here hx rfl (hb hby at_102) ?_
        show Steps p.tables e below (T100.setTop (mkF m 104 #[.val (.int p1), .val (.long q2), .second, .val (.int p3), .val (.int p4), .val (.int p6), .val (.int p7), .val (.long (0 : Int64)), .second, .val (.int n), .val (.ref key), .val (.ref chs), .val (.ref str), .val (.ref bod), .val (.ref pub), .unset] [(.int (8 : Int32))])) _
        refine XS.istore X100.here hx rfl (hb hby at_104) rfl (l' := #[.val (.int p1), .val (.long q2), .second, .val (.int p3), .val (.int p4), .val (.int p6), .val (.int p7), .val (.long (0 : Int64)), .second, .val (.int n), .val (.ref key), .val (.ref chs), .val (.ref str), .val (.ref bod), .val (.ref pub), .val (.int (8 : Int32))]) rfl ?_
        show Steps p.tables e below (T100.setTop (mkF m 106 #[.val (.int p1), .val (.long q2), .second, .val (.int p3), .val (.int p4), .val (.int p6), .val (.int p7), .val (.long (0 : Int64)), .second, .val (.int n), .val (.ref key), .val (.ref chs), .val (.ref str), .val (.ref bod), .val (.ref pub), .val (.int (8 : Int32))] [])) _
        refine XS.goto X100.here hx rfl (pc0 := 106) (pc' := 126) rfl (hb hby at_106) (by decide) (by decide) ?_
        show Steps p.tables e below (T100.setTop (mkF m 126 #[.val (.int p1), .val (.long q2), .second, .val (.int p3), .val (.int p4), .val (.int p6), .val (.int p7), .val (.long (0 : Int64)), .second, .val (.int n), .val (.ref key), .val (.ref chs), .val (.ref str), .val (.ref bod), .val (.ref pub), .val (.int (8 : Int32))] [])) _
        refine XS.aload X100.here hx rfl (hb hby at_126) rfl rfl ?_
        show Steps p.tables e below (T100.setTop (mkF m 128 #[.val (.int p1), .val (.long q2), .second, .val (.int p3), .val (.int p4), .val (.int p6), .val (.int p7), .val (.long (0 : Int64)), .second, .val (.int n), .val (.ref key), .val (.ref chs), .val (.ref str), .val (.ref bod), .val (.ref pub), .val (.int (8 : Int32))] [(.ref pub)])) _
        exact hgo
      obtain ⟨cq103, kq103, q103a, q103b, q103c⟩ := isOf hZ rfl E_pub
      obtain ⟨_, _, ⟨T103, L103, k103, n103⟩, -, X103, ⟨Lc103, hQ103, l103, y103, z103⟩, st103⟩ := X100.virtualBack hx (y := (⟨"com/example/loglane/loglane/wire/Frame$Publish", "type", "()I"⟩ : MethodName)) (z := (⟨"com/example/loglane/loglane/wire/Frame$Publish", "type", "()I"⟩ : MethodName)) hown (mvT hZ (hw _ (List.mem_of_getElem? (i := 62) rfl))) (mvT hZ (hw _ (List.mem_of_getElem? (i := 63) rfl))) (notFace_of_selects (args := #[]) (mvT hZ (hw _ (List.mem_of_getElem? (i := 65) rfl)))) (mvT hZ (hw _ (List.mem_of_getElem? (i := 65) rfl))) (mvT hZ (hw _ (List.mem_of_getElem? (i := 64) rfl))) (by decide) (backOf (W := 0) (rm_typ l Z a0 hw [] pub key (0 : Int64) _ n _ (8 : Int32) T100.heap n0 hZn F_k F_d V_key (by unfold own_type; rw [if_pos hc30_75])) hZ (hw _ (List.mem_of_getElem? (i := 66) rfl)) (hw _ (List.mem_of_getElem? (i := 33) rfl)) (by decide) (by decide)) q103a q103c (g := (mkF m 128 #[.val (.int p1), .val (.long q2), .second, .val (.int p3), .val (.int p4), .val (.int p6), .val (.int p7), .val (.long (0 : Int64)), .second, .val (.int n), .val (.ref key), .val (.ref chs), .val (.ref str), .val (.ref bod), .val (.ref pub), .val (.int (8 : Int32))] [(.ref pub)])) rfl (by rw [hml]; rfl) (Steps.refl _) (argsL := []) (rest := []) (lenOf pd_5 rfl) rfl (by show 2 * 0 + _ ≤ _; exact Nat.le_of_eq rfl) (hb hby at_128) (fun _ _ => ⟨rfl, rfl, (by decide : 6 + 0 ≤ _), (by decide : 15 + 0 ≤ _)⟩)
      dsimp only [Pt.U, Pt.locs, Pt.cells, Pt.slots] at X103 l103 y103 z103 st103 hQ103
      subst l103 y103 z103
      obtain ⟨rfl, N103q, e103⟩ := hQ103
      have N103 := Fr.app N100 N103q
      have R104 : ∀ tgt, Steps p.tables e below (T103.setTop (mkF m 131 #[.val (.int p1), .val (.long q2), .second, .val (.int p3), .val (.int p4), .val (.int p6), .val (.int p7), .val (.long (0 : Int64)), .second, .val (.int n), .val (.ref key), .val (.ref chs), .val (.ref str), .val (.ref bod), .val (.ref pub), .val (.int (8 : Int32))] [(.int (8 : Int32))])) tgt → Steps p.tables e below A0 tgt := fun tgt hgo => R102 tgt (st103.trans hgo)
      have R105 : ∀ tgt, Steps p.tables e below (T103.setTop (mkF m 141 #[.val (.int p1), .val (.long q2), .second, .val (.int p3), .val (.int p4), .val (.int p6), .val (.int p7), .val (.long (0 : Int64)), .second, .val (.int n), .val (.ref key), .val (.ref chs), .val (.ref str), .val (.ref bod), .val (.ref pub), .val (.int (8 : Int32))] [(.int (1 : Int32))])) tgt → Steps p.tables e below A0 tgt := by
        intro tgt hgo
        refine R104 tgt ?_
        show Steps p.tables e below (T103.setTop (mkF m 131 #[.val (.int p1), .val (.long q2), .second, .val (.int p3), .val (.int p4), .val (.int p6), .val (.int p7), .val (.long (0 : Int64)), .second, .val (.int n), .val (.ref key), .val (.ref chs), .val (.ref str), .val (.ref bod), .val (.ref pub), .val (.int (8 : Int32))] [(.int (8 : Int32))])) _
        refine XS.iload X103.here hx rfl (hb hby at_131) rfl ?_
        show Steps p.tables e below (T103.setTop (mkF m 133 #[.val (.int p1), .val (.long q2), .second, .val (.int p3), .val (.int p4), .val (.int p6), .val (.int p7), .val (.long (0 : Int64)), .second, .val (.int n), .val (.ref key), .val (.ref chs), .val (.ref str), .val (.ref bod), .val (.ref pub), .val (.int (8 : Int32))] [(.int (8 : Int32)), (.int (8 : Int32))])) _
        refine XS.icmpNo X103.here hx rfl (hb hby at_133) rfl (teq (by decide : (8 : Int32) = (8 : Int32))).2 ?_
        show Steps p.tables e below (T103.setTop (mkF m 136 #[.val (.int p1), .val (.long q2), .second, .val (.int p3), .val (.int p4), .val (.int p6), .val (.int p7), .val (.long (0 : Int64)), .second, .val (.int n), .val (.ref key), .val (.ref chs), .val (.ref str), .val (.ref bod), .val (.ref pub), .val (.int (8 : Int32))] [])) _
        refine XS.iconst X103.here hx rfl (hb hby at_136) ?_
        show Steps p.tables e below (T103.setTop (mkF m 137 #[.val (.int p1), .val (.long q2), .second, .val (.int p3), .val (.int p4), .val (.int p6), .val (.int p7), .val (.long (0 : Int64)), .second, .val (.int n), .val (.ref key), .val (.ref chs), .val (.ref str), .val (.ref bod), .val (.ref pub), .val (.int (8 : Int32))] [(.int (1 : Int32))])) _
        refine XS.goto X103.here hx rfl (pc0 := 137) (pc' := 141) rfl (hb hby at_137) (by decide) (by decide) ?_
        show Steps p.tables e below (T103.setTop (mkF m 141 #[.val (.int p1), .val (.long q2), .second, .val (.int p3), .val (.int p4), .val (.int p6), .val (.int p7), .val (.long (0 : Int64)), .second, .val (.int n), .val (.ref key), .val (.ref chs), .val (.ref str), .val (.ref bod), .val (.ref pub), .val (.int (8 : Int32))] [(.int (1 : Int32))])) _
        exact hgo
      subst hA0
      obtain ⟨fs, hr, hrun, hended, hW, hsame⟩ := X103.leave (v := some (.int (1 : Int32))) (fun h => by rw [Bd.returns] at h; cases h)
      refine ⟨_, _, R105 _ ?_, hrun, hended, _, _, rfl, ?_, ⟨_, rfl⟩, hW, hsame.mono (by decide) (by decide)⟩
      · show Steps p.tables e below (T103.setTop (mkF m 141 #[.val (.int p1), .val (.long q2), .second, .val (.int p3), .val (.int p4), .val (.int p6), .val (.int p7), .val (.long (0 : Int64)), .second, .val (.int n), .val (.ref key), .val (.ref chs), .val (.ref str), .val (.ref bod), .val (.ref pub), .val (.int (8 : Int32))] [(.int (1 : Int32))])) _
        exact retN X103 hx (t := .boolean) Bd.returns (by simp) (hb hby at_141) hr
      · show Q0 n0 _ T103.heap _
        rw [e103]
        exact ⟨rfl, N103⟩
    · have R106 : ∀ tgt, Steps p.tables e below (T73.setTop (mkF m 41 #[.val (.int p1), .val (.long q2), .second, .val (.int p3), .val (.int p4), .val (.int p6), .val (.int p7), .val (.long (0 : Int64)), .second, .val (.int n), .val (.ref key), .unset, .unset, .unset, .unset, .unset] [(.int (1 : Int32))])) tgt → Steps p.tables e below A0 tgt := by
        intro tgt hgo
        refine R76 tgt ?_
        show Steps p.tables e below (T73.setTop (mkF m 30 #[.val (.int p1), .val (.long q2), .second, .val (.int p3), .val (.int p4), .val (.int p6), .val (.int p7), .val (.long (0 : Int64)), .second, .val (.int n), .val (.ref key), .unset, .unset, .unset, .unset, .unset] [(.int n)])) _
        refine XS.ifYes X73.here hx rfl (pc0 := 30) (pc' := 40) rfl (hb hby at_30) rfl ((if0 _ _).trans (flt hc30_75).2.2.2) (by decide) (by decide) ?_
        show Steps p.tables e below (T73.setTop (mkF m 40 #[.val (.int p1), .val (.long q2), .second, .val (.int p3), .val (.int p4), .val (.int p6), .val (.int p7), .val (.long (0 : Int64)), .second, .val (.int n), .val (.ref key), .unset, .unset, .unset, .unset, .unset] [])) _
        refine XS.iconst X73.here hx rfl (hb hby at_40) ?_
        show Steps p.tables e below (T73.setTop (mkF m 41 #[.val (.int p1), .val (.long q2), .second, .val (.int p3), .val (.int p4), .val (.int p6), .val (.int p7), .val (.long (0 : Int64)), .second, .val (.int n), .val (.ref key), .unset, .unset, .unset, .unset, .unset] [(.int (1 : Int32))])) _
        exact hgo
      obtain ⟨T107, h107, k107, X107, e107, E107, A107, st107⟩ := newP X73 hx hZ (hw _ (List.mem_of_getElem? (i := 2) rfl)) e73 (g := (mkF m 41 #[.val (.int p1), .val (.long q2), .second, .val (.int p3), .val (.int p4), .val (.int p6), .val (.int p7), .val (.long (0 : Int64)), .second, .val (.int n), .val (.ref key), .unset, .unset, .unset, .unset, .unset] [(.int (1 : Int32))])) rfl (hb hby at_41) rfl (by decide) (cap := 1) (by decide) (by decide) (by decide) (by decide)
      obtain ⟨chs, g107⟩ : ∃ z, z = h73.size := ⟨_, rfl⟩
      rw [← g107] at A107 st107
      have ne_key_chs : key ≠ chs := Nat.ne_of_lt (Nat.lt_of_lt_of_le V_key.lt (Nat.le_of_eq g107.symm))
      have ge_chs : n0 ≤ chs := Nat.le_trans hZn (Nat.le_of_eq g107.symm)
      have sz_chs : h0.size ≤ chs := Nat.le_trans hK.1 (Nat.le_of_eq g107.symm)
      replace hZn := Nat.le_trans hZn E107.1
      replace hK := hK.ext E107
      replace hOld := hOld.ext E107
      replace V_key := V_key.ext E107
      have V_chs : Arv Z h107 chs k107 .char (1 : Int32) [(.int (0 : Int32))] (.int (0 : Int32)) := (Arv.new A107 (by decide)).pad (pad_rep [] (.int (0 : Int32)) 1)
      have R108 : ∀ tgt, Steps p.tables e below (T107.setTop (mkF m 43 #[.val (.int p1), .val (.long q2), .second, .val (.int p3), .val (.int p4), .val (.int p6), .val (.int p7), .val (.long (0 : Int64)), .second, .val (.int n), .val (.ref key), .unset, .unset, .unset, .unset, .unset] [(.ref chs)])) tgt → Steps p.tables e below A0 tgt := fun tgt hgo => R106 tgt (st107 tgt hgo)
      have R109 : ∀ tgt, Steps p.tables e below (T107.setTop (mkF m 55 #[.val (.int p1), .val (.long q2), .second, .val (.int p3), .val (.int p4), .val (.int p6), .val (.int p7), .val (.long (0 : Int64)), .second, .val (.int n), .val (.ref key), .val (.ref chs), .unset, .unset, .unset, .unset] [(.int ((p6 &&& (255 : Int32)).toUInt32.toUInt16.toUInt32.toInt32)), (.int (0 : Int32)), (.ref chs)])) tgt → Steps p.tables e below A0 tgt := by
        intro tgt hgo
        refine R108 tgt ?_
        show Steps p.tables e below (T107.setTop (mkF m 43 #[.val (.int p1), .val (.long q2), .second, .val (.int p3), .val (.int p4), .val (.int p6), .val (.int p7), .val (.long (0 : Int64)), .second, .val (.int n), .val (.ref key), .unset, .unset, .unset, .unset, .unset] [(.ref chs)])) _
        refine XS.astore X107.here hx rfl (hb hby at_43) rfl rfl (l' := #[.val (.int p1), .val (.long q2), .second, .val (.int p3), .val (.int p4), .val (.int p6), .val (.int p7), .val (.long (0 : Int64)), .second, .val (.int n), .val (.ref key), .val (.ref chs), .unset, .unset, .unset, .unset]) rfl ?_
        show Steps p.tables e below (T107.setTop (mkF m 45 #[.val (.int p1), .val (.long q2), .second, .val (.int p3), .val (.int p4), .val (.int p6), .val (.int p7), .val (.long (0 : Int64)), .second, .val (.int n), .val (.ref key), .val (.ref chs), .unset, .unset, .unset, .unset] [])) _
        refine XS.aload X107.here hx rfl (hb hby at_45) rfl rfl ?_
        show Steps p.tables e below (T107.setTop (mkF m 47 #[.val (.int p1), .val (.long q2), .second, .val (.int p3), .val (.int p4), .val (.int p6), .val (.int p7), .val (.long (0 : Int64)), .second, .val (.int n), .val (.ref key), .val (.ref chs), .unset, .unset, .unset, .unset] [(.ref chs)])) _
        refine XS.iconst X107.here hx rfl (hb hby at_47) ?_
        show Steps p.tables e below (T107.setTop (mkF m 48 #[.val (.int p1), .val (.long q2), .second, .val (.int p3), .val (.int p4), .val (.int p6), .val (.int p7), .val (.long (0 : Int64)), .second, .val (.int n), .val (.ref key), .val (.ref chs), .unset, .unset, .unset, .unset] [(.int (0 : Int32)), (.ref chs)])) _
        refine XS.iload X107.here hx rfl (hb hby at_48) rfl ?_
        show Steps p.tables e below (T107.setTop (mkF m 50 #[.val (.int p1), .val (.long q2), .second, .val (.int p3), .val (.int p4), .val (.int p6), .val (.int p7), .val (.long (0 : Int64)), .second, .val (.int n), .val (.ref key), .val (.ref chs), .unset, .unset, .unset, .unset] [(.int p6), (.int (0 : Int32)), (.ref chs)])) _
        refine XS.sipush X107.here hx rfl (hb hby at_50) ?_
        show Steps p.tables e below (T107.setTop (mkF m 53 #[.val (.int p1), .val (.long q2), .second, .val (.int p3), .val (.int p4), .val (.int p6), .val (.int p7), .val (.long (0 : Int64)), .second, .val (.int n), .val (.ref key), .val (.ref chs), .unset, .unset, .unset, .unset] [(.int (255 : Int32)), (.int p6), (.int (0 : Int32)), (.ref chs)])) _
        refine XS.iand X107.here hx rfl (hb hby at_53) rfl ?_
        show Steps p.tables e below (T107.setTop (mkF m 54 #[.val (.int p1), .val (.long q2), .second, .val (.int p3), .val (.int p4), .val (.int p6), .val (.int p7), .val (.long (0 : Int64)), .second, .val (.int n), .val (.ref key), .val (.ref chs), .unset, .unset, .unset, .unset] [(.int (p6 &&& (255 : Int32))), (.int (0 : Int32)), (.ref chs)])) _
        refine XS.i2c X107.here hx rfl (hb hby at_54) rfl ?_
        show Steps p.tables e below (T107.setTop (mkF m 55 #[.val (.int p1), .val (.long q2), .second, .val (.int p3), .val (.int p4), .val (.int p6), .val (.int p7), .val (.long (0 : Int64)), .second, .val (.int n), .val (.ref key), .val (.ref chs), .unset, .unset, .unset, .unset] [(.int ((p6 &&& (255 : Int32)).toUInt32.toUInt16.toUInt32.toInt32)), (.int (0 : Int32)), (.ref chs)])) _
        exact hgo
      obtain ⟨cl110, Ar110, q110, S110, Nn110, H110, G110⟩ := V_chs
      have hin110 : ¬ ((0 : Int32) < 0 ∨ cl110.slots.size ≤ ((0 : Int32)).toNatClampNeg) := inb_of S110 ⟨by decide, by decide⟩
      obtain ⟨T110, h110, X110, e110, W110, st110⟩ := stC X107 hx hZ e107 Ar110 (j := (0 : Int32)) hin110 (g := (mkF m 55 #[.val (.int p1), .val (.long q2), .second, .val (.int p3), .val (.int p4), .val (.int p6), .val (.int p7), .val (.long (0 : Int64)), .second, .val (.int n), .val (.ref key), .val (.ref chs), .unset, .unset, .unset, .unset] [(.int ((p6 &&& (255 : Int32)).toUInt32.toUInt16.toUInt32.toInt32)), (.int (0 : Int32)), (.ref chs)])) rfl rfl (hb hby at_55)
      replace hZn := Nat.le_trans hZn (Keep.of_wr W110).1
      replace hK := hK.wr W110 (Or.inr sz_chs)
      replace hOld := hOld.wr W110 ge_chs
      replace V_key := V_key.other W110 ne_key_chs
      have V_chs : Arv Z h110 chs k107 .char (1 : Int32) [(.int (nar .char ((p6 &&& (255 : Int32)).toUInt32.toUInt16.toUInt32.toInt32)))] (.int (0 : Int32)) := Arv.set Ar110 q110 S110 Nn110 H110 G110 (fits_nar_char _) W110 0 rfl (Nat.le_of_ble_eq_true rfl)
      have N110 := Fr.snoc X110 N0 ge_chs
      have R111 : ∀ tgt, Steps p.tables e below (T110.setTop (mkF m 56 #[.val (.int p1), .val (.long q2), .second, .val (.int p3), .val (.int p4), .val (.int p6), .val (.int p7), .val (.long (0 : Int64)), .second, .val (.int n), .val (.ref key), .val (.ref chs), .unset, .unset, .unset, .unset] [])) tgt → Steps p.tables e below A0 tgt := fun tgt hgo => R109 tgt (st110 tgt hgo)
      obtain ⟨T112, h112, X112, e112, E112, A112, D112, -, st112⟩ := newO X110 hx hZ hown (hw _ (List.mem_of_getElem? (i := 3) rfl)) (hw _ (List.mem_of_getElem? (i := 4) rfl)) (hw _ (List.mem_of_getElem? (i := 5) rfl)) e110 (g := (mkF m 56 #[.val (.int p1), .val (.long q2), .second, .val (.int p3), .val (.int p4), .val (.int p6), .val (.int p7), .val (.long (0 : Int64)), .second, .val (.int n), .val (.ref key), .val (.ref chs), .unset, .unset, .unset, .unset] [])) rfl (hb hby at_56) (by decide) (by decide)
      obtain ⟨str, g112⟩ : ∃ z, z = h110.size := ⟨_, rfl⟩
      rw [← g112] at A112 D112 st112
      have ne_key_str : key ≠ str := Nat.ne_of_lt (Nat.lt_of_lt_of_le V_key.lt (Nat.le_of_eq g112.symm))
      have ne_chs_str : chs ≠ str := Nat.ne_of_lt (Nat.lt_of_lt_of_le V_chs.lt (Nat.le_of_eq g112.symm))
      have ge_str : n0 ≤ str := Nat.le_trans hZn (Nat.le_of_eq g112.symm)
      have sz_str : h0.size ≤ str := Nat.le_trans hK.1 (Nat.le_of_eq g112.symm)
      replace hZn := Nat.le_trans hZn E112.1
      replace hK := hK.ext E112
      replace hOld := hOld.ext E112
      replace V_key := V_key.ext E112
      replace V_chs := V_chs.ext E112
      have E_str := A112
      have F_coder_str : Fld Z h112 str "java/lang/String" "coder" "B" (.int (0 : Int32)) := D112 (Or.inr (hw _ (List.mem_of_getElem? (i := 28) rfl))) (ty := .byte) (by decide)
      have F_value_str : Fld Z h112 str "java/lang/String" "value" "[B" .null := D112 (Or.inr (hw _ (List.mem_of_getElem? (i := 30) rfl))) (ty := (.array .byte)) (by decide)
      have R113 : ∀ tgt, Steps p.tables e below (T112.setTop (mkF m 59 #[.val (.int p1), .val (.long q2), .second, .val (.int p3), .val (.int p4), .val (.int p6), .val (.int p7), .val (.long (0 : Int64)), .second, .val (.int n), .val (.ref key), .val (.ref chs), .unset, .unset, .unset, .unset] [(.ref str)])) tgt → Steps p.tables e below A0 tgt := fun tgt hgo => R111 tgt (st112 tgt hgo)
      have R114 : ∀ tgt, Steps p.tables e below (T112.setTop (mkF m 62 #[.val (.int p1), .val (.long q2), .second, .val (.int p3), .val (.int p4), .val (.int p6), .val (.int p7), .val (.long (0 : Int64)), .second, .val (.int n), .val (.ref key), .val (.ref chs), .unset, .unset, .unset, .unset] [(.ref chs), (.ref str), (.ref str)])) tgt → Steps p.tables e below A0 tgt := by
        intro tgt hgo
        refine R113 tgt ?_
        show Steps p.tables e below (T112.setTop (mkF m 59 #[.val (.int p1), .val (.long q2), .second, .val (.int p3), .val (.int p4), .val (.int p6), .val (.int p7), .val (.long (0 : Int64)), .second, .val (.int n), .val (.ref key), .val (.ref chs), .unset, .unset, .unset, .unset] [(.ref str)])) _
        refine XS.dup X112.here hx rfl (hb hby at_59) rfl rfl ?_
        show Steps p.tables e below (T112.setTop (mkF m 60 #[.val (.int p1), .val (.long q2), .second, .val (.int p3), .val (.int p4), .val (.int p6), .val (.int p7), .val (.long (0 : Int64)), .second, .val (.int n), .val (.ref key), .val (.ref chs), .unset, .unset, .unset, .unset] [(.ref str), (.ref str)])) _
        refine XS.aload X112.here hx rfl (hb hby at_60) rfl rfl ?_
        show Steps p.tables e below (T112.setTop (mkF m 62 #[.val (.int p1), .val (.long q2), .second, .val (.int p3), .val (.int p4), .val (.int p6), .val (.int p7), .val (.long (0 : Int64)), .second, .val (.int n), .val (.ref key), .val (.ref chs), .unset, .unset, .unset, .unset] [(.ref chs), (.ref str), (.ref str)])) _
        exact hgo
      have hlat : ∀ c ∈ [(nar .char ((p6 &&& (255 : Int32)).toUInt32.toUInt16.toUInt32.toInt32))], ¬ c < 0 ∧ ¬ (255 : Int32) < c := by
        intro c hc
        simp only [List.mem_cons, List.not_mem_nil, or_false] at hc
        subst hc
        rw [show (nar .char ((p6 &&& (255 : Int32)).toUInt32.toUInt16.toUInt32.toInt32)) = p6 &&& 255 from by simp only [nar, i2c_mask]]; exact own_255 p6
      obtain ⟨_, _, ⟨T115, L115, k115, n115⟩, -, X115, ⟨Lc115, hQ115, l115, y115, z115⟩, st115⟩ := X112.specialBack hx (y := (⟨"java/lang/String", "<init>", "([C)V"⟩ : MethodName)) rfl hown (mvT hZ (hw _ (List.mem_of_getElem? (i := 6) rfl))) (mvT hZ (hw _ (List.mem_of_getElem? (i := 7) rfl))) (mvT hZ (hw _ (List.mem_of_getElem? (i := 8) rfl))) (by decide) (StrChars.Road.backV (W := 1) hZ hws (kI := 4) (hw _ (List.mem_of_getElem? (i := 4) rfl)) (cs := [(nar .char ((p6 &&& (255 : Int32)).toUInt32.toUInt16.toUInt32.toInt32))]) (bs := [((nar .char ((p6 &&& (255 : Int32)).toUInt32.toUInt16.toUInt32.toInt32))).toInt8.toInt32]) (n := 1) ge_str hZn E_str F_value_str F_coder_str V_chs (S_cs.ext hOld.2) hz rfl rfl (by decide) (by decide) hlat rfl (by decide) (by decide)) (g := (mkF m 62 #[.val (.int p1), .val (.long q2), .second, .val (.int p3), .val (.int p4), .val (.int p6), .val (.int p7), .val (.long (0 : Int64)), .second, .val (.int n), .val (.ref key), .val (.ref chs), .unset, .unset, .unset, .unset] [(.ref chs), (.ref str), (.ref str)])) rfl (by rw [hml]; rfl) (Steps.refl _) (a := str) (argsL := [(.ref chs)]) (rest := [(.ref str)]) (lenOf pd_3 rfl) rfl (by show 2 * 0 + _ ≤ _; exact Nat.le_of_eq rfl) (hb hby at_62) (fun _ _ => ⟨rfl, e112, (by decide : 3 + 1 ≤ _), (by decide : 8 + 1 ≤ _)⟩)
      dsimp only [Pt.U, Pt.locs, Pt.cells, Pt.slots] at X115 l115 y115 z115 st115 hQ115
      subst l115 y115 z115
      obtain ⟨rfl, N115q, K115, g115a, g115b, tb, kb, g115c, g115d, g115e, g115f, g115g⟩ := hQ115
      have N115 := Fr.app N110 N115q
      have R116 : ∀ tgt, Steps p.tables e below (T115.setTop (mkF m 65 #[.val (.int p1), .val (.long q2), .second, .val (.int p3), .val (.int p4), .val (.int p6), .val (.int p7), .val (.long (0 : Int64)), .second, .val (.int n), .val (.ref key), .val (.ref chs), .unset, .unset, .unset, .unset] [(.ref str)])) tgt → Steps p.tables e below A0 tgt := fun tgt hgo => R114 tgt (st115.trans hgo)
      replace hZn := Nat.le_trans hZn K115.1
      replace hK := hK.trans K115 (allS (Or.inr sz_str) all0)
      replace hOld := hOld.keep K115 (allS ge_str all0)
      replace V_key := V_key.keep K115 (ninS ne_key_str nin0)
      replace V_chs := V_chs.keep K115 (ninS ne_chs_str nin0)
      replace E_str := E_str.keep K115
      have R117 : ∀ tgt, Steps p.tables e below (T115.setTop (mkF m 68 #[.val (.int p1), .val (.long q2), .second, .val (.int p3), .val (.int p4), .val (.int p6), .val (.int p7), .val (.long (0 : Int64)), .second, .val (.int n), .val (.ref key), .val (.ref chs), .val (.ref str), .unset, .unset, .unset] [(.int (1 : Int32))])) tgt → Steps p.tables e below A0 tgt := by
        intro tgt hgo
        refine R116 tgt ?_
        show Steps p.tables e below (T115.setTop (mkF m 65 #[.val (.int p1), .val (.long q2), .second, .val (.int p3), .val (.int p4), .val (.int p6), .val (.int p7), .val (.long (0 : Int64)), .second, .val (.int n), .val (.ref key), .val (.ref chs), .unset, .unset, .unset, .unset] [(.ref str)])) _
        refine XS.astore X115.here hx rfl (hb hby at_65) rfl rfl (l' := #[.val (.int p1), .val (.long q2), .second, .val (.int p3), .val (.int p4), .val (.int p6), .val (.int p7), .val (.long (0 : Int64)), .second, .val (.int n), .val (.ref key), .val (.ref chs), .val (.ref str), .unset, .unset, .unset]) rfl ?_
        show Steps p.tables e below (T115.setTop (mkF m 67 #[.val (.int p1), .val (.long q2), .second, .val (.int p3), .val (.int p4), .val (.int p6), .val (.int p7), .val (.long (0 : Int64)), .second, .val (.int n), .val (.ref key), .val (.ref chs), .val (.ref str), .unset, .unset, .unset] [])) _
        refine XS.iconst X115.here hx rfl (hb hby at_67) ?_
        show Steps p.tables e below (T115.setTop (mkF m 68 #[.val (.int p1), .val (.long q2), .second, .val (.int p3), .val (.int p4), .val (.int p6), .val (.int p7), .val (.long (0 : Int64)), .second, .val (.int n), .val (.ref key), .val (.ref chs), .val (.ref str), .unset, .unset, .unset] [(.int (1 : Int32))])) _
        exact hgo
      obtain ⟨T118, h118, k118, X118, e118, E118, A118, st118⟩ := newP X115 hx hZ (hw _ (List.mem_of_getElem? (i := 1) rfl)) rfl (g := (mkF m 68 #[.val (.int p1), .val (.long q2), .second, .val (.int p3), .val (.int p4), .val (.int p6), .val (.int p7), .val (.long (0 : Int64)), .second, .val (.int n), .val (.ref key), .val (.ref chs), .val (.ref str), .unset, .unset, .unset] [(.int (1 : Int32))])) rfl (hb hby at_68) rfl (by decide) (cap := 1) (by decide) (by decide) (by decide) (by decide)
      obtain ⟨bod, g118⟩ : ∃ z, z = T115.heap.size := ⟨_, rfl⟩
      rw [← g118] at A118 st118
      have ne_key_bod : key ≠ bod := Nat.ne_of_lt (Nat.lt_of_lt_of_le V_key.lt (Nat.le_of_eq g118.symm))
      have ne_chs_bod : chs ≠ bod := Nat.ne_of_lt (Nat.lt_of_lt_of_le V_chs.lt (Nat.le_of_eq g118.symm))
      have ne_str_bod : str ≠ bod := Nat.ne_of_lt (Nat.lt_of_lt_of_le E_str.lt (Nat.le_of_eq g118.symm))
      have ge_bod : n0 ≤ bod := Nat.le_trans hZn (Nat.le_of_eq g118.symm)
      have sz_bod : h0.size ≤ bod := Nat.le_trans hK.1 (Nat.le_of_eq g118.symm)
      replace hZn := Nat.le_trans hZn E118.1
      replace hK := hK.ext E118
      replace hOld := hOld.ext E118
      replace V_key := V_key.ext E118
      replace V_chs := V_chs.ext E118
      replace E_str := E_str.ext E118
      have V_bod : Arv Z h118 bod k118 .byte (1 : Int32) [(.int (0 : Int32))] (.int (0 : Int32)) := (Arv.new A118 (by decide)).pad (pad_rep [] (.int (0 : Int32)) 1)
      have R119 : ∀ tgt, Steps p.tables e below (T118.setTop (mkF m 70 #[.val (.int p1), .val (.long q2), .second, .val (.int p3), .val (.int p4), .val (.int p6), .val (.int p7), .val (.long (0 : Int64)), .second, .val (.int n), .val (.ref key), .val (.ref chs), .val (.ref str), .unset, .unset, .unset] [(.ref bod)])) tgt → Steps p.tables e below A0 tgt := fun tgt hgo => R117 tgt (st118 tgt hgo)
      have R120 : ∀ tgt, Steps p.tables e below (T118.setTop (mkF m 78 #[.val (.int p1), .val (.long q2), .second, .val (.int p3), .val (.int p4), .val (.int p6), .val (.int p7), .val (.long (0 : Int64)), .second, .val (.int n), .val (.ref key), .val (.ref chs), .val (.ref str), .val (.ref bod), .unset, .unset] [(.int (p4.toInt8.toInt32)), (.int (0 : Int32)), (.ref bod)])) tgt → Steps p.tables e below A0 tgt := by
        intro tgt hgo
        refine R119 tgt ?_
        show Steps p.tables e below (T118.setTop (mkF m 70 #[.val (.int p1), .val (.long q2), .second, .val (.int p3), .val (.int p4), .val (.int p6), .val (.int p7), .val (.long (0 : Int64)), .second, .val (.int n), .val (.ref key), .val (.ref chs), .val (.ref str), .unset, .unset, .unset] [(.ref bod)])) _
        refine XS.astore X118.here hx rfl (hb hby at_70) rfl rfl (l' := #[.val (.int p1), .val (.long q2), .second, .val (.int p3), .val (.int p4), .val (.int p6), .val (.int p7), .val (.long (0 : Int64)), .second, .val (.int n), .val (.ref key), .val (.ref chs), .val (.ref str), .val (.ref bod), .unset, .unset]) rfl ?_
        show Steps p.tables e below (T118.setTop (mkF m 72 #[.val (.int p1), .val (.long q2), .second, .val (.int p3), .val (.int p4), .val (.int p6), .val (.int p7), .val (.long (0 : Int64)), .second, .val (.int n), .val (.ref key), .val (.ref chs), .val (.ref str), .val (.ref bod), .unset, .unset] [])) _
        refine XS.aload X118.here hx rfl (hb hby at_72) rfl rfl ?_
        show Steps p.tables e below (T118.setTop (mkF m 74 #[.val (.int p1), .val (.long q2), .second, .val (.int p3), .val (.int p4), .val (.int p6), .val (.int p7), .val (.long (0 : Int64)), .second, .val (.int n), .val (.ref key), .val (.ref chs), .val (.ref str), .val (.ref bod), .unset, .unset] [(.ref bod)])) _
        refine XS.iconst X118.here hx rfl (hb hby at_74) ?_
        show Steps p.tables e below (T118.setTop (mkF m 75 #[.val (.int p1), .val (.long q2), .second, .val (.int p3), .val (.int p4), .val (.int p6), .val (.int p7), .val (.long (0 : Int64)), .second, .val (.int n), .val (.ref key), .val (.ref chs), .val (.ref str), .val (.ref bod), .unset, .unset] [(.int (0 : Int32)), (.ref bod)])) _
        refine XS.iload X118.here hx rfl (hb hby at_75) rfl ?_
        show Steps p.tables e below (T118.setTop (mkF m 77 #[.val (.int p1), .val (.long q2), .second, .val (.int p3), .val (.int p4), .val (.int p6), .val (.int p7), .val (.long (0 : Int64)), .second, .val (.int n), .val (.ref key), .val (.ref chs), .val (.ref str), .val (.ref bod), .unset, .unset] [(.int p4), (.int (0 : Int32)), (.ref bod)])) _
        refine XS.i2b X118.here hx rfl (hb hby at_77) rfl ?_
        show Steps p.tables e below (T118.setTop (mkF m 78 #[.val (.int p1), .val (.long q2), .second, .val (.int p3), .val (.int p4), .val (.int p6), .val (.int p7), .val (.long (0 : Int64)), .second, .val (.int n), .val (.ref key), .val (.ref chs), .val (.ref str), .val (.ref bod), .unset, .unset] [(.int (p4.toInt8.toInt32)), (.int (0 : Int32)), (.ref bod)])) _
        exact hgo
      obtain ⟨cl121, Ar121, q121, S121, Nn121, H121, G121⟩ := V_bod
      have hin121 : ¬ ((0 : Int32) < 0 ∨ cl121.slots.size ≤ ((0 : Int32)).toNatClampNeg) := inb_of S121 ⟨by decide, by decide⟩
      obtain ⟨T121, h121, X121, e121, W121, st121⟩ := stB X118 hx hZ e118 Ar121 (j := (0 : Int32)) hin121 (g := (mkF m 78 #[.val (.int p1), .val (.long q2), .second, .val (.int p3), .val (.int p4), .val (.int p6), .val (.int p7), .val (.long (0 : Int64)), .second, .val (.int n), .val (.ref key), .val (.ref chs), .val (.ref str), .val (.ref bod), .unset, .unset] [(.int (p4.toInt8.toInt32)), (.int (0 : Int32)), (.ref bod)])) rfl rfl (hb hby at_78)
      replace hZn := Nat.le_trans hZn (Keep.of_wr W121).1
      replace hK := hK.wr W121 (Or.inr sz_bod)
      replace hOld := hOld.wr W121 ge_bod
      replace V_key := V_key.other W121 ne_key_bod
      replace V_chs := V_chs.other W121 ne_chs_bod
      replace E_str := E_str.wr W121
      have V_bod : Arv Z h121 bod k118 .byte (1 : Int32) [(.int (nar .byte (p4.toInt8.toInt32)))] (.int (0 : Int32)) := Arv.set Ar121 q121 S121 Nn121 H121 G121 (fits_nar_byte _) W121 0 rfl (Nat.le_of_ble_eq_true rfl)
      have N121 := Fr.snoc X121 N115 ge_bod
      have R122 : ∀ tgt, Steps p.tables e below (T121.setTop (mkF m 79 #[.val (.int p1), .val (.long q2), .second, .val (.int p3), .val (.int p4), .val (.int p6), .val (.int p7), .val (.long (0 : Int64)), .second, .val (.int n), .val (.ref key), .val (.ref chs), .val (.ref str), .val (.ref bod), .unset, .unset] [])) tgt → Steps p.tables e below A0 tgt := fun tgt hgo => R120 tgt (st121 tgt hgo)
      obtain ⟨T123, h123, X123, e123, E123, A123, D123, -, st123⟩ := newO X121 hx hZ hown (hw _ (List.mem_of_getElem? (i := 31) rfl)) (hw _ (List.mem_of_getElem? (i := 32) rfl)) (hw _ (List.mem_of_getElem? (i := 33) rfl)) e121 (g := (mkF m 79 #[.val (.int p1), .val (.long q2), .second, .val (.int p3), .val (.int p4), .val (.int p6), .val (.int p7), .val (.long (0 : Int64)), .second, .val (.int n), .val (.ref key), .val (.ref chs), .val (.ref str), .val (.ref bod), .unset, .unset] [])) rfl (hb hby at_79) (by decide) (by decide)
      obtain ⟨pub, g123⟩ : ∃ z, z = h121.size := ⟨_, rfl⟩
      rw [← g123] at A123 D123 st123
      have ne_key_pub : key ≠ pub := Nat.ne_of_lt (Nat.lt_of_lt_of_le V_key.lt (Nat.le_of_eq g123.symm))
      have ne_chs_pub : chs ≠ pub := Nat.ne_of_lt (Nat.lt_of_lt_of_le V_chs.lt (Nat.le_of_eq g123.symm))
      have ne_str_pub : str ≠ pub := Nat.ne_of_lt (Nat.lt_of_lt_of_le E_str.lt (Nat.le_of_eq g123.symm))
      have ne_bod_pub : bod ≠ pub := Nat.ne_of_lt (Nat.lt_of_lt_of_le V_bod.lt (Nat.le_of_eq g123.symm))
      have ge_pub : n0 ≤ pub := Nat.le_trans hZn (Nat.le_of_eq g123.symm)
      have sz_pub : h0.size ≤ pub := Nat.le_trans hK.1 (Nat.le_of_eq g123.symm)
      replace hZn := Nat.le_trans hZn E123.1
      replace hK := hK.ext E123
      replace hOld := hOld.ext E123
      replace V_key := V_key.ext E123
      replace V_chs := V_chs.ext E123
      replace E_str := E_str.ext E123
      replace V_bod := V_bod.ext E123
      have E_pub := A123
      have F_request_pub : Fld Z h123 pub "com/example/loglane/loglane/wire/Frame$Publish" "request" "I" (.int (0 : Int32)) := D123 (Or.inr (hw _ (List.mem_of_getElem? (i := 53) rfl))) (ty := .int) (by decide)
      have F_topic_pub : Fld Z h123 pub "com/example/loglane/loglane/wire/Frame$Publish" "topic" "Ljava/lang/String;" .null := D123 (Or.inr (hw _ (List.mem_of_getElem? (i := 55) rfl))) (ty := (.object "java/lang/String")) (by decide)
      have F_delayMillis_pub : Fld Z h123 pub "com/example/loglane/loglane/wire/Frame$Publish" "delayMillis" "J" (.long (0 : Int64)) := D123 (Or.inr (hw _ (List.mem_of_getElem? (i := 57) rfl))) (ty := .long) (by decide)
      have F_key_pub : Fld Z h123 pub "com/example/loglane/loglane/wire/Frame$Publish" "key" "[B" .null := D123 (Or.inr (hw _ (List.mem_of_getElem? (i := 59) rfl))) (ty := (.array .byte)) (by decide)
      have F_body_pub : Fld Z h123 pub "com/example/loglane/loglane/wire/Frame$Publish" "body" "[B" .null := D123 (Or.inr (hw _ (List.mem_of_getElem? (i := 61) rfl))) (ty := (.array .byte)) (by decide)
      have R124 : ∀ tgt, Steps p.tables e below (T123.setTop (mkF m 82 #[.val (.int p1), .val (.long q2), .second, .val (.int p3), .val (.int p4), .val (.int p6), .val (.int p7), .val (.long (0 : Int64)), .second, .val (.int n), .val (.ref key), .val (.ref chs), .val (.ref str), .val (.ref bod), .unset, .unset] [(.ref pub)])) tgt → Steps p.tables e below A0 tgt := fun tgt hgo => R122 tgt (st123 tgt hgo)
      have R125 : ∀ tgt, Steps p.tables e below (T123.setTop (mkF m 92 #[.val (.int p1), .val (.long q2), .second, .val (.int p3), .val (.int p4), .val (.int p6), .val (.int p7), .val (.long (0 : Int64)), .second, .val (.int n), .val (.ref key), .val (.ref chs), .val (.ref str), .val (.ref bod), .unset, .unset] [(.ref bod), (.ref key), (.long (0 : Int64)), (.ref str), (.int p1), (.ref pub), (.ref pub)])) tgt → Steps p.tables e below A0 tgt := by
        intro tgt hgo
        refine R124 tgt ?_
        show Steps p.tables e below (T123.setTop (mkF m 82 #[.val (.int p1), .val (.long q2), .second, .val (.int p3), .val (.int p4), .val (.int p6), .val (.int p7), .val (.long (0 : Int64)), .second, .val (.int n), .val (.ref key), .val (.ref chs), .val (.ref str), .val (.ref bod), .unset, .unset] [(.ref pub)])) _
        refine XS.dup X123.here hx rfl (hb hby at_82) rfl rfl ?_
        show Steps p.tables e below (T123.setTop (mkF m 83 #[.val (.int p1), .val (.long q2), .second, .val (.int p3), .val (.int p4), .val (.int p6), .val (.int p7), .val (.long (0 : Int64)), .second, .val (.int n), .val (.ref key), .val (.ref chs), .val (.ref str), .val (.ref bod), .unset, .unset] [(.ref pub), (.ref pub)])) _
        refine XS.iloadN X123.here hx rfl (hb hby at_83) rfl ?_
        show Steps p.tables e below (T123.setTop (mkF m 84 #[.val (.int p1), .val (.long q2), .second, .val (.int p3), .val (.int p4), .val (.int p6), .val (.int p7), .val (.long (0 : Int64)), .second, .val (.int n), .val (.ref key), .val (.ref chs), .val (.ref str), .val (.ref bod), .unset, .unset] [(.int p1), (.ref pub), (.ref pub)])) _
        refine XS.aload X123.here hx rfl (hb hby at_84) rfl rfl ?_
        show Steps p.tables e below (T123.setTop (mkF m 86 #[.val (.int p1), .val (.long q2), .second, .val (.int p3), .val (.int p4), .val (.int p6), .val (.int p7), .val (.long (0 : Int64)), .second, .val (.int n), .val (.ref key), .val (.ref chs), .val (.ref str), .val (.ref bod), .unset, .unset] [(.ref str), (.int p1), (.ref pub), (.ref pub)])) _
        refine XS.lload X123.here hx rfl (hb hby at_86) rfl ?_
        show Steps p.tables e below (T123.setTop (mkF m 88 #[.val (.int p1), .val (.long q2), .second, .val (.int p3), .val (.int p4), .val (.int p6), .val (.int p7), .val (.long (0 : Int64)), .second, .val (.int n), .val (.ref key), .val (.ref chs), .val (.ref str), .val (.ref bod), .unset, .unset] [(.long (0 : Int64)), (.ref str), (.int p1), (.ref pub), (.ref pub)])) _
        refine XS.aload X123.here hx rfl (hb hby at_88) rfl rfl ?_
        show Steps p.tables e below (T123.setTop (mkF m 90 #[.val (.int p1), .val (.long q2), .second, .val (.int p3), .val (.int p4), .val (.int p6), .val (.int p7), .val (.long (0 : Int64)), .second, .val (.int n), .val (.ref key), .val (.ref chs), .val (.ref str), .val (.ref bod), .unset, .unset] [(.ref key), (.long (0 : Int64)), (.ref str), (.int p1), (.ref pub), (.ref pub)])) _
        refine XS.aload X123.here hx rfl (hb hby at_90) rfl rfl ?_
        show Steps p.tables e below (T123.setTop (mkF m 92 #[.val (.int p1), .val (.long q2), .second, .val (.int p3), .val (.int p4), .val (.int p6), .val (.int p7), .val (.long (0 : Int64)), .second, .val (.int n), .val (.ref key), .val (.ref chs), .val (.ref str), .val (.ref bod), .unset, .unset] [(.ref bod), (.ref key), (.long (0 : Int64)), (.ref str), (.int p1), (.ref pub), (.ref pub)])) _
        exact hgo
      obtain ⟨_, _, ⟨T126, L126, k126, n126⟩, -, X126, ⟨Lc126, hQ126, l126, y126, z126⟩, st126⟩ := X123.specialBack hx (y := (⟨"com/example/loglane/loglane/wire/Frame$Publish", "<init>", "(ILjava/lang/String;J[B[B)V"⟩ : MethodName)) rfl hown (mvT hZ (hw _ (List.mem_of_getElem? (i := 34) rfl))) (mvT hZ (hw _ (List.mem_of_getElem? (i := 35) rfl))) (mvT hZ (hw _ (List.mem_of_getElem? (i := 36) rfl))) (by decide) (backOf (W := 1) (rm_ini l Z a0 hw [] pub p1 str (0 : Int64) key bod _ _ _ h123 n0 hZn ge_pub E_pub F_request_pub F_topic_pub F_delayMillis_pub F_key_pub F_body_pub V_key (own_len hn) (by decide) (by decide)) hZ (hw _ (List.mem_of_getElem? (i := 36) rfl)) (hw _ (List.mem_of_getElem? (i := 33) rfl)) (by decide) (by decide)) (g := (mkF m 92 #[.val (.int p1), .val (.long q2), .second, .val (.int p3), .val (.int p4), .val (.int p6), .val (.int p7), .val (.long (0 : Int64)), .second, .val (.int n), .val (.ref key), .val (.ref chs), .val (.ref str), .val (.ref bod), .unset, .unset] [(.ref bod), (.ref key), (.long (0 : Int64)), (.ref str), (.int p1), (.ref pub), (.ref pub)])) rfl (by rw [hml]; rfl) (Steps.refl _) (a := pub) (argsL := [(.int p1), (.ref str), (.long (0 : Int64)), (.ref key), (.ref bod)]) (rest := [(.ref pub)]) (lenOf pd_4 rfl) rfl (by show 2 * 0 + _ ≤ _; exact Nat.le_of_eq rfl) (hb hby at_92) (fun _ _ => ⟨rfl, e123, (by decide : 6 + 0 ≤ _), (by decide : 15 + 0 ≤ _)⟩)
      dsimp only [Pt.U, Pt.locs, Pt.cells, Pt.slots] at X126 l126 y126 z126 st126 hQ126
      subst l126 y126 z126
      obtain ⟨rfl, N126q, K126, E126p, f126a, f126b⟩ := hQ126
      have N126 := Fr.app N121 N126q
      have R127 : ∀ tgt, Steps p.tables e below (T126.setTop (mkF m 95 #[.val (.int p1), .val (.long q2), .second, .val (.int p3), .val (.int p4), .val (.int p6), .val (.int p7), .val (.long (0 : Int64)), .second, .val (.int n), .val (.ref key), .val (.ref chs), .val (.ref str), .val (.ref bod), .unset, .unset] [(.ref pub)])) tgt → Steps p.tables e below A0 tgt := fun tgt hgo => R125 tgt (st126.trans hgo)
      replace hZn := Nat.le_trans hZn K126.1
      replace hK := hK.trans K126 (allS (Or.inr sz_pub) all0)
      replace hOld := hOld.keep K126 (allS ge_pub all0)
      replace V_key := V_key.keep K126 (ninS ne_key_pub nin0)
      replace V_chs := V_chs.keep K126 (ninS ne_chs_pub nin0)
      replace E_str := E_str.keep K126
      replace V_bod := V_bod.keep K126 (ninS ne_bod_pub nin0)
      replace E_pub := E_pub.keep K126
      have F_d := f126a
      have F_k := f126b
      have R128 : ∀ tgt, Steps p.tables e below (T126.setTop (mkF m 128 #[.val (.int p1), .val (.long q2), .second, .val (.int p3), .val (.int p4), .val (.int p6), .val (.int p7), .val (.long (0 : Int64)), .second, .val (.int n), .val (.ref key), .val (.ref chs), .val (.ref str), .val (.ref bod), .val (.ref pub), .val (.int (2 : Int32))] [(.ref pub)])) tgt → Steps p.tables e below A0 tgt := by
        intro tgt hgo
        refine R127 tgt ?_
        show Steps p.tables e below (T126.setTop (mkF m 95 #[.val (.int p1), .val (.long q2), .second, .val (.int p3), .val (.int p4), .val (.int p6), .val (.int p7), .val (.long (0 : Int64)), .second, .val (.int n), .val (.ref key), .val (.ref chs), .val (.ref str), .val (.ref bod), .unset, .unset] [(.ref pub)])) _
        refine XS.astore X126.here hx rfl (hb hby at_95) rfl rfl (l' := #[.val (.int p1), .val (.long q2), .second, .val (.int p3), .val (.int p4), .val (.int p6), .val (.int p7), .val (.long (0 : Int64)), .second, .val (.int n), .val (.ref key), .val (.ref chs), .val (.ref str), .val (.ref bod), .val (.ref pub), .unset]) rfl ?_
        show Steps p.tables e below (T126.setTop (mkF m 97 #[.val (.int p1), .val (.long q2), .second, .val (.int p3), .val (.int p4), .val (.int p6), .val (.int p7), .val (.long (0 : Int64)), .second, .val (.int n), .val (.ref key), .val (.ref chs), .val (.ref str), .val (.ref bod), .val (.ref pub), .unset] [])) _
        refine XS.iload X126.here hx rfl (hb hby at_97) rfl ?_
        show Steps p.tables e below (T126.setTop (mkF m 99 #[.val (.int p1), .val (.long q2), .second, .val (.int p3), .val (.int p4), .val (.int p6), .val (.int p7), .val (.long (0 : Int64)), .second, .val (.int n), .val (.ref key), .val (.ref chs), .val (.ref str), .val (.ref bod), .val (.ref pub), .unset] [(.int n)])) _
        refine XS.ifYes X126.here hx rfl (pc0 := 99) (pc' := 109) rfl (hb hby at_99) rfl ((if0 _ _).trans (flt hc30_75).2.2.2) (by decide) (by decide) ?_
        show Steps p.tables e below (T126.setTop (mkF m 109 #[.val (.int p1), .val (.long q2), .second, .val (.int p3), .val (.int p4), .val (.int p6), .val (.int p7), .val (.long (0 : Int64)), .second, .val (.int n), .val (.ref key), .val (.ref chs), .val (.ref str), .val (.ref bod), .val (.ref pub), .unset] [])) _
        refine XS.lload X126.here hx rfl (hb hby at_109) rfl ?_
        show Steps p.tables e below (T126.setTop (mkF m 111 #[.val (.int p1), .val (.long q2), .second, .val (.int p3), .val (.int p4), .val (.int p6), .val (.int p7), .val (.long (0 : Int64)), .second, .val (.int n), .val (.ref key), .val (.ref chs), .val (.ref str), .val (.ref bod), .val (.ref pub), .unset] [(.long (0 : Int64))])) _
        refine XS.lconst X126.here hx rfl (hb hby at_111) ?_
        show Steps p.tables e below (T126.setTop (mkF m 112 #[.val (.int p1), .val (.long q2), .second, .val (.int p3), .val (.int p4), .val (.int p6), .val (.int p7), .val (.long (0 : Int64)), .second, .val (.int n), .val (.ref key), .val (.ref chs), .val (.ref str), .val (.ref bod), .val (.ref pub), .unset] [(.long (0 : Int64)), (.long (0 : Int64))])) _
        refine XS.lcmp X126.here hx rfl (hb hby at_112) rfl ?_
        show Steps p.tables e below (T126.setTop (mkF m 113 #[.val (.int p1), .val (.long q2), .second, .val (.int p3), .val (.int p4), .val (.int p6), .val (.int p7), .val (.long (0 : Int64)), .second, .val (.int n), .val (.ref key), .val (.ref chs), .val (.ref str), .val (.ref bod), .val (.ref pub), .unset] [(.int (lcmpW (0 : Int64) (0 : Int64)))])) _
        refine XS.ifNo X126.here hx rfl (hb hby at_113) rfl ((if0 _ _).trans (teq (by decide : (lcmpW (0 : Int64) (0 : Int64)) = (0 : Int32))).2) ?_
        show Steps p.tables e below (T126.setTop (mkF m 116 #[.val (.int p1), .val (.long q2), .second, .val (.int p3), .val (.int p4), .val (.int p6), .val (.int p7), .val (.long (0 : Int64)), .second, .val (.int n), .val (.ref key), .val (.ref chs), .val (.ref str), .val (.ref bod), .val (.ref pub), .unset] [])) _
        refine XS.iconst X126.here hx rfl (hb hby at_116) ?_
        show Steps p.tables e below (T126.setTop (mkF m 117 #[.val (.int p1), .val (.long q2), .second, .val (.int p3), .val (.int p4), .val (.int p6), .val (.int p7), .val (.long (0 : Int64)), .second, .val (.int n), .val (.ref key), .val (.ref chs), .val (.ref str), .val (.ref bod), .val (.ref pub), .unset] [(.int (2 : Int32))])) _
        refine XS.istore X126.here hx rfl (hb hby at_117) rfl (l' := #[.val (.int p1), .val (.long q2), .second, .val (.int p3), .val (.int p4), .val (.int p6), .val (.int p7), .val (.long (0 : Int64)), .second, .val (.int n), .val (.ref key), .val (.ref chs), .val (.ref str), .val (.ref bod), .val (.ref pub), .val (.int (2 : Int32))]) rfl ?_
        show Steps p.tables e below (T126.setTop (mkF m 119 #[.val (.int p1), .val (.long q2), .second, .val (.int p3), .val (.int p4), .val (.int p6), .val (.int p7), .val (.long (0 : Int64)), .second, .val (.int n), .val (.ref key), .val (.ref chs), .val (.ref str), .val (.ref bod), .val (.ref pub), .val (.int (2 : Int32))] [])) _
        refine XS.goto X126.here hx rfl (pc0 := 119) (pc' := 126) rfl (hb hby at_119) (by decide) (by decide) ?_
        show Steps p.tables e below (T126.setTop (mkF m 126 #[.val (.int p1), .val (.long q2), .second, .val (.int p3), .val (.int p4), .val (.int p6), .val (.int p7), .val (.long (0 : Int64)), .second, .val (.int n), .val (.ref key), .val (.ref chs), .val (.ref str), .val (.ref bod), .val (.ref pub), .val (.int (2 : Int32))] [])) _
        refine XS.aload X126.here hx rfl (hb hby at_126) rfl rfl ?_
        show Steps p.tables e below (T126.setTop (mkF m 128 #[.val (.int p1), .val (.long q2), .second, .val (.int p3), .val (.int p4), .val (.int p6), .val (.int p7), .val (.long (0 : Int64)), .second, .val (.int n), .val (.ref key), .val (.ref chs), .val (.ref str), .val (.ref bod), .val (.ref pub), .val (.int (2 : Int32))] [(.ref pub)])) _
        exact hgo
      obtain ⟨cq129, kq129, q129a, q129b, q129c⟩ := isOf hZ rfl E_pub
      obtain ⟨_, _, ⟨T129, L129, k129, n129⟩, -, X129, ⟨Lc129, hQ129, l129, y129, z129⟩, st129⟩ := X126.virtualBack hx (y := (⟨"com/example/loglane/loglane/wire/Frame$Publish", "type", "()I"⟩ : MethodName)) (z := (⟨"com/example/loglane/loglane/wire/Frame$Publish", "type", "()I"⟩ : MethodName)) hown (mvT hZ (hw _ (List.mem_of_getElem? (i := 62) rfl))) (mvT hZ (hw _ (List.mem_of_getElem? (i := 63) rfl))) (notFace_of_selects (args := #[]) (mvT hZ (hw _ (List.mem_of_getElem? (i := 65) rfl)))) (mvT hZ (hw _ (List.mem_of_getElem? (i := 65) rfl))) (mvT hZ (hw _ (List.mem_of_getElem? (i := 64) rfl))) (by decide) (backOf (W := 0) (rm_typ l Z a0 hw [] pub key (0 : Int64) _ n _ (2 : Int32) T126.heap n0 hZn F_k F_d V_key (by unfold own_type; rw [if_neg hc30_75, if_pos (by decide)])) hZ (hw _ (List.mem_of_getElem? (i := 66) rfl)) (hw _ (List.mem_of_getElem? (i := 33) rfl)) (by decide) (by decide)) q129a q129c (g := (mkF m 128 #[.val (.int p1), .val (.long q2), .second, .val (.int p3), .val (.int p4), .val (.int p6), .val (.int p7), .val (.long (0 : Int64)), .second, .val (.int n), .val (.ref key), .val (.ref chs), .val (.ref str), .val (.ref bod), .val (.ref pub), .val (.int (2 : Int32))] [(.ref pub)])) rfl (by rw [hml]; rfl) (Steps.refl _) (argsL := []) (rest := []) (lenOf pd_5 rfl) rfl (by show 2 * 0 + _ ≤ _; exact Nat.le_of_eq rfl) (hb hby at_128) (fun _ _ => ⟨rfl, rfl, (by decide : 6 + 0 ≤ _), (by decide : 15 + 0 ≤ _)⟩)
      dsimp only [Pt.U, Pt.locs, Pt.cells, Pt.slots] at X129 l129 y129 z129 st129 hQ129
      subst l129 y129 z129
      obtain ⟨rfl, N129q, e129⟩ := hQ129
      have N129 := Fr.app N126 N129q
      have R130 : ∀ tgt, Steps p.tables e below (T129.setTop (mkF m 131 #[.val (.int p1), .val (.long q2), .second, .val (.int p3), .val (.int p4), .val (.int p6), .val (.int p7), .val (.long (0 : Int64)), .second, .val (.int n), .val (.ref key), .val (.ref chs), .val (.ref str), .val (.ref bod), .val (.ref pub), .val (.int (2 : Int32))] [(.int (2 : Int32))])) tgt → Steps p.tables e below A0 tgt := fun tgt hgo => R128 tgt (st129.trans hgo)
      have R131 : ∀ tgt, Steps p.tables e below (T129.setTop (mkF m 141 #[.val (.int p1), .val (.long q2), .second, .val (.int p3), .val (.int p4), .val (.int p6), .val (.int p7), .val (.long (0 : Int64)), .second, .val (.int n), .val (.ref key), .val (.ref chs), .val (.ref str), .val (.ref bod), .val (.ref pub), .val (.int (2 : Int32))] [(.int (1 : Int32))])) tgt → Steps p.tables e below A0 tgt := by
        intro tgt hgo
        refine R130 tgt ?_
        show Steps p.tables e below (T129.setTop (mkF m 131 #[.val (.int p1), .val (.long q2), .second, .val (.int p3), .val (.int p4), .val (.int p6), .val (.int p7), .val (.long (0 : Int64)), .second, .val (.int n), .val (.ref key), .val (.ref chs), .val (.ref str), .val (.ref bod), .val (.ref pub), .val (.int (2 : Int32))] [(.int (2 : Int32))])) _
        refine XS.iload X129.here hx rfl (hb hby at_131) rfl ?_
        show Steps p.tables e below (T129.setTop (mkF m 133 #[.val (.int p1), .val (.long q2), .second, .val (.int p3), .val (.int p4), .val (.int p6), .val (.int p7), .val (.long (0 : Int64)), .second, .val (.int n), .val (.ref key), .val (.ref chs), .val (.ref str), .val (.ref bod), .val (.ref pub), .val (.int (2 : Int32))] [(.int (2 : Int32)), (.int (2 : Int32))])) _
        refine XS.icmpNo X129.here hx rfl (hb hby at_133) rfl (teq (by decide : (2 : Int32) = (2 : Int32))).2 ?_
        show Steps p.tables e below (T129.setTop (mkF m 136 #[.val (.int p1), .val (.long q2), .second, .val (.int p3), .val (.int p4), .val (.int p6), .val (.int p7), .val (.long (0 : Int64)), .second, .val (.int n), .val (.ref key), .val (.ref chs), .val (.ref str), .val (.ref bod), .val (.ref pub), .val (.int (2 : Int32))] [])) _
        refine XS.iconst X129.here hx rfl (hb hby at_136) ?_
        show Steps p.tables e below (T129.setTop (mkF m 137 #[.val (.int p1), .val (.long q2), .second, .val (.int p3), .val (.int p4), .val (.int p6), .val (.int p7), .val (.long (0 : Int64)), .second, .val (.int n), .val (.ref key), .val (.ref chs), .val (.ref str), .val (.ref bod), .val (.ref pub), .val (.int (2 : Int32))] [(.int (1 : Int32))])) _
        refine XS.goto X129.here hx rfl (pc0 := 137) (pc' := 141) rfl (hb hby at_137) (by decide) (by decide) ?_
        show Steps p.tables e below (T129.setTop (mkF m 141 #[.val (.int p1), .val (.long q2), .second, .val (.int p3), .val (.int p4), .val (.int p6), .val (.int p7), .val (.long (0 : Int64)), .second, .val (.int n), .val (.ref key), .val (.ref chs), .val (.ref str), .val (.ref bod), .val (.ref pub), .val (.int (2 : Int32))] [(.int (1 : Int32))])) _
        exact hgo
      subst hA0
      obtain ⟨fs, hr, hrun, hended, hW, hsame⟩ := X129.leave (v := some (.int (1 : Int32))) (fun h => by rw [Bd.returns] at h; cases h)
      refine ⟨_, _, R131 _ ?_, hrun, hended, _, _, rfl, ?_, ⟨_, rfl⟩, hW, hsame.mono (by decide) (by decide)⟩
      · show Steps p.tables e below (T129.setTop (mkF m 141 #[.val (.int p1), .val (.long q2), .second, .val (.int p3), .val (.int p4), .val (.int p6), .val (.int p7), .val (.long (0 : Int64)), .second, .val (.int n), .val (.ref key), .val (.ref chs), .val (.ref str), .val (.ref bod), .val (.ref pub), .val (.int (2 : Int32))] [(.int (1 : Int32))])) _
        exact retN X129 hx (t := .boolean) Bd.returns (by simp) (hb hby at_141) hr
      · show Q0 n0 _ T129.heap _
        rw [e129]
        exact ⟨rfl, N129⟩
set_option maxRecDepth 65536 in
set_option maxHeartbeats 40000000 in
theorem comes_1 {Post : Tables → Env → Array Value → State → Outcome → State → Prop} (hpost : ∀ tb e args s v u, (limb_1_1.after args s (.returned v) u = true ∧ limb_1_2.after args s (.returned v) u = true ∧ True) → FrameEnd s (.returned v) u (Jvm.fieldLocs frame_1_writes args s ++ Jvm.arrayLocs frame_1_arrays args s ++ Jvm.staticLocs frame_1_statics s) 24 128 → Post tb e args s (.returned v) u) :
    ArmFor flags0 classFile x code maxLocals ret World_1 tables_1 room_1 Calls_1 rest_1 Pre_1 Post := by
  intro l hfl _ _ p e ha hc hk s m args below hf hA hF happ hP
  obtain ⟨hcalls, hrest, hpre⟩ := hP
  obtain ⟨-, -, -, hnamed, -, -, -, hat⟩ := (Spec.applies_iff hf).mp happ
  obtain ⟨hg, hn⟩ := and_e (Cond.before_iff.mp (show (Jvm.Cond.and given_1 narrow_1).before args s = true from hpre))
  obtain ⟨hg0, hg⟩ := and_e hg
  obtain ⟨hg1, hg⟩ := and_e hg
  obtain ⟨hg2, hg⟩ := and_e hg
  obtain ⟨hg3, hg⟩ := and_e hg
  obtain ⟨hg4, hg⟩ := and_e hg
  obtain ⟨hg5, hg⟩ := and_e hg
  have hg6 := hg
  obtain ⟨w0, w1, w2, w3, w4, w5, rfl⟩ : ∃ w0 w1 w2 w3 w4 w5 : Value, args = #[w0, w1, w2, w3, w4, w5] := by
    have hs : args.size = 6 := by simpa [Cond.value, given_1] using hg0
    obtain ⟨L⟩ := args
    match L, hs with
    | [w0, w1, w2, w3, w4, w5], _ => exact ⟨w0, w1, w2, w3, w4, w5, rfl⟩
  have hw := fun d (hd : d ∈ tables_1) => atoms_spec (ws := Jvm.Cond.code x code maxLocals ret :: tables_1) hat d (List.mem_cons_of_mem _ hd)
  have hfit : Fit s := fun {y c} hc i hi => by
    obtain ⟨ha, rfl⟩ := Array.getElem?_eq_some_iff.mp hc
    have q := List.all_eq_true.mp ((Array.all_eq_true_iff_forall_mem.mp hF) _ (Array.getElem_mem ha)) i (List.mem_range.mpr hi)
    simpa [Array.getElem?_eq_getElem hi] using q
  obtain ⟨hsets, hown0⟩ := atoms_of _ (rest_1_c_eq ▸ (show rest_1_c.before _ s = true from hrest))
  have hr0 := Cond.before_iff.mp hown0
  obtain ⟨i0, ei0⟩ := is_v hg1
  obtain rfl : w0 = (.int i0) := Option.some.inj ei0
  obtain ⟨i1, ei1⟩ := isL_v hg2
  obtain rfl : w1 = (.long i1) := Option.some.inj ei1
  obtain ⟨i2, ei2⟩ := is_v hg3
  obtain rfl : w2 = (.int i2) := Option.some.inj ei2
  obtain ⟨i3, ei3⟩ := is_v hg4
  obtain rfl : w3 = (.int i3) := Option.some.inj ei3
  obtain ⟨i4, ei4⟩ := is_v hg5
  obtain rfl : w4 = (.int i4) := Option.some.inj ei4
  obtain ⟨i5, ei5⟩ := is_v hg6
  obtain rfl : w5 = (.int i5) := Option.some.inj ei5
  have n3 := not_v (Cond.before_iff.mp (hsets _ (List.mem_of_getElem? (i := 2) rfl)))
  obtain ⟨i7, e6⟩ := is_v (Cond.before_iff.mp (hsets _ (List.mem_of_getElem? (i := 1) rfl)))
  have S8 : Sta s s.heap "java/lang/String" "COMPACT_STRINGS" "Z" (.int i7) := Sta.start e6 (Or.inl (hsets _ (List.mem_of_getElem? (i := 0) rfl)))
  have c9 : ¬ (i7 = (0 : Int32)) := gotF (Cond.eq_ints e6 (Term.int_eval (0))) n3
  obtain ⟨n, o, h1, h2, h3, _, L, rfl, ⟨rfl, N⟩, hq⟩ := rm_law l s _ hw tables_1 i0 i1 i2 i3 i4 i5 i7 s.heap s.heap.size (Nat.le_refl _) (Old.start s) S8 c9 p e ha hc hk s m _ below hf ((Spec.applies_iff_loose hf).mp happ).1 ⟨rfl, State.Warmed39.refl s, rfl⟩ trivial
  refine ⟨n, _, h1, h2, h3, hpost _ _ _ _ _ _ ⟨Cond.after_iff.mpr rfl, Cond.after_iff.mpr (eq_i res_at (Term.int_eval (1)) rfl), trivial⟩ ⟨hq.1, hq.2.1, (hq.2.2.sift fun y hy => Or.inr (N y hy)).mono (by decide) (by decide)⟩⟩
theorem main_1_1 : Claimed_1_1 := comes_1 fun _ _ _ _ _ _ h hF => ⟨h.1, hF⟩
theorem main_1_2 : Claimed_1_2 := comes_1 fun _ _ _ _ _ _ h hF => ⟨h.2.1, hF⟩
end Jvm.Pilot.@@N@@
namespace Jvm.Pilot.@@N@@
open Jvm Jvm.ClassFile Sem Op Lib Jvm.Free Jvm.Stand Jvm.Pilot.@@N@@.Jvm.D
/-! MADE BY PROGRAM (witnessworld.py) out of the Statement's table words and the real class files: 25 classes; the members and pool entries that the words name. The judged class is class 1, her method 1. -/
namespace start1
open Jvm.ClassFile
def u (s : String) : CpInfo := .utf8 (stringToUtf16 s)
/-- a pool by its gaps: so many unusable entries, then the entry; so many at the end -/
def gap : Nat → List CpInfo → List CpInfo
  | 0, r => r
  | n + 1, r => .unusable :: gap n r
def poolList (es : List (Nat × CpInfo)) (last : Nat) : List CpInfo := es.foldr (fun e r => gap e.1 (e.2 :: r)) (gap last [])
def pool (es : List (Nat × CpInfo)) (last : Nat) : Array CpInfo := ⟨poolList es last⟩
def fileOf (pool : Array CpInfo) (this : Nat) (attrs : Array Attribute := #[]) (ms : Array MethodInfo := #[]) (fl : Nat := 33) (sup : Nat := 0) (ifs : Array Nat := #[]) (fds : Array FieldInfo := #[]) : ClassFile where
  minorVersion := 0
  majorVersion := 65
  constantPool := pool
  accessFlags := fl
  thisClass := this
  superClass := sup
  interfaces := ifs
  fields := fds
  methods := ms
  attributes := attrs
def plain (name : String) (sup : Option ClassId) : Class where
  name := name
  kind := .ordinary
  loader := none
  accessFlags := 33
  super := sup
  interfaces := #[]
  cf := none
  fields := #[]
  methods := #[]
  instanceTypes := #[]
  staticTypes := #[]
  resolved := #[]
  callSites := []
  init := .initialized
  statics := none
  mirror := none

def pool0 : Array CpInfo := pool [(5, u "<init>"), (0, u "()V"), (1, .class_ 10), (1, u "java/lang/Object")] 113

def k0c0 : Code := { maxStack := 0, maxLocals := 1, code := object_method_1_code, exceptionTable := #[], attributes := #[] }
def k0m0 : Method := { name := "<init>", desc := "()V", sig := { parameters := [], returnType := none }, accessFlags := 1, code := some k0c0 }
/-- java/lang/Object -/
def k0 : Class := { plain "java/lang/Object" none with
  accessFlags := 33
  interfaces := #[]
  cf := some (fileOf pool0 8 #[] #[{ accessFlags := 1, nameIndex := 5, descriptorIndex := 6, attributes := #[] }] 33 0 #[] #[])
  fields := #[]
  methods := #[k0m0]
  instanceTypes := #[]
  staticTypes := #[]
  resolved := Array.replicate 124 none
  statics := none }

def pool1 : Array CpInfo := pool [(2, .class_ 4), (1, u "java/lang/Object"), (0, u "<init>"), (0, u "()V"), (0, .long 4294967295), (1, .class_ 10), (0, u "java/lang/String"), (0, .methodref 9 12), (0, .nameAndType 5 13), (0, u "([C)V"), (0, .class_ 15), (0, u "com/example/loglane/loglane/wire/Frame$Publish"), (0, .methodref 14 17), (0, .nameAndType 5 18), (0, u "(ILjava/lang/String;J[B[B)V"), (0, .methodref 14 20), (0, .nameAndType 21 22), (0, u "type"), (0, u "()I"), (0, .class_ 24), (0, u "com/example/loglane/loglane/wire/PublishTypePinLaw"), (2, u "law"), (0, u "(IJIIII)Z")] 11

def k1m0 : Method := { name := "<init>", desc := "()V", sig := { parameters := [], returnType := none }, accessFlags := 1, code := none }
def k1c1 : Code := { maxStack := 8, maxLocals := 16, code := code, exceptionTable := #[], attributes := #[] }
def k1m1 : Method := { name := "law", desc := "(IJIIII)Z", sig := { parameters := [.int, .long, .int, .int, .int, .int], returnType := some .boolean }, accessFlags := 9, code := some k1c1 }
/-- com/example/loglane/loglane/wire/PublishTypePinLaw -/
def k1 : Class := { plain "com/example/loglane/loglane/wire/PublishTypePinLaw" (some 0) with
  accessFlags := 49
  interfaces := #[]
  cf := some (fileOf pool1 23 #[] #[{ accessFlags := 1, nameIndex := 5, descriptorIndex := 6, attributes := #[] }, { accessFlags := 9, nameIndex := 27, descriptorIndex := 28, attributes := #[] }] 49 2 #[] #[])
  fields := #[]
  methods := #[k1m0, k1m1]
  instanceTypes := #[]
  staticTypes := #[]
  resolved := Array.replicate 40 none
  statics := none }

def pool2 : Array CpInfo := pool [(1, .class_ 2), (0, u "java/io/Serializable"), (0, .class_ 4), (0, u "java/lang/Object")] 2

/-- java/io/Serializable -/
def k2 : Class := { plain "java/io/Serializable" (some 0) with
  accessFlags := 1537
  interfaces := #[]
  cf := some (fileOf pool2 1 #[] #[] 1537 3 #[] #[])
  fields := #[]
  methods := #[]
  instanceTypes := #[]
  staticTypes := #[]
  resolved := Array.replicate 7 none
  statics := none }

def pool3 : Array CpInfo := pool [(1, .class_ 2), (0, u "java/lang/Comparable"), (0, .class_ 4), (0, u "java/lang/Object")] 7

/-- java/lang/Comparable -/
def k3 : Class := { plain "java/lang/Comparable" (some 0) with
  accessFlags := 1537
  interfaces := #[]
  cf := some (fileOf pool3 1 #[] #[] 1537 3 #[] #[])
  fields := #[]
  methods := #[]
  instanceTypes := #[]
  staticTypes := #[]
  resolved := Array.replicate 12 none
  statics := none }

def pool4 : Array CpInfo := pool [(2, .class_ 4), (1, u "java/lang/CharSequence"), (42, .class_ 48), (0, u "java/lang/CharSequence$1CodePointIterator"), (10, .class_ 60), (0, u "java/lang/CharSequence$1CharIterator"), (5, .class_ 67), (0, u "java/lang/Object")] 63

/-- java/lang/CharSequence -/
def k4 : Class := { plain "java/lang/CharSequence" (some 0) with
  accessFlags := 1537
  interfaces := #[]
  cf := some (fileOf pool4 2 #[.nestMembers #[47, 59]] #[] 1537 66 #[] #[])
  fields := #[]
  methods := #[]
  instanceTypes := #[]
  staticTypes := #[]
  resolved := Array.replicate 131 none
  statics := none }

def pool5 : Array CpInfo := pool [(1, .class_ 2), (0, u "java/lang/constant/Constable"), (0, .class_ 4), (0, u "java/lang/Object")] 6

/-- java/lang/constant/Constable -/
def k5 : Class := { plain "java/lang/constant/Constable" (some 0) with
  accessFlags := 1537
  interfaces := #[]
  cf := some (fileOf pool5 1 #[] #[] 1537 3 #[] #[])
  fields := #[]
  methods := #[]
  instanceTypes := #[]
  staticTypes := #[]
  resolved := Array.replicate 11 none
  statics := none }

def pool6 : Array CpInfo := pool [(1, .class_ 2), (0, u "java/lang/constant/ConstantDesc"), (0, .class_ 4), (0, u "java/lang/Object")] 32

/-- java/lang/constant/ConstantDesc -/
def k6 : Class := { plain "java/lang/constant/ConstantDesc" (some 0) with
  accessFlags := 1537
  interfaces := #[]
  cf := some (fileOf pool6 1 #[] #[] 1537 3 #[] #[])
  fields := #[]
  methods := #[]
  instanceTypes := #[]
  staticTypes := #[]
  resolved := Array.replicate 37 none
  statics := none }

def pool7 : Array CpInfo := pool [(1, .methodref 2 3), (0, .class_ 4), (0, .nameAndType 5 6), (0, u "java/lang/Object"), (0, u "<init>"), (0, u "()V"), (2, .fieldref 10 11), (0, .class_ 12), (0, .nameAndType 13 14), (0, u "java/lang/String"), (0, u "value"), (0, u "[B"), (0, .fieldref 10 16), (0, .nameAndType 17 18), (0, u "coder"), (0, u "B"), (2, u "hash"), (0, u "I"), (2, u "hashIsZero"), (0, u "Z"), (0, .methodref 10 28), (0, .nameAndType 5 29), (0, u "([CIILjava/lang/Void;)V"), (8, .fieldref 10 39), (0, .nameAndType 40 26), (0, u "COMPACT_STRINGS"), (1, .class_ 44), (1, u "java/lang/StringUTF16"), (0, u "compress"), (1, .methodref 42 48), (0, .nameAndType 49 50), (0, u "coderFromArrayLen"), (0, u "([BI)B"), (126, .methodref 42 178), (0, .nameAndType 45 179), (0, u "([CII)[B"), (395, .class_ 576), (0, u "java/lang/CharSequence"), (22, u "CASE_INSENSITIVE_ORDER"), (0, u "Ljava/util/Comparator;"), (409, u "([C)V"), (90, u "serialPersistentFields"), (0, u "[Ljava/io/ObjectStreamField;"), (0, .class_ 1104), (0, u "java/lang/String$CaseInsensitiveComparator"), (1, .class_ 1107), (0, u "java/io/Serializable"), (0, .class_ 1109), (0, u "java/lang/Comparable"), (0, .class_ 1111), (0, u "java/lang/constant/Constable"), (0, .class_ 1113), (0, u "java/lang/constant/ConstantDesc"), (2, u "serialVersionUID"), (0, u "J"), (3, u "REPL"), (0, u "C"), (2, u "LATIN1"), (1, u "UTF16")] 323

def k7m0 : Method := { name := "<init>", desc := "()V", sig := { parameters := [], returnType := none }, accessFlags := 1, code := none }
def k7c1 : Code := { maxStack := 5, maxLocals := 2, code := jdk_42_method_3_code, exceptionTable := #[], attributes := #[] }
def k7m1 : Method := { name := "<init>", desc := "([C)V", sig := { parameters := [(.array .char)], returnType := none }, accessFlags := 1, code := some k7c1 }
def k7c2 : Code := { maxStack := 4, maxLocals := 6, code := jdk_42_method_149_code, exceptionTable := #[], attributes := #[] }
def k7m2 : Method := { name := "<init>", desc := "([CIILjava/lang/Void;)V", sig := { parameters := [(.array .char), .int, .int, (.object "java/lang/Void")], returnType := none }, accessFlags := 2, code := some k7c2 }
/-- java/lang/String -/
def k7 : Class := { plain "java/lang/String" (some 0) with
  accessFlags := 49
  interfaces := #[2, 3, 4, 5, 6]
  cf := some (fileOf pool7 10 #[.nestMembers #[1103]] #[{ accessFlags := 1, nameIndex := 5, descriptorIndex := 6, attributes := #[] }, { accessFlags := 1, nameIndex := 5, descriptorIndex := 1010, attributes := #[] }, { accessFlags := 2, nameIndex := 5, descriptorIndex := 29, attributes := #[] }] 49 2 #[1106, 1108, 575, 1110, 1112] #[{ accessFlags := 18, nameIndex := 13, descriptorIndex := 14, attributes := #[] }, { accessFlags := 18, nameIndex := 17, descriptorIndex := 18, attributes := #[] }, { accessFlags := 2, nameIndex := 21, descriptorIndex := 22, attributes := #[] }, { accessFlags := 2, nameIndex := 25, descriptorIndex := 26, attributes := #[] }, { accessFlags := 26, nameIndex := 1116, descriptorIndex := 1117, attributes := #[] }, { accessFlags := 24, nameIndex := 40, descriptorIndex := 26, attributes := #[] }, { accessFlags := 26, nameIndex := 1101, descriptorIndex := 1102, attributes := #[] }, { accessFlags := 26, nameIndex := 1121, descriptorIndex := 1122, attributes := #[] }, { accessFlags := 25, nameIndex := 599, descriptorIndex := 600, attributes := #[] }, { accessFlags := 24, nameIndex := 1125, descriptorIndex := 18, attributes := #[] }, { accessFlags := 24, nameIndex := 1127, descriptorIndex := 18, attributes := #[] }])
  fields := #[{ name := "value", type := (.array .byte), accessFlags := 18, slot := 0, constantValue := 0 }, { name := "coder", type := .byte, accessFlags := 18, slot := 1, constantValue := 0 }, { name := "hash", type := .int, accessFlags := 2, slot := 2, constantValue := 0 }, { name := "hashIsZero", type := .boolean, accessFlags := 2, slot := 3, constantValue := 0 }, { name := "serialVersionUID", type := .long, accessFlags := 26, slot := 0, constantValue := 0 }, { name := "COMPACT_STRINGS", type := .boolean, accessFlags := 24, slot := 1, constantValue := 0 }, { name := "serialPersistentFields", type := (.array (.object "java/io/ObjectStreamField")), accessFlags := 26, slot := 2, constantValue := 0 }, { name := "REPL", type := .char, accessFlags := 26, slot := 3, constantValue := 0 }, { name := "CASE_INSENSITIVE_ORDER", type := (.object "java/util/Comparator"), accessFlags := 25, slot := 4, constantValue := 0 }, { name := "LATIN1", type := .byte, accessFlags := 24, slot := 5, constantValue := 0 }, { name := "UTF16", type := .byte, accessFlags := 24, slot := 6, constantValue := 0 }]
  methods := #[k7m0, k7m1, k7m2]
  instanceTypes := #[(.array .byte), .byte, .int, .boolean]
  staticTypes := #[.long, .boolean, (.array (.object "java/io/ObjectStreamField")), .char, (.object "java/util/Comparator"), .byte, .byte]
  resolved := Array.replicate 1451 none
  statics := some 0 }

def pool8 : Array CpInfo := pool [(6, .class_ 8), (1, u "java/lang/Object"), (0, u "<init>"), (0, u "()V"), (1, .class_ 14), (1, u "java/lang/StringUTF16"), (31, u "$assertionsDisabled"), (0, u "Z"), (13, u "HI_BYTE_SHIFT"), (0, u "I"), (2, u "LO_BYTE_SHIFT"), (49, .methodref 12 116), (0, .nameAndType 117 118), (0, u "compress"), (0, u "([CI[BII)I"), (3, u "([CII)[B"), (138, u "coderFromArrayLen"), (0, u "([BI)B"), (106, .class_ 371), (1, u "java/lang/StringUTF16$LinesSpliterator"), (58, u "MAX_LENGTH"), (196, .class_ 628), (0, u "java/lang/StringUTF16$CodePointsSpliterator"), (0, .class_ 630), (0, u "java/lang/StringUTF16$CharsSpliterator")] 4

def k8m0 : Method := { name := "<init>", desc := "()V", sig := { parameters := [], returnType := none }, accessFlags := 0, code := none }
def k8c1 : Code := { maxStack := 2, maxLocals := 2, code := jdk_52_method_15_code, exceptionTable := #[], attributes := #[] }
def k8m1 : Method := { name := "coderFromArrayLen", desc := "([BI)B", sig := { parameters := [(.array .byte), .int], returnType := some .byte }, accessFlags := 8, code := some k8c1 }
def k8c2 : Code := { maxStack := 5, maxLocals := 6, code := jdk_52_method_16_code, exceptionTable := #[], attributes := #[] }
def k8m2 : Method := { name := "compress", desc := "([CII)[B", sig := { parameters := [(.array .char), .int, .int], returnType := some (.array .byte) }, accessFlags := 9, code := some k8c2 }
def k8c3 : Code := { maxStack := 3, maxLocals := 7, code := jdk_52_method_21_code, exceptionTable := #[], attributes := #[] }
def k8m3 : Method := { name := "compress", desc := "([CI[BII)I", sig := { parameters := [(.array .char), .int, (.array .byte), .int, .int], returnType := some .int }, accessFlags := 9, code := some k8c3 }
/-- java/lang/StringUTF16 -/
def k8 : Class := { plain "java/lang/StringUTF16" (some 0) with
  accessFlags := 48
  interfaces := #[]
  cf := some (fileOf pool8 12 #[.nestMembers #[627, 629, 369]] #[{ accessFlags := 0, nameIndex := 9, descriptorIndex := 10, attributes := #[] }, { accessFlags := 8, nameIndex := 261, descriptorIndex := 262, attributes := #[] }, { accessFlags := 9, nameIndex := 117, descriptorIndex := 122, attributes := #[] }, { accessFlags := 9, nameIndex := 117, descriptorIndex := 118, attributes := #[] }] 48 6 #[] #[{ accessFlags := 26, nameIndex := 61, descriptorIndex := 62, attributes := #[] }, { accessFlags := 26, nameIndex := 65, descriptorIndex := 62, attributes := #[] }, { accessFlags := 24, nameIndex := 430, descriptorIndex := 62, attributes := #[] }, { accessFlags := 4120, nameIndex := 46, descriptorIndex := 47, attributes := #[] }])
  fields := #[{ name := "HI_BYTE_SHIFT", type := .int, accessFlags := 26, slot := 0, constantValue := 0 }, { name := "LO_BYTE_SHIFT", type := .int, accessFlags := 26, slot := 1, constantValue := 0 }, { name := "MAX_LENGTH", type := .int, accessFlags := 24, slot := 2, constantValue := 0 }, { name := "$assertionsDisabled", type := .boolean, accessFlags := 4120, slot := 3, constantValue := 0 }]
  methods := #[k8m0, k8m1, k8m2, k8m3]
  instanceTypes := #[]
  staticTypes := #[.int, .int, .int, .boolean]
  resolved := Array.replicate 635 none
  statics := none }

def pool9 : Array CpInfo := pool [(1, .methodref 2 3), (0, .class_ 4), (0, .nameAndType 5 6), (0, u "java/lang/Object"), (0, u "<init>"), (0, u "()V"), (0, .class_ 8), (0, u "java/lang/Record")] 13

def k9c0 : Code := { maxStack := 1, maxLocals := 1, code := jdk_30_method_1_code, exceptionTable := #[], attributes := #[] }
def k9m0 : Method := { name := "<init>", desc := "()V", sig := { parameters := [], returnType := none }, accessFlags := 4, code := some k9c0 }
/-- java/lang/Record -/
def k9 : Class := { plain "java/lang/Record" (some 0) with
  accessFlags := 1057
  interfaces := #[]
  cf := some (fileOf pool9 7 #[] #[{ accessFlags := 4, nameIndex := 5, descriptorIndex := 6, attributes := #[] }] 1057 2 #[] #[])
  fields := #[]
  methods := #[k9m0]
  instanceTypes := #[]
  staticTypes := #[]
  resolved := Array.replicate 22 none
  statics := none }

def pool10 : Array CpInfo := pool [(1, .class_ 2), (0, u "com/example/loglane/loglane/wire/Frame"), (0, .class_ 4), (0, u "java/lang/Object"), (10, .class_ 16), (0, u "com/example/loglane/loglane/wire/Frame$Replicated"), (0, .class_ 18), (0, u "com/example/loglane/loglane/wire/Frame$ReplicaEnd"), (0, .class_ 20), (0, u "com/example/loglane/loglane/wire/Frame$ReplicaTimes"), (0, .class_ 22), (0, u "com/example/loglane/loglane/wire/Frame$WrittenRun"), (0, .class_ 24), (0, u "com/example/loglane/loglane/wire/Frame$ReplicaLost"), (0, .class_ 26), (0, u "com/example/loglane/loglane/wire/Frame$LostRun"), (0, .class_ 28), (0, u "com/example/loglane/loglane/wire/Frame$ReplicaTopics"), (0, .class_ 30), (0, u "com/example/loglane/loglane/wire/Frame$HeldTopic"), (0, .class_ 32), (0, u "com/example/loglane/loglane/wire/Frame$ReplicaTerms"), (0, .class_ 34), (0, u "com/example/loglane/loglane/wire/Frame$TermStart"), (0, .class_ 36), (0, u "com/example/loglane/loglane/wire/Frame$ReplicaRecords"), (0, .class_ 38), (0, u "com/example/loglane/loglane/wire/Frame$Replicating"), (0, .class_ 40), (0, u "com/example/loglane/loglane/wire/Frame$Voted"), (0, .class_ 42), (0, u "com/example/loglane/loglane/wire/Frame$Vote"), (0, .class_ 44), (0, u "com/example/loglane/loglane/wire/Frame$Heartbeat"), (0, .class_ 46), (0, u "com/example/loglane/loglane/wire/Frame$ReplicateInSync"), (0, .class_ 48), (0, u "com/example/loglane/loglane/wire/Frame$Follow"), (0, .class_ 50), (0, u "com/example/loglane/loglane/wire/Frame$ReplicateCursor"), (0, .class_ 52), (0, u "com/example/loglane/loglane/wire/Frame$CursorPart"), (0, .class_ 54), (0, u "com/example/loglane/loglane/wire/Frame$ReplicateSecret"), (0, .class_ 56), (0, u "com/example/loglane/loglane/wire/Frame$ReplicateProducers"), (0, .class_ 58), (0, u "com/example/loglane/loglane/wire/Frame$ReplicateDrop"), (0, .class_ 60), (0, u "com/example/loglane/loglane/wire/Frame$ReadTopics"), (0, .class_ 62), (0, u "com/example/loglane/loglane/wire/Frame$ReplicateCut"), (0, .class_ 64), (0, u "com/example/loglane/loglane/wire/Frame$ReplicateTerm"), (0, .class_ 66), (0, u "com/example/loglane/loglane/wire/Frame$ReadTerms"), (0, .class_ 68), (0, u "com/example/loglane/loglane/wire/Frame$ReplicateRestore"), (0, .class_ 70), (0, u "com/example/loglane/loglane/wire/Frame$ReadTimes"), (0, .class_ 72), (0, u "com/example/loglane/loglane/wire/Frame$ReadLost"), (0, .class_ 74), (0, u "com/example/loglane/loglane/wire/Frame$ReplicaRead"), (0, .class_ 76), (0, u "com/example/loglane/loglane/wire/Frame$ReplicateLost"), (0, .class_ 78), (0, u "com/example/loglane/loglane/wire/Frame$ReplicateRecords"), (0, .class_ 80), (0, u "com/example/loglane/loglane/wire/Frame$LogRecord"), (0, .class_ 82), (0, u "com/example/loglane/loglane/wire/Frame$ReplicateTopic"), (0, .class_ 84), (0, u "com/example/loglane/loglane/wire/Frame$Replicate"), (0, .class_ 86), (0, u "com/example/loglane/loglane/wire/Frame$Refused"), (0, .class_ 88), (0, u "com/example/loglane/loglane/wire/Frame$Requeued"), (0, .class_ 90), (0, u "com/example/loglane/loglane/wire/Frame$Acked"), (0, .class_ 92), (0, u "com/example/loglane/loglane/wire/Frame$Delivery"), (0, .class_ 94), (0, u "com/example/loglane/loglane/wire/Frame$HalfAnswered"), (0, .class_ 96), (0, u "com/example/loglane/loglane/wire/Frame$HalfPublished"), (0, .class_ 98), (0, u "com/example/loglane/loglane/wire/Frame$HalfUnknown"), (0, .class_ 100), (0, u "com/example/loglane/loglane/wire/Frame$CheckHalf"), (0, .class_ 102), (0, u "com/example/loglane/loglane/wire/Frame$CheckHalves"), (0, .class_ 104), (0, u "com/example/loglane/loglane/wire/Frame$EndHalf"), (0, .class_ 106), (0, u "com/example/loglane/loglane/wire/Frame$SequencedPublishHalf"), (0, .class_ 108), (0, u "com/example/loglane/loglane/wire/Frame$PublishHalf"), (0, .class_ 110), (0, u "com/example/loglane/loglane/wire/Frame$GroupPlace"), (0, .class_ 112), (0, u "com/example/loglane/loglane/wire/Frame$GroupReset"), (0, .class_ 114), (0, u "com/example/loglane/loglane/wire/Frame$ResetGroup"), (0, .class_ 116), (0, u "com/example/loglane/loglane/wire/Frame$ResetGroup$Target"), (0, .class_ 118), (0, u "com/example/loglane/loglane/wire/Frame$ResetGroup$To"), (0, .class_ 120), (0, u "com/example/loglane/loglane/wire/Frame$Created"), (0, .class_ 122), (0, u "com/example/loglane/loglane/wire/Frame$AwaitingTopic"), (0, .class_ 124), (0, u "com/example/loglane/loglane/wire/Frame$Subscribed"), (0, .class_ 126), (0, u "com/example/loglane/loglane/wire/Frame$Opened"), (0, .class_ 128), (0, u "com/example/loglane/loglane/wire/Frame$ProducerToken"), (0, .class_ 130), (0, u "com/example/loglane/loglane/wire/Frame$ProducerId"), (0, .class_ 132), (0, u "com/example/loglane/loglane/wire/Frame$Duplicate"), (0, .class_ 134), (0, u "com/example/loglane/loglane/wire/Frame$Published"), (0, .class_ 136), (0, u "com/example/loglane/loglane/wire/Frame$Welcome"), (0, .class_ 138), (0, u "com/example/loglane/loglane/wire/Frame$Requeue"), (0, .class_ 140), (0, u "com/example/loglane/loglane/wire/Frame$Ack"), (0, .class_ 142), (0, u "com/example/loglane/loglane/wire/Frame$CreateTopic"), (0, .class_ 144), (0, u "com/example/loglane/loglane/wire/Frame$Subscribe"), (0, .class_ 146), (0, u "com/example/loglane/loglane/wire/Frame$SequencedPublish"), (0, .class_ 148), (0, u "com/example/loglane/loglane/wire/Frame$OpenTopic"), (0, .class_ 150), (0, u "com/example/loglane/loglane/wire/Frame$ResumeProducer"), (0, .class_ 152), (0, u "com/example/loglane/loglane/wire/Frame$NewProducer"), (0, .class_ 154), (0, u "com/example/loglane/loglane/wire/Frame$Publish"), (0, .class_ 156), (0, u "com/example/loglane/loglane/wire/Frame$Hello"), (0, .class_ 158), (0, u "com/example/loglane/loglane/wire/Frame$Copy"), (0, .class_ 160), (0, u "com/example/loglane/loglane/wire/Frame$Subscribing"), (0, .class_ 162), (0, u "com/example/loglane/loglane/wire/Frame$Written"), (0, .class_ 164), (0, u "com/example/loglane/loglane/wire/Frame$Answer"), (0, .class_ 166), (0, u "com/example/loglane/loglane/wire/Frame$Publishing"), (0, .class_ 168), (0, u "com/example/loglane/loglane/wire/Frame$Request")] 79

/-- com/example/loglane/loglane/wire/Frame -/
def k10 : Class := { plain "com/example/loglane/loglane/wire/Frame" (some 0) with
  accessFlags := 1537
  interfaces := #[]
  cf := some (fileOf pool10 1 #[.nestMembers #[15, 17, 19, 21, 23, 25, 27, 29, 31, 33, 35, 37, 39, 41, 43, 45, 47, 49, 51, 53, 55, 57, 59, 61, 63, 65, 67, 69, 71, 73, 75, 77, 79, 81, 83, 85, 87, 89, 91, 93, 95, 97, 99, 101, 103, 105, 107, 109, 111, 113, 115, 117, 119, 121, 123, 125, 127, 129, 131, 133, 135, 137, 139, 141, 143, 145, 147, 149, 151, 153, 155, 157, 159, 161, 163, 165, 167]] #[] 1537 3 #[] #[])
  fields := #[]
  methods := #[]
  instanceTypes := #[]
  staticTypes := #[]
  resolved := Array.replicate 248 none
  statics := none }

def pool11 : Array CpInfo := pool [(1, .class_ 2), (0, u "com/example/loglane/loglane/wire/Frame$Request"), (0, .class_ 4), (0, u "java/lang/Object"), (0, .class_ 6), (0, u "com/example/loglane/loglane/wire/Frame")] 56

/-- com/example/loglane/loglane/wire/Frame$Request -/
def k11 : Class := { plain "com/example/loglane/loglane/wire/Frame$Request" (some 0) with
  accessFlags := 1537
  interfaces := #[10]
  cf := some (fileOf pool11 1 #[.nestHost 5] #[] 1537 3 #[5] #[])
  fields := #[]
  methods := #[]
  instanceTypes := #[]
  staticTypes := #[]
  resolved := Array.replicate 63 none
  statics := none }

def pool12 : Array CpInfo := pool [(1, .class_ 2), (0, u "com/example/loglane/loglane/wire/Frame$Publishing"), (0, .class_ 4), (0, u "java/lang/Object"), (0, .class_ 6), (0, u "com/example/loglane/loglane/wire/Frame$Request"), (9, .class_ 17), (0, u "com/example/loglane/loglane/wire/Frame")] 16

/-- com/example/loglane/loglane/wire/Frame$Publishing -/
def k12 : Class := { plain "com/example/loglane/loglane/wire/Frame$Publishing" (some 0) with
  accessFlags := 1537
  interfaces := #[11]
  cf := some (fileOf pool12 1 #[.nestHost 16] #[] 1537 3 #[5] #[])
  fields := #[]
  methods := #[]
  instanceTypes := #[]
  staticTypes := #[]
  resolved := Array.replicate 34 none
  statics := none }

def pool13 : Array CpInfo := pool [(1, .methodref 2 3), (0, .class_ 4), (0, .nameAndType 5 6), (0, u "java/lang/Record"), (0, u "<init>"), (0, u "()V"), (0, .methodref 8 9), (0, .class_ 10), (0, .nameAndType 11 12), (0, u "com/example/loglane/loglane/wire/FrameWriter"), (0, u "checkDelay"), (0, u "(J)V"), (0, .methodref 8 14), (0, .nameAndType 15 16), (0, u "checkBytes"), (0, u "([B)V"), (0, .fieldref 18 19), (0, .class_ 20), (0, .nameAndType 21 22), (0, u "com/example/loglane/loglane/wire/Frame$Publish"), (0, u "request"), (0, u "I"), (0, .fieldref 18 24), (0, .nameAndType 25 26), (0, u "topic"), (0, u "Ljava/lang/String;"), (0, .fieldref 18 28), (0, .nameAndType 29 30), (0, u "delayMillis"), (0, u "J"), (0, .fieldref 18 32), (0, .nameAndType 33 34), (0, u "key"), (0, u "[B"), (0, .fieldref 18 36), (0, .nameAndType 37 34), (0, u "body"), (7, u "(ILjava/lang/String;J[B[B)V"), (8, u "()I"), (34, u "type"), (26, .class_ 117), (0, u "com/example/loglane/loglane/wire/Frame$Publishing"), (0, u "TYPE"), (2, u "LATER_TYPE"), (1, u "KEYED_TYPE"), (29, .class_ 154), (0, u "com/example/loglane/loglane/wire/Frame")] 44

def k13c0 : Code := { maxStack := 3, maxLocals := 7, code := prog_265_method_1_code, exceptionTable := #[], attributes := #[] }
def k13m0 : Method := { name := "<init>", desc := "(ILjava/lang/String;J[B[B)V", sig := { parameters := [.int, (.object "java/lang/String"), .long, (.array .byte), (.array .byte)], returnType := none }, accessFlags := 1, code := some k13c0 }
def k13c1 : Code := { maxStack := 4, maxLocals := 1, code := prog_265_method_7_code, exceptionTable := #[], attributes := #[] }
def k13m1 : Method := { name := "type", desc := "()I", sig := { parameters := [], returnType := some .int }, accessFlags := 1, code := some k13c1 }
/-- com/example/loglane/loglane/wire/Frame$Publish -/
def k13 : Class := { plain "com/example/loglane/loglane/wire/Frame$Publish" (some 9) with
  accessFlags := 49
  interfaces := #[12]
  cf := some (fileOf pool13 18 #[.nestHost 153] #[{ accessFlags := 1, nameIndex := 5, descriptorIndex := 45, attributes := #[] }, { accessFlags := 1, nameIndex := 89, descriptorIndex := 54, attributes := #[] }] 49 2 #[116] #[{ accessFlags := 18, nameIndex := 21, descriptorIndex := 22, attributes := #[] }, { accessFlags := 18, nameIndex := 25, descriptorIndex := 26, attributes := #[] }, { accessFlags := 18, nameIndex := 29, descriptorIndex := 30, attributes := #[] }, { accessFlags := 18, nameIndex := 33, descriptorIndex := 34, attributes := #[] }, { accessFlags := 18, nameIndex := 37, descriptorIndex := 34, attributes := #[] }, { accessFlags := 25, nameIndex := 118, descriptorIndex := 22, attributes := #[] }, { accessFlags := 25, nameIndex := 121, descriptorIndex := 22, attributes := #[] }, { accessFlags := 25, nameIndex := 123, descriptorIndex := 22, attributes := #[] }])
  fields := #[{ name := "request", type := .int, accessFlags := 18, slot := 0, constantValue := 0 }, { name := "topic", type := (.object "java/lang/String"), accessFlags := 18, slot := 1, constantValue := 0 }, { name := "delayMillis", type := .long, accessFlags := 18, slot := 2, constantValue := 0 }, { name := "key", type := (.array .byte), accessFlags := 18, slot := 3, constantValue := 0 }, { name := "body", type := (.array .byte), accessFlags := 18, slot := 4, constantValue := 0 }, { name := "TYPE", type := .int, accessFlags := 25, slot := 0, constantValue := 0 }, { name := "LATER_TYPE", type := .int, accessFlags := 25, slot := 1, constantValue := 0 }, { name := "KEYED_TYPE", type := .int, accessFlags := 25, slot := 2, constantValue := 0 }]
  methods := #[k13m0, k13m1]
  instanceTypes := #[.int, (.object "java/lang/String"), .long, (.array .byte), (.array .byte)]
  staticTypes := #[.int, .int, .int]
  resolved := Array.replicate 199 none
  statics := none }

def pool14 : Array CpInfo := pool [(4, .class_ 6), (1, u "java/lang/Object"), (2, .class_ 10), (0, u "com/example/loglane/loglane/wire/FrameWriter$Encoded"), (2, .class_ 15), (1, u "com/example/loglane/loglane/wire/FrameWriter"), (0, u "encoded"), (0, u "Lcom/example/loglane/loglane/wire/FrameWriter$Encoded;"), (7, u "fields"), (0, u "Ljava/io/DataOutputStream;"), (2, u "out"), (0, u "Ljava/io/OutputStream;"), (60, .long 4294967295), (19, .integer 65535), (24, u "checkBytes"), (0, u "([B)V"), (7, u "MAX_U16"), (0, u "I"), (1, u "MAX_U32"), (0, u "J"), (0, u "KEPT_PAYLOAD_BYTES"), (1, u "HEAD_BYTES"), (12, u "checkDelay"), (0, u "(J)V")] 28

def k14c0 : Code := { maxStack := 4, maxLocals := 2, code := prog_318_method_6_code, exceptionTable := #[], attributes := #[] }
def k14m0 : Method := { name := "checkDelay", desc := "(J)V", sig := { parameters := [.long], returnType := none }, accessFlags := 8, code := some k14c0 }
def k14c1 : Code := { maxStack := 3, maxLocals := 1, code := prog_318_method_10_code, exceptionTable := #[], attributes := #[] }
def k14m1 : Method := { name := "checkBytes", desc := "([B)V", sig := { parameters := [(.array .byte)], returnType := none }, accessFlags := 8, code := some k14c1 }
/-- com/example/loglane/loglane/wire/FrameWriter -/
def k14 : Class := { plain "com/example/loglane/loglane/wire/FrameWriter" (some 0) with
  accessFlags := 49
  interfaces := #[]
  cf := some (fileOf pool14 13 #[.nestMembers #[9]] #[{ accessFlags := 8, nameIndex := 165, descriptorIndex := 166, attributes := #[] }, { accessFlags := 8, nameIndex := 136, descriptorIndex := 137, attributes := #[] }] 49 4 #[] #[{ accessFlags := 26, nameIndex := 145, descriptorIndex := 146, attributes := #[] }, { accessFlags := 26, nameIndex := 148, descriptorIndex := 149, attributes := #[] }, { accessFlags := 26, nameIndex := 150, descriptorIndex := 146, attributes := #[] }, { accessFlags := 26, nameIndex := 152, descriptorIndex := 146, attributes := #[] }, { accessFlags := 18, nameIndex := 29, descriptorIndex := 30, attributes := #[] }, { accessFlags := 2, nameIndex := 16, descriptorIndex := 17, attributes := #[] }, { accessFlags := 2, nameIndex := 25, descriptorIndex := 26, attributes := #[] }])
  fields := #[{ name := "MAX_U16", type := .int, accessFlags := 26, slot := 0, constantValue := 0 }, { name := "MAX_U32", type := .long, accessFlags := 26, slot := 1, constantValue := 0 }, { name := "KEPT_PAYLOAD_BYTES", type := .int, accessFlags := 26, slot := 2, constantValue := 0 }, { name := "HEAD_BYTES", type := .int, accessFlags := 26, slot := 3, constantValue := 0 }, { name := "out", type := (.object "java/io/OutputStream"), accessFlags := 18, slot := 0, constantValue := 0 }, { name := "encoded", type := (.object "com/example/loglane/loglane/wire/FrameWriter$Encoded"), accessFlags := 2, slot := 1, constantValue := 0 }, { name := "fields", type := (.object "java/io/DataOutputStream"), accessFlags := 2, slot := 2, constantValue := 0 }]
  methods := #[k14m0, k14m1]
  instanceTypes := #[(.object "java/io/OutputStream"), (.object "com/example/loglane/loglane/wire/FrameWriter$Encoded"), (.object "java/io/DataOutputStream")]
  staticTypes := #[.int, .long, .int, .int]
  resolved := Array.replicate 195 none
  statics := none }

def pool15 : Array CpInfo := pool [(4, .class_ 6), (1, u "java/lang/Object"), (0, u "<init>"), (0, u "()V"), (5, .class_ 16), (1, u "java/lang/StringLatin1"), (104, u "$assertionsDisabled"), (0, u "Z"), (98, .class_ 223), (1, u "java/lang/StringLatin1$LinesSpliterator"), (166, .class_ 391), (0, u "java/lang/StringLatin1$CharsSpliterator")] 3

def k15m0 : Method := { name := "<init>", desc := "()V", sig := { parameters := [], returnType := none }, accessFlags := 0, code := none }
/-- java/lang/StringLatin1 -/
def k15 : Class := { plain "java/lang/StringLatin1" (some 0) with
  accessFlags := 48
  interfaces := #[]
  cf := some (fileOf pool15 14 #[.nestMembers #[390, 221]] #[{ accessFlags := 0, nameIndex := 7, descriptorIndex := 8, attributes := #[] }] 48 4 #[] #[{ accessFlags := 4120, nameIndex := 121, descriptorIndex := 122, attributes := #[] }])
  fields := #[{ name := "$assertionsDisabled", type := .boolean, accessFlags := 4120, slot := 0, constantValue := 0 }]
  methods := #[k15m0]
  instanceTypes := #[]
  staticTypes := #[.boolean]
  resolved := Array.replicate 395 none
  statics := none }

def pool16 : Array CpInfo := pool [(2, .class_ 4), (1, u "java/lang/Object"), (0, u "<init>"), (0, u "()V"), (17, .class_ 26), (1, u "jdk/internal/util/Preconditions"), (28, .class_ 56), (0, u "jdk/internal/util/Preconditions$4"), (57, .class_ 115), (0, u "jdk/internal/util/Preconditions$1"), (7, u "SIOOBE_FORMATTER"), (0, u "Ljava/util/function/BiFunction;"), (0, .class_ 126), (0, u "jdk/internal/util/Preconditions$2"), (3, u "AIOOBE_FORMATTER"), (0, .class_ 132), (0, u "jdk/internal/util/Preconditions$3"), (3, u "IOOBE_FORMATTER")] 57

def k16m0 : Method := { name := "<init>", desc := "()V", sig := { parameters := [], returnType := none }, accessFlags := 1, code := none }
/-- jdk/internal/util/Preconditions -/
def k16 : Class := { plain "jdk/internal/util/Preconditions" (some 0) with
  accessFlags := 33
  interfaces := #[]
  cf := some (fileOf pool16 24 #[.nestMembers #[55, 131, 125, 114]] #[{ accessFlags := 1, nameIndex := 5, descriptorIndex := 6, attributes := #[] }] 33 2 #[] #[{ accessFlags := 25, nameIndex := 123, descriptorIndex := 124, attributes := #[] }, { accessFlags := 25, nameIndex := 130, descriptorIndex := 124, attributes := #[] }, { accessFlags := 25, nameIndex := 136, descriptorIndex := 124, attributes := #[] }])
  fields := #[{ name := "SIOOBE_FORMATTER", type := (.object "java/util/function/BiFunction"), accessFlags := 25, slot := 0, constantValue := 0 }, { name := "AIOOBE_FORMATTER", type := (.object "java/util/function/BiFunction"), accessFlags := 25, slot := 1, constantValue := 0 }, { name := "IOOBE_FORMATTER", type := (.object "java/util/function/BiFunction"), accessFlags := 25, slot := 2, constantValue := 0 }]
  methods := #[k16m0]
  instanceTypes := #[]
  staticTypes := #[(.object "java/util/function/BiFunction"), (.object "java/util/function/BiFunction"), (.object "java/util/function/BiFunction")]
  resolved := Array.replicate 194 none
  statics := some 1 }

def pool17 : Array CpInfo := pool [(9, u "<init>"), (6, .class_ 18), (1, u "java/lang/Object"), (0, u "()V"), (1, .class_ 23), (1, u "jdk/internal/util/ArraysSupport"), (0, u "LOG2_ARRAY_LONG_INDEX_SCALE"), (0, u "I"), (2, u "U"), (0, u "Ljdk/internal/misc/Unsafe;"), (8, u "BIG_ENDIAN"), (0, u "Z"), (8, u "LOG2_BYTE_BIT_SIZE"), (4, u "LOG2_ARRAY_INT_INDEX_SCALE"), (54, u "JLA"), (0, u "Ljdk/internal/access/JavaLangAccess;"), (11, u "LOG2_ARRAY_BOOLEAN_INDEX_SCALE"), (9, u "LOG2_ARRAY_BYTE_INDEX_SCALE"), (5, u "LOG2_ARRAY_CHAR_INDEX_SCALE"), (5, u "LOG2_ARRAY_SHORT_INDEX_SCALE"), (18, u "LOG2_ARRAY_FLOAT_INDEX_SCALE"), (24, u "LOG2_ARRAY_DOUBLE_INDEX_SCALE"), (89, u "T_BOOLEAN"), (2, u "T_CHAR"), (1, u "T_FLOAT"), (1, u "T_DOUBLE"), (1, u "T_BYTE"), (1, u "T_SHORT"), (1, u "T_INT"), (1, u "T_LONG"), (1, u "SOFT_MAX_ARRAY_LENGTH")] 83

def k17m0 : Method := { name := "<init>", desc := "()V", sig := { parameters := [], returnType := none }, accessFlags := 2, code := none }
/-- jdk/internal/util/ArraysSupport -/
def k17 : Class := { plain "jdk/internal/util/ArraysSupport" (some 0) with
  accessFlags := 33
  interfaces := #[]
  cf := some (fileOf pool17 21 #[] #[{ accessFlags := 2, nameIndex := 9, descriptorIndex := 19, attributes := #[] }] 33 16 #[] #[{ accessFlags := 24, nameIndex := 28, descriptorIndex := 29, attributes := #[] }, { accessFlags := 26, nameIndex := 38, descriptorIndex := 39, attributes := #[] }, { accessFlags := 25, nameIndex := 121, descriptorIndex := 25, attributes := #[] }, { accessFlags := 25, nameIndex := 131, descriptorIndex := 25, attributes := #[] }, { accessFlags := 25, nameIndex := 137, descriptorIndex := 25, attributes := #[] }, { accessFlags := 25, nameIndex := 143, descriptorIndex := 25, attributes := #[] }, { accessFlags := 25, nameIndex := 53, descriptorIndex := 25, attributes := #[] }, { accessFlags := 25, nameIndex := 24, descriptorIndex := 25, attributes := #[] }, { accessFlags := 25, nameIndex := 162, descriptorIndex := 25, attributes := #[] }, { accessFlags := 25, nameIndex := 187, descriptorIndex := 25, attributes := #[] }, { accessFlags := 26, nameIndex := 48, descriptorIndex := 25, attributes := #[] }, { accessFlags := 25, nameIndex := 277, descriptorIndex := 25, attributes := #[] }, { accessFlags := 25, nameIndex := 280, descriptorIndex := 25, attributes := #[] }, { accessFlags := 25, nameIndex := 282, descriptorIndex := 25, attributes := #[] }, { accessFlags := 25, nameIndex := 284, descriptorIndex := 25, attributes := #[] }, { accessFlags := 25, nameIndex := 286, descriptorIndex := 25, attributes := #[] }, { accessFlags := 25, nameIndex := 288, descriptorIndex := 25, attributes := #[] }, { accessFlags := 25, nameIndex := 290, descriptorIndex := 25, attributes := #[] }, { accessFlags := 25, nameIndex := 292, descriptorIndex := 25, attributes := #[] }, { accessFlags := 26, nameIndex := 108, descriptorIndex := 109, attributes := #[] }, { accessFlags := 25, nameIndex := 294, descriptorIndex := 25, attributes := #[] }])
  fields := #[{ name := "U", type := (.object "jdk/internal/misc/Unsafe"), accessFlags := 24, slot := 0, constantValue := 0 }, { name := "BIG_ENDIAN", type := .boolean, accessFlags := 26, slot := 1, constantValue := 0 }, { name := "LOG2_ARRAY_BOOLEAN_INDEX_SCALE", type := .int, accessFlags := 25, slot := 2, constantValue := 0 }, { name := "LOG2_ARRAY_BYTE_INDEX_SCALE", type := .int, accessFlags := 25, slot := 3, constantValue := 0 }, { name := "LOG2_ARRAY_CHAR_INDEX_SCALE", type := .int, accessFlags := 25, slot := 4, constantValue := 0 }, { name := "LOG2_ARRAY_SHORT_INDEX_SCALE", type := .int, accessFlags := 25, slot := 5, constantValue := 0 }, { name := "LOG2_ARRAY_INT_INDEX_SCALE", type := .int, accessFlags := 25, slot := 6, constantValue := 0 }, { name := "LOG2_ARRAY_LONG_INDEX_SCALE", type := .int, accessFlags := 25, slot := 7, constantValue := 0 }, { name := "LOG2_ARRAY_FLOAT_INDEX_SCALE", type := .int, accessFlags := 25, slot := 8, constantValue := 0 }, { name := "LOG2_ARRAY_DOUBLE_INDEX_SCALE", type := .int, accessFlags := 25, slot := 9, constantValue := 0 }, { name := "LOG2_BYTE_BIT_SIZE", type := .int, accessFlags := 26, slot := 10, constantValue := 0 }, { name := "T_BOOLEAN", type := .int, accessFlags := 25, slot := 11, constantValue := 0 }, { name := "T_CHAR", type := .int, accessFlags := 25, slot := 12, constantValue := 0 }, { name := "T_FLOAT", type := .int, accessFlags := 25, slot := 13, constantValue := 0 }, { name := "T_DOUBLE", type := .int, accessFlags := 25, slot := 14, constantValue := 0 }, { name := "T_BYTE", type := .int, accessFlags := 25, slot := 15, constantValue := 0 }, { name := "T_SHORT", type := .int, accessFlags := 25, slot := 16, constantValue := 0 }, { name := "T_INT", type := .int, accessFlags := 25, slot := 17, constantValue := 0 }, { name := "T_LONG", type := .int, accessFlags := 25, slot := 18, constantValue := 0 }, { name := "JLA", type := (.object "jdk/internal/access/JavaLangAccess"), accessFlags := 26, slot := 19, constantValue := 0 }, { name := "SOFT_MAX_ARRAY_LENGTH", type := .int, accessFlags := 25, slot := 20, constantValue := 0 }]
  methods := #[k17m0]
  instanceTypes := #[]
  staticTypes := #[(.object "jdk/internal/misc/Unsafe"), .boolean, .int, .int, .int, .int, .int, .int, .int, .int, .int, .int, .int, .int, .int, .int, .int, .int, .int, (.object "jdk/internal/access/JavaLangAccess"), .int]
  resolved := Array.replicate 378 none
  statics := none }

def pool18 : Array CpInfo := pool [(1, u "java/lang/Cloneable"), (0, .class_ 1), (0, u "java/lang/Object"), (0, .class_ 3)] 3

/-- java/lang/Cloneable -/
def k18 : Class := { plain "java/lang/Cloneable" (some 0) with
  accessFlags := 1537
  interfaces := #[]
  cf := some (fileOf pool18 2 #[] #[] 1537 4 #[] #[])
  fields := #[]
  methods := #[]
  instanceTypes := #[]
  staticTypes := #[]
  resolved := Array.replicate 8 none
  statics := none }

/-- the primitive byte -/
def k19 : Class := { plain "byte" none with kind := .primitive 'B', accessFlags := 0x411 }
/-- [B -/
def k20 : Class := { plain "[B" (some 0) with kind := .array 19 .byte, interfaces := #[18, 2], accessFlags := 1041 }

/-- the primitive char -/
def k21 : Class := { plain "char" none with kind := .primitive 'C', accessFlags := 0x411 }
/-- [C -/
def k22 : Class := { plain "[C" (some 0) with kind := .array 21 .char, interfaces := #[18, 2], accessFlags := 1041 }

/-- the primitive int -/
def k23 : Class := { plain "int" none with kind := .primitive 'I', accessFlags := 0x411 }
/-- [I -/
def k24 : Class := { plain "[I" (some 0) with kind := .array 23 .int, interfaces := #[18, 2], accessFlags := 1041 }

def heap : Heap := #[{ cls := 7, slots := #[.long 0, .int 1, .null, .int 0, .null, .int 0, .int 0], vm := .statics 7 },
  { cls := 16, slots := #[.null, .null, .null], vm := .statics 16 }]
def classes : Array Class := #[k0, k1, k2, k3, k4, k5, k6, k7, k8, k9, k10, k11, k12, k13, k14, k15, k16, k17, k18, k19, k20, k21, k22, k23, k24]
def interned : List (Array UInt16 × Addr) := []
def slotsUsed : Nat := 10
def theMethod : MethodId := ⟨1, 1⟩
def args0 : Array Value := #[.int 5, .long 7, .int 2, .int 9, .int 65, .int 0]
def aboutOver (below : List Frame) : State where
  vm := { classes := classes, interned := interned.toArray }
  heap := heap
  slotsUsed := slotsUsed
  threads := #[{ frames := .invoking theMethod args0 :: below }]
def below0 : List Frame := [.native { method := ⟨0, 0⟩, args := #[] }]
def about1 : State := aboutOver below0
def p0 : Program := .bare "" "" ""
def e0 : Env := launch0.env 0 0 0
theorem w_frames : about1.frames = Frame.invoking theMethod args0 :: below0 := rfl
set_option maxRecDepth 65536 in
theorem w_args : argsFit about1.vm theMethod args0 = true := by decide +kernel
set_option maxRecDepth 65536 in
theorem w_heap : heapFits about1 = true := by decide +kernel
set_option maxRecDepth 65536 in
theorem w_runnable : about1.curStatus? = some .runnable := by decide +kernel
set_option maxRecDepth 65536 in
theorem w_alone : about1.alone = true := by decide +kernel
set_option maxRecDepth 65536 in
theorem w_named : about1.methodNamed? x = some theMethod := by decide +kernel
set_option maxRecDepth 65536 in
theorem w_hears : about1.hears theMethod below0 = true := by decide +kernel
set_option maxRecDepth 65536 in
theorem w_ripe : about1.ripe theMethod args0 below0 = true := by decide +kernel
theorem w_running : about1.status = .running := rfl
set_option maxRecDepth 65536 in
theorem w_room : about1.hasRoom e0.platform room_1 = true :=
  launch0.hasRoom_least _ room_1 (by decide +kernel) (by decide +kernel) (by decide +kernel) (by decide +kernel) (by decide +kernel) (by decide +kernel)
theorem allAtoms_all (ts : List Jvm.Cond) (a : Array Jvm.Value) (st : Jvm.State) : (allAtoms ts).before a st = ts.all (fun c => c.before a st) := by
  induction ts with
  | nil => rfl
  | cons c t ih =>
    show (Jvm.Cond.and c (allAtoms t)).before a st = _
    rw [Jvm.Cond.before_and, ih, List.all_cons]
def words1 : List Jvm.Cond := Jvm.Cond.code x code maxLocals ret :: tables_1
/-- a 'code' word, met by the world's own term for the bytes: nothing is compared byte by byte -/
theorem code_word {y : MethodName} {bytes : ByteArray} {mx : Nat} {rt : Option FieldType} {a : Array Value} {s : State} {m : MethodId} {meth : Method} {c : Code} (h1 : s.methodNamed? y = some m) (h2 : s.vm.method? m = some meth) (h3 : meth.code = some c) (h4 : c.code = bytes)
    (h5 : (c.maxLocals == mx && c.exceptionTable.isEmpty && decide (c.maxStack ≤ mostOperands) && decide (meth.sig.returnType = rt) && !meth.locks && decide (parseMethodDescriptor y.desc = some meth.sig)) = true) : (Jvm.Cond.code y bytes mx rt).before a s = true := by
  simp only [Bool.and_eq_true, beq_iff_eq, Bool.not_eq_true', decide_eq_true_eq] at h5
  obtain ⟨⟨⟨⟨⟨g1, g2⟩, g3⟩, g4⟩, g5⟩, g6⟩ := h5
  simp [Cond.before, Cond.holds, Cond.value, h1, h2, h3, h4, g1, g2, g3, g4, g5, g6]
def isCode : Jvm.Cond → Bool
  | .code _ _ _ _ => true
  | _ => false
theorem all_split {L : List Jvm.Cond} {P : Jvm.Cond → Bool} (h1 : L.all (fun c => isCode c || P c) = true) (h2 : ∀ c ∈ L.filter isCode, P c = true) : L.all P = true := by
  refine List.all_eq_true.mpr fun c hc => ?_
  have h := List.all_eq_true.mp h1 c hc
  rcases Bool.eq_false_or_eq_true (isCode c) with hi | hi
  · exact h2 c (List.mem_filter.mpr ⟨hc, hi⟩)
  · simpa [hi] using h
set_option maxRecDepth 65536 in
theorem w_c0 : (Jvm.Cond.code x code maxLocals ret).before args0 about1 = true := code_word (m := ⟨1, 1⟩) (meth := k1m1) (c := k1c1) (by decide +kernel) rfl rfl rfl (by decide +kernel)
set_option maxRecDepth 65536 in
theorem w_c1 : (Jvm.Cond.code ({ cls := "java/lang/String", name := "<init>", desc := "([C)V" } : Jvm.MethodName) jdk_42_method_3_code (2 : Nat) (Option.none : Option Jvm.ClassFile.FieldType)).before args0 about1 = true := code_word (m := ⟨7, 1⟩) (meth := k7m1) (c := k7c1) (by decide +kernel) rfl rfl rfl (by decide +kernel)
set_option maxRecDepth 65536 in
theorem w_c2 : (Jvm.Cond.code ({ cls := "java/lang/String", name := "<init>", desc := "([CIILjava/lang/Void;)V" } : Jvm.MethodName) jdk_42_method_149_code (6 : Nat) (Option.none : Option Jvm.ClassFile.FieldType)).before args0 about1 = true := code_word (m := ⟨7, 2⟩) (meth := k7m2) (c := k7c2) (by decide +kernel) rfl rfl rfl (by decide +kernel)
set_option maxRecDepth 65536 in
theorem w_c3 : (Jvm.Cond.code ({ cls := "java/lang/Object", name := "<init>", desc := "()V" } : Jvm.MethodName) object_method_1_code (1 : Nat) (Option.none : Option Jvm.ClassFile.FieldType)).before args0 about1 = true := code_word (m := ⟨0, 0⟩) (meth := k0m0) (c := k0c0) (by decide +kernel) rfl rfl rfl (by decide +kernel)
set_option maxRecDepth 65536 in
theorem w_c4 : (Jvm.Cond.code ({ cls := "java/lang/StringUTF16", name := "compress", desc := "([CII)[B" } : Jvm.MethodName) jdk_52_method_16_code (6 : Nat) (Option.some (Jvm.ClassFile.FieldType.array Jvm.ClassFile.FieldType.byte))).before args0 about1 = true := code_word (m := ⟨8, 2⟩) (meth := k8m2) (c := k8c2) (by decide +kernel) rfl rfl rfl (by decide +kernel)
set_option maxRecDepth 65536 in
theorem w_c5 : (Jvm.Cond.code ({ cls := "java/lang/StringUTF16", name := "compress", desc := "([CI[BII)I" } : Jvm.MethodName) jdk_52_method_21_code (7 : Nat) (Option.some Jvm.ClassFile.FieldType.int)).before args0 about1 = true := code_word (m := ⟨8, 3⟩) (meth := k8m3) (c := k8c3) (by decide +kernel) rfl rfl rfl (by decide +kernel)
set_option maxRecDepth 65536 in
theorem w_c6 : (Jvm.Cond.code ({ cls := "java/lang/StringUTF16", name := "coderFromArrayLen", desc := "([BI)B" } : Jvm.MethodName) jdk_52_method_15_code (2 : Nat) (Option.some Jvm.ClassFile.FieldType.byte)).before args0 about1 = true := code_word (m := ⟨8, 1⟩) (meth := k8m1) (c := k8c1) (by decide +kernel) rfl rfl rfl (by decide +kernel)
set_option maxRecDepth 65536 in
theorem w_c7 : (Jvm.Cond.code ({ cls := "com/example/loglane/loglane/wire/Frame$Publish", name := "<init>", desc := "(ILjava/lang/String;J[B[B)V" } : Jvm.MethodName) prog_265_method_1_code (7 : Nat) (Option.none : Option Jvm.ClassFile.FieldType)).before args0 about1 = true := code_word (m := ⟨13, 0⟩) (meth := k13m0) (c := k13c0) (by decide +kernel) rfl rfl rfl (by decide +kernel)
set_option maxRecDepth 65536 in
theorem w_c8 : (Jvm.Cond.code ({ cls := "java/lang/Record", name := "<init>", desc := "()V" } : Jvm.MethodName) jdk_30_method_1_code (1 : Nat) (Option.none : Option Jvm.ClassFile.FieldType)).before args0 about1 = true := code_word (m := ⟨9, 0⟩) (meth := k9m0) (c := k9c0) (by decide +kernel) rfl rfl rfl (by decide +kernel)
set_option maxRecDepth 65536 in
theorem w_c9 : (Jvm.Cond.code ({ cls := "com/example/loglane/loglane/wire/FrameWriter", name := "checkDelay", desc := "(J)V" } : Jvm.MethodName) prog_318_method_6_code (2 : Nat) (Option.none : Option Jvm.ClassFile.FieldType)).before args0 about1 = true := code_word (m := ⟨14, 0⟩) (meth := k14m0) (c := k14c0) (by decide +kernel) rfl rfl rfl (by decide +kernel)
set_option maxRecDepth 65536 in
theorem w_c10 : (Jvm.Cond.code ({ cls := "com/example/loglane/loglane/wire/FrameWriter", name := "checkBytes", desc := "([B)V" } : Jvm.MethodName) prog_318_method_10_code (1 : Nat) (Option.none : Option Jvm.ClassFile.FieldType)).before args0 about1 = true := code_word (m := ⟨14, 1⟩) (meth := k14m1) (c := k14c1) (by decide +kernel) rfl rfl rfl (by decide +kernel)
set_option maxRecDepth 65536 in
theorem w_c11 : (Jvm.Cond.code ({ cls := "com/example/loglane/loglane/wire/Frame$Publish", name := "type", desc := "()I" } : Jvm.MethodName) prog_265_method_7_code (1 : Nat) (Option.some Jvm.ClassFile.FieldType.int)).before args0 about1 = true := code_word (m := ⟨13, 1⟩) (meth := k13m1) (c := k13c1) (by decide +kernel) rfl rfl rfl (by decide +kernel)
def codes1 : List Jvm.Cond := [Jvm.Cond.code x code maxLocals ret, Jvm.Cond.code ({ cls := "java/lang/String", name := "<init>", desc := "([C)V" } : Jvm.MethodName) jdk_42_method_3_code (2 : Nat) (Option.none : Option Jvm.ClassFile.FieldType), Jvm.Cond.code ({ cls := "java/lang/String", name := "<init>", desc := "([CIILjava/lang/Void;)V" } : Jvm.MethodName) jdk_42_method_149_code (6 : Nat) (Option.none : Option Jvm.ClassFile.FieldType), Jvm.Cond.code ({ cls := "java/lang/Object", name := "<init>", desc := "()V" } : Jvm.MethodName) object_method_1_code (1 : Nat) (Option.none : Option Jvm.ClassFile.FieldType), Jvm.Cond.code ({ cls := "java/lang/StringUTF16", name := "compress", desc := "([CII)[B" } : Jvm.MethodName) jdk_52_method_16_code (6 : Nat) (Option.some (Jvm.ClassFile.FieldType.array Jvm.ClassFile.FieldType.byte)), Jvm.Cond.code ({ cls := "java/lang/StringUTF16", name := "compress", desc := "([CI[BII)I" } : Jvm.MethodName) jdk_52_method_21_code (7 : Nat) (Option.some Jvm.ClassFile.FieldType.int), Jvm.Cond.code ({ cls := "java/lang/StringUTF16", name := "coderFromArrayLen", desc := "([BI)B" } : Jvm.MethodName) jdk_52_method_15_code (2 : Nat) (Option.some Jvm.ClassFile.FieldType.byte), Jvm.Cond.code ({ cls := "com/example/loglane/loglane/wire/Frame$Publish", name := "<init>", desc := "(ILjava/lang/String;J[B[B)V" } : Jvm.MethodName) prog_265_method_1_code (7 : Nat) (Option.none : Option Jvm.ClassFile.FieldType), Jvm.Cond.code ({ cls := "java/lang/Record", name := "<init>", desc := "()V" } : Jvm.MethodName) jdk_30_method_1_code (1 : Nat) (Option.none : Option Jvm.ClassFile.FieldType), Jvm.Cond.code ({ cls := "com/example/loglane/loglane/wire/FrameWriter", name := "checkDelay", desc := "(J)V" } : Jvm.MethodName) prog_318_method_6_code (2 : Nat) (Option.none : Option Jvm.ClassFile.FieldType), Jvm.Cond.code ({ cls := "com/example/loglane/loglane/wire/FrameWriter", name := "checkBytes", desc := "([B)V" } : Jvm.MethodName) prog_318_method_10_code (1 : Nat) (Option.none : Option Jvm.ClassFile.FieldType), Jvm.Cond.code ({ cls := "com/example/loglane/loglane/wire/Frame$Publish", name := "type", desc := "()I" } : Jvm.MethodName) prog_265_method_7_code (1 : Nat) (Option.some Jvm.ClassFile.FieldType.int)]
set_option maxRecDepth 65536 in
theorem codes_eq : words1.filter isCode = codes1 := rfl
theorem w_codes : ∀ c ∈ words1.filter isCode, c.before args0 about1 = true := by
  rw [codes_eq]
  intro c hc
  simp only [codes1, List.mem_cons, List.not_mem_nil, or_false] at hc
  rcases hc with rfl | rfl | rfl | rfl | rfl | rfl | rfl | rfl | rfl | rfl | rfl | rfl
  · exact w_c0
  · exact w_c1
  · exact w_c2
  · exact w_c3
  · exact w_c4
  · exact w_c5
  · exact w_c6
  · exact w_c7
  · exact w_c8
  · exact w_c9
  · exact w_c10
  · exact w_c11
set_option maxRecDepth 65536 in
theorem w_t1 : (words1.take 24).all (fun c => isCode c || c.before args0 about1) = true := by decide +kernel
set_option maxRecDepth 65536 in
theorem w_t2 : ((words1.drop 24).take 24).all (fun c => isCode c || c.before args0 about1) = true := by decide +kernel
set_option maxRecDepth 65536 in
theorem w_t3 : ((words1.drop 24).drop 24).all (fun c => isCode c || c.before args0 about1) = true := by decide +kernel
theorem w_tables : (allAtoms (Jvm.Cond.code x code maxLocals ret :: tables_1)).before args0 about1 = true := by
  rw [allAtoms_all]
  show words1.all (fun c => c.before args0 about1) = true
  refine all_split ?_ w_codes
  rw [← List.take_append_drop 24 words1, List.all_append, w_t1, ← List.take_append_drop 24 (words1.drop 24), List.all_append, w_t2, w_t3]
  rfl
set_option maxRecDepth 65536 in
theorem w_rest : rest_1_c.before args0 about1 = true := by decide +kernel
set_option maxRecDepth 65536 in
theorem w_case : (Jvm.Cond.and given_1 narrow_1).before args0 about1 = true := by decide +kernel
theorem w_applies : (headSpec (Jvm.Cond.code x code maxLocals ret :: tables_1) room_1).applies x e0.platform about1 = true :=
  (Spec.applies_iff w_frames).mpr ⟨w_running, w_runnable, w_alone, w_named, w_hears, w_ripe, w_room, w_tables⟩
theorem atStart : AtStart classFile x code maxLocals ret World_1 tables_1 room_1 Calls_1 rest_1 Pre_1 launch0 p0 e0 about1 theMethod args0 below0 :=
  ⟨lists_1, trivial, launch0.admits_env _ _ _, launch0.least_env, fairChoices_fair.cas, fairChoices_fair.clock, w_frames, w_args, w_heap, w_applies, trivial, w_rest, w_case⟩
end start1
theorem witness_1 : WitnessClaimed_1 := ⟨start1.p0, start1.e0, start1.about1, start1.theMethod, start1.args0, start1.below0, start1.atStart⟩
end Jvm.Pilot.@@N@@
