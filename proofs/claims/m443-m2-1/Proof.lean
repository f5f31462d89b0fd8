import JvmDerived
import JvmDerived.Pilot.@@N@@Statement
import JvmDerived.Pilot.@@N@@Code
set_option linter.unusedVariables false
set_option linter.unusedSimpArgs false
@@BLOCK:NumsL.lean.txt@@
namespace Jvm.RoadKit
open Sem ClassFile Op Lib Jvm.Stand Jvm.Free Jvm.LawKit
section New
variable {p : Program} {l : Launch} {e : Env} {R : Room} {s : State} {m : MethodId} {args : Array Value} {below : List Frame} {meth : Method} {c : Code} {T : State} {locs : List Loc} {cells slots : Nat}
theorem retI (X : Stand p l e R s m args below meth c T locs cells slots) (hx : p.tables.exec = Jvm.exec) {pc : Nat} {Ls : Array Slot} {z : Int32} {rest : List Value} (hret : meth.sig.returnType = some .int) (hd : decode c.code pc = .ok (.ireturn, 1)) {fs : List Frame}
    (hl : ∀ (f : JFrame) (acts : List Action), f.method = m → f.locked = none → f.entered = [] → (doReturn e (T.setTop f) acts (some (.int z))).1 = T.setFrames fs) : Steps p.tables e below (T.setTop (mkF m pc Ls (.int z :: rest))) (T.setFrames fs) := by
  have hm' : T.vm.method? m = some meth := X.method'
  have hn : narrow .int (.int z) = .int z := rfl
  show Steps p.tables e below (T.setTop { method := m, pc := pc, locals := Ls, stack := _ :: rest, locked := none }) _
  jvm_step X.here [X.here.top, hx, hd, hm', hret, hn]
  first | (intro acts; rw [hl _ acts rfl rfl rfl]) | rw [hl _ _ rfl rfl rfl]
  exact Steps.refl _
end New
end Jvm.RoadKit
/- laws to paste: Road.backV (cut by pick.py; bodies as the Statement names them) -/
namespace Jvm.Pilot.@@N@@
namespace StrChars
open Jvm Sem ClassFile Op Lib Jvm.Stand Jvm.Free.XT Jvm.Free.ALB Jvm.Free.JM Jvm.Free
open Jvm.Lib.Cold (StaticIs)
/-- a char array whose places are chars -/
def Ch (a : Addr) (A : Cell) (U : State) : Prop := Arr .char a A U ∧ Typed .char A
theorem Ch.mv {a : Addr} {A : Cell} {U U' : State} (h : Ch a A U) (hal : U.vm.Alike U'.vm) (hh : U'.heap = U.heap) : Ch a A U' := ⟨h.1.mv hal hh, h.2⟩
theorem Ch.keep {a : Addr} {A : Cell} {U U' : State} (h : Ch a A U) (hal : U.vm.Alike U'.vm) (hk : U'.heap[a]? = some A) : Ch a A U' := ⟨h.1.keep hal hk, h.2⟩
/-- what place i of a char[]'s cell holds -/
def cv (A : Cell) (i : Nat) : Int32 := match A.slots[i]? with | some (.int x) => x | _ => 0
theorem Ch.get {a : Addr} {A : Cell} {U : State} (h : Ch a A U) {i : Nat} (hi : i < A.slots.size) : A.slots[i]? = some (.int (cv A i)) := by
  have e := Array.getElem?_eq_getElem hi
  have f := h.2 i _ e
  unfold cv; rw [e]
  generalize A.slots[i] = v at f
  cases v <;> simp [fits] at f ⊢
/-- the byte that i2b leaves of a char -/
def lo8 (x : Int32) : Int32 := x.toInt8.toInt32
theorem fits_lo8 (y : Int32) : fits .byte (.int (lo8 y)) = true := by
  have h1 := y.toInt8.le_toInt
  have h2 := y.toInt8.toInt_lt
  simp only [lo8, fits, Bool.and_eq_true, decide_eq_true_eq, Int32.le_iff_toInt_le, Int8.toInt_toInt32, show (-128 : Int32).toInt = -128 from by decide, show (127 : Int32).toInt = 127 from by decide]
  omega
/-- A' is A but that each place j of lo .. hi - 1 holds f j -/
def Laid (A A' : Cell) (lo hi : Nat) (f : Nat → Value) : Prop := A'.cls = A.cls ∧ A'.vm = A.vm ∧ A'.slots.size = A.slots.size ∧ ∀ i, A'.slots[i]? = if lo ≤ i ∧ i < hi then some (f i) else A.slots[i]?
theorem Laid.zero (A : Cell) (lo : Nat) (f : Nat → Value) : Laid A A lo (lo + 0) f := ⟨rfl, rfl, rfl, fun i => by rw [if_neg (by omega)]⟩
theorem Laid.step {A Ak : Cell} {lo k : Nat} {f : Nat → Value} {v : Value} (h : Laid A Ak lo k f) (hlo : lo ≤ k) (hk : k < Ak.slots.size) (hv : v = f k) : Laid A (Ak.setSlot k v) lo (k + 1) f := by
  refine ⟨h.1, h.2.1, by simpa [Cell.setSlot] using h.2.2.1, fun i => ?_⟩
  by_cases e : k = i
  · subst e; rw [Cell.slots_setSlot_self v hk, if_pos (by omega), hv]
  · rw [Cell.slots_setSlot_ne v e, h.2.2.2 i]
    by_cases q : lo ≤ i ∧ i < k
    · rw [if_pos q, if_pos (by omega)]
    · rw [if_neg q, if_neg (by omega)]
def U16 : String := "java/lang/StringUTF16"
namespace Cmp5
def yN : MethodName := ⟨"java/lang/StringUTF16", "compress", "([CI[BII)I"⟩
abbrev yB : ByteArray := jdk_52_method_21_code
theorem d0 : decode yB 0 = .ok (.iconst 0, 1) := by decide +kernel
theorem d1 : decode yB 1 = .ok (.istore 5, 2) := by decide +kernel
theorem d3 : decode yB 3 = .ok (.iload 5, 2) := by decide +kernel
theorem d5 : decode yB 5 = .ok (.iload 4, 2) := by decide +kernel
theorem d7 : decode yB 7 = .ok (.if_icmp (.ge) 37, 3) := by decide +kernel
theorem d10 : decode yB 10 = .ok (.aload_n 0, 1) := by decide +kernel
theorem d11 : decode yB 11 = .ok (.iload_n 1, 1) := by decide +kernel
theorem d12 : decode yB 12 = .ok (.caload, 1) := by decide +kernel
theorem d13 : decode yB 13 = .ok (.istore 6, 2) := by decide +kernel
theorem d15 : decode yB 15 = .ok (.iload 6, 2) := by decide +kernel
theorem d17 : decode yB 17 = .ok (.sipush 255, 3) := by decide +kernel
theorem d20 : decode yB 20 = .ok (.if_icmp (.le) 6, 3) := by decide +kernel
theorem d26 : decode yB 26 = .ok (.aload_n 2, 1) := by decide +kernel
theorem d27 : decode yB 27 = .ok (.iload_n 3, 1) := by decide +kernel
theorem d28 : decode yB 28 = .ok (.iload 6, 2) := by decide +kernel
theorem d30 : decode yB 30 = .ok (.i2b, 1) := by decide +kernel
theorem d31 : decode yB 31 = .ok (.bastore, 1) := by decide +kernel
theorem d32 : decode yB 32 = .ok (.iinc 1 1, 3) := by decide +kernel
theorem d35 : decode yB 35 = .ok (.iinc 3 1, 3) := by decide +kernel
theorem d38 : decode yB 38 = .ok (.iinc 5 1, 3) := by decide +kernel
theorem d41 : decode yB 41 = .ok (.goto (-38), 3) := by decide +kernel
theorem d44 : decode yB 44 = .ok (.iload 4, 2) := by decide +kernel
theorem d46 : decode yB 46 = .ok (.ireturn, 1) := by decide +kernel
def site : List Cond := []
def tab : Cond := tabOf yN yB 7 (some .int) site
def P (b : Addr) (A : Cell) (d : Addr) (B : Cell) (o q len : Nat) (args : Array Value) (s : State) : Prop := args = #[.ref b, .int (Int32.ofNat o), .ref d, .int (Int32.ofNat q), .int (Int32.ofNat len)] ∧ Ch b A s ∧ Arr .byte d B s ∧ b ≠ d ∧ o + len ≤ A.slots.size ∧ q + len ≤ B.slots.size ∧ ∀ i, i < len → ¬ 255 < cv A (o + i)
def E (b : Addr) (A : Cell) (d : Addr) (B : Cell) (o q len : Nat) (r : Option Value) (s u : State) : Prop := r = some (.int (Int32.ofNat len)) ∧ ∃ B', Put d B' s u ∧ Laid B B' q (q + len) (fun j => Value.int (lo8 (cv A (o + (j - q)))))
/-- no char of the range above 255: len; the places written hold each char's low byte -/
theorem law (l : Launch) (b : Addr) (A : Cell) (d : Addr) (B : Cell) (o q len : Nat) : Law l yN 5 5 0 0 yB 7 (some .int) site (P b A d B o q len) (E b A d B o q len) (copyLocs d q len) 0 0 := by
  refine Law.of_walk (plainFor_of_name (by decide +kernel)) (by decide +kernel) (by decide +kernel) (by decide) (fun _ _ h => by rw [h.1]; rfl) (fun _ U U' hal hh h => ⟨h.1, h.2.1.mv hal hh, h.2.2.1.mv hal hh, h.2.2.2⟩) (fun r U U' V V' h1 hal h2 h => ⟨h.1, h.2.elim fun B' q => ⟨B', q.1.mv h1 h2, q.2⟩⟩) ?_
  intro p e s m args below meth c s₁ X0 hexec hbytes hml hret hlk hnm hown hh0 W hP
  obtain ⟨rfl, hA, hB, hne, l1, l2, hp⟩ := hP
  have c1 : Steps p.tables e below (s₁.setTop (entryFrame m #[.ref b, .int (Int32.ofNat o), .ref d, .int (Int32.ofNat q), .int (Int32.ofNat len)] 7)) (s₁.setTop (mkF m 0 #[.val (.ref b), .val (.int (Int32.ofNat o)), .val (.ref d), .val (.int (Int32.ofNat q)), .val (.int (Int32.ofNat len)), .unset, .unset] [])) := entry rfl
  have hA0 := hA.1.mv X0.warmed.alike hh0
  have hB0 := hB.mv X0.warmed.alike hh0
  have a31 := hA.1.2.2.2
  have c2 : Steps p.tables e below (s₁.setTop (entryFrame m #[.ref b, .int (Int32.ofNat o), .ref d, .int (Int32.ofNat q), .int (Int32.ofNat len)] 7)) (s₁.setTop (mkF m 3 #[.val (.ref b), .val (.int (Int32.ofNat o)), .val (.ref d), .val (.int (Int32.ofNat q)), .val (.int (Int32.ofNat len)), .val (.int 0), .unset] [])) := c1.trans (by
    refine iconstV X0.here hexec rfl 0 (hb hbytes d0) (by decide) ?_
    refine XS.istore X0.here hexec rfl (hb hbytes d1) rfl rfl ?_
    exact Steps.refl _)
  have loop : ∀ (r i : Nat), i + r = len → ∀ (z : Slot), (z = .unset ∨ ∃ w, z = .val w ∧ w.category = 1) → ∀ (Tl : State) (Bk : Cell), Stand p l e { frames := 0, locals := 0, cells := 0, slots := 0 } s m #[.ref b, .int (Int32.ofNat o), .ref d, .int (Int32.ofNat q), .int (Int32.ofNat len)] below meth c Tl ([] ++ copyLocs d q i) 0 0 → Put d Bk s₁ Tl → Laid B Bk q (q + i) (fun j => Value.int (lo8 (cv A (o + (j - q))))) →
      Steps p.tables e below (s₁.setTop (entryFrame m #[.ref b, .int (Int32.ofNat o), .ref d, .int (Int32.ofNat q), .int (Int32.ofNat len)] 7)) (Tl.setTop (mkF m 3 #[.val (.ref b), .val (.int (Int32.ofNat (o + i))), .val (.ref d), .val (.int (Int32.ofNat (q + i))), .val (.int (Int32.ofNat len)), .val (.int (Int32.ofNat i)), z] [])) → ∃ (T' : State) (B' : Cell) (z' : Slot), Stand p l e { frames := 0, locals := 0, cells := 0, slots := 0 } s m #[.ref b, .int (Int32.ofNat o), .ref d, .int (Int32.ofNat q), .int (Int32.ofNat len)] below meth c T' ([] ++ copyLocs d q len) 0 0 ∧ Put d B' s₁ T' ∧ Laid B B' q (q + len) (fun j => Value.int (lo8 (cv A (o + (j - q))))) ∧
      Steps p.tables e below (s₁.setTop (entryFrame m #[.ref b, .int (Int32.ofNat o), .ref d, .int (Int32.ofNat q), .int (Int32.ofNat len)] 7)) (T'.setTop (mkF m 3 #[.val (.ref b), .val (.int (Int32.ofNat (o + len))), .val (.ref d), .val (.int (Int32.ofNat (q + len))), .val (.int (Int32.ofNat len)), .val (.int (Int32.ofNat len)), z'] [])) := by
    intro r
    induction r with
    | zero =>
      intro i hi z hz Tl Bk Xl pl fl cl
      have hil : i = len := by omega
      rw [hil] at Xl fl cl
      exact ⟨Tl, Bk, z, Xl, pl, fl, cl⟩
    | succ r ih =>
      intro i hi z hz Tl Bk Xl pl fl cl
      have all := X0.warmed.alike.symm.trans Xl.warmed.alike
      have hAl := hA0.keep all (pl.other hne hA0.1)
      have hBk := hB0.like all pl.1 fl.1 fl.2.1 fl.2.2.1
      have hlt : q + i < Bk.slots.size := by rw [fl.2.2.1]; omega
      have c3 : Steps p.tables e below (s₁.setTop (entryFrame m #[.ref b, .int (Int32.ofNat o), .ref d, .int (Int32.ofNat q), .int (Int32.ofNat len)] 7)) (Tl.setTop (mkF m 12 #[.val (.ref b), .val (.int (Int32.ofNat (o + i))), .val (.ref d), .val (.int (Int32.ofNat (q + i))), .val (.int (Int32.ofNat len)), .val (.int (Int32.ofNat i)), z] [.int (Int32.ofNat (o + i)), .ref b])) := cl.trans (by
        refine XS.iload Xl.here hexec rfl (hb hbytes d3) rfl ?_
        refine XS.iload Xl.here hexec rfl (hb hbytes d5) rfl ?_
        refine XS.icmpNo Xl.here hexec rfl (hb hbytes d7) rfl (ii_ge_f (lt32 (by omega) (by omega))) ?_
        refine XS.aloadN Xl.here hexec rfl (hb hbytes d10) rfl rfl ?_
        refine XS.iloadN Xl.here hexec rfl (hb hbytes d11) rfl ?_
        exact Steps.refl _)
      have c4 : Steps p.tables e below (s₁.setTop (entryFrame m #[.ref b, .int (Int32.ofNat o), .ref d, .int (Int32.ofNat q), .int (Int32.ofNat len)] 7)) (Tl.setTop (mkF m 13 #[.val (.ref b), .val (.int (Int32.ofNat (o + i))), .val (.ref d), .val (.int (Int32.ofNat (q + i))), .val (.int (Int32.ofNat len)), .val (.int (Int32.ofNat i)), z] [.int (cv A (o + i))])) := c3.trans (by
        refine Xl.aget hexec hAl rfl (hA.get (i := o + i) (by omega)) rfl rfl (hb hbytes d12) ?_
        exact Steps.refl _)
      have c5 : Steps p.tables e below (s₁.setTop (entryFrame m #[.ref b, .int (Int32.ofNat o), .ref d, .int (Int32.ofNat q), .int (Int32.ofNat len)] 7)) (Tl.setTop (mkF m 15 #[.val (.ref b), .val (.int (Int32.ofNat (o + i))), .val (.ref d), .val (.int (Int32.ofNat (q + i))), .val (.int (Int32.ofNat len)), .val (.int (Int32.ofNat i)), .val (.int (cv A (o + i)))] [])) := c4.trans (by
        refine XS.istoreS Xl.here hexec rfl (hb hbytes d13) rfl rfl hz ?_
        exact Steps.refl _)
      have c6 : Steps p.tables e below (s₁.setTop (entryFrame m #[.ref b, .int (Int32.ofNat o), .ref d, .int (Int32.ofNat q), .int (Int32.ofNat len)] 7)) (Tl.setTop (mkF m 31 #[.val (.ref b), .val (.int (Int32.ofNat (o + i))), .val (.ref d), .val (.int (Int32.ofNat (q + i))), .val (.int (Int32.ofNat len)), .val (.int (Int32.ofNat i)), .val (.int (cv A (o + i)))] [.int (lo8 (cv A (o + i))), .int (Int32.ofNat (q + i)), .ref d])) := c5.trans (by
        refine XS.iload Xl.here hexec rfl (hb hbytes d15) rfl ?_
        refine sipushV Xl.here hexec rfl 255 (hb hbytes d17) (by decide) ?_
        refine XS.icmpYes Xl.here hexec rfl (pc0 := 20) rfl (hb hbytes d20) rfl (ii_le_t (hp i (by omega))) (by decide) rfl ?_
        refine XS.aloadN Xl.here hexec rfl (hb hbytes d26) rfl rfl ?_
        refine XS.iloadN Xl.here hexec rfl (hb hbytes d27) rfl ?_
        refine XS.iload Xl.here hexec rfl (hb hbytes d28) rfl ?_
        refine i2b Xl.here hexec rfl (hb hbytes d30) rfl ?_
        exact Steps.refl _)
      obtain ⟨T7, X7, p7, st7⟩ := Xl.aput hexec hBk rfl hlt rfl (fits_lo8 (cv A (o + i))) (g := (mkF m 31 #[.val (.ref b), .val (.int (Int32.ofNat (o + i))), .val (.ref d), .val (.int (Int32.ofNat (q + i))), .val (.int (Int32.ofNat len)), .val (.int (Int32.ofNat i)), .val (.int (cv A (o + i)))] [.int (lo8 (cv A (o + i))), .int (Int32.ofNat (q + i)), .ref d])) rfl (rest := []) rfl (hb hbytes d31)
      have c8 : Steps p.tables e below (s₁.setTop (entryFrame m #[.ref b, .int (Int32.ofNat o), .ref d, .int (Int32.ofNat q), .int (Int32.ofNat len)] 7)) (T7.setTop (mkF m 32 #[.val (.ref b), .val (.int (Int32.ofNat (o + i))), .val (.ref d), .val (.int (Int32.ofNat (q + i))), .val (.int (Int32.ofNat len)), .val (.int (Int32.ofNat i)), .val (.int (cv A (o + i)))] [])) := c6.trans (st7 _ (Steps.refl _))
      have c9 : Steps p.tables e below (s₁.setTop (entryFrame m #[.ref b, .int (Int32.ofNat o), .ref d, .int (Int32.ofNat q), .int (Int32.ofNat len)] 7)) (T7.setTop (mkF m 3 #[.val (.ref b), .val (.int (Int32.ofNat (o + i) + 1)), .val (.ref d), .val (.int (Int32.ofNat (q + i) + 1)), .val (.int (Int32.ofNat len)), .val (.int (Int32.ofNat i + 1)), .val (.int (cv A (o + i)))] [])) := c8.trans (by
        refine iincV X7.here hexec rfl 1 (hb hbytes d32) (by decide) rfl rfl ?_
        refine iincV X7.here hexec rfl 1 (hb hbytes d35) (by decide) rfl rfl ?_
        refine iincV X7.here hexec rfl 1 (hb hbytes d38) (by decide) rfl rfl ?_
        refine XS.goto X7.here hexec rfl (pc0 := 41) rfl (hb hbytes d41) (by decide) rfl ?_
        exact Steps.refl _)
      have c10 : Steps p.tables e below (s₁.setTop (entryFrame m #[.ref b, .int (Int32.ofNat o), .ref d, .int (Int32.ofNat q), .int (Int32.ofNat len)] 7)) (T7.setTop (mkF m 3 #[.val (.ref b), .val (.int (Int32.ofNat (o + (i + 1)))), .val (.ref d), .val (.int (Int32.ofNat (q + (i + 1)))), .val (.int (Int32.ofNat len)), .val (.int (Int32.ofNat (i + 1))), .val (.int (cv A (o + i)))] [])) := by
        have := c9
        rw [succ32, succ32, succ32] at this
        exact this
      exact ih (i + 1) (by omega) _ (Or.inr ⟨_, rfl, rfl⟩) T7 _ (by rw [copyLocs_step, ← List.append_assoc]; exact X7) (pl.trans p7) (fl.step (by omega) hlt (by simp)) c10
  obtain ⟨T9, B9, z9, X9, p9, f9, g9⟩ := loop len 0 (by omega) .unset (Or.inl rfl) s₁ B (by simpa [copyLocs] using X0) ⟨hB0.1, fun _ _ => rfl, rfl⟩ (Laid.zero _ _ _) c2
  have c11 : Steps p.tables e below (s₁.setTop (entryFrame m #[.ref b, .int (Int32.ofNat o), .ref d, .int (Int32.ofNat q), .int (Int32.ofNat len)] 7)) (T9.setTop (mkF m 46 #[.val (.ref b), .val (.int (Int32.ofNat (o + len))), .val (.ref d), .val (.int (Int32.ofNat (q + len))), .val (.int (Int32.ofNat len)), .val (.int (Int32.ofNat len)), z9] [.int (Int32.ofNat len)])) := g9.trans (by
    refine XS.iload X9.here hexec rfl (hb hbytes d3) rfl ?_
    refine XS.iload X9.here hexec rfl (hb hbytes d5) rfl ?_
    refine XS.icmpYes X9.here hexec rfl (pc0 := 7) rfl (hb hbytes d7) rfl (ii_ge_t (nlt32 (by omega) (Nat.le_refl _))) (by decide) rfl ?_
    refine XS.iload X9.here hexec rfl (hb hbytes d44) rfl ?_
    exact Steps.refl _)
  exact ⟨T9, some (.int (Int32.ofNat len)), _, _, _, X9, by simp, rfl, rfl, (fun h => by cases h), ⟨rfl, B9, p9.from hh0, f9⟩, fun fs hl => c11.trans (X9.ireturnOut hexec hret rfl (Or.inl rfl) (hb hbytes d46) hl)⟩
end Cmp5
namespace Cmp3
def yN : MethodName := ⟨"java/lang/StringUTF16", "compress", "([CII)[B"⟩
abbrev yB : ByteArray := jdk_52_method_16_code
theorem d0 : decode yB 0 = .ok (.iload_n 2, 1) := by decide +kernel
theorem d1 : decode yB 1 = .ok (.newarray .byte, 2) := by decide +kernel
theorem d3 : decode yB 3 = .ok (.astore_n 3, 1) := by decide +kernel
theorem d4 : decode yB 4 = .ok (.aload_n 0, 1) := by decide +kernel
theorem d5 : decode yB 5 = .ok (.iload_n 1, 1) := by decide +kernel
theorem d6 : decode yB 6 = .ok (.aload_n 3, 1) := by decide +kernel
theorem d7 : decode yB 7 = .ok (.iconst 0, 1) := by decide +kernel
theorem d8 : decode yB 8 = .ok (.iload_n 2, 1) := by decide +kernel
theorem d9 : decode yB 9 = .ok (.invokestatic 115, 3) := by decide +kernel
theorem d12 : decode yB 12 = .ok (.istore 4, 2) := by decide +kernel
theorem d14 : decode yB 14 = .ok (.iload 4, 2) := by decide +kernel
theorem d16 : decode yB 16 = .ok (.iload_n 2, 1) := by decide +kernel
theorem d17 : decode yB 17 = .ok (.if_icmp (.eq) 40, 3) := by decide +kernel
theorem d57 : decode yB 57 = .ok (.aload_n 3, 1) := by decide +kernel
theorem d58 : decode yB 58 = .ok (.areturn, 1) := by decide +kernel
def site : List Cond := [.arrayClass .byte, Cmp5.tab] ++ staticW U16 115 Cmp5.yN
def tab : Cond := tabOf yN yB 6 (some (.array .byte)) site
def P (b : Addr) (A : Cell) (o len : Nat) (args : Array Value) (s : State) : Prop := args = #[.ref b, .int (Int32.ofNat o), .int (Int32.ofNat len)] ∧ Ch b A s ∧ o + len ≤ A.slots.size ∧ len ≤ 536870912 ∧ ∀ i, i < len → ¬ 255 < cv A (o + i)
def E (b : Addr) (A : Cell) (o len : Nat) (r : Option Value) (s u : State) : Prop := NewArr .byte "[B" len (fun j => .int (lo8 (cv A (o + j)))) r s u ∧ u.heap.size = s.heap.size + 1
/-- no char of the range above 255: a new byte[] of their low bytes -/
theorem law (l : Launch) (b : Addr) (A : Cell) (o len : Nat) : Law l yN 3 3 1 18 yB 6 (some (.array .byte)) site (P b A o len) (E b A o len) [] 1 len := by
  refine Law.of_walk (plainFor_of_name (by decide +kernel)) (by decide +kernel) (by decide +kernel) (by decide) (fun _ _ h => by rw [h.1]; rfl) (fun _ U U' hal hh h => ⟨h.1, h.2.1.mv hal hh, h.2.2⟩) (fun r U U' V V' h1 hal h2 h => ⟨NewArr.mv r U U' V V' h1 hal h2 h.1, by rw [h1, h2]; exact h.2⟩) ?_
  intro p e s m args below meth c s₁ X0 hexec hbytes hml hret hlk hnm hown hh0 W hP
  obtain ⟨rfl, hA, l1, l2, hp⟩ := hP
  have a31 := hA.1.2.2.2
  have c1 : Steps p.tables e below (s₁.setTop (entryFrame m #[.ref b, .int (Int32.ofNat o), .int (Int32.ofNat len)] 6)) (s₁.setTop (mkF m 0 #[.val (.ref b), .val (.int (Int32.ofNat o)), .val (.int (Int32.ofNat len)), .unset, .unset, .unset] [])) := entry rfl
  have c2 : Steps p.tables e below (s₁.setTop (entryFrame m #[.ref b, .int (Int32.ofNat o), .int (Int32.ofNat len)] 6)) (s₁.setTop (mkF m 1 #[.val (.ref b), .val (.int (Int32.ofNat o)), .val (.int (Int32.ofNat len)), .unset, .unset, .unset] [.int (Int32.ofNat len)])) := c1.trans (by
    refine XS.iloadN X0.here hexec rfl (hb hbytes d0) rfl ?_
    exact Steps.refl _)
  obtain ⟨T3, B3, X3, ba3, bs3, bv3, bh3, bf3, st3⟩ := X0.anew hexec (atype := .byte) (wk W (.arrayClass .byte)) rfl (by show len * 1 ≤ _; omega) (by omega) (g := (mkF m 1 #[.val (.ref b), .val (.int (Int32.ofNat o)), .val (.int (Int32.ofNat len)), .unset, .unset, .unset] [.int (Int32.ofNat len)])) rfl (hb hbytes d1) (rest := []) rfl (Nat.le_refl _) (by show 0 + len ≤ len; omega)
  rw [hh0] at ba3 st3
  have kp3 : XT.Kept s T3 := (XT.Kept.of_eq hh0).push bh3
  have hA3 := hA.keep X3.warmed.alike (kp3 _ _ hA.1.1)
  have hne : b ≠ s.heap.size := hA.1.ne
  have c4 : Steps p.tables e below (s₁.setTop (entryFrame m #[.ref b, .int (Int32.ofNat o), .int (Int32.ofNat len)] 6)) (T3.setTop (mkF m 3 #[.val (.ref b), .val (.int (Int32.ofNat o)), .val (.int (Int32.ofNat len)), .unset, .unset, .unset] [.ref s.heap.size])) := c2.trans (st3 _ (Steps.refl _))
  have c5 : Steps p.tables e below (s₁.setTop (entryFrame m #[.ref b, .int (Int32.ofNat o), .int (Int32.ofNat len)] 6)) (T3.setTop (mkF m 9 #[.val (.ref b), .val (.int (Int32.ofNat o)), .val (.int (Int32.ofNat len)), .val (.ref s.heap.size), .unset, .unset] [.int (Int32.ofNat len), .int 0, .ref s.heap.size, .int (Int32.ofNat o), .ref b])) := c4.trans (by
    refine XS.astoreN X3.here hexec rfl (hb hbytes d3) rfl rfl rfl ?_
    refine XS.aloadN X3.here hexec rfl (hb hbytes d4) rfl rfl ?_
    refine XS.iloadN X3.here hexec rfl (hb hbytes d5) rfl ?_
    refine XS.aloadN X3.here hexec rfl (hb hbytes d6) rfl rfl ?_
    refine iconstV X3.here hexec rfl 0 (hb hbytes d7) (by decide) ?_
    refine XS.iloadN X3.here hexec rfl (hb hbytes d8) rfl ?_
    exact Steps.refl _)
  obtain ⟨v6, T6, X6, E6, g6⟩ := X3.callS hexec (Cmp5.law l b A s.heap.size B3 o 0 len) hown (wks W (staticW U16 115 Cmp5.yN)) (wk W Cmp5.tab) (W := 0) (Nat.le_of_ble_eq_true rfl) (Nat.le_of_ble_eq_true rfl) (Nat.le_refl _) (by show 0 + len + 0 ≤ len; omega) (g := (mkF m 9 #[.val (.ref b), .val (.int (Int32.ofNat o)), .val (.int (Int32.ofNat len)), .val (.ref s.heap.size), .unset, .unset] [.int (Int32.ofNat len), .int (Int32.ofNat 0), .ref s.heap.size, .int (Int32.ofNat o), .ref b])) rfl (by rw [hml]; rfl) c5 (argsL := [.ref b, .int (Int32.ofNat o), .ref s.heap.size, .int (Int32.ofNat 0), .int (Int32.ofNat len)]) (rest := []) rfl rfl (by show 2 * 0 + 0 ≤ _; decide) (hb hbytes d9) (⟨rfl, hA3, ba3, hne, l1, by rw [bs3]; simp, hp⟩)
  obtain ⟨rfl, B6, p6, f6⟩ := E6
  have c7 : Steps p.tables e below (s₁.setTop (entryFrame m #[.ref b, .int (Int32.ofNat o), .int (Int32.ofNat len)] 6)) (T6.setTop (mkF m 12 #[.val (.ref b), .val (.int (Int32.ofNat o)), .val (.int (Int32.ofNat len)), .val (.ref s.heap.size), .unset, .unset] [.int (Int32.ofNat len)])) := g6
  have c8 : Steps p.tables e below (s₁.setTop (entryFrame m #[.ref b, .int (Int32.ofNat o), .int (Int32.ofNat len)] 6)) (T6.setTop (mkF m 58 #[.val (.ref b), .val (.int (Int32.ofNat o)), .val (.int (Int32.ofNat len)), .val (.ref s.heap.size), .val (.int (Int32.ofNat len)), .unset] [.ref s.heap.size])) := c7.trans (by
    refine XS.istore X6.here hexec rfl (hb hbytes d12) rfl rfl ?_
    refine XS.iload X6.here hexec rfl (hb hbytes d14) rfl ?_
    refine XS.iloadN X6.here hexec rfl (hb hbytes d16) rfl ?_
    refine XS.icmpYes X6.here hexec rfl (pc0 := 17) rfl (hb hbytes d17) rfl (ii_eq_t rfl) (by decide) rfl ?_
    refine XS.aloadN X6.here hexec rfl (hb hbytes d57) rfl rfl ?_
    exact Steps.refl _)
  have X8 := X6.wide (L' := []) (cells' := 1) (slots' := len) (fun x hx hlt => by
    simp only [List.nil_append, copyLocs, List.mem_map, List.mem_range] at hx
    obtain ⟨i, -, rfl⟩ := hx
    exact absurd hlt (Nat.lt_irrefl _)) (Nat.le_refl _) (by omega)
  exact ⟨T6, some (.ref s.heap.size), _, _, _, X8, rfl, rfl, rfl, (fun h => by cases h), ⟨⟨rfl, B6, ba3.like (X3.warmed.alike.symm.trans X6.warmed.alike) p6.1 f6.1 f6.2.1 f6.2.2.1, f6.2.1.trans bv3, by rw [X6.warmed.alike.findClass, f6.1]; exact bf3, by rw [f6.2.2.1, bs3]; simp, fun j hj => by rw [f6.2.2.2 j, if_pos (by omega)]; rfl, kp3.put p6 (Nat.le_refl _)⟩, by rw [p6.2.2, bh3, hh0]; simp⟩, fun fs hl => c8.trans (X8.areturnOut hexec rfl hret rfl (hb hbytes d58) hl)⟩
end Cmp3
namespace CodL
def yN : MethodName := ⟨"java/lang/StringUTF16", "coderFromArrayLen", "([BI)B"⟩
abbrev yB : ByteArray := jdk_52_method_15_code
theorem d0 : decode yB 0 = .ok (.iload_n 1, 1) := by decide +kernel
theorem d1 : decode yB 1 = .ok (.aload_n 0, 1) := by decide +kernel
theorem d2 : decode yB 2 = .ok (.arraylength, 1) := by decide +kernel
theorem d3 : decode yB 3 = .ok (.isub, 1) := by decide +kernel
theorem d4 : decode yB 4 = .ok (.bipush 31, 2) := by decide +kernel
theorem d6 : decode yB 6 = .ok (.iushr, 1) := by decide +kernel
theorem d7 : decode yB 7 = .ok (.i2b, 1) := by decide +kernel
theorem d8 : decode yB 8 = .ok (.ireturn, 1) := by decide +kernel
def site : List Cond := []
def tab : Cond := tabOf yN yB 2 (some .byte) site
def P (d : Addr) (B : Cell) (args : Array Value) (s : State) : Prop := args = #[.ref d, .int (Int32.ofNat B.slots.size)] ∧ Arr .byte d B s
def E (r : Option Value) (s u : State) : Prop := XT.PureE (some (.int 0)) r s u
/-- an array as long as the number of chars: LATIN1 -/
theorem law (l : Launch) (d : Addr) (B : Cell) : Law l yN 2 2 0 0 yB 2 (some .byte) site (P d B) E [] 0 0 := by
  refine Law.of_walk (plainFor_of_name (by decide +kernel)) (by decide +kernel) (by decide +kernel) (by decide) (fun _ _ h => by rw [h.1]; rfl) (fun _ U U' hal hh h => ⟨h.1, h.2.mv hal hh⟩) (fun r U U' V V' h1 hal h2 h => XT.PureE.mv r U U' V V' h1 hal h2 h) ?_
  intro p e s m args below meth c s₁ X0 hexec hbytes hml hret hlk hnm hown hh0 W hP
  obtain ⟨rfl, hB⟩ := hP
  have hB0 := hB.mv X0.warmed.alike hh0
  have c1 : Steps p.tables e below (s₁.setTop (entryFrame m #[.ref d, .int (Int32.ofNat B.slots.size)] 2)) (s₁.setTop (mkF m 0 #[.val (.ref d), .val (.int (Int32.ofNat B.slots.size))] [])) := entry rfl
  have c2 : Steps p.tables e below (s₁.setTop (entryFrame m #[.ref d, .int (Int32.ofNat B.slots.size)] 2)) (s₁.setTop (mkF m 2 #[.val (.ref d), .val (.int (Int32.ofNat B.slots.size))] [.ref d, .int (Int32.ofNat B.slots.size)])) := c1.trans (by
    refine XS.iloadN X0.here hexec rfl (hb hbytes d0) rfl ?_
    refine XS.aloadN X0.here hexec rfl (hb hbytes d1) rfl rfl ?_
    exact Steps.refl _)
  have c3 : Steps p.tables e below (s₁.setTop (entryFrame m #[.ref d, .int (Int32.ofNat B.slots.size)] 2)) (s₁.setTop (mkF m 8 #[.val (.ref d), .val (.int (Int32.ofNat B.slots.size))] [.int (lo8 (ushr (Int32.ofNat B.slots.size - Int32.ofNat B.slots.size) 31))])) := c2.trans (by
    refine X0.alen hexec hB0 rfl rfl (hb hbytes d2) ?_
    refine XS.isub X0.here hexec rfl (hb hbytes d3) rfl ?_
    refine bipushV X0.here hexec rfl 31 (hb hbytes d4) (by decide) ?_
    refine iushr X0.here hexec rfl (hb hbytes d6) rfl ?_
    refine i2b X0.here hexec rfl (hb hbytes d7) rfl ?_
    exact Steps.refl _)
  have e0 : lo8 (ushr (Int32.ofNat B.slots.size - Int32.ofNat B.slots.size) 31) = 0 := by rw [Int32.sub_self]; decide
  rw [e0] at c3
  exact ⟨s₁, some (.int 0), _, _, _, X0, rfl, rfl, rfl, (fun h => by cases h), ⟨rfl, hh0⟩, fun fs hl => c3.trans (X0.ireturnOut hexec hret rfl (Or.inr (Or.inr (Or.inl rfl))) (hb hbytes d8) hl)⟩
end CodL
/-- the String at a is Latin-1 over a new byte[] (the heap's one new cell): the low bytes of the len chars of A from o on; every cell but a is kept -/
def Got (a : Addr) (D : Cell) (fV fC : Field) (A : Cell) (o len : Nat) (r : Option Value) (s u : State) : Prop := r = none ∧ ∃ D' V : Cell, Blank "java/lang/String" a D' u ∧ Same D D' [fV.slot, fC.slot] ∧ D'.slots[fV.slot]? = some (.ref s.heap.size) ∧ D'.slots[fC.slot]? = some (.int 0) ∧ Arr .byte s.heap.size V u ∧ V.vm = .none ∧ u.vm.findClass "[B" = some V.cls ∧ V.slots.size = len ∧ (∀ j, j < len → V.slots[j]? = some (.int (lo8 (cv A (o + j))))) ∧ (∀ (y : Addr) (c : Cell), y ≠ a → s.heap[y]? = some c → u.heap[y]? = some c) ∧ u.heap.size = s.heap.size + 1
theorem Got.mv {a : Addr} {D A : Cell} {fV fC : Field} {o len : Nat} : ∀ r (U U' V V' : State), U'.heap = U.heap → V.vm.Alike V'.vm → V'.heap = V.heap → Got a D fV fC A o len r U V → Got a D fV fC A o len r U' V' :=
  fun r U U' V V' h1 hal h2 ⟨e0, D', X, a1, a2, a3, a4, a5, a6, a7, a8, a9, a10, a11⟩ => ⟨e0, D', X, a1.mv hal h2, a2, by rw [h1]; exact a3, a4, by rw [h1]; exact a5.mv hal h2, a6, by rw [hal.findClass]; exact a7, a8, a9, by rw [h1, h2]; exact a10, by rw [h1, h2]; exact a11⟩
namespace New4
def yN : MethodName := ⟨"java/lang/String", "<init>", "([CIILjava/lang/Void;)V"⟩
abbrev yB : ByteArray := jdk_42_method_149_code
theorem d0 : decode yB 0 = .ok (.aload_n 0, 1) := by decide +kernel
theorem d1 : decode yB 1 = .ok (.invokespecial 1, 3) := by decide +kernel
theorem d4 : decode yB 4 = .ok (.iload_n 3, 1) := by decide +kernel
theorem d5 : decode yB 5 = .ok (.ifCond (.ne) 22, 3) := by decide +kernel
theorem d27 : decode yB 27 = .ok (.getstatic 38, 3) := by decide +kernel
theorem d30 : decode yB 30 = .ok (.ifCond (.eq) 28, 3) := by decide +kernel
theorem d33 : decode yB 33 = .ok (.aload_n 1, 1) := by decide +kernel
theorem d34 : decode yB 34 = .ok (.iload_n 2, 1) := by decide +kernel
theorem d35 : decode yB 35 = .ok (.iload_n 3, 1) := by decide +kernel
theorem d36 : decode yB 36 = .ok (.invokestatic 177, 3) := by decide +kernel
theorem d39 : decode yB 39 = .ok (.astore 5, 2) := by decide +kernel
theorem d41 : decode yB 41 = .ok (.aload_n 0, 1) := by decide +kernel
theorem d42 : decode yB 42 = .ok (.aload 5, 2) := by decide +kernel
theorem d44 : decode yB 44 = .ok (.iload_n 3, 1) := by decide +kernel
theorem d45 : decode yB 45 = .ok (.invokestatic 47, 3) := by decide +kernel
theorem d48 : decode yB 48 = .ok (.putfield 15, 3) := by decide +kernel
theorem d51 : decode yB 51 = .ok (.aload_n 0, 1) := by decide +kernel
theorem d52 : decode yB 52 = .ok (.aload 5, 2) := by decide +kernel
theorem d54 : decode yB 54 = .ok (.putfield 9, 3) := by decide +kernel
theorem d57 : decode yB 57 = .ok (.return_, 1) := by decide +kernel
def site : List Cond := [.fieldLink "java/lang/String" 38 "java/lang/String" "COMPACT_STRINGS" "Z", Cmp3.tab, CodL.tab, .laysFinal "java/lang/String" "java/lang/String" "value" "[B", .fieldLink "java/lang/String" 9 "java/lang/String" "value" "[B", .laysFinal "java/lang/String" "java/lang/String" "coder" "B", .fieldLink "java/lang/String" 15 "java/lang/String" "coder" "B"] ++ objW "java/lang/String" 1 ++ staticW "java/lang/String" 177 Cmp3.yN ++ staticW "java/lang/String" 47 CodL.yN
def tab : Cond := tabOf yN yB 6 none site
def P (a : Addr) (D : Cell) (fV fC : Field) (b : Addr) (A : Cell) (z : Int32) (o len : Nat) (args : Array Value) (s : State) : Prop := args = #[.ref a, .ref b, .int (Int32.ofNat o), .int (Int32.ofNat len), .null] ∧ Blank "java/lang/String" a D s ∧ Found "java/lang/String" "value" "[B" fV s ∧ Found "java/lang/String" "coder" "B" fC s ∧ Ch b A s ∧ StaticIs s "java/lang/String" "COMPACT_STRINGS" "Z" (.int z) ∧ ¬ z = 0 ∧ 0 < len ∧ o + len ≤ A.slots.size ∧ len ≤ 536870912 ∧ ∀ i, i < len → ¬ 255 < cv A (o + i)
def E (a : Addr) (D : Cell) (fV fC : Field) (A : Cell) (o len : Nat) (r : Option Value) (s u : State) : Prop := Got a D fV fC A o len r s u
/-- len > 0, no char of the range above 255: a Latin-1 String of their low bytes -/
theorem law (l : Launch) (a : Addr) (D : Cell) (fV fC : Field) (b : Addr) (A : Cell) (z : Int32) (o len : Nat) : Law l yN 5 4 2 35 yB 6 none site (P a D fV fC b A z o len) (E a D fV fC A o len) [⟨a, fC.slot⟩, ⟨a, fV.slot⟩] 1 len := by
  refine Law.of_walk (plainFor_of_name (by decide +kernel)) (by decide +kernel) (by decide +kernel) (by decide) (fun _ _ h => by rw [h.1]; rfl) (fun _ U U' hal hh h => ⟨h.1, h.2.1.mv hal hh, h.2.2.1.al hal, h.2.2.2.1.al hal, h.2.2.2.2.1.mv hal hh, h.2.2.2.2.2.1.there hal hh, h.2.2.2.2.2.2⟩) (fun r U U' V V' h1 hal h2 h => Got.mv r U U' V V' h1 hal h2 h) ?_
  intro p e s m args below meth c s₁ X0 hexec hbytes hml hret hlk hnm hown hh0 W hP
  obtain ⟨rfl, hB, f1, f2, hA, s1, hz, l0, l1, l2, hp⟩ := hP
  have a31 := hA.1.2.2.2
  have c1 : Steps p.tables e below (s₁.setTop (entryFrame m #[.ref a, .ref b, .int (Int32.ofNat o), .int (Int32.ofNat len), .null] 6)) (s₁.setTop (mkF m 0 #[.val (.ref a), .val (.ref b), .val (.int (Int32.ofNat o)), .val (.int (Int32.ofNat len)), .val .null, .unset] [])) := entry rfl
  have c2 : Steps p.tables e below (s₁.setTop (entryFrame m #[.ref a, .ref b, .int (Int32.ofNat o), .int (Int32.ofNat len), .null] 6)) (s₁.setTop (mkF m 1 #[.val (.ref a), .val (.ref b), .val (.int (Int32.ofNat o)), .val (.int (Int32.ofNat len)), .val .null, .unset] [.ref a])) := c1.trans (by
    refine XS.aloadN X0.here hexec rfl (hb hbytes d0) rfl rfl ?_
    exact Steps.refl _)
  obtain ⟨T3, X3, q3, st3⟩ := X0.oinit hexec hown (wks W (objW "java/lang/String" 1)) (g := (mkF m 1 #[.val (.ref a), .val (.ref b), .val (.int (Int32.ofNat o)), .val (.int (Int32.ofNat len)), .val .null, .unset] [.ref a])) rfl (by rw [hml]; rfl) (rest := []) rfl (hb hbytes d1) (W := 0) (by show 2 * 0 + 0 ≤ _; decide) (Nat.le_of_ble_eq_true rfl) (Nat.le_of_ble_eq_true rfl)
  have hh3 := q3.trans hh0
  have c4 : Steps p.tables e below (s₁.setTop (entryFrame m #[.ref a, .ref b, .int (Int32.ofNat o), .int (Int32.ofNat len), .null] 6)) (T3.setTop (mkF m 27 #[.val (.ref a), .val (.ref b), .val (.int (Int32.ofNat o)), .val (.int (Int32.ofNat len)), .val .null, .unset] [])) := (c2.trans (st3 _ (Steps.refl _))).trans (by
    refine XS.iloadN X3.here hexec rfl (hb hbytes d4) rfl ?_
    refine XS.ifYes X3.here hexec rfl (pc0 := 5) rfl (hb hbytes d5) rfl (i0_ne_t (nz32 (by omega) l0)) (by decide) rfl ?_
    exact Steps.refl _)
  obtain ⟨T5, X5, q5, st5⟩ := X3.sget hexec hown (wk W (.fieldLink "java/lang/String" 38 "java/lang/String" "COMPACT_STRINGS" "Z")) s1 (fun _ _ h => by rw [hh3]; exact h) (g := (mkF m 27 #[.val (.ref a), .val (.ref b), .val (.int (Int32.ofNat o)), .val (.int (Int32.ofNat len)), .val .null, .unset] [])) rfl (hb hbytes d27)
  have hh5 := q5.trans hh3
  have c6 : Steps p.tables e below (s₁.setTop (entryFrame m #[.ref a, .ref b, .int (Int32.ofNat o), .int (Int32.ofNat len), .null] 6)) (T5.setTop (mkF m 30 #[.val (.ref a), .val (.ref b), .val (.int (Int32.ofNat o)), .val (.int (Int32.ofNat len)), .val .null, .unset] [.int z])) := c4.trans (st5 _ (Steps.refl _))
  have c7 : Steps p.tables e below (s₁.setTop (entryFrame m #[.ref a, .ref b, .int (Int32.ofNat o), .int (Int32.ofNat len), .null] 6)) (T5.setTop (mkF m 36 #[.val (.ref a), .val (.ref b), .val (.int (Int32.ofNat o)), .val (.int (Int32.ofNat len)), .val .null, .unset] [.int (Int32.ofNat len), .int (Int32.ofNat o), .ref b])) := c6.trans (by
    refine XS.ifNo X5.here hexec rfl (hb hbytes d30) rfl (i0_eq_f hz) ?_
    refine XS.aloadN X5.here hexec rfl (hb hbytes d33) rfl rfl ?_
    refine XS.iloadN X5.here hexec rfl (hb hbytes d34) rfl ?_
    refine XS.iloadN X5.here hexec rfl (hb hbytes d35) rfl ?_
    exact Steps.refl _)
  obtain ⟨v8, T8, X8, E8, g8⟩ := X5.callS hexec (Cmp3.law l b A o len) hown (wks W (staticW "java/lang/String" 177 Cmp3.yN)) (wk W Cmp3.tab) (W := 0) (Nat.le_of_ble_eq_true rfl) (Nat.le_of_ble_eq_true rfl) (Nat.le_refl _) (by show 0 + len ≤ len; omega) (g := (mkF m 36 #[.val (.ref a), .val (.ref b), .val (.int (Int32.ofNat o)), .val (.int (Int32.ofNat len)), .val .null, .unset] [.int (Int32.ofNat len), .int (Int32.ofNat o), .ref b])) rfl (by rw [hml]; rfl) c7 (argsL := [.ref b, .int (Int32.ofNat o), .int (Int32.ofNat len)]) (rest := []) rfl rfl (by show 2 * 0 + 0 ≤ _; decide) (hb hbytes d36) (⟨rfl, hA.mv X5.warmed.alike hh5, l1, l2, hp⟩)
  obtain ⟨e8, z8⟩ := E8
  obtain ⟨rfl, N, n1, n2, n3, n4, n5, n6⟩ := NewArr.mv _ T5 s _ _ hh5.symm (Vm.Alike.refl _) rfl e8
  rw [hh5] at z8
  have hB1 := hB.keep X8.warmed.alike (n6 _ _ hB.1)
  have hne : s.heap.size ≠ a := (Nat.ne_of_lt (Array.getElem?_eq_some_iff.mp hB.1).1).symm
  have c9 : Steps p.tables e below (s₁.setTop (entryFrame m #[.ref a, .ref b, .int (Int32.ofNat o), .int (Int32.ofNat len), .null] 6)) (T8.setTop (mkF m 39 #[.val (.ref a), .val (.ref b), .val (.int (Int32.ofNat o)), .val (.int (Int32.ofNat len)), .val .null, .unset] [.ref s.heap.size])) := g8
  have c10 : Steps p.tables e below (s₁.setTop (entryFrame m #[.ref a, .ref b, .int (Int32.ofNat o), .int (Int32.ofNat len), .null] 6)) (T8.setTop (mkF m 45 #[.val (.ref a), .val (.ref b), .val (.int (Int32.ofNat o)), .val (.int (Int32.ofNat len)), .val .null, .val (.ref s.heap.size)] [.int (Int32.ofNat N.slots.size), .ref s.heap.size, .ref a])) := by
    have hc : Steps p.tables e below (s₁.setTop (entryFrame m #[.ref a, .ref b, .int (Int32.ofNat o), .int (Int32.ofNat len), .null] 6)) (T8.setTop (mkF m 45 #[.val (.ref a), .val (.ref b), .val (.int (Int32.ofNat o)), .val (.int (Int32.ofNat len)), .val .null, .val (.ref s.heap.size)] [.int (Int32.ofNat len), .ref s.heap.size, .ref a])) := c9.trans (by
      refine XS.astore X8.here hexec rfl (hb hbytes d39) rfl rfl rfl ?_
      refine XS.aloadN X8.here hexec rfl (hb hbytes d41) rfl rfl ?_
      refine XS.aload X8.here hexec rfl (hb hbytes d42) rfl rfl ?_
      refine XS.iloadN X8.here hexec rfl (hb hbytes d44) rfl ?_
      exact Steps.refl _)
    rw [n4]; exact hc
  obtain ⟨v11, T11, X11, E11, g11⟩ := X8.callS hexec (CodL.law l s.heap.size N) hown (wks W (staticW "java/lang/String" 47 CodL.yN)) (wk W CodL.tab) (W := 1) (Nat.le_of_ble_eq_true rfl) (Nat.le_of_ble_eq_true rfl) (Nat.le_refl _) (by show 0 + len + 0 ≤ len; omega) (g := (mkF m 45 #[.val (.ref a), .val (.ref b), .val (.int (Int32.ofNat o)), .val (.int (Int32.ofNat len)), .val .null, .val (.ref s.heap.size)] [.int (Int32.ofNat N.slots.size), .ref s.heap.size, .ref a])) rfl (by rw [hml]; rfl) c10 (argsL := [.ref s.heap.size, .int (Int32.ofNat N.slots.size)]) (rest := [.ref a]) rfl rfl (by show 2 * 0 + (1 + 0) ≤ _; decide) (hb hbytes d45) (⟨rfl, n1⟩)
  obtain ⟨rfl, q11⟩ := E11
  have hB11 := hB1.mv (X8.warmed.alike.symm.trans X11.warmed.alike) q11
  have c12 : Steps p.tables e below (s₁.setTop (entryFrame m #[.ref a, .ref b, .int (Int32.ofNat o), .int (Int32.ofNat len), .null] 6)) (T11.setTop (mkF m 48 #[.val (.ref a), .val (.ref b), .val (.int (Int32.ofNat o)), .val (.int (Int32.ofNat len)), .val .null, .val (.ref s.heap.size)] [.int 0, .ref a])) := g11
  obtain ⟨T13, X13, p13, bl13, sl13, st13⟩ := X11.finit hexec hown (wk W (.fieldLink "java/lang/String" 15 "java/lang/String" "coder" "B")) (Or.inr ⟨_, (wk W (.laysFinal "java/lang/String" "java/lang/String" "coder" "B"))⟩) (Or.inl ⟨rfl, hnm⟩) f2 (Or.inl rfl) hB11 (t := .byte) (by decide +kernel) rfl (g := (mkF m 48 #[.val (.ref a), .val (.ref b), .val (.int (Int32.ofNat o)), .val (.int (Int32.ofNat len)), .val .null, .val (.ref s.heap.size)] [.int 0, .ref a])) rfl (rest := []) rfl (hb hbytes d48)
  have c14 : Steps p.tables e below (s₁.setTop (entryFrame m #[.ref a, .ref b, .int (Int32.ofNat o), .int (Int32.ofNat len), .null] 6)) (T13.setTop (mkF m 54 #[.val (.ref a), .val (.ref b), .val (.int (Int32.ofNat o)), .val (.int (Int32.ofNat len)), .val .null, .val (.ref s.heap.size)] [.ref s.heap.size, .ref a])) := (c12.trans (st13 _ (Steps.refl _))).trans (by
    refine XS.aloadN X13.here hexec rfl (hb hbytes d51) rfl rfl ?_
    refine XS.aload X13.here hexec rfl (hb hbytes d52) rfl rfl ?_
    exact Steps.refl _)
  obtain ⟨T15, X15, p15, bl15, sl15, st15⟩ := X13.finit hexec hown (wk W (.fieldLink "java/lang/String" 9 "java/lang/String" "value" "[B")) (Or.inr ⟨_, (wk W (.laysFinal "java/lang/String" "java/lang/String" "value" "[B"))⟩) (Or.inl ⟨rfl, hnm⟩) f1 (Or.inl rfl) bl13 (t := (.array .byte)) (by decide +kernel) rfl (g := (mkF m 54 #[.val (.ref a), .val (.ref b), .val (.int (Int32.ofNat o)), .val (.int (Int32.ofNat len)), .val .null, .val (.ref s.heap.size)] [.ref s.heap.size, .ref a])) rfl (rest := []) rfl (hb hbytes d54)
  have c16 : Steps p.tables e below (s₁.setTop (entryFrame m #[.ref a, .ref b, .int (Int32.ofNat o), .int (Int32.ofNat len), .null] 6)) (T15.setTop (mkF m 57 #[.val (.ref a), .val (.ref b), .val (.int (Int32.ofNat o)), .val (.int (Int32.ofNat len)), .val .null, .val (.ref s.heap.size)] [])) := c14.trans (st15 _ (Steps.refl _))
  have ap := apart (Or.inr ⟨_, (wk W (.laysFinal "java/lang/String" "java/lang/String" "value" "[B"))⟩) (Or.inr ⟨_, (wk W (.laysFinal "java/lang/String" "java/lang/String" "coder" "B"))⟩) f1 f2 (t₁ := .array .byte) (t₂ := .byte) (by decide +kernel) (by decide +kernel) (by decide)
  have al := X8.warmed.alike.symm.trans X15.warmed.alike
  have n7 : T11.heap[s.heap.size]? = some N := by rw [q11]; exact n1.1
  exact ⟨T15, none, _, _, _, X15, by simp, rfl, by omega, (fun _ => rfl), ⟨rfl, _, N, bl15, ((Same.refl D _).set _ (by simp)).set _ (by simp), sl15, (Cell.slots_setSlot_ne _ ap).trans sl13, n1.keep al (p15.other hne (p13.other hne n7)), n2, by rw [al.findClass]; exact n3, n4, n5, fun y c h1 h2 => p15.other h1 (p13.other h1 (by rw [q11]; exact n6 y c h2)), by rw [p15.2.2, p13.2.2, q11]; exact z8⟩, fun fs hl => c16.trans (X15.returnOut hexec hret (hb hbytes d57) hl)⟩
end New4
namespace New1
def yN : MethodName := ⟨"java/lang/String", "<init>", "([C)V"⟩
abbrev yB : ByteArray := jdk_42_method_3_code
theorem d0 : decode yB 0 = .ok (.aload_n 0, 1) := by decide +kernel
theorem d1 : decode yB 1 = .ok (.aload_n 1, 1) := by decide +kernel
theorem d2 : decode yB 2 = .ok (.iconst 0, 1) := by decide +kernel
theorem d3 : decode yB 3 = .ok (.aload_n 1, 1) := by decide +kernel
theorem d4 : decode yB 4 = .ok (.arraylength, 1) := by decide +kernel
theorem d5 : decode yB 5 = .ok (.aconst_null, 1) := by decide +kernel
theorem d6 : decode yB 6 = .ok (.invokespecial 27, 3) := by decide +kernel
theorem d9 : decode yB 9 = .ok (.return_, 1) := by decide +kernel
def site : List Cond := [New4.tab] ++ initW "java/lang/String" 27 New4.yN
def tab : Cond := tabOf yN yB 2 none site
def P (a : Addr) (D : Cell) (fV fC : Field) (b : Addr) (A : Cell) (z : Int32) (args : Array Value) (s : State) : Prop := args = #[.ref a, .ref b] ∧ Blank "java/lang/String" a D s ∧ Found "java/lang/String" "value" "[B" fV s ∧ Found "java/lang/String" "coder" "B" fC s ∧ Ch b A s ∧ StaticIs s "java/lang/String" "COMPACT_STRINGS" "Z" (.int z) ∧ ¬ z = 0 ∧ 0 < A.slots.size ∧ A.slots.size ≤ 536870912 ∧ ∀ i, i < A.slots.size → ¬ 255 < cv A i
def E (a : Addr) (D : Cell) (fV fC : Field) (A : Cell) (r : Option Value) (s u : State) : Prop := Got a D fV fC A 0 A.slots.size r s u
/-- new String(chars), not empty, no char above 255: a Latin-1 String of their low bytes -/
theorem law (l : Launch) (a : Addr) (D : Cell) (fV fC : Field) (b : Addr) (A : Cell) (z : Int32) : Law l yN 2 1 3 52 yB 2 none site (P a D fV fC b A z) (E a D fV fC A) [⟨a, fC.slot⟩, ⟨a, fV.slot⟩] 1 A.slots.size := by
  refine Law.of_walk (plainFor_of_name (by decide +kernel)) (by decide +kernel) (by decide +kernel) (by decide) (fun _ _ h => by rw [h.1]; rfl) (fun _ U U' hal hh h => ⟨h.1, h.2.1.mv hal hh, h.2.2.1.al hal, h.2.2.2.1.al hal, h.2.2.2.2.1.mv hal hh, h.2.2.2.2.2.1.there hal hh, h.2.2.2.2.2.2⟩) (fun r U U' V V' h1 hal h2 h => Got.mv r U U' V V' h1 hal h2 h) ?_
  intro p e s m args below meth c s₁ X0 hexec hbytes hml hret hlk hnm hown hh0 W hP
  obtain ⟨rfl, hB, f1, f2, hA, s1, hz, l0, l2, hp⟩ := hP
  have c1 : Steps p.tables e below (s₁.setTop (entryFrame m #[.ref a, .ref b] 2)) (s₁.setTop (mkF m 0 #[.val (.ref a), .val (.ref b)] [])) := entry rfl
  have c2 : Steps p.tables e below (s₁.setTop (entryFrame m #[.ref a, .ref b] 2)) (s₁.setTop (mkF m 6 #[.val (.ref a), .val (.ref b)] [.null, .int (Int32.ofNat A.slots.size), .int 0, .ref b, .ref a])) := c1.trans (by
    refine XS.aloadN X0.here hexec rfl (hb hbytes d0) rfl rfl ?_
    refine XS.aloadN X0.here hexec rfl (hb hbytes d1) rfl rfl ?_
    refine iconstV X0.here hexec rfl 0 (hb hbytes d2) (by decide) ?_
    refine XS.aloadN X0.here hexec rfl (hb hbytes d3) rfl rfl ?_
    refine X0.alen hexec (hA.1.mv X0.warmed.alike hh0) rfl rfl (hb hbytes d4) ?_
    refine XS.aconstNull X0.here hexec rfl (hb hbytes d5) ?_
    exact Steps.refl _)
  obtain ⟨v3, T3, X3, E3, g3⟩ := X0.callN hexec (New4.law l a D fV fC b A z 0 A.slots.size) rfl hown (wks W (initW "java/lang/String" 27 New4.yN)) (W New4.tab (by simp only [site, List.mem_cons, List.mem_append, true_or, or_true])) (W := 0) (Nat.le_of_ble_eq_true rfl) (Nat.le_of_ble_eq_true rfl) (Nat.le_refl _) (by show 0 + A.slots.size ≤ A.slots.size; omega) (g := (mkF m 6 #[.val (.ref a), .val (.ref b)] [.null, .int (Int32.ofNat A.slots.size), .int (Int32.ofNat 0), .ref b, .ref a])) rfl (by rw [hml]; rfl) c2 (argsL := [.ref b, .int (Int32.ofNat 0), .int (Int32.ofNat A.slots.size), .null]) (rest := []) rfl rfl (by show 2 * 0 + 0 ≤ _; decide) (hb hbytes d6) (⟨rfl, hB.mv X0.warmed.alike hh0, f1.al X0.warmed.alike, f2.al X0.warmed.alike, hA.mv X0.warmed.alike hh0, s1.there X0.warmed.alike hh0, hz, l0, by omega, l2, fun i hi => by rw [Nat.zero_add]; exact hp i hi⟩)
  have e0 := Got.mv _ s₁ s _ _ hh0.symm (Vm.Alike.refl _) rfl E3
  obtain rfl := e0.1
  have c4 : Steps p.tables e below (s₁.setTop (entryFrame m #[.ref a, .ref b] 2)) (T3.setTop (mkF m 9 #[.val (.ref a), .val (.ref b)] [])) := g3
  exact ⟨T3, none, _, _, _, X3, by simp, rfl, by omega, (fun _ => rfl), e0, fun fs hl => c4.trans (X3.returnOut hexec hret (hb hbytes d9) hl)⟩
theorem pays {l : Launch} {R : Room} {p : Program} {e : Env} {below : List Frame} {s : State} {sargs : Array Value} {len W : Nat} (a : Addr) (D : Cell) (fV fC : Field) (b : Addr) (A : Cell) (z : Int32) (htab : tab.before sargs s = true) (hfr : 4 ≤ R.frames) (hlo : W + 65 ≤ R.locals) :
    Back l R p e below s sargs yN len W (fun A₁ a₁ => A₁.cells + 1 ≤ R.cells ∧ A₁.slots + A.slots.size ≤ R.slots ∧ P a D fV fC b A z a₁ A₁.U) (fun A₁ _ v₁ B₁ => E a D fV fC A v₁ A₁.U B₁.U ∧ B₁.locs = A₁.locs ++ [⟨a, fC.slot⟩, ⟨a, fV.slot⟩] ∧ B₁.cells = A₁.cells + 1 ∧ B₁.slots = A₁.slots + A.slots.size) :=
  (law l a D fV fC b A z).pays htab hfr (by omega)
end New1
end StrChars
namespace StrChars.Road
open Jvm Sem ClassFile Op Lib Jvm.Stand Jvm.Free Jvm.Free.XT
open Jvm.Lib.Cold (StaticIs)
abbrev ST : String := "java/lang/String"
/-- every table word that New1's law asks, flat -/
abbrev words : List Jvm.Cond := [.code New1.yN New1.yB 2 none, .initialized ST, .methodLink ST 27 New4.yN, .instanceMethod New4.yN,
  .code New4.yN New4.yB 6 none, .fieldLink ST 38 ST "COMPACT_STRINGS" "Z", .laysFinal ST ST "value" "[B", .fieldLink ST 9 ST "value" "[B", .laysFinal ST ST "coder" "B", .fieldLink ST 15 ST "coder" "B",
  .methodLink ST 1 Lib.objectInit, .instanceMethod Lib.objectInit, .code Lib.objectInit ⟨#[0xb1]⟩ 1 none, .methodLink ST 177 Cmp3.yN, .static Cmp3.yN, .methodLink ST 47 CodL.yN, .static CodL.yN,
  .code Cmp3.yN Cmp3.yB 6 (some (.array .byte)), .initialized U16, .arrayClass .byte, .methodLink U16 115 Cmp5.yN, .static Cmp5.yN, .code Cmp5.yN Cmp5.yB 7 (some .int), .code CodL.yN CodL.yB 2 (some .byte)]
theorem tab_of {a : Array Value} {s : State} (h : ∀ w ∈ words, w.before a s = true) : New1.tab.before a s = true := by
  have h5 : Cmp5.tab.before a s = true := unparts (wk h (.code Cmp5.yN Cmp5.yB 7 (some .int))) (wks h (.initialized Cmp5.yN.cls :: Cmp5.site))
  have hc : CodL.tab.before a s = true := unparts (wk h (.code CodL.yN CodL.yB 2 (some .byte))) (wks h (.initialized CodL.yN.cls :: CodL.site))
  have q5 : ∀ w ∈ Cmp5.tab :: words, w.before a s = true := fun w hw => (List.mem_cons.mp hw).elim (fun e => e ▸ h5) (h w)
  have h3 : Cmp3.tab.before a s = true := unparts (wk q5 (.code Cmp3.yN Cmp3.yB 6 (some (.array .byte)))) (wks q5 (.initialized Cmp3.yN.cls :: Cmp3.site))
  have q3 : ∀ w ∈ Cmp3.tab :: CodL.tab :: words, w.before a s = true := fun w hw => (List.mem_cons.mp hw).elim (fun e => e ▸ h3) fun hw => (List.mem_cons.mp hw).elim (fun e => e ▸ hc) (h w)
  have h4 : New4.tab.before a s = true := unparts (wk q3 (.code New4.yN New4.yB 6 none)) (wks q3 (.initialized New4.yN.cls :: New4.site))
  have q4 : ∀ w ∈ New4.tab :: words, w.before a s = true := fun w hw => (List.mem_cons.mp hw).elim (fun e => e ▸ h4) (h w)
  exact unparts (wk q4 (.code New1.yN New1.yB 2 none)) (wks q4 (.initialized New1.yN.cls :: New1.site))
/-- the words ride from the start Z to the walk's own state -/
theorem moved {Z s : State} {a0 args : Array Value} (hZ : Z.Warmed39 s.vm) (hw : ∀ d ∈ words, d.before a0 Z = true) : ∀ d ∈ words, d.before args s = true := fun d hd => by
  have q := hw d hd
  have t : ∀ d ∈ words, d = .arrayClass .byte ∨ (d.onTables && d.keepsFace) = true := by decide +kernel
  rcases t d hd with rfl | t
  · exact RoadKit.mvA hZ q
  · exact RoadKit.mv hZ q t
/-- WHAT COMES BACK, over the tables of the start Z: h the heap at the call, h' behind it -/
def Q (Z : State) (x : Addr) (A : Cell) (h : Heap) (v : Option Value) (h' : Heap) (L : List Loc) : Prop := v = none ∧ (∀ y ∈ L, y.base = x) ∧ RoadKit.Keep h h' [x] ∧ h'.size = h.size + 1 ∧ RoadKit.Exa Z h' x ST ∧ RoadKit.Fld Z h' x ST "value" "[B" (.ref h.size) ∧ RoadKit.Fld Z h' x ST "coder" "B" (.int 0) ∧
  (∃ V : Cell, RoadKit.Arr Z h' h.size V .byte ∧ V.vm = .none ∧ Z.vm.findClass "[B" = some V.cls ∧ V.slots.size = A.slots.size ∧ ∀ j, j < A.slots.size → V.slots[j]? = some (.int (lo8 (cv A j)))) ∧
  ∀ (O n d : String) (w : Value), RoadKit.Fld Z h x O n d w → RoadKit.slotOf Z O n d ≠ RoadKit.slotOf Z ST "value" "[B" → RoadKit.slotOf Z O n d ≠ RoadKit.slotOf Z ST "coder" "B" → RoadKit.Fld Z h' x O n d w
/-- **new String(chars) AT A CALL, IN THE ROAD'S FORM**: for specialBack behind newO: x the fresh String, b the char[] with the cell A -/
theorem back {p : Program} {l : Launch} {e : Env} {R : Room} {s : State} {args : Array Value} {below : List Frame} {len W : Nat} {Z : State} {a0 : Array Value} {h : Heap} (hZ : Z.Warmed39 s.vm) (hw : ∀ d ∈ words, d.before a0 Z = true) {kI : Nat} (wi : (Jvm.Cond.instantiable ST kI).before a0 Z = true)
    {x b : Addr} {A : Cell} {z : Int32} {v0 c0 : Value} (E : RoadKit.Exa Z h x ST) (V : RoadKit.Fld Z h x ST "value" "[B" v0) (C : RoadKit.Fld Z h x ST "coder" "B" c0) (K : RoadKit.Arr Z h b A .char) (hty : Typed .char A) (S : RoadKit.Sta Z h ST "COMPACT_STRINGS" "Z" (.int z)) (hz : ¬ z = 0)
    (l0 : 0 < A.slots.size) (l2 : A.slots.size ≤ 536870912) (hp : ∀ i, i < A.slots.size → ¬ 255 < cv A i) (hfr : 4 ≤ R.frames) (hlo : W + 65 ≤ R.locals) :
    Back l R p e below s args New1.yN len W (fun P a => a = #[.ref x, .ref b] ∧ P.U.heap = h ∧ P.cells + 1 ≤ R.cells ∧ P.slots + A.slots.size ≤ R.slots)
      (fun P _ v B => ∃ L, Q Z x A h v B.U.heap L ∧ B.locs = P.locs ++ L ∧ B.cells = P.cells + 1 ∧ B.slots = P.slots + A.slots.size) := by
  intro m meth c P g ig mk a X hg hsize hdg hW hn hp'
  obtain ⟨rfl, rfl, r1, r2⟩ := hp'
  have al : Z.vm.Alike P.U.vm := hZ.alike.trans X.warmed.alike
  obtain ⟨D, cfV, kV, iV, fV, hD, gV, stV, knV, obV, asV, slV⟩ := id V
  obtain ⟨D', cfC, kC, iC, fC, hD', gC, stC, -, -, asC, slC⟩ := id C
  cases hD.symm.trans hD'
  obtain ⟨D2, kD, e1, e2, e3, e4, e5⟩ := id E
  cases hD.symm.trans e1
  obtain ⟨c2, k2, i1, i2, i3, -⟩ := Cond.instantiable_spec wi
  cases e2.symm.trans i1
  cases e3.symm.trans i2
  obtain ⟨kU, u1, u2⟩ := al.2.2 _ _ e3
  have hB : Blank ST x D P.U := ⟨hD, ⟨knV, fun q hq => by rw [hq] at obV; cases obV⟩, by rw [al.findClass]; exact e2, kU, u1, by rw [u2]; exact i3, by rw [u2]; exact e5 i3⟩
  have F1 : Found ST "value" "[B" fV P.U := ⟨SBG.found_only al ⟨cfV, kV, iV, gV⟩, stV⟩
  have F2 : Found ST "coder" "B" fC P.U := ⟨SBG.found_only al ⟨cfC, kC, iC, gC⟩, stC⟩
  have hA : Ch b A P.U := ⟨⟨K.1, State.isArrayOf_alike al K.2.1, K.2.2, by omega⟩, hty⟩
  have hS : StaticIs P.U ST "COMPACT_STRINGS" "Z" (.int z) := by
    obtain ⟨cfS, iS, kS, fS, st, cS, t1, t2, t3, t4, t5, t6, t7⟩ := S
    exact StaticIs.there (s := { Z with heap := P.U.heap }) ⟨cfS, iS, kS, fS, st, cS, t1, t2, t3, t4, t5, (fun q => by rw [q] at t6; cases t6), t7⟩ al rfl
  obtain ⟨v, B, X', ⟨⟨hv, E', V', q1, q2, q3, q4, q5, q6, q7, q8, q9, q10, q11⟩, hl, hc, hs⟩, st⟩ := New1.pays x D fV fC b A z (tab_of (moved hZ hw)) hfr hlo m meth c P g ig mk _ X hg hsize hdg hW hn ⟨r1, r2, rfl, hB, F1, F2, hA, hS, hz, l0, l2, hp⟩
  have al' : Z.vm.Alike B.U.vm := hZ.alike.trans X'.warmed.alike
  have hsz : E'.slots.size = D.slots.size := by
    obtain ⟨-, -, -, kB, w1, w2, w3⟩ := q1
    obtain ⟨kB', y1, y2⟩ := al'.2.2 _ _ e3
    rw [q2.2.1] at w1
    cases w1.symm.trans y1
    rw [w3, e5 i3, y2]
  refine ⟨v, B, X', ⟨_, ⟨hv, ?_, ⟨by omega, fun y cy hy hn' => q10 y cy (by simpa using hn') hy, fun y cy hy => ?_⟩, q11, ⟨E', _, q1.1, by rw [q2.2.1]; exact e2, by rw [q2.2.1]; exact e3, by rw [q2.1]; exact obV, fun _ => by rw [hsz]; exact e5 i3⟩,
    ⟨E', cfV, kV, iV, fV, q1.1, gV, stV, by rw [q2.1]; exact knV, by rw [q2.1]; exact obV, by rw [q2.2.1]; exact asV, q3⟩, ⟨E', cfC, kC, iC, fC, q1.1, gC, stC, by rw [q2.1]; exact knV, by rw [q2.1]; exact obV, by rw [q2.2.1]; exact asC, q4⟩,
    ⟨V', ⟨q5.1, State.isArrayOf_alike al'.symm q5.2.1, q5.2.2.1⟩, q6, by rw [← al'.findClass]; exact q7, q8, fun j hj => by have := q9 j hj; rwa [Nat.zero_add] at this⟩, fun O n d w F n1 n2 => ?_⟩, hl, hc, hs⟩, st⟩
  · intro y hy
    simp only [List.mem_cons, List.not_mem_nil, or_false] at hy
    rcases hy with rfl | rfl <;> rfl
  · by_cases q : y = x
    · subst q
      cases hD.symm.trans hy
      exact ⟨E', q1.1, q2.2.1, q2.1, hsz⟩
    · exact ⟨cy, q10 y cy q hy, rfl, rfl, rfl⟩
  · obtain ⟨D3, cf, k, i, f, g1, g2, g3, g4, g5, g6, g7⟩ := F
    cases hD.symm.trans g1
    simp only [RoadKit.slotOf, g2, gV, gC, Option.map_some, Option.getD_some] at n1 n2
    exact ⟨E', cf, k, i, f, q1.1, g2, g3, by rw [q2.1]; exact g4, by rw [q2.1]; exact g5, by rw [q2.2.1]; exact g6, by rw [q2.2.2 f.slot (by simp [n1, n2])]; exact g7⟩
end StrChars.Road
namespace StrChars.Road
open Jvm Sem ClassFile Op Lib Jvm.Stand Jvm.Free Jvm.Free.XT
/-- WHAT COMES BACK, the byte[] as a list of values -/
def QA (Z : State) (x : Addr) (zn : Int32) (cs : List Int32) (h : Heap) (v : Option Value) (h' : Heap) (L : List Loc) : Prop := v = none ∧ (∀ y ∈ L, y.base = x) ∧ RoadKit.Keep h h' [x] ∧ h'.size = h.size + 1 ∧ RoadKit.Exa Z h' x ST ∧ RoadKit.Fld Z h' x ST "value" "[B" (.ref h.size) ∧ RoadKit.Fld Z h' x ST "coder" "B" (.int 0) ∧
  (∃ kb, Z.vm.findClass "[B" = some kb ∧ RoadKit.Arv Z h' h.size kb .byte zn (cs.map fun c => .int (lo8 c)) (.int 0)) ∧
  ∀ (O n d : String) (w : Value), RoadKit.Fld Z h x O n d w → RoadKit.slotOf Z O n d ≠ RoadKit.slotOf Z ST "value" "[B" → RoadKit.slotOf Z O n d ≠ RoadKit.slotOf Z ST "coder" "B" → RoadKit.Fld Z h' x O n d w
/-- **new String(chars) AT A CALL, THE ARRAYS AS LISTS**: the char[] at b holds cs, not empty, no char above 255 -/
theorem backArv {p : Program} {l : Launch} {e : Env} {R : Room} {s : State} {args : Array Value} {below : List Frame} {len W : Nat} {Z : State} {a0 : Array Value} {h : Heap} (hZ : Z.Warmed39 s.vm) (hw : ∀ d ∈ words, d.before a0 Z = true) {kI : Nat} (wi : (Jvm.Cond.instantiable ST kI).before a0 Z = true)
    {x b : Addr} {k : ClassId} {zn z : Int32} {cs : List Int32} {dv v0 c0 : Value} (E : RoadKit.Exa Z h x ST) (V : RoadKit.Fld Z h x ST "value" "[B" v0) (C : RoadKit.Fld Z h x ST "coder" "B" c0) (K : RoadKit.Arv Z h b k .char zn (cs.map Value.int) dv) (S : RoadKit.Sta Z h ST "COMPACT_STRINGS" "Z" (.int z)) (hz : ¬ z = 0)
    (hlen : zn.toNatClampNeg = cs.length) (h0 : 0 < cs.length) (hbig : cs.length ≤ 536870912) (hall : ∀ c ∈ cs, ¬ 255 < c) (hfr : 4 ≤ R.frames) (hlo : W + 65 ≤ R.locals) :
    Back l R p e below s args New1.yN len W (fun P a => a = #[.ref x, .ref b] ∧ P.U.heap = h ∧ P.cells + 1 ≤ R.cells ∧ P.slots + cs.length ≤ R.slots)
      (fun P _ v B => ∃ L, QA Z x zn cs h v B.U.heap L ∧ B.locs = P.locs ++ L ∧ B.cells = P.cells + 1 ∧ B.slots = P.slots + cs.length) := by
  obtain ⟨A, K1, K2, K3, K4, K5, K6⟩ := K
  have e : A.slots.size = cs.length := K3.trans hlen
  have hat : ∀ (i : Nat) (hi : i < cs.length), A.slots[i]? = some (.int cs[i]) := fun i hi => by rw [K5 i (by omega)]; simp [List.getD_eq_getElem?_getD, hi]
  have hcv : ∀ (i : Nat) (hi : i < cs.length), cv A i = cs[i] := fun i hi => by unfold cv; rw [hat i hi]
  have hty : Typed .char A := fun i v hv => by
    have hi : i < A.slots.size := (Array.getElem?_eq_some_iff.mp hv).1
    have q := K5 i hi
    rw [hv] at q
    rw [Option.some.inj q]
    exact K6 i hi
  refine Back.mono (back hZ hw wi E V C K1 hty S hz (by omega) (by omega) (fun i hi => by rw [hcv i (by omega)]; exact hall _ (List.getElem_mem _)) hfr hlo) (fun P a hp => ⟨hp.1, hp.2.1, hp.2.2.1, by rw [e]; exact hp.2.2.2⟩) (fun P a v B hp hq => ?_)
  obtain ⟨L, ⟨q1, q2, q3, q4, q5, q6, q7, ⟨V', v1, v2, v3, v4, v5⟩, q9⟩, hl, hc, hs⟩ := hq
  refine ⟨L, ⟨q1, q2, q3, q4, q5, q6, q7, ⟨V'.cls, v3, V', v1, rfl, by rw [v4, e, hlen], K4, fun i hi => ?_, fun i hi => ?_⟩, q9⟩, hl, hc, by rw [hs, e]⟩
  · have hi' : i < cs.length := by omega
    rw [v5 i (by omega), hcv i hi']; simp [List.getD_eq_getElem?_getD, hi']
  · have hi' : i < cs.length := by omega
    simp only [List.getD_eq_getElem?_getD, List.getElem?_map, List.getElem?_eq_getElem hi', Option.map_some, Option.getD_some]
    exact fits_lo8 _
end StrChars.Road
namespace StrChars.Road
open Jvm Sem ClassFile Op Lib Jvm.Stand Jvm.Free Jvm.Free.XT
/-- WHAT COMES BACK, in the writer's own shape -/
def QV (Z : State) (x : Addr) (N : Int32) (bs : List Int32) (h : Heap) (n0 : Nat) (v : Option Value) (h' : Heap) (L : List Loc) : Prop := v = none ∧ RoadKit.Fr n0 L ∧ RoadKit.Keep h h' [x] ∧ RoadKit.Exa Z h' x ST ∧ RoadKit.Fld Z h' x ST "coder" "B" (.int 0) ∧
  ∃ (t : Addr) (kb : ClassId), n0 ≤ t ∧ h.size ≤ t ∧ ¬ t = x ∧ RoadKit.Fld Z h' x ST "value" "[B" (.ref t) ∧ RoadKit.Arv Z h' t kb .byte N (bs.map Value.int) (.int 0)
/-- **new String(chars) AT A CALL, FOR THE WRITER**: a char[] of n known ints, each 0 to 255 -/
theorem backV {p : Program} {l : Launch} {e : Env} {R : Room} {s : State} {args : Array Value} {below : List Frame} {len W : Nat} {Z : State} {a0 : Array Value} {h : Heap} (hZ : Z.Warmed39 s.vm) (hw : ∀ d ∈ words, d.before a0 Z = true) {kI : Nat} (wi : (Jvm.Cond.instantiable ST kI).before a0 Z = true)
    {x b : Addr} {kC : ClassId} {cs bs : List Int32} {d v0 c0 : Value} {z N : Int32} {n n0 : Nat} (hx0 : n0 ≤ x) (hh0 : n0 ≤ h.size) (E : RoadKit.Exa Z h x ST) (V : RoadKit.Fld Z h x ST "value" "[B" v0) (C : RoadKit.Fld Z h x ST "coder" "B" c0) (K : RoadKit.Arv Z h b kC .char N (cs.map Value.int) d) (S : RoadKit.Sta Z h ST "COMPACT_STRINGS" "Z" (.int z)) (hz : ¬ z = 0)
    (hn : cs.length = n) (hN : N = Int32.ofNat n) (l0 : 0 < n) (l2 : n ≤ 4000) (hp : ∀ c ∈ cs, ¬ c < 0 ∧ ¬ (255 : Int32) < c) (hb : bs = cs.map (fun c => c.toInt8.toInt32)) (hfr : 4 ≤ R.frames) (hlo : W + 65 ≤ R.locals) :
    Back l R p e below s args (⟨"java/lang/String", "<init>", "([C)V"⟩ : MethodName) len W (fun P a => a = #[.ref x, .ref b] ∧ P.U.heap = h ∧ P.cells + 1 ≤ R.cells ∧ P.slots + n ≤ R.slots)
      (fun P _ v B => ∃ L, QV Z x N bs h n0 v B.U.heap L ∧ B.locs = P.locs ++ L ∧ B.cells = P.cells + 1 ∧ B.slots = P.slots + n) := by
  subst hn hN hb
  refine Back.mono (backArv hZ hw wi E V C K S hz (n32 (by omega)) l0 (by omega) (fun c hc => (hp c hc).2) hfr hlo) (fun P a hp => hp) (fun P a v B hp hq => ?_)
  obtain ⟨L, ⟨q1, q2, q3, q4, q5, q6, q7, ⟨kb, v1, v2⟩, q9⟩, hl, hc, hs⟩ := hq
  exact ⟨L, ⟨q1, fun y hy => by rw [q2 y hy]; exact hx0, q3, q5, q7, h.size, kb, hh0, Nat.le_refl _, Nat.ne_of_gt E.lt, q6, by rw [List.map_map]; exact v2⟩, hl, hc, hs⟩
end StrChars.Road
end Jvm.Pilot.@@N@@
namespace Jvm.Pilot.@@N@@.OwnKit
open Jvm Jvm.ClassFile Sem Op Lib Jvm.Free Jvm.Stand Jvm.LawKit Jvm.RoadKit Bundle
variable {p : Program} {l : Launch} {e : Env} {R : Room} {s : State} {m : MethodId} {args : Array Value} {below : List Frame} {meth : Method} {c : Code} {T : State} {locs : List Loc} {cells slots : Nat} {Z : State} {a0 : Array Value} {h h' : Heap}
theorem own_nat {n : Nat} (hn : n < 2 ^ 31) : (Int32.ofNat n).toNatClampNeg = n := by show (Int32.ofNat n).toInt.toNat = n; rw [Int32.toInt_ofNat_small hn]; rfl
theorem own_frc {n0 : Nat} {L : List Loc} {d : Addr} {k n : Nat} (N : Fr n0 L) (q : n0 ≤ d) : Fr n0 (L ++ copyLocs d k n) := Fr.app N fun y hy => by
  obtain ⟨i, -, rfl⟩ := List.mem_map.mp hy; exact q
/-- System.arraycopy(src, 0, dst, 0, n) of byte[]s, all of the source's list -/
theorem own_acp (X : Stand p l e R s m args below meth c T locs cells slots) (hx : p.tables.exec = Jvm.exec) (hZ : Z.Warmed39 s.vm) {own : String} {index : Nat} (hown : s.vm.findClass own = some m.cls)
    (w1 : (Cond.methodLink own index acN).before a0 Z = true) (w2 : (Cond.native acN).before a0 Z = true) (w3 : (Cond.static acN).before a0 Z = true) (w4 : (Cond.initialized "java/lang/System").before a0 Z = true)
    (eT : T.heap = h) {src dst : Addr} {ks kd : ClassId} {zs zd : Int32} {vs : List Value} {n : Nat} (A : Arv Z h src ks .byte zs vs (.int 0)) (B : Arv Z h dst kd .byte zd [] (.int 0)) (hne : src ≠ dst) (hv : vs.length = n) (h31 : n < 2 ^ 31) (h1 : n ≤ zs.toNatClampNeg) (h2 : n ≤ zd.toNatClampNeg)
    {g : JFrame} (hg : g.method = m) (hsize : g.locals.size = c.maxLocals) {rest : List Value} (hstack : g.stack = .int (Int32.ofNat n) :: .int 0 :: .ref dst :: .int 0 :: .ref src :: rest) (hdg : decode c.code g.pc = .ok (.invokestatic index, 3))
    (hframes : 1 ≤ R.frames) (hlocals : 2 * g.monitorRoom + (rest.map fun v => v.category).sum + (nativeFrameWords "java/lang/System" "arraycopy" 5 + 11) ≤ R.locals) :
    ∃ T' h', Stand p l e R s m args below meth c T' (locs ++ copyLocs dst 0 n) cells slots ∧ T'.heap = h' ∧ Keep h h' [dst] ∧ Arv Z h' dst kd .byte zd vs (.int 0) ∧
      ∀ target, Steps p.tables e below (T'.setTop { g with pc := g.pc + 3, stack := rest }) target → Steps p.tables e below (T.setTop g) target := by
  obtain ⟨cs, As, qs, Ss, Ns, Hs, Gs⟩ := A
  obtain ⟨cd, Ad, qd, Sd, Nd, Hd, Gd⟩ := B
  subst eT
  have I1 := State.isArrayOf_alike hZ.alike As.2.1
  have I2 := State.isArrayOf_alike hZ.alike Ad.2.1
  obtain ⟨u1, k1, v1, c1, t1⟩ := I1
  obtain ⟨u2, k2, v2, c2, t2⟩ := I2
  have en : (Int32.ofNat n).toInt = n := Int32.toInt_ofNat_small h31
  have ez : (0 : Int32).toInt = 0 := by decide
  have eN : (Int32.ofNat n).toNatClampNeg = n := own_nat h31
  have e0 : (0 : Int32).toNatClampNeg = 0 := by decide
  obtain ⟨vm₁, hW, X', st⟩ := X.arraycopyK hx hown (mvT hZ w1) (mvT hZ w2) (mvT hZ w3) (mvT hZ w4) (src := src) (dst := dst) (srcPos := 0) (destPos := 0) (n := Int32.ofNat n) As.1 Ad.1 u1 u2 As.2.2 Ad.2.2 v1 v2 t1 t2 (by decide)
    (by decide) (by decide) (by rw [Int32.lt_iff_toInt_lt, en, ez]; omega) (by rw [en, ez, Ss]; omega) (by rw [en, ez, Sd]; omega)
    (fun vm1 _ i hi => by
      rw [eN] at hi
      have hi' : i < cs.slots.size := by rw [Ss]; omega
      have q := Hs i hi'
      have q2 := Gs i hi'
      rw [e0, Nat.zero_add]
      have q3 : cs.slots.getD i .null = vs.getD i (.int 0) := by
        rw [Array.getD_eq_getD_getElem?, q]; rfl
      rw [q3]
      refine ⟨q2, ?_⟩
      generalize vs.getD i (.int 0) = w at q2
      cases w <;> first | trivial | (simp [fits] at q2))
    hg hsize hstack hdg hframes hlocals
  rw [e0, eN] at X'
  refine ⟨_, _, X', rfl, ?_, ?_, st⟩
  · have hlt := (Array.getElem?_eq_some_iff.mp Ad.1).1
    obtain ⟨f1, f2, f3⟩ := Jvm.Free.SB.copied_facts cs cd 0 0 (Int32.ofNat n)
    refine ⟨by show T.heap.size ≤ (T.heap.setIfInBounds dst _).size; simp, fun x cl q r => ?_, fun x cl q => ?_⟩
    · show (T.heap.setIfInBounds dst _)[x]? = _
      rw [Array.getElem?_setIfInBounds_ne (fun z => r (by simp [z]))]; exact q
    · show ∃ c', (T.heap.setIfInBounds dst _)[x]? = some c' ∧ _
      by_cases z : dst = x
      · subst z; cases Ad.1.symm.trans q
        exact ⟨_, Array.getElem?_setIfInBounds_self_of_lt hlt, f1, f2, f3⟩
      · exact ⟨cl, by rw [Array.getElem?_setIfInBounds_ne z]; exact q, rfl, rfl, rfl⟩
  · have hlt := (Array.getElem?_eq_some_iff.mp Ad.1).1
    obtain ⟨f1, f2, f3⟩ := Jvm.Free.SB.copied_facts cs cd 0 0 (Int32.ofNat n)
    have hat : ∀ j, j < cd.slots.size → (copied cs cd 0 0 (Int32.ofNat n)).slots[j]? = some (vs.getD j (.int 0)) := fun j hj => by
      have q := Jvm.Free.SBG.copied_at (cs := cs) (cd := cd) (p := 0) (n := n) (by decide) h31 (by rw [Sd]; omega) j
      rw [show (Int32.ofNat 0) = 0 from rfl] at q
      rw [q]
      by_cases hn : j < n
      · rw [if_pos ⟨Nat.zero_le _, by omega⟩]
        have hj' : j < cs.slots.size := by rw [Ss]; omega
        rw [Nat.sub_zero, Array.getD_eq_getD_getElem?, Hs j hj']; rfl
      · rw [if_neg (by omega), Hd j hj]
        simp [List.getD_eq_getElem?_getD, List.getElem?_eq_none (show vs.length ≤ j by omega)]
    refine ⟨copied cs cd 0 0 (Int32.ofNat n), ⟨by show (T.heap.setIfInBounds dst _)[dst]? = _; exact Array.getElem?_setIfInBounds_self_of_lt hlt, ?_, by rw [f2]; exact Ad.2.2⟩, f1.trans qd, f3.trans Sd, Nd, fun j hj => hat j (by rw [← f3]; exact hj), fun j hj => ?_⟩
    · obtain ⟨z1, kk, z2, cc, z3⟩ := Ad.2.1
      exact ⟨fun k => by rw [f2]; exact z1 k, kk, by rw [f1]; exact z2, cc, z3⟩
    · by_cases hn : j < n
      · exact Gs j (by rw [Ss]; omega)
      · simp [List.getD_eq_getElem?_getD, List.getElem?_eq_none (show vs.length ≤ j by omega)]; decide
end Jvm.Pilot.@@N@@.OwnKit

namespace Jvm.Pilot.@@N@@.OwnKit
open Jvm Jvm.ClassFile Sem Op Lib Jvm.Free Jvm.Stand Jvm.LawKit Jvm.RoadKit Bundle
theorem own_same {Z : State} {a0 : Array Value} {C : String} {y z : MethodName} (w1 : (Cond.declares y).before a0 Z = true) (w2 : (Cond.selects C z z).before a0 Z = true) (w3 : (Cond.declares z).before a0 Z = true) (he : z.cls = y.cls) (hy : y.cls ≠ "java/lang/invoke/MethodHandle" ∧ y.cls ≠ "java/lang/invoke/VarHandle") :
    (Cond.sameMethod y.cls y.cls y.name y.desc).before a0 Z = true := by
  obtain ⟨r0, r, hn, hrm, -, -⟩ := Cond.declares_spec w1
  obtain ⟨r1, r', hn', hrm', -, -⟩ := Cond.declares_spec w3
  obtain ⟨kr, hkr, hni⟩ := notFace_of_selects w2 r1 hn'
  have c0 := findClass_of_methodNamed hn
  have c1 := findClass_of_methodNamed hn'
  rw [he] at c1
  have ec : r1.cls = r0.cls := Option.some.inj (c1.symm.trans c0)
  rw [ec] at hkr
  have hf := State.methodFound?_of_named hn hy
  have hn2 : Z.methodNamed? ⟨y.cls, y.name, y.desc⟩ = some r0 := hn
  simp [Cond.before, Cond.holds, Cond.value, c0, hf, hn2, hkr, hni]
theorem own_nf {s : State} {a0 : Array Value} {C : String} {y z : MethodName} (w2 : (Cond.selects C z z).before a0 s = true) (w3 : (Cond.declares z).before a0 s = true) (he : z.cls = y.cls) : NotFace s y := fun r0 hn => by
  obtain ⟨r1, r', hn', hrm', -, -⟩ := Cond.declares_spec w3
  obtain ⟨kr, hkr, hni⟩ := notFace_of_selects w2 r1 hn'
  have c0 := findClass_of_methodNamed hn
  have c1 := findClass_of_methodNamed hn'
  rw [he] at c1
  have ec : r1.cls = r0.cls := Option.some.inj (c1.symm.trans c0)
  rw [ec] at hkr
  exact ⟨kr, hkr, hni⟩
theorem own_decl {Z : State} {a0 : Array Value} {y : MethodName} {bytes : ByteArray} {mx : Nat} {rt : Option FieldType} (w1 : (Cond.instanceMethod y).before a0 Z = true) (w2 : (Cond.code y bytes mx rt).before a0 Z = true) : (Cond.declares y).before a0 Z = true := by
  obtain ⟨mk, meth, hn, hm, hs, -⟩ := Cond.instanceMethod_spec w1
  obtain ⟨m2, cM, q1, -, -, -, -, -, -, hsig⟩ := Cond.code_spec hn w2
  cases hm.symm.trans q1
  simp [Cond.before, Cond.holds, Cond.value, hn, hm, hs, hsig]
end Jvm.Pilot.@@N@@.OwnKit

namespace Jvm.Pilot.@@N@@.OwnKit
open Jvm Jvm.ClassFile Sem Op Lib Jvm.Free Jvm.Stand Jvm.LawKit Jvm.RoadKit Bundle
/-- a callee that may intern, the constants' invariant among its premises -/
theorem own_backW {p : Program} {l : Launch} {e : Env} {R : Room} {s : State} {args : Array Value} {below : List Frame} {Z : State} {a0 : Array Value} {h : Heap} {EL : List (String × Nat)} {vm0 : Vm} {y : MethodName} {bytes : ByteArray} {maxL : Nat} {ret : Option FieldType} {rm : Room} {len W : Nat} {as' : Array Value} {Q : Option Value → Heap → List Loc → Prop}
    (hM : MetFree l y (head1 [Cond.code y bytes maxL ret] rm) (fun a U => a = as' ∧ Z.Warmed39 U.vm ∧ U.heap = h ∧ CHv Z EL U.vm h) (fun _ _ _ _ _ => True) (fun _ U o U' => ∃ v L, o = .returned v ∧ Q v U'.heap L ∧ ReturnedEndW U o U' L rm.cells rm.slots))
    (hZ : Z.Warmed39 vm0) (wc : (Cond.code y bytes maxL ret).before a0 Z = true) (wz : (Cond.initialized y.cls).before a0 Z = true) (hf : rm.frames + 1 ≤ R.frames) (hl : W + (maxL + 11) + rm.locals ≤ R.locals) (hEL : EW Z a0 EL) (H : CHv Z EL vm0 h) :
    BackS l R p e below (s.setVm vm0) args y len W (fun A a => a = as' ∧ A.U.heap = h ∧ A.cells + rm.cells ≤ R.cells ∧ A.slots + rm.slots ≤ R.slots)
      (fun A _ v B => ∃ L, Q v B.U.heap L ∧ B.locs = A.locs ++ L ∧ B.cells = A.cells + rm.cells ∧ B.slots = A.slots + rm.slots) := by
  refine BackS.of_freeW (bytes := bytes) (maxL := maxL) (ret := ret) (E := fun _ _ o t L k n => (k = rm.cells ∧ n = rm.slots) ∧ ∃ v, o = .returned v ∧ Q v t.heap L) hM hf hl ?_ ?_ (fun _ _ _ _ _ _ _ _ _ => trivial) ?_ ?_
  · intro m meth c A a Y hp
    have hU : Z.Warmed39 A.U.vm := State.Warmed39.trans (t := s.setVm vm0) hZ Y.warmed.wide
    exact ⟨by show (Cond.and _ .tt).before a A.U = true; rw [Cond.before_and, mv hU wc]; rfl, mv hU wc, mv hU wz, hp.2.2.1, hp.2.2.2⟩
  · intro m meth c A a g mk Y hp
    exact ⟨hp.1, State.Warmed39.trans (t := s.setVm vm0) hZ Y.warmed.wide, hp.2.1, (CHv.at Y hZ hEL H).1⟩
  · rintro _ _ _ _ ⟨v, L, h1, h2, h3⟩
    exact ⟨L, _, _, h3, ⟨rfl, rfl⟩, v, h1, h2⟩
  · rintro m meth c A a g mk v t L k n Y hp _ _ ⟨⟨rfl, rfl⟩, v', e3, e4⟩
    cases e3
    exact ⟨L, e4, rfl, rfl, rfl⟩
theorem own_since (s : State) (n : Nat) : s.Since s.vm n := (State.WarmedH.refl s).since n
theorem own_fin {s : State} {o : Outcome} {t : State} {L : List Loc} {k n k' n' : Nat} (h : ReturnedEndW s o t L k n) (h1 : k ≤ k') (h2 : n ≤ n') : ReturnedEndW s o t L k' n' := ⟨h.1, h.2.1, h.2.2.1, h.2.2.2.mono h1 h2⟩
end Jvm.Pilot.@@N@@.OwnKit

namespace Jvm.Pilot.@@N@@.OwnKit
open Jvm Jvm.ClassFile Sem Op Lib Jvm.Free Jvm.Stand Jvm.LawKit Jvm.RoadKit Bundle
/-- a callee that may intern and keeps the constants' invariant; xs: old objects that it writes and that are no constants -/
theorem own_backH {p : Program} {l : Launch} {e : Env} {R : Room} {s : State} {args : Array Value} {below : List Frame} {Z : State} {a0 : Array Value} {h : Heap} {EL : List (String × Nat)} {vm0 : Vm} {y : MethodName} {bytes : ByteArray} {maxL : Nat} {ret : Option FieldType} {rm : Room} {len W : Nat} {as' : Array Value} {Q : Option Value → Heap → List Loc → Prop} {xs : List Addr}
    (hM : MetFree l y (head1 [Cond.code y bytes maxL ret] rm) (fun a U => a = as' ∧ Z.Warmed39 U.vm ∧ U.heap = h ∧ CHv Z EL U.vm h ∧ ∀ x ∈ xs, Safe Z EL U.vm h x) (fun _ _ _ _ _ => True) (fun _ U o U' => ∃ v L, o = .returned v ∧ Q v U'.heap L ∧ CHr Z EL U.vm U.heap U'.vm U'.heap ∧ ReturnedEndW U o U' L rm.cells rm.slots))
    (hZ : Z.Warmed39 vm0) (wc : (Cond.code y bytes maxL ret).before a0 Z = true) (wz : (Cond.initialized y.cls).before a0 Z = true) (hf : rm.frames + 1 ≤ R.frames) (hl : W + (maxL + 11) + rm.locals ≤ R.locals) (hEL : EW Z a0 EL) (H : CHv Z EL vm0 h) (hs : ∀ x ∈ xs, Safe Z EL vm0 h x ∧ x < h.size) :
    BackS l R p e below (s.setVm vm0) args y len W (fun A a => a = as' ∧ A.U.heap = h ∧ A.cells + rm.cells ≤ R.cells ∧ A.slots + rm.slots ≤ R.slots)
      (fun A _ v B => ∃ L, (Q v B.U.heap L ∧ CHr Z EL vm0 h B.U.vm B.U.heap) ∧ B.locs = A.locs ++ L ∧ B.cells = A.cells + rm.cells ∧ B.slots = A.slots + rm.slots) := by
  refine BackS.of_freeW (bytes := bytes) (maxL := maxL) (ret := ret) (E := fun _ first o t L k n => (k = rm.cells ∧ n = rm.slots) ∧ (∃ v, o = .returned v ∧ Q v t.heap L) ∧ CHr Z EL first.vm first.heap t.vm t.heap) hM hf hl ?_ ?_ (fun _ _ _ _ _ _ _ _ _ => trivial) ?_ ?_
  · intro m meth c A a Y hp
    have hU : Z.Warmed39 A.U.vm := State.Warmed39.trans (t := s.setVm vm0) hZ Y.warmed.wide
    exact ⟨by show (Cond.and _ .tt).before a A.U = true; rw [Cond.before_and, mv hU wc]; rfl, mv hU wc, mv hU wz, hp.2.2.1, hp.2.2.2⟩
  · intro m meth c A a g mk Y hp
    have q := CHv.at Y hZ hEL H
    exact ⟨hp.1, State.Warmed39.trans (t := s.setVm vm0) hZ Y.warmed.wide, hp.2.1, q.1, fun x hx => q.safe (hs x hx).2 (hs x hx).1⟩
  · rintro _ _ _ _ ⟨v, L, h1, h2, h3, h4⟩
    exact ⟨L, _, _, h4, ⟨rfl, rfl⟩, ⟨v, h1, h2⟩, h3⟩
  · rintro m meth c A a g mk v t L k n Y hp _ _ ⟨⟨rfl, rfl⟩, ⟨v', e3, e4⟩, e5⟩
    cases e3
    refine ⟨L, ⟨e4, (CHv.at Y hZ hEL H).trans ?_⟩, rfl, rfl, rfl⟩
    rw [← hp.2.1]; exact e5
end Jvm.Pilot.@@N@@.OwnKit

namespace Jvm.Pilot.@@N@@
open Jvm Jvm.ClassFile Sem Op Lib Jvm.Free Jvm.Stand Jvm.LawKit Jvm.RoadKit Bundle Jvm.Pilot.@@N@@.Jvm.D
abbrev own_b (c : Int32) : Int32 := c.toInt8.toInt32
def own_ch (c : Int32) : Prop := 0 ≤ c.toInt ∧ c.toInt ≤ 255
theorem own_nat {n : Nat} (hn : n < 2147483648) : (Int32.ofNat n).toInt = n := Int32.toInt_ofNat_small hn
theorem own_clamp {n : Nat} (hn : n < 2147483648) : (Int32.ofNat n).toNatClampNeg = n := by show (Int32.ofNat n).toInt.toNat = n; rw [own_nat hn]; rfl
theorem own_lt {a b : Nat} (ha : a < 2147483648) (hb : b < 2147483648) : Int32.ofNat a < Int32.ofNat b ↔ a < b := by rw [Int32.lt_iff_toInt_lt, own_nat ha, own_nat hb]; omega
theorem own_inj {a b : Nat} (ha : a < 2147483648) (hb : b < 2147483648) : Int32.ofNat a = Int32.ofNat b ↔ a = b := by rw [← Int32.toInt_inj, own_nat ha, own_nat hb]; omega
theorem own_nn {a : Nat} (ha : a < 2147483648) : ¬ Int32.ofNat a < 0 := by rw [Int32.lt_iff_toInt_lt, own_nat ha, Int32.toInt_zero]; omega
theorem own_succ (n : Nat) : Int32.ofNat n + 1 = Int32.ofNat (n + 1) := by rw [Int32.ofNat_add]; rfl
theorem own_sub0 (x : Int32) : x - 0 = x := by simp
theorem own_fin {c : Int32} (h : own_ch c) : ∃ n : Fin 256, c = Int32.ofNat n := ⟨⟨c.toInt.toNat, by have := h.2; omega⟩, by rw [← Int32.toInt_inj]; show _ = (Int32.ofNat c.toInt.toNat).toInt; rw [own_nat (by have := h.2; omega)]; have := h.1; omega⟩
set_option maxRecDepth 65536 in
theorem own_and_fin : ∀ n : Fin 256, nar .char ((own_b (Int32.ofNat n) &&& (255 : Int32)).toUInt32.toUInt16.toUInt32.toInt32) = Int32.ofNat n := by decide +kernel
set_option maxRecDepth 65536 in
theorem own_and_fin2 : ∀ n : Fin 256, (own_b (Int32.ofNat n) &&& (255 : Int32)).toUInt32.toUInt16.toUInt32.toInt32 = Int32.ofNat n := by decide +kernel
set_option maxRecDepth 65536 in
theorem own_nar_fin : ∀ n : Fin 256, nar .char (Int32.ofNat n) = Int32.ofNat n := by decide +kernel
set_option maxRecDepth 65536 in
theorem own_nb_fin : ∀ n : Fin 256, nar .byte (own_b (Int32.ofNat n)) = own_b (Int32.ofNat n) := by decide +kernel
theorem own_and {c : Int32} (h : own_ch c) : nar .char ((own_b c &&& (255 : Int32)).toUInt32.toUInt16.toUInt32.toInt32) = c := by obtain ⟨n, rfl⟩ := own_fin h; exact own_and_fin n
theorem own_and2 {c : Int32} (h : own_ch c) : (own_b c &&& (255 : Int32)).toUInt32.toUInt16.toUInt32.toInt32 = c := by obtain ⟨n, rfl⟩ := own_fin h; exact own_and_fin2 n
theorem own_narc {c : Int32} (h : own_ch c) : nar .char c = c := by obtain ⟨n, rfl⟩ := own_fin h; exact own_nar_fin n
theorem own_nb {c : Int32} (h : own_ch c) : nar .byte (own_b c) = own_b c := by obtain ⟨n, rfl⟩ := own_fin h; exact own_nb_fin n
theorem own_shr0 (x : Int32) : x >>> ((0 : Int32) &&& 31) = x := by
  have h := Jvm.Kit.i32_shr x ((0 : Int32) &&& 31) (k := 0) (by decide)
  rw [← Int32.toInt_inj, h]; simp
theorem own_last {Z : State} {h : Heap} {a : Addr} {k : ClassId} {z x : Int32} {bs : List Int32} (V : Arv Z h a k .byte z ((bs.map Value.int ++ List.replicate 1 (Value.int 0)).set bs.length (Value.int x)) (.int 0)) : Arv Z h a k .byte z ((bs ++ [x]).map Value.int) (.int 0) := by
  have e : (bs.map Value.int ++ List.replicate 1 (Value.int 0)).set bs.length (Value.int x) = (bs ++ [x]).map Value.int := by
    have q : bs.length = (bs.map Value.int).length := by simp
    rw [q, List.set_append_right _ _ (Nat.le_refl _)]; simp
  rw [← e]; exact V
def Qn (h0 : Heap) (n0 : Nat) (v : Option Value) (h : Heap) (L : List Loc) : Prop := v = none ∧ Fr n0 L ∧ h = h0
def Qi (z : Int32) (h0 : Heap) (n0 : Nat) (v : Option Value) (h : Heap) (L : List Loc) : Prop := v = some (.int z) ∧ Fr n0 L ∧ h = h0
def Qr (a : Addr) (h0 : Heap) (n0 : Nat) (v : Option Value) (h : Heap) (L : List Loc) : Prop := v = some (.ref a) ∧ Fr n0 L ∧ h = h0
def SBd (Z : State) (h : Heap) (n0 : Nat) (a b : Addr) (k : ClassId) (N : Nat) (bs : List Int32) : Prop := Exa Z h a "java/lang/StringBuilder" ∧ Fld Z h a "java/lang/AbstractStringBuilder" "value" "[B" (.ref b) ∧ Fld Z h a "java/lang/AbstractStringBuilder" "count" "I" (.int (Int32.ofNat bs.length)) ∧ Fld Z h a "java/lang/AbstractStringBuilder" "coder" "B" (.int 0) ∧
  Arv Z h b k .byte (Int32.ofNat N) (bs.map Value.int) (.int 0) ∧ Exa Z h b "[B" ∧ a ≠ b ∧ n0 ≤ a ∧ n0 ≤ b
def StrF (Z : State) (h : Heap) (x b : Addr) (k : ClassId) (bs : List Int32) : Prop := Exa Z h x "java/lang/String" ∧ Fld Z h x "java/lang/String" "coder" "B" (.int 0) ∧ Fld Z h x "java/lang/String" "value" "[B" (.ref b) ∧ Arv Z h b k .byte (Int32.ofNat bs.length) (bs.map Value.int) (.int 0)

abbrev Rc (p : Program) (e : Env) (below : List Frame) (A B : State) : Prop := ∀ tgt, Steps p.tables e below B tgt → Steps p.tables e below A tgt
theorem Rc.st {p : Program} {e : Env} {below : List Frame} {A B C : State} (R : Rc p e below A B) (h : ∀ tgt, Steps p.tables e below C tgt → Steps p.tables e below B tgt) : Rc p e below A C := fun tgt g => R tgt (h tgt g)
theorem Rc.tr {p : Program} {e : Env} {below : List Frame} {A B C : State} (R : Rc p e below A B) (h : Steps p.tables e below B C) : Rc p e below A C := fun tgt g => R tgt (h.trans g)
abbrev own_sh : List Int32 := [115, 104, 97, 100, 111, 119, 101, 100]
abbrev own_un : List Int32 := [117, 110, 114, 101, 97, 99, 104, 97, 98, 108, 101]
abbrev own_bo : List Int32 := [98, 111, 116, 104, 45, 108, 105, 115, 116, 115]
def own_tok (bs : List Int32) : Prop := bs = own_sh ∨ bs = own_un ∨ bs = own_bo
abbrev yn0 : MethodName := ⟨"java/lang/String", "equals", "(Ljava/lang/Object;)Z"⟩
theorem pn_java_lang_String : plainName "java/lang/String" = true := by first | (simp [plainName, overriddenIn]; done) | decide +kernel
theorem ef_rm_eqs (m : MethodId) (a1 : Addr) (a1 : Addr) : entryFrame m #[(.ref a1), (.ref a1)] 3 = mkF m 0 #[.val (.ref a1), .val (.ref a1), .unset] [] := by first | (simp [entryFrame, mkF, argsToLocals, Value.category]; done) | rfl
theorem d0_0 : decode jdk_42_method_66_code 0 = .ok (.aload_n 0, 1) := by decide +kernel
theorem d0_1 : decode jdk_42_method_66_code 1 = .ok (.aload_n 1, 1) := by decide +kernel
theorem d0_2 : decode jdk_42_method_66_code 2 = .ok (.if_acmp .ne 5, 3) := by decide +kernel
theorem d0_5 : decode jdk_42_method_66_code 5 = .ok (.iconst 1, 1) := by decide +kernel
theorem d0_6 : decode jdk_42_method_66_code 6 = .ok (.ireturn, 1) := by decide +kernel
set_option maxRecDepth 65536 in
set_option maxHeartbeats 40000000 in
theorem rm_eqs (l : Launch) (Z : State) (a0 : Array Value) (hw : ∀ d ∈ tables_1, d.before a0 Z = true) (ws : List Jvm.Cond) (a1 : Addr) (a1 : Addr) (h0 : Heap) (n0 : Nat) (Z0 : n0 ≤ h0.size) :
    MetFree l yn0 (head1 (Jvm.Cond.code yn0 jdk_42_method_66_code 3 (some .boolean) :: ws) ({ frames := 2, cells := 0, slots := 0, locals := 60 } : Room)) (fun a U => a = #[(.ref a1), (.ref a1)] ∧ Z.Warmed39 U.vm ∧ U.heap = h0) (fun _ _ _ _ _ => True) (fun _ U o U' => ∃ v L, o = .returned v ∧ Qi 1 h0 n0 v U'.heap L ∧ FrameEnd U o U' L ({ frames := 2, cells := 0, slots := 0, locals := 60 } : Room).cells ({ frames := 2, cells := 0, slots := 0, locals := 60 } : Room).slots) := by
 refine MetFree.of_bodySF (plainFor_of_name pn_java_lang_String) hisR ?_
 intro p e s m args below meth c s₁ Bd hml0 hP hK
 obtain ⟨rfl, hZ, hh⟩ := hP
 have hx := Bd.exec
 have hby := Bd.bytes
 have hml : c.maxLocals = 3 := hml0
 have hown : s.vm.findClass "java/lang/String" = some m.cls := findClass_of_methodNamed Bd.named
 have hnm := (name_of_methodNamed Bd.named Bd.method).1
 have X0 : Stand p l e ({ frames := 2, cells := 0, slots := 0, locals := 60 } : Room) s m #[(.ref a1), (.ref a1)] below meth c s₁ [] 0 0 := Stand.of_body Bd
 have e0 : s₁.heap = h0 := by rw [← hh, Bd.state]; rfl
 have N0 := Fr.nil n0
 obtain ⟨A0, hA0⟩ : ∃ A, A = s₁.setTop (entryFrame m #[(.ref a1), (.ref a1)] 3) := ⟨_, rfl⟩
 have R0 : ∀ tgt, Steps p.tables e below (s₁.setTop (mkF m 0 #[.val (.ref a1), .val (.ref a1), .unset] [])) tgt → Steps p.tables e below A0 tgt := fun tgt hgo => by rw [hA0]; exact castTop (ef_rm_eqs m a1 a1) hgo
 have w : ∀ (i : Nat) {d : Jvm.Cond}, tables_1[i]? = some d → d.before a0 Z = true := fun i d h => hw d (List.mem_of_getElem? h)
 have R1 : Rc p e below A0 (s₁.setTop (mkF m 6 #[.val (.ref a1), .val (.ref a1), .unset] [(.int 1)])) := by
   intro tgt hgo
   refine R0 tgt ?_
   show Steps p.tables e below (s₁.setTop (mkF m 0 #[.val (.ref a1), .val (.ref a1), .unset] [])) _
   refine XS.aloadN X0.here hx rfl (hb hby d0_0) rfl rfl ?_
   refine XS.aloadN X0.here hx rfl (hb hby d0_1) rfl rfl ?_
   refine Jvm.RoadKit.acmp (g := (mkF m 2 #[.val (.ref a1), .val (.ref a1), .unset] [(.ref a1), (.ref a1)])) X0 hx rfl rfl rfl (pc0 := 2) (pc' := 5) (same := true) rfl (hb hby d0_2) rfl (decide_eq_true rfl) (by decide) (by decide) ?_
   refine XS.iconst X0.here hx rfl (hb hby d0_5) ?_
   exact hgo
 subst hA0
 obtain ⟨fs, hr, hrun, hended, hW, hsame⟩ := X0.leave (v := some (.int 1)) (fun h => by rw [Bd.returns] at h; cases h)
 refine ⟨_, _, R1 _ ?_, hrun, hended, _, _, rfl, ?_, ⟨_, rfl⟩, hW, hsame.mono (by decide) (by decide)⟩
 ·show Steps p.tables e below (s₁.setTop (mkF m 6 #[.val (.ref a1), .val (.ref a1), .unset] [(.int 1)])) _
  exact retN X0 hx (t := .boolean) Bd.returns (by simp) (hb hby d0_6) hr
 ·show Qi 1 h0 n0 _ s₁.heap _
  rw [e0]
  exact ⟨rfl, N0, rfl⟩
abbrev yn1 : MethodName := ⟨"java/lang/StringLatin1", "equals", "([B[B)Z"⟩
theorem pn_java_lang_StringLatin1 : plainName "java/lang/StringLatin1" = true := by first | (simp [plainName, overriddenIn]; done) | decide +kernel
theorem ef_rm_le_sh (m : MethodId) (b1 : Addr) (b2 : Addr) : entryFrame m #[(.ref b1), (.ref b2)] 3 = mkF m 0 #[.val (.ref b1), .val (.ref b2), .unset] [] := by first | (simp [entryFrame, mkF, argsToLocals, Value.category]; done) | rfl
theorem d1_0 : decode jdk_43_method_13_code 0 = .ok (.aload_n 0, 1) := by decide +kernel
theorem d1_1 : decode jdk_43_method_13_code 1 = .ok (.arraylength, 1) := by decide +kernel
theorem d1_2 : decode jdk_43_method_13_code 2 = .ok (.aload_n 1, 1) := by decide +kernel
theorem d1_3 : decode jdk_43_method_13_code 3 = .ok (.arraylength, 1) := by decide +kernel
theorem d1_4 : decode jdk_43_method_13_code 4 = .ok (.if_icmp .ne 30, 3) := by decide +kernel
theorem d1_7 : decode jdk_43_method_13_code 7 = .ok (.iconst 0, 1) := by decide +kernel
theorem d1_8 : decode jdk_43_method_13_code 8 = .ok (.istore_n 2, 1) := by decide +kernel
theorem d1_9 : decode jdk_43_method_13_code 9 = .ok (.iload_n 2, 1) := by decide +kernel
theorem d1_10 : decode jdk_43_method_13_code 10 = .ok (.aload_n 0, 1) := by decide +kernel
theorem d1_11 : decode jdk_43_method_13_code 11 = .ok (.arraylength, 1) := by decide +kernel
theorem d1_12 : decode jdk_43_method_13_code 12 = .ok (.if_icmp .ge 20, 3) := by decide +kernel
theorem d1_15 : decode jdk_43_method_13_code 15 = .ok (.aload_n 0, 1) := by decide +kernel
theorem d1_16 : decode jdk_43_method_13_code 16 = .ok (.iload_n 2, 1) := by decide +kernel
theorem d1_17 : decode jdk_43_method_13_code 17 = .ok (.baload, 1) := by decide +kernel
theorem d1_18 : decode jdk_43_method_13_code 18 = .ok (.aload_n 1, 1) := by decide +kernel
theorem d1_19 : decode jdk_43_method_13_code 19 = .ok (.iload_n 2, 1) := by decide +kernel
theorem d1_20 : decode jdk_43_method_13_code 20 = .ok (.baload, 1) := by decide +kernel
theorem d1_21 : decode jdk_43_method_13_code 21 = .ok (.if_icmp .eq 5, 3) := by decide +kernel
theorem d1_26 : decode jdk_43_method_13_code 26 = .ok (.iinc 2 1, 3) := by decide +kernel
theorem d1_29 : decode jdk_43_method_13_code 29 = .ok (.goto (-20), 3) := by decide +kernel
theorem d1_32 : decode jdk_43_method_13_code 32 = .ok (.iconst 1, 1) := by decide +kernel
theorem d1_33 : decode jdk_43_method_13_code 33 = .ok (.ireturn, 1) := by decide +kernel
set_option maxRecDepth 65536 in
set_option maxHeartbeats 40000000 in
theorem rm_le_sh (l : Launch) (Z : State) (a0 : Array Value) (hw : ∀ d ∈ tables_1, d.before a0 Z = true) (ws : List Jvm.Cond) (b1 : Addr) (b2 : Addr) (k1 k2 : ClassId) (h0 : Heap) (n0 : Nat) (Z0 : n0 ≤ h0.size) (V1 : Arv Z h0 b1 k1 .byte (8 : Int32) [(.int (115 : Int32)), (.int (104 : Int32)), (.int (97 : Int32)), (.int (100 : Int32)), (.int (111 : Int32)), (.int (119 : Int32)), (.int (101 : Int32)), (.int (100 : Int32))] (.int 0)) (V2 : Arv Z h0 b2 k2 .byte (8 : Int32) [(.int (115 : Int32)), (.int (104 : Int32)), (.int (97 : Int32)), (.int (100 : Int32)), (.int (111 : Int32)), (.int (119 : Int32)), (.int (101 : Int32)), (.int (100 : Int32))] (.int 0)) :
    MetFree l yn1 (head1 (Jvm.Cond.code yn1 jdk_43_method_13_code 3 (some .boolean) :: ws) ({ frames := 0, cells := 0, slots := 0, locals := 0 } : Room)) (fun a U => a = #[(.ref b1), (.ref b2)] ∧ Z.Warmed39 U.vm ∧ U.heap = h0) (fun _ _ _ _ _ => True) (fun _ U o U' => ∃ v L, o = .returned v ∧ Qi 1 h0 n0 v U'.heap L ∧ FrameEnd U o U' L ({ frames := 0, cells := 0, slots := 0, locals := 0 } : Room).cells ({ frames := 0, cells := 0, slots := 0, locals := 0 } : Room).slots) := by
 refine MetFree.of_bodySF (plainFor_of_name pn_java_lang_StringLatin1) hisR ?_
 intro p e s m args below meth c s₁ Bd hml0 hP hK
 obtain ⟨rfl, hZ, hh⟩ := hP
 have hx := Bd.exec
 have hby := Bd.bytes
 have hml : c.maxLocals = 3 := hml0
 have hown : s.vm.findClass "java/lang/StringLatin1" = some m.cls := findClass_of_methodNamed Bd.named
 have hnm := (name_of_methodNamed Bd.named Bd.method).1
 have X0 : Stand p l e ({ frames := 0, cells := 0, slots := 0, locals := 0 } : Room) s m #[(.ref b1), (.ref b2)] below meth c s₁ [] 0 0 := Stand.of_body Bd
 have e0 : s₁.heap = h0 := by rw [← hh, Bd.state]; rfl
 have N0 := Fr.nil n0
 obtain ⟨A0, hA0⟩ : ∃ A, A = s₁.setTop (entryFrame m #[(.ref b1), (.ref b2)] 3) := ⟨_, rfl⟩
 have R0 : ∀ tgt, Steps p.tables e below (s₁.setTop (mkF m 0 #[.val (.ref b1), .val (.ref b2), .unset] [])) tgt → Steps p.tables e below A0 tgt := fun tgt hgo => by rw [hA0]; exact castTop (ef_rm_le_sh m b1 b2) hgo
 have w : ∀ (i : Nat) {d : Jvm.Cond}, tables_1[i]? = some d → d.before a0 Z = true := fun i d h => hw d (List.mem_of_getElem? h)
 have R1 : Rc p e below A0 (s₁.setTop (mkF m 1 #[.val (.ref b1), .val (.ref b2), .unset] [(.ref b1)])) := by
   intro tgt hgo
   refine R0 tgt ?_
   show Steps p.tables e below (s₁.setTop (mkF m 0 #[.val (.ref b1), .val (.ref b2), .unset] [])) _
   refine XS.aloadN X0.here hx rfl (hb hby d1_0) rfl rfl ?_
   exact hgo
 obtain ⟨cl2, Ar2, -, S2, Nn2, -, -⟩ := id V1
 have R3 : Rc p e below A0 (s₁.setTop (mkF m 2 #[.val (.ref b1), .val (.ref b2), .unset] [(.int 8)])) := by
   intro tgt hgo
   refine R1 tgt ?_
   refine X0.arraylength hx (by rw [e0]; exact Ar2.1) (State.isArrayOf_alike hZ.alike Ar2.2.1) (g := (mkF m 1 #[.val (.ref b1), .val (.ref b2), .unset] [(.ref b1)])) rfl rfl (hb hby d1_1) _ ?_
   rw [len_of S2 Nn2]
   exact hgo
 have R4 : Rc p e below A0 (s₁.setTop (mkF m 3 #[.val (.ref b1), .val (.ref b2), .unset] [(.ref b2), (.int 8)])) := by
   intro tgt hgo
   refine R3 tgt ?_
   show Steps p.tables e below (s₁.setTop (mkF m 2 #[.val (.ref b1), .val (.ref b2), .unset] [(.int 8)])) _
   refine XS.aloadN X0.here hx rfl (hb hby d1_2) rfl rfl ?_
   exact hgo
 obtain ⟨cl5, Ar5, -, S5, Nn5, -, -⟩ := id V2
 have R6 : Rc p e below A0 (s₁.setTop (mkF m 4 #[.val (.ref b1), .val (.ref b2), .unset] [(.int 8), (.int 8)])) := by
   intro tgt hgo
   refine R4 tgt ?_
   refine X0.arraylength hx (by rw [e0]; exact Ar5.1) (State.isArrayOf_alike hZ.alike Ar5.2.1) (g := (mkF m 3 #[.val (.ref b1), .val (.ref b2), .unset] [(.ref b2), (.int 8)])) rfl rfl (hb hby d1_3) _ ?_
   rw [len_of S5 Nn5]
   exact hgo
 have R7 : Rc p e below A0 (s₁.setTop (mkF m 11 #[.val (.ref b1), .val (.ref b2), .val (.int 0)] [(.ref b1), (.int 0)])) := by
   intro tgt hgo
   refine R6 tgt ?_
   show Steps p.tables e below (s₁.setTop (mkF m 4 #[.val (.ref b1), .val (.ref b2), .unset] [(.int 8), (.int 8)])) _
   refine XS.icmpNo X0.here hx rfl (hb hby d1_4) rfl (teq (by decide : (8 : Int32) = (8 : Int32))).2 ?_
   refine XS.iconst X0.here hx rfl (hb hby d1_7) ?_
   refine XS.istoreN X0.here hx rfl (hb hby d1_8) rfl (l' := #[.val (.ref b1), .val (.ref b2), .val (.int 0)]) rfl ?_
   refine XS.iloadN X0.here hx rfl (hb hby d1_9) rfl ?_
   refine XS.aloadN X0.here hx rfl (hb hby d1_10) rfl rfl ?_
   exact hgo
 obtain ⟨cl8, Ar8, -, S8, Nn8, -, -⟩ := id V1
 have R9 : Rc p e below A0 (s₁.setTop (mkF m 12 #[.val (.ref b1), .val (.ref b2), .val (.int 0)] [(.int 8), (.int 0)])) := by
   intro tgt hgo
   refine R7 tgt ?_
   refine X0.arraylength hx (by rw [e0]; exact Ar8.1) (State.isArrayOf_alike hZ.alike Ar8.2.1) (g := (mkF m 11 #[.val (.ref b1), .val (.ref b2), .val (.int 0)] [(.ref b1), (.int 0)])) rfl rfl (hb hby d1_11) _ ?_
   rw [len_of S8 Nn8]
   exact hgo
 have R10 : Rc p e below A0 (s₁.setTop (mkF m 17 #[.val (.ref b1), .val (.ref b2), .val (.int 0)] [(.int 0), (.ref b1)])) := by
   intro tgt hgo
   refine R9 tgt ?_
   show Steps p.tables e below (s₁.setTop (mkF m 12 #[.val (.ref b1), .val (.ref b2), .val (.int 0)] [(.int 8), (.int 0)])) _
   refine XS.icmpNo X0.here hx rfl (hb hby d1_12) rfl (tlt (by decide : (0 : Int32) < (8 : Int32))).2.1 ?_
   refine XS.aloadN X0.here hx rfl (hb hby d1_15) rfl rfl ?_
   refine XS.iloadN X0.here hx rfl (hb hby d1_16) rfl ?_
   exact hgo
 obtain ⟨cl11, Ar11, q11, S11, Nn11, H11, G11⟩ := id V1
 have hin11 : ¬ ((0 : Int32) < 0 ∨ cl11.slots.size ≤ ((0 : Int32)).toNatClampNeg) := inb_of S11 ⟨by decide, by decide⟩
 have hat11 : cl11.slots[((0 : Int32)).toNatClampNeg]? = some (.int 115) := Has.at H11 hin11 rfl
 have R12 : Rc p e below A0 (s₁.setTop (mkF m 18 #[.val (.ref b1), .val (.ref b2), .val (.int 0)] [(.int 115)])) := by
   intro tgt hgo
   refine R10 tgt ?_
   refine X0.baloadBytes hx (j := (0 : Int32)) (v := (.int 115)) (by rw [e0]; exact Ar11.1) (State.isArrayOf_alike hZ.alike Ar11.2.1) Ar11.2.2 hin11 hat11 (g := (mkF m 17 #[.val (.ref b1), .val (.ref b2), .val (.int 0)] [(.int 0), (.ref b1)])) rfl rfl (hb hby d1_17) _ ?_
   exact hgo
 have R13 : Rc p e below A0 (s₁.setTop (mkF m 20 #[.val (.ref b1), .val (.ref b2), .val (.int 0)] [(.int 0), (.ref b2), (.int 115)])) := by
   intro tgt hgo
   refine R12 tgt ?_
   show Steps p.tables e below (s₁.setTop (mkF m 18 #[.val (.ref b1), .val (.ref b2), .val (.int 0)] [(.int 115)])) _
   refine XS.aloadN X0.here hx rfl (hb hby d1_18) rfl rfl ?_
   refine XS.iloadN X0.here hx rfl (hb hby d1_19) rfl ?_
   exact hgo
 obtain ⟨cl14, Ar14, q14, S14, Nn14, H14, G14⟩ := id V2
 have hin14 : ¬ ((0 : Int32) < 0 ∨ cl14.slots.size ≤ ((0 : Int32)).toNatClampNeg) := inb_of S14 ⟨by decide, by decide⟩
 have hat14 : cl14.slots[((0 : Int32)).toNatClampNeg]? = some (.int 115) := Has.at H14 hin14 rfl
 have R15 : Rc p e below A0 (s₁.setTop (mkF m 21 #[.val (.ref b1), .val (.ref b2), .val (.int 0)] [(.int 115), (.int 115)])) := by
   intro tgt hgo
   refine R13 tgt ?_
   refine X0.baloadBytes hx (j := (0 : Int32)) (v := (.int 115)) (by rw [e0]; exact Ar14.1) (State.isArrayOf_alike hZ.alike Ar14.2.1) Ar14.2.2 hin14 hat14 (g := (mkF m 20 #[.val (.ref b1), .val (.ref b2), .val (.int 0)] [(.int 0), (.ref b2), (.int 115)])) rfl rfl (hb hby d1_20) _ ?_
   exact hgo
 have R16 : Rc p e below A0 (s₁.setTop (mkF m 11 #[.val (.ref b1), .val (.ref b2), .val (.int 1)] [(.ref b1), (.int 1)])) := by
   intro tgt hgo
   refine R15 tgt ?_
   show Steps p.tables e below (s₁.setTop (mkF m 21 #[.val (.ref b1), .val (.ref b2), .val (.int 0)] [(.int 115), (.int 115)])) _
   refine XS.icmpYes X0.here hx rfl (pc0 := 21) (pc' := 26) rfl (hb hby d1_21) rfl (teq (by decide : (115 : Int32) = (115 : Int32))).1 (by decide) (by decide) ?_
   refine XS.iinc X0.here hx rfl (hb hby d1_26) rfl (l' := #[.val (.ref b1), .val (.ref b2), .val (.int 1)]) rfl ?_
   refine XS.goto X0.here hx rfl (pc0 := 29) (pc' := 9) rfl (hb hby d1_29) (by decide) (by decide) ?_
   refine XS.iloadN X0.here hx rfl (hb hby d1_9) rfl ?_
   refine XS.aloadN X0.here hx rfl (hb hby d1_10) rfl rfl ?_
   exact hgo
 obtain ⟨cl17, Ar17, -, S17, Nn17, -, -⟩ := id V1
 have R18 : Rc p e below A0 (s₁.setTop (mkF m 12 #[.val (.ref b1), .val (.ref b2), .val (.int 1)] [(.int 8), (.int 1)])) := by
   intro tgt hgo
   refine R16 tgt ?_
   refine X0.arraylength hx (by rw [e0]; exact Ar17.1) (State.isArrayOf_alike hZ.alike Ar17.2.1) (g := (mkF m 11 #[.val (.ref b1), .val (.ref b2), .val (.int 1)] [(.ref b1), (.int 1)])) rfl rfl (hb hby d1_11) _ ?_
   rw [len_of S17 Nn17]
   exact hgo
 have R19 : Rc p e below A0 (s₁.setTop (mkF m 17 #[.val (.ref b1), .val (.ref b2), .val (.int 1)] [(.int 1), (.ref b1)])) := by
   intro tgt hgo
   refine R18 tgt ?_
   show Steps p.tables e below (s₁.setTop (mkF m 12 #[.val (.ref b1), .val (.ref b2), .val (.int 1)] [(.int 8), (.int 1)])) _
   refine XS.icmpNo X0.here hx rfl (hb hby d1_12) rfl (tlt (by decide : (1 : Int32) < (8 : Int32))).2.1 ?_
   refine XS.aloadN X0.here hx rfl (hb hby d1_15) rfl rfl ?_
   refine XS.iloadN X0.here hx rfl (hb hby d1_16) rfl ?_
   exact hgo
 obtain ⟨cl20, Ar20, q20, S20, Nn20, H20, G20⟩ := id V1
 have hin20 : ¬ ((1 : Int32) < 0 ∨ cl20.slots.size ≤ ((1 : Int32)).toNatClampNeg) := inb_of S20 ⟨by decide, by decide⟩
 have hat20 : cl20.slots[((1 : Int32)).toNatClampNeg]? = some (.int 104) := Has.at H20 hin20 rfl
 have R21 : Rc p e below A0 (s₁.setTop (mkF m 18 #[.val (.ref b1), .val (.ref b2), .val (.int 1)] [(.int 104)])) := by
   intro tgt hgo
   refine R19 tgt ?_
   refine X0.baloadBytes hx (j := (1 : Int32)) (v := (.int 104)) (by rw [e0]; exact Ar20.1) (State.isArrayOf_alike hZ.alike Ar20.2.1) Ar20.2.2 hin20 hat20 (g := (mkF m 17 #[.val (.ref b1), .val (.ref b2), .val (.int 1)] [(.int 1), (.ref b1)])) rfl rfl (hb hby d1_17) _ ?_
   exact hgo
 have R22 : Rc p e below A0 (s₁.setTop (mkF m 20 #[.val (.ref b1), .val (.ref b2), .val (.int 1)] [(.int 1), (.ref b2), (.int 104)])) := by
   intro tgt hgo
   refine R21 tgt ?_
   show Steps p.tables e below (s₁.setTop (mkF m 18 #[.val (.ref b1), .val (.ref b2), .val (.int 1)] [(.int 104)])) _
   refine XS.aloadN X0.here hx rfl (hb hby d1_18) rfl rfl ?_
   refine XS.iloadN X0.here hx rfl (hb hby d1_19) rfl ?_
   exact hgo
 obtain ⟨cl23, Ar23, q23, S23, Nn23, H23, G23⟩ := id V2
 have hin23 : ¬ ((1 : Int32) < 0 ∨ cl23.slots.size ≤ ((1 : Int32)).toNatClampNeg) := inb_of S23 ⟨by decide, by decide⟩
 have hat23 : cl23.slots[((1 : Int32)).toNatClampNeg]? = some (.int 104) := Has.at H23 hin23 rfl
 have R24 : Rc p e below A0 (s₁.setTop (mkF m 21 #[.val (.ref b1), .val (.ref b2), .val (.int 1)] [(.int 104), (.int 104)])) := by
   intro tgt hgo
   refine R22 tgt ?_
   refine X0.baloadBytes hx (j := (1 : Int32)) (v := (.int 104)) (by rw [e0]; exact Ar23.1) (State.isArrayOf_alike hZ.alike Ar23.2.1) Ar23.2.2 hin23 hat23 (g := (mkF m 20 #[.val (.ref b1), .val (.ref b2), .val (.int 1)] [(.int 1), (.ref b2), (.int 104)])) rfl rfl (hb hby d1_20) _ ?_
   exact hgo
 have R25 : Rc p e below A0 (s₁.setTop (mkF m 11 #[.val (.ref b1), .val (.ref b2), .val (.int 2)] [(.ref b1), (.int 2)])) := by
   intro tgt hgo
   refine R24 tgt ?_
   show Steps p.tables e below (s₁.setTop (mkF m 21 #[.val (.ref b1), .val (.ref b2), .val (.int 1)] [(.int 104), (.int 104)])) _
   refine XS.icmpYes X0.here hx rfl (pc0 := 21) (pc' := 26) rfl (hb hby d1_21) rfl (teq (by decide : (104 : Int32) = (104 : Int32))).1 (by decide) (by decide) ?_
   refine XS.iinc X0.here hx rfl (hb hby d1_26) rfl (l' := #[.val (.ref b1), .val (.ref b2), .val (.int 2)]) rfl ?_
   refine XS.goto X0.here hx rfl (pc0 := 29) (pc' := 9) rfl (hb hby d1_29) (by decide) (by decide) ?_
   refine XS.iloadN X0.here hx rfl (hb hby d1_9) rfl ?_
   refine XS.aloadN X0.here hx rfl (hb hby d1_10) rfl rfl ?_
   exact hgo
 obtain ⟨cl26, Ar26, -, S26, Nn26, -, -⟩ := id V1
 have R27 : Rc p e below A0 (s₁.setTop (mkF m 12 #[.val (.ref b1), .val (.ref b2), .val (.int 2)] [(.int 8), (.int 2)])) := by
   intro tgt hgo
   refine R25 tgt ?_
   refine X0.arraylength hx (by rw [e0]; exact Ar26.1) (State.isArrayOf_alike hZ.alike Ar26.2.1) (g := (mkF m 11 #[.val (.ref b1), .val (.ref b2), .val (.int 2)] [(.ref b1), (.int 2)])) rfl rfl (hb hby d1_11) _ ?_
   rw [len_of S26 Nn26]
   exact hgo
 have R28 : Rc p e below A0 (s₁.setTop (mkF m 17 #[.val (.ref b1), .val (.ref b2), .val (.int 2)] [(.int 2), (.ref b1)])) := by
   intro tgt hgo
   refine R27 tgt ?_
   show Steps p.tables e below (s₁.setTop (mkF m 12 #[.val (.ref b1), .val (.ref b2), .val (.int 2)] [(.int 8), (.int 2)])) _
   refine XS.icmpNo X0.here hx rfl (hb hby d1_12) rfl (tlt (by decide : (2 : Int32) < (8 : Int32))).2.1 ?_
   refine XS.aloadN X0.here hx rfl (hb hby d1_15) rfl rfl ?_
   refine XS.iloadN X0.here hx rfl (hb hby d1_16) rfl ?_
   exact hgo
 obtain ⟨cl29, Ar29, q29, S29, Nn29, H29, G29⟩ := id V1
 have hin29 : ¬ ((2 : Int32) < 0 ∨ cl29.slots.size ≤ ((2 : Int32)).toNatClampNeg) := inb_of S29 ⟨by decide, by decide⟩
 have hat29 : cl29.slots[((2 : Int32)).toNatClampNeg]? = some (.int 97) := Has.at H29 hin29 rfl
 have R30 : Rc p e below A0 (s₁.setTop (mkF m 18 #[.val (.ref b1), .val (.ref b2), .val (.int 2)] [(.int 97)])) := by
   intro tgt hgo
   refine R28 tgt ?_
   refine X0.baloadBytes hx (j := (2 : Int32)) (v := (.int 97)) (by rw [e0]; exact Ar29.1) (State.isArrayOf_alike hZ.alike Ar29.2.1) Ar29.2.2 hin29 hat29 (g := (mkF m 17 #[.val (.ref b1), .val (.ref b2), .val (.int 2)] [(.int 2), (.ref b1)])) rfl rfl (hb hby d1_17) _ ?_
   exact hgo
 have R31 : Rc p e below A0 (s₁.setTop (mkF m 20 #[.val (.ref b1), .val (.ref b2), .val (.int 2)] [(.int 2), (.ref b2), (.int 97)])) := by
   intro tgt hgo
   refine R30 tgt ?_
   show Steps p.tables e below (s₁.setTop (mkF m 18 #[.val (.ref b1), .val (.ref b2), .val (.int 2)] [(.int 97)])) _
   refine XS.aloadN X0.here hx rfl (hb hby d1_18) rfl rfl ?_
   refine XS.iloadN X0.here hx rfl (hb hby d1_19) rfl ?_
   exact hgo
 obtain ⟨cl32, Ar32, q32, S32, Nn32, H32, G32⟩ := id V2
 have hin32 : ¬ ((2 : Int32) < 0 ∨ cl32.slots.size ≤ ((2 : Int32)).toNatClampNeg) := inb_of S32 ⟨by decide, by decide⟩
 have hat32 : cl32.slots[((2 : Int32)).toNatClampNeg]? = some (.int 97) := Has.at H32 hin32 rfl
 have R33 : Rc p e below A0 (s₁.setTop (mkF m 21 #[.val (.ref b1), .val (.ref b2), .val (.int 2)] [(.int 97), (.int 97)])) := by
   intro tgt hgo
   refine R31 tgt ?_
   refine X0.baloadBytes hx (j := (2 : Int32)) (v := (.int 97)) (by rw [e0]; exact Ar32.1) (State.isArrayOf_alike hZ.alike Ar32.2.1) Ar32.2.2 hin32 hat32 (g := (mkF m 20 #[.val (.ref b1), .val (.ref b2), .val (.int 2)] [(.int 2), (.ref b2), (.int 97)])) rfl rfl (hb hby d1_20) _ ?_
   exact hgo
 have R34 : Rc p e below A0 (s₁.setTop (mkF m 11 #[.val (.ref b1), .val (.ref b2), .val (.int 3)] [(.ref b1), (.int 3)])) := by
   intro tgt hgo
   refine R33 tgt ?_
   show Steps p.tables e below (s₁.setTop (mkF m 21 #[.val (.ref b1), .val (.ref b2), .val (.int 2)] [(.int 97), (.int 97)])) _
   refine XS.icmpYes X0.here hx rfl (pc0 := 21) (pc' := 26) rfl (hb hby d1_21) rfl (teq (by decide : (97 : Int32) = (97 : Int32))).1 (by decide) (by decide) ?_
   refine XS.iinc X0.here hx rfl (hb hby d1_26) rfl (l' := #[.val (.ref b1), .val (.ref b2), .val (.int 3)]) rfl ?_
   refine XS.goto X0.here hx rfl (pc0 := 29) (pc' := 9) rfl (hb hby d1_29) (by decide) (by decide) ?_
   refine XS.iloadN X0.here hx rfl (hb hby d1_9) rfl ?_
   refine XS.aloadN X0.here hx rfl (hb hby d1_10) rfl rfl ?_
   exact hgo
 obtain ⟨cl35, Ar35, -, S35, Nn35, -, -⟩ := id V1
 have R36 : Rc p e below A0 (s₁.setTop (mkF m 12 #[.val (.ref b1), .val (.ref b2), .val (.int 3)] [(.int 8), (.int 3)])) := by
   intro tgt hgo
   refine R34 tgt ?_
   refine X0.arraylength hx (by rw [e0]; exact Ar35.1) (State.isArrayOf_alike hZ.alike Ar35.2.1) (g := (mkF m 11 #[.val (.ref b1), .val (.ref b2), .val (.int 3)] [(.ref b1), (.int 3)])) rfl rfl (hb hby d1_11) _ ?_
   rw [len_of S35 Nn35]
   exact hgo
 have R37 : Rc p e below A0 (s₁.setTop (mkF m 17 #[.val (.ref b1), .val (.ref b2), .val (.int 3)] [(.int 3), (.ref b1)])) := by
   intro tgt hgo
   refine R36 tgt ?_
   show Steps p.tables e below (s₁.setTop (mkF m 12 #[.val (.ref b1), .val (.ref b2), .val (.int 3)] [(.int 8), (.int 3)])) _
   refine XS.icmpNo X0.here hx rfl (hb hby d1_12) rfl (tlt (by decide : (3 : Int32) < (8 : Int32))).2.1 ?_
   refine XS.aloadN X0.here hx rfl (hb hby d1_15) rfl rfl ?_
   refine XS.iloadN X0.here hx rfl (hb hby d1_16) rfl ?_
   exact hgo
 obtain ⟨cl38, Ar38, q38, S38, Nn38, H38, G38⟩ := id V1
 have hin38 : ¬ ((3 : Int32) < 0 ∨ cl38.slots.size ≤ ((3 : Int32)).toNatClampNeg) := inb_of S38 ⟨by decide, by decide⟩
 have hat38 : cl38.slots[((3 : Int32)).toNatClampNeg]? = some (.int 100) := Has.at H38 hin38 rfl
 have R39 : Rc p e below A0 (s₁.setTop (mkF m 18 #[.val (.ref b1), .val (.ref b2), .val (.int 3)] [(.int 100)])) := by
   intro tgt hgo
   refine R37 tgt ?_
   refine X0.baloadBytes hx (j := (3 : Int32)) (v := (.int 100)) (by rw [e0]; exact Ar38.1) (State.isArrayOf_alike hZ.alike Ar38.2.1) Ar38.2.2 hin38 hat38 (g := (mkF m 17 #[.val (.ref b1), .val (.ref b2), .val (.int 3)] [(.int 3), (.ref b1)])) rfl rfl (hb hby d1_17) _ ?_
   exact hgo
 have R40 : Rc p e below A0 (s₁.setTop (mkF m 20 #[.val (.ref b1), .val (.ref b2), .val (.int 3)] [(.int 3), (.ref b2), (.int 100)])) := by
   intro tgt hgo
   refine R39 tgt ?_
   show Steps p.tables e below (s₁.setTop (mkF m 18 #[.val (.ref b1), .val (.ref b2), .val (.int 3)] [(.int 100)])) _
   refine XS.aloadN X0.here hx rfl (hb hby d1_18) rfl rfl ?_
   refine XS.iloadN X0.here hx rfl (hb hby d1_19) rfl ?_
   exact hgo
 obtain ⟨cl41, Ar41, q41, S41, Nn41, H41, G41⟩ := id V2
 have hin41 : ¬ ((3 : Int32) < 0 ∨ cl41.slots.size ≤ ((3 : Int32)).toNatClampNeg) := inb_of S41 ⟨by decide, by decide⟩
 have hat41 : cl41.slots[((3 : Int32)).toNatClampNeg]? = some (.int 100) := Has.at H41 hin41 rfl
 have R42 : Rc p e below A0 (s₁.setTop (mkF m 21 #[.val (.ref b1), .val (.ref b2), .val (.int 3)] [(.int 100), (.int 100)])) := by
   intro tgt hgo
   refine R40 tgt ?_
   refine X0.baloadBytes hx (j := (3 : Int32)) (v := (.int 100)) (by rw [e0]; exact Ar41.1) (State.isArrayOf_alike hZ.alike Ar41.2.1) Ar41.2.2 hin41 hat41 (g := (mkF m 20 #[.val (.ref b1), .val (.ref b2), .val (.int 3)] [(.int 3), (.ref b2), (.int 100)])) rfl rfl (hb hby d1_20) _ ?_
   exact hgo
 have R43 : Rc p e below A0 (s₁.setTop (mkF m 11 #[.val (.ref b1), .val (.ref b2), .val (.int 4)] [(.ref b1), (.int 4)])) := by
   intro tgt hgo
   refine R42 tgt ?_
   show Steps p.tables e below (s₁.setTop (mkF m 21 #[.val (.ref b1), .val (.ref b2), .val (.int 3)] [(.int 100), (.int 100)])) _
   refine XS.icmpYes X0.here hx rfl (pc0 := 21) (pc' := 26) rfl (hb hby d1_21) rfl (teq (by decide : (100 : Int32) = (100 : Int32))).1 (by decide) (by decide) ?_
   refine XS.iinc X0.here hx rfl (hb hby d1_26) rfl (l' := #[.val (.ref b1), .val (.ref b2), .val (.int 4)]) rfl ?_
   refine XS.goto X0.here hx rfl (pc0 := 29) (pc' := 9) rfl (hb hby d1_29) (by decide) (by decide) ?_
   refine XS.iloadN X0.here hx rfl (hb hby d1_9) rfl ?_
   refine XS.aloadN X0.here hx rfl (hb hby d1_10) rfl rfl ?_
   exact hgo
 obtain ⟨cl44, Ar44, -, S44, Nn44, -, -⟩ := id V1
 have R45 : Rc p e below A0 (s₁.setTop (mkF m 12 #[.val (.ref b1), .val (.ref b2), .val (.int 4)] [(.int 8), (.int 4)])) := by
   intro tgt hgo
   refine R43 tgt ?_
   refine X0.arraylength hx (by rw [e0]; exact Ar44.1) (State.isArrayOf_alike hZ.alike Ar44.2.1) (g := (mkF m 11 #[.val (.ref b1), .val (.ref b2), .val (.int 4)] [(.ref b1), (.int 4)])) rfl rfl (hb hby d1_11) _ ?_
   rw [len_of S44 Nn44]
   exact hgo
 have R46 : Rc p e below A0 (s₁.setTop (mkF m 17 #[.val (.ref b1), .val (.ref b2), .val (.int 4)] [(.int 4), (.ref b1)])) := by
   intro tgt hgo
   refine R45 tgt ?_
   show Steps p.tables e below (s₁.setTop (mkF m 12 #[.val (.ref b1), .val (.ref b2), .val (.int 4)] [(.int 8), (.int 4)])) _
   refine XS.icmpNo X0.here hx rfl (hb hby d1_12) rfl (tlt (by decide : (4 : Int32) < (8 : Int32))).2.1 ?_
   refine XS.aloadN X0.here hx rfl (hb hby d1_15) rfl rfl ?_
   refine XS.iloadN X0.here hx rfl (hb hby d1_16) rfl ?_
   exact hgo
 obtain ⟨cl47, Ar47, q47, S47, Nn47, H47, G47⟩ := id V1
 have hin47 : ¬ ((4 : Int32) < 0 ∨ cl47.slots.size ≤ ((4 : Int32)).toNatClampNeg) := inb_of S47 ⟨by decide, by decide⟩
 have hat47 : cl47.slots[((4 : Int32)).toNatClampNeg]? = some (.int 111) := Has.at H47 hin47 rfl
 have R48 : Rc p e below A0 (s₁.setTop (mkF m 18 #[.val (.ref b1), .val (.ref b2), .val (.int 4)] [(.int 111)])) := by
   intro tgt hgo
   refine R46 tgt ?_
   refine X0.baloadBytes hx (j := (4 : Int32)) (v := (.int 111)) (by rw [e0]; exact Ar47.1) (State.isArrayOf_alike hZ.alike Ar47.2.1) Ar47.2.2 hin47 hat47 (g := (mkF m 17 #[.val (.ref b1), .val (.ref b2), .val (.int 4)] [(.int 4), (.ref b1)])) rfl rfl (hb hby d1_17) _ ?_
   exact hgo
 have R49 : Rc p e below A0 (s₁.setTop (mkF m 20 #[.val (.ref b1), .val (.ref b2), .val (.int 4)] [(.int 4), (.ref b2), (.int 111)])) := by
   intro tgt hgo
   refine R48 tgt ?_
   show Steps p.tables e below (s₁.setTop (mkF m 18 #[.val (.ref b1), .val (.ref b2), .val (.int 4)] [(.int 111)])) _
   refine XS.aloadN X0.here hx rfl (hb hby d1_18) rfl rfl ?_
   refine XS.iloadN X0.here hx rfl (hb hby d1_19) rfl ?_
   exact hgo
 obtain ⟨cl50, Ar50, q50, S50, Nn50, H50, G50⟩ := id V2
 have hin50 : ¬ ((4 : Int32) < 0 ∨ cl50.slots.size ≤ ((4 : Int32)).toNatClampNeg) := inb_of S50 ⟨by decide, by decide⟩
 have hat50 : cl50.slots[((4 : Int32)).toNatClampNeg]? = some (.int 111) := Has.at H50 hin50 rfl
 have R51 : Rc p e below A0 (s₁.setTop (mkF m 21 #[.val (.ref b1), .val (.ref b2), .val (.int 4)] [(.int 111), (.int 111)])) := by
   intro tgt hgo
   refine R49 tgt ?_
   refine X0.baloadBytes hx (j := (4 : Int32)) (v := (.int 111)) (by rw [e0]; exact Ar50.1) (State.isArrayOf_alike hZ.alike Ar50.2.1) Ar50.2.2 hin50 hat50 (g := (mkF m 20 #[.val (.ref b1), .val (.ref b2), .val (.int 4)] [(.int 4), (.ref b2), (.int 111)])) rfl rfl (hb hby d1_20) _ ?_
   exact hgo
 have R52 : Rc p e below A0 (s₁.setTop (mkF m 11 #[.val (.ref b1), .val (.ref b2), .val (.int 5)] [(.ref b1), (.int 5)])) := by
   intro tgt hgo
   refine R51 tgt ?_
   show Steps p.tables e below (s₁.setTop (mkF m 21 #[.val (.ref b1), .val (.ref b2), .val (.int 4)] [(.int 111), (.int 111)])) _
   refine XS.icmpYes X0.here hx rfl (pc0 := 21) (pc' := 26) rfl (hb hby d1_21) rfl (teq (by decide : (111 : Int32) = (111 : Int32))).1 (by decide) (by decide) ?_
   refine XS.iinc X0.here hx rfl (hb hby d1_26) rfl (l' := #[.val (.ref b1), .val (.ref b2), .val (.int 5)]) rfl ?_
   refine XS.goto X0.here hx rfl (pc0 := 29) (pc' := 9) rfl (hb hby d1_29) (by decide) (by decide) ?_
   refine XS.iloadN X0.here hx rfl (hb hby d1_9) rfl ?_
   refine XS.aloadN X0.here hx rfl (hb hby d1_10) rfl rfl ?_
   exact hgo
 obtain ⟨cl53, Ar53, -, S53, Nn53, -, -⟩ := id V1
 have R54 : Rc p e below A0 (s₁.setTop (mkF m 12 #[.val (.ref b1), .val (.ref b2), .val (.int 5)] [(.int 8), (.int 5)])) := by
   intro tgt hgo
   refine R52 tgt ?_
   refine X0.arraylength hx (by rw [e0]; exact Ar53.1) (State.isArrayOf_alike hZ.alike Ar53.2.1) (g := (mkF m 11 #[.val (.ref b1), .val (.ref b2), .val (.int 5)] [(.ref b1), (.int 5)])) rfl rfl (hb hby d1_11) _ ?_
   rw [len_of S53 Nn53]
   exact hgo
 have R55 : Rc p e below A0 (s₁.setTop (mkF m 17 #[.val (.ref b1), .val (.ref b2), .val (.int 5)] [(.int 5), (.ref b1)])) := by
   intro tgt hgo
   refine R54 tgt ?_
   show Steps p.tables e below (s₁.setTop (mkF m 12 #[.val (.ref b1), .val (.ref b2), .val (.int 5)] [(.int 8), (.int 5)])) _
   refine XS.icmpNo X0.here hx rfl (hb hby d1_12) rfl (tlt (by decide : (5 : Int32) < (8 : Int32))).2.1 ?_
   refine XS.aloadN X0.here hx rfl (hb hby d1_15) rfl rfl ?_
   refine XS.iloadN X0.here hx rfl (hb hby d1_16) rfl ?_
   exact hgo
 obtain ⟨cl56, Ar56, q56, S56, Nn56, H56, G56⟩ := id V1
 have hin56 : ¬ ((5 : Int32) < 0 ∨ cl56.slots.size ≤ ((5 : Int32)).toNatClampNeg) := inb_of S56 ⟨by decide, by decide⟩
 have hat56 : cl56.slots[((5 : Int32)).toNatClampNeg]? = some (.int 119) := Has.at H56 hin56 rfl
 have R57 : Rc p e below A0 (s₁.setTop (mkF m 18 #[.val (.ref b1), .val (.ref b2), .val (.int 5)] [(.int 119)])) := by
   intro tgt hgo
   refine R55 tgt ?_
   refine X0.baloadBytes hx (j := (5 : Int32)) (v := (.int 119)) (by rw [e0]; exact Ar56.1) (State.isArrayOf_alike hZ.alike Ar56.2.1) Ar56.2.2 hin56 hat56 (g := (mkF m 17 #[.val (.ref b1), .val (.ref b2), .val (.int 5)] [(.int 5), (.ref b1)])) rfl rfl (hb hby d1_17) _ ?_
   exact hgo
 have R58 : Rc p e below A0 (s₁.setTop (mkF m 20 #[.val (.ref b1), .val (.ref b2), .val (.int 5)] [(.int 5), (.ref b2), (.int 119)])) := by
   intro tgt hgo
   refine R57 tgt ?_
   show Steps p.tables e below (s₁.setTop (mkF m 18 #[.val (.ref b1), .val (.ref b2), .val (.int 5)] [(.int 119)])) _
   refine XS.aloadN X0.here hx rfl (hb hby d1_18) rfl rfl ?_
   refine XS.iloadN X0.here hx rfl (hb hby d1_19) rfl ?_
   exact hgo
 obtain ⟨cl59, Ar59, q59, S59, Nn59, H59, G59⟩ := id V2
 have hin59 : ¬ ((5 : Int32) < 0 ∨ cl59.slots.size ≤ ((5 : Int32)).toNatClampNeg) := inb_of S59 ⟨by decide, by decide⟩
 have hat59 : cl59.slots[((5 : Int32)).toNatClampNeg]? = some (.int 119) := Has.at H59 hin59 rfl
 have R60 : Rc p e below A0 (s₁.setTop (mkF m 21 #[.val (.ref b1), .val (.ref b2), .val (.int 5)] [(.int 119), (.int 119)])) := by
   intro tgt hgo
   refine R58 tgt ?_
   refine X0.baloadBytes hx (j := (5 : Int32)) (v := (.int 119)) (by rw [e0]; exact Ar59.1) (State.isArrayOf_alike hZ.alike Ar59.2.1) Ar59.2.2 hin59 hat59 (g := (mkF m 20 #[.val (.ref b1), .val (.ref b2), .val (.int 5)] [(.int 5), (.ref b2), (.int 119)])) rfl rfl (hb hby d1_20) _ ?_
   exact hgo
 have R61 : Rc p e below A0 (s₁.setTop (mkF m 11 #[.val (.ref b1), .val (.ref b2), .val (.int 6)] [(.ref b1), (.int 6)])) := by
   intro tgt hgo
   refine R60 tgt ?_
   show Steps p.tables e below (s₁.setTop (mkF m 21 #[.val (.ref b1), .val (.ref b2), .val (.int 5)] [(.int 119), (.int 119)])) _
   refine XS.icmpYes X0.here hx rfl (pc0 := 21) (pc' := 26) rfl (hb hby d1_21) rfl (teq (by decide : (119 : Int32) = (119 : Int32))).1 (by decide) (by decide) ?_
   refine XS.iinc X0.here hx rfl (hb hby d1_26) rfl (l' := #[.val (.ref b1), .val (.ref b2), .val (.int 6)]) rfl ?_
   refine XS.goto X0.here hx rfl (pc0 := 29) (pc' := 9) rfl (hb hby d1_29) (by decide) (by decide) ?_
   refine XS.iloadN X0.here hx rfl (hb hby d1_9) rfl ?_
   refine XS.aloadN X0.here hx rfl (hb hby d1_10) rfl rfl ?_
   exact hgo
 obtain ⟨cl62, Ar62, -, S62, Nn62, -, -⟩ := id V1
 have R63 : Rc p e below A0 (s₁.setTop (mkF m 12 #[.val (.ref b1), .val (.ref b2), .val (.int 6)] [(.int 8), (.int 6)])) := by
   intro tgt hgo
   refine R61 tgt ?_
   refine X0.arraylength hx (by rw [e0]; exact Ar62.1) (State.isArrayOf_alike hZ.alike Ar62.2.1) (g := (mkF m 11 #[.val (.ref b1), .val (.ref b2), .val (.int 6)] [(.ref b1), (.int 6)])) rfl rfl (hb hby d1_11) _ ?_
   rw [len_of S62 Nn62]
   exact hgo
 have R64 : Rc p e below A0 (s₁.setTop (mkF m 17 #[.val (.ref b1), .val (.ref b2), .val (.int 6)] [(.int 6), (.ref b1)])) := by
   intro tgt hgo
   refine R63 tgt ?_
   show Steps p.tables e below (s₁.setTop (mkF m 12 #[.val (.ref b1), .val (.ref b2), .val (.int 6)] [(.int 8), (.int 6)])) _
   refine XS.icmpNo X0.here hx rfl (hb hby d1_12) rfl (tlt (by decide : (6 : Int32) < (8 : Int32))).2.1 ?_
   refine XS.aloadN X0.here hx rfl (hb hby d1_15) rfl rfl ?_
   refine XS.iloadN X0.here hx rfl (hb hby d1_16) rfl ?_
   exact hgo
 obtain ⟨cl65, Ar65, q65, S65, Nn65, H65, G65⟩ := id V1
 have hin65 : ¬ ((6 : Int32) < 0 ∨ cl65.slots.size ≤ ((6 : Int32)).toNatClampNeg) := inb_of S65 ⟨by decide, by decide⟩
 have hat65 : cl65.slots[((6 : Int32)).toNatClampNeg]? = some (.int 101) := Has.at H65 hin65 rfl
 have R66 : Rc p e below A0 (s₁.setTop (mkF m 18 #[.val (.ref b1), .val (.ref b2), .val (.int 6)] [(.int 101)])) := by
   intro tgt hgo
   refine R64 tgt ?_
   refine X0.baloadBytes hx (j := (6 : Int32)) (v := (.int 101)) (by rw [e0]; exact Ar65.1) (State.isArrayOf_alike hZ.alike Ar65.2.1) Ar65.2.2 hin65 hat65 (g := (mkF m 17 #[.val (.ref b1), .val (.ref b2), .val (.int 6)] [(.int 6), (.ref b1)])) rfl rfl (hb hby d1_17) _ ?_
   exact hgo
 have R67 : Rc p e below A0 (s₁.setTop (mkF m 20 #[.val (.ref b1), .val (.ref b2), .val (.int 6)] [(.int 6), (.ref b2), (.int 101)])) := by
   intro tgt hgo
   refine R66 tgt ?_
   show Steps p.tables e below (s₁.setTop (mkF m 18 #[.val (.ref b1), .val (.ref b2), .val (.int 6)] [(.int 101)])) _
   refine XS.aloadN X0.here hx rfl (hb hby d1_18) rfl rfl ?_
   refine XS.iloadN X0.here hx rfl (hb hby d1_19) rfl ?_
   exact hgo
 obtain ⟨cl68, Ar68, q68, S68, Nn68, H68, G68⟩ := id V2
 have hin68 : ¬ ((6 : Int32) < 0 ∨ cl68.slots.size ≤ ((6 : Int32)).toNatClampNeg) := inb_of S68 ⟨by decide, by decide⟩
 have hat68 : cl68.slots[((6 : Int32)).toNatClampNeg]? = some (.int 101) := Has.at H68 hin68 rfl
 have R69 : Rc p e below A0 (s₁.setTop (mkF m 21 #[.val (.ref b1), .val (.ref b2), .val (.int 6)] [(.int 101), (.int 101)])) := by
   intro tgt hgo
   refine R67 tgt ?_
   refine X0.baloadBytes hx (j := (6 : Int32)) (v := (.int 101)) (by rw [e0]; exact Ar68.1) (State.isArrayOf_alike hZ.alike Ar68.2.1) Ar68.2.2 hin68 hat68 (g := (mkF m 20 #[.val (.ref b1), .val (.ref b2), .val (.int 6)] [(.int 6), (.ref b2), (.int 101)])) rfl rfl (hb hby d1_20) _ ?_
   exact hgo
 have R70 : Rc p e below A0 (s₁.setTop (mkF m 11 #[.val (.ref b1), .val (.ref b2), .val (.int 7)] [(.ref b1), (.int 7)])) := by
   intro tgt hgo
   refine R69 tgt ?_
   show Steps p.tables e below (s₁.setTop (mkF m 21 #[.val (.ref b1), .val (.ref b2), .val (.int 6)] [(.int 101), (.int 101)])) _
   refine XS.icmpYes X0.here hx rfl (pc0 := 21) (pc' := 26) rfl (hb hby d1_21) rfl (teq (by decide : (101 : Int32) = (101 : Int32))).1 (by decide) (by decide) ?_
   refine XS.iinc X0.here hx rfl (hb hby d1_26) rfl (l' := #[.val (.ref b1), .val (.ref b2), .val (.int 7)]) rfl ?_
   refine XS.goto X0.here hx rfl (pc0 := 29) (pc' := 9) rfl (hb hby d1_29) (by decide) (by decide) ?_
   refine XS.iloadN X0.here hx rfl (hb hby d1_9) rfl ?_
   refine XS.aloadN X0.here hx rfl (hb hby d1_10) rfl rfl ?_
   exact hgo
 obtain ⟨cl71, Ar71, -, S71, Nn71, -, -⟩ := id V1
 have R72 : Rc p e below A0 (s₁.setTop (mkF m 12 #[.val (.ref b1), .val (.ref b2), .val (.int 7)] [(.int 8), (.int 7)])) := by
   intro tgt hgo
   refine R70 tgt ?_
   refine X0.arraylength hx (by rw [e0]; exact Ar71.1) (State.isArrayOf_alike hZ.alike Ar71.2.1) (g := (mkF m 11 #[.val (.ref b1), .val (.ref b2), .val (.int 7)] [(.ref b1), (.int 7)])) rfl rfl (hb hby d1_11) _ ?_
   rw [len_of S71 Nn71]
   exact hgo
 have R73 : Rc p e below A0 (s₁.setTop (mkF m 17 #[.val (.ref b1), .val (.ref b2), .val (.int 7)] [(.int 7), (.ref b1)])) := by
   intro tgt hgo
   refine R72 tgt ?_
   show Steps p.tables e below (s₁.setTop (mkF m 12 #[.val (.ref b1), .val (.ref b2), .val (.int 7)] [(.int 8), (.int 7)])) _
   refine XS.icmpNo X0.here hx rfl (hb hby d1_12) rfl (tlt (by decide : (7 : Int32) < (8 : Int32))).2.1 ?_
   refine XS.aloadN X0.here hx rfl (hb hby d1_15) rfl rfl ?_
   refine XS.iloadN X0.here hx rfl (hb hby d1_16) rfl ?_
   exact hgo
 obtain ⟨cl74, Ar74, q74, S74, Nn74, H74, G74⟩ := id V1
 have hin74 : ¬ ((7 : Int32) < 0 ∨ cl74.slots.size ≤ ((7 : Int32)).toNatClampNeg) := inb_of S74 ⟨by decide, by decide⟩
 have hat74 : cl74.slots[((7 : Int32)).toNatClampNeg]? = some (.int 100) := Has.at H74 hin74 rfl
 have R75 : Rc p e below A0 (s₁.setTop (mkF m 18 #[.val (.ref b1), .val (.ref b2), .val (.int 7)] [(.int 100)])) := by
   intro tgt hgo
   refine R73 tgt ?_
   refine X0.baloadBytes hx (j := (7 : Int32)) (v := (.int 100)) (by rw [e0]; exact Ar74.1) (State.isArrayOf_alike hZ.alike Ar74.2.1) Ar74.2.2 hin74 hat74 (g := (mkF m 17 #[.val (.ref b1), .val (.ref b2), .val (.int 7)] [(.int 7), (.ref b1)])) rfl rfl (hb hby d1_17) _ ?_
   exact hgo
 have R76 : Rc p e below A0 (s₁.setTop (mkF m 20 #[.val (.ref b1), .val (.ref b2), .val (.int 7)] [(.int 7), (.ref b2), (.int 100)])) := by
   intro tgt hgo
   refine R75 tgt ?_
   show Steps p.tables e below (s₁.setTop (mkF m 18 #[.val (.ref b1), .val (.ref b2), .val (.int 7)] [(.int 100)])) _
   refine XS.aloadN X0.here hx rfl (hb hby d1_18) rfl rfl ?_
   refine XS.iloadN X0.here hx rfl (hb hby d1_19) rfl ?_
   exact hgo
 obtain ⟨cl77, Ar77, q77, S77, Nn77, H77, G77⟩ := id V2
 have hin77 : ¬ ((7 : Int32) < 0 ∨ cl77.slots.size ≤ ((7 : Int32)).toNatClampNeg) := inb_of S77 ⟨by decide, by decide⟩
 have hat77 : cl77.slots[((7 : Int32)).toNatClampNeg]? = some (.int 100) := Has.at H77 hin77 rfl
 have R78 : Rc p e below A0 (s₁.setTop (mkF m 21 #[.val (.ref b1), .val (.ref b2), .val (.int 7)] [(.int 100), (.int 100)])) := by
   intro tgt hgo
   refine R76 tgt ?_
   refine X0.baloadBytes hx (j := (7 : Int32)) (v := (.int 100)) (by rw [e0]; exact Ar77.1) (State.isArrayOf_alike hZ.alike Ar77.2.1) Ar77.2.2 hin77 hat77 (g := (mkF m 20 #[.val (.ref b1), .val (.ref b2), .val (.int 7)] [(.int 7), (.ref b2), (.int 100)])) rfl rfl (hb hby d1_20) _ ?_
   exact hgo
 have R79 : Rc p e below A0 (s₁.setTop (mkF m 11 #[.val (.ref b1), .val (.ref b2), .val (.int 8)] [(.ref b1), (.int 8)])) := by
   intro tgt hgo
   refine R78 tgt ?_
   show Steps p.tables e below (s₁.setTop (mkF m 21 #[.val (.ref b1), .val (.ref b2), .val (.int 7)] [(.int 100), (.int 100)])) _
   refine XS.icmpYes X0.here hx rfl (pc0 := 21) (pc' := 26) rfl (hb hby d1_21) rfl (teq (by decide : (100 : Int32) = (100 : Int32))).1 (by decide) (by decide) ?_
   refine XS.iinc X0.here hx rfl (hb hby d1_26) rfl (l' := #[.val (.ref b1), .val (.ref b2), .val (.int 8)]) rfl ?_
   refine XS.goto X0.here hx rfl (pc0 := 29) (pc' := 9) rfl (hb hby d1_29) (by decide) (by decide) ?_
   refine XS.iloadN X0.here hx rfl (hb hby d1_9) rfl ?_
   refine XS.aloadN X0.here hx rfl (hb hby d1_10) rfl rfl ?_
   exact hgo
 obtain ⟨cl80, Ar80, -, S80, Nn80, -, -⟩ := id V1
 have R81 : Rc p e below A0 (s₁.setTop (mkF m 12 #[.val (.ref b1), .val (.ref b2), .val (.int 8)] [(.int 8), (.int 8)])) := by
   intro tgt hgo
   refine R79 tgt ?_
   refine X0.arraylength hx (by rw [e0]; exact Ar80.1) (State.isArrayOf_alike hZ.alike Ar80.2.1) (g := (mkF m 11 #[.val (.ref b1), .val (.ref b2), .val (.int 8)] [(.ref b1), (.int 8)])) rfl rfl (hb hby d1_11) _ ?_
   rw [len_of S80 Nn80]
   exact hgo
 have R82 : Rc p e below A0 (s₁.setTop (mkF m 33 #[.val (.ref b1), .val (.ref b2), .val (.int 8)] [(.int 1)])) := by
   intro tgt hgo
   refine R81 tgt ?_
   show Steps p.tables e below (s₁.setTop (mkF m 12 #[.val (.ref b1), .val (.ref b2), .val (.int 8)] [(.int 8), (.int 8)])) _
   refine XS.icmpYes X0.here hx rfl (pc0 := 12) (pc' := 32) rfl (hb hby d1_12) rfl (flt (by decide : ¬ ((8 : Int32) < (8 : Int32)))).2.1 (by decide) (by decide) ?_
   refine XS.iconst X0.here hx rfl (hb hby d1_32) ?_
   exact hgo
 subst hA0
 obtain ⟨fs, hr, hrun, hended, hW, hsame⟩ := X0.leave (v := some (.int 1)) (fun h => by rw [Bd.returns] at h; cases h)
 refine ⟨_, _, R82 _ ?_, hrun, hended, _, _, rfl, ?_, ⟨_, rfl⟩, hW, hsame.mono (by decide) (by decide)⟩
 ·show Steps p.tables e below (s₁.setTop (mkF m 33 #[.val (.ref b1), .val (.ref b2), .val (.int 8)] [(.int 1)])) _
  exact retN X0 hx (t := .boolean) Bd.returns (by simp) (hb hby d1_33) hr
 ·show Qi 1 h0 n0 _ s₁.heap _
  rw [e0]
  exact ⟨rfl, N0, rfl⟩
theorem ef_rm_eq_sh (m : MethodId) (a1 : Addr) (a2 : Addr) : entryFrame m #[(.ref a1), (.ref a2)] 3 = mkF m 0 #[.val (.ref a1), .val (.ref a2), .unset] [] := by first | (simp [entryFrame, mkF, argsToLocals, Value.category]; done) | rfl
theorem d0_7 : decode jdk_42_method_66_code 7 = .ok (.aload_n 1, 1) := by decide +kernel
theorem d0_8 : decode jdk_42_method_66_code 8 = .ok (.instanceof 10, 3) := by decide +kernel
theorem d0_11 : decode jdk_42_method_66_code 11 = .ok (.ifCond .eq 43, 3) := by decide +kernel
theorem d0_14 : decode jdk_42_method_66_code 14 = .ok (.aload_n 1, 1) := by decide +kernel
theorem d0_15 : decode jdk_42_method_66_code 15 = .ok (.checkcast 10, 3) := by decide +kernel
theorem d0_18 : decode jdk_42_method_66_code 18 = .ok (.astore_n 2, 1) := by decide +kernel
theorem d0_19 : decode jdk_42_method_66_code 19 = .ok (.getstatic 38, 3) := by decide +kernel
theorem d0_22 : decode jdk_42_method_66_code 22 = .ok (.ifCond .eq 14, 3) := by decide +kernel
theorem d0_25 : decode jdk_42_method_66_code 25 = .ok (.aload_n 0, 1) := by decide +kernel
theorem d0_26 : decode jdk_42_method_66_code 26 = .ok (.getfield 15, 3) := by decide +kernel
theorem d0_29 : decode jdk_42_method_66_code 29 = .ok (.aload_n 2, 1) := by decide +kernel
theorem d0_30 : decode jdk_42_method_66_code 30 = .ok (.getfield 15, 3) := by decide +kernel
theorem d0_33 : decode jdk_42_method_66_code 33 = .ok (.if_icmp .ne 21, 3) := by decide +kernel
theorem d0_36 : decode jdk_42_method_66_code 36 = .ok (.aload_n 0, 1) := by decide +kernel
theorem d0_37 : decode jdk_42_method_66_code 37 = .ok (.getfield 9, 3) := by decide +kernel
theorem d0_40 : decode jdk_42_method_66_code 40 = .ok (.aload_n 2, 1) := by decide +kernel
theorem d0_41 : decode jdk_42_method_66_code 41 = .ok (.getfield 9, 3) := by decide +kernel
theorem d0_44 : decode jdk_42_method_66_code 44 = .ok (.invokestatic 541, 3) := by decide +kernel
theorem pd_0 : parseMethodDescriptor "([B[B)Z" = some ⟨[(.array .byte), (.array .byte)], some .boolean⟩ := by decide +kernel
theorem d0_47 : decode jdk_42_method_66_code 47 = .ok (.ifCond .eq 7, 3) := by decide +kernel
theorem d0_50 : decode jdk_42_method_66_code 50 = .ok (.iconst 1, 1) := by decide +kernel
theorem d0_51 : decode jdk_42_method_66_code 51 = .ok (.goto 4, 3) := by decide +kernel
theorem d0_55 : decode jdk_42_method_66_code 55 = .ok (.ireturn, 1) := by decide +kernel
set_option maxRecDepth 65536 in
set_option maxHeartbeats 40000000 in
theorem rm_eq_sh (l : Launch) (Z : State) (a0 : Array Value) (hw : ∀ d ∈ tables_1, d.before a0 Z = true) (ws : List Jvm.Cond) (a1 : Addr) (a2 : Addr) (zc : Int32) (b1 b2 : Addr) (k1 k2 : ClassId) (h0 : Heap) (n0 : Nat) (Z0 : n0 ≤ h0.size) (X00 : Old Z n0 h0) (S_cs : Sta Z Z.heap "java/lang/String" "COMPACT_STRINGS" "Z" (.int zc)) (hz : ¬ zc = 0) (D1 : StrF Z h0 a1 b1 k1 own_sh) (D2 : StrF Z h0 a2 b2 k2 own_sh) :
    MetFree l yn0 (head1 (Jvm.Cond.code yn0 jdk_42_method_66_code 3 (some .boolean) :: ws) ({ frames := 2, cells := 0, slots := 0, locals := 60 } : Room)) (fun a U => a = #[(.ref a1), (.ref a2)] ∧ Z.Warmed39 U.vm ∧ U.heap = h0) (fun _ _ _ _ _ => True) (fun _ U o U' => ∃ v L, o = .returned v ∧ Qi 1 h0 n0 v U'.heap L ∧ FrameEnd U o U' L ({ frames := 2, cells := 0, slots := 0, locals := 60 } : Room).cells ({ frames := 2, cells := 0, slots := 0, locals := 60 } : Room).slots) := by
 refine MetFree.of_bodySF (plainFor_of_name pn_java_lang_String) hisR ?_
 intro p e s m args below meth c s₁ Bd hml0 hP hK
 obtain ⟨rfl, hZ, hh⟩ := hP
 have hx := Bd.exec
 have hby := Bd.bytes
 have hml : c.maxLocals = 3 := hml0
 have hown : s.vm.findClass "java/lang/String" = some m.cls := findClass_of_methodNamed Bd.named
 have hnm := (name_of_methodNamed Bd.named Bd.method).1
 have X0 : Stand p l e ({ frames := 2, cells := 0, slots := 0, locals := 60 } : Room) s m #[(.ref a1), (.ref a2)] below meth c s₁ [] 0 0 := Stand.of_body Bd
 have e0 : s₁.heap = h0 := by rw [← hh, Bd.state]; rfl
 have N0 := Fr.nil n0
 obtain ⟨A0, hA0⟩ : ∃ A, A = s₁.setTop (entryFrame m #[(.ref a1), (.ref a2)] 3) := ⟨_, rfl⟩
 have R0 : ∀ tgt, Steps p.tables e below (s₁.setTop (mkF m 0 #[.val (.ref a1), .val (.ref a2), .unset] [])) tgt → Steps p.tables e below A0 tgt := fun tgt hgo => by rw [hA0]; exact castTop (ef_rm_eq_sh m a1 a2) hgo
 have w : ∀ (i : Nat) {d : Jvm.Cond}, tables_1[i]? = some d → d.before a0 Z = true := fun i d h => hw d (List.mem_of_getElem? h)
 obtain ⟨E1, C1, F1, V1⟩ := D1
 obtain ⟨E2, C2, F2, V2⟩ := D2
 have R2 : Rc p e below A0 (s₁.setTop (mkF m 2 #[.val (.ref a1), .val (.ref a2), .unset] [(.ref a2), (.ref a1)])) := by
   intro tgt hgo
   refine R0 tgt ?_
   show Steps p.tables e below (s₁.setTop (mkF m 0 #[.val (.ref a1), .val (.ref a2), .unset] [])) _
   refine XS.aloadN X0.here hx rfl (hb hby d0_0) rfl rfl ?_
   refine XS.aloadN X0.here hx rfl (hb hby d0_1) rfl rfl ?_
   exact hgo
 by_cases ha2_1 : a1 = a2
 ·have R3 : Rc p e below A0 (s₁.setTop (mkF m 6 #[.val (.ref a1), .val (.ref a2), .unset] [(.int 1)])) := by
    intro tgt hgo
    refine R2 tgt ?_
    show Steps p.tables e below (s₁.setTop (mkF m 2 #[.val (.ref a1), .val (.ref a2), .unset] [(.ref a2), (.ref a1)])) _
    refine Jvm.RoadKit.acmp (g := (mkF m 2 #[.val (.ref a1), .val (.ref a2), .unset] [(.ref a2), (.ref a1)])) X0 hx rfl rfl rfl (pc0 := 2) (pc' := 5) (same := true) rfl (hb hby d0_2) rfl (decide_eq_true (congrArg Value.ref ha2_1)) (by decide) (by decide) ?_
    refine XS.iconst X0.here hx rfl (hb hby d0_5) ?_
    exact hgo
  subst hA0
  obtain ⟨fs, hr, hrun, hended, hW, hsame⟩ := X0.leave (v := some (.int 1)) (fun h => by rw [Bd.returns] at h; cases h)
  refine ⟨_, _, R3 _ ?_, hrun, hended, _, _, rfl, ?_, ⟨_, rfl⟩, hW, hsame.mono (by decide) (by decide)⟩
  ·show Steps p.tables e below (s₁.setTop (mkF m 6 #[.val (.ref a1), .val (.ref a2), .unset] [(.int 1)])) _
   exact retN X0 hx (t := .boolean) Bd.returns (by simp) (hb hby d0_6) hr
  ·show Qi 1 h0 n0 _ s₁.heap _
   rw [e0]
   exact ⟨rfl, N0, rfl⟩
 ·have R4 : Rc p e below A0 (s₁.setTop (mkF m 8 #[.val (.ref a1), .val (.ref a2), .unset] [(.ref a2)])) := by
    intro tgt hgo
    refine R2 tgt ?_
    show Steps p.tables e below (s₁.setTop (mkF m 2 #[.val (.ref a1), .val (.ref a2), .unset] [(.ref a2), (.ref a1)])) _
    refine Jvm.RoadKit.acmp (g := (mkF m 2 #[.val (.ref a1), .val (.ref a2), .unset] [(.ref a2), (.ref a1)])) X0 hx rfl rfl rfl (pc0 := 2) (pc' := 7) (same := false) rfl (hb hby d0_2) rfl (decide_eq_false fun q => ha2_1 (Value.ref.inj q)) (by decide) (by decide) ?_
    refine XS.aloadN X0.here hx rfl (hb hby d0_7) rfl rfl ?_
    exact hgo
  obtain ⟨T5, X5, e5, st5⟩ := instY X0 hx hZ hown (w 126 rfl) e0 (Ins.self E2) (g := (mkF m 8 #[.val (.ref a1), .val (.ref a2), .unset] [(.ref a2)])) rfl rfl (hb hby d0_8)
  have R6 := Rc.st R4 st5
  have R7 : Rc p e below A0 (T5.setTop (mkF m 15 #[.val (.ref a1), .val (.ref a2), .unset] [(.ref a2)])) := by
    intro tgt hgo
    refine R6 tgt ?_
    show Steps p.tables e below (T5.setTop (mkF m 11 #[.val (.ref a1), .val (.ref a2), .unset] [(.int 1)])) _
    refine XS.ifNo X5.here hx rfl (hb hby d0_11) rfl ((if0 _ _).trans (feq (by decide : ¬ ((1 : Int32) = (0 : Int32)))).1) ?_
    refine XS.aloadN X5.here hx rfl (hb hby d0_14) rfl rfl ?_
    exact hgo
  obtain ⟨T8, X8, e8, st8⟩ := castY X5 hx hZ hown (w 126 rfl) e5 (Ins.self E2) (g := (mkF m 15 #[.val (.ref a1), .val (.ref a2), .unset] [(.ref a2)])) rfl rfl (hb hby d0_15)
  have R9 := Rc.st R7 st8
  have R10 : Rc p e below A0 (T8.setTop (mkF m 19 #[.val (.ref a1), .val (.ref a2), .val (.ref a2)] [])) := by
    intro tgt hgo
    refine R9 tgt ?_
    show Steps p.tables e below (T8.setTop (mkF m 18 #[.val (.ref a1), .val (.ref a2), .unset] [(.ref a2)])) _
    refine XS.astoreN X8.here hx rfl (hb hby d0_18) rfl rfl (l' := #[.val (.ref a1), .val (.ref a2), .val (.ref a2)]) rfl ?_
    exact hgo
  obtain ⟨T11, X11, e11, st11⟩ := getS2 X8 hx hZ hown (host := "") (Or.inl (w 127 rfl)) Via.refl e8 (S_cs.ext X00.2) (g := (mkF m 19 #[.val (.ref a1), .val (.ref a2), .val (.ref a2)] [])) rfl (hb hby d0_19)
  have R12 := Rc.st R10 st11
  have R13 : Rc p e below A0 (T11.setTop (mkF m 26 #[.val (.ref a1), .val (.ref a2), .val (.ref a2)] [(.ref a1)])) := by
    intro tgt hgo
    refine R12 tgt ?_
    show Steps p.tables e below (T11.setTop (mkF m 22 #[.val (.ref a1), .val (.ref a2), .val (.ref a2)] [(.int zc)])) _
    refine XS.ifNo X11.here hx rfl (hb hby d0_22) rfl ((if0 _ _).trans (feq (hz : ¬ (zc = (0 : Int32)))).1) ?_
    refine XS.aloadN X11.here hx rfl (hb hby d0_25) rfl rfl ?_
    exact hgo
  obtain ⟨T14, X14, e14, st14⟩ := getF X11 hx hZ hown (host := "") (Or.inl (w 30 rfl)) Via.refl e11 C1 (g := (mkF m 26 #[.val (.ref a1), .val (.ref a2), .val (.ref a2)] [(.ref a1)])) rfl rfl (hb hby d0_26)
  have R15 := Rc.st R13 st14
  have R16 : Rc p e below A0 (T14.setTop (mkF m 30 #[.val (.ref a1), .val (.ref a2), .val (.ref a2)] [(.ref a2), (.int 0)])) := by
    intro tgt hgo
    refine R15 tgt ?_
    show Steps p.tables e below (T14.setTop (mkF m 29 #[.val (.ref a1), .val (.ref a2), .val (.ref a2)] [(.int 0)])) _
    refine XS.aloadN X14.here hx rfl (hb hby d0_29) rfl rfl ?_
    exact hgo
  obtain ⟨T17, X17, e17, st17⟩ := getF X14 hx hZ hown (host := "") (Or.inl (w 30 rfl)) Via.refl e14 C2 (g := (mkF m 30 #[.val (.ref a1), .val (.ref a2), .val (.ref a2)] [(.ref a2), (.int 0)])) rfl rfl (hb hby d0_30)
  have R18 := Rc.st R16 st17
  have R19 : Rc p e below A0 (T17.setTop (mkF m 37 #[.val (.ref a1), .val (.ref a2), .val (.ref a2)] [(.ref a1)])) := by
    intro tgt hgo
    refine R18 tgt ?_
    show Steps p.tables e below (T17.setTop (mkF m 33 #[.val (.ref a1), .val (.ref a2), .val (.ref a2)] [(.int 0), (.int 0)])) _
    refine XS.icmpNo X17.here hx rfl (hb hby d0_33) rfl (teq (by decide : (0 : Int32) = (0 : Int32))).2 ?_
    refine XS.aloadN X17.here hx rfl (hb hby d0_36) rfl rfl ?_
    exact hgo
  obtain ⟨T20, X20, e20, st20⟩ := getF X17 hx hZ hown (host := "") (Or.inl (w 29 rfl)) Via.refl e17 F1 (g := (mkF m 37 #[.val (.ref a1), .val (.ref a2), .val (.ref a2)] [(.ref a1)])) rfl rfl (hb hby d0_37)
  have R21 := Rc.st R19 st20
  have R22 : Rc p e below A0 (T20.setTop (mkF m 41 #[.val (.ref a1), .val (.ref a2), .val (.ref a2)] [(.ref a2), (.ref b1)])) := by
    intro tgt hgo
    refine R21 tgt ?_
    show Steps p.tables e below (T20.setTop (mkF m 40 #[.val (.ref a1), .val (.ref a2), .val (.ref a2)] [(.ref b1)])) _
    refine XS.aloadN X20.here hx rfl (hb hby d0_40) rfl rfl ?_
    exact hgo
  obtain ⟨T23, X23, e23, st23⟩ := getF X20 hx hZ hown (host := "") (Or.inl (w 29 rfl)) Via.refl e20 F2 (g := (mkF m 41 #[.val (.ref a1), .val (.ref a2), .val (.ref a2)] [(.ref a2), (.ref b1)])) rfl rfl (hb hby d0_41)
  have R24 := Rc.st R22 st23
  obtain ⟨_, _, ⟨T25, L25, k25, n25⟩, -, X25, ⟨Lc25, hQ25, l25, y25, z25⟩, st25⟩ := Jvm.LawKit.callS X23 hx (y := yn1) hown (mvT hZ (w 128 rfl)) (mvT hZ (w 129 rfl)) (mvT hZ (w 130 rfl)) (mvT hZ (w 131 rfl)) (by decide) (backOf (W := 0) (rm_le_sh l Z a0 hw [] b1 b2 k1 k2 h0 n0 Z0 V1 V2) hZ (w 131 rfl) (w 130 rfl) (by decide) (by decide)) (g := (mkF m 44 #[.val (.ref a1), .val (.ref a2), .val (.ref a2)] [(.ref b2), (.ref b1)])) rfl (by rw [hml]; rfl) (argsL := [(.ref b1), (.ref b2)]) (rest := []) (lenOf pd_0 rfl) rfl (by show 2 * 0 + _ ≤ _; exact Nat.le_of_eq rfl) (hb hby d0_44) (fun _ _ => ⟨rfl, e23, (by decide : 0 + 0 ≤ _), (by decide : 0 + 0 ≤ _)⟩)
  dsimp only [Pt.U, Pt.locs, Pt.cells, Pt.slots] at X25 l25 y25 z25 st25 hQ25
  subst l25 y25 z25
  obtain ⟨rfl, N25q, e25⟩ := hQ25
  have N25 := Fr.app N0 N25q
  have R26 := Rc.st R24 st25
  have R27 : Rc p e below A0 (T25.setTop (mkF m 55 #[.val (.ref a1), .val (.ref a2), .val (.ref a2)] [(.int 1)])) := by
    intro tgt hgo
    refine R26 tgt ?_
    show Steps p.tables e below (T25.setTop (mkF m 47 #[.val (.ref a1), .val (.ref a2), .val (.ref a2)] [(.int 1)])) _
    refine XS.ifNo X25.here hx rfl (hb hby d0_47) rfl ((if0 _ _).trans (feq (by decide : ¬ ((1 : Int32) = (0 : Int32)))).1) ?_
    refine XS.iconst X25.here hx rfl (hb hby d0_50) ?_
    refine XS.goto X25.here hx rfl (pc0 := 51) (pc' := 55) rfl (hb hby d0_51) (by decide) (by decide) ?_
    exact hgo
  subst hA0
  obtain ⟨fs, hr, hrun, hended, hW, hsame⟩ := X25.leave (v := some (.int 1)) (fun h => by rw [Bd.returns] at h; cases h)
  refine ⟨_, _, R27 _ ?_, hrun, hended, _, _, rfl, ?_, ⟨_, rfl⟩, hW, hsame.mono (by decide) (by decide)⟩
  ·show Steps p.tables e below (T25.setTop (mkF m 55 #[.val (.ref a1), .val (.ref a2), .val (.ref a2)] [(.int 1)])) _
   exact retN X25 hx (t := .boolean) Bd.returns (by simp) (hb hby d0_55) hr
  ·show Qi 1 h0 n0 _ T25.heap _
   rw [e25]
   exact ⟨rfl, N25, rfl⟩
theorem ef_rm_le_un (m : MethodId) (b1 : Addr) (b2 : Addr) : entryFrame m #[(.ref b1), (.ref b2)] 3 = mkF m 0 #[.val (.ref b1), .val (.ref b2), .unset] [] := by first | (simp [entryFrame, mkF, argsToLocals, Value.category]; done) | rfl
set_option maxRecDepth 65536 in
set_option maxHeartbeats 40000000 in
theorem rm_le_un (l : Launch) (Z : State) (a0 : Array Value) (hw : ∀ d ∈ tables_1, d.before a0 Z = true) (ws : List Jvm.Cond) (b1 : Addr) (b2 : Addr) (k1 k2 : ClassId) (h0 : Heap) (n0 : Nat) (Z0 : n0 ≤ h0.size) (V1 : Arv Z h0 b1 k1 .byte (11 : Int32) [(.int (117 : Int32)), (.int (110 : Int32)), (.int (114 : Int32)), (.int (101 : Int32)), (.int (97 : Int32)), (.int (99 : Int32)), (.int (104 : Int32)), (.int (97 : Int32)), (.int (98 : Int32)), (.int (108 : Int32)), (.int (101 : Int32))] (.int 0)) (V2 : Arv Z h0 b2 k2 .byte (11 : Int32) [(.int (117 : Int32)), (.int (110 : Int32)), (.int (114 : Int32)), (.int (101 : Int32)), (.int (97 : Int32)), (.int (99 : Int32)), (.int (104 : Int32)), (.int (97 : Int32)), (.int (98 : Int32)), (.int (108 : Int32)), (.int (101 : Int32))] (.int 0)) :
    MetFree l yn1 (head1 (Jvm.Cond.code yn1 jdk_43_method_13_code 3 (some .boolean) :: ws) ({ frames := 0, cells := 0, slots := 0, locals := 0 } : Room)) (fun a U => a = #[(.ref b1), (.ref b2)] ∧ Z.Warmed39 U.vm ∧ U.heap = h0) (fun _ _ _ _ _ => True) (fun _ U o U' => ∃ v L, o = .returned v ∧ Qi 1 h0 n0 v U'.heap L ∧ FrameEnd U o U' L ({ frames := 0, cells := 0, slots := 0, locals := 0 } : Room).cells ({ frames := 0, cells := 0, slots := 0, locals := 0 } : Room).slots) := by
 refine MetFree.of_bodySF (plainFor_of_name pn_java_lang_StringLatin1) hisR ?_
 intro p e s m args below meth c s₁ Bd hml0 hP hK
 obtain ⟨rfl, hZ, hh⟩ := hP
 have hx := Bd.exec
 have hby := Bd.bytes
 have hml : c.maxLocals = 3 := hml0
 have hown : s.vm.findClass "java/lang/StringLatin1" = some m.cls := findClass_of_methodNamed Bd.named
 have hnm := (name_of_methodNamed Bd.named Bd.method).1
 have X0 : Stand p l e ({ frames := 0, cells := 0, slots := 0, locals := 0 } : Room) s m #[(.ref b1), (.ref b2)] below meth c s₁ [] 0 0 := Stand.of_body Bd
 have e0 : s₁.heap = h0 := by rw [← hh, Bd.state]; rfl
 have N0 := Fr.nil n0
 obtain ⟨A0, hA0⟩ : ∃ A, A = s₁.setTop (entryFrame m #[(.ref b1), (.ref b2)] 3) := ⟨_, rfl⟩
 have R0 : ∀ tgt, Steps p.tables e below (s₁.setTop (mkF m 0 #[.val (.ref b1), .val (.ref b2), .unset] [])) tgt → Steps p.tables e below A0 tgt := fun tgt hgo => by rw [hA0]; exact castTop (ef_rm_le_un m b1 b2) hgo
 have w : ∀ (i : Nat) {d : Jvm.Cond}, tables_1[i]? = some d → d.before a0 Z = true := fun i d h => hw d (List.mem_of_getElem? h)
 have R1 : Rc p e below A0 (s₁.setTop (mkF m 1 #[.val (.ref b1), .val (.ref b2), .unset] [(.ref b1)])) := by
   intro tgt hgo
   refine R0 tgt ?_
   show Steps p.tables e below (s₁.setTop (mkF m 0 #[.val (.ref b1), .val (.ref b2), .unset] [])) _
   refine XS.aloadN X0.here hx rfl (hb hby d1_0) rfl rfl ?_
   exact hgo
 obtain ⟨cl2, Ar2, -, S2, Nn2, -, -⟩ := id V1
 have R3 : Rc p e below A0 (s₁.setTop (mkF m 2 #[.val (.ref b1), .val (.ref b2), .unset] [(.int 11)])) := by
   intro tgt hgo
   refine R1 tgt ?_
   refine X0.arraylength hx (by rw [e0]; exact Ar2.1) (State.isArrayOf_alike hZ.alike Ar2.2.1) (g := (mkF m 1 #[.val (.ref b1), .val (.ref b2), .unset] [(.ref b1)])) rfl rfl (hb hby d1_1) _ ?_
   rw [len_of S2 Nn2]
   exact hgo
 have R4 : Rc p e below A0 (s₁.setTop (mkF m 3 #[.val (.ref b1), .val (.ref b2), .unset] [(.ref b2), (.int 11)])) := by
   intro tgt hgo
   refine R3 tgt ?_
   show Steps p.tables e below (s₁.setTop (mkF m 2 #[.val (.ref b1), .val (.ref b2), .unset] [(.int 11)])) _
   refine XS.aloadN X0.here hx rfl (hb hby d1_2) rfl rfl ?_
   exact hgo
 obtain ⟨cl5, Ar5, -, S5, Nn5, -, -⟩ := id V2
 have R6 : Rc p e below A0 (s₁.setTop (mkF m 4 #[.val (.ref b1), .val (.ref b2), .unset] [(.int 11), (.int 11)])) := by
   intro tgt hgo
   refine R4 tgt ?_
   refine X0.arraylength hx (by rw [e0]; exact Ar5.1) (State.isArrayOf_alike hZ.alike Ar5.2.1) (g := (mkF m 3 #[.val (.ref b1), .val (.ref b2), .unset] [(.ref b2), (.int 11)])) rfl rfl (hb hby d1_3) _ ?_
   rw [len_of S5 Nn5]
   exact hgo
 have R7 : Rc p e below A0 (s₁.setTop (mkF m 11 #[.val (.ref b1), .val (.ref b2), .val (.int 0)] [(.ref b1), (.int 0)])) := by
   intro tgt hgo
   refine R6 tgt ?_
   show Steps p.tables e below (s₁.setTop (mkF m 4 #[.val (.ref b1), .val (.ref b2), .unset] [(.int 11), (.int 11)])) _
   refine XS.icmpNo X0.here hx rfl (hb hby d1_4) rfl (teq (by decide : (11 : Int32) = (11 : Int32))).2 ?_
   refine XS.iconst X0.here hx rfl (hb hby d1_7) ?_
   refine XS.istoreN X0.here hx rfl (hb hby d1_8) rfl (l' := #[.val (.ref b1), .val (.ref b2), .val (.int 0)]) rfl ?_
   refine XS.iloadN X0.here hx rfl (hb hby d1_9) rfl ?_
   refine XS.aloadN X0.here hx rfl (hb hby d1_10) rfl rfl ?_
   exact hgo
 obtain ⟨cl8, Ar8, -, S8, Nn8, -, -⟩ := id V1
 have R9 : Rc p e below A0 (s₁.setTop (mkF m 12 #[.val (.ref b1), .val (.ref b2), .val (.int 0)] [(.int 11), (.int 0)])) := by
   intro tgt hgo
   refine R7 tgt ?_
   refine X0.arraylength hx (by rw [e0]; exact Ar8.1) (State.isArrayOf_alike hZ.alike Ar8.2.1) (g := (mkF m 11 #[.val (.ref b1), .val (.ref b2), .val (.int 0)] [(.ref b1), (.int 0)])) rfl rfl (hb hby d1_11) _ ?_
   rw [len_of S8 Nn8]
   exact hgo
 have R10 : Rc p e below A0 (s₁.setTop (mkF m 17 #[.val (.ref b1), .val (.ref b2), .val (.int 0)] [(.int 0), (.ref b1)])) := by
   intro tgt hgo
   refine R9 tgt ?_
   show Steps p.tables e below (s₁.setTop (mkF m 12 #[.val (.ref b1), .val (.ref b2), .val (.int 0)] [(.int 11), (.int 0)])) _
   refine XS.icmpNo X0.here hx rfl (hb hby d1_12) rfl (tlt (by decide : (0 : Int32) < (11 : Int32))).2.1 ?_
   refine XS.aloadN X0.here hx rfl (hb hby d1_15) rfl rfl ?_
   refine XS.iloadN X0.here hx rfl (hb hby d1_16) rfl ?_
   exact hgo
 obtain ⟨cl11, Ar11, q11, S11, Nn11, H11, G11⟩ := id V1
 have hin11 : ¬ ((0 : Int32) < 0 ∨ cl11.slots.size ≤ ((0 : Int32)).toNatClampNeg) := inb_of S11 ⟨by decide, by decide⟩
 have hat11 : cl11.slots[((0 : Int32)).toNatClampNeg]? = some (.int 117) := Has.at H11 hin11 rfl
 have R12 : Rc p e below A0 (s₁.setTop (mkF m 18 #[.val (.ref b1), .val (.ref b2), .val (.int 0)] [(.int 117)])) := by
   intro tgt hgo
   refine R10 tgt ?_
   refine X0.baloadBytes hx (j := (0 : Int32)) (v := (.int 117)) (by rw [e0]; exact Ar11.1) (State.isArrayOf_alike hZ.alike Ar11.2.1) Ar11.2.2 hin11 hat11 (g := (mkF m 17 #[.val (.ref b1), .val (.ref b2), .val (.int 0)] [(.int 0), (.ref b1)])) rfl rfl (hb hby d1_17) _ ?_
   exact hgo
 have R13 : Rc p e below A0 (s₁.setTop (mkF m 20 #[.val (.ref b1), .val (.ref b2), .val (.int 0)] [(.int 0), (.ref b2), (.int 117)])) := by
   intro tgt hgo
   refine R12 tgt ?_
   show Steps p.tables e below (s₁.setTop (mkF m 18 #[.val (.ref b1), .val (.ref b2), .val (.int 0)] [(.int 117)])) _
   refine XS.aloadN X0.here hx rfl (hb hby d1_18) rfl rfl ?_
   refine XS.iloadN X0.here hx rfl (hb hby d1_19) rfl ?_
   exact hgo
 obtain ⟨cl14, Ar14, q14, S14, Nn14, H14, G14⟩ := id V2
 have hin14 : ¬ ((0 : Int32) < 0 ∨ cl14.slots.size ≤ ((0 : Int32)).toNatClampNeg) := inb_of S14 ⟨by decide, by decide⟩
 have hat14 : cl14.slots[((0 : Int32)).toNatClampNeg]? = some (.int 117) := Has.at H14 hin14 rfl
 have R15 : Rc p e below A0 (s₁.setTop (mkF m 21 #[.val (.ref b1), .val (.ref b2), .val (.int 0)] [(.int 117), (.int 117)])) := by
   intro tgt hgo
   refine R13 tgt ?_
   refine X0.baloadBytes hx (j := (0 : Int32)) (v := (.int 117)) (by rw [e0]; exact Ar14.1) (State.isArrayOf_alike hZ.alike Ar14.2.1) Ar14.2.2 hin14 hat14 (g := (mkF m 20 #[.val (.ref b1), .val (.ref b2), .val (.int 0)] [(.int 0), (.ref b2), (.int 117)])) rfl rfl (hb hby d1_20) _ ?_
   exact hgo
 have R16 : Rc p e below A0 (s₁.setTop (mkF m 11 #[.val (.ref b1), .val (.ref b2), .val (.int 1)] [(.ref b1), (.int 1)])) := by
   intro tgt hgo
   refine R15 tgt ?_
   show Steps p.tables e below (s₁.setTop (mkF m 21 #[.val (.ref b1), .val (.ref b2), .val (.int 0)] [(.int 117), (.int 117)])) _
   refine XS.icmpYes X0.here hx rfl (pc0 := 21) (pc' := 26) rfl (hb hby d1_21) rfl (teq (by decide : (117 : Int32) = (117 : Int32))).1 (by decide) (by decide) ?_
   refine XS.iinc X0.here hx rfl (hb hby d1_26) rfl (l' := #[.val (.ref b1), .val (.ref b2), .val (.int 1)]) rfl ?_
   refine XS.goto X0.here hx rfl (pc0 := 29) (pc' := 9) rfl (hb hby d1_29) (by decide) (by decide) ?_
   refine XS.iloadN X0.here hx rfl (hb hby d1_9) rfl ?_
   refine XS.aloadN X0.here hx rfl (hb hby d1_10) rfl rfl ?_
   exact hgo
 obtain ⟨cl17, Ar17, -, S17, Nn17, -, -⟩ := id V1
 have R18 : Rc p e below A0 (s₁.setTop (mkF m 12 #[.val (.ref b1), .val (.ref b2), .val (.int 1)] [(.int 11), (.int 1)])) := by
   intro tgt hgo
   refine R16 tgt ?_
   refine X0.arraylength hx (by rw [e0]; exact Ar17.1) (State.isArrayOf_alike hZ.alike Ar17.2.1) (g := (mkF m 11 #[.val (.ref b1), .val (.ref b2), .val (.int 1)] [(.ref b1), (.int 1)])) rfl rfl (hb hby d1_11) _ ?_
   rw [len_of S17 Nn17]
   exact hgo
 have R19 : Rc p e below A0 (s₁.setTop (mkF m 17 #[.val (.ref b1), .val (.ref b2), .val (.int 1)] [(.int 1), (.ref b1)])) := by
   intro tgt hgo
   refine R18 tgt ?_
   show Steps p.tables e below (s₁.setTop (mkF m 12 #[.val (.ref b1), .val (.ref b2), .val (.int 1)] [(.int 11), (.int 1)])) _
   refine XS.icmpNo X0.here hx rfl (hb hby d1_12) rfl (tlt (by decide : (1 : Int32) < (11 : Int32))).2.1 ?_
   refine XS.aloadN X0.here hx rfl (hb hby d1_15) rfl rfl ?_
   refine XS.iloadN X0.here hx rfl (hb hby d1_16) rfl ?_
   exact hgo
 obtain ⟨cl20, Ar20, q20, S20, Nn20, H20, G20⟩ := id V1
 have hin20 : ¬ ((1 : Int32) < 0 ∨ cl20.slots.size ≤ ((1 : Int32)).toNatClampNeg) := inb_of S20 ⟨by decide, by decide⟩
 have hat20 : cl20.slots[((1 : Int32)).toNatClampNeg]? = some (.int 110) := Has.at H20 hin20 rfl
 have R21 : Rc p e below A0 (s₁.setTop (mkF m 18 #[.val (.ref b1), .val (.ref b2), .val (.int 1)] [(.int 110)])) := by
   intro tgt hgo
   refine R19 tgt ?_
   refine X0.baloadBytes hx (j := (1 : Int32)) (v := (.int 110)) (by rw [e0]; exact Ar20.1) (State.isArrayOf_alike hZ.alike Ar20.2.1) Ar20.2.2 hin20 hat20 (g := (mkF m 17 #[.val (.ref b1), .val (.ref b2), .val (.int 1)] [(.int 1), (.ref b1)])) rfl rfl (hb hby d1_17) _ ?_
   exact hgo
 have R22 : Rc p e below A0 (s₁.setTop (mkF m 20 #[.val (.ref b1), .val (.ref b2), .val (.int 1)] [(.int 1), (.ref b2), (.int 110)])) := by
   intro tgt hgo
   refine R21 tgt ?_
   show Steps p.tables e below (s₁.setTop (mkF m 18 #[.val (.ref b1), .val (.ref b2), .val (.int 1)] [(.int 110)])) _
   refine XS.aloadN X0.here hx rfl (hb hby d1_18) rfl rfl ?_
   refine XS.iloadN X0.here hx rfl (hb hby d1_19) rfl ?_
   exact hgo
 obtain ⟨cl23, Ar23, q23, S23, Nn23, H23, G23⟩ := id V2
 have hin23 : ¬ ((1 : Int32) < 0 ∨ cl23.slots.size ≤ ((1 : Int32)).toNatClampNeg) := inb_of S23 ⟨by decide, by decide⟩
 have hat23 : cl23.slots[((1 : Int32)).toNatClampNeg]? = some (.int 110) := Has.at H23 hin23 rfl
 have R24 : Rc p e below A0 (s₁.setTop (mkF m 21 #[.val (.ref b1), .val (.ref b2), .val (.int 1)] [(.int 110), (.int 110)])) := by
   intro tgt hgo
   refine R22 tgt ?_
   refine X0.baloadBytes hx (j := (1 : Int32)) (v := (.int 110)) (by rw [e0]; exact Ar23.1) (State.isArrayOf_alike hZ.alike Ar23.2.1) Ar23.2.2 hin23 hat23 (g := (mkF m 20 #[.val (.ref b1), .val (.ref b2), .val (.int 1)] [(.int 1), (.ref b2), (.int 110)])) rfl rfl (hb hby d1_20) _ ?_
   exact hgo
 have R25 : Rc p e below A0 (s₁.setTop (mkF m 11 #[.val (.ref b1), .val (.ref b2), .val (.int 2)] [(.ref b1), (.int 2)])) := by
   intro tgt hgo
   refine R24 tgt ?_
   show Steps p.tables e below (s₁.setTop (mkF m 21 #[.val (.ref b1), .val (.ref b2), .val (.int 1)] [(.int 110), (.int 110)])) _
   refine XS.icmpYes X0.here hx rfl (pc0 := 21) (pc' := 26) rfl (hb hby d1_21) rfl (teq (by decide : (110 : Int32) = (110 : Int32))).1 (by decide) (by decide) ?_
   refine XS.iinc X0.here hx rfl (hb hby d1_26) rfl (l' := #[.val (.ref b1), .val (.ref b2), .val (.int 2)]) rfl ?_
   refine XS.goto X0.here hx rfl (pc0 := 29) (pc' := 9) rfl (hb hby d1_29) (by decide) (by decide) ?_
   refine XS.iloadN X0.here hx rfl (hb hby d1_9) rfl ?_
   refine XS.aloadN X0.here hx rfl (hb hby d1_10) rfl rfl ?_
   exact hgo
 obtain ⟨cl26, Ar26, -, S26, Nn26, -, -⟩ := id V1
 have R27 : Rc p e below A0 (s₁.setTop (mkF m 12 #[.val (.ref b1), .val (.ref b2), .val (.int 2)] [(.int 11), (.int 2)])) := by
   intro tgt hgo
   refine R25 tgt ?_
   refine X0.arraylength hx (by rw [e0]; exact Ar26.1) (State.isArrayOf_alike hZ.alike Ar26.2.1) (g := (mkF m 11 #[.val (.ref b1), .val (.ref b2), .val (.int 2)] [(.ref b1), (.int 2)])) rfl rfl (hb hby d1_11) _ ?_
   rw [len_of S26 Nn26]
   exact hgo
 have R28 : Rc p e below A0 (s₁.setTop (mkF m 17 #[.val (.ref b1), .val (.ref b2), .val (.int 2)] [(.int 2), (.ref b1)])) := by
   intro tgt hgo
   refine R27 tgt ?_
   show Steps p.tables e below (s₁.setTop (mkF m 12 #[.val (.ref b1), .val (.ref b2), .val (.int 2)] [(.int 11), (.int 2)])) _
   refine XS.icmpNo X0.here hx rfl (hb hby d1_12) rfl (tlt (by decide : (2 : Int32) < (11 : Int32))).2.1 ?_
   refine XS.aloadN X0.here hx rfl (hb hby d1_15) rfl rfl ?_
   refine XS.iloadN X0.here hx rfl (hb hby d1_16) rfl ?_
   exact hgo
 obtain ⟨cl29, Ar29, q29, S29, Nn29, H29, G29⟩ := id V1
 have hin29 : ¬ ((2 : Int32) < 0 ∨ cl29.slots.size ≤ ((2 : Int32)).toNatClampNeg) := inb_of S29 ⟨by decide, by decide⟩
 have hat29 : cl29.slots[((2 : Int32)).toNatClampNeg]? = some (.int 114) := Has.at H29 hin29 rfl
 have R30 : Rc p e below A0 (s₁.setTop (mkF m 18 #[.val (.ref b1), .val (.ref b2), .val (.int 2)] [(.int 114)])) := by
   intro tgt hgo
   refine R28 tgt ?_
   refine X0.baloadBytes hx (j := (2 : Int32)) (v := (.int 114)) (by rw [e0]; exact Ar29.1) (State.isArrayOf_alike hZ.alike Ar29.2.1) Ar29.2.2 hin29 hat29 (g := (mkF m 17 #[.val (.ref b1), .val (.ref b2), .val (.int 2)] [(.int 2), (.ref b1)])) rfl rfl (hb hby d1_17) _ ?_
   exact hgo
 have R31 : Rc p e below A0 (s₁.setTop (mkF m 20 #[.val (.ref b1), .val (.ref b2), .val (.int 2)] [(.int 2), (.ref b2), (.int 114)])) := by
   intro tgt hgo
   refine R30 tgt ?_
   show Steps p.tables e below (s₁.setTop (mkF m 18 #[.val (.ref b1), .val (.ref b2), .val (.int 2)] [(.int 114)])) _
   refine XS.aloadN X0.here hx rfl (hb hby d1_18) rfl rfl ?_
   refine XS.iloadN X0.here hx rfl (hb hby d1_19) rfl ?_
   exact hgo
 obtain ⟨cl32, Ar32, q32, S32, Nn32, H32, G32⟩ := id V2
 have hin32 : ¬ ((2 : Int32) < 0 ∨ cl32.slots.size ≤ ((2 : Int32)).toNatClampNeg) := inb_of S32 ⟨by decide, by decide⟩
 have hat32 : cl32.slots[((2 : Int32)).toNatClampNeg]? = some (.int 114) := Has.at H32 hin32 rfl
 have R33 : Rc p e below A0 (s₁.setTop (mkF m 21 #[.val (.ref b1), .val (.ref b2), .val (.int 2)] [(.int 114), (.int 114)])) := by
   intro tgt hgo
   refine R31 tgt ?_
   refine X0.baloadBytes hx (j := (2 : Int32)) (v := (.int 114)) (by rw [e0]; exact Ar32.1) (State.isArrayOf_alike hZ.alike Ar32.2.1) Ar32.2.2 hin32 hat32 (g := (mkF m 20 #[.val (.ref b1), .val (.ref b2), .val (.int 2)] [(.int 2), (.ref b2), (.int 114)])) rfl rfl (hb hby d1_20) _ ?_
   exact hgo
 have R34 : Rc p e below A0 (s₁.setTop (mkF m 11 #[.val (.ref b1), .val (.ref b2), .val (.int 3)] [(.ref b1), (.int 3)])) := by
   intro tgt hgo
   refine R33 tgt ?_
   show Steps p.tables e below (s₁.setTop (mkF m 21 #[.val (.ref b1), .val (.ref b2), .val (.int 2)] [(.int 114), (.int 114)])) _
   refine XS.icmpYes X0.here hx rfl (pc0 := 21) (pc' := 26) rfl (hb hby d1_21) rfl (teq (by decide : (114 : Int32) = (114 : Int32))).1 (by decide) (by decide) ?_
   refine XS.iinc X0.here hx rfl (hb hby d1_26) rfl (l' := #[.val (.ref b1), .val (.ref b2), .val (.int 3)]) rfl ?_
   refine XS.goto X0.here hx rfl (pc0 := 29) (pc' := 9) rfl (hb hby d1_29) (by decide) (by decide) ?_
   refine XS.iloadN X0.here hx rfl (hb hby d1_9) rfl ?_
   refine XS.aloadN X0.here hx rfl (hb hby d1_10) rfl rfl ?_
   exact hgo
 obtain ⟨cl35, Ar35, -, S35, Nn35, -, -⟩ := id V1
 have R36 : Rc p e below A0 (s₁.setTop (mkF m 12 #[.val (.ref b1), .val (.ref b2), .val (.int 3)] [(.int 11), (.int 3)])) := by
   intro tgt hgo
   refine R34 tgt ?_
   refine X0.arraylength hx (by rw [e0]; exact Ar35.1) (State.isArrayOf_alike hZ.alike Ar35.2.1) (g := (mkF m 11 #[.val (.ref b1), .val (.ref b2), .val (.int 3)] [(.ref b1), (.int 3)])) rfl rfl (hb hby d1_11) _ ?_
   rw [len_of S35 Nn35]
   exact hgo
 have R37 : Rc p e below A0 (s₁.setTop (mkF m 17 #[.val (.ref b1), .val (.ref b2), .val (.int 3)] [(.int 3), (.ref b1)])) := by
   intro tgt hgo
   refine R36 tgt ?_
   show Steps p.tables e below (s₁.setTop (mkF m 12 #[.val (.ref b1), .val (.ref b2), .val (.int 3)] [(.int 11), (.int 3)])) _
   refine XS.icmpNo X0.here hx rfl (hb hby d1_12) rfl (tlt (by decide : (3 : Int32) < (11 : Int32))).2.1 ?_
   refine XS.aloadN X0.here hx rfl (hb hby d1_15) rfl rfl ?_
   refine XS.iloadN X0.here hx rfl (hb hby d1_16) rfl ?_
   exact hgo
 obtain ⟨cl38, Ar38, q38, S38, Nn38, H38, G38⟩ := id V1
 have hin38 : ¬ ((3 : Int32) < 0 ∨ cl38.slots.size ≤ ((3 : Int32)).toNatClampNeg) := inb_of S38 ⟨by decide, by decide⟩
 have hat38 : cl38.slots[((3 : Int32)).toNatClampNeg]? = some (.int 101) := Has.at H38 hin38 rfl
 have R39 : Rc p e below A0 (s₁.setTop (mkF m 18 #[.val (.ref b1), .val (.ref b2), .val (.int 3)] [(.int 101)])) := by
   intro tgt hgo
   refine R37 tgt ?_
   refine X0.baloadBytes hx (j := (3 : Int32)) (v := (.int 101)) (by rw [e0]; exact Ar38.1) (State.isArrayOf_alike hZ.alike Ar38.2.1) Ar38.2.2 hin38 hat38 (g := (mkF m 17 #[.val (.ref b1), .val (.ref b2), .val (.int 3)] [(.int 3), (.ref b1)])) rfl rfl (hb hby d1_17) _ ?_
   exact hgo
 have R40 : Rc p e below A0 (s₁.setTop (mkF m 20 #[.val (.ref b1), .val (.ref b2), .val (.int 3)] [(.int 3), (.ref b2), (.int 101)])) := by
   intro tgt hgo
   refine R39 tgt ?_
   show Steps p.tables e below (s₁.setTop (mkF m 18 #[.val (.ref b1), .val (.ref b2), .val (.int 3)] [(.int 101)])) _
   refine XS.aloadN X0.here hx rfl (hb hby d1_18) rfl rfl ?_
   refine XS.iloadN X0.here hx rfl (hb hby d1_19) rfl ?_
   exact hgo
 obtain ⟨cl41, Ar41, q41, S41, Nn41, H41, G41⟩ := id V2
 have hin41 : ¬ ((3 : Int32) < 0 ∨ cl41.slots.size ≤ ((3 : Int32)).toNatClampNeg) := inb_of S41 ⟨by decide, by decide⟩
 have hat41 : cl41.slots[((3 : Int32)).toNatClampNeg]? = some (.int 101) := Has.at H41 hin41 rfl
 have R42 : Rc p e below A0 (s₁.setTop (mkF m 21 #[.val (.ref b1), .val (.ref b2), .val (.int 3)] [(.int 101), (.int 101)])) := by
   intro tgt hgo
   refine R40 tgt ?_
   refine X0.baloadBytes hx (j := (3 : Int32)) (v := (.int 101)) (by rw [e0]; exact Ar41.1) (State.isArrayOf_alike hZ.alike Ar41.2.1) Ar41.2.2 hin41 hat41 (g := (mkF m 20 #[.val (.ref b1), .val (.ref b2), .val (.int 3)] [(.int 3), (.ref b2), (.int 101)])) rfl rfl (hb hby d1_20) _ ?_
   exact hgo
 have R43 : Rc p e below A0 (s₁.setTop (mkF m 11 #[.val (.ref b1), .val (.ref b2), .val (.int 4)] [(.ref b1), (.int 4)])) := by
   intro tgt hgo
   refine R42 tgt ?_
   show Steps p.tables e below (s₁.setTop (mkF m 21 #[.val (.ref b1), .val (.ref b2), .val (.int 3)] [(.int 101), (.int 101)])) _
   refine XS.icmpYes X0.here hx rfl (pc0 := 21) (pc' := 26) rfl (hb hby d1_21) rfl (teq (by decide : (101 : Int32) = (101 : Int32))).1 (by decide) (by decide) ?_
   refine XS.iinc X0.here hx rfl (hb hby d1_26) rfl (l' := #[.val (.ref b1), .val (.ref b2), .val (.int 4)]) rfl ?_
   refine XS.goto X0.here hx rfl (pc0 := 29) (pc' := 9) rfl (hb hby d1_29) (by decide) (by decide) ?_
   refine XS.iloadN X0.here hx rfl (hb hby d1_9) rfl ?_
   refine XS.aloadN X0.here hx rfl (hb hby d1_10) rfl rfl ?_
   exact hgo
 obtain ⟨cl44, Ar44, -, S44, Nn44, -, -⟩ := id V1
 have R45 : Rc p e below A0 (s₁.setTop (mkF m 12 #[.val (.ref b1), .val (.ref b2), .val (.int 4)] [(.int 11), (.int 4)])) := by
   intro tgt hgo
   refine R43 tgt ?_
   refine X0.arraylength hx (by rw [e0]; exact Ar44.1) (State.isArrayOf_alike hZ.alike Ar44.2.1) (g := (mkF m 11 #[.val (.ref b1), .val (.ref b2), .val (.int 4)] [(.ref b1), (.int 4)])) rfl rfl (hb hby d1_11) _ ?_
   rw [len_of S44 Nn44]
   exact hgo
 have R46 : Rc p e below A0 (s₁.setTop (mkF m 17 #[.val (.ref b1), .val (.ref b2), .val (.int 4)] [(.int 4), (.ref b1)])) := by
   intro tgt hgo
   refine R45 tgt ?_
   show Steps p.tables e below (s₁.setTop (mkF m 12 #[.val (.ref b1), .val (.ref b2), .val (.int 4)] [(.int 11), (.int 4)])) _
   refine XS.icmpNo X0.here hx rfl (hb hby d1_12) rfl (tlt (by decide : (4 : Int32) < (11 : Int32))).2.1 ?_
   refine XS.aloadN X0.here hx rfl (hb hby d1_15) rfl rfl ?_
   refine XS.iloadN X0.here hx rfl (hb hby d1_16) rfl ?_
   exact hgo
 obtain ⟨cl47, Ar47, q47, S47, Nn47, H47, G47⟩ := id V1
 have hin47 : ¬ ((4 : Int32) < 0 ∨ cl47.slots.size ≤ ((4 : Int32)).toNatClampNeg) := inb_of S47 ⟨by decide, by decide⟩
 have hat47 : cl47.slots[((4 : Int32)).toNatClampNeg]? = some (.int 97) := Has.at H47 hin47 rfl
 have R48 : Rc p e below A0 (s₁.setTop (mkF m 18 #[.val (.ref b1), .val (.ref b2), .val (.int 4)] [(.int 97)])) := by
   intro tgt hgo
   refine R46 tgt ?_
   refine X0.baloadBytes hx (j := (4 : Int32)) (v := (.int 97)) (by rw [e0]; exact Ar47.1) (State.isArrayOf_alike hZ.alike Ar47.2.1) Ar47.2.2 hin47 hat47 (g := (mkF m 17 #[.val (.ref b1), .val (.ref b2), .val (.int 4)] [(.int 4), (.ref b1)])) rfl rfl (hb hby d1_17) _ ?_
   exact hgo
 have R49 : Rc p e below A0 (s₁.setTop (mkF m 20 #[.val (.ref b1), .val (.ref b2), .val (.int 4)] [(.int 4), (.ref b2), (.int 97)])) := by
   intro tgt hgo
   refine R48 tgt ?_
   show Steps p.tables e below (s₁.setTop (mkF m 18 #[.val (.ref b1), .val (.ref b2), .val (.int 4)] [(.int 97)])) _
   refine XS.aloadN X0.here hx rfl (hb hby d1_18) rfl rfl ?_
   refine XS.iloadN X0.here hx rfl (hb hby d1_19) rfl ?_
   exact hgo
 obtain ⟨cl50, Ar50, q50, S50, Nn50, H50, G50⟩ := id V2
 have hin50 : ¬ ((4 : Int32) < 0 ∨ cl50.slots.size ≤ ((4 : Int32)).toNatClampNeg) := inb_of S50 ⟨by decide, by decide⟩
 have hat50 : cl50.slots[((4 : Int32)).toNatClampNeg]? = some (.int 97) := Has.at H50 hin50 rfl
 have R51 : Rc p e below A0 (s₁.setTop (mkF m 21 #[.val (.ref b1), .val (.ref b2), .val (.int 4)] [(.int 97), (.int 97)])) := by
   intro tgt hgo
   refine R49 tgt ?_
   refine X0.baloadBytes hx (j := (4 : Int32)) (v := (.int 97)) (by rw [e0]; exact Ar50.1) (State.isArrayOf_alike hZ.alike Ar50.2.1) Ar50.2.2 hin50 hat50 (g := (mkF m 20 #[.val (.ref b1), .val (.ref b2), .val (.int 4)] [(.int 4), (.ref b2), (.int 97)])) rfl rfl (hb hby d1_20) _ ?_
   exact hgo
 have R52 : Rc p e below A0 (s₁.setTop (mkF m 11 #[.val (.ref b1), .val (.ref b2), .val (.int 5)] [(.ref b1), (.int 5)])) := by
   intro tgt hgo
   refine R51 tgt ?_
   show Steps p.tables e below (s₁.setTop (mkF m 21 #[.val (.ref b1), .val (.ref b2), .val (.int 4)] [(.int 97), (.int 97)])) _
   refine XS.icmpYes X0.here hx rfl (pc0 := 21) (pc' := 26) rfl (hb hby d1_21) rfl (teq (by decide : (97 : Int32) = (97 : Int32))).1 (by decide) (by decide) ?_
   refine XS.iinc X0.here hx rfl (hb hby d1_26) rfl (l' := #[.val (.ref b1), .val (.ref b2), .val (.int 5)]) rfl ?_
   refine XS.goto X0.here hx rfl (pc0 := 29) (pc' := 9) rfl (hb hby d1_29) (by decide) (by decide) ?_
   refine XS.iloadN X0.here hx rfl (hb hby d1_9) rfl ?_
   refine XS.aloadN X0.here hx rfl (hb hby d1_10) rfl rfl ?_
   exact hgo
 obtain ⟨cl53, Ar53, -, S53, Nn53, -, -⟩ := id V1
 have R54 : Rc p e below A0 (s₁.setTop (mkF m 12 #[.val (.ref b1), .val (.ref b2), .val (.int 5)] [(.int 11), (.int 5)])) := by
   intro tgt hgo
   refine R52 tgt ?_
   refine X0.arraylength hx (by rw [e0]; exact Ar53.1) (State.isArrayOf_alike hZ.alike Ar53.2.1) (g := (mkF m 11 #[.val (.ref b1), .val (.ref b2), .val (.int 5)] [(.ref b1), (.int 5)])) rfl rfl (hb hby d1_11) _ ?_
   rw [len_of S53 Nn53]
   exact hgo
 have R55 : Rc p e below A0 (s₁.setTop (mkF m 17 #[.val (.ref b1), .val (.ref b2), .val (.int 5)] [(.int 5), (.ref b1)])) := by
   intro tgt hgo
   refine R54 tgt ?_
   show Steps p.tables e below (s₁.setTop (mkF m 12 #[.val (.ref b1), .val (.ref b2), .val (.int 5)] [(.int 11), (.int 5)])) _
   refine XS.icmpNo X0.here hx rfl (hb hby d1_12) rfl (tlt (by decide : (5 : Int32) < (11 : Int32))).2.1 ?_
   refine XS.aloadN X0.here hx rfl (hb hby d1_15) rfl rfl ?_
   refine XS.iloadN X0.here hx rfl (hb hby d1_16) rfl ?_
   exact hgo
 obtain ⟨cl56, Ar56, q56, S56, Nn56, H56, G56⟩ := id V1
 have hin56 : ¬ ((5 : Int32) < 0 ∨ cl56.slots.size ≤ ((5 : Int32)).toNatClampNeg) := inb_of S56 ⟨by decide, by decide⟩
 have hat56 : cl56.slots[((5 : Int32)).toNatClampNeg]? = some (.int 99) := Has.at H56 hin56 rfl
 have R57 : Rc p e below A0 (s₁.setTop (mkF m 18 #[.val (.ref b1), .val (.ref b2), .val (.int 5)] [(.int 99)])) := by
   intro tgt hgo
   refine R55 tgt ?_
   refine X0.baloadBytes hx (j := (5 : Int32)) (v := (.int 99)) (by rw [e0]; exact Ar56.1) (State.isArrayOf_alike hZ.alike Ar56.2.1) Ar56.2.2 hin56 hat56 (g := (mkF m 17 #[.val (.ref b1), .val (.ref b2), .val (.int 5)] [(.int 5), (.ref b1)])) rfl rfl (hb hby d1_17) _ ?_
   exact hgo
 have R58 : Rc p e below A0 (s₁.setTop (mkF m 20 #[.val (.ref b1), .val (.ref b2), .val (.int 5)] [(.int 5), (.ref b2), (.int 99)])) := by
   intro tgt hgo
   refine R57 tgt ?_
   show Steps p.tables e below (s₁.setTop (mkF m 18 #[.val (.ref b1), .val (.ref b2), .val (.int 5)] [(.int 99)])) _
   refine XS.aloadN X0.here hx rfl (hb hby d1_18) rfl rfl ?_
   refine XS.iloadN X0.here hx rfl (hb hby d1_19) rfl ?_
   exact hgo
 obtain ⟨cl59, Ar59, q59, S59, Nn59, H59, G59⟩ := id V2
 have hin59 : ¬ ((5 : Int32) < 0 ∨ cl59.slots.size ≤ ((5 : Int32)).toNatClampNeg) := inb_of S59 ⟨by decide, by decide⟩
 have hat59 : cl59.slots[((5 : Int32)).toNatClampNeg]? = some (.int 99) := Has.at H59 hin59 rfl
 have R60 : Rc p e below A0 (s₁.setTop (mkF m 21 #[.val (.ref b1), .val (.ref b2), .val (.int 5)] [(.int 99), (.int 99)])) := by
   intro tgt hgo
   refine R58 tgt ?_
   refine X0.baloadBytes hx (j := (5 : Int32)) (v := (.int 99)) (by rw [e0]; exact Ar59.1) (State.isArrayOf_alike hZ.alike Ar59.2.1) Ar59.2.2 hin59 hat59 (g := (mkF m 20 #[.val (.ref b1), .val (.ref b2), .val (.int 5)] [(.int 5), (.ref b2), (.int 99)])) rfl rfl (hb hby d1_20) _ ?_
   exact hgo
 have R61 : Rc p e below A0 (s₁.setTop (mkF m 11 #[.val (.ref b1), .val (.ref b2), .val (.int 6)] [(.ref b1), (.int 6)])) := by
   intro tgt hgo
   refine R60 tgt ?_
   show Steps p.tables e below (s₁.setTop (mkF m 21 #[.val (.ref b1), .val (.ref b2), .val (.int 5)] [(.int 99), (.int 99)])) _
   refine XS.icmpYes X0.here hx rfl (pc0 := 21) (pc' := 26) rfl (hb hby d1_21) rfl (teq (by decide : (99 : Int32) = (99 : Int32))).1 (by decide) (by decide) ?_
   refine XS.iinc X0.here hx rfl (hb hby d1_26) rfl (l' := #[.val (.ref b1), .val (.ref b2), .val (.int 6)]) rfl ?_
   refine XS.goto X0.here hx rfl (pc0 := 29) (pc' := 9) rfl (hb hby d1_29) (by decide) (by decide) ?_
   refine XS.iloadN X0.here hx rfl (hb hby d1_9) rfl ?_
   refine XS.aloadN X0.here hx rfl (hb hby d1_10) rfl rfl ?_
   exact hgo
 obtain ⟨cl62, Ar62, -, S62, Nn62, -, -⟩ := id V1
 have R63 : Rc p e below A0 (s₁.setTop (mkF m 12 #[.val (.ref b1), .val (.ref b2), .val (.int 6)] [(.int 11), (.int 6)])) := by
   intro tgt hgo
   refine R61 tgt ?_
   refine X0.arraylength hx (by rw [e0]; exact Ar62.1) (State.isArrayOf_alike hZ.alike Ar62.2.1) (g := (mkF m 11 #[.val (.ref b1), .val (.ref b2), .val (.int 6)] [(.ref b1), (.int 6)])) rfl rfl (hb hby d1_11) _ ?_
   rw [len_of S62 Nn62]
   exact hgo
 have R64 : Rc p e below A0 (s₁.setTop (mkF m 17 #[.val (.ref b1), .val (.ref b2), .val (.int 6)] [(.int 6), (.ref b1)])) := by
   intro tgt hgo
   refine R63 tgt ?_
   show Steps p.tables e below (s₁.setTop (mkF m 12 #[.val (.ref b1), .val (.ref b2), .val (.int 6)] [(.int 11), (.int 6)])) _
   refine XS.icmpNo X0.here hx rfl (hb hby d1_12) rfl (tlt (by decide : (6 : Int32) < (11 : Int32))).2.1 ?_
   refine XS.aloadN X0.here hx rfl (hb hby d1_15) rfl rfl ?_
   refine XS.iloadN X0.here hx rfl (hb hby d1_16) rfl ?_
   exact hgo
 obtain ⟨cl65, Ar65, q65, S65, Nn65, H65, G65⟩ := id V1
 have hin65 : ¬ ((6 : Int32) < 0 ∨ cl65.slots.size ≤ ((6 : Int32)).toNatClampNeg) := inb_of S65 ⟨by decide, by decide⟩
 have hat65 : cl65.slots[((6 : Int32)).toNatClampNeg]? = some (.int 104) := Has.at H65 hin65 rfl
 have R66 : Rc p e below A0 (s₁.setTop (mkF m 18 #[.val (.ref b1), .val (.ref b2), .val (.int 6)] [(.int 104)])) := by
   intro tgt hgo
   refine R64 tgt ?_
   refine X0.baloadBytes hx (j := (6 : Int32)) (v := (.int 104)) (by rw [e0]; exact Ar65.1) (State.isArrayOf_alike hZ.alike Ar65.2.1) Ar65.2.2 hin65 hat65 (g := (mkF m 17 #[.val (.ref b1), .val (.ref b2), .val (.int 6)] [(.int 6), (.ref b1)])) rfl rfl (hb hby d1_17) _ ?_
   exact hgo
 have R67 : Rc p e below A0 (s₁.setTop (mkF m 20 #[.val (.ref b1), .val (.ref b2), .val (.int 6)] [(.int 6), (.ref b2), (.int 104)])) := by
   intro tgt hgo
   refine R66 tgt ?_
   show Steps p.tables e below (s₁.setTop (mkF m 18 #[.val (.ref b1), .val (.ref b2), .val (.int 6)] [(.int 104)])) _
   refine XS.aloadN X0.here hx rfl (hb hby d1_18) rfl rfl ?_
   refine XS.iloadN X0.here hx rfl (hb hby d1_19) rfl ?_
   exact hgo
 obtain ⟨cl68, Ar68, q68, S68, Nn68, H68, G68⟩ := id V2
 have hin68 : ¬ ((6 : Int32) < 0 ∨ cl68.slots.size ≤ ((6 : Int32)).toNatClampNeg) := inb_of S68 ⟨by decide, by decide⟩
 have hat68 : cl68.slots[((6 : Int32)).toNatClampNeg]? = some (.int 104) := Has.at H68 hin68 rfl
 have R69 : Rc p e below A0 (s₁.setTop (mkF m 21 #[.val (.ref b1), .val (.ref b2), .val (.int 6)] [(.int 104), (.int 104)])) := by
   intro tgt hgo
   refine R67 tgt ?_
   refine X0.baloadBytes hx (j := (6 : Int32)) (v := (.int 104)) (by rw [e0]; exact Ar68.1) (State.isArrayOf_alike hZ.alike Ar68.2.1) Ar68.2.2 hin68 hat68 (g := (mkF m 20 #[.val (.ref b1), .val (.ref b2), .val (.int 6)] [(.int 6), (.ref b2), (.int 104)])) rfl rfl (hb hby d1_20) _ ?_
   exact hgo
 have R70 : Rc p e below A0 (s₁.setTop (mkF m 11 #[.val (.ref b1), .val (.ref b2), .val (.int 7)] [(.ref b1), (.int 7)])) := by
   intro tgt hgo
   refine R69 tgt ?_
   show Steps p.tables e below (s₁.setTop (mkF m 21 #[.val (.ref b1), .val (.ref b2), .val (.int 6)] [(.int 104), (.int 104)])) _
   refine XS.icmpYes X0.here hx rfl (pc0 := 21) (pc' := 26) rfl (hb hby d1_21) rfl (teq (by decide : (104 : Int32) = (104 : Int32))).1 (by decide) (by decide) ?_
   refine XS.iinc X0.here hx rfl (hb hby d1_26) rfl (l' := #[.val (.ref b1), .val (.ref b2), .val (.int 7)]) rfl ?_
   refine XS.goto X0.here hx rfl (pc0 := 29) (pc' := 9) rfl (hb hby d1_29) (by decide) (by decide) ?_
   refine XS.iloadN X0.here hx rfl (hb hby d1_9) rfl ?_
   refine XS.aloadN X0.here hx rfl (hb hby d1_10) rfl rfl ?_
   exact hgo
 obtain ⟨cl71, Ar71, -, S71, Nn71, -, -⟩ := id V1
 have R72 : Rc p e below A0 (s₁.setTop (mkF m 12 #[.val (.ref b1), .val (.ref b2), .val (.int 7)] [(.int 11), (.int 7)])) := by
   intro tgt hgo
   refine R70 tgt ?_
   refine X0.arraylength hx (by rw [e0]; exact Ar71.1) (State.isArrayOf_alike hZ.alike Ar71.2.1) (g := (mkF m 11 #[.val (.ref b1), .val (.ref b2), .val (.int 7)] [(.ref b1), (.int 7)])) rfl rfl (hb hby d1_11) _ ?_
   rw [len_of S71 Nn71]
   exact hgo
 have R73 : Rc p e below A0 (s₁.setTop (mkF m 17 #[.val (.ref b1), .val (.ref b2), .val (.int 7)] [(.int 7), (.ref b1)])) := by
   intro tgt hgo
   refine R72 tgt ?_
   show Steps p.tables e below (s₁.setTop (mkF m 12 #[.val (.ref b1), .val (.ref b2), .val (.int 7)] [(.int 11), (.int 7)])) _
   refine XS.icmpNo X0.here hx rfl (hb hby d1_12) rfl (tlt (by decide : (7 : Int32) < (11 : Int32))).2.1 ?_
   refine XS.aloadN X0.here hx rfl (hb hby d1_15) rfl rfl ?_
   refine XS.iloadN X0.here hx rfl (hb hby d1_16) rfl ?_
   exact hgo
 obtain ⟨cl74, Ar74, q74, S74, Nn74, H74, G74⟩ := id V1
 have hin74 : ¬ ((7 : Int32) < 0 ∨ cl74.slots.size ≤ ((7 : Int32)).toNatClampNeg) := inb_of S74 ⟨by decide, by decide⟩
 have hat74 : cl74.slots[((7 : Int32)).toNatClampNeg]? = some (.int 97) := Has.at H74 hin74 rfl
 have R75 : Rc p e below A0 (s₁.setTop (mkF m 18 #[.val (.ref b1), .val (.ref b2), .val (.int 7)] [(.int 97)])) := by
   intro tgt hgo
   refine R73 tgt ?_
   refine X0.baloadBytes hx (j := (7 : Int32)) (v := (.int 97)) (by rw [e0]; exact Ar74.1) (State.isArrayOf_alike hZ.alike Ar74.2.1) Ar74.2.2 hin74 hat74 (g := (mkF m 17 #[.val (.ref b1), .val (.ref b2), .val (.int 7)] [(.int 7), (.ref b1)])) rfl rfl (hb hby d1_17) _ ?_
   exact hgo
 have R76 : Rc p e below A0 (s₁.setTop (mkF m 20 #[.val (.ref b1), .val (.ref b2), .val (.int 7)] [(.int 7), (.ref b2), (.int 97)])) := by
   intro tgt hgo
   refine R75 tgt ?_
   show Steps p.tables e below (s₁.setTop (mkF m 18 #[.val (.ref b1), .val (.ref b2), .val (.int 7)] [(.int 97)])) _
   refine XS.aloadN X0.here hx rfl (hb hby d1_18) rfl rfl ?_
   refine XS.iloadN X0.here hx rfl (hb hby d1_19) rfl ?_
   exact hgo
 obtain ⟨cl77, Ar77, q77, S77, Nn77, H77, G77⟩ := id V2
 have hin77 : ¬ ((7 : Int32) < 0 ∨ cl77.slots.size ≤ ((7 : Int32)).toNatClampNeg) := inb_of S77 ⟨by decide, by decide⟩
 have hat77 : cl77.slots[((7 : Int32)).toNatClampNeg]? = some (.int 97) := Has.at H77 hin77 rfl
 have R78 : Rc p e below A0 (s₁.setTop (mkF m 21 #[.val (.ref b1), .val (.ref b2), .val (.int 7)] [(.int 97), (.int 97)])) := by
   intro tgt hgo
   refine R76 tgt ?_
   refine X0.baloadBytes hx (j := (7 : Int32)) (v := (.int 97)) (by rw [e0]; exact Ar77.1) (State.isArrayOf_alike hZ.alike Ar77.2.1) Ar77.2.2 hin77 hat77 (g := (mkF m 20 #[.val (.ref b1), .val (.ref b2), .val (.int 7)] [(.int 7), (.ref b2), (.int 97)])) rfl rfl (hb hby d1_20) _ ?_
   exact hgo
 have R79 : Rc p e below A0 (s₁.setTop (mkF m 11 #[.val (.ref b1), .val (.ref b2), .val (.int 8)] [(.ref b1), (.int 8)])) := by
   intro tgt hgo
   refine R78 tgt ?_
   show Steps p.tables e below (s₁.setTop (mkF m 21 #[.val (.ref b1), .val (.ref b2), .val (.int 7)] [(.int 97), (.int 97)])) _
   refine XS.icmpYes X0.here hx rfl (pc0 := 21) (pc' := 26) rfl (hb hby d1_21) rfl (teq (by decide : (97 : Int32) = (97 : Int32))).1 (by decide) (by decide) ?_
   refine XS.iinc X0.here hx rfl (hb hby d1_26) rfl (l' := #[.val (.ref b1), .val (.ref b2), .val (.int 8)]) rfl ?_
   refine XS.goto X0.here hx rfl (pc0 := 29) (pc' := 9) rfl (hb hby d1_29) (by decide) (by decide) ?_
   refine XS.iloadN X0.here hx rfl (hb hby d1_9) rfl ?_
   refine XS.aloadN X0.here hx rfl (hb hby d1_10) rfl rfl ?_
   exact hgo
 obtain ⟨cl80, Ar80, -, S80, Nn80, -, -⟩ := id V1
 have R81 : Rc p e below A0 (s₁.setTop (mkF m 12 #[.val (.ref b1), .val (.ref b2), .val (.int 8)] [(.int 11), (.int 8)])) := by
   intro tgt hgo
   refine R79 tgt ?_
   refine X0.arraylength hx (by rw [e0]; exact Ar80.1) (State.isArrayOf_alike hZ.alike Ar80.2.1) (g := (mkF m 11 #[.val (.ref b1), .val (.ref b2), .val (.int 8)] [(.ref b1), (.int 8)])) rfl rfl (hb hby d1_11) _ ?_
   rw [len_of S80 Nn80]
   exact hgo
 have R82 : Rc p e below A0 (s₁.setTop (mkF m 17 #[.val (.ref b1), .val (.ref b2), .val (.int 8)] [(.int 8), (.ref b1)])) := by
   intro tgt hgo
   refine R81 tgt ?_
   show Steps p.tables e below (s₁.setTop (mkF m 12 #[.val (.ref b1), .val (.ref b2), .val (.int 8)] [(.int 11), (.int 8)])) _
   refine XS.icmpNo X0.here hx rfl (hb hby d1_12) rfl (tlt (by decide : (8 : Int32) < (11 : Int32))).2.1 ?_
   refine XS.aloadN X0.here hx rfl (hb hby d1_15) rfl rfl ?_
   refine XS.iloadN X0.here hx rfl (hb hby d1_16) rfl ?_
   exact hgo
 obtain ⟨cl83, Ar83, q83, S83, Nn83, H83, G83⟩ := id V1
 have hin83 : ¬ ((8 : Int32) < 0 ∨ cl83.slots.size ≤ ((8 : Int32)).toNatClampNeg) := inb_of S83 ⟨by decide, by decide⟩
 have hat83 : cl83.slots[((8 : Int32)).toNatClampNeg]? = some (.int 98) := Has.at H83 hin83 rfl
 have R84 : Rc p e below A0 (s₁.setTop (mkF m 18 #[.val (.ref b1), .val (.ref b2), .val (.int 8)] [(.int 98)])) := by
   intro tgt hgo
   refine R82 tgt ?_
   refine X0.baloadBytes hx (j := (8 : Int32)) (v := (.int 98)) (by rw [e0]; exact Ar83.1) (State.isArrayOf_alike hZ.alike Ar83.2.1) Ar83.2.2 hin83 hat83 (g := (mkF m 17 #[.val (.ref b1), .val (.ref b2), .val (.int 8)] [(.int 8), (.ref b1)])) rfl rfl (hb hby d1_17) _ ?_
   exact hgo
 have R85 : Rc p e below A0 (s₁.setTop (mkF m 20 #[.val (.ref b1), .val (.ref b2), .val (.int 8)] [(.int 8), (.ref b2), (.int 98)])) := by
   intro tgt hgo
   refine R84 tgt ?_
   show Steps p.tables e below (s₁.setTop (mkF m 18 #[.val (.ref b1), .val (.ref b2), .val (.int 8)] [(.int 98)])) _
   refine XS.aloadN X0.here hx rfl (hb hby d1_18) rfl rfl ?_
   refine XS.iloadN X0.here hx rfl (hb hby d1_19) rfl ?_
   exact hgo
 obtain ⟨cl86, Ar86, q86, S86, Nn86, H86, G86⟩ := id V2
 have hin86 : ¬ ((8 : Int32) < 0 ∨ cl86.slots.size ≤ ((8 : Int32)).toNatClampNeg) := inb_of S86 ⟨by decide, by decide⟩
 have hat86 : cl86.slots[((8 : Int32)).toNatClampNeg]? = some (.int 98) := Has.at H86 hin86 rfl
 have R87 : Rc p e below A0 (s₁.setTop (mkF m 21 #[.val (.ref b1), .val (.ref b2), .val (.int 8)] [(.int 98), (.int 98)])) := by
   intro tgt hgo
   refine R85 tgt ?_
   refine X0.baloadBytes hx (j := (8 : Int32)) (v := (.int 98)) (by rw [e0]; exact Ar86.1) (State.isArrayOf_alike hZ.alike Ar86.2.1) Ar86.2.2 hin86 hat86 (g := (mkF m 20 #[.val (.ref b1), .val (.ref b2), .val (.int 8)] [(.int 8), (.ref b2), (.int 98)])) rfl rfl (hb hby d1_20) _ ?_
   exact hgo
 have R88 : Rc p e below A0 (s₁.setTop (mkF m 11 #[.val (.ref b1), .val (.ref b2), .val (.int 9)] [(.ref b1), (.int 9)])) := by
   intro tgt hgo
   refine R87 tgt ?_
   show Steps p.tables e below (s₁.setTop (mkF m 21 #[.val (.ref b1), .val (.ref b2), .val (.int 8)] [(.int 98), (.int 98)])) _
   refine XS.icmpYes X0.here hx rfl (pc0 := 21) (pc' := 26) rfl (hb hby d1_21) rfl (teq (by decide : (98 : Int32) = (98 : Int32))).1 (by decide) (by decide) ?_
   refine XS.iinc X0.here hx rfl (hb hby d1_26) rfl (l' := #[.val (.ref b1), .val (.ref b2), .val (.int 9)]) rfl ?_
   refine XS.goto X0.here hx rfl (pc0 := 29) (pc' := 9) rfl (hb hby d1_29) (by decide) (by decide) ?_
   refine XS.iloadN X0.here hx rfl (hb hby d1_9) rfl ?_
   refine XS.aloadN X0.here hx rfl (hb hby d1_10) rfl rfl ?_
   exact hgo
 obtain ⟨cl89, Ar89, -, S89, Nn89, -, -⟩ := id V1
 have R90 : Rc p e below A0 (s₁.setTop (mkF m 12 #[.val (.ref b1), .val (.ref b2), .val (.int 9)] [(.int 11), (.int 9)])) := by
   intro tgt hgo
   refine R88 tgt ?_
   refine X0.arraylength hx (by rw [e0]; exact Ar89.1) (State.isArrayOf_alike hZ.alike Ar89.2.1) (g := (mkF m 11 #[.val (.ref b1), .val (.ref b2), .val (.int 9)] [(.ref b1), (.int 9)])) rfl rfl (hb hby d1_11) _ ?_
   rw [len_of S89 Nn89]
   exact hgo
 have R91 : Rc p e below A0 (s₁.setTop (mkF m 17 #[.val (.ref b1), .val (.ref b2), .val (.int 9)] [(.int 9), (.ref b1)])) := by
   intro tgt hgo
   refine R90 tgt ?_
   show Steps p.tables e below (s₁.setTop (mkF m 12 #[.val (.ref b1), .val (.ref b2), .val (.int 9)] [(.int 11), (.int 9)])) _
   refine XS.icmpNo X0.here hx rfl (hb hby d1_12) rfl (tlt (by decide : (9 : Int32) < (11 : Int32))).2.1 ?_
   refine XS.aloadN X0.here hx rfl (hb hby d1_15) rfl rfl ?_
   refine XS.iloadN X0.here hx rfl (hb hby d1_16) rfl ?_
   exact hgo
 obtain ⟨cl92, Ar92, q92, S92, Nn92, H92, G92⟩ := id V1
 have hin92 : ¬ ((9 : Int32) < 0 ∨ cl92.slots.size ≤ ((9 : Int32)).toNatClampNeg) := inb_of S92 ⟨by decide, by decide⟩
 have hat92 : cl92.slots[((9 : Int32)).toNatClampNeg]? = some (.int 108) := Has.at H92 hin92 rfl
 have R93 : Rc p e below A0 (s₁.setTop (mkF m 18 #[.val (.ref b1), .val (.ref b2), .val (.int 9)] [(.int 108)])) := by
   intro tgt hgo
   refine R91 tgt ?_
   refine X0.baloadBytes hx (j := (9 : Int32)) (v := (.int 108)) (by rw [e0]; exact Ar92.1) (State.isArrayOf_alike hZ.alike Ar92.2.1) Ar92.2.2 hin92 hat92 (g := (mkF m 17 #[.val (.ref b1), .val (.ref b2), .val (.int 9)] [(.int 9), (.ref b1)])) rfl rfl (hb hby d1_17) _ ?_
   exact hgo
 have R94 : Rc p e below A0 (s₁.setTop (mkF m 20 #[.val (.ref b1), .val (.ref b2), .val (.int 9)] [(.int 9), (.ref b2), (.int 108)])) := by
   intro tgt hgo
   refine R93 tgt ?_
   show Steps p.tables e below (s₁.setTop (mkF m 18 #[.val (.ref b1), .val (.ref b2), .val (.int 9)] [(.int 108)])) _
   refine XS.aloadN X0.here hx rfl (hb hby d1_18) rfl rfl ?_
   refine XS.iloadN X0.here hx rfl (hb hby d1_19) rfl ?_
   exact hgo
 obtain ⟨cl95, Ar95, q95, S95, Nn95, H95, G95⟩ := id V2
 have hin95 : ¬ ((9 : Int32) < 0 ∨ cl95.slots.size ≤ ((9 : Int32)).toNatClampNeg) := inb_of S95 ⟨by decide, by decide⟩
 have hat95 : cl95.slots[((9 : Int32)).toNatClampNeg]? = some (.int 108) := Has.at H95 hin95 rfl
 have R96 : Rc p e below A0 (s₁.setTop (mkF m 21 #[.val (.ref b1), .val (.ref b2), .val (.int 9)] [(.int 108), (.int 108)])) := by
   intro tgt hgo
   refine R94 tgt ?_
   refine X0.baloadBytes hx (j := (9 : Int32)) (v := (.int 108)) (by rw [e0]; exact Ar95.1) (State.isArrayOf_alike hZ.alike Ar95.2.1) Ar95.2.2 hin95 hat95 (g := (mkF m 20 #[.val (.ref b1), .val (.ref b2), .val (.int 9)] [(.int 9), (.ref b2), (.int 108)])) rfl rfl (hb hby d1_20) _ ?_
   exact hgo
 have R97 : Rc p e below A0 (s₁.setTop (mkF m 11 #[.val (.ref b1), .val (.ref b2), .val (.int 10)] [(.ref b1), (.int 10)])) := by
   intro tgt hgo
   refine R96 tgt ?_
   show Steps p.tables e below (s₁.setTop (mkF m 21 #[.val (.ref b1), .val (.ref b2), .val (.int 9)] [(.int 108), (.int 108)])) _
   refine XS.icmpYes X0.here hx rfl (pc0 := 21) (pc' := 26) rfl (hb hby d1_21) rfl (teq (by decide : (108 : Int32) = (108 : Int32))).1 (by decide) (by decide) ?_
   refine XS.iinc X0.here hx rfl (hb hby d1_26) rfl (l' := #[.val (.ref b1), .val (.ref b2), .val (.int 10)]) rfl ?_
   refine XS.goto X0.here hx rfl (pc0 := 29) (pc' := 9) rfl (hb hby d1_29) (by decide) (by decide) ?_
   refine XS.iloadN X0.here hx rfl (hb hby d1_9) rfl ?_
   refine XS.aloadN X0.here hx rfl (hb hby d1_10) rfl rfl ?_
   exact hgo
 obtain ⟨cl98, Ar98, -, S98, Nn98, -, -⟩ := id V1
 have R99 : Rc p e below A0 (s₁.setTop (mkF m 12 #[.val (.ref b1), .val (.ref b2), .val (.int 10)] [(.int 11), (.int 10)])) := by
   intro tgt hgo
   refine R97 tgt ?_
   refine X0.arraylength hx (by rw [e0]; exact Ar98.1) (State.isArrayOf_alike hZ.alike Ar98.2.1) (g := (mkF m 11 #[.val (.ref b1), .val (.ref b2), .val (.int 10)] [(.ref b1), (.int 10)])) rfl rfl (hb hby d1_11) _ ?_
   rw [len_of S98 Nn98]
   exact hgo
 have R100 : Rc p e below A0 (s₁.setTop (mkF m 17 #[.val (.ref b1), .val (.ref b2), .val (.int 10)] [(.int 10), (.ref b1)])) := by
   intro tgt hgo
   refine R99 tgt ?_
   show Steps p.tables e below (s₁.setTop (mkF m 12 #[.val (.ref b1), .val (.ref b2), .val (.int 10)] [(.int 11), (.int 10)])) _
   refine XS.icmpNo X0.here hx rfl (hb hby d1_12) rfl (tlt (by decide : (10 : Int32) < (11 : Int32))).2.1 ?_
   refine XS.aloadN X0.here hx rfl (hb hby d1_15) rfl rfl ?_
   refine XS.iloadN X0.here hx rfl (hb hby d1_16) rfl ?_
   exact hgo
 obtain ⟨cl101, Ar101, q101, S101, Nn101, H101, G101⟩ := id V1
 have hin101 : ¬ ((10 : Int32) < 0 ∨ cl101.slots.size ≤ ((10 : Int32)).toNatClampNeg) := inb_of S101 ⟨by decide, by decide⟩
 have hat101 : cl101.slots[((10 : Int32)).toNatClampNeg]? = some (.int 101) := Has.at H101 hin101 rfl
 have R102 : Rc p e below A0 (s₁.setTop (mkF m 18 #[.val (.ref b1), .val (.ref b2), .val (.int 10)] [(.int 101)])) := by
   intro tgt hgo
   refine R100 tgt ?_
   refine X0.baloadBytes hx (j := (10 : Int32)) (v := (.int 101)) (by rw [e0]; exact Ar101.1) (State.isArrayOf_alike hZ.alike Ar101.2.1) Ar101.2.2 hin101 hat101 (g := (mkF m 17 #[.val (.ref b1), .val (.ref b2), .val (.int 10)] [(.int 10), (.ref b1)])) rfl rfl (hb hby d1_17) _ ?_
   exact hgo
 have R103 : Rc p e below A0 (s₁.setTop (mkF m 20 #[.val (.ref b1), .val (.ref b2), .val (.int 10)] [(.int 10), (.ref b2), (.int 101)])) := by
   intro tgt hgo
   refine R102 tgt ?_
   show Steps p.tables e below (s₁.setTop (mkF m 18 #[.val (.ref b1), .val (.ref b2), .val (.int 10)] [(.int 101)])) _
   refine XS.aloadN X0.here hx rfl (hb hby d1_18) rfl rfl ?_
   refine XS.iloadN X0.here hx rfl (hb hby d1_19) rfl ?_
   exact hgo
 obtain ⟨cl104, Ar104, q104, S104, Nn104, H104, G104⟩ := id V2
 have hin104 : ¬ ((10 : Int32) < 0 ∨ cl104.slots.size ≤ ((10 : Int32)).toNatClampNeg) := inb_of S104 ⟨by decide, by decide⟩
 have hat104 : cl104.slots[((10 : Int32)).toNatClampNeg]? = some (.int 101) := Has.at H104 hin104 rfl
 have R105 : Rc p e below A0 (s₁.setTop (mkF m 21 #[.val (.ref b1), .val (.ref b2), .val (.int 10)] [(.int 101), (.int 101)])) := by
   intro tgt hgo
   refine R103 tgt ?_
   refine X0.baloadBytes hx (j := (10 : Int32)) (v := (.int 101)) (by rw [e0]; exact Ar104.1) (State.isArrayOf_alike hZ.alike Ar104.2.1) Ar104.2.2 hin104 hat104 (g := (mkF m 20 #[.val (.ref b1), .val (.ref b2), .val (.int 10)] [(.int 10), (.ref b2), (.int 101)])) rfl rfl (hb hby d1_20) _ ?_
   exact hgo
 have R106 : Rc p e below A0 (s₁.setTop (mkF m 11 #[.val (.ref b1), .val (.ref b2), .val (.int 11)] [(.ref b1), (.int 11)])) := by
   intro tgt hgo
   refine R105 tgt ?_
   show Steps p.tables e below (s₁.setTop (mkF m 21 #[.val (.ref b1), .val (.ref b2), .val (.int 10)] [(.int 101), (.int 101)])) _
   refine XS.icmpYes X0.here hx rfl (pc0 := 21) (pc' := 26) rfl (hb hby d1_21) rfl (teq (by decide : (101 : Int32) = (101 : Int32))).1 (by decide) (by decide) ?_
   refine XS.iinc X0.here hx rfl (hb hby d1_26) rfl (l' := #[.val (.ref b1), .val (.ref b2), .val (.int 11)]) rfl ?_
   refine XS.goto X0.here hx rfl (pc0 := 29) (pc' := 9) rfl (hb hby d1_29) (by decide) (by decide) ?_
   refine XS.iloadN X0.here hx rfl (hb hby d1_9) rfl ?_
   refine XS.aloadN X0.here hx rfl (hb hby d1_10) rfl rfl ?_
   exact hgo
 obtain ⟨cl107, Ar107, -, S107, Nn107, -, -⟩ := id V1
 have R108 : Rc p e below A0 (s₁.setTop (mkF m 12 #[.val (.ref b1), .val (.ref b2), .val (.int 11)] [(.int 11), (.int 11)])) := by
   intro tgt hgo
   refine R106 tgt ?_
   refine X0.arraylength hx (by rw [e0]; exact Ar107.1) (State.isArrayOf_alike hZ.alike Ar107.2.1) (g := (mkF m 11 #[.val (.ref b1), .val (.ref b2), .val (.int 11)] [(.ref b1), (.int 11)])) rfl rfl (hb hby d1_11) _ ?_
   rw [len_of S107 Nn107]
   exact hgo
 have R109 : Rc p e below A0 (s₁.setTop (mkF m 33 #[.val (.ref b1), .val (.ref b2), .val (.int 11)] [(.int 1)])) := by
   intro tgt hgo
   refine R108 tgt ?_
   show Steps p.tables e below (s₁.setTop (mkF m 12 #[.val (.ref b1), .val (.ref b2), .val (.int 11)] [(.int 11), (.int 11)])) _
   refine XS.icmpYes X0.here hx rfl (pc0 := 12) (pc' := 32) rfl (hb hby d1_12) rfl (flt (by decide : ¬ ((11 : Int32) < (11 : Int32)))).2.1 (by decide) (by decide) ?_
   refine XS.iconst X0.here hx rfl (hb hby d1_32) ?_
   exact hgo
 subst hA0
 obtain ⟨fs, hr, hrun, hended, hW, hsame⟩ := X0.leave (v := some (.int 1)) (fun h => by rw [Bd.returns] at h; cases h)
 refine ⟨_, _, R109 _ ?_, hrun, hended, _, _, rfl, ?_, ⟨_, rfl⟩, hW, hsame.mono (by decide) (by decide)⟩
 ·show Steps p.tables e below (s₁.setTop (mkF m 33 #[.val (.ref b1), .val (.ref b2), .val (.int 11)] [(.int 1)])) _
  exact retN X0 hx (t := .boolean) Bd.returns (by simp) (hb hby d1_33) hr
 ·show Qi 1 h0 n0 _ s₁.heap _
  rw [e0]
  exact ⟨rfl, N0, rfl⟩
theorem ef_rm_eq_un (m : MethodId) (a1 : Addr) (a2 : Addr) : entryFrame m #[(.ref a1), (.ref a2)] 3 = mkF m 0 #[.val (.ref a1), .val (.ref a2), .unset] [] := by first | (simp [entryFrame, mkF, argsToLocals, Value.category]; done) | rfl
set_option maxRecDepth 65536 in
set_option maxHeartbeats 40000000 in
theorem rm_eq_un (l : Launch) (Z : State) (a0 : Array Value) (hw : ∀ d ∈ tables_1, d.before a0 Z = true) (ws : List Jvm.Cond) (a1 : Addr) (a2 : Addr) (zc : Int32) (b1 b2 : Addr) (k1 k2 : ClassId) (h0 : Heap) (n0 : Nat) (Z0 : n0 ≤ h0.size) (X00 : Old Z n0 h0) (S_cs : Sta Z Z.heap "java/lang/String" "COMPACT_STRINGS" "Z" (.int zc)) (hz : ¬ zc = 0) (D1 : StrF Z h0 a1 b1 k1 own_un) (D2 : StrF Z h0 a2 b2 k2 own_un) :
    MetFree l yn0 (head1 (Jvm.Cond.code yn0 jdk_42_method_66_code 3 (some .boolean) :: ws) ({ frames := 2, cells := 0, slots := 0, locals := 60 } : Room)) (fun a U => a = #[(.ref a1), (.ref a2)] ∧ Z.Warmed39 U.vm ∧ U.heap = h0) (fun _ _ _ _ _ => True) (fun _ U o U' => ∃ v L, o = .returned v ∧ Qi 1 h0 n0 v U'.heap L ∧ FrameEnd U o U' L ({ frames := 2, cells := 0, slots := 0, locals := 60 } : Room).cells ({ frames := 2, cells := 0, slots := 0, locals := 60 } : Room).slots) := by
 refine MetFree.of_bodySF (plainFor_of_name pn_java_lang_String) hisR ?_
 intro p e s m args below meth c s₁ Bd hml0 hP hK
 obtain ⟨rfl, hZ, hh⟩ := hP
 have hx := Bd.exec
 have hby := Bd.bytes
 have hml : c.maxLocals = 3 := hml0
 have hown : s.vm.findClass "java/lang/String" = some m.cls := findClass_of_methodNamed Bd.named
 have hnm := (name_of_methodNamed Bd.named Bd.method).1
 have X0 : Stand p l e ({ frames := 2, cells := 0, slots := 0, locals := 60 } : Room) s m #[(.ref a1), (.ref a2)] below meth c s₁ [] 0 0 := Stand.of_body Bd
 have e0 : s₁.heap = h0 := by rw [← hh, Bd.state]; rfl
 have N0 := Fr.nil n0
 obtain ⟨A0, hA0⟩ : ∃ A, A = s₁.setTop (entryFrame m #[(.ref a1), (.ref a2)] 3) := ⟨_, rfl⟩
 have R0 : ∀ tgt, Steps p.tables e below (s₁.setTop (mkF m 0 #[.val (.ref a1), .val (.ref a2), .unset] [])) tgt → Steps p.tables e below A0 tgt := fun tgt hgo => by rw [hA0]; exact castTop (ef_rm_eq_un m a1 a2) hgo
 have w : ∀ (i : Nat) {d : Jvm.Cond}, tables_1[i]? = some d → d.before a0 Z = true := fun i d h => hw d (List.mem_of_getElem? h)
 obtain ⟨E1, C1, F1, V1⟩ := D1
 obtain ⟨E2, C2, F2, V2⟩ := D2
 have R2 : Rc p e below A0 (s₁.setTop (mkF m 2 #[.val (.ref a1), .val (.ref a2), .unset] [(.ref a2), (.ref a1)])) := by
   intro tgt hgo
   refine R0 tgt ?_
   show Steps p.tables e below (s₁.setTop (mkF m 0 #[.val (.ref a1), .val (.ref a2), .unset] [])) _
   refine XS.aloadN X0.here hx rfl (hb hby d0_0) rfl rfl ?_
   refine XS.aloadN X0.here hx rfl (hb hby d0_1) rfl rfl ?_
   exact hgo
 by_cases ha2_1 : a1 = a2
 ·have R3 : Rc p e below A0 (s₁.setTop (mkF m 6 #[.val (.ref a1), .val (.ref a2), .unset] [(.int 1)])) := by
    intro tgt hgo
    refine R2 tgt ?_
    show Steps p.tables e below (s₁.setTop (mkF m 2 #[.val (.ref a1), .val (.ref a2), .unset] [(.ref a2), (.ref a1)])) _
    refine Jvm.RoadKit.acmp (g := (mkF m 2 #[.val (.ref a1), .val (.ref a2), .unset] [(.ref a2), (.ref a1)])) X0 hx rfl rfl rfl (pc0 := 2) (pc' := 5) (same := true) rfl (hb hby d0_2) rfl (decide_eq_true (congrArg Value.ref ha2_1)) (by decide) (by decide) ?_
    refine XS.iconst X0.here hx rfl (hb hby d0_5) ?_
    exact hgo
  subst hA0
  obtain ⟨fs, hr, hrun, hended, hW, hsame⟩ := X0.leave (v := some (.int 1)) (fun h => by rw [Bd.returns] at h; cases h)
  refine ⟨_, _, R3 _ ?_, hrun, hended, _, _, rfl, ?_, ⟨_, rfl⟩, hW, hsame.mono (by decide) (by decide)⟩
  ·show Steps p.tables e below (s₁.setTop (mkF m 6 #[.val (.ref a1), .val (.ref a2), .unset] [(.int 1)])) _
   exact retN X0 hx (t := .boolean) Bd.returns (by simp) (hb hby d0_6) hr
  ·show Qi 1 h0 n0 _ s₁.heap _
   rw [e0]
   exact ⟨rfl, N0, rfl⟩
 ·have R4 : Rc p e below A0 (s₁.setTop (mkF m 8 #[.val (.ref a1), .val (.ref a2), .unset] [(.ref a2)])) := by
    intro tgt hgo
    refine R2 tgt ?_
    show Steps p.tables e below (s₁.setTop (mkF m 2 #[.val (.ref a1), .val (.ref a2), .unset] [(.ref a2), (.ref a1)])) _
    refine Jvm.RoadKit.acmp (g := (mkF m 2 #[.val (.ref a1), .val (.ref a2), .unset] [(.ref a2), (.ref a1)])) X0 hx rfl rfl rfl (pc0 := 2) (pc' := 7) (same := false) rfl (hb hby d0_2) rfl (decide_eq_false fun q => ha2_1 (Value.ref.inj q)) (by decide) (by decide) ?_
    refine XS.aloadN X0.here hx rfl (hb hby d0_7) rfl rfl ?_
    exact hgo
  obtain ⟨T5, X5, e5, st5⟩ := instY X0 hx hZ hown (w 126 rfl) e0 (Ins.self E2) (g := (mkF m 8 #[.val (.ref a1), .val (.ref a2), .unset] [(.ref a2)])) rfl rfl (hb hby d0_8)
  have R6 := Rc.st R4 st5
  have R7 : Rc p e below A0 (T5.setTop (mkF m 15 #[.val (.ref a1), .val (.ref a2), .unset] [(.ref a2)])) := by
    intro tgt hgo
    refine R6 tgt ?_
    show Steps p.tables e below (T5.setTop (mkF m 11 #[.val (.ref a1), .val (.ref a2), .unset] [(.int 1)])) _
    refine XS.ifNo X5.here hx rfl (hb hby d0_11) rfl ((if0 _ _).trans (feq (by decide : ¬ ((1 : Int32) = (0 : Int32)))).1) ?_
    refine XS.aloadN X5.here hx rfl (hb hby d0_14) rfl rfl ?_
    exact hgo
  obtain ⟨T8, X8, e8, st8⟩ := castY X5 hx hZ hown (w 126 rfl) e5 (Ins.self E2) (g := (mkF m 15 #[.val (.ref a1), .val (.ref a2), .unset] [(.ref a2)])) rfl rfl (hb hby d0_15)
  have R9 := Rc.st R7 st8
  have R10 : Rc p e below A0 (T8.setTop (mkF m 19 #[.val (.ref a1), .val (.ref a2), .val (.ref a2)] [])) := by
    intro tgt hgo
    refine R9 tgt ?_
    show Steps p.tables e below (T8.setTop (mkF m 18 #[.val (.ref a1), .val (.ref a2), .unset] [(.ref a2)])) _
    refine XS.astoreN X8.here hx rfl (hb hby d0_18) rfl rfl (l' := #[.val (.ref a1), .val (.ref a2), .val (.ref a2)]) rfl ?_
    exact hgo
  obtain ⟨T11, X11, e11, st11⟩ := getS2 X8 hx hZ hown (host := "") (Or.inl (w 127 rfl)) Via.refl e8 (S_cs.ext X00.2) (g := (mkF m 19 #[.val (.ref a1), .val (.ref a2), .val (.ref a2)] [])) rfl (hb hby d0_19)
  have R12 := Rc.st R10 st11
  have R13 : Rc p e below A0 (T11.setTop (mkF m 26 #[.val (.ref a1), .val (.ref a2), .val (.ref a2)] [(.ref a1)])) := by
    intro tgt hgo
    refine R12 tgt ?_
    show Steps p.tables e below (T11.setTop (mkF m 22 #[.val (.ref a1), .val (.ref a2), .val (.ref a2)] [(.int zc)])) _
    refine XS.ifNo X11.here hx rfl (hb hby d0_22) rfl ((if0 _ _).trans (feq (hz : ¬ (zc = (0 : Int32)))).1) ?_
    refine XS.aloadN X11.here hx rfl (hb hby d0_25) rfl rfl ?_
    exact hgo
  obtain ⟨T14, X14, e14, st14⟩ := getF X11 hx hZ hown (host := "") (Or.inl (w 30 rfl)) Via.refl e11 C1 (g := (mkF m 26 #[.val (.ref a1), .val (.ref a2), .val (.ref a2)] [(.ref a1)])) rfl rfl (hb hby d0_26)
  have R15 := Rc.st R13 st14
  have R16 : Rc p e below A0 (T14.setTop (mkF m 30 #[.val (.ref a1), .val (.ref a2), .val (.ref a2)] [(.ref a2), (.int 0)])) := by
    intro tgt hgo
    refine R15 tgt ?_
    show Steps p.tables e below (T14.setTop (mkF m 29 #[.val (.ref a1), .val (.ref a2), .val (.ref a2)] [(.int 0)])) _
    refine XS.aloadN X14.here hx rfl (hb hby d0_29) rfl rfl ?_
    exact hgo
  obtain ⟨T17, X17, e17, st17⟩ := getF X14 hx hZ hown (host := "") (Or.inl (w 30 rfl)) Via.refl e14 C2 (g := (mkF m 30 #[.val (.ref a1), .val (.ref a2), .val (.ref a2)] [(.ref a2), (.int 0)])) rfl rfl (hb hby d0_30)
  have R18 := Rc.st R16 st17
  have R19 : Rc p e below A0 (T17.setTop (mkF m 37 #[.val (.ref a1), .val (.ref a2), .val (.ref a2)] [(.ref a1)])) := by
    intro tgt hgo
    refine R18 tgt ?_
    show Steps p.tables e below (T17.setTop (mkF m 33 #[.val (.ref a1), .val (.ref a2), .val (.ref a2)] [(.int 0), (.int 0)])) _
    refine XS.icmpNo X17.here hx rfl (hb hby d0_33) rfl (teq (by decide : (0 : Int32) = (0 : Int32))).2 ?_
    refine XS.aloadN X17.here hx rfl (hb hby d0_36) rfl rfl ?_
    exact hgo
  obtain ⟨T20, X20, e20, st20⟩ := getF X17 hx hZ hown (host := "") (Or.inl (w 29 rfl)) Via.refl e17 F1 (g := (mkF m 37 #[.val (.ref a1), .val (.ref a2), .val (.ref a2)] [(.ref a1)])) rfl rfl (hb hby d0_37)
  have R21 := Rc.st R19 st20
  have R22 : Rc p e below A0 (T20.setTop (mkF m 41 #[.val (.ref a1), .val (.ref a2), .val (.ref a2)] [(.ref a2), (.ref b1)])) := by
    intro tgt hgo
    refine R21 tgt ?_
    show Steps p.tables e below (T20.setTop (mkF m 40 #[.val (.ref a1), .val (.ref a2), .val (.ref a2)] [(.ref b1)])) _
    refine XS.aloadN X20.here hx rfl (hb hby d0_40) rfl rfl ?_
    exact hgo
  obtain ⟨T23, X23, e23, st23⟩ := getF X20 hx hZ hown (host := "") (Or.inl (w 29 rfl)) Via.refl e20 F2 (g := (mkF m 41 #[.val (.ref a1), .val (.ref a2), .val (.ref a2)] [(.ref a2), (.ref b1)])) rfl rfl (hb hby d0_41)
  have R24 := Rc.st R22 st23
  obtain ⟨_, _, ⟨T25, L25, k25, n25⟩, -, X25, ⟨Lc25, hQ25, l25, y25, z25⟩, st25⟩ := Jvm.LawKit.callS X23 hx (y := yn1) hown (mvT hZ (w 128 rfl)) (mvT hZ (w 129 rfl)) (mvT hZ (w 130 rfl)) (mvT hZ (w 131 rfl)) (by decide) (backOf (W := 0) (rm_le_un l Z a0 hw [] b1 b2 k1 k2 h0 n0 Z0 V1 V2) hZ (w 131 rfl) (w 130 rfl) (by decide) (by decide)) (g := (mkF m 44 #[.val (.ref a1), .val (.ref a2), .val (.ref a2)] [(.ref b2), (.ref b1)])) rfl (by rw [hml]; rfl) (argsL := [(.ref b1), (.ref b2)]) (rest := []) (lenOf pd_0 rfl) rfl (by show 2 * 0 + _ ≤ _; exact Nat.le_of_eq rfl) (hb hby d0_44) (fun _ _ => ⟨rfl, e23, (by decide : 0 + 0 ≤ _), (by decide : 0 + 0 ≤ _)⟩)
  dsimp only [Pt.U, Pt.locs, Pt.cells, Pt.slots] at X25 l25 y25 z25 st25 hQ25
  subst l25 y25 z25
  obtain ⟨rfl, N25q, e25⟩ := hQ25
  have N25 := Fr.app N0 N25q
  have R26 := Rc.st R24 st25
  have R27 : Rc p e below A0 (T25.setTop (mkF m 55 #[.val (.ref a1), .val (.ref a2), .val (.ref a2)] [(.int 1)])) := by
    intro tgt hgo
    refine R26 tgt ?_
    show Steps p.tables e below (T25.setTop (mkF m 47 #[.val (.ref a1), .val (.ref a2), .val (.ref a2)] [(.int 1)])) _
    refine XS.ifNo X25.here hx rfl (hb hby d0_47) rfl ((if0 _ _).trans (feq (by decide : ¬ ((1 : Int32) = (0 : Int32)))).1) ?_
    refine XS.iconst X25.here hx rfl (hb hby d0_50) ?_
    refine XS.goto X25.here hx rfl (pc0 := 51) (pc' := 55) rfl (hb hby d0_51) (by decide) (by decide) ?_
    exact hgo
  subst hA0
  obtain ⟨fs, hr, hrun, hended, hW, hsame⟩ := X25.leave (v := some (.int 1)) (fun h => by rw [Bd.returns] at h; cases h)
  refine ⟨_, _, R27 _ ?_, hrun, hended, _, _, rfl, ?_, ⟨_, rfl⟩, hW, hsame.mono (by decide) (by decide)⟩
  ·show Steps p.tables e below (T25.setTop (mkF m 55 #[.val (.ref a1), .val (.ref a2), .val (.ref a2)] [(.int 1)])) _
   exact retN X25 hx (t := .boolean) Bd.returns (by simp) (hb hby d0_55) hr
  ·show Qi 1 h0 n0 _ T25.heap _
   rw [e25]
   exact ⟨rfl, N25, rfl⟩
theorem ef_rm_le_bo (m : MethodId) (b1 : Addr) (b2 : Addr) : entryFrame m #[(.ref b1), (.ref b2)] 3 = mkF m 0 #[.val (.ref b1), .val (.ref b2), .unset] [] := by first | (simp [entryFrame, mkF, argsToLocals, Value.category]; done) | rfl
set_option maxRecDepth 65536 in
set_option maxHeartbeats 40000000 in
theorem rm_le_bo (l : Launch) (Z : State) (a0 : Array Value) (hw : ∀ d ∈ tables_1, d.before a0 Z = true) (ws : List Jvm.Cond) (b1 : Addr) (b2 : Addr) (k1 k2 : ClassId) (h0 : Heap) (n0 : Nat) (Z0 : n0 ≤ h0.size) (V1 : Arv Z h0 b1 k1 .byte (10 : Int32) [(.int (98 : Int32)), (.int (111 : Int32)), (.int (116 : Int32)), (.int (104 : Int32)), (.int (45 : Int32)), (.int (108 : Int32)), (.int (105 : Int32)), (.int (115 : Int32)), (.int (116 : Int32)), (.int (115 : Int32))] (.int 0)) (V2 : Arv Z h0 b2 k2 .byte (10 : Int32) [(.int (98 : Int32)), (.int (111 : Int32)), (.int (116 : Int32)), (.int (104 : Int32)), (.int (45 : Int32)), (.int (108 : Int32)), (.int (105 : Int32)), (.int (115 : Int32)), (.int (116 : Int32)), (.int (115 : Int32))] (.int 0)) :
    MetFree l yn1 (head1 (Jvm.Cond.code yn1 jdk_43_method_13_code 3 (some .boolean) :: ws) ({ frames := 0, cells := 0, slots := 0, locals := 0 } : Room)) (fun a U => a = #[(.ref b1), (.ref b2)] ∧ Z.Warmed39 U.vm ∧ U.heap = h0) (fun _ _ _ _ _ => True) (fun _ U o U' => ∃ v L, o = .returned v ∧ Qi 1 h0 n0 v U'.heap L ∧ FrameEnd U o U' L ({ frames := 0, cells := 0, slots := 0, locals := 0 } : Room).cells ({ frames := 0, cells := 0, slots := 0, locals := 0 } : Room).slots) := by
 refine MetFree.of_bodySF (plainFor_of_name pn_java_lang_StringLatin1) hisR ?_
 intro p e s m args below meth c s₁ Bd hml0 hP hK
 obtain ⟨rfl, hZ, hh⟩ := hP
 have hx := Bd.exec
 have hby := Bd.bytes
 have hml : c.maxLocals = 3 := hml0
 have hown : s.vm.findClass "java/lang/StringLatin1" = some m.cls := findClass_of_methodNamed Bd.named
 have hnm := (name_of_methodNamed Bd.named Bd.method).1
 have X0 : Stand p l e ({ frames := 0, cells := 0, slots := 0, locals := 0 } : Room) s m #[(.ref b1), (.ref b2)] below meth c s₁ [] 0 0 := Stand.of_body Bd
 have e0 : s₁.heap = h0 := by rw [← hh, Bd.state]; rfl
 have N0 := Fr.nil n0
 obtain ⟨A0, hA0⟩ : ∃ A, A = s₁.setTop (entryFrame m #[(.ref b1), (.ref b2)] 3) := ⟨_, rfl⟩
 have R0 : ∀ tgt, Steps p.tables e below (s₁.setTop (mkF m 0 #[.val (.ref b1), .val (.ref b2), .unset] [])) tgt → Steps p.tables e below A0 tgt := fun tgt hgo => by rw [hA0]; exact castTop (ef_rm_le_bo m b1 b2) hgo
 have w : ∀ (i : Nat) {d : Jvm.Cond}, tables_1[i]? = some d → d.before a0 Z = true := fun i d h => hw d (List.mem_of_getElem? h)
 have R1 : Rc p e below A0 (s₁.setTop (mkF m 1 #[.val (.ref b1), .val (.ref b2), .unset] [(.ref b1)])) := by
   intro tgt hgo
   refine R0 tgt ?_
   show Steps p.tables e below (s₁.setTop (mkF m 0 #[.val (.ref b1), .val (.ref b2), .unset] [])) _
   refine XS.aloadN X0.here hx rfl (hb hby d1_0) rfl rfl ?_
   exact hgo
 obtain ⟨cl2, Ar2, -, S2, Nn2, -, -⟩ := id V1
 have R3 : Rc p e below A0 (s₁.setTop (mkF m 2 #[.val (.ref b1), .val (.ref b2), .unset] [(.int 10)])) := by
   intro tgt hgo
   refine R1 tgt ?_
   refine X0.arraylength hx (by rw [e0]; exact Ar2.1) (State.isArrayOf_alike hZ.alike Ar2.2.1) (g := (mkF m 1 #[.val (.ref b1), .val (.ref b2), .unset] [(.ref b1)])) rfl rfl (hb hby d1_1) _ ?_
   rw [len_of S2 Nn2]
   exact hgo
 have R4 : Rc p e below A0 (s₁.setTop (mkF m 3 #[.val (.ref b1), .val (.ref b2), .unset] [(.ref b2), (.int 10)])) := by
   intro tgt hgo
   refine R3 tgt ?_
   show Steps p.tables e below (s₁.setTop (mkF m 2 #[.val (.ref b1), .val (.ref b2), .unset] [(.int 10)])) _
   refine XS.aloadN X0.here hx rfl (hb hby d1_2) rfl rfl ?_
   exact hgo
 obtain ⟨cl5, Ar5, -, S5, Nn5, -, -⟩ := id V2
 have R6 : Rc p e below A0 (s₁.setTop (mkF m 4 #[.val (.ref b1), .val (.ref b2), .unset] [(.int 10), (.int 10)])) := by
   intro tgt hgo
   refine R4 tgt ?_
   refine X0.arraylength hx (by rw [e0]; exact Ar5.1) (State.isArrayOf_alike hZ.alike Ar5.2.1) (g := (mkF m 3 #[.val (.ref b1), .val (.ref b2), .unset] [(.ref b2), (.int 10)])) rfl rfl (hb hby d1_3) _ ?_
   rw [len_of S5 Nn5]
   exact hgo
 have R7 : Rc p e below A0 (s₁.setTop (mkF m 11 #[.val (.ref b1), .val (.ref b2), .val (.int 0)] [(.ref b1), (.int 0)])) := by
   intro tgt hgo
   refine R6 tgt ?_
   show Steps p.tables e below (s₁.setTop (mkF m 4 #[.val (.ref b1), .val (.ref b2), .unset] [(.int 10), (.int 10)])) _
   refine XS.icmpNo X0.here hx rfl (hb hby d1_4) rfl (teq (by decide : (10 : Int32) = (10 : Int32))).2 ?_
   refine XS.iconst X0.here hx rfl (hb hby d1_7) ?_
   refine XS.istoreN X0.here hx rfl (hb hby d1_8) rfl (l' := #[.val (.ref b1), .val (.ref b2), .val (.int 0)]) rfl ?_
   refine XS.iloadN X0.here hx rfl (hb hby d1_9) rfl ?_
   refine XS.aloadN X0.here hx rfl (hb hby d1_10) rfl rfl ?_
   exact hgo
 obtain ⟨cl8, Ar8, -, S8, Nn8, -, -⟩ := id V1
 have R9 : Rc p e below A0 (s₁.setTop (mkF m 12 #[.val (.ref b1), .val (.ref b2), .val (.int 0)] [(.int 10), (.int 0)])) := by
   intro tgt hgo
   refine R7 tgt ?_
   refine X0.arraylength hx (by rw [e0]; exact Ar8.1) (State.isArrayOf_alike hZ.alike Ar8.2.1) (g := (mkF m 11 #[.val (.ref b1), .val (.ref b2), .val (.int 0)] [(.ref b1), (.int 0)])) rfl rfl (hb hby d1_11) _ ?_
   rw [len_of S8 Nn8]
   exact hgo
 have R10 : Rc p e below A0 (s₁.setTop (mkF m 17 #[.val (.ref b1), .val (.ref b2), .val (.int 0)] [(.int 0), (.ref b1)])) := by
   intro tgt hgo
   refine R9 tgt ?_
   show Steps p.tables e below (s₁.setTop (mkF m 12 #[.val (.ref b1), .val (.ref b2), .val (.int 0)] [(.int 10), (.int 0)])) _
   refine XS.icmpNo X0.here hx rfl (hb hby d1_12) rfl (tlt (by decide : (0 : Int32) < (10 : Int32))).2.1 ?_
   refine XS.aloadN X0.here hx rfl (hb hby d1_15) rfl rfl ?_
   refine XS.iloadN X0.here hx rfl (hb hby d1_16) rfl ?_
   exact hgo
 obtain ⟨cl11, Ar11, q11, S11, Nn11, H11, G11⟩ := id V1
 have hin11 : ¬ ((0 : Int32) < 0 ∨ cl11.slots.size ≤ ((0 : Int32)).toNatClampNeg) := inb_of S11 ⟨by decide, by decide⟩
 have hat11 : cl11.slots[((0 : Int32)).toNatClampNeg]? = some (.int 98) := Has.at H11 hin11 rfl
 have R12 : Rc p e below A0 (s₁.setTop (mkF m 18 #[.val (.ref b1), .val (.ref b2), .val (.int 0)] [(.int 98)])) := by
   intro tgt hgo
   refine R10 tgt ?_
   refine X0.baloadBytes hx (j := (0 : Int32)) (v := (.int 98)) (by rw [e0]; exact Ar11.1) (State.isArrayOf_alike hZ.alike Ar11.2.1) Ar11.2.2 hin11 hat11 (g := (mkF m 17 #[.val (.ref b1), .val (.ref b2), .val (.int 0)] [(.int 0), (.ref b1)])) rfl rfl (hb hby d1_17) _ ?_
   exact hgo
 have R13 : Rc p e below A0 (s₁.setTop (mkF m 20 #[.val (.ref b1), .val (.ref b2), .val (.int 0)] [(.int 0), (.ref b2), (.int 98)])) := by
   intro tgt hgo
   refine R12 tgt ?_
   show Steps p.tables e below (s₁.setTop (mkF m 18 #[.val (.ref b1), .val (.ref b2), .val (.int 0)] [(.int 98)])) _
   refine XS.aloadN X0.here hx rfl (hb hby d1_18) rfl rfl ?_
   refine XS.iloadN X0.here hx rfl (hb hby d1_19) rfl ?_
   exact hgo
 obtain ⟨cl14, Ar14, q14, S14, Nn14, H14, G14⟩ := id V2
 have hin14 : ¬ ((0 : Int32) < 0 ∨ cl14.slots.size ≤ ((0 : Int32)).toNatClampNeg) := inb_of S14 ⟨by decide, by decide⟩
 have hat14 : cl14.slots[((0 : Int32)).toNatClampNeg]? = some (.int 98) := Has.at H14 hin14 rfl
 have R15 : Rc p e below A0 (s₁.setTop (mkF m 21 #[.val (.ref b1), .val (.ref b2), .val (.int 0)] [(.int 98), (.int 98)])) := by
   intro tgt hgo
   refine R13 tgt ?_
   refine X0.baloadBytes hx (j := (0 : Int32)) (v := (.int 98)) (by rw [e0]; exact Ar14.1) (State.isArrayOf_alike hZ.alike Ar14.2.1) Ar14.2.2 hin14 hat14 (g := (mkF m 20 #[.val (.ref b1), .val (.ref b2), .val (.int 0)] [(.int 0), (.ref b2), (.int 98)])) rfl rfl (hb hby d1_20) _ ?_
   exact hgo
 have R16 : Rc p e below A0 (s₁.setTop (mkF m 11 #[.val (.ref b1), .val (.ref b2), .val (.int 1)] [(.ref b1), (.int 1)])) := by
   intro tgt hgo
   refine R15 tgt ?_
   show Steps p.tables e below (s₁.setTop (mkF m 21 #[.val (.ref b1), .val (.ref b2), .val (.int 0)] [(.int 98), (.int 98)])) _
   refine XS.icmpYes X0.here hx rfl (pc0 := 21) (pc' := 26) rfl (hb hby d1_21) rfl (teq (by decide : (98 : Int32) = (98 : Int32))).1 (by decide) (by decide) ?_
   refine XS.iinc X0.here hx rfl (hb hby d1_26) rfl (l' := #[.val (.ref b1), .val (.ref b2), .val (.int 1)]) rfl ?_
   refine XS.goto X0.here hx rfl (pc0 := 29) (pc' := 9) rfl (hb hby d1_29) (by decide) (by decide) ?_
   refine XS.iloadN X0.here hx rfl (hb hby d1_9) rfl ?_
   refine XS.aloadN X0.here hx rfl (hb hby d1_10) rfl rfl ?_
   exact hgo
 obtain ⟨cl17, Ar17, -, S17, Nn17, -, -⟩ := id V1
 have R18 : Rc p e below A0 (s₁.setTop (mkF m 12 #[.val (.ref b1), .val (.ref b2), .val (.int 1)] [(.int 10), (.int 1)])) := by
   intro tgt hgo
   refine R16 tgt ?_
   refine X0.arraylength hx (by rw [e0]; exact Ar17.1) (State.isArrayOf_alike hZ.alike Ar17.2.1) (g := (mkF m 11 #[.val (.ref b1), .val (.ref b2), .val (.int 1)] [(.ref b1), (.int 1)])) rfl rfl (hb hby d1_11) _ ?_
   rw [len_of S17 Nn17]
   exact hgo
 have R19 : Rc p e below A0 (s₁.setTop (mkF m 17 #[.val (.ref b1), .val (.ref b2), .val (.int 1)] [(.int 1), (.ref b1)])) := by
   intro tgt hgo
   refine R18 tgt ?_
   show Steps p.tables e below (s₁.setTop (mkF m 12 #[.val (.ref b1), .val (.ref b2), .val (.int 1)] [(.int 10), (.int 1)])) _
   refine XS.icmpNo X0.here hx rfl (hb hby d1_12) rfl (tlt (by decide : (1 : Int32) < (10 : Int32))).2.1 ?_
   refine XS.aloadN X0.here hx rfl (hb hby d1_15) rfl rfl ?_
   refine XS.iloadN X0.here hx rfl (hb hby d1_16) rfl ?_
   exact hgo
 obtain ⟨cl20, Ar20, q20, S20, Nn20, H20, G20⟩ := id V1
 have hin20 : ¬ ((1 : Int32) < 0 ∨ cl20.slots.size ≤ ((1 : Int32)).toNatClampNeg) := inb_of S20 ⟨by decide, by decide⟩
 have hat20 : cl20.slots[((1 : Int32)).toNatClampNeg]? = some (.int 111) := Has.at H20 hin20 rfl
 have R21 : Rc p e below A0 (s₁.setTop (mkF m 18 #[.val (.ref b1), .val (.ref b2), .val (.int 1)] [(.int 111)])) := by
   intro tgt hgo
   refine R19 tgt ?_
   refine X0.baloadBytes hx (j := (1 : Int32)) (v := (.int 111)) (by rw [e0]; exact Ar20.1) (State.isArrayOf_alike hZ.alike Ar20.2.1) Ar20.2.2 hin20 hat20 (g := (mkF m 17 #[.val (.ref b1), .val (.ref b2), .val (.int 1)] [(.int 1), (.ref b1)])) rfl rfl (hb hby d1_17) _ ?_
   exact hgo
 have R22 : Rc p e below A0 (s₁.setTop (mkF m 20 #[.val (.ref b1), .val (.ref b2), .val (.int 1)] [(.int 1), (.ref b2), (.int 111)])) := by
   intro tgt hgo
   refine R21 tgt ?_
   show Steps p.tables e below (s₁.setTop (mkF m 18 #[.val (.ref b1), .val (.ref b2), .val (.int 1)] [(.int 111)])) _
   refine XS.aloadN X0.here hx rfl (hb hby d1_18) rfl rfl ?_
   refine XS.iloadN X0.here hx rfl (hb hby d1_19) rfl ?_
   exact hgo
 obtain ⟨cl23, Ar23, q23, S23, Nn23, H23, G23⟩ := id V2
 have hin23 : ¬ ((1 : Int32) < 0 ∨ cl23.slots.size ≤ ((1 : Int32)).toNatClampNeg) := inb_of S23 ⟨by decide, by decide⟩
 have hat23 : cl23.slots[((1 : Int32)).toNatClampNeg]? = some (.int 111) := Has.at H23 hin23 rfl
 have R24 : Rc p e below A0 (s₁.setTop (mkF m 21 #[.val (.ref b1), .val (.ref b2), .val (.int 1)] [(.int 111), (.int 111)])) := by
   intro tgt hgo
   refine R22 tgt ?_
   refine X0.baloadBytes hx (j := (1 : Int32)) (v := (.int 111)) (by rw [e0]; exact Ar23.1) (State.isArrayOf_alike hZ.alike Ar23.2.1) Ar23.2.2 hin23 hat23 (g := (mkF m 20 #[.val (.ref b1), .val (.ref b2), .val (.int 1)] [(.int 1), (.ref b2), (.int 111)])) rfl rfl (hb hby d1_20) _ ?_
   exact hgo
 have R25 : Rc p e below A0 (s₁.setTop (mkF m 11 #[.val (.ref b1), .val (.ref b2), .val (.int 2)] [(.ref b1), (.int 2)])) := by
   intro tgt hgo
   refine R24 tgt ?_
   show Steps p.tables e below (s₁.setTop (mkF m 21 #[.val (.ref b1), .val (.ref b2), .val (.int 1)] [(.int 111), (.int 111)])) _
   refine XS.icmpYes X0.here hx rfl (pc0 := 21) (pc' := 26) rfl (hb hby d1_21) rfl (teq (by decide : (111 : Int32) = (111 : Int32))).1 (by decide) (by decide) ?_
   refine XS.iinc X0.here hx rfl (hb hby d1_26) rfl (l' := #[.val (.ref b1), .val (.ref b2), .val (.int 2)]) rfl ?_
   refine XS.goto X0.here hx rfl (pc0 := 29) (pc' := 9) rfl (hb hby d1_29) (by decide) (by decide) ?_
   refine XS.iloadN X0.here hx rfl (hb hby d1_9) rfl ?_
   refine XS.aloadN X0.here hx rfl (hb hby d1_10) rfl rfl ?_
   exact hgo
 obtain ⟨cl26, Ar26, -, S26, Nn26, -, -⟩ := id V1
 have R27 : Rc p e below A0 (s₁.setTop (mkF m 12 #[.val (.ref b1), .val (.ref b2), .val (.int 2)] [(.int 10), (.int 2)])) := by
   intro tgt hgo
   refine R25 tgt ?_
   refine X0.arraylength hx (by rw [e0]; exact Ar26.1) (State.isArrayOf_alike hZ.alike Ar26.2.1) (g := (mkF m 11 #[.val (.ref b1), .val (.ref b2), .val (.int 2)] [(.ref b1), (.int 2)])) rfl rfl (hb hby d1_11) _ ?_
   rw [len_of S26 Nn26]
   exact hgo
 have R28 : Rc p e below A0 (s₁.setTop (mkF m 17 #[.val (.ref b1), .val (.ref b2), .val (.int 2)] [(.int 2), (.ref b1)])) := by
   intro tgt hgo
   refine R27 tgt ?_
   show Steps p.tables e below (s₁.setTop (mkF m 12 #[.val (.ref b1), .val (.ref b2), .val (.int 2)] [(.int 10), (.int 2)])) _
   refine XS.icmpNo X0.here hx rfl (hb hby d1_12) rfl (tlt (by decide : (2 : Int32) < (10 : Int32))).2.1 ?_
   refine XS.aloadN X0.here hx rfl (hb hby d1_15) rfl rfl ?_
   refine XS.iloadN X0.here hx rfl (hb hby d1_16) rfl ?_
   exact hgo
 obtain ⟨cl29, Ar29, q29, S29, Nn29, H29, G29⟩ := id V1
 have hin29 : ¬ ((2 : Int32) < 0 ∨ cl29.slots.size ≤ ((2 : Int32)).toNatClampNeg) := inb_of S29 ⟨by decide, by decide⟩
 have hat29 : cl29.slots[((2 : Int32)).toNatClampNeg]? = some (.int 116) := Has.at H29 hin29 rfl
 have R30 : Rc p e below A0 (s₁.setTop (mkF m 18 #[.val (.ref b1), .val (.ref b2), .val (.int 2)] [(.int 116)])) := by
   intro tgt hgo
   refine R28 tgt ?_
   refine X0.baloadBytes hx (j := (2 : Int32)) (v := (.int 116)) (by rw [e0]; exact Ar29.1) (State.isArrayOf_alike hZ.alike Ar29.2.1) Ar29.2.2 hin29 hat29 (g := (mkF m 17 #[.val (.ref b1), .val (.ref b2), .val (.int 2)] [(.int 2), (.ref b1)])) rfl rfl (hb hby d1_17) _ ?_
   exact hgo
 have R31 : Rc p e below A0 (s₁.setTop (mkF m 20 #[.val (.ref b1), .val (.ref b2), .val (.int 2)] [(.int 2), (.ref b2), (.int 116)])) := by
   intro tgt hgo
   refine R30 tgt ?_
   show Steps p.tables e below (s₁.setTop (mkF m 18 #[.val (.ref b1), .val (.ref b2), .val (.int 2)] [(.int 116)])) _
   refine XS.aloadN X0.here hx rfl (hb hby d1_18) rfl rfl ?_
   refine XS.iloadN X0.here hx rfl (hb hby d1_19) rfl ?_
   exact hgo
 obtain ⟨cl32, Ar32, q32, S32, Nn32, H32, G32⟩ := id V2
 have hin32 : ¬ ((2 : Int32) < 0 ∨ cl32.slots.size ≤ ((2 : Int32)).toNatClampNeg) := inb_of S32 ⟨by decide, by decide⟩
 have hat32 : cl32.slots[((2 : Int32)).toNatClampNeg]? = some (.int 116) := Has.at H32 hin32 rfl
 have R33 : Rc p e below A0 (s₁.setTop (mkF m 21 #[.val (.ref b1), .val (.ref b2), .val (.int 2)] [(.int 116), (.int 116)])) := by
   intro tgt hgo
   refine R31 tgt ?_
   refine X0.baloadBytes hx (j := (2 : Int32)) (v := (.int 116)) (by rw [e0]; exact Ar32.1) (State.isArrayOf_alike hZ.alike Ar32.2.1) Ar32.2.2 hin32 hat32 (g := (mkF m 20 #[.val (.ref b1), .val (.ref b2), .val (.int 2)] [(.int 2), (.ref b2), (.int 116)])) rfl rfl (hb hby d1_20) _ ?_
   exact hgo
 have R34 : Rc p e below A0 (s₁.setTop (mkF m 11 #[.val (.ref b1), .val (.ref b2), .val (.int 3)] [(.ref b1), (.int 3)])) := by
   intro tgt hgo
   refine R33 tgt ?_
   show Steps p.tables e below (s₁.setTop (mkF m 21 #[.val (.ref b1), .val (.ref b2), .val (.int 2)] [(.int 116), (.int 116)])) _
   refine XS.icmpYes X0.here hx rfl (pc0 := 21) (pc' := 26) rfl (hb hby d1_21) rfl (teq (by decide : (116 : Int32) = (116 : Int32))).1 (by decide) (by decide) ?_
   refine XS.iinc X0.here hx rfl (hb hby d1_26) rfl (l' := #[.val (.ref b1), .val (.ref b2), .val (.int 3)]) rfl ?_
   refine XS.goto X0.here hx rfl (pc0 := 29) (pc' := 9) rfl (hb hby d1_29) (by decide) (by decide) ?_
   refine XS.iloadN X0.here hx rfl (hb hby d1_9) rfl ?_
   refine XS.aloadN X0.here hx rfl (hb hby d1_10) rfl rfl ?_
   exact hgo
 obtain ⟨cl35, Ar35, -, S35, Nn35, -, -⟩ := id V1
 have R36 : Rc p e below A0 (s₁.setTop (mkF m 12 #[.val (.ref b1), .val (.ref b2), .val (.int 3)] [(.int 10), (.int 3)])) := by
   intro tgt hgo
   refine R34 tgt ?_
   refine X0.arraylength hx (by rw [e0]; exact Ar35.1) (State.isArrayOf_alike hZ.alike Ar35.2.1) (g := (mkF m 11 #[.val (.ref b1), .val (.ref b2), .val (.int 3)] [(.ref b1), (.int 3)])) rfl rfl (hb hby d1_11) _ ?_
   rw [len_of S35 Nn35]
   exact hgo
 have R37 : Rc p e below A0 (s₁.setTop (mkF m 17 #[.val (.ref b1), .val (.ref b2), .val (.int 3)] [(.int 3), (.ref b1)])) := by
   intro tgt hgo
   refine R36 tgt ?_
   show Steps p.tables e below (s₁.setTop (mkF m 12 #[.val (.ref b1), .val (.ref b2), .val (.int 3)] [(.int 10), (.int 3)])) _
   refine XS.icmpNo X0.here hx rfl (hb hby d1_12) rfl (tlt (by decide : (3 : Int32) < (10 : Int32))).2.1 ?_
   refine XS.aloadN X0.here hx rfl (hb hby d1_15) rfl rfl ?_
   refine XS.iloadN X0.here hx rfl (hb hby d1_16) rfl ?_
   exact hgo
 obtain ⟨cl38, Ar38, q38, S38, Nn38, H38, G38⟩ := id V1
 have hin38 : ¬ ((3 : Int32) < 0 ∨ cl38.slots.size ≤ ((3 : Int32)).toNatClampNeg) := inb_of S38 ⟨by decide, by decide⟩
 have hat38 : cl38.slots[((3 : Int32)).toNatClampNeg]? = some (.int 104) := Has.at H38 hin38 rfl
 have R39 : Rc p e below A0 (s₁.setTop (mkF m 18 #[.val (.ref b1), .val (.ref b2), .val (.int 3)] [(.int 104)])) := by
   intro tgt hgo
   refine R37 tgt ?_
   refine X0.baloadBytes hx (j := (3 : Int32)) (v := (.int 104)) (by rw [e0]; exact Ar38.1) (State.isArrayOf_alike hZ.alike Ar38.2.1) Ar38.2.2 hin38 hat38 (g := (mkF m 17 #[.val (.ref b1), .val (.ref b2), .val (.int 3)] [(.int 3), (.ref b1)])) rfl rfl (hb hby d1_17) _ ?_
   exact hgo
 have R40 : Rc p e below A0 (s₁.setTop (mkF m 20 #[.val (.ref b1), .val (.ref b2), .val (.int 3)] [(.int 3), (.ref b2), (.int 104)])) := by
   intro tgt hgo
   refine R39 tgt ?_
   show Steps p.tables e below (s₁.setTop (mkF m 18 #[.val (.ref b1), .val (.ref b2), .val (.int 3)] [(.int 104)])) _
   refine XS.aloadN X0.here hx rfl (hb hby d1_18) rfl rfl ?_
   refine XS.iloadN X0.here hx rfl (hb hby d1_19) rfl ?_
   exact hgo
 obtain ⟨cl41, Ar41, q41, S41, Nn41, H41, G41⟩ := id V2
 have hin41 : ¬ ((3 : Int32) < 0 ∨ cl41.slots.size ≤ ((3 : Int32)).toNatClampNeg) := inb_of S41 ⟨by decide, by decide⟩
 have hat41 : cl41.slots[((3 : Int32)).toNatClampNeg]? = some (.int 104) := Has.at H41 hin41 rfl
 have R42 : Rc p e below A0 (s₁.setTop (mkF m 21 #[.val (.ref b1), .val (.ref b2), .val (.int 3)] [(.int 104), (.int 104)])) := by
   intro tgt hgo
   refine R40 tgt ?_
   refine X0.baloadBytes hx (j := (3 : Int32)) (v := (.int 104)) (by rw [e0]; exact Ar41.1) (State.isArrayOf_alike hZ.alike Ar41.2.1) Ar41.2.2 hin41 hat41 (g := (mkF m 20 #[.val (.ref b1), .val (.ref b2), .val (.int 3)] [(.int 3), (.ref b2), (.int 104)])) rfl rfl (hb hby d1_20) _ ?_
   exact hgo
 have R43 : Rc p e below A0 (s₁.setTop (mkF m 11 #[.val (.ref b1), .val (.ref b2), .val (.int 4)] [(.ref b1), (.int 4)])) := by
   intro tgt hgo
   refine R42 tgt ?_
   show Steps p.tables e below (s₁.setTop (mkF m 21 #[.val (.ref b1), .val (.ref b2), .val (.int 3)] [(.int 104), (.int 104)])) _
   refine XS.icmpYes X0.here hx rfl (pc0 := 21) (pc' := 26) rfl (hb hby d1_21) rfl (teq (by decide : (104 : Int32) = (104 : Int32))).1 (by decide) (by decide) ?_
   refine XS.iinc X0.here hx rfl (hb hby d1_26) rfl (l' := #[.val (.ref b1), .val (.ref b2), .val (.int 4)]) rfl ?_
   refine XS.goto X0.here hx rfl (pc0 := 29) (pc' := 9) rfl (hb hby d1_29) (by decide) (by decide) ?_
   refine XS.iloadN X0.here hx rfl (hb hby d1_9) rfl ?_
   refine XS.aloadN X0.here hx rfl (hb hby d1_10) rfl rfl ?_
   exact hgo
 obtain ⟨cl44, Ar44, -, S44, Nn44, -, -⟩ := id V1
 have R45 : Rc p e below A0 (s₁.setTop (mkF m 12 #[.val (.ref b1), .val (.ref b2), .val (.int 4)] [(.int 10), (.int 4)])) := by
   intro tgt hgo
   refine R43 tgt ?_
   refine X0.arraylength hx (by rw [e0]; exact Ar44.1) (State.isArrayOf_alike hZ.alike Ar44.2.1) (g := (mkF m 11 #[.val (.ref b1), .val (.ref b2), .val (.int 4)] [(.ref b1), (.int 4)])) rfl rfl (hb hby d1_11) _ ?_
   rw [len_of S44 Nn44]
   exact hgo
 have R46 : Rc p e below A0 (s₁.setTop (mkF m 17 #[.val (.ref b1), .val (.ref b2), .val (.int 4)] [(.int 4), (.ref b1)])) := by
   intro tgt hgo
   refine R45 tgt ?_
   show Steps p.tables e below (s₁.setTop (mkF m 12 #[.val (.ref b1), .val (.ref b2), .val (.int 4)] [(.int 10), (.int 4)])) _
   refine XS.icmpNo X0.here hx rfl (hb hby d1_12) rfl (tlt (by decide : (4 : Int32) < (10 : Int32))).2.1 ?_
   refine XS.aloadN X0.here hx rfl (hb hby d1_15) rfl rfl ?_
   refine XS.iloadN X0.here hx rfl (hb hby d1_16) rfl ?_
   exact hgo
 obtain ⟨cl47, Ar47, q47, S47, Nn47, H47, G47⟩ := id V1
 have hin47 : ¬ ((4 : Int32) < 0 ∨ cl47.slots.size ≤ ((4 : Int32)).toNatClampNeg) := inb_of S47 ⟨by decide, by decide⟩
 have hat47 : cl47.slots[((4 : Int32)).toNatClampNeg]? = some (.int 45) := Has.at H47 hin47 rfl
 have R48 : Rc p e below A0 (s₁.setTop (mkF m 18 #[.val (.ref b1), .val (.ref b2), .val (.int 4)] [(.int 45)])) := by
   intro tgt hgo
   refine R46 tgt ?_
   refine X0.baloadBytes hx (j := (4 : Int32)) (v := (.int 45)) (by rw [e0]; exact Ar47.1) (State.isArrayOf_alike hZ.alike Ar47.2.1) Ar47.2.2 hin47 hat47 (g := (mkF m 17 #[.val (.ref b1), .val (.ref b2), .val (.int 4)] [(.int 4), (.ref b1)])) rfl rfl (hb hby d1_17) _ ?_
   exact hgo
 have R49 : Rc p e below A0 (s₁.setTop (mkF m 20 #[.val (.ref b1), .val (.ref b2), .val (.int 4)] [(.int 4), (.ref b2), (.int 45)])) := by
   intro tgt hgo
   refine R48 tgt ?_
   show Steps p.tables e below (s₁.setTop (mkF m 18 #[.val (.ref b1), .val (.ref b2), .val (.int 4)] [(.int 45)])) _
   refine XS.aloadN X0.here hx rfl (hb hby d1_18) rfl rfl ?_
   refine XS.iloadN X0.here hx rfl (hb hby d1_19) rfl ?_
   exact hgo
 obtain ⟨cl50, Ar50, q50, S50, Nn50, H50, G50⟩ := id V2
 have hin50 : ¬ ((4 : Int32) < 0 ∨ cl50.slots.size ≤ ((4 : Int32)).toNatClampNeg) := inb_of S50 ⟨by decide, by decide⟩
 have hat50 : cl50.slots[((4 : Int32)).toNatClampNeg]? = some (.int 45) := Has.at H50 hin50 rfl
 have R51 : Rc p e below A0 (s₁.setTop (mkF m 21 #[.val (.ref b1), .val (.ref b2), .val (.int 4)] [(.int 45), (.int 45)])) := by
   intro tgt hgo
   refine R49 tgt ?_
   refine X0.baloadBytes hx (j := (4 : Int32)) (v := (.int 45)) (by rw [e0]; exact Ar50.1) (State.isArrayOf_alike hZ.alike Ar50.2.1) Ar50.2.2 hin50 hat50 (g := (mkF m 20 #[.val (.ref b1), .val (.ref b2), .val (.int 4)] [(.int 4), (.ref b2), (.int 45)])) rfl rfl (hb hby d1_20) _ ?_
   exact hgo
 have R52 : Rc p e below A0 (s₁.setTop (mkF m 11 #[.val (.ref b1), .val (.ref b2), .val (.int 5)] [(.ref b1), (.int 5)])) := by
   intro tgt hgo
   refine R51 tgt ?_
   show Steps p.tables e below (s₁.setTop (mkF m 21 #[.val (.ref b1), .val (.ref b2), .val (.int 4)] [(.int 45), (.int 45)])) _
   refine XS.icmpYes X0.here hx rfl (pc0 := 21) (pc' := 26) rfl (hb hby d1_21) rfl (teq (by decide : (45 : Int32) = (45 : Int32))).1 (by decide) (by decide) ?_
   refine XS.iinc X0.here hx rfl (hb hby d1_26) rfl (l' := #[.val (.ref b1), .val (.ref b2), .val (.int 5)]) rfl ?_
   refine XS.goto X0.here hx rfl (pc0 := 29) (pc' := 9) rfl (hb hby d1_29) (by decide) (by decide) ?_
   refine XS.iloadN X0.here hx rfl (hb hby d1_9) rfl ?_
   refine XS.aloadN X0.here hx rfl (hb hby d1_10) rfl rfl ?_
   exact hgo
 obtain ⟨cl53, Ar53, -, S53, Nn53, -, -⟩ := id V1
 have R54 : Rc p e below A0 (s₁.setTop (mkF m 12 #[.val (.ref b1), .val (.ref b2), .val (.int 5)] [(.int 10), (.int 5)])) := by
   intro tgt hgo
   refine R52 tgt ?_
   refine X0.arraylength hx (by rw [e0]; exact Ar53.1) (State.isArrayOf_alike hZ.alike Ar53.2.1) (g := (mkF m 11 #[.val (.ref b1), .val (.ref b2), .val (.int 5)] [(.ref b1), (.int 5)])) rfl rfl (hb hby d1_11) _ ?_
   rw [len_of S53 Nn53]
   exact hgo
 have R55 : Rc p e below A0 (s₁.setTop (mkF m 17 #[.val (.ref b1), .val (.ref b2), .val (.int 5)] [(.int 5), (.ref b1)])) := by
   intro tgt hgo
   refine R54 tgt ?_
   show Steps p.tables e below (s₁.setTop (mkF m 12 #[.val (.ref b1), .val (.ref b2), .val (.int 5)] [(.int 10), (.int 5)])) _
   refine XS.icmpNo X0.here hx rfl (hb hby d1_12) rfl (tlt (by decide : (5 : Int32) < (10 : Int32))).2.1 ?_
   refine XS.aloadN X0.here hx rfl (hb hby d1_15) rfl rfl ?_
   refine XS.iloadN X0.here hx rfl (hb hby d1_16) rfl ?_
   exact hgo
 obtain ⟨cl56, Ar56, q56, S56, Nn56, H56, G56⟩ := id V1
 have hin56 : ¬ ((5 : Int32) < 0 ∨ cl56.slots.size ≤ ((5 : Int32)).toNatClampNeg) := inb_of S56 ⟨by decide, by decide⟩
 have hat56 : cl56.slots[((5 : Int32)).toNatClampNeg]? = some (.int 108) := Has.at H56 hin56 rfl
 have R57 : Rc p e below A0 (s₁.setTop (mkF m 18 #[.val (.ref b1), .val (.ref b2), .val (.int 5)] [(.int 108)])) := by
   intro tgt hgo
   refine R55 tgt ?_
   refine X0.baloadBytes hx (j := (5 : Int32)) (v := (.int 108)) (by rw [e0]; exact Ar56.1) (State.isArrayOf_alike hZ.alike Ar56.2.1) Ar56.2.2 hin56 hat56 (g := (mkF m 17 #[.val (.ref b1), .val (.ref b2), .val (.int 5)] [(.int 5), (.ref b1)])) rfl rfl (hb hby d1_17) _ ?_
   exact hgo
 have R58 : Rc p e below A0 (s₁.setTop (mkF m 20 #[.val (.ref b1), .val (.ref b2), .val (.int 5)] [(.int 5), (.ref b2), (.int 108)])) := by
   intro tgt hgo
   refine R57 tgt ?_
   show Steps p.tables e below (s₁.setTop (mkF m 18 #[.val (.ref b1), .val (.ref b2), .val (.int 5)] [(.int 108)])) _
   refine XS.aloadN X0.here hx rfl (hb hby d1_18) rfl rfl ?_
   refine XS.iloadN X0.here hx rfl (hb hby d1_19) rfl ?_
   exact hgo
 obtain ⟨cl59, Ar59, q59, S59, Nn59, H59, G59⟩ := id V2
 have hin59 : ¬ ((5 : Int32) < 0 ∨ cl59.slots.size ≤ ((5 : Int32)).toNatClampNeg) := inb_of S59 ⟨by decide, by decide⟩
 have hat59 : cl59.slots[((5 : Int32)).toNatClampNeg]? = some (.int 108) := Has.at H59 hin59 rfl
 have R60 : Rc p e below A0 (s₁.setTop (mkF m 21 #[.val (.ref b1), .val (.ref b2), .val (.int 5)] [(.int 108), (.int 108)])) := by
   intro tgt hgo
   refine R58 tgt ?_
   refine X0.baloadBytes hx (j := (5 : Int32)) (v := (.int 108)) (by rw [e0]; exact Ar59.1) (State.isArrayOf_alike hZ.alike Ar59.2.1) Ar59.2.2 hin59 hat59 (g := (mkF m 20 #[.val (.ref b1), .val (.ref b2), .val (.int 5)] [(.int 5), (.ref b2), (.int 108)])) rfl rfl (hb hby d1_20) _ ?_
   exact hgo
 have R61 : Rc p e below A0 (s₁.setTop (mkF m 11 #[.val (.ref b1), .val (.ref b2), .val (.int 6)] [(.ref b1), (.int 6)])) := by
   intro tgt hgo
   refine R60 tgt ?_
   show Steps p.tables e below (s₁.setTop (mkF m 21 #[.val (.ref b1), .val (.ref b2), .val (.int 5)] [(.int 108), (.int 108)])) _
   refine XS.icmpYes X0.here hx rfl (pc0 := 21) (pc' := 26) rfl (hb hby d1_21) rfl (teq (by decide : (108 : Int32) = (108 : Int32))).1 (by decide) (by decide) ?_
   refine XS.iinc X0.here hx rfl (hb hby d1_26) rfl (l' := #[.val (.ref b1), .val (.ref b2), .val (.int 6)]) rfl ?_
   refine XS.goto X0.here hx rfl (pc0 := 29) (pc' := 9) rfl (hb hby d1_29) (by decide) (by decide) ?_
   refine XS.iloadN X0.here hx rfl (hb hby d1_9) rfl ?_
   refine XS.aloadN X0.here hx rfl (hb hby d1_10) rfl rfl ?_
   exact hgo
 obtain ⟨cl62, Ar62, -, S62, Nn62, -, -⟩ := id V1
 have R63 : Rc p e below A0 (s₁.setTop (mkF m 12 #[.val (.ref b1), .val (.ref b2), .val (.int 6)] [(.int 10), (.int 6)])) := by
   intro tgt hgo
   refine R61 tgt ?_
   refine X0.arraylength hx (by rw [e0]; exact Ar62.1) (State.isArrayOf_alike hZ.alike Ar62.2.1) (g := (mkF m 11 #[.val (.ref b1), .val (.ref b2), .val (.int 6)] [(.ref b1), (.int 6)])) rfl rfl (hb hby d1_11) _ ?_
   rw [len_of S62 Nn62]
   exact hgo
 have R64 : Rc p e below A0 (s₁.setTop (mkF m 17 #[.val (.ref b1), .val (.ref b2), .val (.int 6)] [(.int 6), (.ref b1)])) := by
   intro tgt hgo
   refine R63 tgt ?_
   show Steps p.tables e below (s₁.setTop (mkF m 12 #[.val (.ref b1), .val (.ref b2), .val (.int 6)] [(.int 10), (.int 6)])) _
   refine XS.icmpNo X0.here hx rfl (hb hby d1_12) rfl (tlt (by decide : (6 : Int32) < (10 : Int32))).2.1 ?_
   refine XS.aloadN X0.here hx rfl (hb hby d1_15) rfl rfl ?_
   refine XS.iloadN X0.here hx rfl (hb hby d1_16) rfl ?_
   exact hgo
 obtain ⟨cl65, Ar65, q65, S65, Nn65, H65, G65⟩ := id V1
 have hin65 : ¬ ((6 : Int32) < 0 ∨ cl65.slots.size ≤ ((6 : Int32)).toNatClampNeg) := inb_of S65 ⟨by decide, by decide⟩
 have hat65 : cl65.slots[((6 : Int32)).toNatClampNeg]? = some (.int 105) := Has.at H65 hin65 rfl
 have R66 : Rc p e below A0 (s₁.setTop (mkF m 18 #[.val (.ref b1), .val (.ref b2), .val (.int 6)] [(.int 105)])) := by
   intro tgt hgo
   refine R64 tgt ?_
   refine X0.baloadBytes hx (j := (6 : Int32)) (v := (.int 105)) (by rw [e0]; exact Ar65.1) (State.isArrayOf_alike hZ.alike Ar65.2.1) Ar65.2.2 hin65 hat65 (g := (mkF m 17 #[.val (.ref b1), .val (.ref b2), .val (.int 6)] [(.int 6), (.ref b1)])) rfl rfl (hb hby d1_17) _ ?_
   exact hgo
 have R67 : Rc p e below A0 (s₁.setTop (mkF m 20 #[.val (.ref b1), .val (.ref b2), .val (.int 6)] [(.int 6), (.ref b2), (.int 105)])) := by
   intro tgt hgo
   refine R66 tgt ?_
   show Steps p.tables e below (s₁.setTop (mkF m 18 #[.val (.ref b1), .val (.ref b2), .val (.int 6)] [(.int 105)])) _
   refine XS.aloadN X0.here hx rfl (hb hby d1_18) rfl rfl ?_
   refine XS.iloadN X0.here hx rfl (hb hby d1_19) rfl ?_
   exact hgo
 obtain ⟨cl68, Ar68, q68, S68, Nn68, H68, G68⟩ := id V2
 have hin68 : ¬ ((6 : Int32) < 0 ∨ cl68.slots.size ≤ ((6 : Int32)).toNatClampNeg) := inb_of S68 ⟨by decide, by decide⟩
 have hat68 : cl68.slots[((6 : Int32)).toNatClampNeg]? = some (.int 105) := Has.at H68 hin68 rfl
 have R69 : Rc p e below A0 (s₁.setTop (mkF m 21 #[.val (.ref b1), .val (.ref b2), .val (.int 6)] [(.int 105), (.int 105)])) := by
   intro tgt hgo
   refine R67 tgt ?_
   refine X0.baloadBytes hx (j := (6 : Int32)) (v := (.int 105)) (by rw [e0]; exact Ar68.1) (State.isArrayOf_alike hZ.alike Ar68.2.1) Ar68.2.2 hin68 hat68 (g := (mkF m 20 #[.val (.ref b1), .val (.ref b2), .val (.int 6)] [(.int 6), (.ref b2), (.int 105)])) rfl rfl (hb hby d1_20) _ ?_
   exact hgo
 have R70 : Rc p e below A0 (s₁.setTop (mkF m 11 #[.val (.ref b1), .val (.ref b2), .val (.int 7)] [(.ref b1), (.int 7)])) := by
   intro tgt hgo
   refine R69 tgt ?_
   show Steps p.tables e below (s₁.setTop (mkF m 21 #[.val (.ref b1), .val (.ref b2), .val (.int 6)] [(.int 105), (.int 105)])) _
   refine XS.icmpYes X0.here hx rfl (pc0 := 21) (pc' := 26) rfl (hb hby d1_21) rfl (teq (by decide : (105 : Int32) = (105 : Int32))).1 (by decide) (by decide) ?_
   refine XS.iinc X0.here hx rfl (hb hby d1_26) rfl (l' := #[.val (.ref b1), .val (.ref b2), .val (.int 7)]) rfl ?_
   refine XS.goto X0.here hx rfl (pc0 := 29) (pc' := 9) rfl (hb hby d1_29) (by decide) (by decide) ?_
   refine XS.iloadN X0.here hx rfl (hb hby d1_9) rfl ?_
   refine XS.aloadN X0.here hx rfl (hb hby d1_10) rfl rfl ?_
   exact hgo
 obtain ⟨cl71, Ar71, -, S71, Nn71, -, -⟩ := id V1
 have R72 : Rc p e below A0 (s₁.setTop (mkF m 12 #[.val (.ref b1), .val (.ref b2), .val (.int 7)] [(.int 10), (.int 7)])) := by
   intro tgt hgo
   refine R70 tgt ?_
   refine X0.arraylength hx (by rw [e0]; exact Ar71.1) (State.isArrayOf_alike hZ.alike Ar71.2.1) (g := (mkF m 11 #[.val (.ref b1), .val (.ref b2), .val (.int 7)] [(.ref b1), (.int 7)])) rfl rfl (hb hby d1_11) _ ?_
   rw [len_of S71 Nn71]
   exact hgo
 have R73 : Rc p e below A0 (s₁.setTop (mkF m 17 #[.val (.ref b1), .val (.ref b2), .val (.int 7)] [(.int 7), (.ref b1)])) := by
   intro tgt hgo
   refine R72 tgt ?_
   show Steps p.tables e below (s₁.setTop (mkF m 12 #[.val (.ref b1), .val (.ref b2), .val (.int 7)] [(.int 10), (.int 7)])) _
   refine XS.icmpNo X0.here hx rfl (hb hby d1_12) rfl (tlt (by decide : (7 : Int32) < (10 : Int32))).2.1 ?_
   refine XS.aloadN X0.here hx rfl (hb hby d1_15) rfl rfl ?_
   refine XS.iloadN X0.here hx rfl (hb hby d1_16) rfl ?_
   exact hgo
 obtain ⟨cl74, Ar74, q74, S74, Nn74, H74, G74⟩ := id V1
 have hin74 : ¬ ((7 : Int32) < 0 ∨ cl74.slots.size ≤ ((7 : Int32)).toNatClampNeg) := inb_of S74 ⟨by decide, by decide⟩
 have hat74 : cl74.slots[((7 : Int32)).toNatClampNeg]? = some (.int 115) := Has.at H74 hin74 rfl
 have R75 : Rc p e below A0 (s₁.setTop (mkF m 18 #[.val (.ref b1), .val (.ref b2), .val (.int 7)] [(.int 115)])) := by
   intro tgt hgo
   refine R73 tgt ?_
   refine X0.baloadBytes hx (j := (7 : Int32)) (v := (.int 115)) (by rw [e0]; exact Ar74.1) (State.isArrayOf_alike hZ.alike Ar74.2.1) Ar74.2.2 hin74 hat74 (g := (mkF m 17 #[.val (.ref b1), .val (.ref b2), .val (.int 7)] [(.int 7), (.ref b1)])) rfl rfl (hb hby d1_17) _ ?_
   exact hgo
 have R76 : Rc p e below A0 (s₁.setTop (mkF m 20 #[.val (.ref b1), .val (.ref b2), .val (.int 7)] [(.int 7), (.ref b2), (.int 115)])) := by
   intro tgt hgo
   refine R75 tgt ?_
   show Steps p.tables e below (s₁.setTop (mkF m 18 #[.val (.ref b1), .val (.ref b2), .val (.int 7)] [(.int 115)])) _
   refine XS.aloadN X0.here hx rfl (hb hby d1_18) rfl rfl ?_
   refine XS.iloadN X0.here hx rfl (hb hby d1_19) rfl ?_
   exact hgo
 obtain ⟨cl77, Ar77, q77, S77, Nn77, H77, G77⟩ := id V2
 have hin77 : ¬ ((7 : Int32) < 0 ∨ cl77.slots.size ≤ ((7 : Int32)).toNatClampNeg) := inb_of S77 ⟨by decide, by decide⟩
 have hat77 : cl77.slots[((7 : Int32)).toNatClampNeg]? = some (.int 115) := Has.at H77 hin77 rfl
 have R78 : Rc p e below A0 (s₁.setTop (mkF m 21 #[.val (.ref b1), .val (.ref b2), .val (.int 7)] [(.int 115), (.int 115)])) := by
   intro tgt hgo
   refine R76 tgt ?_
   refine X0.baloadBytes hx (j := (7 : Int32)) (v := (.int 115)) (by rw [e0]; exact Ar77.1) (State.isArrayOf_alike hZ.alike Ar77.2.1) Ar77.2.2 hin77 hat77 (g := (mkF m 20 #[.val (.ref b1), .val (.ref b2), .val (.int 7)] [(.int 7), (.ref b2), (.int 115)])) rfl rfl (hb hby d1_20) _ ?_
   exact hgo
 have R79 : Rc p e below A0 (s₁.setTop (mkF m 11 #[.val (.ref b1), .val (.ref b2), .val (.int 8)] [(.ref b1), (.int 8)])) := by
   intro tgt hgo
   refine R78 tgt ?_
   show Steps p.tables e below (s₁.setTop (mkF m 21 #[.val (.ref b1), .val (.ref b2), .val (.int 7)] [(.int 115), (.int 115)])) _
   refine XS.icmpYes X0.here hx rfl (pc0 := 21) (pc' := 26) rfl (hb hby d1_21) rfl (teq (by decide : (115 : Int32) = (115 : Int32))).1 (by decide) (by decide) ?_
   refine XS.iinc X0.here hx rfl (hb hby d1_26) rfl (l' := #[.val (.ref b1), .val (.ref b2), .val (.int 8)]) rfl ?_
   refine XS.goto X0.here hx rfl (pc0 := 29) (pc' := 9) rfl (hb hby d1_29) (by decide) (by decide) ?_
   refine XS.iloadN X0.here hx rfl (hb hby d1_9) rfl ?_
   refine XS.aloadN X0.here hx rfl (hb hby d1_10) rfl rfl ?_
   exact hgo
 obtain ⟨cl80, Ar80, -, S80, Nn80, -, -⟩ := id V1
 have R81 : Rc p e below A0 (s₁.setTop (mkF m 12 #[.val (.ref b1), .val (.ref b2), .val (.int 8)] [(.int 10), (.int 8)])) := by
   intro tgt hgo
   refine R79 tgt ?_
   refine X0.arraylength hx (by rw [e0]; exact Ar80.1) (State.isArrayOf_alike hZ.alike Ar80.2.1) (g := (mkF m 11 #[.val (.ref b1), .val (.ref b2), .val (.int 8)] [(.ref b1), (.int 8)])) rfl rfl (hb hby d1_11) _ ?_
   rw [len_of S80 Nn80]
   exact hgo
 have R82 : Rc p e below A0 (s₁.setTop (mkF m 17 #[.val (.ref b1), .val (.ref b2), .val (.int 8)] [(.int 8), (.ref b1)])) := by
   intro tgt hgo
   refine R81 tgt ?_
   show Steps p.tables e below (s₁.setTop (mkF m 12 #[.val (.ref b1), .val (.ref b2), .val (.int 8)] [(.int 10), (.int 8)])) _
   refine XS.icmpNo X0.here hx rfl (hb hby d1_12) rfl (tlt (by decide : (8 : Int32) < (10 : Int32))).2.1 ?_
   refine XS.aloadN X0.here hx rfl (hb hby d1_15) rfl rfl ?_
   refine XS.iloadN X0.here hx rfl (hb hby d1_16) rfl ?_
   exact hgo
 obtain ⟨cl83, Ar83, q83, S83, Nn83, H83, G83⟩ := id V1
 have hin83 : ¬ ((8 : Int32) < 0 ∨ cl83.slots.size ≤ ((8 : Int32)).toNatClampNeg) := inb_of S83 ⟨by decide, by decide⟩
 have hat83 : cl83.slots[((8 : Int32)).toNatClampNeg]? = some (.int 116) := Has.at H83 hin83 rfl
 have R84 : Rc p e below A0 (s₁.setTop (mkF m 18 #[.val (.ref b1), .val (.ref b2), .val (.int 8)] [(.int 116)])) := by
   intro tgt hgo
   refine R82 tgt ?_
   refine X0.baloadBytes hx (j := (8 : Int32)) (v := (.int 116)) (by rw [e0]; exact Ar83.1) (State.isArrayOf_alike hZ.alike Ar83.2.1) Ar83.2.2 hin83 hat83 (g := (mkF m 17 #[.val (.ref b1), .val (.ref b2), .val (.int 8)] [(.int 8), (.ref b1)])) rfl rfl (hb hby d1_17) _ ?_
   exact hgo
 have R85 : Rc p e below A0 (s₁.setTop (mkF m 20 #[.val (.ref b1), .val (.ref b2), .val (.int 8)] [(.int 8), (.ref b2), (.int 116)])) := by
   intro tgt hgo
   refine R84 tgt ?_
   show Steps p.tables e below (s₁.setTop (mkF m 18 #[.val (.ref b1), .val (.ref b2), .val (.int 8)] [(.int 116)])) _
   refine XS.aloadN X0.here hx rfl (hb hby d1_18) rfl rfl ?_
   refine XS.iloadN X0.here hx rfl (hb hby d1_19) rfl ?_
   exact hgo
 obtain ⟨cl86, Ar86, q86, S86, Nn86, H86, G86⟩ := id V2
 have hin86 : ¬ ((8 : Int32) < 0 ∨ cl86.slots.size ≤ ((8 : Int32)).toNatClampNeg) := inb_of S86 ⟨by decide, by decide⟩
 have hat86 : cl86.slots[((8 : Int32)).toNatClampNeg]? = some (.int 116) := Has.at H86 hin86 rfl
 have R87 : Rc p e below A0 (s₁.setTop (mkF m 21 #[.val (.ref b1), .val (.ref b2), .val (.int 8)] [(.int 116), (.int 116)])) := by
   intro tgt hgo
   refine R85 tgt ?_
   refine X0.baloadBytes hx (j := (8 : Int32)) (v := (.int 116)) (by rw [e0]; exact Ar86.1) (State.isArrayOf_alike hZ.alike Ar86.2.1) Ar86.2.2 hin86 hat86 (g := (mkF m 20 #[.val (.ref b1), .val (.ref b2), .val (.int 8)] [(.int 8), (.ref b2), (.int 116)])) rfl rfl (hb hby d1_20) _ ?_
   exact hgo
 have R88 : Rc p e below A0 (s₁.setTop (mkF m 11 #[.val (.ref b1), .val (.ref b2), .val (.int 9)] [(.ref b1), (.int 9)])) := by
   intro tgt hgo
   refine R87 tgt ?_
   show Steps p.tables e below (s₁.setTop (mkF m 21 #[.val (.ref b1), .val (.ref b2), .val (.int 8)] [(.int 116), (.int 116)])) _
   refine XS.icmpYes X0.here hx rfl (pc0 := 21) (pc' := 26) rfl (hb hby d1_21) rfl (teq (by decide : (116 : Int32) = (116 : Int32))).1 (by decide) (by decide) ?_
   refine XS.iinc X0.here hx rfl (hb hby d1_26) rfl (l' := #[.val (.ref b1), .val (.ref b2), .val (.int 9)]) rfl ?_
   refine XS.goto X0.here hx rfl (pc0 := 29) (pc' := 9) rfl (hb hby d1_29) (by decide) (by decide) ?_
   refine XS.iloadN X0.here hx rfl (hb hby d1_9) rfl ?_
   refine XS.aloadN X0.here hx rfl (hb hby d1_10) rfl rfl ?_
   exact hgo
 obtain ⟨cl89, Ar89, -, S89, Nn89, -, -⟩ := id V1
 have R90 : Rc p e below A0 (s₁.setTop (mkF m 12 #[.val (.ref b1), .val (.ref b2), .val (.int 9)] [(.int 10), (.int 9)])) := by
   intro tgt hgo
   refine R88 tgt ?_
   refine X0.arraylength hx (by rw [e0]; exact Ar89.1) (State.isArrayOf_alike hZ.alike Ar89.2.1) (g := (mkF m 11 #[.val (.ref b1), .val (.ref b2), .val (.int 9)] [(.ref b1), (.int 9)])) rfl rfl (hb hby d1_11) _ ?_
   rw [len_of S89 Nn89]
   exact hgo
 have R91 : Rc p e below A0 (s₁.setTop (mkF m 17 #[.val (.ref b1), .val (.ref b2), .val (.int 9)] [(.int 9), (.ref b1)])) := by
   intro tgt hgo
   refine R90 tgt ?_
   show Steps p.tables e below (s₁.setTop (mkF m 12 #[.val (.ref b1), .val (.ref b2), .val (.int 9)] [(.int 10), (.int 9)])) _
   refine XS.icmpNo X0.here hx rfl (hb hby d1_12) rfl (tlt (by decide : (9 : Int32) < (10 : Int32))).2.1 ?_
   refine XS.aloadN X0.here hx rfl (hb hby d1_15) rfl rfl ?_
   refine XS.iloadN X0.here hx rfl (hb hby d1_16) rfl ?_
   exact hgo
 obtain ⟨cl92, Ar92, q92, S92, Nn92, H92, G92⟩ := id V1
 have hin92 : ¬ ((9 : Int32) < 0 ∨ cl92.slots.size ≤ ((9 : Int32)).toNatClampNeg) := inb_of S92 ⟨by decide, by decide⟩
 have hat92 : cl92.slots[((9 : Int32)).toNatClampNeg]? = some (.int 115) := Has.at H92 hin92 rfl
 have R93 : Rc p e below A0 (s₁.setTop (mkF m 18 #[.val (.ref b1), .val (.ref b2), .val (.int 9)] [(.int 115)])) := by
   intro tgt hgo
   refine R91 tgt ?_
   refine X0.baloadBytes hx (j := (9 : Int32)) (v := (.int 115)) (by rw [e0]; exact Ar92.1) (State.isArrayOf_alike hZ.alike Ar92.2.1) Ar92.2.2 hin92 hat92 (g := (mkF m 17 #[.val (.ref b1), .val (.ref b2), .val (.int 9)] [(.int 9), (.ref b1)])) rfl rfl (hb hby d1_17) _ ?_
   exact hgo
 have R94 : Rc p e below A0 (s₁.setTop (mkF m 20 #[.val (.ref b1), .val (.ref b2), .val (.int 9)] [(.int 9), (.ref b2), (.int 115)])) := by
   intro tgt hgo
   refine R93 tgt ?_
   show Steps p.tables e below (s₁.setTop (mkF m 18 #[.val (.ref b1), .val (.ref b2), .val (.int 9)] [(.int 115)])) _
   refine XS.aloadN X0.here hx rfl (hb hby d1_18) rfl rfl ?_
   refine XS.iloadN X0.here hx rfl (hb hby d1_19) rfl ?_
   exact hgo
 obtain ⟨cl95, Ar95, q95, S95, Nn95, H95, G95⟩ := id V2
 have hin95 : ¬ ((9 : Int32) < 0 ∨ cl95.slots.size ≤ ((9 : Int32)).toNatClampNeg) := inb_of S95 ⟨by decide, by decide⟩
 have hat95 : cl95.slots[((9 : Int32)).toNatClampNeg]? = some (.int 115) := Has.at H95 hin95 rfl
 have R96 : Rc p e below A0 (s₁.setTop (mkF m 21 #[.val (.ref b1), .val (.ref b2), .val (.int 9)] [(.int 115), (.int 115)])) := by
   intro tgt hgo
   refine R94 tgt ?_
   refine X0.baloadBytes hx (j := (9 : Int32)) (v := (.int 115)) (by rw [e0]; exact Ar95.1) (State.isArrayOf_alike hZ.alike Ar95.2.1) Ar95.2.2 hin95 hat95 (g := (mkF m 20 #[.val (.ref b1), .val (.ref b2), .val (.int 9)] [(.int 9), (.ref b2), (.int 115)])) rfl rfl (hb hby d1_20) _ ?_
   exact hgo
 have R97 : Rc p e below A0 (s₁.setTop (mkF m 11 #[.val (.ref b1), .val (.ref b2), .val (.int 10)] [(.ref b1), (.int 10)])) := by
   intro tgt hgo
   refine R96 tgt ?_
   show Steps p.tables e below (s₁.setTop (mkF m 21 #[.val (.ref b1), .val (.ref b2), .val (.int 9)] [(.int 115), (.int 115)])) _
   refine XS.icmpYes X0.here hx rfl (pc0 := 21) (pc' := 26) rfl (hb hby d1_21) rfl (teq (by decide : (115 : Int32) = (115 : Int32))).1 (by decide) (by decide) ?_
   refine XS.iinc X0.here hx rfl (hb hby d1_26) rfl (l' := #[.val (.ref b1), .val (.ref b2), .val (.int 10)]) rfl ?_
   refine XS.goto X0.here hx rfl (pc0 := 29) (pc' := 9) rfl (hb hby d1_29) (by decide) (by decide) ?_
   refine XS.iloadN X0.here hx rfl (hb hby d1_9) rfl ?_
   refine XS.aloadN X0.here hx rfl (hb hby d1_10) rfl rfl ?_
   exact hgo
 obtain ⟨cl98, Ar98, -, S98, Nn98, -, -⟩ := id V1
 have R99 : Rc p e below A0 (s₁.setTop (mkF m 12 #[.val (.ref b1), .val (.ref b2), .val (.int 10)] [(.int 10), (.int 10)])) := by
   intro tgt hgo
   refine R97 tgt ?_
   refine X0.arraylength hx (by rw [e0]; exact Ar98.1) (State.isArrayOf_alike hZ.alike Ar98.2.1) (g := (mkF m 11 #[.val (.ref b1), .val (.ref b2), .val (.int 10)] [(.ref b1), (.int 10)])) rfl rfl (hb hby d1_11) _ ?_
   rw [len_of S98 Nn98]
   exact hgo
 have R100 : Rc p e below A0 (s₁.setTop (mkF m 33 #[.val (.ref b1), .val (.ref b2), .val (.int 10)] [(.int 1)])) := by
   intro tgt hgo
   refine R99 tgt ?_
   show Steps p.tables e below (s₁.setTop (mkF m 12 #[.val (.ref b1), .val (.ref b2), .val (.int 10)] [(.int 10), (.int 10)])) _
   refine XS.icmpYes X0.here hx rfl (pc0 := 12) (pc' := 32) rfl (hb hby d1_12) rfl (flt (by decide : ¬ ((10 : Int32) < (10 : Int32)))).2.1 (by decide) (by decide) ?_
   refine XS.iconst X0.here hx rfl (hb hby d1_32) ?_
   exact hgo
 subst hA0
 obtain ⟨fs, hr, hrun, hended, hW, hsame⟩ := X0.leave (v := some (.int 1)) (fun h => by rw [Bd.returns] at h; cases h)
 refine ⟨_, _, R100 _ ?_, hrun, hended, _, _, rfl, ?_, ⟨_, rfl⟩, hW, hsame.mono (by decide) (by decide)⟩
 ·show Steps p.tables e below (s₁.setTop (mkF m 33 #[.val (.ref b1), .val (.ref b2), .val (.int 10)] [(.int 1)])) _
  exact retN X0 hx (t := .boolean) Bd.returns (by simp) (hb hby d1_33) hr
 ·show Qi 1 h0 n0 _ s₁.heap _
  rw [e0]
  exact ⟨rfl, N0, rfl⟩
theorem ef_rm_eq_bo (m : MethodId) (a1 : Addr) (a2 : Addr) : entryFrame m #[(.ref a1), (.ref a2)] 3 = mkF m 0 #[.val (.ref a1), .val (.ref a2), .unset] [] := by first | (simp [entryFrame, mkF, argsToLocals, Value.category]; done) | rfl
set_option maxRecDepth 65536 in
set_option maxHeartbeats 40000000 in
theorem rm_eq_bo (l : Launch) (Z : State) (a0 : Array Value) (hw : ∀ d ∈ tables_1, d.before a0 Z = true) (ws : List Jvm.Cond) (a1 : Addr) (a2 : Addr) (zc : Int32) (b1 b2 : Addr) (k1 k2 : ClassId) (h0 : Heap) (n0 : Nat) (Z0 : n0 ≤ h0.size) (X00 : Old Z n0 h0) (S_cs : Sta Z Z.heap "java/lang/String" "COMPACT_STRINGS" "Z" (.int zc)) (hz : ¬ zc = 0) (D1 : StrF Z h0 a1 b1 k1 own_bo) (D2 : StrF Z h0 a2 b2 k2 own_bo) :
    MetFree l yn0 (head1 (Jvm.Cond.code yn0 jdk_42_method_66_code 3 (some .boolean) :: ws) ({ frames := 2, cells := 0, slots := 0, locals := 60 } : Room)) (fun a U => a = #[(.ref a1), (.ref a2)] ∧ Z.Warmed39 U.vm ∧ U.heap = h0) (fun _ _ _ _ _ => True) (fun _ U o U' => ∃ v L, o = .returned v ∧ Qi 1 h0 n0 v U'.heap L ∧ FrameEnd U o U' L ({ frames := 2, cells := 0, slots := 0, locals := 60 } : Room).cells ({ frames := 2, cells := 0, slots := 0, locals := 60 } : Room).slots) := by
 refine MetFree.of_bodySF (plainFor_of_name pn_java_lang_String) hisR ?_
 intro p e s m args below meth c s₁ Bd hml0 hP hK
 obtain ⟨rfl, hZ, hh⟩ := hP
 have hx := Bd.exec
 have hby := Bd.bytes
 have hml : c.maxLocals = 3 := hml0
 have hown : s.vm.findClass "java/lang/String" = some m.cls := findClass_of_methodNamed Bd.named
 have hnm := (name_of_methodNamed Bd.named Bd.method).1
 have X0 : Stand p l e ({ frames := 2, cells := 0, slots := 0, locals := 60 } : Room) s m #[(.ref a1), (.ref a2)] below meth c s₁ [] 0 0 := Stand.of_body Bd
 have e0 : s₁.heap = h0 := by rw [← hh, Bd.state]; rfl
 have N0 := Fr.nil n0
 obtain ⟨A0, hA0⟩ : ∃ A, A = s₁.setTop (entryFrame m #[(.ref a1), (.ref a2)] 3) := ⟨_, rfl⟩
 have R0 : ∀ tgt, Steps p.tables e below (s₁.setTop (mkF m 0 #[.val (.ref a1), .val (.ref a2), .unset] [])) tgt → Steps p.tables e below A0 tgt := fun tgt hgo => by rw [hA0]; exact castTop (ef_rm_eq_bo m a1 a2) hgo
 have w : ∀ (i : Nat) {d : Jvm.Cond}, tables_1[i]? = some d → d.before a0 Z = true := fun i d h => hw d (List.mem_of_getElem? h)
 obtain ⟨E1, C1, F1, V1⟩ := D1
 obtain ⟨E2, C2, F2, V2⟩ := D2
 have R2 : Rc p e below A0 (s₁.setTop (mkF m 2 #[.val (.ref a1), .val (.ref a2), .unset] [(.ref a2), (.ref a1)])) := by
   intro tgt hgo
   refine R0 tgt ?_
   show Steps p.tables e below (s₁.setTop (mkF m 0 #[.val (.ref a1), .val (.ref a2), .unset] [])) _
   refine XS.aloadN X0.here hx rfl (hb hby d0_0) rfl rfl ?_
   refine XS.aloadN X0.here hx rfl (hb hby d0_1) rfl rfl ?_
   exact hgo
 by_cases ha2_1 : a1 = a2
 ·have R3 : Rc p e below A0 (s₁.setTop (mkF m 6 #[.val (.ref a1), .val (.ref a2), .unset] [(.int 1)])) := by
    intro tgt hgo
    refine R2 tgt ?_
    show Steps p.tables e below (s₁.setTop (mkF m 2 #[.val (.ref a1), .val (.ref a2), .unset] [(.ref a2), (.ref a1)])) _
    refine Jvm.RoadKit.acmp (g := (mkF m 2 #[.val (.ref a1), .val (.ref a2), .unset] [(.ref a2), (.ref a1)])) X0 hx rfl rfl rfl (pc0 := 2) (pc' := 5) (same := true) rfl (hb hby d0_2) rfl (decide_eq_true (congrArg Value.ref ha2_1)) (by decide) (by decide) ?_
    refine XS.iconst X0.here hx rfl (hb hby d0_5) ?_
    exact hgo
  subst hA0
  obtain ⟨fs, hr, hrun, hended, hW, hsame⟩ := X0.leave (v := some (.int 1)) (fun h => by rw [Bd.returns] at h; cases h)
  refine ⟨_, _, R3 _ ?_, hrun, hended, _, _, rfl, ?_, ⟨_, rfl⟩, hW, hsame.mono (by decide) (by decide)⟩
  ·show Steps p.tables e below (s₁.setTop (mkF m 6 #[.val (.ref a1), .val (.ref a2), .unset] [(.int 1)])) _
   exact retN X0 hx (t := .boolean) Bd.returns (by simp) (hb hby d0_6) hr
  ·show Qi 1 h0 n0 _ s₁.heap _
   rw [e0]
   exact ⟨rfl, N0, rfl⟩
 ·have R4 : Rc p e below A0 (s₁.setTop (mkF m 8 #[.val (.ref a1), .val (.ref a2), .unset] [(.ref a2)])) := by
    intro tgt hgo
    refine R2 tgt ?_
    show Steps p.tables e below (s₁.setTop (mkF m 2 #[.val (.ref a1), .val (.ref a2), .unset] [(.ref a2), (.ref a1)])) _
    refine Jvm.RoadKit.acmp (g := (mkF m 2 #[.val (.ref a1), .val (.ref a2), .unset] [(.ref a2), (.ref a1)])) X0 hx rfl rfl rfl (pc0 := 2) (pc' := 7) (same := false) rfl (hb hby d0_2) rfl (decide_eq_false fun q => ha2_1 (Value.ref.inj q)) (by decide) (by decide) ?_
    refine XS.aloadN X0.here hx rfl (hb hby d0_7) rfl rfl ?_
    exact hgo
  obtain ⟨T5, X5, e5, st5⟩ := instY X0 hx hZ hown (w 126 rfl) e0 (Ins.self E2) (g := (mkF m 8 #[.val (.ref a1), .val (.ref a2), .unset] [(.ref a2)])) rfl rfl (hb hby d0_8)
  have R6 := Rc.st R4 st5
  have R7 : Rc p e below A0 (T5.setTop (mkF m 15 #[.val (.ref a1), .val (.ref a2), .unset] [(.ref a2)])) := by
    intro tgt hgo
    refine R6 tgt ?_
    show Steps p.tables e below (T5.setTop (mkF m 11 #[.val (.ref a1), .val (.ref a2), .unset] [(.int 1)])) _
    refine XS.ifNo X5.here hx rfl (hb hby d0_11) rfl ((if0 _ _).trans (feq (by decide : ¬ ((1 : Int32) = (0 : Int32)))).1) ?_
    refine XS.aloadN X5.here hx rfl (hb hby d0_14) rfl rfl ?_
    exact hgo
  obtain ⟨T8, X8, e8, st8⟩ := castY X5 hx hZ hown (w 126 rfl) e5 (Ins.self E2) (g := (mkF m 15 #[.val (.ref a1), .val (.ref a2), .unset] [(.ref a2)])) rfl rfl (hb hby d0_15)
  have R9 := Rc.st R7 st8
  have R10 : Rc p e below A0 (T8.setTop (mkF m 19 #[.val (.ref a1), .val (.ref a2), .val (.ref a2)] [])) := by
    intro tgt hgo
    refine R9 tgt ?_
    show Steps p.tables e below (T8.setTop (mkF m 18 #[.val (.ref a1), .val (.ref a2), .unset] [(.ref a2)])) _
    refine XS.astoreN X8.here hx rfl (hb hby d0_18) rfl rfl (l' := #[.val (.ref a1), .val (.ref a2), .val (.ref a2)]) rfl ?_
    exact hgo
  obtain ⟨T11, X11, e11, st11⟩ := getS2 X8 hx hZ hown (host := "") (Or.inl (w 127 rfl)) Via.refl e8 (S_cs.ext X00.2) (g := (mkF m 19 #[.val (.ref a1), .val (.ref a2), .val (.ref a2)] [])) rfl (hb hby d0_19)
  have R12 := Rc.st R10 st11
  have R13 : Rc p e below A0 (T11.setTop (mkF m 26 #[.val (.ref a1), .val (.ref a2), .val (.ref a2)] [(.ref a1)])) := by
    intro tgt hgo
    refine R12 tgt ?_
    show Steps p.tables e below (T11.setTop (mkF m 22 #[.val (.ref a1), .val (.ref a2), .val (.ref a2)] [(.int zc)])) _
    refine XS.ifNo X11.here hx rfl (hb hby d0_22) rfl ((if0 _ _).trans (feq (hz : ¬ (zc = (0 : Int32)))).1) ?_
    refine XS.aloadN X11.here hx rfl (hb hby d0_25) rfl rfl ?_
    exact hgo
  obtain ⟨T14, X14, e14, st14⟩ := getF X11 hx hZ hown (host := "") (Or.inl (w 30 rfl)) Via.refl e11 C1 (g := (mkF m 26 #[.val (.ref a1), .val (.ref a2), .val (.ref a2)] [(.ref a1)])) rfl rfl (hb hby d0_26)
  have R15 := Rc.st R13 st14
  have R16 : Rc p e below A0 (T14.setTop (mkF m 30 #[.val (.ref a1), .val (.ref a2), .val (.ref a2)] [(.ref a2), (.int 0)])) := by
    intro tgt hgo
    refine R15 tgt ?_
    show Steps p.tables e below (T14.setTop (mkF m 29 #[.val (.ref a1), .val (.ref a2), .val (.ref a2)] [(.int 0)])) _
    refine XS.aloadN X14.here hx rfl (hb hby d0_29) rfl rfl ?_
    exact hgo
  obtain ⟨T17, X17, e17, st17⟩ := getF X14 hx hZ hown (host := "") (Or.inl (w 30 rfl)) Via.refl e14 C2 (g := (mkF m 30 #[.val (.ref a1), .val (.ref a2), .val (.ref a2)] [(.ref a2), (.int 0)])) rfl rfl (hb hby d0_30)
  have R18 := Rc.st R16 st17
  have R19 : Rc p e below A0 (T17.setTop (mkF m 37 #[.val (.ref a1), .val (.ref a2), .val (.ref a2)] [(.ref a1)])) := by
    intro tgt hgo
    refine R18 tgt ?_
    show Steps p.tables e below (T17.setTop (mkF m 33 #[.val (.ref a1), .val (.ref a2), .val (.ref a2)] [(.int 0), (.int 0)])) _
    refine XS.icmpNo X17.here hx rfl (hb hby d0_33) rfl (teq (by decide : (0 : Int32) = (0 : Int32))).2 ?_
    refine XS.aloadN X17.here hx rfl (hb hby d0_36) rfl rfl ?_
    exact hgo
  obtain ⟨T20, X20, e20, st20⟩ := getF X17 hx hZ hown (host := "") (Or.inl (w 29 rfl)) Via.refl e17 F1 (g := (mkF m 37 #[.val (.ref a1), .val (.ref a2), .val (.ref a2)] [(.ref a1)])) rfl rfl (hb hby d0_37)
  have R21 := Rc.st R19 st20
  have R22 : Rc p e below A0 (T20.setTop (mkF m 41 #[.val (.ref a1), .val (.ref a2), .val (.ref a2)] [(.ref a2), (.ref b1)])) := by
    intro tgt hgo
    refine R21 tgt ?_
    show Steps p.tables e below (T20.setTop (mkF m 40 #[.val (.ref a1), .val (.ref a2), .val (.ref a2)] [(.ref b1)])) _
    refine XS.aloadN X20.here hx rfl (hb hby d0_40) rfl rfl ?_
    exact hgo
  obtain ⟨T23, X23, e23, st23⟩ := getF X20 hx hZ hown (host := "") (Or.inl (w 29 rfl)) Via.refl e20 F2 (g := (mkF m 41 #[.val (.ref a1), .val (.ref a2), .val (.ref a2)] [(.ref a2), (.ref b1)])) rfl rfl (hb hby d0_41)
  have R24 := Rc.st R22 st23
  obtain ⟨_, _, ⟨T25, L25, k25, n25⟩, -, X25, ⟨Lc25, hQ25, l25, y25, z25⟩, st25⟩ := Jvm.LawKit.callS X23 hx (y := yn1) hown (mvT hZ (w 128 rfl)) (mvT hZ (w 129 rfl)) (mvT hZ (w 130 rfl)) (mvT hZ (w 131 rfl)) (by decide) (backOf (W := 0) (rm_le_bo l Z a0 hw [] b1 b2 k1 k2 h0 n0 Z0 V1 V2) hZ (w 131 rfl) (w 130 rfl) (by decide) (by decide)) (g := (mkF m 44 #[.val (.ref a1), .val (.ref a2), .val (.ref a2)] [(.ref b2), (.ref b1)])) rfl (by rw [hml]; rfl) (argsL := [(.ref b1), (.ref b2)]) (rest := []) (lenOf pd_0 rfl) rfl (by show 2 * 0 + _ ≤ _; exact Nat.le_of_eq rfl) (hb hby d0_44) (fun _ _ => ⟨rfl, e23, (by decide : 0 + 0 ≤ _), (by decide : 0 + 0 ≤ _)⟩)
  dsimp only [Pt.U, Pt.locs, Pt.cells, Pt.slots] at X25 l25 y25 z25 st25 hQ25
  subst l25 y25 z25
  obtain ⟨rfl, N25q, e25⟩ := hQ25
  have N25 := Fr.app N0 N25q
  have R26 := Rc.st R24 st25
  have R27 : Rc p e below A0 (T25.setTop (mkF m 55 #[.val (.ref a1), .val (.ref a2), .val (.ref a2)] [(.int 1)])) := by
    intro tgt hgo
    refine R26 tgt ?_
    show Steps p.tables e below (T25.setTop (mkF m 47 #[.val (.ref a1), .val (.ref a2), .val (.ref a2)] [(.int 1)])) _
    refine XS.ifNo X25.here hx rfl (hb hby d0_47) rfl ((if0 _ _).trans (feq (by decide : ¬ ((1 : Int32) = (0 : Int32)))).1) ?_
    refine XS.iconst X25.here hx rfl (hb hby d0_50) ?_
    refine XS.goto X25.here hx rfl (pc0 := 51) (pc' := 55) rfl (hb hby d0_51) (by decide) (by decide) ?_
    exact hgo
  subst hA0
  obtain ⟨fs, hr, hrun, hended, hW, hsame⟩ := X25.leave (v := some (.int 1)) (fun h => by rw [Bd.returns] at h; cases h)
  refine ⟨_, _, R27 _ ?_, hrun, hended, _, _, rfl, ?_, ⟨_, rfl⟩, hW, hsame.mono (by decide) (by decide)⟩
  ·show Steps p.tables e below (T25.setTop (mkF m 55 #[.val (.ref a1), .val (.ref a2), .val (.ref a2)] [(.int 1)])) _
   exact retN X25 hx (t := .boolean) Bd.returns (by simp) (hb hby d0_55) hr
  ·show Qi 1 h0 n0 _ T25.heap _
   rw [e25]
   exact ⟨rfl, N25, rfl⟩
theorem rm_eqt (l : Launch) (Z : State) (a0 : Array Value) (hw : ∀ d ∈ tables_1, d.before a0 Z = true) (ws : List Jvm.Cond) (a1 : Addr) (a2 : Addr) (zc : Int32) (bs : List Int32) (b1 b2 : Addr) (k1 k2 : ClassId) (h0 : Heap) (n0 : Nat) (Z0 : n0 ≤ h0.size) (X00 : Old Z n0 h0) (S_cs : Sta Z Z.heap "java/lang/String" "COMPACT_STRINGS" "Z" (.int zc)) (hz : ¬ zc = 0) (hbs : own_tok bs) (D1 : StrF Z h0 a1 b1 k1 bs) (D2 : StrF Z h0 a2 b2 k2 bs) :
    MetFree l yn0 (head1 (Jvm.Cond.code yn0 jdk_42_method_66_code 3 (some .boolean) :: ws) ({ frames := 2, cells := 0, slots := 0, locals := 60 } : Room)) (fun a U => a = #[(.ref a1), (.ref a2)] ∧ Z.Warmed39 U.vm ∧ U.heap = h0) (fun _ _ _ _ _ => True) (fun _ U o U' => ∃ v L, o = .returned v ∧ Qi 1 h0 n0 v U'.heap L ∧ FrameEnd U o U' L ({ frames := 2, cells := 0, slots := 0, locals := 60 } : Room).cells ({ frames := 2, cells := 0, slots := 0, locals := 60 } : Room).slots) := by
  rcases hbs with rfl | rfl | rfl
  · exact rm_eq_sh l Z a0 hw ws a1 a2 zc b1 b2 k1 k2 h0 n0 Z0 X00 S_cs hz D1 D2
  · exact rm_eq_un l Z a0 hw ws a1 a2 zc b1 b2 k1 k2 h0 n0 Z0 X00 S_cs hz D1 D2
  · exact rm_eq_bo l Z a0 hw ws a1 a2 zc b1 b2 k1 k2 h0 n0 Z0 X00 S_cs hz D1 D2
theorem own_mvM {Z s : State} {a0 args : Array Value} {own host : String} {y : MethodName} {index : Nat} (hZ : Z.Warmed39 s.vm) (w : (Jvm.Cond.methodLinkNest own index y host).before a0 Z = true) : (Jvm.Cond.methodLinkNest own index y host).before args s = true := (Cond.methodLinkNest_wide hZ w :)
abbrev yn2 : MethodName := ⟨"java/util/AbstractCollection", "<init>", "()V"⟩
theorem pn_java_util_AbstractCollection : plainName "java/util/AbstractCollection" = true := by first | (simp [plainName, overriddenIn]; done) | decide +kernel
theorem ef_rm_ac (m : MethodId) (a1 : Addr) : entryFrame m #[(.ref a1)] 1 = mkF m 0 #[.val (.ref a1)] [] := by first | (simp [entryFrame, mkF, argsToLocals, Value.category]; done) | rfl
theorem d2_0 : decode jdk_22_method_1_code 0 = .ok (.aload_n 0, 1) := by decide +kernel
theorem d2_1 : decode jdk_22_method_1_code 1 = .ok (.invokespecial 1, 3) := by decide +kernel
theorem d2_4 : decode jdk_22_method_1_code 4 = .ok (.return_, 1) := by decide +kernel
set_option maxRecDepth 65536 in
set_option maxHeartbeats 40000000 in
theorem rm_ac (l : Launch) (Z : State) (a0 : Array Value) (hw : ∀ d ∈ tables_1, d.before a0 Z = true) (ws : List Jvm.Cond) (a1 : Addr) (h0 : Heap) (n0 : Nat) (Z0 : n0 ≤ h0.size) :
    MetFree l yn2 (head1 (Jvm.Cond.code yn2 jdk_22_method_1_code 1 none :: ws) ({ frames := 1, cells := 0, slots := 0, locals := 12 } : Room)) (fun a U => a = #[(.ref a1)] ∧ Z.Warmed39 U.vm ∧ U.heap = h0) (fun _ _ _ _ _ => True) (fun _ U o U' => ∃ v L, o = .returned v ∧ Qn h0 n0 v U'.heap L ∧ FrameEnd U o U' L ({ frames := 1, cells := 0, slots := 0, locals := 12 } : Room).cells ({ frames := 1, cells := 0, slots := 0, locals := 12 } : Room).slots) := by
 refine MetFree.of_bodySF (plainFor_of_name pn_java_util_AbstractCollection) hisR ?_
 intro p e s m args below meth c s₁ Bd hml0 hP hK
 obtain ⟨rfl, hZ, hh⟩ := hP
 have hx := Bd.exec
 have hby := Bd.bytes
 have hml : c.maxLocals = 1 := hml0
 have hown : s.vm.findClass "java/util/AbstractCollection" = some m.cls := findClass_of_methodNamed Bd.named
 have hnm := (name_of_methodNamed Bd.named Bd.method).1
 have X0 : Stand p l e ({ frames := 1, cells := 0, slots := 0, locals := 12 } : Room) s m #[(.ref a1)] below meth c s₁ [] 0 0 := Stand.of_body Bd
 have e0 : s₁.heap = h0 := by rw [← hh, Bd.state]; rfl
 have N0 := Fr.nil n0
 obtain ⟨A0, hA0⟩ : ∃ A, A = s₁.setTop (entryFrame m #[(.ref a1)] 1) := ⟨_, rfl⟩
 have R0 : ∀ tgt, Steps p.tables e below (s₁.setTop (mkF m 0 #[.val (.ref a1)] [])) tgt → Steps p.tables e below A0 tgt := fun tgt hgo => by rw [hA0]; exact castTop (ef_rm_ac m a1) hgo
 have w : ∀ (i : Nat) {d : Jvm.Cond}, tables_1[i]? = some d → d.before a0 Z = true := fun i d h => hw d (List.mem_of_getElem? h)
 have R1 : Rc p e below A0 (s₁.setTop (mkF m 1 #[.val (.ref a1)] [(.ref a1)])) := by
   intro tgt hgo
   refine R0 tgt ?_
   show Steps p.tables e below (s₁.setTop (mkF m 0 #[.val (.ref a1)] [])) _
   refine XS.aloadN X0.here hx rfl (hb hby d2_0) rfl rfl ?_
   exact hgo
 obtain ⟨T2, X2, e2, st2⟩ := initO X0 hx hZ hown (w 81 rfl) (w 26 rfl) (w 27 rfl) e0 (g := (mkF m 1 #[.val (.ref a1)] [(.ref a1)])) rfl (by rw [hml]; rfl) rfl (hb hby d2_1) (by decide) (W := 0) (by show 2 * 0 + _ ≤ _; exact Nat.le_of_eq rfl) (by decide)
 have R3 := Rc.st R1 st2
 subst hA0
 obtain ⟨fs, hr, hrun, hended, hW, hsame⟩ := X2.leave (v := none) (fun _ => rfl)
 refine ⟨_, _, R3 _ ?_, hrun, hended, _, _, rfl, ?_, ⟨_, rfl⟩, hW, hsame.mono (by decide) (by decide)⟩
 ·show Steps p.tables e below (T2.setTop (mkF m 4 #[.val (.ref a1)] [])) _
  exact X2.returnOut hx Bd.returns (hb hby d2_4) hr
 ·show Qn h0 n0 _ T2.heap _
  rw [e2]
  exact ⟨rfl, N0, rfl⟩
abbrev yn3 : MethodName := ⟨"java/util/ImmutableCollections$AbstractImmutableCollection", "<init>", "()V"⟩
theorem pn_java_util_ImmutableCollections_AbstractImmutableCollection : plainName "java/util/ImmutableCollections$AbstractImmutableCollection" = true := by first | (simp [plainName, overriddenIn]; done) | decide +kernel
theorem ef_rm_aic (m : MethodId) (a1 : Addr) : entryFrame m #[(.ref a1)] 1 = mkF m 0 #[.val (.ref a1)] [] := by first | (simp [entryFrame, mkF, argsToLocals, Value.category]; done) | rfl
theorem d3_0 : decode jdk_47_method_1_code 0 = .ok (.aload_n 0, 1) := by decide +kernel
theorem d3_1 : decode jdk_47_method_1_code 1 = .ok (.invokespecial 1, 3) := by decide +kernel
theorem pd_1 : parseMethodDescriptor "()V" = some ⟨[], none⟩ := by decide +kernel
theorem d3_4 : decode jdk_47_method_1_code 4 = .ok (.return_, 1) := by decide +kernel
set_option maxRecDepth 65536 in
set_option maxHeartbeats 40000000 in
theorem rm_aic (l : Launch) (Z : State) (a0 : Array Value) (hw : ∀ d ∈ tables_1, d.before a0 Z = true) (ws : List Jvm.Cond) (a1 : Addr) (h0 : Heap) (n0 : Nat) (Z0 : n0 ≤ h0.size) :
    MetFree l yn3 (head1 (Jvm.Cond.code yn3 jdk_47_method_1_code 1 none :: ws) ({ frames := 2, cells := 0, slots := 0, locals := 24 } : Room)) (fun a U => a = #[(.ref a1)] ∧ Z.Warmed39 U.vm ∧ U.heap = h0) (fun _ _ _ _ _ => True) (fun _ U o U' => ∃ v L, o = .returned v ∧ Qn h0 n0 v U'.heap L ∧ FrameEnd U o U' L ({ frames := 2, cells := 0, slots := 0, locals := 24 } : Room).cells ({ frames := 2, cells := 0, slots := 0, locals := 24 } : Room).slots) := by
 refine MetFree.of_bodySF (plainFor_of_name pn_java_util_ImmutableCollections_AbstractImmutableCollection) hisR ?_
 intro p e s m args below meth c s₁ Bd hml0 hP hK
 obtain ⟨rfl, hZ, hh⟩ := hP
 have hx := Bd.exec
 have hby := Bd.bytes
 have hml : c.maxLocals = 1 := hml0
 have hown : s.vm.findClass "java/util/ImmutableCollections$AbstractImmutableCollection" = some m.cls := findClass_of_methodNamed Bd.named
 have hnm := (name_of_methodNamed Bd.named Bd.method).1
 have X0 : Stand p l e ({ frames := 2, cells := 0, slots := 0, locals := 24 } : Room) s m #[(.ref a1)] below meth c s₁ [] 0 0 := Stand.of_body Bd
 have e0 : s₁.heap = h0 := by rw [← hh, Bd.state]; rfl
 have N0 := Fr.nil n0
 obtain ⟨A0, hA0⟩ : ∃ A, A = s₁.setTop (entryFrame m #[(.ref a1)] 1) := ⟨_, rfl⟩
 have R0 : ∀ tgt, Steps p.tables e below (s₁.setTop (mkF m 0 #[.val (.ref a1)] [])) tgt → Steps p.tables e below A0 tgt := fun tgt hgo => by rw [hA0]; exact castTop (ef_rm_aic m a1) hgo
 have w : ∀ (i : Nat) {d : Jvm.Cond}, tables_1[i]? = some d → d.before a0 Z = true := fun i d h => hw d (List.mem_of_getElem? h)
 have R1 : Rc p e below A0 (s₁.setTop (mkF m 1 #[.val (.ref a1)] [(.ref a1)])) := by
   intro tgt hgo
   refine R0 tgt ?_
   show Steps p.tables e below (s₁.setTop (mkF m 0 #[.val (.ref a1)] [])) _
   refine XS.aloadN X0.here hx rfl (hb hby d3_0) rfl rfl ?_
   exact hgo
 obtain ⟨_, _, ⟨T2, L2, k2, n2⟩, -, X2, ⟨Lc2, hQ2, l2, y2, z2⟩, st2⟩ := X0.specialBack hx (y := yn2) rfl hown (mvT hZ (w 75 rfl)) (mvT hZ (w 76 rfl)) (mvT hZ (w 80 rfl)) (by decide) (backOf (W := 0) (rm_ac l Z a0 hw [] a1 h0 n0 Z0) hZ (w 80 rfl) (w 79 rfl) (by decide) (by decide)) (g := (mkF m 1 #[.val (.ref a1)] [(.ref a1)])) rfl (by rw [hml]; rfl) (Steps.refl _) (a := a1) (argsL := []) (rest := []) (lenOf pd_1 rfl) rfl (by show 2 * 0 + _ ≤ _; exact Nat.le_of_eq rfl) (hb hby d3_1) (fun _ _ => ⟨rfl, e0, (by decide : 0 + 0 ≤ _), (by decide : 0 + 0 ≤ _)⟩)
 dsimp only [Pt.U, Pt.locs, Pt.cells, Pt.slots] at X2 l2 y2 z2 st2 hQ2
 subst l2 y2 z2
 obtain ⟨rfl, N2q, e2⟩ := hQ2
 have N2 := Fr.app N0 N2q
 have R3 := Rc.tr R1 st2
 subst hA0
 obtain ⟨fs, hr, hrun, hended, hW, hsame⟩ := X2.leave (v := none) (fun _ => rfl)
 refine ⟨_, _, R3 _ ?_, hrun, hended, _, _, rfl, ?_, ⟨_, rfl⟩, hW, hsame.mono (by decide) (by decide)⟩
 ·show Steps p.tables e below (T2.setTop (mkF m 4 #[.val (.ref a1)] [])) _
  exact X2.returnOut hx Bd.returns (hb hby d3_4) hr
 ·show Qn h0 n0 _ T2.heap _
  rw [e2]
  exact ⟨rfl, N2, rfl⟩
abbrev yn4 : MethodName := ⟨"java/util/ImmutableCollections$AbstractImmutableList", "<init>", "()V"⟩
theorem pn_java_util_ImmutableCollections_AbstractImmutableList : plainName "java/util/ImmutableCollections$AbstractImmutableList" = true := by first | (simp [plainName, overriddenIn]; done) | decide +kernel
theorem ef_rm_ail (m : MethodId) (a1 : Addr) : entryFrame m #[(.ref a1)] 1 = mkF m 0 #[.val (.ref a1)] [] := by first | (simp [entryFrame, mkF, argsToLocals, Value.category]; done) | rfl
theorem d4_0 : decode jdk_46_method_1_code 0 = .ok (.aload_n 0, 1) := by decide +kernel
theorem d4_1 : decode jdk_46_method_1_code 1 = .ok (.invokespecial 1, 3) := by decide +kernel
theorem d4_4 : decode jdk_46_method_1_code 4 = .ok (.return_, 1) := by decide +kernel
set_option maxRecDepth 65536 in
set_option maxHeartbeats 40000000 in
theorem rm_ail (l : Launch) (Z : State) (a0 : Array Value) (hw : ∀ d ∈ tables_1, d.before a0 Z = true) (ws : List Jvm.Cond) (a1 : Addr) (h0 : Heap) (n0 : Nat) (Z0 : n0 ≤ h0.size) :
    MetFree l yn4 (head1 (Jvm.Cond.code yn4 jdk_46_method_1_code 1 none :: ws) ({ frames := 3, cells := 0, slots := 0, locals := 36 } : Room)) (fun a U => a = #[(.ref a1)] ∧ Z.Warmed39 U.vm ∧ U.heap = h0) (fun _ _ _ _ _ => True) (fun _ U o U' => ∃ v L, o = .returned v ∧ Qn h0 n0 v U'.heap L ∧ FrameEnd U o U' L ({ frames := 3, cells := 0, slots := 0, locals := 36 } : Room).cells ({ frames := 3, cells := 0, slots := 0, locals := 36 } : Room).slots) := by
 refine MetFree.of_bodySF (plainFor_of_name pn_java_util_ImmutableCollections_AbstractImmutableList) hisR ?_
 intro p e s m args below meth c s₁ Bd hml0 hP hK
 obtain ⟨rfl, hZ, hh⟩ := hP
 have hx := Bd.exec
 have hby := Bd.bytes
 have hml : c.maxLocals = 1 := hml0
 have hown : s.vm.findClass "java/util/ImmutableCollections$AbstractImmutableList" = some m.cls := findClass_of_methodNamed Bd.named
 have hnm := (name_of_methodNamed Bd.named Bd.method).1
 have X0 : Stand p l e ({ frames := 3, cells := 0, slots := 0, locals := 36 } : Room) s m #[(.ref a1)] below meth c s₁ [] 0 0 := Stand.of_body Bd
 have e0 : s₁.heap = h0 := by rw [← hh, Bd.state]; rfl
 have N0 := Fr.nil n0
 obtain ⟨A0, hA0⟩ : ∃ A, A = s₁.setTop (entryFrame m #[(.ref a1)] 1) := ⟨_, rfl⟩
 have R0 : ∀ tgt, Steps p.tables e below (s₁.setTop (mkF m 0 #[.val (.ref a1)] [])) tgt → Steps p.tables e below A0 tgt := fun tgt hgo => by rw [hA0]; exact castTop (ef_rm_ail m a1) hgo
 have w : ∀ (i : Nat) {d : Jvm.Cond}, tables_1[i]? = some d → d.before a0 Z = true := fun i d h => hw d (List.mem_of_getElem? h)
 have R1 : Rc p e below A0 (s₁.setTop (mkF m 1 #[.val (.ref a1)] [(.ref a1)])) := by
   intro tgt hgo
   refine R0 tgt ?_
   show Steps p.tables e below (s₁.setTop (mkF m 0 #[.val (.ref a1)] [])) _
   refine XS.aloadN X0.here hx rfl (hb hby d4_0) rfl rfl ?_
   exact hgo
 obtain ⟨_, _, ⟨T2, L2, k2, n2⟩, -, X2, ⟨Lc2, hQ2, l2, y2, z2⟩, st2⟩ := X0.specialBack hx (y := yn3) rfl hown (mvT hZ (w 69 rfl)) (mvT hZ (w 70 rfl)) (mvT hZ (w 74 rfl)) (by decide) (backOf (W := 0) (rm_aic l Z a0 hw [] a1 h0 n0 Z0) hZ (w 74 rfl) (w 73 rfl) (by decide) (by decide)) (g := (mkF m 1 #[.val (.ref a1)] [(.ref a1)])) rfl (by rw [hml]; rfl) (Steps.refl _) (a := a1) (argsL := []) (rest := []) (lenOf pd_1 rfl) rfl (by show 2 * 0 + _ ≤ _; exact Nat.le_of_eq rfl) (hb hby d4_1) (fun _ _ => ⟨rfl, e0, (by decide : 0 + 0 ≤ _), (by decide : 0 + 0 ≤ _)⟩)
 dsimp only [Pt.U, Pt.locs, Pt.cells, Pt.slots] at X2 l2 y2 z2 st2 hQ2
 subst l2 y2 z2
 obtain ⟨rfl, N2q, e2⟩ := hQ2
 have N2 := Fr.app N0 N2q
 have R3 := Rc.tr R1 st2
 subst hA0
 obtain ⟨fs, hr, hrun, hended, hW, hsame⟩ := X2.leave (v := none) (fun _ => rfl)
 refine ⟨_, _, R3 _ ?_, hrun, hended, _, _, rfl, ?_, ⟨_, rfl⟩, hW, hsame.mono (by decide) (by decide)⟩
 ·show Steps p.tables e below (T2.setTop (mkF m 4 #[.val (.ref a1)] [])) _
  exact X2.returnOut hx Bd.returns (hb hby d4_4) hr
 ·show Qn h0 n0 _ T2.heap _
  rw [e2]
  exact ⟨rfl, N2, rfl⟩
abbrev yn5 : MethodName := ⟨"java/util/Objects", "requireNonNull", "(Ljava/lang/Object;)Ljava/lang/Object;"⟩
theorem pn_java_util_Objects : plainName "java/util/Objects" = true := by first | (simp [plainName, overriddenIn]; done) | decide +kernel
theorem ef_rm_rn (m : MethodId) (a1 : Addr) : entryFrame m #[(.ref a1)] 1 = mkF m 0 #[.val (.ref a1)] [] := by first | (simp [entryFrame, mkF, argsToLocals, Value.category]; done) | rfl
theorem d5_0 : decode jdk_31_method_10_code 0 = .ok (.aload_n 0, 1) := by decide +kernel
theorem d5_1 : decode jdk_31_method_10_code 1 = .ok (.ifnonnull 11, 3) := by decide +kernel
theorem d5_12 : decode jdk_31_method_10_code 12 = .ok (.aload_n 0, 1) := by decide +kernel
theorem d5_13 : decode jdk_31_method_10_code 13 = .ok (.areturn, 1) := by decide +kernel
set_option maxRecDepth 65536 in
set_option maxHeartbeats 40000000 in
theorem rm_rn (l : Launch) (Z : State) (a0 : Array Value) (hw : ∀ d ∈ tables_1, d.before a0 Z = true) (ws : List Jvm.Cond) (a1 : Addr) (h0 : Heap) (n0 : Nat) (Z0 : n0 ≤ h0.size) :
    MetFree l yn5 (head1 (Jvm.Cond.code yn5 jdk_31_method_10_code 1 (some (.object "java/lang/Object")) :: ws) ({ frames := 0, cells := 0, slots := 0, locals := 0 } : Room)) (fun a U => a = #[(.ref a1)] ∧ Z.Warmed39 U.vm ∧ U.heap = h0) (fun _ _ _ _ _ => True) (fun _ U o U' => ∃ v L, o = .returned v ∧ Qr a1 h0 n0 v U'.heap L ∧ FrameEnd U o U' L ({ frames := 0, cells := 0, slots := 0, locals := 0 } : Room).cells ({ frames := 0, cells := 0, slots := 0, locals := 0 } : Room).slots) := by
 refine MetFree.of_bodySF (plainFor_of_name pn_java_util_Objects) hisR ?_
 intro p e s m args below meth c s₁ Bd hml0 hP hK
 obtain ⟨rfl, hZ, hh⟩ := hP
 have hx := Bd.exec
 have hby := Bd.bytes
 have hml : c.maxLocals = 1 := hml0
 have hown : s.vm.findClass "java/util/Objects" = some m.cls := findClass_of_methodNamed Bd.named
 have hnm := (name_of_methodNamed Bd.named Bd.method).1
 have X0 : Stand p l e ({ frames := 0, cells := 0, slots := 0, locals := 0 } : Room) s m #[(.ref a1)] below meth c s₁ [] 0 0 := Stand.of_body Bd
 have e0 : s₁.heap = h0 := by rw [← hh, Bd.state]; rfl
 have N0 := Fr.nil n0
 obtain ⟨A0, hA0⟩ : ∃ A, A = s₁.setTop (entryFrame m #[(.ref a1)] 1) := ⟨_, rfl⟩
 have R0 : ∀ tgt, Steps p.tables e below (s₁.setTop (mkF m 0 #[.val (.ref a1)] [])) tgt → Steps p.tables e below A0 tgt := fun tgt hgo => by rw [hA0]; exact castTop (ef_rm_rn m a1) hgo
 have w : ∀ (i : Nat) {d : Jvm.Cond}, tables_1[i]? = some d → d.before a0 Z = true := fun i d h => hw d (List.mem_of_getElem? h)
 have R1 : Rc p e below A0 (s₁.setTop (mkF m 13 #[.val (.ref a1)] [(.ref a1)])) := by
   intro tgt hgo
   refine R0 tgt ?_
   show Steps p.tables e below (s₁.setTop (mkF m 0 #[.val (.ref a1)] [])) _
   refine XS.aloadN X0.here hx rfl (hb hby d5_0) rfl rfl ?_
   refine XS.ifnonnullYes X0.here hx rfl (pc0 := 1) (pc' := 12) rfl (hb hby d5_1) rfl (by decide) (by decide) ?_
   refine XS.aloadN X0.here hx rfl (hb hby d5_12) rfl rfl ?_
   exact hgo
 subst hA0
 obtain ⟨fs, hr, hrun, hended, hW, hsame⟩ := X0.leave (v := some (.ref a1)) (fun h => by rw [Bd.returns] at h; cases h)
 refine ⟨_, _, R1 _ ?_, hrun, hended, _, _, rfl, ?_, ⟨_, rfl⟩, hW, hsame.mono (by decide) (by decide)⟩
 ·show Steps p.tables e below (s₁.setTop (mkF m 13 #[.val (.ref a1)] [(.ref a1)])) _
  jvm_step X0.here [X0.here.top, hx, (hb hby d5_13), X0.method', Bd.returns, Value.isRef, FieldType.isReference]
  first | (intro acts; rw [hr _ acts rfl rfl rfl]) | rw [hr _ _ rfl rfl rfl]
  exact Steps.refl _
 ·show Qr a1 h0 n0 _ s₁.heap _
  rw [e0]
  exact ⟨rfl, N0, rfl⟩
def Q12 (Z : State) (a1 e0 e1 : Addr) (h0 : Heap) (n0 : Nat) (v : Option Value) (h : Heap) (L : List Loc) : Prop := v = none ∧ Fr n0 L ∧ Keep h0 h [a1] ∧ Fld Z h a1 "java/util/ImmutableCollections$List12" "e0" "Ljava/lang/Object;" (.ref e0) ∧ Fld Z h a1 "java/util/ImmutableCollections$List12" "e1" "Ljava/lang/Object;" (.ref e1)
abbrev yn6 : MethodName := ⟨"java/util/ImmutableCollections$List12", "<init>", "(Ljava/lang/Object;)V"⟩
theorem pn_java_util_ImmutableCollections_List12 : plainName "java/util/ImmutableCollections$List12" = true := by first | (simp [plainName, overriddenIn]; done) | decide +kernel
theorem ef_rm_121 (m : MethodId) (a1 : Addr) (a2 : Addr) : entryFrame m #[(.ref a1), (.ref a2)] 2 = mkF m 0 #[.val (.ref a1), .val (.ref a2)] [] := by first | (simp [entryFrame, mkF, argsToLocals, Value.category]; done) | rfl
theorem d6_0 : decode jdk_44_method_1_code 0 = .ok (.aload_n 0, 1) := by decide +kernel
theorem d6_1 : decode jdk_44_method_1_code 1 = .ok (.invokespecial 1, 3) := by decide +kernel
theorem d6_4 : decode jdk_44_method_1_code 4 = .ok (.aload_n 0, 1) := by decide +kernel
theorem d6_5 : decode jdk_44_method_1_code 5 = .ok (.aload_n 1, 1) := by decide +kernel
theorem d6_6 : decode jdk_44_method_1_code 6 = .ok (.invokestatic 7, 3) := by decide +kernel
theorem pd_2 : parseMethodDescriptor "(Ljava/lang/Object;)Ljava/lang/Object;" = some ⟨[(.object "java/lang/Object")], some (.object "java/lang/Object")⟩ := by decide +kernel
theorem d6_9 : decode jdk_44_method_1_code 9 = .ok (.putfield 13, 3) := by decide +kernel
theorem d6_12 : decode jdk_44_method_1_code 12 = .ok (.aload_n 0, 1) := by decide +kernel
theorem d6_13 : decode jdk_44_method_1_code 13 = .ok (.getstatic 19, 3) := by decide +kernel
theorem d6_16 : decode jdk_44_method_1_code 16 = .ok (.putfield 24, 3) := by decide +kernel
theorem d6_19 : decode jdk_44_method_1_code 19 = .ok (.return_, 1) := by decide +kernel
set_option maxRecDepth 65536 in
set_option maxHeartbeats 40000000 in
theorem rm_121 (l : Launch) (Z : State) (a0 : Array Value) (hw : ∀ d ∈ tables_1, d.before a0 Z = true) (ws : List Jvm.Cond) (a1 : Addr) (a2 : Addr) (em : Addr) (h0 : Heap) (n0 : Nat) (Z0 : n0 ≤ h0.size) (ge1 : n0 ≤ a1) (E1 : Exa Z h0 a1 "java/util/ImmutableCollections$List12") (F0 : Fld Z h0 a1 "java/util/ImmutableCollections$List12" "e0" "Ljava/lang/Object;" .null) (F1 : Fld Z h0 a1 "java/util/ImmutableCollections$List12" "e1" "Ljava/lang/Object;" .null) (X00 : Old Z n0 h0) (S_em : Sta Z Z.heap "java/util/ImmutableCollections" "EMPTY" "Ljava/lang/Object;" (.ref em)) :
    MetFree l yn6 (head1 (Jvm.Cond.code yn6 jdk_44_method_1_code 2 none :: ws) ({ frames := 4, cells := 0, slots := 0, locals := 48 } : Room)) (fun a U => a = #[(.ref a1), (.ref a2)] ∧ Z.Warmed39 U.vm ∧ U.heap = h0) (fun _ _ _ _ _ => True) (fun _ U o U' => ∃ v L, o = .returned v ∧ Q12 Z a1 a2 em h0 n0 v U'.heap L ∧ FrameEnd U o U' L ({ frames := 4, cells := 0, slots := 0, locals := 48 } : Room).cells ({ frames := 4, cells := 0, slots := 0, locals := 48 } : Room).slots) := by
 refine MetFree.of_bodySF (plainFor_of_name pn_java_util_ImmutableCollections_List12) hisR ?_
 intro p e s m args below meth c s₁ Bd hml0 hP hK
 obtain ⟨rfl, hZ, hh⟩ := hP
 have hx := Bd.exec
 have hby := Bd.bytes
 have hml : c.maxLocals = 2 := hml0
 have hown : s.vm.findClass "java/util/ImmutableCollections$List12" = some m.cls := findClass_of_methodNamed Bd.named
 have hnm := (name_of_methodNamed Bd.named Bd.method).1
 have X0 : Stand p l e ({ frames := 4, cells := 0, slots := 0, locals := 48 } : Room) s m #[(.ref a1), (.ref a2)] below meth c s₁ [] 0 0 := Stand.of_body Bd
 have e0 : s₁.heap = h0 := by rw [← hh, Bd.state]; rfl
 have N0 := Fr.nil n0
 obtain ⟨A0, hA0⟩ : ∃ A, A = s₁.setTop (entryFrame m #[(.ref a1), (.ref a2)] 2) := ⟨_, rfl⟩
 have R0 : ∀ tgt, Steps p.tables e below (s₁.setTop (mkF m 0 #[.val (.ref a1), .val (.ref a2)] [])) tgt → Steps p.tables e below A0 tgt := fun tgt hgo => by rw [hA0]; exact castTop (ef_rm_121 m a1 a2) hgo
 have w : ∀ (i : Nat) {d : Jvm.Cond}, tables_1[i]? = some d → d.before a0 Z = true := fun i d h => hw d (List.mem_of_getElem? h)
 have hZn := Z0
 have hK : Keep h0 h0 [a1] := Keep.refl _ _
 have hOld := X00
 have R1 : Rc p e below A0 (s₁.setTop (mkF m 1 #[.val (.ref a1), .val (.ref a2)] [(.ref a1)])) := by
   intro tgt hgo
   refine R0 tgt ?_
   show Steps p.tables e below (s₁.setTop (mkF m 0 #[.val (.ref a1), .val (.ref a2)] [])) _
   refine XS.aloadN X0.here hx rfl (hb hby d6_0) rfl rfl ?_
   exact hgo
 obtain ⟨_, _, ⟨T2, L2, k2, n2⟩, -, X2, ⟨Lc2, hQ2, l2, y2, z2⟩, st2⟩ := X0.specialBack hx (y := yn4) rfl hown (mvT hZ (w 143 rfl)) (mvT hZ (w 64 rfl)) (mvT hZ (w 68 rfl)) (by decide) (backOf (W := 0) (rm_ail l Z a0 hw [] a1 h0 n0 hZn) hZ (w 68 rfl) (w 67 rfl) (by decide) (by decide)) (g := (mkF m 1 #[.val (.ref a1), .val (.ref a2)] [(.ref a1)])) rfl (by rw [hml]; rfl) (Steps.refl _) (a := a1) (argsL := []) (rest := []) (lenOf pd_1 rfl) rfl (by show 2 * 0 + _ ≤ _; exact Nat.le_of_eq rfl) (hb hby d6_1) (fun _ _ => ⟨rfl, e0, (by decide : 0 + 0 ≤ _), (by decide : 0 + 0 ≤ _)⟩)
 dsimp only [Pt.U, Pt.locs, Pt.cells, Pt.slots] at X2 l2 y2 z2 st2 hQ2
 subst l2 y2 z2
 obtain ⟨rfl, N2q, e2⟩ := hQ2
 have N2 := Fr.app N0 N2q
 have R3 := Rc.tr R1 st2
 have R4 : Rc p e below A0 (T2.setTop (mkF m 6 #[.val (.ref a1), .val (.ref a2)] [(.ref a2), (.ref a1)])) := by
   intro tgt hgo
   refine R3 tgt ?_
   show Steps p.tables e below (T2.setTop (mkF m 4 #[.val (.ref a1), .val (.ref a2)] [])) _
   refine XS.aloadN X2.here hx rfl (hb hby d6_4) rfl rfl ?_
   refine XS.aloadN X2.here hx rfl (hb hby d6_5) rfl rfl ?_
   exact hgo
 obtain ⟨_, _, ⟨T5, L5, k5, n5⟩, -, X5, ⟨Lc5, hQ5, l5, y5, z5⟩, st5⟩ := Jvm.LawKit.callS X2 hx (y := yn5) hown (mvT hZ (w 147 rfl)) (mvT hZ (w 52 rfl)) (mvT hZ (w 53 rfl)) (mvT hZ (w 54 rfl)) (by decide) (backOf (W := 1) (rm_rn l Z a0 hw [] a2 h0 n0 hZn) hZ (w 54 rfl) (w 53 rfl) (by decide) (by decide)) (g := (mkF m 6 #[.val (.ref a1), .val (.ref a2)] [(.ref a2), (.ref a1)])) rfl (by rw [hml]; rfl) (argsL := [(.ref a2)]) (rest := [(.ref a1)]) (lenOf pd_2 rfl) rfl (by show 2 * 0 + _ ≤ _; exact Nat.le_of_eq rfl) (hb hby d6_6) (fun _ _ => ⟨rfl, e2, (by decide : 0 + 0 ≤ _), (by decide : 0 + 0 ≤ _)⟩)
 dsimp only [Pt.U, Pt.locs, Pt.cells, Pt.slots] at X5 l5 y5 z5 st5 hQ5
 subst l5 y5 z5
 obtain ⟨rfl, N5q, e5⟩ := hQ5
 have N5 := Fr.app N2 N5q
 have R6 := Rc.st R4 st5
 obtain ⟨T7, h7, X7, e7, W7, st7⟩ := putF X5 hx hZ hown (host := "") (Or.inl (w 148 rfl)) Via.refl e5 F0 E1 (Or.inr ⟨(w 149 rfl), rfl, hnm⟩) (w 137 rfl) (ty := (.object "java/lang/Object")) (by decide) rfl rfl (g := (mkF m 9 #[.val (.ref a1), .val (.ref a2)] [(.ref a2), (.ref a1)])) rfl rfl (hb hby d6_9)
 have N7 := Fr.snoc X7 N5 ge1
 replace hZn := Nat.le_trans hZn (Keep.of_wr W7).1
 replace hK := hK.wr W7 (Or.inl (List.mem_of_getElem? (i := 0) rfl))
 replace hOld := hOld.wr W7 ge1
 replace E1 := E1.wr W7
 replace F0 := F0.same W7
 replace F1 := F1.other W7 (Or.inr (slot_ne (Or.inr (w 151 rfl)) (Or.inr (w 149 rfl)) (by decide) (t := (.object "java/lang/Object")) (t' := (.object "java/lang/Object")) (by decide) (by decide)))
 have R8 := Rc.st R6 st7
 have R9 : Rc p e below A0 (T7.setTop (mkF m 13 #[.val (.ref a1), .val (.ref a2)] [(.ref a1)])) := by
   intro tgt hgo
   refine R8 tgt ?_
   show Steps p.tables e below (T7.setTop (mkF m 12 #[.val (.ref a1), .val (.ref a2)] [])) _
   refine XS.aloadN X7.here hx rfl (hb hby d6_12) rfl rfl ?_
   exact hgo
 obtain ⟨T10, X10, e10, st10⟩ := getS2 X7 hx hZ hown (Or.inr (w 158 rfl)) Via.refl e7 (S_em.ext hOld.2) (g := (mkF m 13 #[.val (.ref a1), .val (.ref a2)] [(.ref a1)])) rfl (hb hby d6_13)
 have R11 := Rc.st R9 st10
 obtain ⟨T12, h12, X12, e12, W12, st12⟩ := putF X10 hx hZ hown (host := "") (Or.inl (w 150 rfl)) Via.refl e10 F1 E1 (Or.inr ⟨(w 151 rfl), rfl, hnm⟩) (w 137 rfl) (ty := (.object "java/lang/Object")) (by decide) rfl rfl (g := (mkF m 16 #[.val (.ref a1), .val (.ref a2)] [(.ref em), (.ref a1)])) rfl rfl (hb hby d6_16)
 have N12 := Fr.snoc X12 N7 ge1
 replace hZn := Nat.le_trans hZn (Keep.of_wr W12).1
 replace hK := hK.wr W12 (Or.inl (List.mem_of_getElem? (i := 0) rfl))
 replace hOld := hOld.wr W12 ge1
 replace E1 := E1.wr W12
 replace F0 := F0.other W12 (Or.inr (slot_ne (Or.inr (w 149 rfl)) (Or.inr (w 151 rfl)) (by decide) (t := (.object "java/lang/Object")) (t' := (.object "java/lang/Object")) (by decide) (by decide)))
 replace F1 := F1.same W12
 have R13 := Rc.st R11 st12
 subst hA0
 obtain ⟨fs, hr, hrun, hended, hW, hsame⟩ := X12.leave (v := none) (fun _ => rfl)
 refine ⟨_, _, R13 _ ?_, hrun, hended, _, _, rfl, ?_, ⟨_, rfl⟩, hW, hsame.mono (by decide) (by decide)⟩
 ·show Steps p.tables e below (T12.setTop (mkF m 19 #[.val (.ref a1), .val (.ref a2)] [])) _
  exact X12.returnOut hx Bd.returns (hb hby d6_19) hr
 ·show Q12 Z a1 a2 em h0 n0 _ T12.heap _
  rw [e12]
  exact ⟨rfl, N12, hK, F0, F1⟩
abbrev yn7 : MethodName := ⟨"java/util/ImmutableCollections$List12", "<init>", "(Ljava/lang/Object;Ljava/lang/Object;)V"⟩
theorem ef_rm_122 (m : MethodId) (a1 : Addr) (a2 : Addr) (a3 : Addr) : entryFrame m #[(.ref a1), (.ref a2), (.ref a3)] 3 = mkF m 0 #[.val (.ref a1), .val (.ref a2), .val (.ref a3)] [] := by first | (simp [entryFrame, mkF, argsToLocals, Value.category]; done) | rfl
theorem d7_0 : decode jdk_44_method_2_code 0 = .ok (.aload_n 0, 1) := by decide +kernel
theorem d7_1 : decode jdk_44_method_2_code 1 = .ok (.invokespecial 1, 3) := by decide +kernel
theorem d7_4 : decode jdk_44_method_2_code 4 = .ok (.aload_n 0, 1) := by decide +kernel
theorem d7_5 : decode jdk_44_method_2_code 5 = .ok (.aload_n 1, 1) := by decide +kernel
theorem d7_6 : decode jdk_44_method_2_code 6 = .ok (.invokestatic 7, 3) := by decide +kernel
theorem d7_9 : decode jdk_44_method_2_code 9 = .ok (.putfield 13, 3) := by decide +kernel
theorem d7_12 : decode jdk_44_method_2_code 12 = .ok (.aload_n 0, 1) := by decide +kernel
theorem d7_13 : decode jdk_44_method_2_code 13 = .ok (.aload_n 2, 1) := by decide +kernel
theorem d7_14 : decode jdk_44_method_2_code 14 = .ok (.invokestatic 7, 3) := by decide +kernel
theorem d7_17 : decode jdk_44_method_2_code 17 = .ok (.putfield 24, 3) := by decide +kernel
theorem d7_20 : decode jdk_44_method_2_code 20 = .ok (.return_, 1) := by decide +kernel
set_option maxRecDepth 65536 in
set_option maxHeartbeats 40000000 in
theorem rm_122 (l : Launch) (Z : State) (a0 : Array Value) (hw : ∀ d ∈ tables_1, d.before a0 Z = true) (ws : List Jvm.Cond) (a1 : Addr) (a2 : Addr) (a3 : Addr) (h0 : Heap) (n0 : Nat) (Z0 : n0 ≤ h0.size) (ge1 : n0 ≤ a1) (E1 : Exa Z h0 a1 "java/util/ImmutableCollections$List12") (F0 : Fld Z h0 a1 "java/util/ImmutableCollections$List12" "e0" "Ljava/lang/Object;" .null) (F1 : Fld Z h0 a1 "java/util/ImmutableCollections$List12" "e1" "Ljava/lang/Object;" .null) :
    MetFree l yn7 (head1 (Jvm.Cond.code yn7 jdk_44_method_2_code 3 none :: ws) ({ frames := 4, cells := 0, slots := 0, locals := 48 } : Room)) (fun a U => a = #[(.ref a1), (.ref a2), (.ref a3)] ∧ Z.Warmed39 U.vm ∧ U.heap = h0) (fun _ _ _ _ _ => True) (fun _ U o U' => ∃ v L, o = .returned v ∧ Q12 Z a1 a2 a3 h0 n0 v U'.heap L ∧ FrameEnd U o U' L ({ frames := 4, cells := 0, slots := 0, locals := 48 } : Room).cells ({ frames := 4, cells := 0, slots := 0, locals := 48 } : Room).slots) := by
 refine MetFree.of_bodySF (plainFor_of_name pn_java_util_ImmutableCollections_List12) hisR ?_
 intro p e s m args below meth c s₁ Bd hml0 hP hK
 obtain ⟨rfl, hZ, hh⟩ := hP
 have hx := Bd.exec
 have hby := Bd.bytes
 have hml : c.maxLocals = 3 := hml0
 have hown : s.vm.findClass "java/util/ImmutableCollections$List12" = some m.cls := findClass_of_methodNamed Bd.named
 have hnm := (name_of_methodNamed Bd.named Bd.method).1
 have X0 : Stand p l e ({ frames := 4, cells := 0, slots := 0, locals := 48 } : Room) s m #[(.ref a1), (.ref a2), (.ref a3)] below meth c s₁ [] 0 0 := Stand.of_body Bd
 have e0 : s₁.heap = h0 := by rw [← hh, Bd.state]; rfl
 have N0 := Fr.nil n0
 obtain ⟨A0, hA0⟩ : ∃ A, A = s₁.setTop (entryFrame m #[(.ref a1), (.ref a2), (.ref a3)] 3) := ⟨_, rfl⟩
 have R0 : ∀ tgt, Steps p.tables e below (s₁.setTop (mkF m 0 #[.val (.ref a1), .val (.ref a2), .val (.ref a3)] [])) tgt → Steps p.tables e below A0 tgt := fun tgt hgo => by rw [hA0]; exact castTop (ef_rm_122 m a1 a2 a3) hgo
 have w : ∀ (i : Nat) {d : Jvm.Cond}, tables_1[i]? = some d → d.before a0 Z = true := fun i d h => hw d (List.mem_of_getElem? h)
 have hZn := Z0
 have hK : Keep h0 h0 [a1] := Keep.refl _ _
 have R1 : Rc p e below A0 (s₁.setTop (mkF m 1 #[.val (.ref a1), .val (.ref a2), .val (.ref a3)] [(.ref a1)])) := by
   intro tgt hgo
   refine R0 tgt ?_
   show Steps p.tables e below (s₁.setTop (mkF m 0 #[.val (.ref a1), .val (.ref a2), .val (.ref a3)] [])) _
   refine XS.aloadN X0.here hx rfl (hb hby d7_0) rfl rfl ?_
   exact hgo
 obtain ⟨_, _, ⟨T2, L2, k2, n2⟩, -, X2, ⟨Lc2, hQ2, l2, y2, z2⟩, st2⟩ := X0.specialBack hx (y := yn4) rfl hown (mvT hZ (w 143 rfl)) (mvT hZ (w 64 rfl)) (mvT hZ (w 68 rfl)) (by decide) (backOf (W := 0) (rm_ail l Z a0 hw [] a1 h0 n0 hZn) hZ (w 68 rfl) (w 67 rfl) (by decide) (by decide)) (g := (mkF m 1 #[.val (.ref a1), .val (.ref a2), .val (.ref a3)] [(.ref a1)])) rfl (by rw [hml]; rfl) (Steps.refl _) (a := a1) (argsL := []) (rest := []) (lenOf pd_1 rfl) rfl (by show 2 * 0 + _ ≤ _; exact Nat.le_of_eq rfl) (hb hby d7_1) (fun _ _ => ⟨rfl, e0, (by decide : 0 + 0 ≤ _), (by decide : 0 + 0 ≤ _)⟩)
 dsimp only [Pt.U, Pt.locs, Pt.cells, Pt.slots] at X2 l2 y2 z2 st2 hQ2
 subst l2 y2 z2
 obtain ⟨rfl, N2q, e2⟩ := hQ2
 have N2 := Fr.app N0 N2q
 have R3 := Rc.tr R1 st2
 have R4 : Rc p e below A0 (T2.setTop (mkF m 6 #[.val (.ref a1), .val (.ref a2), .val (.ref a3)] [(.ref a2), (.ref a1)])) := by
   intro tgt hgo
   refine R3 tgt ?_
   show Steps p.tables e below (T2.setTop (mkF m 4 #[.val (.ref a1), .val (.ref a2), .val (.ref a3)] [])) _
   refine XS.aloadN X2.here hx rfl (hb hby d7_4) rfl rfl ?_
   refine XS.aloadN X2.here hx rfl (hb hby d7_5) rfl rfl ?_
   exact hgo
 obtain ⟨_, _, ⟨T5, L5, k5, n5⟩, -, X5, ⟨Lc5, hQ5, l5, y5, z5⟩, st5⟩ := Jvm.LawKit.callS X2 hx (y := yn5) hown (mvT hZ (w 147 rfl)) (mvT hZ (w 52 rfl)) (mvT hZ (w 53 rfl)) (mvT hZ (w 54 rfl)) (by decide) (backOf (W := 1) (rm_rn l Z a0 hw [] a2 h0 n0 hZn) hZ (w 54 rfl) (w 53 rfl) (by decide) (by decide)) (g := (mkF m 6 #[.val (.ref a1), .val (.ref a2), .val (.ref a3)] [(.ref a2), (.ref a1)])) rfl (by rw [hml]; rfl) (argsL := [(.ref a2)]) (rest := [(.ref a1)]) (lenOf pd_2 rfl) rfl (by show 2 * 0 + _ ≤ _; exact Nat.le_of_eq rfl) (hb hby d7_6) (fun _ _ => ⟨rfl, e2, (by decide : 0 + 0 ≤ _), (by decide : 0 + 0 ≤ _)⟩)
 dsimp only [Pt.U, Pt.locs, Pt.cells, Pt.slots] at X5 l5 y5 z5 st5 hQ5
 subst l5 y5 z5
 obtain ⟨rfl, N5q, e5⟩ := hQ5
 have N5 := Fr.app N2 N5q
 have R6 := Rc.st R4 st5
 obtain ⟨T7, h7, X7, e7, W7, st7⟩ := putF X5 hx hZ hown (host := "") (Or.inl (w 148 rfl)) Via.refl e5 F0 E1 (Or.inr ⟨(w 149 rfl), rfl, hnm⟩) (w 137 rfl) (ty := (.object "java/lang/Object")) (by decide) rfl rfl (g := (mkF m 9 #[.val (.ref a1), .val (.ref a2), .val (.ref a3)] [(.ref a2), (.ref a1)])) rfl rfl (hb hby d7_9)
 have N7 := Fr.snoc X7 N5 ge1
 replace hZn := Nat.le_trans hZn (Keep.of_wr W7).1
 replace hK := hK.wr W7 (Or.inl (List.mem_of_getElem? (i := 0) rfl))
 replace E1 := E1.wr W7
 replace F0 := F0.same W7
 replace F1 := F1.other W7 (Or.inr (slot_ne (Or.inr (w 151 rfl)) (Or.inr (w 149 rfl)) (by decide) (t := (.object "java/lang/Object")) (t' := (.object "java/lang/Object")) (by decide) (by decide)))
 have R8 := Rc.st R6 st7
 have R9 : Rc p e below A0 (T7.setTop (mkF m 14 #[.val (.ref a1), .val (.ref a2), .val (.ref a3)] [(.ref a3), (.ref a1)])) := by
   intro tgt hgo
   refine R8 tgt ?_
   show Steps p.tables e below (T7.setTop (mkF m 12 #[.val (.ref a1), .val (.ref a2), .val (.ref a3)] [])) _
   refine XS.aloadN X7.here hx rfl (hb hby d7_12) rfl rfl ?_
   refine XS.aloadN X7.here hx rfl (hb hby d7_13) rfl rfl ?_
   exact hgo
 obtain ⟨_, _, ⟨T10, L10, k10, n10⟩, -, X10, ⟨Lc10, hQ10, l10, y10, z10⟩, st10⟩ := Jvm.LawKit.callS X7 hx (y := yn5) hown (mvT hZ (w 147 rfl)) (mvT hZ (w 52 rfl)) (mvT hZ (w 53 rfl)) (mvT hZ (w 54 rfl)) (by decide) (backOf (W := 1) (rm_rn l Z a0 hw [] a3 h7 n0 hZn) hZ (w 54 rfl) (w 53 rfl) (by decide) (by decide)) (g := (mkF m 14 #[.val (.ref a1), .val (.ref a2), .val (.ref a3)] [(.ref a3), (.ref a1)])) rfl (by rw [hml]; rfl) (argsL := [(.ref a3)]) (rest := [(.ref a1)]) (lenOf pd_2 rfl) rfl (by show 2 * 0 + _ ≤ _; exact Nat.le_of_eq rfl) (hb hby d7_14) (fun _ _ => ⟨rfl, e7, (by decide : 0 + 0 ≤ _), (by decide : 0 + 0 ≤ _)⟩)
 dsimp only [Pt.U, Pt.locs, Pt.cells, Pt.slots] at X10 l10 y10 z10 st10 hQ10
 subst l10 y10 z10
 obtain ⟨rfl, N10q, e10⟩ := hQ10
 have N10 := Fr.app N7 N10q
 have R11 := Rc.st R9 st10
 obtain ⟨T12, h12, X12, e12, W12, st12⟩ := putF X10 hx hZ hown (host := "") (Or.inl (w 150 rfl)) Via.refl e10 F1 E1 (Or.inr ⟨(w 151 rfl), rfl, hnm⟩) (w 137 rfl) (ty := (.object "java/lang/Object")) (by decide) rfl rfl (g := (mkF m 17 #[.val (.ref a1), .val (.ref a2), .val (.ref a3)] [(.ref a3), (.ref a1)])) rfl rfl (hb hby d7_17)
 have N12 := Fr.snoc X12 N10 ge1
 replace hZn := Nat.le_trans hZn (Keep.of_wr W12).1
 replace hK := hK.wr W12 (Or.inl (List.mem_of_getElem? (i := 0) rfl))
 replace E1 := E1.wr W12
 replace F0 := F0.other W12 (Or.inr (slot_ne (Or.inr (w 149 rfl)) (Or.inr (w 151 rfl)) (by decide) (t := (.object "java/lang/Object")) (t' := (.object "java/lang/Object")) (by decide) (by decide)))
 replace F1 := F1.same W12
 have R13 := Rc.st R11 st12
 subst hA0
 obtain ⟨fs, hr, hrun, hended, hW, hsame⟩ := X12.leave (v := none) (fun _ => rfl)
 refine ⟨_, _, R13 _ ?_, hrun, hended, _, _, rfl, ?_, ⟨_, rfl⟩, hW, hsame.mono (by decide) (by decide)⟩
 ·show Steps p.tables e below (T12.setTop (mkF m 20 #[.val (.ref a1), .val (.ref a2), .val (.ref a3)] [])) _
  exact X12.returnOut hx Bd.returns (hb hby d7_20) hr
 ·show Q12 Z a1 a2 a3 h0 n0 _ T12.heap _
  rw [e12]
  exact ⟨rfl, N12, hK, F0, F1⟩
def Qln (Z : State) (a1 a2 : Addr) (h0 : Heap) (n0 : Nat) (v : Option Value) (h : Heap) (L : List Loc) : Prop := v = none ∧ Fr n0 L ∧ Keep h0 h [a1] ∧ Fld Z h a1 "java/util/ImmutableCollections$ListN" "elements" "[Ljava/lang/Object;" (.ref a2)
abbrev yn8 : MethodName := ⟨"java/util/ImmutableCollections$ListN", "<init>", "([Ljava/lang/Object;Z)V"⟩
theorem pn_java_util_ImmutableCollections_ListN : plainName "java/util/ImmutableCollections$ListN" = true := by first | (simp [plainName, overriddenIn]; done) | decide +kernel
theorem ef_rm_ln (m : MethodId) (a1 : Addr) (a2 : Addr) : entryFrame m #[(.ref a1), (.ref a2), (.int (0 : Int32))] 3 = mkF m 0 #[.val (.ref a1), .val (.ref a2), .val (.int (0 : Int32))] [] := by first | (simp [entryFrame, mkF, argsToLocals, Value.category]; done) | rfl
theorem d8_0 : decode jdk_45_method_1_code 0 = .ok (.aload_n 0, 1) := by decide +kernel
theorem d8_1 : decode jdk_45_method_1_code 1 = .ok (.invokespecial 1, 3) := by decide +kernel
theorem d8_4 : decode jdk_45_method_1_code 4 = .ok (.aload_n 0, 1) := by decide +kernel
theorem d8_5 : decode jdk_45_method_1_code 5 = .ok (.aload_n 1, 1) := by decide +kernel
theorem d8_6 : decode jdk_45_method_1_code 6 = .ok (.putfield 7, 3) := by decide +kernel
theorem d8_9 : decode jdk_45_method_1_code 9 = .ok (.aload_n 0, 1) := by decide +kernel
theorem d8_10 : decode jdk_45_method_1_code 10 = .ok (.iload_n 2, 1) := by decide +kernel
theorem d8_11 : decode jdk_45_method_1_code 11 = .ok (.putfield 13, 3) := by decide +kernel
theorem d8_14 : decode jdk_45_method_1_code 14 = .ok (.return_, 1) := by decide +kernel
set_option maxRecDepth 65536 in
set_option maxHeartbeats 40000000 in
theorem rm_ln (l : Launch) (Z : State) (a0 : Array Value) (hw : ∀ d ∈ tables_1, d.before a0 Z = true) (ws : List Jvm.Cond) (a1 : Addr) (a2 : Addr) (h0 : Heap) (n0 : Nat) (Z0 : n0 ≤ h0.size) (ge1 : n0 ≤ a1) (E1 : Exa Z h0 a1 "java/util/ImmutableCollections$ListN") (F0 : Fld Z h0 a1 "java/util/ImmutableCollections$ListN" "elements" "[Ljava/lang/Object;" .null) (F1 : Fld Z h0 a1 "java/util/ImmutableCollections$ListN" "allowNulls" "Z" (.int 0)) :
    MetFree l yn8 (head1 (Jvm.Cond.code yn8 jdk_45_method_1_code 3 none :: ws) ({ frames := 4, cells := 0, slots := 0, locals := 48 } : Room)) (fun a U => a = #[(.ref a1), (.ref a2), (.int (0 : Int32))] ∧ Z.Warmed39 U.vm ∧ U.heap = h0) (fun _ _ _ _ _ => True) (fun _ U o U' => ∃ v L, o = .returned v ∧ Qln Z a1 a2 h0 n0 v U'.heap L ∧ FrameEnd U o U' L ({ frames := 4, cells := 0, slots := 0, locals := 48 } : Room).cells ({ frames := 4, cells := 0, slots := 0, locals := 48 } : Room).slots) := by
 refine MetFree.of_bodySF (plainFor_of_name pn_java_util_ImmutableCollections_ListN) hisR ?_
 intro p e s m args below meth c s₁ Bd hml0 hP hK
 obtain ⟨rfl, hZ, hh⟩ := hP
 have hx := Bd.exec
 have hby := Bd.bytes
 have hml : c.maxLocals = 3 := hml0
 have hown : s.vm.findClass "java/util/ImmutableCollections$ListN" = some m.cls := findClass_of_methodNamed Bd.named
 have hnm := (name_of_methodNamed Bd.named Bd.method).1
 have X0 : Stand p l e ({ frames := 4, cells := 0, slots := 0, locals := 48 } : Room) s m #[(.ref a1), (.ref a2), (.int 0)] below meth c s₁ [] 0 0 := Stand.of_body Bd
 have e0 : s₁.heap = h0 := by rw [← hh, Bd.state]; rfl
 have N0 := Fr.nil n0
 obtain ⟨A0, hA0⟩ : ∃ A, A = s₁.setTop (entryFrame m #[(.ref a1), (.ref a2), (.int 0)] 3) := ⟨_, rfl⟩
 have R0 : ∀ tgt, Steps p.tables e below (s₁.setTop (mkF m 0 #[.val (.ref a1), .val (.ref a2), .val (.int 0)] [])) tgt → Steps p.tables e below A0 tgt := fun tgt hgo => by rw [hA0]; exact castTop (ef_rm_ln m a1 a2) hgo
 have w : ∀ (i : Nat) {d : Jvm.Cond}, tables_1[i]? = some d → d.before a0 Z = true := fun i d h => hw d (List.mem_of_getElem? h)
 have hZn := Z0
 have hK : Keep h0 h0 [a1] := Keep.refl _ _
 have R1 : Rc p e below A0 (s₁.setTop (mkF m 1 #[.val (.ref a1), .val (.ref a2), .val (.int 0)] [(.ref a1)])) := by
   intro tgt hgo
   refine R0 tgt ?_
   show Steps p.tables e below (s₁.setTop (mkF m 0 #[.val (.ref a1), .val (.ref a2), .val (.int 0)] [])) _
   refine XS.aloadN X0.here hx rfl (hb hby d8_0) rfl rfl ?_
   exact hgo
 obtain ⟨_, _, ⟨T2, L2, k2, n2⟩, -, X2, ⟨Lc2, hQ2, l2, y2, z2⟩, st2⟩ := X0.specialBack hx (y := yn4) rfl hown (mvT hZ (w 63 rfl)) (mvT hZ (w 64 rfl)) (mvT hZ (w 68 rfl)) (by decide) (backOf (W := 0) (rm_ail l Z a0 hw [] a1 h0 n0 hZn) hZ (w 68 rfl) (w 67 rfl) (by decide) (by decide)) (g := (mkF m 1 #[.val (.ref a1), .val (.ref a2), .val (.int 0)] [(.ref a1)])) rfl (by rw [hml]; rfl) (Steps.refl _) (a := a1) (argsL := []) (rest := []) (lenOf pd_1 rfl) rfl (by show 2 * 0 + _ ≤ _; exact Nat.le_of_eq rfl) (hb hby d8_1) (fun _ _ => ⟨rfl, e0, (by decide : 0 + 0 ≤ _), (by decide : 0 + 0 ≤ _)⟩)
 dsimp only [Pt.U, Pt.locs, Pt.cells, Pt.slots] at X2 l2 y2 z2 st2 hQ2
 subst l2 y2 z2
 obtain ⟨rfl, N2q, e2⟩ := hQ2
 have N2 := Fr.app N0 N2q
 have R3 := Rc.tr R1 st2
 have R4 : Rc p e below A0 (T2.setTop (mkF m 6 #[.val (.ref a1), .val (.ref a2), .val (.int 0)] [(.ref a2), (.ref a1)])) := by
   intro tgt hgo
   refine R3 tgt ?_
   show Steps p.tables e below (T2.setTop (mkF m 4 #[.val (.ref a1), .val (.ref a2), .val (.int 0)] [])) _
   refine XS.aloadN X2.here hx rfl (hb hby d8_4) rfl rfl ?_
   refine XS.aloadN X2.here hx rfl (hb hby d8_5) rfl rfl ?_
   exact hgo
 obtain ⟨T5, h5, X5, e5, W5, st5⟩ := putF X2 hx hZ hown (host := "") (Or.inl (w 82 rfl)) Via.refl e2 F0 E1 (Or.inr ⟨(w 83 rfl), rfl, hnm⟩) (w 57 rfl) (ty := (.array (.object "java/lang/Object"))) (by decide) rfl rfl (g := (mkF m 6 #[.val (.ref a1), .val (.ref a2), .val (.int 0)] [(.ref a2), (.ref a1)])) rfl rfl (hb hby d8_6)
 have N5 := Fr.snoc X5 N2 ge1
 replace hZn := Nat.le_trans hZn (Keep.of_wr W5).1
 replace hK := hK.wr W5 (Or.inl (List.mem_of_getElem? (i := 0) rfl))
 replace E1 := E1.wr W5
 replace F0 := F0.same W5
 replace F1 := F1.other W5 (Or.inr (slot_ne (Or.inr (w 85 rfl)) (Or.inr (w 83 rfl)) (by decide) (t := .boolean) (t' := (.array (.object "java/lang/Object"))) (by decide) (by decide)))
 have R6 := Rc.st R4 st5
 have R7 : Rc p e below A0 (T5.setTop (mkF m 11 #[.val (.ref a1), .val (.ref a2), .val (.int 0)] [(.int 0), (.ref a1)])) := by
   intro tgt hgo
   refine R6 tgt ?_
   show Steps p.tables e below (T5.setTop (mkF m 9 #[.val (.ref a1), .val (.ref a2), .val (.int 0)] [])) _
   refine XS.aloadN X5.here hx rfl (hb hby d8_9) rfl rfl ?_
   refine XS.iloadN X5.here hx rfl (hb hby d8_10) rfl ?_
   exact hgo
 obtain ⟨T8, h8, X8, e8, W8, st8⟩ := putFN X5 hx hZ hown (w 84 rfl) Via.refl e5 F1 E1 (Or.inr ⟨(w 85 rfl), rfl, hnm⟩) (w 57 rfl) (ty := .boolean) (v' := (.int 0)) (by decide) rfl (by decide) (g := (mkF m 11 #[.val (.ref a1), .val (.ref a2), .val (.int 0)] [(.int 0), (.ref a1)])) rfl rfl (hb hby d8_11)
 have N8 := Fr.snoc X8 N5 ge1
 replace hZn := Nat.le_trans hZn (Keep.of_wr W8).1
 replace hK := hK.wr W8 (Or.inl (List.mem_of_getElem? (i := 0) rfl))
 replace E1 := E1.wr W8
 replace F0 := F0.other W8 (Or.inr (slot_ne (Or.inr (w 83 rfl)) (Or.inr (w 85 rfl)) (by decide) (t := (.array (.object "java/lang/Object"))) (t' := .boolean) (by decide) (by decide)))
 replace F1 := F1.same W8
 have R9 := Rc.st R7 st8
 subst hA0
 obtain ⟨fs, hr, hrun, hended, hW, hsame⟩ := X8.leave (v := none) (fun _ => rfl)
 refine ⟨_, _, R9 _ ?_, hrun, hended, _, _, rfl, ?_, ⟨_, rfl⟩, hW, hsame.mono (by decide) (by decide)⟩
 ·show Steps p.tables e below (T8.setTop (mkF m 14 #[.val (.ref a1), .val (.ref a2), .val (.int 0)] [])) _
  exact X8.returnOut hx Bd.returns (hb hby d8_14) hr
 ·show Qln Z a1 a2 h0 n0 _ T8.heap _
  rw [e8]
  exact ⟨rfl, N8, hK, F0⟩
def Qls1 (Z : State) (s1 em : Addr) (h0 : Heap) (n0 : Nat) (v : Option Value) (h : Heap) (L : List Loc) : Prop := (∃ x : Addr, v = some (.ref x) ∧ h0.size ≤ x ∧ n0 ≤ x ∧ Exa Z h x "java/util/ImmutableCollections$List12" ∧ Fld Z h x "java/util/ImmutableCollections$List12" "e0" "Ljava/lang/Object;" (.ref s1) ∧ Fld Z h x "java/util/ImmutableCollections$List12" "e1" "Ljava/lang/Object;" (.ref em)) ∧ Fr n0 L ∧ Keep h0 h []
def Qls2 (Z : State) (s1 s2 : Addr) (h0 : Heap) (n0 : Nat) (v : Option Value) (h : Heap) (L : List Loc) : Prop := (∃ x : Addr, v = some (.ref x) ∧ h0.size ≤ x ∧ n0 ≤ x ∧ Exa Z h x "java/util/ImmutableCollections$List12" ∧ Fld Z h x "java/util/ImmutableCollections$List12" "e0" "Ljava/lang/Object;" (.ref s1) ∧ Fld Z h x "java/util/ImmutableCollections$List12" "e1" "Ljava/lang/Object;" (.ref s2)) ∧ Fr n0 L ∧ Keep h0 h []
def Qls3 (Z : State) (s1 s2 s3 : Addr) (h0 : Heap) (n0 : Nat) (v : Option Value) (h : Heap) (L : List Loc) : Prop := (∃ x : Addr, v = some (.ref x) ∧ h0.size ≤ x ∧ n0 ≤ x ∧ Exa Z h x "java/util/ImmutableCollections$ListN" ∧ ∃ (ea : Addr) (ke : ClassId), h0.size ≤ ea ∧ n0 ≤ ea ∧ x ≠ ea ∧ Fld Z h x "java/util/ImmutableCollections$ListN" "elements" "[Ljava/lang/Object;" (.ref ea) ∧ Arv Z h ea ke (.object "java/lang/Object") 3 [(.ref s1), (.ref s2), (.ref s3)] .null) ∧ Fr n0 L ∧ Keep h0 h []
abbrev yn9 : MethodName := ⟨"java/util/ImmutableCollections", "listFromArray", "([Ljava/lang/Object;)Ljava/util/List;"⟩
theorem pn_java_util_ImmutableCollections : plainName "java/util/ImmutableCollections" = true := by first | (simp [plainName, overriddenIn]; done) | decide +kernel
theorem ef_rm_lfa (m : MethodId) (a1 : Addr) : entryFrame m #[(.ref a1)] 3 = mkF m 0 #[.val (.ref a1), .unset, .unset] [] := by first | (simp [entryFrame, mkF, argsToLocals, Value.category]; done) | rfl
theorem d9_0 : decode jdk_56_method_4_code 0 = .ok (.aload_n 0, 1) := by decide +kernel
theorem d9_1 : decode jdk_56_method_4_code 1 = .ok (.arraylength, 1) := by decide +kernel
theorem d9_2 : decode jdk_56_method_4_code 2 = .ok (.anewarray 2, 3) := by decide +kernel
theorem d9_5 : decode jdk_56_method_4_code 5 = .ok (.astore_n 1, 1) := by decide +kernel
theorem d9_6 : decode jdk_56_method_4_code 6 = .ok (.iconst 0, 1) := by decide +kernel
theorem d9_7 : decode jdk_56_method_4_code 7 = .ok (.istore_n 2, 1) := by decide +kernel
theorem d9_8 : decode jdk_56_method_4_code 8 = .ok (.iload_n 2, 1) := by decide +kernel
theorem d9_9 : decode jdk_56_method_4_code 9 = .ok (.aload_n 0, 1) := by decide +kernel
theorem d9_10 : decode jdk_56_method_4_code 10 = .ok (.arraylength, 1) := by decide +kernel
theorem d9_11 : decode jdk_56_method_4_code 11 = .ok (.if_icmp .ge 18, 3) := by decide +kernel
theorem d9_14 : decode jdk_56_method_4_code 14 = .ok (.aload_n 1, 1) := by decide +kernel
theorem d9_15 : decode jdk_56_method_4_code 15 = .ok (.iload_n 2, 1) := by decide +kernel
theorem d9_16 : decode jdk_56_method_4_code 16 = .ok (.aload_n 0, 1) := by decide +kernel
theorem d9_17 : decode jdk_56_method_4_code 17 = .ok (.iload_n 2, 1) := by decide +kernel
theorem d9_18 : decode jdk_56_method_4_code 18 = .ok (.aaload, 1) := by decide +kernel
theorem d9_19 : decode jdk_56_method_4_code 19 = .ok (.invokestatic 37, 3) := by decide +kernel
theorem d9_22 : decode jdk_56_method_4_code 22 = .ok (.aastore, 1) := by decide +kernel
theorem d9_23 : decode jdk_56_method_4_code 23 = .ok (.iinc 2 1, 3) := by decide +kernel
theorem d9_26 : decode jdk_56_method_4_code 26 = .ok (.goto (-18), 3) := by decide +kernel
theorem d9_29 : decode jdk_56_method_4_code 29 = .ok (.new 12, 3) := by decide +kernel
theorem d9_32 : decode jdk_56_method_4_code 32 = .ok (.dup, 1) := by decide +kernel
theorem d9_33 : decode jdk_56_method_4_code 33 = .ok (.aload_n 1, 1) := by decide +kernel
theorem d9_34 : decode jdk_56_method_4_code 34 = .ok (.iconst 0, 1) := by decide +kernel
theorem d9_35 : decode jdk_56_method_4_code 35 = .ok (.invokespecial 43, 3) := by decide +kernel
theorem pd_3 : parseMethodDescriptor "([Ljava/lang/Object;Z)V" = some ⟨[(.array (.object "java/lang/Object")), .boolean], none⟩ := by decide +kernel
theorem d9_38 : decode jdk_56_method_4_code 38 = .ok (.areturn, 1) := by decide +kernel
set_option maxRecDepth 65536 in
set_option maxHeartbeats 40000000 in
theorem rm_lfa (l : Launch) (Z : State) (a0 : Array Value) (hw : ∀ d ∈ tables_1, d.before a0 Z = true) (ws : List Jvm.Cond) (a1 : Addr) (s1 s2 s3 : Addr) (ka : ClassId) (h0 : Heap) (n0 : Nat) (Z0 : n0 ≤ h0.size) (Va : Arv Z h0 a1 ka (.object "java/lang/String") (3 : Int32) [(.ref s1), (.ref s2), (.ref s3)] .null) (Es1 : Exa Z h0 s1 "java/lang/String") (Es2 : Exa Z h0 s2 "java/lang/String") (Es3 : Exa Z h0 s3 "java/lang/String") :
    MetFree l yn9 (head1 (Jvm.Cond.code yn9 jdk_56_method_4_code 3 (some (.object "java/util/List")) :: ws) ({ frames := 5, cells := 2, slots := 5, locals := 63 } : Room)) (fun a U => a = #[(.ref a1)] ∧ Z.Warmed39 U.vm ∧ U.heap = h0) (fun _ _ _ _ _ => True) (fun _ U o U' => ∃ v L, o = .returned v ∧ Qls3 Z s1 s2 s3 h0 n0 v U'.heap L ∧ FrameEnd U o U' L ({ frames := 5, cells := 2, slots := 5, locals := 63 } : Room).cells ({ frames := 5, cells := 2, slots := 5, locals := 63 } : Room).slots) := by
 refine MetFree.of_bodySF (plainFor_of_name pn_java_util_ImmutableCollections) hisR ?_
 intro p e s m args below meth c s₁ Bd hml0 hP hK
 obtain ⟨rfl, hZ, hh⟩ := hP
 have hx := Bd.exec
 have hby := Bd.bytes
 have hml : c.maxLocals = 3 := hml0
 have hown : s.vm.findClass "java/util/ImmutableCollections" = some m.cls := findClass_of_methodNamed Bd.named
 have hnm := (name_of_methodNamed Bd.named Bd.method).1
 have X0 : Stand p l e ({ frames := 5, cells := 2, slots := 5, locals := 63 } : Room) s m #[(.ref a1)] below meth c s₁ [] 0 0 := Stand.of_body Bd
 have e0 : s₁.heap = h0 := by rw [← hh, Bd.state]; rfl
 have N0 := Fr.nil n0
 obtain ⟨A0, hA0⟩ : ∃ A, A = s₁.setTop (entryFrame m #[(.ref a1)] 3) := ⟨_, rfl⟩
 have R0 : ∀ tgt, Steps p.tables e below (s₁.setTop (mkF m 0 #[.val (.ref a1), .unset, .unset] [])) tgt → Steps p.tables e below A0 tgt := fun tgt hgo => by rw [hA0]; exact castTop (ef_rm_lfa m a1) hgo
 have w : ∀ (i : Nat) {d : Jvm.Cond}, tables_1[i]? = some d → d.before a0 Z = true := fun i d h => hw d (List.mem_of_getElem? h)
 have hZn := Z0
 have hK : Keep h0 h0 [] := Keep.refl _ _
 have R1 : Rc p e below A0 (s₁.setTop (mkF m 1 #[.val (.ref a1), .unset, .unset] [(.ref a1)])) := by
   intro tgt hgo
   refine R0 tgt ?_
   show Steps p.tables e below (s₁.setTop (mkF m 0 #[.val (.ref a1), .unset, .unset] [])) _
   refine XS.aloadN X0.here hx rfl (hb hby d9_0) rfl rfl ?_
   exact hgo
 obtain ⟨cl2, Ar2, -, S2, Nn2, -, -⟩ := id Va
 have R3 : Rc p e below A0 (s₁.setTop (mkF m 2 #[.val (.ref a1), .unset, .unset] [(.int 3)])) := by
   intro tgt hgo
   refine R1 tgt ?_
   refine X0.arraylength hx (by rw [e0]; exact Ar2.1) (State.isArrayOf_alike hZ.alike Ar2.2.1) (g := (mkF m 1 #[.val (.ref a1), .unset, .unset] [(.ref a1)])) rfl rfl (hb hby d9_1) _ ?_
   rw [len_of S2 Nn2]
   exact hgo
 obtain ⟨T4, h4, k4, X4, e4, E4, A4, O4, st4⟩ := newR X0 hx hZ hown (w 49 rfl) (w 50 rfl) e0 (g := (mkF m 2 #[.val (.ref a1), .unset, .unset] [(.int 3)])) rfl (hb hby d9_2) rfl (by decide) (cap := 3) (by decide) (by decide) (by decide) (by decide)
 obtain ⟨la, g4⟩ : ∃ z, z = h0.size := ⟨_, rfl⟩
 rw [← g4] at A4 st4
 have ne_a1_la : a1 ≠ la := Nat.ne_of_lt (Nat.lt_of_lt_of_le Va.lt (Nat.le_of_eq g4.symm))
 have ne_s1_la : s1 ≠ la := Nat.ne_of_lt (Nat.lt_of_lt_of_le Es1.lt (Nat.le_of_eq g4.symm))
 have ne_s2_la : s2 ≠ la := Nat.ne_of_lt (Nat.lt_of_lt_of_le Es2.lt (Nat.le_of_eq g4.symm))
 have ne_s3_la : s3 ≠ la := Nat.ne_of_lt (Nat.lt_of_lt_of_le Es3.lt (Nat.le_of_eq g4.symm))
 have ge_la : n0 ≤ la := Nat.le_trans hZn (Nat.le_of_eq g4.symm)
 have sz_la : h0.size ≤ la := Nat.le_trans hK.1 (Nat.le_of_eq g4.symm)
 replace hZn := Nat.le_trans hZn E4.1
 replace hK := hK.ext E4
 replace Va := Va.ext E4
 replace Es1 := Es1.ext E4
 replace Es2 := Es2.ext E4
 replace Es3 := Es3.ext E4
 have V_la : Arv Z h4 la k4 (.object "java/lang/Object") (3 : Int32) [.null, .null, .null] .null := (Arv.new A4 (by decide)).pad (pad_rep [] .null 3)
 have R5 := Rc.st R3 st4
 have R6 : Rc p e below A0 (T4.setTop (mkF m 10 #[.val (.ref a1), .val (.ref la), .val (.int 0)] [(.ref a1), (.int 0)])) := by
   intro tgt hgo
   refine R5 tgt ?_
   show Steps p.tables e below (T4.setTop (mkF m 5 #[.val (.ref a1), .unset, .unset] [(.ref la)])) _
   refine XS.astoreN X4.here hx rfl (hb hby d9_5) rfl rfl (l' := #[.val (.ref a1), .val (.ref la), .unset]) rfl ?_
   refine XS.iconst X4.here hx rfl (hb hby d9_6) ?_
   refine XS.istoreN X4.here hx rfl (hb hby d9_7) rfl (l' := #[.val (.ref a1), .val (.ref la), .val (.int 0)]) rfl ?_
   refine XS.iloadN X4.here hx rfl (hb hby d9_8) rfl ?_
   refine XS.aloadN X4.here hx rfl (hb hby d9_9) rfl rfl ?_
   exact hgo
 obtain ⟨cl7, Ar7, -, S7, Nn7, -, -⟩ := id Va
 have R8 : Rc p e below A0 (T4.setTop (mkF m 11 #[.val (.ref a1), .val (.ref la), .val (.int 0)] [(.int 3), (.int 0)])) := by
   intro tgt hgo
   refine R6 tgt ?_
   refine X4.arraylength hx (by rw [e4]; exact Ar7.1) (State.isArrayOf_alike hZ.alike Ar7.2.1) (g := (mkF m 10 #[.val (.ref a1), .val (.ref la), .val (.int 0)] [(.ref a1), (.int 0)])) rfl rfl (hb hby d9_10) _ ?_
   rw [len_of S7 Nn7]
   exact hgo
 have R9 : Rc p e below A0 (T4.setTop (mkF m 18 #[.val (.ref a1), .val (.ref la), .val (.int 0)] [(.int 0), (.ref a1), (.int 0), (.ref la)])) := by
   intro tgt hgo
   refine R8 tgt ?_
   show Steps p.tables e below (T4.setTop (mkF m 11 #[.val (.ref a1), .val (.ref la), .val (.int 0)] [(.int 3), (.int 0)])) _
   refine XS.icmpNo X4.here hx rfl (hb hby d9_11) rfl (tlt (by decide : (0 : Int32) < (3 : Int32))).2.1 ?_
   refine XS.aloadN X4.here hx rfl (hb hby d9_14) rfl rfl ?_
   refine XS.iloadN X4.here hx rfl (hb hby d9_15) rfl ?_
   refine XS.aloadN X4.here hx rfl (hb hby d9_16) rfl rfl ?_
   refine XS.iloadN X4.here hx rfl (hb hby d9_17) rfl ?_
   exact hgo
 obtain ⟨cl10, Ar10, q10, S10, Nn10, H10, G10⟩ := id Va
 have hin10 : ¬ ((0 : Int32) < 0 ∨ cl10.slots.size ≤ ((0 : Int32)).toNatClampNeg) := inb_of S10 ⟨by decide, by decide⟩
 have hat10 : cl10.slots[((0 : Int32)).toNatClampNeg]? = some (.ref s1) := Has.at H10 hin10 rfl
 have R11 : Rc p e below A0 (T4.setTop (mkF m 19 #[.val (.ref a1), .val (.ref la), .val (.int 0)] [(.ref s1), (.int 0), (.ref la)])) := by
   intro tgt hgo
   refine R9 tgt ?_
   refine X4.aaload hx (j := (0 : Int32)) (v := (.ref s1)) (by rw [e4]; exact Ar10.1) (State.isArrayOf_alike hZ.alike Ar10.2.1) rfl Ar10.2.2 hin10 hat10 (g := (mkF m 18 #[.val (.ref a1), .val (.ref la), .val (.int 0)] [(.int 0), (.ref a1), (.int 0), (.ref la)])) rfl rfl (hb hby d9_18) _ ?_
   exact hgo
 obtain ⟨_, _, ⟨T12, L12, k12, n12⟩, -, X12, ⟨Lc12, hQ12, l12, y12, z12⟩, st12⟩ := Jvm.LawKit.callS X4 hx (y := yn5) hown (mvT hZ (w 51 rfl)) (mvT hZ (w 52 rfl)) (mvT hZ (w 53 rfl)) (mvT hZ (w 54 rfl)) (by decide) (backOf (W := 2) (rm_rn l Z a0 hw [] s1 h4 n0 hZn) hZ (w 54 rfl) (w 53 rfl) (by decide) (by decide)) (g := (mkF m 19 #[.val (.ref a1), .val (.ref la), .val (.int 0)] [(.ref s1), (.int 0), (.ref la)])) rfl (by rw [hml]; rfl) (argsL := [(.ref s1)]) (rest := [(.int 0), (.ref la)]) (lenOf pd_2 rfl) rfl (by show 2 * 0 + _ ≤ _; exact Nat.le_of_eq rfl) (hb hby d9_19) (fun _ _ => ⟨rfl, e4, (by decide : 1 + 0 ≤ _), (by decide : 3 + 0 ≤ _)⟩)
 dsimp only [Pt.U, Pt.locs, Pt.cells, Pt.slots] at X12 l12 y12 z12 st12 hQ12
 subst l12 y12 z12
 obtain ⟨rfl, N12q, e12⟩ := hQ12
 have N12 := Fr.app N0 N12q
 have R13 := Rc.st R11 st12
 obtain ⟨cl14, Ar14, q14, S14, Nn14, H14, G14⟩ := V_la
 have hin14 : ¬ ((0 : Int32) < 0 ∨ cl14.slots.size ≤ ((0 : Int32)).toNatClampNeg) := inb_of S14 ⟨by decide, by decide⟩
 obtain ⟨T14, h14, X14, e14, W14, st14⟩ := stR X12 hx hZ e12 Ar14 (j := (0 : Int32)) hin14 rfl (Sto.ofV Ar14 q14 O4 (Ins.of_exa Es1 (w 55 rfl))) (g := (mkF m 22 #[.val (.ref a1), .val (.ref la), .val (.int 0)] [(.ref s1), (.int 0), (.ref la)])) rfl rfl (hb hby d9_22)
 replace hZn := Nat.le_trans hZn (Keep.of_wr W14).1
 replace hK := hK.wr W14 (Or.inr sz_la)
 replace Va := Va.other W14 ne_a1_la
 replace Es1 := Es1.wr W14
 replace Es2 := Es2.wr W14
 replace Es3 := Es3.wr W14
 have V_la : Arv Z h14 la k4 (.object "java/lang/Object") (3 : Int32) [(.ref s1), .null, .null] .null := Arv.set Ar14 q14 S14 Nn14 H14 G14 rfl W14 0 rfl (Nat.le_of_ble_eq_true rfl)
 have N14 := Fr.snoc X14 N12 ge_la
 have R15 := Rc.st R13 st14
 have R16 : Rc p e below A0 (T14.setTop (mkF m 10 #[.val (.ref a1), .val (.ref la), .val (.int 1)] [(.ref a1), (.int 1)])) := by
   intro tgt hgo
   refine R15 tgt ?_
   show Steps p.tables e below (T14.setTop (mkF m 23 #[.val (.ref a1), .val (.ref la), .val (.int 0)] [])) _
   refine XS.iinc X14.here hx rfl (hb hby d9_23) rfl (l' := #[.val (.ref a1), .val (.ref la), .val (.int 1)]) rfl ?_
   refine XS.goto X14.here hx rfl (pc0 := 26) (pc' := 8) rfl (hb hby d9_26) (by decide) (by decide) ?_
   refine XS.iloadN X14.here hx rfl (hb hby d9_8) rfl ?_
   refine XS.aloadN X14.here hx rfl (hb hby d9_9) rfl rfl ?_
   exact hgo
 obtain ⟨cl17, Ar17, -, S17, Nn17, -, -⟩ := id Va
 have R18 : Rc p e below A0 (T14.setTop (mkF m 11 #[.val (.ref a1), .val (.ref la), .val (.int 1)] [(.int 3), (.int 1)])) := by
   intro tgt hgo
   refine R16 tgt ?_
   refine X14.arraylength hx (by rw [e14]; exact Ar17.1) (State.isArrayOf_alike hZ.alike Ar17.2.1) (g := (mkF m 10 #[.val (.ref a1), .val (.ref la), .val (.int 1)] [(.ref a1), (.int 1)])) rfl rfl (hb hby d9_10) _ ?_
   rw [len_of S17 Nn17]
   exact hgo
 have R19 : Rc p e below A0 (T14.setTop (mkF m 18 #[.val (.ref a1), .val (.ref la), .val (.int 1)] [(.int 1), (.ref a1), (.int 1), (.ref la)])) := by
   intro tgt hgo
   refine R18 tgt ?_
   show Steps p.tables e below (T14.setTop (mkF m 11 #[.val (.ref a1), .val (.ref la), .val (.int 1)] [(.int 3), (.int 1)])) _
   refine XS.icmpNo X14.here hx rfl (hb hby d9_11) rfl (tlt (by decide : (1 : Int32) < (3 : Int32))).2.1 ?_
   refine XS.aloadN X14.here hx rfl (hb hby d9_14) rfl rfl ?_
   refine XS.iloadN X14.here hx rfl (hb hby d9_15) rfl ?_
   refine XS.aloadN X14.here hx rfl (hb hby d9_16) rfl rfl ?_
   refine XS.iloadN X14.here hx rfl (hb hby d9_17) rfl ?_
   exact hgo
 obtain ⟨cl20, Ar20, q20, S20, Nn20, H20, G20⟩ := id Va
 have hin20 : ¬ ((1 : Int32) < 0 ∨ cl20.slots.size ≤ ((1 : Int32)).toNatClampNeg) := inb_of S20 ⟨by decide, by decide⟩
 have hat20 : cl20.slots[((1 : Int32)).toNatClampNeg]? = some (.ref s2) := Has.at H20 hin20 rfl
 have R21 : Rc p e below A0 (T14.setTop (mkF m 19 #[.val (.ref a1), .val (.ref la), .val (.int 1)] [(.ref s2), (.int 1), (.ref la)])) := by
   intro tgt hgo
   refine R19 tgt ?_
   refine X14.aaload hx (j := (1 : Int32)) (v := (.ref s2)) (by rw [e14]; exact Ar20.1) (State.isArrayOf_alike hZ.alike Ar20.2.1) rfl Ar20.2.2 hin20 hat20 (g := (mkF m 18 #[.val (.ref a1), .val (.ref la), .val (.int 1)] [(.int 1), (.ref a1), (.int 1), (.ref la)])) rfl rfl (hb hby d9_18) _ ?_
   exact hgo
 obtain ⟨_, _, ⟨T22, L22, k22, n22⟩, -, X22, ⟨Lc22, hQ22, l22, y22, z22⟩, st22⟩ := Jvm.LawKit.callS X14 hx (y := yn5) hown (mvT hZ (w 51 rfl)) (mvT hZ (w 52 rfl)) (mvT hZ (w 53 rfl)) (mvT hZ (w 54 rfl)) (by decide) (backOf (W := 2) (rm_rn l Z a0 hw [] s2 h14 n0 hZn) hZ (w 54 rfl) (w 53 rfl) (by decide) (by decide)) (g := (mkF m 19 #[.val (.ref a1), .val (.ref la), .val (.int 1)] [(.ref s2), (.int 1), (.ref la)])) rfl (by rw [hml]; rfl) (argsL := [(.ref s2)]) (rest := [(.int 1), (.ref la)]) (lenOf pd_2 rfl) rfl (by show 2 * 0 + _ ≤ _; exact Nat.le_of_eq rfl) (hb hby d9_19) (fun _ _ => ⟨rfl, e14, (by decide : 1 + 0 ≤ _), (by decide : 3 + 0 ≤ _)⟩)
 dsimp only [Pt.U, Pt.locs, Pt.cells, Pt.slots] at X22 l22 y22 z22 st22 hQ22
 subst l22 y22 z22
 obtain ⟨rfl, N22q, e22⟩ := hQ22
 have N22 := Fr.app N14 N22q
 have R23 := Rc.st R21 st22
 obtain ⟨cl24, Ar24, q24, S24, Nn24, H24, G24⟩ := V_la
 have hin24 : ¬ ((1 : Int32) < 0 ∨ cl24.slots.size ≤ ((1 : Int32)).toNatClampNeg) := inb_of S24 ⟨by decide, by decide⟩
 obtain ⟨T24, h24, X24, e24, W24, st24⟩ := stR X22 hx hZ e22 Ar24 (j := (1 : Int32)) hin24 rfl (Sto.ofV Ar24 q24 O4 (Ins.of_exa Es2 (w 55 rfl))) (g := (mkF m 22 #[.val (.ref a1), .val (.ref la), .val (.int 1)] [(.ref s2), (.int 1), (.ref la)])) rfl rfl (hb hby d9_22)
 replace hZn := Nat.le_trans hZn (Keep.of_wr W24).1
 replace hK := hK.wr W24 (Or.inr sz_la)
 replace Va := Va.other W24 ne_a1_la
 replace Es1 := Es1.wr W24
 replace Es2 := Es2.wr W24
 replace Es3 := Es3.wr W24
 have V_la : Arv Z h24 la k4 (.object "java/lang/Object") (3 : Int32) [(.ref s1), (.ref s2), .null] .null := Arv.set Ar24 q24 S24 Nn24 H24 G24 rfl W24 1 rfl (Nat.le_of_ble_eq_true rfl)
 have N24 := Fr.snoc X24 N22 ge_la
 have R25 := Rc.st R23 st24
 have R26 : Rc p e below A0 (T24.setTop (mkF m 10 #[.val (.ref a1), .val (.ref la), .val (.int 2)] [(.ref a1), (.int 2)])) := by
   intro tgt hgo
   refine R25 tgt ?_
   show Steps p.tables e below (T24.setTop (mkF m 23 #[.val (.ref a1), .val (.ref la), .val (.int 1)] [])) _
   refine XS.iinc X24.here hx rfl (hb hby d9_23) rfl (l' := #[.val (.ref a1), .val (.ref la), .val (.int 2)]) rfl ?_
   refine XS.goto X24.here hx rfl (pc0 := 26) (pc' := 8) rfl (hb hby d9_26) (by decide) (by decide) ?_
   refine XS.iloadN X24.here hx rfl (hb hby d9_8) rfl ?_
   refine XS.aloadN X24.here hx rfl (hb hby d9_9) rfl rfl ?_
   exact hgo
 obtain ⟨cl27, Ar27, -, S27, Nn27, -, -⟩ := id Va
 have R28 : Rc p e below A0 (T24.setTop (mkF m 11 #[.val (.ref a1), .val (.ref la), .val (.int 2)] [(.int 3), (.int 2)])) := by
   intro tgt hgo
   refine R26 tgt ?_
   refine X24.arraylength hx (by rw [e24]; exact Ar27.1) (State.isArrayOf_alike hZ.alike Ar27.2.1) (g := (mkF m 10 #[.val (.ref a1), .val (.ref la), .val (.int 2)] [(.ref a1), (.int 2)])) rfl rfl (hb hby d9_10) _ ?_
   rw [len_of S27 Nn27]
   exact hgo
 have R29 : Rc p e below A0 (T24.setTop (mkF m 18 #[.val (.ref a1), .val (.ref la), .val (.int 2)] [(.int 2), (.ref a1), (.int 2), (.ref la)])) := by
   intro tgt hgo
   refine R28 tgt ?_
   show Steps p.tables e below (T24.setTop (mkF m 11 #[.val (.ref a1), .val (.ref la), .val (.int 2)] [(.int 3), (.int 2)])) _
   refine XS.icmpNo X24.here hx rfl (hb hby d9_11) rfl (tlt (by decide : (2 : Int32) < (3 : Int32))).2.1 ?_
   refine XS.aloadN X24.here hx rfl (hb hby d9_14) rfl rfl ?_
   refine XS.iloadN X24.here hx rfl (hb hby d9_15) rfl ?_
   refine XS.aloadN X24.here hx rfl (hb hby d9_16) rfl rfl ?_
   refine XS.iloadN X24.here hx rfl (hb hby d9_17) rfl ?_
   exact hgo
 obtain ⟨cl30, Ar30, q30, S30, Nn30, H30, G30⟩ := id Va
 have hin30 : ¬ ((2 : Int32) < 0 ∨ cl30.slots.size ≤ ((2 : Int32)).toNatClampNeg) := inb_of S30 ⟨by decide, by decide⟩
 have hat30 : cl30.slots[((2 : Int32)).toNatClampNeg]? = some (.ref s3) := Has.at H30 hin30 rfl
 have R31 : Rc p e below A0 (T24.setTop (mkF m 19 #[.val (.ref a1), .val (.ref la), .val (.int 2)] [(.ref s3), (.int 2), (.ref la)])) := by
   intro tgt hgo
   refine R29 tgt ?_
   refine X24.aaload hx (j := (2 : Int32)) (v := (.ref s3)) (by rw [e24]; exact Ar30.1) (State.isArrayOf_alike hZ.alike Ar30.2.1) rfl Ar30.2.2 hin30 hat30 (g := (mkF m 18 #[.val (.ref a1), .val (.ref la), .val (.int 2)] [(.int 2), (.ref a1), (.int 2), (.ref la)])) rfl rfl (hb hby d9_18) _ ?_
   exact hgo
 obtain ⟨_, _, ⟨T32, L32, k32, n32⟩, -, X32, ⟨Lc32, hQ32, l32, y32, z32⟩, st32⟩ := Jvm.LawKit.callS X24 hx (y := yn5) hown (mvT hZ (w 51 rfl)) (mvT hZ (w 52 rfl)) (mvT hZ (w 53 rfl)) (mvT hZ (w 54 rfl)) (by decide) (backOf (W := 2) (rm_rn l Z a0 hw [] s3 h24 n0 hZn) hZ (w 54 rfl) (w 53 rfl) (by decide) (by decide)) (g := (mkF m 19 #[.val (.ref a1), .val (.ref la), .val (.int 2)] [(.ref s3), (.int 2), (.ref la)])) rfl (by rw [hml]; rfl) (argsL := [(.ref s3)]) (rest := [(.int 2), (.ref la)]) (lenOf pd_2 rfl) rfl (by show 2 * 0 + _ ≤ _; exact Nat.le_of_eq rfl) (hb hby d9_19) (fun _ _ => ⟨rfl, e24, (by decide : 1 + 0 ≤ _), (by decide : 3 + 0 ≤ _)⟩)
 dsimp only [Pt.U, Pt.locs, Pt.cells, Pt.slots] at X32 l32 y32 z32 st32 hQ32
 subst l32 y32 z32
 obtain ⟨rfl, N32q, e32⟩ := hQ32
 have N32 := Fr.app N24 N32q
 have R33 := Rc.st R31 st32
 obtain ⟨cl34, Ar34, q34, S34, Nn34, H34, G34⟩ := V_la
 have hin34 : ¬ ((2 : Int32) < 0 ∨ cl34.slots.size ≤ ((2 : Int32)).toNatClampNeg) := inb_of S34 ⟨by decide, by decide⟩
 obtain ⟨T34, h34, X34, e34, W34, st34⟩ := stR X32 hx hZ e32 Ar34 (j := (2 : Int32)) hin34 rfl (Sto.ofV Ar34 q34 O4 (Ins.of_exa Es3 (w 55 rfl))) (g := (mkF m 22 #[.val (.ref a1), .val (.ref la), .val (.int 2)] [(.ref s3), (.int 2), (.ref la)])) rfl rfl (hb hby d9_22)
 replace hZn := Nat.le_trans hZn (Keep.of_wr W34).1
 replace hK := hK.wr W34 (Or.inr sz_la)
 replace Va := Va.other W34 ne_a1_la
 replace Es1 := Es1.wr W34
 replace Es2 := Es2.wr W34
 replace Es3 := Es3.wr W34
 have V_la : Arv Z h34 la k4 (.object "java/lang/Object") (3 : Int32) [(.ref s1), (.ref s2), (.ref s3)] .null := Arv.set Ar34 q34 S34 Nn34 H34 G34 rfl W34 2 rfl (Nat.le_of_ble_eq_true rfl)
 have N34 := Fr.snoc X34 N32 ge_la
 have R35 := Rc.st R33 st34
 have R36 : Rc p e below A0 (T34.setTop (mkF m 10 #[.val (.ref a1), .val (.ref la), .val (.int 3)] [(.ref a1), (.int 3)])) := by
   intro tgt hgo
   refine R35 tgt ?_
   show Steps p.tables e below (T34.setTop (mkF m 23 #[.val (.ref a1), .val (.ref la), .val (.int 2)] [])) _
   refine XS.iinc X34.here hx rfl (hb hby d9_23) rfl (l' := #[.val (.ref a1), .val (.ref la), .val (.int 3)]) rfl ?_
   refine XS.goto X34.here hx rfl (pc0 := 26) (pc' := 8) rfl (hb hby d9_26) (by decide) (by decide) ?_
   refine XS.iloadN X34.here hx rfl (hb hby d9_8) rfl ?_
   refine XS.aloadN X34.here hx rfl (hb hby d9_9) rfl rfl ?_
   exact hgo
 obtain ⟨cl37, Ar37, -, S37, Nn37, -, -⟩ := id Va
 have R38 : Rc p e below A0 (T34.setTop (mkF m 11 #[.val (.ref a1), .val (.ref la), .val (.int 3)] [(.int 3), (.int 3)])) := by
   intro tgt hgo
   refine R36 tgt ?_
   refine X34.arraylength hx (by rw [e34]; exact Ar37.1) (State.isArrayOf_alike hZ.alike Ar37.2.1) (g := (mkF m 10 #[.val (.ref a1), .val (.ref la), .val (.int 3)] [(.ref a1), (.int 3)])) rfl rfl (hb hby d9_10) _ ?_
   rw [len_of S37 Nn37]
   exact hgo
 have R39 : Rc p e below A0 (T34.setTop (mkF m 29 #[.val (.ref a1), .val (.ref la), .val (.int 3)] [])) := by
   intro tgt hgo
   refine R38 tgt ?_
   show Steps p.tables e below (T34.setTop (mkF m 11 #[.val (.ref a1), .val (.ref la), .val (.int 3)] [(.int 3), (.int 3)])) _
   refine XS.icmpYes X34.here hx rfl (pc0 := 11) (pc' := 29) rfl (hb hby d9_11) rfl (flt (by decide : ¬ ((3 : Int32) < (3 : Int32)))).2.1 (by decide) (by decide) ?_
   exact hgo
 obtain ⟨T40, h40, X40, e40, E40, A40, D40, -, st40⟩ := newO X34 hx hZ hown (w 56 rfl) (w 57 rfl) (w 58 rfl) e34 (g := (mkF m 29 #[.val (.ref a1), .val (.ref la), .val (.int 3)] [])) rfl (hb hby d9_29) (by decide) (by decide)
 obtain ⟨lx, g40⟩ : ∃ z, z = h34.size := ⟨_, rfl⟩
 rw [← g40] at A40 D40 st40
 have ne_a1_lx : a1 ≠ lx := Nat.ne_of_lt (Nat.lt_of_lt_of_le Va.lt (Nat.le_of_eq g40.symm))
 have ne_s1_lx : s1 ≠ lx := Nat.ne_of_lt (Nat.lt_of_lt_of_le Es1.lt (Nat.le_of_eq g40.symm))
 have ne_s2_lx : s2 ≠ lx := Nat.ne_of_lt (Nat.lt_of_lt_of_le Es2.lt (Nat.le_of_eq g40.symm))
 have ne_s3_lx : s3 ≠ lx := Nat.ne_of_lt (Nat.lt_of_lt_of_le Es3.lt (Nat.le_of_eq g40.symm))
 have ne_la_lx : la ≠ lx := Nat.ne_of_lt (Nat.lt_of_lt_of_le V_la.lt (Nat.le_of_eq g40.symm))
 have ge_lx : n0 ≤ lx := Nat.le_trans hZn (Nat.le_of_eq g40.symm)
 have sz_lx : h0.size ≤ lx := Nat.le_trans hK.1 (Nat.le_of_eq g40.symm)
 replace hZn := Nat.le_trans hZn E40.1
 replace hK := hK.ext E40
 replace Va := Va.ext E40
 replace Es1 := Es1.ext E40
 replace Es2 := Es2.ext E40
 replace Es3 := Es3.ext E40
 replace V_la := V_la.ext E40
 have E_lx := A40
 have F_elements_lx : Fld Z h40 lx "java/util/ImmutableCollections$ListN" "elements" "[Ljava/lang/Object;" .null := D40 (Or.inr (w 83 rfl)) (ty := (.array (.object "java/lang/Object"))) (by decide)
 have F_allowNulls_lx : Fld Z h40 lx "java/util/ImmutableCollections$ListN" "allowNulls" "Z" (.int 0) := D40 (Or.inr (w 85 rfl)) (ty := .boolean) (by decide)
 have R41 := Rc.st R39 st40
 have R42 : Rc p e below A0 (T40.setTop (mkF m 35 #[.val (.ref a1), .val (.ref la), .val (.int 3)] [(.int 0), (.ref la), (.ref lx), (.ref lx)])) := by
   intro tgt hgo
   refine R41 tgt ?_
   show Steps p.tables e below (T40.setTop (mkF m 32 #[.val (.ref a1), .val (.ref la), .val (.int 3)] [(.ref lx)])) _
   refine XS.dup X40.here hx rfl (hb hby d9_32) rfl rfl ?_
   refine XS.aloadN X40.here hx rfl (hb hby d9_33) rfl rfl ?_
   refine XS.iconst X40.here hx rfl (hb hby d9_34) ?_
   exact hgo
 obtain ⟨_, _, ⟨T43, L43, k43, n43⟩, -, X43, ⟨Lc43, hQ43, l43, y43, z43⟩, st43⟩ := X40.specialBackNest hx (y := yn8) rfl hown (own_mvM hZ (w 59 rfl)) (mvT hZ (w 60 rfl)) (mvT hZ (w 62 rfl)) (by decide) (backOf (W := 1) (rm_ln l Z a0 hw [] lx la h40 n0 hZn ge_lx E_lx F_elements_lx F_allowNulls_lx) hZ (w 62 rfl) (w 58 rfl) (by decide) (by decide)) (g := (mkF m 35 #[.val (.ref a1), .val (.ref la), .val (.int 3)] [(.int 0), (.ref la), (.ref lx), (.ref lx)])) rfl (by rw [hml]; rfl) (Steps.refl _) (a := lx) (argsL := [(.ref la), (.int 0)]) (rest := [(.ref lx)]) (lenOf pd_3 rfl) rfl (by show 2 * 0 + _ ≤ _; exact Nat.le_of_eq rfl) (hb hby d9_35) (fun _ _ => ⟨rfl, e40, (by decide : 2 + 0 ≤ _), (by decide : 5 + 0 ≤ _)⟩)
 dsimp only [Pt.U, Pt.locs, Pt.cells, Pt.slots] at X43 l43 y43 z43 st43 hQ43
 subst l43 y43 z43
 obtain ⟨rfl, N43q, K43, Fe⟩ := hQ43
 have N43 := Fr.app N34 N43q
 have R44 := Rc.tr R42 st43
 replace hZn := Nat.le_trans hZn K43.1
 replace hK := hK.trans K43 (allS (Or.inr sz_lx) all0)
 replace Va := Va.keep K43 (ninS ne_a1_lx nin0)
 replace Es1 := Es1.keep K43
 replace Es2 := Es2.keep K43
 replace Es3 := Es3.keep K43
 replace V_la := V_la.keep K43 (ninS ne_la_lx nin0)
 replace E_lx := E_lx.keep K43
 subst hA0
 obtain ⟨fs, hr, hrun, hended, hW, hsame⟩ := X43.leave (v := some (.ref lx)) (fun h => by rw [Bd.returns] at h; cases h)
 refine ⟨_, _, R44 _ ?_, hrun, hended, _, _, rfl, ?_, ⟨_, rfl⟩, hW, hsame.mono (by decide) (by decide)⟩
 ·show Steps p.tables e below (T43.setTop (mkF m 38 #[.val (.ref a1), .val (.ref la), .val (.int 3)] [(.ref lx)])) _
  jvm_step X43.here [X43.here.top, hx, (hb hby d9_38), X43.method', Bd.returns, Value.isRef, FieldType.isReference]
  first | (intro acts; rw [hr _ acts rfl rfl rfl]) | rw [hr _ _ rfl rfl rfl]
  exact Steps.refl _
 ·show Qls3 Z s1 s2 s3 h0 n0 _ T43.heap _
  exact ⟨⟨lx, rfl, sz_lx, ge_lx, E_lx, la, _, sz_la, ge_la, Ne.symm ne_la_lx, Fe, V_la⟩, N43, hK⟩
abbrev yn10 : MethodName := ⟨"java/util/List", "of", "([Ljava/lang/Object;)Ljava/util/List;"⟩
theorem pn_java_util_List : plainName "java/util/List" = true := by first | (simp [plainName, overriddenIn]; done) | decide +kernel
theorem ef_rm_of0 (m : MethodId) (a1 : Addr) : entryFrame m #[(.ref a1)] 2 = mkF m 0 #[.val (.ref a1), .unset] [] := by first | (simp [entryFrame, mkF, argsToLocals, Value.category]; done) | rfl
theorem d10_0 : decode jdk_40_method_47_code 0 = .ok (.aload_n 0, 1) := by decide +kernel
theorem d10_1 : decode jdk_40_method_47_code 1 = .ok (.arraylength, 1) := by decide +kernel
theorem d10_2 : decode jdk_40_method_47_code 2 = .ok (.tableswitch 57 0 2 #[26, 32, 43], 26) := by decide +kernel
theorem d10_28 : decode jdk_40_method_47_code 28 = .ok (.getstatic 90, 3) := by decide +kernel
theorem d10_31 : decode jdk_40_method_47_code 31 = .ok (.astore_n 1, 1) := by decide +kernel
theorem d10_32 : decode jdk_40_method_47_code 32 = .ok (.aload_n 1, 1) := by decide +kernel
theorem d10_33 : decode jdk_40_method_47_code 33 = .ok (.areturn, 1) := by decide +kernel
set_option maxRecDepth 65536 in
set_option maxHeartbeats 40000000 in
theorem rm_of0 (l : Launch) (Z : State) (a0 : Array Value) (hw : ∀ d ∈ tables_1, d.before a0 Z = true) (ws : List Jvm.Cond) (a1 : Addr) (el : Addr) (ka : ClassId) (h0 : Heap) (n0 : Nat) (Z0 : n0 ≤ h0.size) (X00 : Old Z n0 h0) (S_el : Sta Z Z.heap "java/util/ImmutableCollections" "EMPTY_LIST" "Ljava/util/ImmutableCollections$ListN;" (.ref el)) (Va : Arv Z h0 a1 ka (.object "java/lang/String") (0 : Int32) [] .null) :
    MetFree l yn10 (head1 (Jvm.Cond.code yn10 jdk_40_method_47_code 2 (some (.object "java/util/List")) :: ws) ({ frames := 0, cells := 0, slots := 0, locals := 0 } : Room)) (fun a U => a = #[(.ref a1)] ∧ Z.Warmed39 U.vm ∧ U.heap = h0) (fun _ _ _ _ _ => True) (fun _ U o U' => ∃ v L, o = .returned v ∧ Qr el h0 n0 v U'.heap L ∧ FrameEnd U o U' L ({ frames := 0, cells := 0, slots := 0, locals := 0 } : Room).cells ({ frames := 0, cells := 0, slots := 0, locals := 0 } : Room).slots) := by
 refine MetFree.of_bodySF (plainFor_of_name pn_java_util_List) hisR ?_
 intro p e s m args below meth c s₁ Bd hml0 hP hK
 obtain ⟨rfl, hZ, hh⟩ := hP
 have hx := Bd.exec
 have hby := Bd.bytes
 have hml : c.maxLocals = 2 := hml0
 have hown : s.vm.findClass "java/util/List" = some m.cls := findClass_of_methodNamed Bd.named
 have hnm := (name_of_methodNamed Bd.named Bd.method).1
 have X0 : Stand p l e ({ frames := 0, cells := 0, slots := 0, locals := 0 } : Room) s m #[(.ref a1)] below meth c s₁ [] 0 0 := Stand.of_body Bd
 have e0 : s₁.heap = h0 := by rw [← hh, Bd.state]; rfl
 have N0 := Fr.nil n0
 obtain ⟨A0, hA0⟩ : ∃ A, A = s₁.setTop (entryFrame m #[(.ref a1)] 2) := ⟨_, rfl⟩
 have R0 : ∀ tgt, Steps p.tables e below (s₁.setTop (mkF m 0 #[.val (.ref a1), .unset] [])) tgt → Steps p.tables e below A0 tgt := fun tgt hgo => by rw [hA0]; exact castTop (ef_rm_of0 m a1) hgo
 have w : ∀ (i : Nat) {d : Jvm.Cond}, tables_1[i]? = some d → d.before a0 Z = true := fun i d h => hw d (List.mem_of_getElem? h)
 have R1 : Rc p e below A0 (s₁.setTop (mkF m 1 #[.val (.ref a1), .unset] [(.ref a1)])) := by
   intro tgt hgo
   refine R0 tgt ?_
   show Steps p.tables e below (s₁.setTop (mkF m 0 #[.val (.ref a1), .unset] [])) _
   refine XS.aloadN X0.here hx rfl (hb hby d10_0) rfl rfl ?_
   exact hgo
 obtain ⟨cl2, Ar2, -, S2, Nn2, -, -⟩ := id Va
 have R3 : Rc p e below A0 (s₁.setTop (mkF m 2 #[.val (.ref a1), .unset] [(.int 0)])) := by
   intro tgt hgo
   refine R1 tgt ?_
   refine X0.arraylength hx (by rw [e0]; exact Ar2.1) (State.isArrayOf_alike hZ.alike Ar2.2.1) (g := (mkF m 1 #[.val (.ref a1), .unset] [(.ref a1)])) rfl rfl (hb hby d10_1) _ ?_
   rw [len_of S2 Nn2]
   exact hgo
 have R4 : Rc p e below A0 (s₁.setTop (mkF m 28 #[.val (.ref a1), .unset] [])) := by
   intro tgt hgo
   refine R3 tgt ?_
   show Steps p.tables e below (s₁.setTop (mkF m 2 #[.val (.ref a1), .unset] [(.int 0)])) _
   refine XS.tswIn X0.here hx rfl (pc0 := 2) (pc' := 28) rfl (hb hby d10_2) rfl (by decide) rfl (by decide) (by decide) ?_
   exact hgo
 obtain ⟨T5, X5, e5, st5⟩ := getS2 X0 hx hZ hown (host := "") (Or.inl (w 132 rfl)) Via.refl e0 (S_el.ext X00.2) (g := (mkF m 28 #[.val (.ref a1), .unset] [])) rfl (hb hby d10_28)
 have R6 := Rc.st R4 st5
 have R7 : Rc p e below A0 (T5.setTop (mkF m 33 #[.val (.ref a1), .val (.ref el)] [(.ref el)])) := by
   intro tgt hgo
   refine R6 tgt ?_
   show Steps p.tables e below (T5.setTop (mkF m 31 #[.val (.ref a1), .unset] [(.ref el)])) _
   refine XS.astoreN X5.here hx rfl (hb hby d10_31) rfl rfl (l' := #[.val (.ref a1), .val (.ref el)]) rfl ?_
   refine XS.aloadN X5.here hx rfl (hb hby d10_32) rfl rfl ?_
   exact hgo
 subst hA0
 obtain ⟨fs, hr, hrun, hended, hW, hsame⟩ := X5.leave (v := some (.ref el)) (fun h => by rw [Bd.returns] at h; cases h)
 refine ⟨_, _, R7 _ ?_, hrun, hended, _, _, rfl, ?_, ⟨_, rfl⟩, hW, hsame.mono (by decide) (by decide)⟩
 ·show Steps p.tables e below (T5.setTop (mkF m 33 #[.val (.ref a1), .val (.ref el)] [(.ref el)])) _
  jvm_step X5.here [X5.here.top, hx, (hb hby d10_33), X5.method', Bd.returns, Value.isRef, FieldType.isReference]
  first | (intro acts; rw [hr _ acts rfl rfl rfl]) | rw [hr _ _ rfl rfl rfl]
  exact Steps.refl _
 ·show Qr el h0 n0 _ T5.heap _
  rw [e5]
  exact ⟨rfl, N0, rfl⟩
theorem ef_rm_of1 (m : MethodId) (a1 : Addr) : entryFrame m #[(.ref a1)] 2 = mkF m 0 #[.val (.ref a1), .unset] [] := by first | (simp [entryFrame, mkF, argsToLocals, Value.category]; done) | rfl
theorem d10_34 : decode jdk_40_method_47_code 34 = .ok (.new 96, 3) := by decide +kernel
theorem d10_37 : decode jdk_40_method_47_code 37 = .ok (.dup, 1) := by decide +kernel
theorem d10_38 : decode jdk_40_method_47_code 38 = .ok (.aload_n 0, 1) := by decide +kernel
theorem d10_39 : decode jdk_40_method_47_code 39 = .ok (.iconst 0, 1) := by decide +kernel
theorem d10_40 : decode jdk_40_method_47_code 40 = .ok (.aaload, 1) := by decide +kernel
theorem d10_41 : decode jdk_40_method_47_code 41 = .ok (.invokespecial 98, 3) := by decide +kernel
theorem pd_4 : parseMethodDescriptor "(Ljava/lang/Object;)V" = some ⟨[(.object "java/lang/Object")], none⟩ := by decide +kernel
theorem d10_44 : decode jdk_40_method_47_code 44 = .ok (.areturn, 1) := by decide +kernel
set_option maxRecDepth 65536 in
set_option maxHeartbeats 40000000 in
theorem rm_of1 (l : Launch) (Z : State) (a0 : Array Value) (hw : ∀ d ∈ tables_1, d.before a0 Z = true) (ws : List Jvm.Cond) (a1 : Addr) (s1 em : Addr) (ka : ClassId) (h0 : Heap) (n0 : Nat) (Z0 : n0 ≤ h0.size) (X00 : Old Z n0 h0) (S_em : Sta Z Z.heap "java/util/ImmutableCollections" "EMPTY" "Ljava/lang/Object;" (.ref em)) (Va : Arv Z h0 a1 ka (.object "java/lang/String") (1 : Int32) [(.ref s1)] .null) (Es1 : Exa Z h0 s1 "java/lang/String") :
    MetFree l yn10 (head1 (Jvm.Cond.code yn10 jdk_40_method_47_code 2 (some (.object "java/util/List")) :: ws) ({ frames := 5, cells := 1, slots := 2, locals := 62 } : Room)) (fun a U => a = #[(.ref a1)] ∧ Z.Warmed39 U.vm ∧ U.heap = h0) (fun _ _ _ _ _ => True) (fun _ U o U' => ∃ v L, o = .returned v ∧ Qls1 Z s1 em h0 n0 v U'.heap L ∧ FrameEnd U o U' L ({ frames := 5, cells := 1, slots := 2, locals := 62 } : Room).cells ({ frames := 5, cells := 1, slots := 2, locals := 62 } : Room).slots) := by
 refine MetFree.of_bodySF (plainFor_of_name pn_java_util_List) hisR ?_
 intro p e s m args below meth c s₁ Bd hml0 hP hK
 obtain ⟨rfl, hZ, hh⟩ := hP
 have hx := Bd.exec
 have hby := Bd.bytes
 have hml : c.maxLocals = 2 := hml0
 have hown : s.vm.findClass "java/util/List" = some m.cls := findClass_of_methodNamed Bd.named
 have hnm := (name_of_methodNamed Bd.named Bd.method).1
 have X0 : Stand p l e ({ frames := 5, cells := 1, slots := 2, locals := 62 } : Room) s m #[(.ref a1)] below meth c s₁ [] 0 0 := Stand.of_body Bd
 have e0 : s₁.heap = h0 := by rw [← hh, Bd.state]; rfl
 have N0 := Fr.nil n0
 obtain ⟨A0, hA0⟩ : ∃ A, A = s₁.setTop (entryFrame m #[(.ref a1)] 2) := ⟨_, rfl⟩
 have R0 : ∀ tgt, Steps p.tables e below (s₁.setTop (mkF m 0 #[.val (.ref a1), .unset] [])) tgt → Steps p.tables e below A0 tgt := fun tgt hgo => by rw [hA0]; exact castTop (ef_rm_of1 m a1) hgo
 have w : ∀ (i : Nat) {d : Jvm.Cond}, tables_1[i]? = some d → d.before a0 Z = true := fun i d h => hw d (List.mem_of_getElem? h)
 have hZn := Z0
 have hK : Keep h0 h0 [] := Keep.refl _ _
 have hOld := X00
 have R1 : Rc p e below A0 (s₁.setTop (mkF m 1 #[.val (.ref a1), .unset] [(.ref a1)])) := by
   intro tgt hgo
   refine R0 tgt ?_
   show Steps p.tables e below (s₁.setTop (mkF m 0 #[.val (.ref a1), .unset] [])) _
   refine XS.aloadN X0.here hx rfl (hb hby d10_0) rfl rfl ?_
   exact hgo
 obtain ⟨cl2, Ar2, -, S2, Nn2, -, -⟩ := id Va
 have R3 : Rc p e below A0 (s₁.setTop (mkF m 2 #[.val (.ref a1), .unset] [(.int 1)])) := by
   intro tgt hgo
   refine R1 tgt ?_
   refine X0.arraylength hx (by rw [e0]; exact Ar2.1) (State.isArrayOf_alike hZ.alike Ar2.2.1) (g := (mkF m 1 #[.val (.ref a1), .unset] [(.ref a1)])) rfl rfl (hb hby d10_1) _ ?_
   rw [len_of S2 Nn2]
   exact hgo
 have R4 : Rc p e below A0 (s₁.setTop (mkF m 34 #[.val (.ref a1), .unset] [])) := by
   intro tgt hgo
   refine R3 tgt ?_
   show Steps p.tables e below (s₁.setTop (mkF m 2 #[.val (.ref a1), .unset] [(.int 1)])) _
   refine XS.tswIn X0.here hx rfl (pc0 := 2) (pc' := 34) rfl (hb hby d10_2) rfl (by decide) rfl (by decide) (by decide) ?_
   exact hgo
 obtain ⟨T5, h5, X5, e5, E5, A5, D5, -, st5⟩ := newO X0 hx hZ hown (w 136 rfl) (w 137 rfl) (w 138 rfl) e0 (g := (mkF m 34 #[.val (.ref a1), .unset] [])) rfl (hb hby d10_34) (by decide) (by decide)
 obtain ⟨lx, g5⟩ : ∃ z, z = h0.size := ⟨_, rfl⟩
 rw [← g5] at A5 D5 st5
 have ne_a1_lx : a1 ≠ lx := Nat.ne_of_lt (Nat.lt_of_lt_of_le Va.lt (Nat.le_of_eq g5.symm))
 have ne_s1_lx : s1 ≠ lx := Nat.ne_of_lt (Nat.lt_of_lt_of_le Es1.lt (Nat.le_of_eq g5.symm))
 have ge_lx : n0 ≤ lx := Nat.le_trans hZn (Nat.le_of_eq g5.symm)
 have sz_lx : h0.size ≤ lx := Nat.le_trans hK.1 (Nat.le_of_eq g5.symm)
 replace hZn := Nat.le_trans hZn E5.1
 replace hK := hK.ext E5
 replace hOld := hOld.ext E5
 replace Va := Va.ext E5
 replace Es1 := Es1.ext E5
 have E_lx := A5
 have F_e0_lx : Fld Z h5 lx "java/util/ImmutableCollections$List12" "e0" "Ljava/lang/Object;" .null := D5 (Or.inr (w 149 rfl)) (ty := (.object "java/lang/Object")) (by decide)
 have F_e1_lx : Fld Z h5 lx "java/util/ImmutableCollections$List12" "e1" "Ljava/lang/Object;" .null := D5 (Or.inr (w 151 rfl)) (ty := (.object "java/lang/Object")) (by decide)
 have R6 := Rc.st R4 st5
 have R7 : Rc p e below A0 (T5.setTop (mkF m 40 #[.val (.ref a1), .unset] [(.int 0), (.ref a1), (.ref lx), (.ref lx)])) := by
   intro tgt hgo
   refine R6 tgt ?_
   show Steps p.tables e below (T5.setTop (mkF m 37 #[.val (.ref a1), .unset] [(.ref lx)])) _
   refine XS.dup X5.here hx rfl (hb hby d10_37) rfl rfl ?_
   refine XS.aloadN X5.here hx rfl (hb hby d10_38) rfl rfl ?_
   refine XS.iconst X5.here hx rfl (hb hby d10_39) ?_
   exact hgo
 obtain ⟨cl8, Ar8, q8, S8, Nn8, H8, G8⟩ := id Va
 have hin8 : ¬ ((0 : Int32) < 0 ∨ cl8.slots.size ≤ ((0 : Int32)).toNatClampNeg) := inb_of S8 ⟨by decide, by decide⟩
 have hat8 : cl8.slots[((0 : Int32)).toNatClampNeg]? = some (.ref s1) := Has.at H8 hin8 rfl
 have R9 : Rc p e below A0 (T5.setTop (mkF m 41 #[.val (.ref a1), .unset] [(.ref s1), (.ref lx), (.ref lx)])) := by
   intro tgt hgo
   refine R7 tgt ?_
   refine X5.aaload hx (j := (0 : Int32)) (v := (.ref s1)) (by rw [e5]; exact Ar8.1) (State.isArrayOf_alike hZ.alike Ar8.2.1) rfl Ar8.2.2 hin8 hat8 (g := (mkF m 40 #[.val (.ref a1), .unset] [(.int 0), (.ref a1), (.ref lx), (.ref lx)])) rfl rfl (hb hby d10_40) _ ?_
   exact hgo
 obtain ⟨_, _, ⟨T10, L10, k10, n10⟩, -, X10, ⟨Lc10, hQ10, l10, y10, z10⟩, st10⟩ := X5.specialBack hx (y := yn6) rfl hown (mvT hZ (w 189 rfl)) (mvT hZ (w 190 rfl)) (mvT hZ (w 191 rfl)) (by decide) (backOf (W := 1) (rm_121 l Z a0 hw [] lx s1 em h5 n0 hZn ge_lx E_lx F_e0_lx F_e1_lx hOld S_em) hZ (w 191 rfl) (w 138 rfl) (by decide) (by decide)) (g := (mkF m 41 #[.val (.ref a1), .unset] [(.ref s1), (.ref lx), (.ref lx)])) rfl (by rw [hml]; rfl) (Steps.refl _) (a := lx) (argsL := [(.ref s1)]) (rest := [(.ref lx)]) (lenOf pd_4 rfl) rfl (by show 2 * 0 + _ ≤ _; exact Nat.le_of_eq rfl) (hb hby d10_41) (fun _ _ => ⟨rfl, e5, (by decide : 1 + 0 ≤ _), (by decide : 2 + 0 ≤ _)⟩)
 dsimp only [Pt.U, Pt.locs, Pt.cells, Pt.slots] at X10 l10 y10 z10 st10 hQ10
 subst l10 y10 z10
 obtain ⟨rfl, N10q, K10, Fe0, Fe1⟩ := hQ10
 have N10 := Fr.app N0 N10q
 have R11 := Rc.tr R9 st10
 replace hZn := Nat.le_trans hZn K10.1
 replace hK := hK.trans K10 (allS (Or.inr sz_lx) all0)
 replace hOld := hOld.keep K10 (allS ge_lx all0)
 replace Va := Va.keep K10 (ninS ne_a1_lx nin0)
 replace Es1 := Es1.keep K10
 replace E_lx := E_lx.keep K10
 subst hA0
 obtain ⟨fs, hr, hrun, hended, hW, hsame⟩ := X10.leave (v := some (.ref lx)) (fun h => by rw [Bd.returns] at h; cases h)
 refine ⟨_, _, R11 _ ?_, hrun, hended, _, _, rfl, ?_, ⟨_, rfl⟩, hW, hsame.mono (by decide) (by decide)⟩
 ·show Steps p.tables e below (T10.setTop (mkF m 44 #[.val (.ref a1), .unset] [(.ref lx)])) _
  jvm_step X10.here [X10.here.top, hx, (hb hby d10_44), X10.method', Bd.returns, Value.isRef, FieldType.isReference]
  first | (intro acts; rw [hr _ acts rfl rfl rfl]) | rw [hr _ _ rfl rfl rfl]
  exact Steps.refl _
 ·show Qls1 Z s1 em h0 n0 _ T10.heap _
  exact ⟨⟨lx, rfl, sz_lx, ge_lx, E_lx, Fe0, Fe1⟩, N10, hK⟩
theorem ef_rm_of2 (m : MethodId) (a1 : Addr) : entryFrame m #[(.ref a1)] 2 = mkF m 0 #[.val (.ref a1), .unset] [] := by first | (simp [entryFrame, mkF, argsToLocals, Value.category]; done) | rfl
theorem d10_45 : decode jdk_40_method_47_code 45 = .ok (.new 96, 3) := by decide +kernel
theorem d10_48 : decode jdk_40_method_47_code 48 = .ok (.dup, 1) := by decide +kernel
theorem d10_49 : decode jdk_40_method_47_code 49 = .ok (.aload_n 0, 1) := by decide +kernel
theorem d10_50 : decode jdk_40_method_47_code 50 = .ok (.iconst 0, 1) := by decide +kernel
theorem d10_51 : decode jdk_40_method_47_code 51 = .ok (.aaload, 1) := by decide +kernel
theorem d10_52 : decode jdk_40_method_47_code 52 = .ok (.aload_n 0, 1) := by decide +kernel
theorem d10_53 : decode jdk_40_method_47_code 53 = .ok (.iconst 1, 1) := by decide +kernel
theorem d10_54 : decode jdk_40_method_47_code 54 = .ok (.aaload, 1) := by decide +kernel
theorem d10_55 : decode jdk_40_method_47_code 55 = .ok (.invokespecial 100, 3) := by decide +kernel
theorem pd_5 : parseMethodDescriptor "(Ljava/lang/Object;Ljava/lang/Object;)V" = some ⟨[(.object "java/lang/Object"), (.object "java/lang/Object")], none⟩ := by decide +kernel
theorem d10_58 : decode jdk_40_method_47_code 58 = .ok (.areturn, 1) := by decide +kernel
set_option maxRecDepth 65536 in
set_option maxHeartbeats 40000000 in
theorem rm_of2 (l : Launch) (Z : State) (a0 : Array Value) (hw : ∀ d ∈ tables_1, d.before a0 Z = true) (ws : List Jvm.Cond) (a1 : Addr) (s1 s2 : Addr) (ka : ClassId) (h0 : Heap) (n0 : Nat) (Z0 : n0 ≤ h0.size) (Va : Arv Z h0 a1 ka (.object "java/lang/String") (2 : Int32) [(.ref s1), (.ref s2)] .null) (Es1 : Exa Z h0 s1 "java/lang/String") (Es2 : Exa Z h0 s2 "java/lang/String") :
    MetFree l yn10 (head1 (Jvm.Cond.code yn10 jdk_40_method_47_code 2 (some (.object "java/util/List")) :: ws) ({ frames := 5, cells := 1, slots := 2, locals := 63 } : Room)) (fun a U => a = #[(.ref a1)] ∧ Z.Warmed39 U.vm ∧ U.heap = h0) (fun _ _ _ _ _ => True) (fun _ U o U' => ∃ v L, o = .returned v ∧ Qls2 Z s1 s2 h0 n0 v U'.heap L ∧ FrameEnd U o U' L ({ frames := 5, cells := 1, slots := 2, locals := 63 } : Room).cells ({ frames := 5, cells := 1, slots := 2, locals := 63 } : Room).slots) := by
 refine MetFree.of_bodySF (plainFor_of_name pn_java_util_List) hisR ?_
 intro p e s m args below meth c s₁ Bd hml0 hP hK
 obtain ⟨rfl, hZ, hh⟩ := hP
 have hx := Bd.exec
 have hby := Bd.bytes
 have hml : c.maxLocals = 2 := hml0
 have hown : s.vm.findClass "java/util/List" = some m.cls := findClass_of_methodNamed Bd.named
 have hnm := (name_of_methodNamed Bd.named Bd.method).1
 have X0 : Stand p l e ({ frames := 5, cells := 1, slots := 2, locals := 63 } : Room) s m #[(.ref a1)] below meth c s₁ [] 0 0 := Stand.of_body Bd
 have e0 : s₁.heap = h0 := by rw [← hh, Bd.state]; rfl
 have N0 := Fr.nil n0
 obtain ⟨A0, hA0⟩ : ∃ A, A = s₁.setTop (entryFrame m #[(.ref a1)] 2) := ⟨_, rfl⟩
 have R0 : ∀ tgt, Steps p.tables e below (s₁.setTop (mkF m 0 #[.val (.ref a1), .unset] [])) tgt → Steps p.tables e below A0 tgt := fun tgt hgo => by rw [hA0]; exact castTop (ef_rm_of2 m a1) hgo
 have w : ∀ (i : Nat) {d : Jvm.Cond}, tables_1[i]? = some d → d.before a0 Z = true := fun i d h => hw d (List.mem_of_getElem? h)
 have hZn := Z0
 have hK : Keep h0 h0 [] := Keep.refl _ _
 have R1 : Rc p e below A0 (s₁.setTop (mkF m 1 #[.val (.ref a1), .unset] [(.ref a1)])) := by
   intro tgt hgo
   refine R0 tgt ?_
   show Steps p.tables e below (s₁.setTop (mkF m 0 #[.val (.ref a1), .unset] [])) _
   refine XS.aloadN X0.here hx rfl (hb hby d10_0) rfl rfl ?_
   exact hgo
 obtain ⟨cl2, Ar2, -, S2, Nn2, -, -⟩ := id Va
 have R3 : Rc p e below A0 (s₁.setTop (mkF m 2 #[.val (.ref a1), .unset] [(.int 2)])) := by
   intro tgt hgo
   refine R1 tgt ?_
   refine X0.arraylength hx (by rw [e0]; exact Ar2.1) (State.isArrayOf_alike hZ.alike Ar2.2.1) (g := (mkF m 1 #[.val (.ref a1), .unset] [(.ref a1)])) rfl rfl (hb hby d10_1) _ ?_
   rw [len_of S2 Nn2]
   exact hgo
 have R4 : Rc p e below A0 (s₁.setTop (mkF m 45 #[.val (.ref a1), .unset] [])) := by
   intro tgt hgo
   refine R3 tgt ?_
   show Steps p.tables e below (s₁.setTop (mkF m 2 #[.val (.ref a1), .unset] [(.int 2)])) _
   refine XS.tswIn X0.here hx rfl (pc0 := 2) (pc' := 45) rfl (hb hby d10_2) rfl (by decide) rfl (by decide) (by decide) ?_
   exact hgo
 obtain ⟨T5, h5, X5, e5, E5, A5, D5, -, st5⟩ := newO X0 hx hZ hown (w 136 rfl) (w 137 rfl) (w 138 rfl) e0 (g := (mkF m 45 #[.val (.ref a1), .unset] [])) rfl (hb hby d10_45) (by decide) (by decide)
 obtain ⟨lx, g5⟩ : ∃ z, z = h0.size := ⟨_, rfl⟩
 rw [← g5] at A5 D5 st5
 have ne_a1_lx : a1 ≠ lx := Nat.ne_of_lt (Nat.lt_of_lt_of_le Va.lt (Nat.le_of_eq g5.symm))
 have ne_s1_lx : s1 ≠ lx := Nat.ne_of_lt (Nat.lt_of_lt_of_le Es1.lt (Nat.le_of_eq g5.symm))
 have ne_s2_lx : s2 ≠ lx := Nat.ne_of_lt (Nat.lt_of_lt_of_le Es2.lt (Nat.le_of_eq g5.symm))
 have ge_lx : n0 ≤ lx := Nat.le_trans hZn (Nat.le_of_eq g5.symm)
 have sz_lx : h0.size ≤ lx := Nat.le_trans hK.1 (Nat.le_of_eq g5.symm)
 replace hZn := Nat.le_trans hZn E5.1
 replace hK := hK.ext E5
 replace Va := Va.ext E5
 replace Es1 := Es1.ext E5
 replace Es2 := Es2.ext E5
 have E_lx := A5
 have F_e0_lx : Fld Z h5 lx "java/util/ImmutableCollections$List12" "e0" "Ljava/lang/Object;" .null := D5 (Or.inr (w 149 rfl)) (ty := (.object "java/lang/Object")) (by decide)
 have F_e1_lx : Fld Z h5 lx "java/util/ImmutableCollections$List12" "e1" "Ljava/lang/Object;" .null := D5 (Or.inr (w 151 rfl)) (ty := (.object "java/lang/Object")) (by decide)
 have R6 := Rc.st R4 st5
 have R7 : Rc p e below A0 (T5.setTop (mkF m 51 #[.val (.ref a1), .unset] [(.int 0), (.ref a1), (.ref lx), (.ref lx)])) := by
   intro tgt hgo
   refine R6 tgt ?_
   show Steps p.tables e below (T5.setTop (mkF m 48 #[.val (.ref a1), .unset] [(.ref lx)])) _
   refine XS.dup X5.here hx rfl (hb hby d10_48) rfl rfl ?_
   refine XS.aloadN X5.here hx rfl (hb hby d10_49) rfl rfl ?_
   refine XS.iconst X5.here hx rfl (hb hby d10_50) ?_
   exact hgo
 obtain ⟨cl8, Ar8, q8, S8, Nn8, H8, G8⟩ := id Va
 have hin8 : ¬ ((0 : Int32) < 0 ∨ cl8.slots.size ≤ ((0 : Int32)).toNatClampNeg) := inb_of S8 ⟨by decide, by decide⟩
 have hat8 : cl8.slots[((0 : Int32)).toNatClampNeg]? = some (.ref s1) := Has.at H8 hin8 rfl
 have R9 : Rc p e below A0 (T5.setTop (mkF m 52 #[.val (.ref a1), .unset] [(.ref s1), (.ref lx), (.ref lx)])) := by
   intro tgt hgo
   refine R7 tgt ?_
   refine X5.aaload hx (j := (0 : Int32)) (v := (.ref s1)) (by rw [e5]; exact Ar8.1) (State.isArrayOf_alike hZ.alike Ar8.2.1) rfl Ar8.2.2 hin8 hat8 (g := (mkF m 51 #[.val (.ref a1), .unset] [(.int 0), (.ref a1), (.ref lx), (.ref lx)])) rfl rfl (hb hby d10_51) _ ?_
   exact hgo
 have R10 : Rc p e below A0 (T5.setTop (mkF m 54 #[.val (.ref a1), .unset] [(.int 1), (.ref a1), (.ref s1), (.ref lx), (.ref lx)])) := by
   intro tgt hgo
   refine R9 tgt ?_
   show Steps p.tables e below (T5.setTop (mkF m 52 #[.val (.ref a1), .unset] [(.ref s1), (.ref lx), (.ref lx)])) _
   refine XS.aloadN X5.here hx rfl (hb hby d10_52) rfl rfl ?_
   refine XS.iconst X5.here hx rfl (hb hby d10_53) ?_
   exact hgo
 obtain ⟨cl11, Ar11, q11, S11, Nn11, H11, G11⟩ := id Va
 have hin11 : ¬ ((1 : Int32) < 0 ∨ cl11.slots.size ≤ ((1 : Int32)).toNatClampNeg) := inb_of S11 ⟨by decide, by decide⟩
 have hat11 : cl11.slots[((1 : Int32)).toNatClampNeg]? = some (.ref s2) := Has.at H11 hin11 rfl
 have R12 : Rc p e below A0 (T5.setTop (mkF m 55 #[.val (.ref a1), .unset] [(.ref s2), (.ref s1), (.ref lx), (.ref lx)])) := by
   intro tgt hgo
   refine R10 tgt ?_
   refine X5.aaload hx (j := (1 : Int32)) (v := (.ref s2)) (by rw [e5]; exact Ar11.1) (State.isArrayOf_alike hZ.alike Ar11.2.1) rfl Ar11.2.2 hin11 hat11 (g := (mkF m 54 #[.val (.ref a1), .unset] [(.int 1), (.ref a1), (.ref s1), (.ref lx), (.ref lx)])) rfl rfl (hb hby d10_54) _ ?_
   exact hgo
 obtain ⟨_, _, ⟨T13, L13, k13, n13⟩, -, X13, ⟨Lc13, hQ13, l13, y13, z13⟩, st13⟩ := X5.specialBack hx (y := yn7) rfl hown (mvT hZ (w 139 rfl)) (mvT hZ (w 140 rfl)) (mvT hZ (w 142 rfl)) (by decide) (backOf (W := 1) (rm_122 l Z a0 hw [] lx s1 s2 h5 n0 hZn ge_lx E_lx F_e0_lx F_e1_lx) hZ (w 142 rfl) (w 138 rfl) (by decide) (by decide)) (g := (mkF m 55 #[.val (.ref a1), .unset] [(.ref s2), (.ref s1), (.ref lx), (.ref lx)])) rfl (by rw [hml]; rfl) (Steps.refl _) (a := lx) (argsL := [(.ref s1), (.ref s2)]) (rest := [(.ref lx)]) (lenOf pd_5 rfl) rfl (by show 2 * 0 + _ ≤ _; exact Nat.le_of_eq rfl) (hb hby d10_55) (fun _ _ => ⟨rfl, e5, (by decide : 1 + 0 ≤ _), (by decide : 2 + 0 ≤ _)⟩)
 dsimp only [Pt.U, Pt.locs, Pt.cells, Pt.slots] at X13 l13 y13 z13 st13 hQ13
 subst l13 y13 z13
 obtain ⟨rfl, N13q, K13, Fe0, Fe1⟩ := hQ13
 have N13 := Fr.app N0 N13q
 have R14 := Rc.tr R12 st13
 replace hZn := Nat.le_trans hZn K13.1
 replace hK := hK.trans K13 (allS (Or.inr sz_lx) all0)
 replace Va := Va.keep K13 (ninS ne_a1_lx nin0)
 replace Es1 := Es1.keep K13
 replace Es2 := Es2.keep K13
 replace E_lx := E_lx.keep K13
 subst hA0
 obtain ⟨fs, hr, hrun, hended, hW, hsame⟩ := X13.leave (v := some (.ref lx)) (fun h => by rw [Bd.returns] at h; cases h)
 refine ⟨_, _, R14 _ ?_, hrun, hended, _, _, rfl, ?_, ⟨_, rfl⟩, hW, hsame.mono (by decide) (by decide)⟩
 ·show Steps p.tables e below (T13.setTop (mkF m 58 #[.val (.ref a1), .unset] [(.ref lx)])) _
  jvm_step X13.here [X13.here.top, hx, (hb hby d10_58), X13.method', Bd.returns, Value.isRef, FieldType.isReference]
  first | (intro acts; rw [hr _ acts rfl rfl rfl]) | rw [hr _ _ rfl rfl rfl]
  exact Steps.refl _
 ·show Qls2 Z s1 s2 h0 n0 _ T13.heap _
  exact ⟨⟨lx, rfl, sz_lx, ge_lx, E_lx, Fe0, Fe1⟩, N13, hK⟩
theorem ef_rm_of3 (m : MethodId) (a1 : Addr) : entryFrame m #[(.ref a1)] 2 = mkF m 0 #[.val (.ref a1), .unset] [] := by first | (simp [entryFrame, mkF, argsToLocals, Value.category]; done) | rfl
theorem d10_59 : decode jdk_40_method_47_code 59 = .ok (.aload_n 0, 1) := by decide +kernel
theorem d10_60 : decode jdk_40_method_47_code 60 = .ok (.invokestatic 109, 3) := by decide +kernel
theorem pd_6 : parseMethodDescriptor "([Ljava/lang/Object;)Ljava/util/List;" = some ⟨[(.array (.object "java/lang/Object"))], some (.object "java/util/List")⟩ := by decide +kernel
theorem d10_63 : decode jdk_40_method_47_code 63 = .ok (.areturn, 1) := by decide +kernel
set_option maxRecDepth 65536 in
set_option maxHeartbeats 40000000 in
theorem rm_of3 (l : Launch) (Z : State) (a0 : Array Value) (hw : ∀ d ∈ tables_1, d.before a0 Z = true) (ws : List Jvm.Cond) (a1 : Addr) (s1 s2 s3 : Addr) (ka : ClassId) (h0 : Heap) (n0 : Nat) (Z0 : n0 ≤ h0.size) (Va : Arv Z h0 a1 ka (.object "java/lang/String") (3 : Int32) [(.ref s1), (.ref s2), (.ref s3)] .null) (Es1 : Exa Z h0 s1 "java/lang/String") (Es2 : Exa Z h0 s2 "java/lang/String") (Es3 : Exa Z h0 s3 "java/lang/String") :
    MetFree l yn10 (head1 (Jvm.Cond.code yn10 jdk_40_method_47_code 2 (some (.object "java/util/List")) :: ws) ({ frames := 6, cells := 2, slots := 5, locals := 77 } : Room)) (fun a U => a = #[(.ref a1)] ∧ Z.Warmed39 U.vm ∧ U.heap = h0) (fun _ _ _ _ _ => True) (fun _ U o U' => ∃ v L, o = .returned v ∧ Qls3 Z s1 s2 s3 h0 n0 v U'.heap L ∧ FrameEnd U o U' L ({ frames := 6, cells := 2, slots := 5, locals := 77 } : Room).cells ({ frames := 6, cells := 2, slots := 5, locals := 77 } : Room).slots) := by
 refine MetFree.of_bodySF (plainFor_of_name pn_java_util_List) hisR ?_
 intro p e s m args below meth c s₁ Bd hml0 hP hK
 obtain ⟨rfl, hZ, hh⟩ := hP
 have hx := Bd.exec
 have hby := Bd.bytes
 have hml : c.maxLocals = 2 := hml0
 have hown : s.vm.findClass "java/util/List" = some m.cls := findClass_of_methodNamed Bd.named
 have hnm := (name_of_methodNamed Bd.named Bd.method).1
 have X0 : Stand p l e ({ frames := 6, cells := 2, slots := 5, locals := 77 } : Room) s m #[(.ref a1)] below meth c s₁ [] 0 0 := Stand.of_body Bd
 have e0 : s₁.heap = h0 := by rw [← hh, Bd.state]; rfl
 have N0 := Fr.nil n0
 obtain ⟨A0, hA0⟩ : ∃ A, A = s₁.setTop (entryFrame m #[(.ref a1)] 2) := ⟨_, rfl⟩
 have R0 : ∀ tgt, Steps p.tables e below (s₁.setTop (mkF m 0 #[.val (.ref a1), .unset] [])) tgt → Steps p.tables e below A0 tgt := fun tgt hgo => by rw [hA0]; exact castTop (ef_rm_of3 m a1) hgo
 have w : ∀ (i : Nat) {d : Jvm.Cond}, tables_1[i]? = some d → d.before a0 Z = true := fun i d h => hw d (List.mem_of_getElem? h)
 have hZn := Z0
 have hK : Keep h0 h0 [] := Keep.refl _ _
 have R1 : Rc p e below A0 (s₁.setTop (mkF m 1 #[.val (.ref a1), .unset] [(.ref a1)])) := by
   intro tgt hgo
   refine R0 tgt ?_
   show Steps p.tables e below (s₁.setTop (mkF m 0 #[.val (.ref a1), .unset] [])) _
   refine XS.aloadN X0.here hx rfl (hb hby d10_0) rfl rfl ?_
   exact hgo
 obtain ⟨cl2, Ar2, -, S2, Nn2, -, -⟩ := id Va
 have R3 : Rc p e below A0 (s₁.setTop (mkF m 2 #[.val (.ref a1), .unset] [(.int 3)])) := by
   intro tgt hgo
   refine R1 tgt ?_
   refine X0.arraylength hx (by rw [e0]; exact Ar2.1) (State.isArrayOf_alike hZ.alike Ar2.2.1) (g := (mkF m 1 #[.val (.ref a1), .unset] [(.ref a1)])) rfl rfl (hb hby d10_1) _ ?_
   rw [len_of S2 Nn2]
   exact hgo
 have R4 : Rc p e below A0 (s₁.setTop (mkF m 60 #[.val (.ref a1), .unset] [(.ref a1)])) := by
   intro tgt hgo
   refine R3 tgt ?_
   show Steps p.tables e below (s₁.setTop (mkF m 2 #[.val (.ref a1), .unset] [(.int 3)])) _
   refine XS.tswOut X0.here hx rfl (pc0 := 2) (pc' := 59) rfl (hb hby d10_2) rfl (by decide) (by decide) (by decide) ?_
   refine XS.aloadN X0.here hx rfl (hb hby d10_59) rfl rfl ?_
   exact hgo
 obtain ⟨_, _, ⟨T5, L5, k5, n5⟩, -, X5, ⟨Lc5, hQ5, l5, y5, z5⟩, st5⟩ := Jvm.LawKit.callS X0 hx (y := yn9) hown (mvT hZ (w 45 rfl)) (mvT hZ (w 46 rfl)) (mvT hZ (w 47 rfl)) (mvT hZ (w 48 rfl)) (by decide) (backOf (W := 0) (rm_lfa l Z a0 hw [] a1 s1 s2 s3 ka h0 n0 hZn Va Es1 Es2 Es3) hZ (w 48 rfl) (w 47 rfl) (by decide) (by decide)) (g := (mkF m 60 #[.val (.ref a1), .unset] [(.ref a1)])) rfl (by rw [hml]; rfl) (argsL := [(.ref a1)]) (rest := []) (lenOf pd_6 rfl) rfl (by show 2 * 0 + _ ≤ _; exact Nat.le_of_eq rfl) (hb hby d10_60) (fun _ _ => ⟨rfl, e0, (by decide : 0 + 2 ≤ _), (by decide : 0 + 5 ≤ _)⟩)
 dsimp only [Pt.U, Pt.locs, Pt.cells, Pt.slots] at X5 l5 y5 z5 st5 hQ5
 subst l5 y5 z5
 obtain ⟨⟨x5, rfl, hx5⟩, N5q, K5⟩ := hQ5
 have N5 := Fr.app N0 N5q
 have R6 := Rc.st R4 st5
 have q5 := hx5
 replace hZn := Nat.le_trans hZn K5.1
 replace hK := hK.trans K5 all0
 replace Va := Va.keep K5 nin0
 replace Es1 := Es1.keep K5
 replace Es2 := Es2.keep K5
 replace Es3 := Es3.keep K5
 subst hA0
 obtain ⟨fs, hr, hrun, hended, hW, hsame⟩ := X5.leave (v := some (.ref x5)) (fun h => by rw [Bd.returns] at h; cases h)
 refine ⟨_, _, R6 _ ?_, hrun, hended, _, _, rfl, ?_, ⟨_, rfl⟩, hW, hsame.mono (by decide) (by decide)⟩
 ·show Steps p.tables e below (T5.setTop (mkF m 63 #[.val (.ref a1), .unset] [(.ref x5)])) _
  jvm_step X5.here [X5.here.top, hx, (hb hby d10_63), X5.method', Bd.returns, Value.isRef, FieldType.isReference]
  first | (intro acts; rw [hr _ acts rfl rfl rfl]) | rw [hr _ _ rfl rfl rfl]
  exact Steps.refl _
 ·show Qls3 Z s1 s2 s3 h0 n0 _ T5.heap _
  exact ⟨⟨_, rfl, hx5⟩, N5, hK⟩
def Qfi0 (Z : State) (a1 a2 el : Addr) (h0 : Heap) (n0 : Nat) (v : Option Value) (h : Heap) (L : List Loc) : Prop := v = none ∧ Fr n0 L ∧ Keep h0 h [a1] ∧ Fld Z h a1 "com/example/verdict_ladder/verdictladder/lint/Finding" "kind" "Lcom/example/verdict_ladder/verdictladder/lint/Finding$Kind;" (.ref a2) ∧ Fld Z h a1 "com/example/verdict_ladder/verdictladder/lint/Finding" "fields" "Ljava/util/List;" (.ref el)
def Qfi1 (Z : State) (a1 a2 s1 em : Addr) (h0 : Heap) (n0 : Nat) (v : Option Value) (h : Heap) (L : List Loc) : Prop := v = none ∧ Fr n0 L ∧ Keep h0 h [a1] ∧ Fld Z h a1 "com/example/verdict_ladder/verdictladder/lint/Finding" "kind" "Lcom/example/verdict_ladder/verdictladder/lint/Finding$Kind;" (.ref a2) ∧ ∃ x : Addr, h0.size ≤ x ∧ n0 ≤ x ∧ Fld Z h a1 "com/example/verdict_ladder/verdictladder/lint/Finding" "fields" "Ljava/util/List;" (.ref x) ∧ Exa Z h x "java/util/ImmutableCollections$List12" ∧ Fld Z h x "java/util/ImmutableCollections$List12" "e0" "Ljava/lang/Object;" (.ref s1) ∧ Fld Z h x "java/util/ImmutableCollections$List12" "e1" "Ljava/lang/Object;" (.ref em)
def Qfi2 (Z : State) (a1 a2 s1 s2 : Addr) (h0 : Heap) (n0 : Nat) (v : Option Value) (h : Heap) (L : List Loc) : Prop := v = none ∧ Fr n0 L ∧ Keep h0 h [a1] ∧ Fld Z h a1 "com/example/verdict_ladder/verdictladder/lint/Finding" "kind" "Lcom/example/verdict_ladder/verdictladder/lint/Finding$Kind;" (.ref a2) ∧ ∃ x : Addr, h0.size ≤ x ∧ n0 ≤ x ∧ Fld Z h a1 "com/example/verdict_ladder/verdictladder/lint/Finding" "fields" "Ljava/util/List;" (.ref x) ∧ Exa Z h x "java/util/ImmutableCollections$List12" ∧ Fld Z h x "java/util/ImmutableCollections$List12" "e0" "Ljava/lang/Object;" (.ref s1) ∧ Fld Z h x "java/util/ImmutableCollections$List12" "e1" "Ljava/lang/Object;" (.ref s2)
def Qfi3 (Z : State) (a1 a2 s1 s2 s3 : Addr) (h0 : Heap) (n0 : Nat) (v : Option Value) (h : Heap) (L : List Loc) : Prop := v = none ∧ Fr n0 L ∧ Keep h0 h [a1] ∧ Fld Z h a1 "com/example/verdict_ladder/verdictladder/lint/Finding" "kind" "Lcom/example/verdict_ladder/verdictladder/lint/Finding$Kind;" (.ref a2) ∧ ∃ x : Addr, h0.size ≤ x ∧ n0 ≤ x ∧ Fld Z h a1 "com/example/verdict_ladder/verdictladder/lint/Finding" "fields" "Ljava/util/List;" (.ref x) ∧ Exa Z h x "java/util/ImmutableCollections$ListN" ∧ ∃ (ea : Addr) (ke : ClassId), h0.size ≤ ea ∧ n0 ≤ ea ∧ x ≠ ea ∧ Fld Z h x "java/util/ImmutableCollections$ListN" "elements" "[Ljava/lang/Object;" (.ref ea) ∧ Arv Z h ea ke (.object "java/lang/Object") 3 [(.ref s1), (.ref s2), (.ref s3)] .null
abbrev yn11 : MethodName := ⟨"com/example/verdict_ladder/verdictladder/lint/Finding", "<init>", "(Lcom/example/verdict_ladder/verdictladder/lint/Finding$Kind;[Ljava/lang/String;)V"⟩
theorem pn_com_example_verdict_ladder_verdictladder_lint_Finding : plainName "com/example/verdict_ladder/verdictladder/lint/Finding" = true := by first | (simp [plainName, overriddenIn]; done) | decide +kernel
theorem ef_rm_fi0 (m : MethodId) (a1 : Addr) (a2 : Addr) (a3 : Addr) : entryFrame m #[(.ref a1), (.ref a2), (.ref a3)] 3 = mkF m 0 #[.val (.ref a1), .val (.ref a2), .val (.ref a3)] [] := by first | (simp [entryFrame, mkF, argsToLocals, Value.category]; done) | rfl
theorem d11_0 : decode prog_16_method_1_code 0 = .ok (.aload_n 0, 1) := by decide +kernel
theorem d11_1 : decode prog_16_method_1_code 1 = .ok (.invokespecial 1, 3) := by decide +kernel
theorem d11_4 : decode prog_16_method_1_code 4 = .ok (.aload_n 0, 1) := by decide +kernel
theorem d11_5 : decode prog_16_method_1_code 5 = .ok (.aload_n 1, 1) := by decide +kernel
theorem d11_6 : decode prog_16_method_1_code 6 = .ok (.putfield 7, 3) := by decide +kernel
theorem d11_9 : decode prog_16_method_1_code 9 = .ok (.aload_n 0, 1) := by decide +kernel
theorem d11_10 : decode prog_16_method_1_code 10 = .ok (.aload_n 2, 1) := by decide +kernel
theorem d11_11 : decode prog_16_method_1_code 11 = .ok (.invokestatic 13, 3) := by decide +kernel
theorem d11_14 : decode prog_16_method_1_code 14 = .ok (.putfield 19, 3) := by decide +kernel
theorem d11_17 : decode prog_16_method_1_code 17 = .ok (.return_, 1) := by decide +kernel
set_option maxRecDepth 65536 in
set_option maxHeartbeats 40000000 in
theorem rm_fi0 (l : Launch) (Z : State) (a0 : Array Value) (hw : ∀ d ∈ tables_1, d.before a0 Z = true) (ws : List Jvm.Cond) (a1 : Addr) (a2 : Addr) (a3 : Addr) (el : Addr) (ka : ClassId) (h0 : Heap) (n0 : Nat) (Z0 : n0 ≤ h0.size) (ge1 : n0 ≤ a1) (ne13 : a3 ≠ a1) (E1 : Exa Z h0 a1 "com/example/verdict_ladder/verdictladder/lint/Finding") (Fk : Fld Z h0 a1 "com/example/verdict_ladder/verdictladder/lint/Finding" "kind" "Lcom/example/verdict_ladder/verdictladder/lint/Finding$Kind;" .null) (Ff : Fld Z h0 a1 "com/example/verdict_ladder/verdictladder/lint/Finding" "fields" "Ljava/util/List;" .null) (X00 : Old Z n0 h0) (S_el : Sta Z Z.heap "java/util/ImmutableCollections" "EMPTY_LIST" "Ljava/util/ImmutableCollections$ListN;" (.ref el)) (Va : Arv Z h0 a3 ka (.object "java/lang/String") (0 : Int32) [] .null) :
    MetFree l yn11 (head1 (Jvm.Cond.code yn11 prog_16_method_1_code 3 none :: ws) ({ frames := 1, cells := 0, slots := 0, locals := 14 } : Room)) (fun a U => a = #[(.ref a1), (.ref a2), (.ref a3)] ∧ Z.Warmed39 U.vm ∧ U.heap = h0) (fun _ _ _ _ _ => True) (fun _ U o U' => ∃ v L, o = .returned v ∧ Qfi0 Z a1 a2 el h0 n0 v U'.heap L ∧ FrameEnd U o U' L ({ frames := 1, cells := 0, slots := 0, locals := 14 } : Room).cells ({ frames := 1, cells := 0, slots := 0, locals := 14 } : Room).slots) := by
 refine MetFree.of_bodySF (plainFor_of_name pn_com_example_verdict_ladder_verdictladder_lint_Finding) hisR ?_
 intro p e s m args below meth c s₁ Bd hml0 hP hK
 obtain ⟨rfl, hZ, hh⟩ := hP
 have hx := Bd.exec
 have hby := Bd.bytes
 have hml : c.maxLocals = 3 := hml0
 have hown : s.vm.findClass "com/example/verdict_ladder/verdictladder/lint/Finding" = some m.cls := findClass_of_methodNamed Bd.named
 have hnm := (name_of_methodNamed Bd.named Bd.method).1
 have X0 : Stand p l e ({ frames := 1, cells := 0, slots := 0, locals := 14 } : Room) s m #[(.ref a1), (.ref a2), (.ref a3)] below meth c s₁ [] 0 0 := Stand.of_body Bd
 have e0 : s₁.heap = h0 := by rw [← hh, Bd.state]; rfl
 have N0 := Fr.nil n0
 obtain ⟨A0, hA0⟩ : ∃ A, A = s₁.setTop (entryFrame m #[(.ref a1), (.ref a2), (.ref a3)] 3) := ⟨_, rfl⟩
 have R0 : ∀ tgt, Steps p.tables e below (s₁.setTop (mkF m 0 #[.val (.ref a1), .val (.ref a2), .val (.ref a3)] [])) tgt → Steps p.tables e below A0 tgt := fun tgt hgo => by rw [hA0]; exact castTop (ef_rm_fi0 m a1 a2 a3) hgo
 have w : ∀ (i : Nat) {d : Jvm.Cond}, tables_1[i]? = some d → d.before a0 Z = true := fun i d h => hw d (List.mem_of_getElem? h)
 have hZn := Z0
 have hK : Keep h0 h0 [a1] := Keep.refl _ _
 have hOld := X00
 have R1 : Rc p e below A0 (s₁.setTop (mkF m 1 #[.val (.ref a1), .val (.ref a2), .val (.ref a3)] [(.ref a1)])) := by
   intro tgt hgo
   refine R0 tgt ?_
   show Steps p.tables e below (s₁.setTop (mkF m 0 #[.val (.ref a1), .val (.ref a2), .val (.ref a3)] [])) _
   refine XS.aloadN X0.here hx rfl (hb hby d11_0) rfl rfl ?_
   exact hgo
 obtain ⟨T2, X2, e2, st2⟩ := initO X0 hx hZ hown (w 38 rfl) (w 26 rfl) (w 27 rfl) e0 (g := (mkF m 1 #[.val (.ref a1), .val (.ref a2), .val (.ref a3)] [(.ref a1)])) rfl (by rw [hml]; rfl) rfl (hb hby d11_1) (by decide) (W := 0) (by show 2 * 0 + _ ≤ _; exact Nat.le_of_eq rfl) (by decide)
 have R3 := Rc.st R1 st2
 have R4 : Rc p e below A0 (T2.setTop (mkF m 6 #[.val (.ref a1), .val (.ref a2), .val (.ref a3)] [(.ref a2), (.ref a1)])) := by
   intro tgt hgo
   refine R3 tgt ?_
   show Steps p.tables e below (T2.setTop (mkF m 4 #[.val (.ref a1), .val (.ref a2), .val (.ref a3)] [])) _
   refine XS.aloadN X2.here hx rfl (hb hby d11_4) rfl rfl ?_
   refine XS.aloadN X2.here hx rfl (hb hby d11_5) rfl rfl ?_
   exact hgo
 obtain ⟨T5, h5, X5, e5, W5, st5⟩ := putF X2 hx hZ hown (host := "") (Or.inl (w 39 rfl)) Via.refl e2 Fk E1 (Or.inr ⟨(w 40 rfl), rfl, hnm⟩) (w 33 rfl) (ty := (.object "com/example/verdict_ladder/verdictladder/lint/Finding$Kind")) (by decide) rfl rfl (g := (mkF m 6 #[.val (.ref a1), .val (.ref a2), .val (.ref a3)] [(.ref a2), (.ref a1)])) rfl rfl (hb hby d11_6)
 have N5 := Fr.snoc X5 N0 ge1
 replace hZn := Nat.le_trans hZn (Keep.of_wr W5).1
 replace hK := hK.wr W5 (Or.inl (List.mem_of_getElem? (i := 0) rfl))
 replace hOld := hOld.wr W5 ge1
 replace E1 := E1.wr W5
 replace Fk := Fk.same W5
 replace Ff := Ff.other W5 (Or.inr (slot_ne (Or.inr (w 87 rfl)) (Or.inr (w 40 rfl)) (by decide) (t := (.object "java/util/List")) (t' := (.object "com/example/verdict_ladder/verdictladder/lint/Finding$Kind")) (by decide) (by decide)))
 replace Va := Va.other W5 ne13
 have R6 := Rc.st R4 st5
 have R7 : Rc p e below A0 (T5.setTop (mkF m 11 #[.val (.ref a1), .val (.ref a2), .val (.ref a3)] [(.ref a3), (.ref a1)])) := by
   intro tgt hgo
   refine R6 tgt ?_
   show Steps p.tables e below (T5.setTop (mkF m 9 #[.val (.ref a1), .val (.ref a2), .val (.ref a3)] [])) _
   refine XS.aloadN X5.here hx rfl (hb hby d11_9) rfl rfl ?_
   refine XS.aloadN X5.here hx rfl (hb hby d11_10) rfl rfl ?_
   exact hgo
 obtain ⟨_, _, ⟨T8, L8, k8, n8⟩, -, X8, ⟨Lc8, hQ8, l8, y8, z8⟩, st8⟩ := Jvm.LawKit.callS X5 hx (y := yn10) hown (mvT hZ (w 41 rfl)) (mvT hZ (w 42 rfl)) (mvT hZ (w 43 rfl)) (mvT hZ (w 44 rfl)) (by decide) (backOf (W := 1) (rm_of0 l Z a0 hw [] a3 el ka h5 n0 hZn hOld S_el Va) hZ (w 44 rfl) (w 43 rfl) (by decide) (by decide)) (g := (mkF m 11 #[.val (.ref a1), .val (.ref a2), .val (.ref a3)] [(.ref a3), (.ref a1)])) rfl (by rw [hml]; rfl) (argsL := [(.ref a3)]) (rest := [(.ref a1)]) (lenOf pd_6 rfl) rfl (by show 2 * 0 + _ ≤ _; exact Nat.le_of_eq rfl) (hb hby d11_11) (fun _ _ => ⟨rfl, e5, (by decide : 0 + 0 ≤ _), (by decide : 0 + 0 ≤ _)⟩)
 dsimp only [Pt.U, Pt.locs, Pt.cells, Pt.slots] at X8 l8 y8 z8 st8 hQ8
 subst l8 y8 z8
 obtain ⟨rfl, N8q, e8⟩ := hQ8
 have N8 := Fr.app N5 N8q
 have R9 := Rc.st R7 st8
 obtain ⟨T10, h10, X10, e10, W10, st10⟩ := putF X8 hx hZ hown (host := "") (Or.inl (w 86 rfl)) Via.refl e8 Ff E1 (Or.inr ⟨(w 87 rfl), rfl, hnm⟩) (w 33 rfl) (ty := (.object "java/util/List")) (by decide) rfl rfl (g := (mkF m 14 #[.val (.ref a1), .val (.ref a2), .val (.ref a3)] [(.ref el), (.ref a1)])) rfl rfl (hb hby d11_14)
 have N10 := Fr.snoc X10 N8 ge1
 replace hZn := Nat.le_trans hZn (Keep.of_wr W10).1
 replace hK := hK.wr W10 (Or.inl (List.mem_of_getElem? (i := 0) rfl))
 replace hOld := hOld.wr W10 ge1
 replace E1 := E1.wr W10
 replace Fk := Fk.other W10 (Or.inr (slot_ne (Or.inr (w 40 rfl)) (Or.inr (w 87 rfl)) (by decide) (t := (.object "com/example/verdict_ladder/verdictladder/lint/Finding$Kind")) (t' := (.object "java/util/List")) (by decide) (by decide)))
 replace Ff := Ff.same W10
 replace Va := Va.other W10 ne13
 have R11 := Rc.st R9 st10
 subst hA0
 obtain ⟨fs, hr, hrun, hended, hW, hsame⟩ := X10.leave (v := none) (fun _ => rfl)
 refine ⟨_, _, R11 _ ?_, hrun, hended, _, _, rfl, ?_, ⟨_, rfl⟩, hW, hsame.mono (by decide) (by decide)⟩
 ·show Steps p.tables e below (T10.setTop (mkF m 17 #[.val (.ref a1), .val (.ref a2), .val (.ref a3)] [])) _
  exact X10.returnOut hx Bd.returns (hb hby d11_17) hr
 ·show Qfi0 Z a1 a2 el h0 n0 _ T10.heap _
  rw [e10]
  exact ⟨rfl, N10, hK, Fk, Ff⟩
theorem ef_rm_fi1 (m : MethodId) (a1 : Addr) (a2 : Addr) (a3 : Addr) : entryFrame m #[(.ref a1), (.ref a2), (.ref a3)] 3 = mkF m 0 #[.val (.ref a1), .val (.ref a2), .val (.ref a3)] [] := by first | (simp [entryFrame, mkF, argsToLocals, Value.category]; done) | rfl
set_option maxRecDepth 65536 in
set_option maxHeartbeats 40000000 in
theorem rm_fi1 (l : Launch) (Z : State) (a0 : Array Value) (hw : ∀ d ∈ tables_1, d.before a0 Z = true) (ws : List Jvm.Cond) (a1 : Addr) (a2 : Addr) (a3 : Addr) (s1 em : Addr) (ka : ClassId) (h0 : Heap) (n0 : Nat) (Z0 : n0 ≤ h0.size) (ge1 : n0 ≤ a1) (ne13 : a3 ≠ a1) (E1 : Exa Z h0 a1 "com/example/verdict_ladder/verdictladder/lint/Finding") (Fk : Fld Z h0 a1 "com/example/verdict_ladder/verdictladder/lint/Finding" "kind" "Lcom/example/verdict_ladder/verdictladder/lint/Finding$Kind;" .null) (Ff : Fld Z h0 a1 "com/example/verdict_ladder/verdictladder/lint/Finding" "fields" "Ljava/util/List;" .null) (X00 : Old Z n0 h0) (S_em : Sta Z Z.heap "java/util/ImmutableCollections" "EMPTY" "Ljava/lang/Object;" (.ref em)) (Va : Arv Z h0 a3 ka (.object "java/lang/String") (1 : Int32) [(.ref s1)] .null) (Es1 : Exa Z h0 s1 "java/lang/String") :
    MetFree l yn11 (head1 (Jvm.Cond.code yn11 prog_16_method_1_code 3 none :: ws) ({ frames := 6, cells := 1, slots := 2, locals := 76 } : Room)) (fun a U => a = #[(.ref a1), (.ref a2), (.ref a3)] ∧ Z.Warmed39 U.vm ∧ U.heap = h0) (fun _ _ _ _ _ => True) (fun _ U o U' => ∃ v L, o = .returned v ∧ Qfi1 Z a1 a2 s1 em h0 n0 v U'.heap L ∧ FrameEnd U o U' L ({ frames := 6, cells := 1, slots := 2, locals := 76 } : Room).cells ({ frames := 6, cells := 1, slots := 2, locals := 76 } : Room).slots) := by
 refine MetFree.of_bodySF (plainFor_of_name pn_com_example_verdict_ladder_verdictladder_lint_Finding) hisR ?_
 intro p e s m args below meth c s₁ Bd hml0 hP hK
 obtain ⟨rfl, hZ, hh⟩ := hP
 have hx := Bd.exec
 have hby := Bd.bytes
 have hml : c.maxLocals = 3 := hml0
 have hown : s.vm.findClass "com/example/verdict_ladder/verdictladder/lint/Finding" = some m.cls := findClass_of_methodNamed Bd.named
 have hnm := (name_of_methodNamed Bd.named Bd.method).1
 have X0 : Stand p l e ({ frames := 6, cells := 1, slots := 2, locals := 76 } : Room) s m #[(.ref a1), (.ref a2), (.ref a3)] below meth c s₁ [] 0 0 := Stand.of_body Bd
 have e0 : s₁.heap = h0 := by rw [← hh, Bd.state]; rfl
 have N0 := Fr.nil n0
 obtain ⟨A0, hA0⟩ : ∃ A, A = s₁.setTop (entryFrame m #[(.ref a1), (.ref a2), (.ref a3)] 3) := ⟨_, rfl⟩
 have R0 : ∀ tgt, Steps p.tables e below (s₁.setTop (mkF m 0 #[.val (.ref a1), .val (.ref a2), .val (.ref a3)] [])) tgt → Steps p.tables e below A0 tgt := fun tgt hgo => by rw [hA0]; exact castTop (ef_rm_fi1 m a1 a2 a3) hgo
 have w : ∀ (i : Nat) {d : Jvm.Cond}, tables_1[i]? = some d → d.before a0 Z = true := fun i d h => hw d (List.mem_of_getElem? h)
 have hZn := Z0
 have hK : Keep h0 h0 [a1] := Keep.refl _ _
 have hOld := X00
 have R1 : Rc p e below A0 (s₁.setTop (mkF m 1 #[.val (.ref a1), .val (.ref a2), .val (.ref a3)] [(.ref a1)])) := by
   intro tgt hgo
   refine R0 tgt ?_
   show Steps p.tables e below (s₁.setTop (mkF m 0 #[.val (.ref a1), .val (.ref a2), .val (.ref a3)] [])) _
   refine XS.aloadN X0.here hx rfl (hb hby d11_0) rfl rfl ?_
   exact hgo
 obtain ⟨T2, X2, e2, st2⟩ := initO X0 hx hZ hown (w 38 rfl) (w 26 rfl) (w 27 rfl) e0 (g := (mkF m 1 #[.val (.ref a1), .val (.ref a2), .val (.ref a3)] [(.ref a1)])) rfl (by rw [hml]; rfl) rfl (hb hby d11_1) (by decide) (W := 0) (by show 2 * 0 + _ ≤ _; exact Nat.le_of_eq rfl) (by decide)
 have R3 := Rc.st R1 st2
 have R4 : Rc p e below A0 (T2.setTop (mkF m 6 #[.val (.ref a1), .val (.ref a2), .val (.ref a3)] [(.ref a2), (.ref a1)])) := by
   intro tgt hgo
   refine R3 tgt ?_
   show Steps p.tables e below (T2.setTop (mkF m 4 #[.val (.ref a1), .val (.ref a2), .val (.ref a3)] [])) _
   refine XS.aloadN X2.here hx rfl (hb hby d11_4) rfl rfl ?_
   refine XS.aloadN X2.here hx rfl (hb hby d11_5) rfl rfl ?_
   exact hgo
 obtain ⟨T5, h5, X5, e5, W5, st5⟩ := putF X2 hx hZ hown (host := "") (Or.inl (w 39 rfl)) Via.refl e2 Fk E1 (Or.inr ⟨(w 40 rfl), rfl, hnm⟩) (w 33 rfl) (ty := (.object "com/example/verdict_ladder/verdictladder/lint/Finding$Kind")) (by decide) rfl rfl (g := (mkF m 6 #[.val (.ref a1), .val (.ref a2), .val (.ref a3)] [(.ref a2), (.ref a1)])) rfl rfl (hb hby d11_6)
 have N5 := Fr.snoc X5 N0 ge1
 replace hZn := Nat.le_trans hZn (Keep.of_wr W5).1
 replace hK := hK.wr W5 (Or.inl (List.mem_of_getElem? (i := 0) rfl))
 replace hOld := hOld.wr W5 ge1
 replace E1 := E1.wr W5
 replace Fk := Fk.same W5
 replace Ff := Ff.other W5 (Or.inr (slot_ne (Or.inr (w 87 rfl)) (Or.inr (w 40 rfl)) (by decide) (t := (.object "java/util/List")) (t' := (.object "com/example/verdict_ladder/verdictladder/lint/Finding$Kind")) (by decide) (by decide)))
 replace Va := Va.other W5 ne13
 replace Es1 := Es1.wr W5
 have R6 := Rc.st R4 st5
 have R7 : Rc p e below A0 (T5.setTop (mkF m 11 #[.val (.ref a1), .val (.ref a2), .val (.ref a3)] [(.ref a3), (.ref a1)])) := by
   intro tgt hgo
   refine R6 tgt ?_
   show Steps p.tables e below (T5.setTop (mkF m 9 #[.val (.ref a1), .val (.ref a2), .val (.ref a3)] [])) _
   refine XS.aloadN X5.here hx rfl (hb hby d11_9) rfl rfl ?_
   refine XS.aloadN X5.here hx rfl (hb hby d11_10) rfl rfl ?_
   exact hgo
 obtain ⟨_, _, ⟨T8, L8, k8, n8⟩, -, X8, ⟨Lc8, hQ8, l8, y8, z8⟩, st8⟩ := Jvm.LawKit.callS X5 hx (y := yn10) hown (mvT hZ (w 41 rfl)) (mvT hZ (w 42 rfl)) (mvT hZ (w 43 rfl)) (mvT hZ (w 44 rfl)) (by decide) (backOf (W := 1) (rm_of1 l Z a0 hw [] a3 s1 em ka h5 n0 hZn hOld S_em Va Es1) hZ (w 44 rfl) (w 43 rfl) (by decide) (by decide)) (g := (mkF m 11 #[.val (.ref a1), .val (.ref a2), .val (.ref a3)] [(.ref a3), (.ref a1)])) rfl (by rw [hml]; rfl) (argsL := [(.ref a3)]) (rest := [(.ref a1)]) (lenOf pd_6 rfl) rfl (by show 2 * 0 + _ ≤ _; exact Nat.le_of_eq rfl) (hb hby d11_11) (fun _ _ => ⟨rfl, e5, (by decide : 0 + 1 ≤ _), (by decide : 0 + 2 ≤ _)⟩)
 dsimp only [Pt.U, Pt.locs, Pt.cells, Pt.slots] at X8 l8 y8 z8 st8 hQ8
 subst l8 y8 z8
 obtain ⟨⟨lx, rfl, szx0, gex, Ex, Fe0, Fe1⟩, N8q, K8⟩ := hQ8
 have N8 := Fr.app N5 N8q
 have R9 := Rc.st R7 st8
 have szx := Nat.le_trans hK.1 szx0
 have ne_a1_lx : a1 ≠ lx := Nat.ne_of_lt (Nat.lt_of_lt_of_le E1.lt szx0)
 replace hZn := Nat.le_trans hZn K8.1
 replace hK := hK.trans K8 all0
 replace hOld := hOld.keep K8 all0
 replace E1 := E1.keep K8
 replace Fk := Fk.keep K8 nin0
 replace Ff := Ff.keep K8 nin0
 replace Va := Va.keep K8 nin0
 replace Es1 := Es1.keep K8
 obtain ⟨T10, h10, X10, e10, W10, st10⟩ := putF X8 hx hZ hown (host := "") (Or.inl (w 86 rfl)) Via.refl rfl Ff E1 (Or.inr ⟨(w 87 rfl), rfl, hnm⟩) (w 33 rfl) (ty := (.object "java/util/List")) (by decide) rfl rfl (g := (mkF m 14 #[.val (.ref a1), .val (.ref a2), .val (.ref a3)] [(.ref lx), (.ref a1)])) rfl rfl (hb hby d11_14)
 have N10 := Fr.snoc X10 N8 ge1
 replace hZn := Nat.le_trans hZn (Keep.of_wr W10).1
 replace hK := hK.wr W10 (Or.inl (List.mem_of_getElem? (i := 0) rfl))
 replace hOld := hOld.wr W10 ge1
 replace E1 := E1.wr W10
 replace Fk := Fk.other W10 (Or.inr (slot_ne (Or.inr (w 40 rfl)) (Or.inr (w 87 rfl)) (by decide) (t := (.object "com/example/verdict_ladder/verdictladder/lint/Finding$Kind")) (t' := (.object "java/util/List")) (by decide) (by decide)))
 replace Ff := Ff.same W10
 replace Va := Va.other W10 ne13
 replace Es1 := Es1.wr W10
 replace Ex := Ex.wr W10
 replace Fe0 := Fe0.other W10 (Or.inl (Ne.symm ne_a1_lx))
 replace Fe1 := Fe1.other W10 (Or.inl (Ne.symm ne_a1_lx))
 have R11 := Rc.st R9 st10
 subst hA0
 obtain ⟨fs, hr, hrun, hended, hW, hsame⟩ := X10.leave (v := none) (fun _ => rfl)
 refine ⟨_, _, R11 _ ?_, hrun, hended, _, _, rfl, ?_, ⟨_, rfl⟩, hW, hsame.mono (by decide) (by decide)⟩
 ·show Steps p.tables e below (T10.setTop (mkF m 17 #[.val (.ref a1), .val (.ref a2), .val (.ref a3)] [])) _
  exact X10.returnOut hx Bd.returns (hb hby d11_17) hr
 ·show Qfi1 Z a1 a2 s1 em h0 n0 _ T10.heap _
  rw [e10]
  exact ⟨rfl, N10, hK, Fk, lx, szx, gex, Ff, Ex, Fe0, Fe1⟩
theorem ef_rm_fi2 (m : MethodId) (a1 : Addr) (a2 : Addr) (a3 : Addr) : entryFrame m #[(.ref a1), (.ref a2), (.ref a3)] 3 = mkF m 0 #[.val (.ref a1), .val (.ref a2), .val (.ref a3)] [] := by first | (simp [entryFrame, mkF, argsToLocals, Value.category]; done) | rfl
set_option maxRecDepth 65536 in
set_option maxHeartbeats 40000000 in
theorem rm_fi2 (l : Launch) (Z : State) (a0 : Array Value) (hw : ∀ d ∈ tables_1, d.before a0 Z = true) (ws : List Jvm.Cond) (a1 : Addr) (a2 : Addr) (a3 : Addr) (s1 s2 : Addr) (ka : ClassId) (h0 : Heap) (n0 : Nat) (Z0 : n0 ≤ h0.size) (ge1 : n0 ≤ a1) (ne13 : a3 ≠ a1) (E1 : Exa Z h0 a1 "com/example/verdict_ladder/verdictladder/lint/Finding") (Fk : Fld Z h0 a1 "com/example/verdict_ladder/verdictladder/lint/Finding" "kind" "Lcom/example/verdict_ladder/verdictladder/lint/Finding$Kind;" .null) (Ff : Fld Z h0 a1 "com/example/verdict_ladder/verdictladder/lint/Finding" "fields" "Ljava/util/List;" .null) (Va : Arv Z h0 a3 ka (.object "java/lang/String") (2 : Int32) [(.ref s1), (.ref s2)] .null) (Es1 : Exa Z h0 s1 "java/lang/String") (Es2 : Exa Z h0 s2 "java/lang/String") :
    MetFree l yn11 (head1 (Jvm.Cond.code yn11 prog_16_method_1_code 3 none :: ws) ({ frames := 6, cells := 1, slots := 2, locals := 77 } : Room)) (fun a U => a = #[(.ref a1), (.ref a2), (.ref a3)] ∧ Z.Warmed39 U.vm ∧ U.heap = h0) (fun _ _ _ _ _ => True) (fun _ U o U' => ∃ v L, o = .returned v ∧ Qfi2 Z a1 a2 s1 s2 h0 n0 v U'.heap L ∧ FrameEnd U o U' L ({ frames := 6, cells := 1, slots := 2, locals := 77 } : Room).cells ({ frames := 6, cells := 1, slots := 2, locals := 77 } : Room).slots) := by
 refine MetFree.of_bodySF (plainFor_of_name pn_com_example_verdict_ladder_verdictladder_lint_Finding) hisR ?_
 intro p e s m args below meth c s₁ Bd hml0 hP hK
 obtain ⟨rfl, hZ, hh⟩ := hP
 have hx := Bd.exec
 have hby := Bd.bytes
 have hml : c.maxLocals = 3 := hml0
 have hown : s.vm.findClass "com/example/verdict_ladder/verdictladder/lint/Finding" = some m.cls := findClass_of_methodNamed Bd.named
 have hnm := (name_of_methodNamed Bd.named Bd.method).1
 have X0 : Stand p l e ({ frames := 6, cells := 1, slots := 2, locals := 77 } : Room) s m #[(.ref a1), (.ref a2), (.ref a3)] below meth c s₁ [] 0 0 := Stand.of_body Bd
 have e0 : s₁.heap = h0 := by rw [← hh, Bd.state]; rfl
 have N0 := Fr.nil n0
 obtain ⟨A0, hA0⟩ : ∃ A, A = s₁.setTop (entryFrame m #[(.ref a1), (.ref a2), (.ref a3)] 3) := ⟨_, rfl⟩
 have R0 : ∀ tgt, Steps p.tables e below (s₁.setTop (mkF m 0 #[.val (.ref a1), .val (.ref a2), .val (.ref a3)] [])) tgt → Steps p.tables e below A0 tgt := fun tgt hgo => by rw [hA0]; exact castTop (ef_rm_fi2 m a1 a2 a3) hgo
 have w : ∀ (i : Nat) {d : Jvm.Cond}, tables_1[i]? = some d → d.before a0 Z = true := fun i d h => hw d (List.mem_of_getElem? h)
 have hZn := Z0
 have hK : Keep h0 h0 [a1] := Keep.refl _ _
 have R1 : Rc p e below A0 (s₁.setTop (mkF m 1 #[.val (.ref a1), .val (.ref a2), .val (.ref a3)] [(.ref a1)])) := by
   intro tgt hgo
   refine R0 tgt ?_
   show Steps p.tables e below (s₁.setTop (mkF m 0 #[.val (.ref a1), .val (.ref a2), .val (.ref a3)] [])) _
   refine XS.aloadN X0.here hx rfl (hb hby d11_0) rfl rfl ?_
   exact hgo
 obtain ⟨T2, X2, e2, st2⟩ := initO X0 hx hZ hown (w 38 rfl) (w 26 rfl) (w 27 rfl) e0 (g := (mkF m 1 #[.val (.ref a1), .val (.ref a2), .val (.ref a3)] [(.ref a1)])) rfl (by rw [hml]; rfl) rfl (hb hby d11_1) (by decide) (W := 0) (by show 2 * 0 + _ ≤ _; exact Nat.le_of_eq rfl) (by decide)
 have R3 := Rc.st R1 st2
 have R4 : Rc p e below A0 (T2.setTop (mkF m 6 #[.val (.ref a1), .val (.ref a2), .val (.ref a3)] [(.ref a2), (.ref a1)])) := by
   intro tgt hgo
   refine R3 tgt ?_
   show Steps p.tables e below (T2.setTop (mkF m 4 #[.val (.ref a1), .val (.ref a2), .val (.ref a3)] [])) _
   refine XS.aloadN X2.here hx rfl (hb hby d11_4) rfl rfl ?_
   refine XS.aloadN X2.here hx rfl (hb hby d11_5) rfl rfl ?_
   exact hgo
 obtain ⟨T5, h5, X5, e5, W5, st5⟩ := putF X2 hx hZ hown (host := "") (Or.inl (w 39 rfl)) Via.refl e2 Fk E1 (Or.inr ⟨(w 40 rfl), rfl, hnm⟩) (w 33 rfl) (ty := (.object "com/example/verdict_ladder/verdictladder/lint/Finding$Kind")) (by decide) rfl rfl (g := (mkF m 6 #[.val (.ref a1), .val (.ref a2), .val (.ref a3)] [(.ref a2), (.ref a1)])) rfl rfl (hb hby d11_6)
 have N5 := Fr.snoc X5 N0 ge1
 replace hZn := Nat.le_trans hZn (Keep.of_wr W5).1
 replace hK := hK.wr W5 (Or.inl (List.mem_of_getElem? (i := 0) rfl))
 replace E1 := E1.wr W5
 replace Fk := Fk.same W5
 replace Ff := Ff.other W5 (Or.inr (slot_ne (Or.inr (w 87 rfl)) (Or.inr (w 40 rfl)) (by decide) (t := (.object "java/util/List")) (t' := (.object "com/example/verdict_ladder/verdictladder/lint/Finding$Kind")) (by decide) (by decide)))
 replace Va := Va.other W5 ne13
 replace Es1 := Es1.wr W5
 replace Es2 := Es2.wr W5
 have R6 := Rc.st R4 st5
 have R7 : Rc p e below A0 (T5.setTop (mkF m 11 #[.val (.ref a1), .val (.ref a2), .val (.ref a3)] [(.ref a3), (.ref a1)])) := by
   intro tgt hgo
   refine R6 tgt ?_
   show Steps p.tables e below (T5.setTop (mkF m 9 #[.val (.ref a1), .val (.ref a2), .val (.ref a3)] [])) _
   refine XS.aloadN X5.here hx rfl (hb hby d11_9) rfl rfl ?_
   refine XS.aloadN X5.here hx rfl (hb hby d11_10) rfl rfl ?_
   exact hgo
 obtain ⟨_, _, ⟨T8, L8, k8, n8⟩, -, X8, ⟨Lc8, hQ8, l8, y8, z8⟩, st8⟩ := Jvm.LawKit.callS X5 hx (y := yn10) hown (mvT hZ (w 41 rfl)) (mvT hZ (w 42 rfl)) (mvT hZ (w 43 rfl)) (mvT hZ (w 44 rfl)) (by decide) (backOf (W := 1) (rm_of2 l Z a0 hw [] a3 s1 s2 ka h5 n0 hZn Va Es1 Es2) hZ (w 44 rfl) (w 43 rfl) (by decide) (by decide)) (g := (mkF m 11 #[.val (.ref a1), .val (.ref a2), .val (.ref a3)] [(.ref a3), (.ref a1)])) rfl (by rw [hml]; rfl) (argsL := [(.ref a3)]) (rest := [(.ref a1)]) (lenOf pd_6 rfl) rfl (by show 2 * 0 + _ ≤ _; exact Nat.le_of_eq rfl) (hb hby d11_11) (fun _ _ => ⟨rfl, e5, (by decide : 0 + 1 ≤ _), (by decide : 0 + 2 ≤ _)⟩)
 dsimp only [Pt.U, Pt.locs, Pt.cells, Pt.slots] at X8 l8 y8 z8 st8 hQ8
 subst l8 y8 z8
 obtain ⟨⟨lx, rfl, szx0, gex, Ex, Fe0, Fe1⟩, N8q, K8⟩ := hQ8
 have N8 := Fr.app N5 N8q
 have R9 := Rc.st R7 st8
 have szx := Nat.le_trans hK.1 szx0
 have ne_a1_lx : a1 ≠ lx := Nat.ne_of_lt (Nat.lt_of_lt_of_le E1.lt szx0)
 replace hZn := Nat.le_trans hZn K8.1
 replace hK := hK.trans K8 all0
 replace E1 := E1.keep K8
 replace Fk := Fk.keep K8 nin0
 replace Ff := Ff.keep K8 nin0
 replace Va := Va.keep K8 nin0
 replace Es1 := Es1.keep K8
 replace Es2 := Es2.keep K8
 obtain ⟨T10, h10, X10, e10, W10, st10⟩ := putF X8 hx hZ hown (host := "") (Or.inl (w 86 rfl)) Via.refl rfl Ff E1 (Or.inr ⟨(w 87 rfl), rfl, hnm⟩) (w 33 rfl) (ty := (.object "java/util/List")) (by decide) rfl rfl (g := (mkF m 14 #[.val (.ref a1), .val (.ref a2), .val (.ref a3)] [(.ref lx), (.ref a1)])) rfl rfl (hb hby d11_14)
 have N10 := Fr.snoc X10 N8 ge1
 replace hZn := Nat.le_trans hZn (Keep.of_wr W10).1
 replace hK := hK.wr W10 (Or.inl (List.mem_of_getElem? (i := 0) rfl))
 replace E1 := E1.wr W10
 replace Fk := Fk.other W10 (Or.inr (slot_ne (Or.inr (w 40 rfl)) (Or.inr (w 87 rfl)) (by decide) (t := (.object "com/example/verdict_ladder/verdictladder/lint/Finding$Kind")) (t' := (.object "java/util/List")) (by decide) (by decide)))
 replace Ff := Ff.same W10
 replace Va := Va.other W10 ne13
 replace Es1 := Es1.wr W10
 replace Es2 := Es2.wr W10
 replace Ex := Ex.wr W10
 replace Fe0 := Fe0.other W10 (Or.inl (Ne.symm ne_a1_lx))
 replace Fe1 := Fe1.other W10 (Or.inl (Ne.symm ne_a1_lx))
 have R11 := Rc.st R9 st10
 subst hA0
 obtain ⟨fs, hr, hrun, hended, hW, hsame⟩ := X10.leave (v := none) (fun _ => rfl)
 refine ⟨_, _, R11 _ ?_, hrun, hended, _, _, rfl, ?_, ⟨_, rfl⟩, hW, hsame.mono (by decide) (by decide)⟩
 ·show Steps p.tables e below (T10.setTop (mkF m 17 #[.val (.ref a1), .val (.ref a2), .val (.ref a3)] [])) _
  exact X10.returnOut hx Bd.returns (hb hby d11_17) hr
 ·show Qfi2 Z a1 a2 s1 s2 h0 n0 _ T10.heap _
  rw [e10]
  exact ⟨rfl, N10, hK, Fk, lx, szx, gex, Ff, Ex, Fe0, Fe1⟩
theorem ef_rm_fi3 (m : MethodId) (a1 : Addr) (a2 : Addr) (a3 : Addr) : entryFrame m #[(.ref a1), (.ref a2), (.ref a3)] 3 = mkF m 0 #[.val (.ref a1), .val (.ref a2), .val (.ref a3)] [] := by first | (simp [entryFrame, mkF, argsToLocals, Value.category]; done) | rfl
set_option maxRecDepth 65536 in
set_option maxHeartbeats 40000000 in
theorem rm_fi3 (l : Launch) (Z : State) (a0 : Array Value) (hw : ∀ d ∈ tables_1, d.before a0 Z = true) (ws : List Jvm.Cond) (a1 : Addr) (a2 : Addr) (a3 : Addr) (s1 s2 s3 : Addr) (ka : ClassId) (h0 : Heap) (n0 : Nat) (Z0 : n0 ≤ h0.size) (ge1 : n0 ≤ a1) (ne13 : a3 ≠ a1) (E1 : Exa Z h0 a1 "com/example/verdict_ladder/verdictladder/lint/Finding") (Fk : Fld Z h0 a1 "com/example/verdict_ladder/verdictladder/lint/Finding" "kind" "Lcom/example/verdict_ladder/verdictladder/lint/Finding$Kind;" .null) (Ff : Fld Z h0 a1 "com/example/verdict_ladder/verdictladder/lint/Finding" "fields" "Ljava/util/List;" .null) (Va : Arv Z h0 a3 ka (.object "java/lang/String") (3 : Int32) [(.ref s1), (.ref s2), (.ref s3)] .null) (Es1 : Exa Z h0 s1 "java/lang/String") (Es2 : Exa Z h0 s2 "java/lang/String") (Es3 : Exa Z h0 s3 "java/lang/String") :
    MetFree l yn11 (head1 (Jvm.Cond.code yn11 prog_16_method_1_code 3 none :: ws) ({ frames := 7, cells := 2, slots := 5, locals := 91 } : Room)) (fun a U => a = #[(.ref a1), (.ref a2), (.ref a3)] ∧ Z.Warmed39 U.vm ∧ U.heap = h0) (fun _ _ _ _ _ => True) (fun _ U o U' => ∃ v L, o = .returned v ∧ Qfi3 Z a1 a2 s1 s2 s3 h0 n0 v U'.heap L ∧ FrameEnd U o U' L ({ frames := 7, cells := 2, slots := 5, locals := 91 } : Room).cells ({ frames := 7, cells := 2, slots := 5, locals := 91 } : Room).slots) := by
 refine MetFree.of_bodySF (plainFor_of_name pn_com_example_verdict_ladder_verdictladder_lint_Finding) hisR ?_
 intro p e s m args below meth c s₁ Bd hml0 hP hK
 obtain ⟨rfl, hZ, hh⟩ := hP
 have hx := Bd.exec
 have hby := Bd.bytes
 have hml : c.maxLocals = 3 := hml0
 have hown : s.vm.findClass "com/example/verdict_ladder/verdictladder/lint/Finding" = some m.cls := findClass_of_methodNamed Bd.named
 have hnm := (name_of_methodNamed Bd.named Bd.method).1
 have X0 : Stand p l e ({ frames := 7, cells := 2, slots := 5, locals := 91 } : Room) s m #[(.ref a1), (.ref a2), (.ref a3)] below meth c s₁ [] 0 0 := Stand.of_body Bd
 have e0 : s₁.heap = h0 := by rw [← hh, Bd.state]; rfl
 have N0 := Fr.nil n0
 obtain ⟨A0, hA0⟩ : ∃ A, A = s₁.setTop (entryFrame m #[(.ref a1), (.ref a2), (.ref a3)] 3) := ⟨_, rfl⟩
 have R0 : ∀ tgt, Steps p.tables e below (s₁.setTop (mkF m 0 #[.val (.ref a1), .val (.ref a2), .val (.ref a3)] [])) tgt → Steps p.tables e below A0 tgt := fun tgt hgo => by rw [hA0]; exact castTop (ef_rm_fi3 m a1 a2 a3) hgo
 have w : ∀ (i : Nat) {d : Jvm.Cond}, tables_1[i]? = some d → d.before a0 Z = true := fun i d h => hw d (List.mem_of_getElem? h)
 have hZn := Z0
 have hK : Keep h0 h0 [a1] := Keep.refl _ _
 have R1 : Rc p e below A0 (s₁.setTop (mkF m 1 #[.val (.ref a1), .val (.ref a2), .val (.ref a3)] [(.ref a1)])) := by
   intro tgt hgo
   refine R0 tgt ?_
   show Steps p.tables e below (s₁.setTop (mkF m 0 #[.val (.ref a1), .val (.ref a2), .val (.ref a3)] [])) _
   refine XS.aloadN X0.here hx rfl (hb hby d11_0) rfl rfl ?_
   exact hgo
 obtain ⟨T2, X2, e2, st2⟩ := initO X0 hx hZ hown (w 38 rfl) (w 26 rfl) (w 27 rfl) e0 (g := (mkF m 1 #[.val (.ref a1), .val (.ref a2), .val (.ref a3)] [(.ref a1)])) rfl (by rw [hml]; rfl) rfl (hb hby d11_1) (by decide) (W := 0) (by show 2 * 0 + _ ≤ _; exact Nat.le_of_eq rfl) (by decide)
 have R3 := Rc.st R1 st2
 have R4 : Rc p e below A0 (T2.setTop (mkF m 6 #[.val (.ref a1), .val (.ref a2), .val (.ref a3)] [(.ref a2), (.ref a1)])) := by
   intro tgt hgo
   refine R3 tgt ?_
   show Steps p.tables e below (T2.setTop (mkF m 4 #[.val (.ref a1), .val (.ref a2), .val (.ref a3)] [])) _
   refine XS.aloadN X2.here hx rfl (hb hby d11_4) rfl rfl ?_
   refine XS.aloadN X2.here hx rfl (hb hby d11_5) rfl rfl ?_
   exact hgo
 obtain ⟨T5, h5, X5, e5, W5, st5⟩ := putF X2 hx hZ hown (host := "") (Or.inl (w 39 rfl)) Via.refl e2 Fk E1 (Or.inr ⟨(w 40 rfl), rfl, hnm⟩) (w 33 rfl) (ty := (.object "com/example/verdict_ladder/verdictladder/lint/Finding$Kind")) (by decide) rfl rfl (g := (mkF m 6 #[.val (.ref a1), .val (.ref a2), .val (.ref a3)] [(.ref a2), (.ref a1)])) rfl rfl (hb hby d11_6)
 have N5 := Fr.snoc X5 N0 ge1
 replace hZn := Nat.le_trans hZn (Keep.of_wr W5).1
 replace hK := hK.wr W5 (Or.inl (List.mem_of_getElem? (i := 0) rfl))
 replace E1 := E1.wr W5
 replace Fk := Fk.same W5
 replace Ff := Ff.other W5 (Or.inr (slot_ne (Or.inr (w 87 rfl)) (Or.inr (w 40 rfl)) (by decide) (t := (.object "java/util/List")) (t' := (.object "com/example/verdict_ladder/verdictladder/lint/Finding$Kind")) (by decide) (by decide)))
 replace Va := Va.other W5 ne13
 replace Es1 := Es1.wr W5
 replace Es2 := Es2.wr W5
 replace Es3 := Es3.wr W5
 have R6 := Rc.st R4 st5
 have R7 : Rc p e below A0 (T5.setTop (mkF m 11 #[.val (.ref a1), .val (.ref a2), .val (.ref a3)] [(.ref a3), (.ref a1)])) := by
   intro tgt hgo
   refine R6 tgt ?_
   show Steps p.tables e below (T5.setTop (mkF m 9 #[.val (.ref a1), .val (.ref a2), .val (.ref a3)] [])) _
   refine XS.aloadN X5.here hx rfl (hb hby d11_9) rfl rfl ?_
   refine XS.aloadN X5.here hx rfl (hb hby d11_10) rfl rfl ?_
   exact hgo
 obtain ⟨_, _, ⟨T8, L8, k8, n8⟩, -, X8, ⟨Lc8, hQ8, l8, y8, z8⟩, st8⟩ := Jvm.LawKit.callS X5 hx (y := yn10) hown (mvT hZ (w 41 rfl)) (mvT hZ (w 42 rfl)) (mvT hZ (w 43 rfl)) (mvT hZ (w 44 rfl)) (by decide) (backOf (W := 1) (rm_of3 l Z a0 hw [] a3 s1 s2 s3 ka h5 n0 hZn Va Es1 Es2 Es3) hZ (w 44 rfl) (w 43 rfl) (by decide) (by decide)) (g := (mkF m 11 #[.val (.ref a1), .val (.ref a2), .val (.ref a3)] [(.ref a3), (.ref a1)])) rfl (by rw [hml]; rfl) (argsL := [(.ref a3)]) (rest := [(.ref a1)]) (lenOf pd_6 rfl) rfl (by show 2 * 0 + _ ≤ _; exact Nat.le_of_eq rfl) (hb hby d11_11) (fun _ _ => ⟨rfl, e5, (by decide : 0 + 2 ≤ _), (by decide : 0 + 5 ≤ _)⟩)
 dsimp only [Pt.U, Pt.locs, Pt.cells, Pt.slots] at X8 l8 y8 z8 st8 hQ8
 subst l8 y8 z8
 obtain ⟨⟨lx, rfl, szx0, gex, Ex, ea, ke, sze0, gee, nee, Fe, Ve⟩, N8q, K8⟩ := hQ8
 have N8 := Fr.app N5 N8q
 have R9 := Rc.st R7 st8
 have szx := Nat.le_trans hK.1 szx0
 have ne_a1_lx : a1 ≠ lx := Nat.ne_of_lt (Nat.lt_of_lt_of_le E1.lt szx0)
 have sze := Nat.le_trans hK.1 sze0
 have ne_a1_ea : a1 ≠ ea := Nat.ne_of_lt (Nat.lt_of_lt_of_le E1.lt sze0)
 replace hZn := Nat.le_trans hZn K8.1
 replace hK := hK.trans K8 all0
 replace E1 := E1.keep K8
 replace Fk := Fk.keep K8 nin0
 replace Ff := Ff.keep K8 nin0
 replace Va := Va.keep K8 nin0
 replace Es1 := Es1.keep K8
 replace Es2 := Es2.keep K8
 replace Es3 := Es3.keep K8
 obtain ⟨T10, h10, X10, e10, W10, st10⟩ := putF X8 hx hZ hown (host := "") (Or.inl (w 86 rfl)) Via.refl rfl Ff E1 (Or.inr ⟨(w 87 rfl), rfl, hnm⟩) (w 33 rfl) (ty := (.object "java/util/List")) (by decide) rfl rfl (g := (mkF m 14 #[.val (.ref a1), .val (.ref a2), .val (.ref a3)] [(.ref lx), (.ref a1)])) rfl rfl (hb hby d11_14)
 have N10 := Fr.snoc X10 N8 ge1
 replace hZn := Nat.le_trans hZn (Keep.of_wr W10).1
 replace hK := hK.wr W10 (Or.inl (List.mem_of_getElem? (i := 0) rfl))
 replace E1 := E1.wr W10
 replace Fk := Fk.other W10 (Or.inr (slot_ne (Or.inr (w 40 rfl)) (Or.inr (w 87 rfl)) (by decide) (t := (.object "com/example/verdict_ladder/verdictladder/lint/Finding$Kind")) (t' := (.object "java/util/List")) (by decide) (by decide)))
 replace Ff := Ff.same W10
 replace Va := Va.other W10 ne13
 replace Es1 := Es1.wr W10
 replace Es2 := Es2.wr W10
 replace Es3 := Es3.wr W10
 replace Ex := Ex.wr W10
 replace Fe := Fe.other W10 (Or.inl (Ne.symm ne_a1_lx))
 replace Ve := Ve.other W10 (Ne.symm ne_a1_ea)
 have R11 := Rc.st R9 st10
 subst hA0
 obtain ⟨fs, hr, hrun, hended, hW, hsame⟩ := X10.leave (v := none) (fun _ => rfl)
 refine ⟨_, _, R11 _ ?_, hrun, hended, _, _, rfl, ?_, ⟨_, rfl⟩, hW, hsame.mono (by decide) (by decide)⟩
 ·show Steps p.tables e below (T10.setTop (mkF m 17 #[.val (.ref a1), .val (.ref a2), .val (.ref a3)] [])) _
  exact X10.returnOut hx Bd.returns (hb hby d11_17) hr
 ·show Qfi3 Z a1 a2 s1 s2 s3 h0 n0 _ T10.heap _
  rw [e10]
  exact ⟨rfl, N10, hK, Fk, lx, szx, gex, Ff, Ex, ea, ke, sze, gee, nee, Fe, Ve⟩
abbrev yn12 : MethodName := ⟨"java/util/ImmutableCollections$ListN", "size", "()I"⟩
theorem ef_rm_ns (m : MethodId) (a1 : Addr) : entryFrame m #[(.ref a1)] 1 = mkF m 0 #[.val (.ref a1)] [] := by first | (simp [entryFrame, mkF, argsToLocals, Value.category]; done) | rfl
theorem d12_0 : decode jdk_45_method_3_code 0 = .ok (.aload_n 0, 1) := by decide +kernel
theorem d12_1 : decode jdk_45_method_3_code 1 = .ok (.getfield 7, 3) := by decide +kernel
theorem d12_4 : decode jdk_45_method_3_code 4 = .ok (.arraylength, 1) := by decide +kernel
theorem d12_5 : decode jdk_45_method_3_code 5 = .ok (.ireturn, 1) := by decide +kernel
set_option maxRecDepth 65536 in
set_option maxHeartbeats 40000000 in
theorem rm_ns (l : Launch) (Z : State) (a0 : Array Value) (hw : ∀ d ∈ tables_1, d.before a0 Z = true) (ws : List Jvm.Cond) (a1 : Addr) (ea : Addr) (ke : ClassId) (N : Int32) (vs : List Value) (h0 : Heap) (n0 : Nat) (Z0 : n0 ≤ h0.size) (F1 : Fld Z h0 a1 "java/util/ImmutableCollections$ListN" "elements" "[Ljava/lang/Object;" (.ref ea)) (V1 : Arv Z h0 ea ke (.object "java/lang/Object") N vs .null) :
    MetFree l yn12 (head1 (Jvm.Cond.code yn12 jdk_45_method_3_code 1 (some .int) :: ws) ({ frames := 0, cells := 0, slots := 0, locals := 0 } : Room)) (fun a U => a = #[(.ref a1)] ∧ Z.Warmed39 U.vm ∧ U.heap = h0) (fun _ _ _ _ _ => True) (fun _ U o U' => ∃ v L, o = .returned v ∧ Qi N h0 n0 v U'.heap L ∧ FrameEnd U o U' L ({ frames := 0, cells := 0, slots := 0, locals := 0 } : Room).cells ({ frames := 0, cells := 0, slots := 0, locals := 0 } : Room).slots) := by
 refine MetFree.of_bodySF (plainFor_of_name pn_java_util_ImmutableCollections_ListN) hisR ?_
 intro p e s m args below meth c s₁ Bd hml0 hP hK
 obtain ⟨rfl, hZ, hh⟩ := hP
 have hx := Bd.exec
 have hby := Bd.bytes
 have hml : c.maxLocals = 1 := hml0
 have hown : s.vm.findClass "java/util/ImmutableCollections$ListN" = some m.cls := findClass_of_methodNamed Bd.named
 have hnm := (name_of_methodNamed Bd.named Bd.method).1
 have X0 : Stand p l e ({ frames := 0, cells := 0, slots := 0, locals := 0 } : Room) s m #[(.ref a1)] below meth c s₁ [] 0 0 := Stand.of_body Bd
 have e0 : s₁.heap = h0 := by rw [← hh, Bd.state]; rfl
 have N0 := Fr.nil n0
 obtain ⟨A0, hA0⟩ : ∃ A, A = s₁.setTop (entryFrame m #[(.ref a1)] 1) := ⟨_, rfl⟩
 have R0 : ∀ tgt, Steps p.tables e below (s₁.setTop (mkF m 0 #[.val (.ref a1)] [])) tgt → Steps p.tables e below A0 tgt := fun tgt hgo => by rw [hA0]; exact castTop (ef_rm_ns m a1) hgo
 have w : ∀ (i : Nat) {d : Jvm.Cond}, tables_1[i]? = some d → d.before a0 Z = true := fun i d h => hw d (List.mem_of_getElem? h)
 have R1 : Rc p e below A0 (s₁.setTop (mkF m 1 #[.val (.ref a1)] [(.ref a1)])) := by
   intro tgt hgo
   refine R0 tgt ?_
   show Steps p.tables e below (s₁.setTop (mkF m 0 #[.val (.ref a1)] [])) _
   refine XS.aloadN X0.here hx rfl (hb hby d12_0) rfl rfl ?_
   exact hgo
 obtain ⟨T2, X2, e2, st2⟩ := getF X0 hx hZ hown (host := "") (Or.inl (w 82 rfl)) Via.refl e0 F1 (g := (mkF m 1 #[.val (.ref a1)] [(.ref a1)])) rfl rfl (hb hby d12_1)
 have R3 := Rc.st R1 st2
 obtain ⟨cl4, Ar4, -, S4, Nn4, -, -⟩ := id V1
 have R5 : Rc p e below A0 (T2.setTop (mkF m 5 #[.val (.ref a1)] [(.int N)])) := by
   intro tgt hgo
   refine R3 tgt ?_
   refine X2.arraylength hx (by rw [e2]; exact Ar4.1) (State.isArrayOf_alike hZ.alike Ar4.2.1) (g := (mkF m 4 #[.val (.ref a1)] [(.ref ea)])) rfl rfl (hb hby d12_4) _ ?_
   rw [len_of S4 Nn4]
   exact hgo
 subst hA0
 obtain ⟨fs, hr, hrun, hended, hW, hsame⟩ := X2.leave (v := some (.int N)) (fun h => by rw [Bd.returns] at h; cases h)
 refine ⟨_, _, R5 _ ?_, hrun, hended, _, _, rfl, ?_, ⟨_, rfl⟩, hW, hsame.mono (by decide) (by decide)⟩
 ·show Steps p.tables e below (T2.setTop (mkF m 5 #[.val (.ref a1)] [(.int N)])) _
  exact retI X2 hx Bd.returns (hb hby d12_5) hr
 ·show Qi N h0 n0 _ T2.heap _
  rw [e2]
  exact ⟨rfl, N0, rfl⟩
abbrev yn13 : MethodName := ⟨"java/util/ImmutableCollections$ListN", "get", "(I)Ljava/lang/Object;"⟩
theorem ef_rm_ng0 (m : MethodId) (a1 : Addr) : entryFrame m #[(.ref a1), (.int (0 : Int32))] 2 = mkF m 0 #[.val (.ref a1), .val (.int (0 : Int32))] [] := by first | (simp [entryFrame, mkF, argsToLocals, Value.category]; done) | rfl
theorem d13_0 : decode jdk_45_method_4_code 0 = .ok (.aload_n 0, 1) := by decide +kernel
theorem d13_1 : decode jdk_45_method_4_code 1 = .ok (.getfield 7, 3) := by decide +kernel
theorem d13_4 : decode jdk_45_method_4_code 4 = .ok (.iload_n 1, 1) := by decide +kernel
theorem d13_5 : decode jdk_45_method_4_code 5 = .ok (.aaload, 1) := by decide +kernel
theorem d13_6 : decode jdk_45_method_4_code 6 = .ok (.areturn, 1) := by decide +kernel
set_option maxRecDepth 65536 in
set_option maxHeartbeats 40000000 in
theorem rm_ng0 (l : Launch) (Z : State) (a0 : Array Value) (hw : ∀ d ∈ tables_1, d.before a0 Z = true) (ws : List Jvm.Cond) (a1 : Addr) (s1 s2 s3 ea : Addr) (ke : ClassId) (h0 : Heap) (n0 : Nat) (Z0 : n0 ≤ h0.size) (F1 : Fld Z h0 a1 "java/util/ImmutableCollections$ListN" "elements" "[Ljava/lang/Object;" (.ref ea)) (V1 : Arv Z h0 ea ke (.object "java/lang/Object") 3 [(.ref s1), (.ref s2), (.ref s3)] .null) :
    MetFree l yn13 (head1 (Jvm.Cond.code yn13 jdk_45_method_4_code 2 (some (.object "java/lang/Object")) :: ws) ({ frames := 0, cells := 0, slots := 0, locals := 0 } : Room)) (fun a U => a = #[(.ref a1), (.int (0 : Int32))] ∧ Z.Warmed39 U.vm ∧ U.heap = h0) (fun _ _ _ _ _ => True) (fun _ U o U' => ∃ v L, o = .returned v ∧ Qr s1 h0 n0 v U'.heap L ∧ FrameEnd U o U' L ({ frames := 0, cells := 0, slots := 0, locals := 0 } : Room).cells ({ frames := 0, cells := 0, slots := 0, locals := 0 } : Room).slots) := by
 refine MetFree.of_bodySF (plainFor_of_name pn_java_util_ImmutableCollections_ListN) hisR ?_
 intro p e s m args below meth c s₁ Bd hml0 hP hK
 obtain ⟨rfl, hZ, hh⟩ := hP
 have hx := Bd.exec
 have hby := Bd.bytes
 have hml : c.maxLocals = 2 := hml0
 have hown : s.vm.findClass "java/util/ImmutableCollections$ListN" = some m.cls := findClass_of_methodNamed Bd.named
 have hnm := (name_of_methodNamed Bd.named Bd.method).1
 have X0 : Stand p l e ({ frames := 0, cells := 0, slots := 0, locals := 0 } : Room) s m #[(.ref a1), (.int 0)] below meth c s₁ [] 0 0 := Stand.of_body Bd
 have e0 : s₁.heap = h0 := by rw [← hh, Bd.state]; rfl
 have N0 := Fr.nil n0
 obtain ⟨A0, hA0⟩ : ∃ A, A = s₁.setTop (entryFrame m #[(.ref a1), (.int 0)] 2) := ⟨_, rfl⟩
 have R0 : ∀ tgt, Steps p.tables e below (s₁.setTop (mkF m 0 #[.val (.ref a1), .val (.int 0)] [])) tgt → Steps p.tables e below A0 tgt := fun tgt hgo => by rw [hA0]; exact castTop (ef_rm_ng0 m a1) hgo
 have w : ∀ (i : Nat) {d : Jvm.Cond}, tables_1[i]? = some d → d.before a0 Z = true := fun i d h => hw d (List.mem_of_getElem? h)
 have R1 : Rc p e below A0 (s₁.setTop (mkF m 1 #[.val (.ref a1), .val (.int 0)] [(.ref a1)])) := by
   intro tgt hgo
   refine R0 tgt ?_
   show Steps p.tables e below (s₁.setTop (mkF m 0 #[.val (.ref a1), .val (.int 0)] [])) _
   refine XS.aloadN X0.here hx rfl (hb hby d13_0) rfl rfl ?_
   exact hgo
 obtain ⟨T2, X2, e2, st2⟩ := getF X0 hx hZ hown (host := "") (Or.inl (w 82 rfl)) Via.refl e0 F1 (g := (mkF m 1 #[.val (.ref a1), .val (.int 0)] [(.ref a1)])) rfl rfl (hb hby d13_1)
 have R3 := Rc.st R1 st2
 have R4 : Rc p e below A0 (T2.setTop (mkF m 5 #[.val (.ref a1), .val (.int 0)] [(.int 0), (.ref ea)])) := by
   intro tgt hgo
   refine R3 tgt ?_
   show Steps p.tables e below (T2.setTop (mkF m 4 #[.val (.ref a1), .val (.int 0)] [(.ref ea)])) _
   refine XS.iloadN X2.here hx rfl (hb hby d13_4) rfl ?_
   exact hgo
 obtain ⟨cl5, Ar5, q5, S5, Nn5, H5, G5⟩ := id V1
 have hin5 : ¬ ((0 : Int32) < 0 ∨ cl5.slots.size ≤ ((0 : Int32)).toNatClampNeg) := inb_of S5 ⟨by decide, by decide⟩
 have hat5 : cl5.slots[((0 : Int32)).toNatClampNeg]? = some (.ref s1) := Has.at H5 hin5 rfl
 have R6 : Rc p e below A0 (T2.setTop (mkF m 6 #[.val (.ref a1), .val (.int 0)] [(.ref s1)])) := by
   intro tgt hgo
   refine R4 tgt ?_
   refine X2.aaload hx (j := (0 : Int32)) (v := (.ref s1)) (by rw [e2]; exact Ar5.1) (State.isArrayOf_alike hZ.alike Ar5.2.1) rfl Ar5.2.2 hin5 hat5 (g := (mkF m 5 #[.val (.ref a1), .val (.int 0)] [(.int 0), (.ref ea)])) rfl rfl (hb hby d13_5) _ ?_
   exact hgo
 subst hA0
 obtain ⟨fs, hr, hrun, hended, hW, hsame⟩ := X2.leave (v := some (.ref s1)) (fun h => by rw [Bd.returns] at h; cases h)
 refine ⟨_, _, R6 _ ?_, hrun, hended, _, _, rfl, ?_, ⟨_, rfl⟩, hW, hsame.mono (by decide) (by decide)⟩
 ·show Steps p.tables e below (T2.setTop (mkF m 6 #[.val (.ref a1), .val (.int 0)] [(.ref s1)])) _
  jvm_step X2.here [X2.here.top, hx, (hb hby d13_6), X2.method', Bd.returns, Value.isRef, FieldType.isReference]
  first | (intro acts; rw [hr _ acts rfl rfl rfl]) | rw [hr _ _ rfl rfl rfl]
  exact Steps.refl _
 ·show Qr s1 h0 n0 _ T2.heap _
  rw [e2]
  exact ⟨rfl, N0, rfl⟩
theorem ef_rm_ng1 (m : MethodId) (a1 : Addr) : entryFrame m #[(.ref a1), (.int (1 : Int32))] 2 = mkF m 0 #[.val (.ref a1), .val (.int (1 : Int32))] [] := by first | (simp [entryFrame, mkF, argsToLocals, Value.category]; done) | rfl
set_option maxRecDepth 65536 in
set_option maxHeartbeats 40000000 in
theorem rm_ng1 (l : Launch) (Z : State) (a0 : Array Value) (hw : ∀ d ∈ tables_1, d.before a0 Z = true) (ws : List Jvm.Cond) (a1 : Addr) (s1 s2 s3 ea : Addr) (ke : ClassId) (h0 : Heap) (n0 : Nat) (Z0 : n0 ≤ h0.size) (F1 : Fld Z h0 a1 "java/util/ImmutableCollections$ListN" "elements" "[Ljava/lang/Object;" (.ref ea)) (V1 : Arv Z h0 ea ke (.object "java/lang/Object") 3 [(.ref s1), (.ref s2), (.ref s3)] .null) :
    MetFree l yn13 (head1 (Jvm.Cond.code yn13 jdk_45_method_4_code 2 (some (.object "java/lang/Object")) :: ws) ({ frames := 0, cells := 0, slots := 0, locals := 0 } : Room)) (fun a U => a = #[(.ref a1), (.int (1 : Int32))] ∧ Z.Warmed39 U.vm ∧ U.heap = h0) (fun _ _ _ _ _ => True) (fun _ U o U' => ∃ v L, o = .returned v ∧ Qr s2 h0 n0 v U'.heap L ∧ FrameEnd U o U' L ({ frames := 0, cells := 0, slots := 0, locals := 0 } : Room).cells ({ frames := 0, cells := 0, slots := 0, locals := 0 } : Room).slots) := by
 refine MetFree.of_bodySF (plainFor_of_name pn_java_util_ImmutableCollections_ListN) hisR ?_
 intro p e s m args below meth c s₁ Bd hml0 hP hK
 obtain ⟨rfl, hZ, hh⟩ := hP
 have hx := Bd.exec
 have hby := Bd.bytes
 have hml : c.maxLocals = 2 := hml0
 have hown : s.vm.findClass "java/util/ImmutableCollections$ListN" = some m.cls := findClass_of_methodNamed Bd.named
 have hnm := (name_of_methodNamed Bd.named Bd.method).1
 have X0 : Stand p l e ({ frames := 0, cells := 0, slots := 0, locals := 0 } : Room) s m #[(.ref a1), (.int 1)] below meth c s₁ [] 0 0 := Stand.of_body Bd
 have e0 : s₁.heap = h0 := by rw [← hh, Bd.state]; rfl
 have N0 := Fr.nil n0
 obtain ⟨A0, hA0⟩ : ∃ A, A = s₁.setTop (entryFrame m #[(.ref a1), (.int 1)] 2) := ⟨_, rfl⟩
 have R0 : ∀ tgt, Steps p.tables e below (s₁.setTop (mkF m 0 #[.val (.ref a1), .val (.int 1)] [])) tgt → Steps p.tables e below A0 tgt := fun tgt hgo => by rw [hA0]; exact castTop (ef_rm_ng1 m a1) hgo
 have w : ∀ (i : Nat) {d : Jvm.Cond}, tables_1[i]? = some d → d.before a0 Z = true := fun i d h => hw d (List.mem_of_getElem? h)
 have R1 : Rc p e below A0 (s₁.setTop (mkF m 1 #[.val (.ref a1), .val (.int 1)] [(.ref a1)])) := by
   intro tgt hgo
   refine R0 tgt ?_
   show Steps p.tables e below (s₁.setTop (mkF m 0 #[.val (.ref a1), .val (.int 1)] [])) _
   refine XS.aloadN X0.here hx rfl (hb hby d13_0) rfl rfl ?_
   exact hgo
 obtain ⟨T2, X2, e2, st2⟩ := getF X0 hx hZ hown (host := "") (Or.inl (w 82 rfl)) Via.refl e0 F1 (g := (mkF m 1 #[.val (.ref a1), .val (.int 1)] [(.ref a1)])) rfl rfl (hb hby d13_1)
 have R3 := Rc.st R1 st2
 have R4 : Rc p e below A0 (T2.setTop (mkF m 5 #[.val (.ref a1), .val (.int 1)] [(.int 1), (.ref ea)])) := by
   intro tgt hgo
   refine R3 tgt ?_
   show Steps p.tables e below (T2.setTop (mkF m 4 #[.val (.ref a1), .val (.int 1)] [(.ref ea)])) _
   refine XS.iloadN X2.here hx rfl (hb hby d13_4) rfl ?_
   exact hgo
 obtain ⟨cl5, Ar5, q5, S5, Nn5, H5, G5⟩ := id V1
 have hin5 : ¬ ((1 : Int32) < 0 ∨ cl5.slots.size ≤ ((1 : Int32)).toNatClampNeg) := inb_of S5 ⟨by decide, by decide⟩
 have hat5 : cl5.slots[((1 : Int32)).toNatClampNeg]? = some (.ref s2) := Has.at H5 hin5 rfl
 have R6 : Rc p e below A0 (T2.setTop (mkF m 6 #[.val (.ref a1), .val (.int 1)] [(.ref s2)])) := by
   intro tgt hgo
   refine R4 tgt ?_
   refine X2.aaload hx (j := (1 : Int32)) (v := (.ref s2)) (by rw [e2]; exact Ar5.1) (State.isArrayOf_alike hZ.alike Ar5.2.1) rfl Ar5.2.2 hin5 hat5 (g := (mkF m 5 #[.val (.ref a1), .val (.int 1)] [(.int 1), (.ref ea)])) rfl rfl (hb hby d13_5) _ ?_
   exact hgo
 subst hA0
 obtain ⟨fs, hr, hrun, hended, hW, hsame⟩ := X2.leave (v := some (.ref s2)) (fun h => by rw [Bd.returns] at h; cases h)
 refine ⟨_, _, R6 _ ?_, hrun, hended, _, _, rfl, ?_, ⟨_, rfl⟩, hW, hsame.mono (by decide) (by decide)⟩
 ·show Steps p.tables e below (T2.setTop (mkF m 6 #[.val (.ref a1), .val (.int 1)] [(.ref s2)])) _
  jvm_step X2.here [X2.here.top, hx, (hb hby d13_6), X2.method', Bd.returns, Value.isRef, FieldType.isReference]
  first | (intro acts; rw [hr _ acts rfl rfl rfl]) | rw [hr _ _ rfl rfl rfl]
  exact Steps.refl _
 ·show Qr s2 h0 n0 _ T2.heap _
  rw [e2]
  exact ⟨rfl, N0, rfl⟩
theorem ef_rm_ng2 (m : MethodId) (a1 : Addr) : entryFrame m #[(.ref a1), (.int (2 : Int32))] 2 = mkF m 0 #[.val (.ref a1), .val (.int (2 : Int32))] [] := by first | (simp [entryFrame, mkF, argsToLocals, Value.category]; done) | rfl
set_option maxRecDepth 65536 in
set_option maxHeartbeats 40000000 in
theorem rm_ng2 (l : Launch) (Z : State) (a0 : Array Value) (hw : ∀ d ∈ tables_1, d.before a0 Z = true) (ws : List Jvm.Cond) (a1 : Addr) (s1 s2 s3 ea : Addr) (ke : ClassId) (h0 : Heap) (n0 : Nat) (Z0 : n0 ≤ h0.size) (F1 : Fld Z h0 a1 "java/util/ImmutableCollections$ListN" "elements" "[Ljava/lang/Object;" (.ref ea)) (V1 : Arv Z h0 ea ke (.object "java/lang/Object") 3 [(.ref s1), (.ref s2), (.ref s3)] .null) :
    MetFree l yn13 (head1 (Jvm.Cond.code yn13 jdk_45_method_4_code 2 (some (.object "java/lang/Object")) :: ws) ({ frames := 0, cells := 0, slots := 0, locals := 0 } : Room)) (fun a U => a = #[(.ref a1), (.int (2 : Int32))] ∧ Z.Warmed39 U.vm ∧ U.heap = h0) (fun _ _ _ _ _ => True) (fun _ U o U' => ∃ v L, o = .returned v ∧ Qr s3 h0 n0 v U'.heap L ∧ FrameEnd U o U' L ({ frames := 0, cells := 0, slots := 0, locals := 0 } : Room).cells ({ frames := 0, cells := 0, slots := 0, locals := 0 } : Room).slots) := by
 refine MetFree.of_bodySF (plainFor_of_name pn_java_util_ImmutableCollections_ListN) hisR ?_
 intro p e s m args below meth c s₁ Bd hml0 hP hK
 obtain ⟨rfl, hZ, hh⟩ := hP
 have hx := Bd.exec
 have hby := Bd.bytes
 have hml : c.maxLocals = 2 := hml0
 have hown : s.vm.findClass "java/util/ImmutableCollections$ListN" = some m.cls := findClass_of_methodNamed Bd.named
 have hnm := (name_of_methodNamed Bd.named Bd.method).1
 have X0 : Stand p l e ({ frames := 0, cells := 0, slots := 0, locals := 0 } : Room) s m #[(.ref a1), (.int 2)] below meth c s₁ [] 0 0 := Stand.of_body Bd
 have e0 : s₁.heap = h0 := by rw [← hh, Bd.state]; rfl
 have N0 := Fr.nil n0
 obtain ⟨A0, hA0⟩ : ∃ A, A = s₁.setTop (entryFrame m #[(.ref a1), (.int 2)] 2) := ⟨_, rfl⟩
 have R0 : ∀ tgt, Steps p.tables e below (s₁.setTop (mkF m 0 #[.val (.ref a1), .val (.int 2)] [])) tgt → Steps p.tables e below A0 tgt := fun tgt hgo => by rw [hA0]; exact castTop (ef_rm_ng2 m a1) hgo
 have w : ∀ (i : Nat) {d : Jvm.Cond}, tables_1[i]? = some d → d.before a0 Z = true := fun i d h => hw d (List.mem_of_getElem? h)
 have R1 : Rc p e below A0 (s₁.setTop (mkF m 1 #[.val (.ref a1), .val (.int 2)] [(.ref a1)])) := by
   intro tgt hgo
   refine R0 tgt ?_
   show Steps p.tables e below (s₁.setTop (mkF m 0 #[.val (.ref a1), .val (.int 2)] [])) _
   refine XS.aloadN X0.here hx rfl (hb hby d13_0) rfl rfl ?_
   exact hgo
 obtain ⟨T2, X2, e2, st2⟩ := getF X0 hx hZ hown (host := "") (Or.inl (w 82 rfl)) Via.refl e0 F1 (g := (mkF m 1 #[.val (.ref a1), .val (.int 2)] [(.ref a1)])) rfl rfl (hb hby d13_1)
 have R3 := Rc.st R1 st2
 have R4 : Rc p e below A0 (T2.setTop (mkF m 5 #[.val (.ref a1), .val (.int 2)] [(.int 2), (.ref ea)])) := by
   intro tgt hgo
   refine R3 tgt ?_
   show Steps p.tables e below (T2.setTop (mkF m 4 #[.val (.ref a1), .val (.int 2)] [(.ref ea)])) _
   refine XS.iloadN X2.here hx rfl (hb hby d13_4) rfl ?_
   exact hgo
 obtain ⟨cl5, Ar5, q5, S5, Nn5, H5, G5⟩ := id V1
 have hin5 : ¬ ((2 : Int32) < 0 ∨ cl5.slots.size ≤ ((2 : Int32)).toNatClampNeg) := inb_of S5 ⟨by decide, by decide⟩
 have hat5 : cl5.slots[((2 : Int32)).toNatClampNeg]? = some (.ref s3) := Has.at H5 hin5 rfl
 have R6 : Rc p e below A0 (T2.setTop (mkF m 6 #[.val (.ref a1), .val (.int 2)] [(.ref s3)])) := by
   intro tgt hgo
   refine R4 tgt ?_
   refine X2.aaload hx (j := (2 : Int32)) (v := (.ref s3)) (by rw [e2]; exact Ar5.1) (State.isArrayOf_alike hZ.alike Ar5.2.1) rfl Ar5.2.2 hin5 hat5 (g := (mkF m 5 #[.val (.ref a1), .val (.int 2)] [(.int 2), (.ref ea)])) rfl rfl (hb hby d13_5) _ ?_
   exact hgo
 subst hA0
 obtain ⟨fs, hr, hrun, hended, hW, hsame⟩ := X2.leave (v := some (.ref s3)) (fun h => by rw [Bd.returns] at h; cases h)
 refine ⟨_, _, R6 _ ?_, hrun, hended, _, _, rfl, ?_, ⟨_, rfl⟩, hW, hsame.mono (by decide) (by decide)⟩
 ·show Steps p.tables e below (T2.setTop (mkF m 6 #[.val (.ref a1), .val (.int 2)] [(.ref s3)])) _
  jvm_step X2.here [X2.here.top, hx, (hb hby d13_6), X2.method', Bd.returns, Value.isRef, FieldType.isReference]
  first | (intro acts; rw [hr _ acts rfl rfl rfl]) | rw [hr _ _ rfl rfl rfl]
  exact Steps.refl _
 ·show Qr s3 h0 n0 _ T2.heap _
  rw [e2]
  exact ⟨rfl, N0, rfl⟩
abbrev yn14 : MethodName := ⟨"java/util/ImmutableCollections$List12", "size", "()I"⟩
theorem ef_rm_2s1 (m : MethodId) (a1 : Addr) : entryFrame m #[(.ref a1)] 1 = mkF m 0 #[.val (.ref a1)] [] := by first | (simp [entryFrame, mkF, argsToLocals, Value.category]; done) | rfl
theorem d14_0 : decode jdk_44_method_3_code 0 = .ok (.aload_n 0, 1) := by decide +kernel
theorem d14_1 : decode jdk_44_method_3_code 1 = .ok (.getfield 24, 3) := by decide +kernel
theorem d14_4 : decode jdk_44_method_3_code 4 = .ok (.getstatic 19, 3) := by decide +kernel
theorem d14_7 : decode jdk_44_method_3_code 7 = .ok (.if_acmp .eq 7, 3) := by decide +kernel
theorem d14_14 : decode jdk_44_method_3_code 14 = .ok (.iconst 1, 1) := by decide +kernel
theorem d14_15 : decode jdk_44_method_3_code 15 = .ok (.ireturn, 1) := by decide +kernel
set_option maxRecDepth 65536 in
set_option maxHeartbeats 40000000 in
theorem rm_2s1 (l : Launch) (Z : State) (a0 : Array Value) (hw : ∀ d ∈ tables_1, d.before a0 Z = true) (ws : List Jvm.Cond) (a1 : Addr) (em : Addr) (h0 : Heap) (n0 : Nat) (Z0 : n0 ≤ h0.size) (X00 : Old Z n0 h0) (S_em : Sta Z Z.heap "java/util/ImmutableCollections" "EMPTY" "Ljava/lang/Object;" (.ref em)) (F1 : Fld Z h0 a1 "java/util/ImmutableCollections$List12" "e1" "Ljava/lang/Object;" (.ref em)) :
    MetFree l yn14 (head1 (Jvm.Cond.code yn14 jdk_44_method_3_code 1 (some .int) :: ws) ({ frames := 0, cells := 0, slots := 0, locals := 0 } : Room)) (fun a U => a = #[(.ref a1)] ∧ Z.Warmed39 U.vm ∧ U.heap = h0) (fun _ _ _ _ _ => True) (fun _ U o U' => ∃ v L, o = .returned v ∧ Qi 1 h0 n0 v U'.heap L ∧ FrameEnd U o U' L ({ frames := 0, cells := 0, slots := 0, locals := 0 } : Room).cells ({ frames := 0, cells := 0, slots := 0, locals := 0 } : Room).slots) := by
 refine MetFree.of_bodySF (plainFor_of_name pn_java_util_ImmutableCollections_List12) hisR ?_
 intro p e s m args below meth c s₁ Bd hml0 hP hK
 obtain ⟨rfl, hZ, hh⟩ := hP
 have hx := Bd.exec
 have hby := Bd.bytes
 have hml : c.maxLocals = 1 := hml0
 have hown : s.vm.findClass "java/util/ImmutableCollections$List12" = some m.cls := findClass_of_methodNamed Bd.named
 have hnm := (name_of_methodNamed Bd.named Bd.method).1
 have X0 : Stand p l e ({ frames := 0, cells := 0, slots := 0, locals := 0 } : Room) s m #[(.ref a1)] below meth c s₁ [] 0 0 := Stand.of_body Bd
 have e0 : s₁.heap = h0 := by rw [← hh, Bd.state]; rfl
 have N0 := Fr.nil n0
 obtain ⟨A0, hA0⟩ : ∃ A, A = s₁.setTop (entryFrame m #[(.ref a1)] 1) := ⟨_, rfl⟩
 have R0 : ∀ tgt, Steps p.tables e below (s₁.setTop (mkF m 0 #[.val (.ref a1)] [])) tgt → Steps p.tables e below A0 tgt := fun tgt hgo => by rw [hA0]; exact castTop (ef_rm_2s1 m a1) hgo
 have w : ∀ (i : Nat) {d : Jvm.Cond}, tables_1[i]? = some d → d.before a0 Z = true := fun i d h => hw d (List.mem_of_getElem? h)
 have R1 : Rc p e below A0 (s₁.setTop (mkF m 1 #[.val (.ref a1)] [(.ref a1)])) := by
   intro tgt hgo
   refine R0 tgt ?_
   show Steps p.tables e below (s₁.setTop (mkF m 0 #[.val (.ref a1)] [])) _
   refine XS.aloadN X0.here hx rfl (hb hby d14_0) rfl rfl ?_
   exact hgo
 obtain ⟨T2, X2, e2, st2⟩ := getF X0 hx hZ hown (host := "") (Or.inl (w 150 rfl)) Via.refl e0 F1 (g := (mkF m 1 #[.val (.ref a1)] [(.ref a1)])) rfl rfl (hb hby d14_1)
 have R3 := Rc.st R1 st2
 obtain ⟨T4, X4, e4, st4⟩ := getS2 X2 hx hZ hown (Or.inr (w 158 rfl)) Via.refl e2 (S_em.ext X00.2) (g := (mkF m 4 #[.val (.ref a1)] [(.ref em)])) rfl (hb hby d14_4)
 have R5 := Rc.st R3 st4
 have R6 : Rc p e below A0 (T4.setTop (mkF m 15 #[.val (.ref a1)] [(.int 1)])) := by
   intro tgt hgo
   refine R5 tgt ?_
   show Steps p.tables e below (T4.setTop (mkF m 7 #[.val (.ref a1)] [(.ref em), (.ref em)])) _
   refine Jvm.RoadKit.acmp (g := (mkF m 7 #[.val (.ref a1)] [(.ref em), (.ref em)])) X4 hx rfl rfl rfl (pc0 := 7) (pc' := 14) (same := true) rfl (hb hby d14_7) rfl (decide_eq_true rfl) (by decide) (by decide) ?_
   refine XS.iconst X4.here hx rfl (hb hby d14_14) ?_
   exact hgo
 subst hA0
 obtain ⟨fs, hr, hrun, hended, hW, hsame⟩ := X4.leave (v := some (.int 1)) (fun h => by rw [Bd.returns] at h; cases h)
 refine ⟨_, _, R6 _ ?_, hrun, hended, _, _, rfl, ?_, ⟨_, rfl⟩, hW, hsame.mono (by decide) (by decide)⟩
 ·show Steps p.tables e below (T4.setTop (mkF m 15 #[.val (.ref a1)] [(.int 1)])) _
  exact retI X4 hx Bd.returns (hb hby d14_15) hr
 ·show Qi 1 h0 n0 _ T4.heap _
  rw [e4]
  exact ⟨rfl, N0, rfl⟩
theorem ef_rm_2s2 (m : MethodId) (a1 : Addr) : entryFrame m #[(.ref a1)] 1 = mkF m 0 #[.val (.ref a1)] [] := by first | (simp [entryFrame, mkF, argsToLocals, Value.category]; done) | rfl
theorem d14_10 : decode jdk_44_method_3_code 10 = .ok (.iconst 2, 1) := by decide +kernel
theorem d14_11 : decode jdk_44_method_3_code 11 = .ok (.goto 4, 3) := by decide +kernel
set_option maxRecDepth 65536 in
set_option maxHeartbeats 40000000 in
theorem rm_2s2 (l : Launch) (Z : State) (a0 : Array Value) (hw : ∀ d ∈ tables_1, d.before a0 Z = true) (ws : List Jvm.Cond) (a1 : Addr) (s2 em : Addr) (h0 : Heap) (n0 : Nat) (Z0 : n0 ≤ h0.size) (X00 : Old Z n0 h0) (S_em : Sta Z Z.heap "java/util/ImmutableCollections" "EMPTY" "Ljava/lang/Object;" (.ref em)) (hne : ¬ s2 = em) (F1 : Fld Z h0 a1 "java/util/ImmutableCollections$List12" "e1" "Ljava/lang/Object;" (.ref s2)) :
    MetFree l yn14 (head1 (Jvm.Cond.code yn14 jdk_44_method_3_code 1 (some .int) :: ws) ({ frames := 0, cells := 0, slots := 0, locals := 0 } : Room)) (fun a U => a = #[(.ref a1)] ∧ Z.Warmed39 U.vm ∧ U.heap = h0) (fun _ _ _ _ _ => True) (fun _ U o U' => ∃ v L, o = .returned v ∧ Qi 2 h0 n0 v U'.heap L ∧ FrameEnd U o U' L ({ frames := 0, cells := 0, slots := 0, locals := 0 } : Room).cells ({ frames := 0, cells := 0, slots := 0, locals := 0 } : Room).slots) := by
 refine MetFree.of_bodySF (plainFor_of_name pn_java_util_ImmutableCollections_List12) hisR ?_
 intro p e s m args below meth c s₁ Bd hml0 hP hK
 obtain ⟨rfl, hZ, hh⟩ := hP
 have hx := Bd.exec
 have hby := Bd.bytes
 have hml : c.maxLocals = 1 := hml0
 have hown : s.vm.findClass "java/util/ImmutableCollections$List12" = some m.cls := findClass_of_methodNamed Bd.named
 have hnm := (name_of_methodNamed Bd.named Bd.method).1
 have X0 : Stand p l e ({ frames := 0, cells := 0, slots := 0, locals := 0 } : Room) s m #[(.ref a1)] below meth c s₁ [] 0 0 := Stand.of_body Bd
 have e0 : s₁.heap = h0 := by rw [← hh, Bd.state]; rfl
 have N0 := Fr.nil n0
 obtain ⟨A0, hA0⟩ : ∃ A, A = s₁.setTop (entryFrame m #[(.ref a1)] 1) := ⟨_, rfl⟩
 have R0 : ∀ tgt, Steps p.tables e below (s₁.setTop (mkF m 0 #[.val (.ref a1)] [])) tgt → Steps p.tables e below A0 tgt := fun tgt hgo => by rw [hA0]; exact castTop (ef_rm_2s2 m a1) hgo
 have w : ∀ (i : Nat) {d : Jvm.Cond}, tables_1[i]? = some d → d.before a0 Z = true := fun i d h => hw d (List.mem_of_getElem? h)
 have R1 : Rc p e below A0 (s₁.setTop (mkF m 1 #[.val (.ref a1)] [(.ref a1)])) := by
   intro tgt hgo
   refine R0 tgt ?_
   show Steps p.tables e below (s₁.setTop (mkF m 0 #[.val (.ref a1)] [])) _
   refine XS.aloadN X0.here hx rfl (hb hby d14_0) rfl rfl ?_
   exact hgo
 obtain ⟨T2, X2, e2, st2⟩ := getF X0 hx hZ hown (host := "") (Or.inl (w 150 rfl)) Via.refl e0 F1 (g := (mkF m 1 #[.val (.ref a1)] [(.ref a1)])) rfl rfl (hb hby d14_1)
 have R3 := Rc.st R1 st2
 obtain ⟨T4, X4, e4, st4⟩ := getS2 X2 hx hZ hown (Or.inr (w 158 rfl)) Via.refl e2 (S_em.ext X00.2) (g := (mkF m 4 #[.val (.ref a1)] [(.ref s2)])) rfl (hb hby d14_4)
 have R5 := Rc.st R3 st4
 have R6 : Rc p e below A0 (T4.setTop (mkF m 15 #[.val (.ref a1)] [(.int 2)])) := by
   intro tgt hgo
   refine R5 tgt ?_
   show Steps p.tables e below (T4.setTop (mkF m 7 #[.val (.ref a1)] [(.ref em), (.ref s2)])) _
   refine Jvm.RoadKit.acmp (g := (mkF m 7 #[.val (.ref a1)] [(.ref em), (.ref s2)])) X4 hx rfl rfl rfl (pc0 := 7) (pc' := 10) (same := false) rfl (hb hby d14_7) rfl (decide_eq_false fun q => (hne : ¬ (s2 = em)) (Value.ref.inj q)) (by decide) (by decide) ?_
   refine XS.iconst X4.here hx rfl (hb hby d14_10) ?_
   refine XS.goto X4.here hx rfl (pc0 := 11) (pc' := 15) rfl (hb hby d14_11) (by decide) (by decide) ?_
   exact hgo
 subst hA0
 obtain ⟨fs, hr, hrun, hended, hW, hsame⟩ := X4.leave (v := some (.int 2)) (fun h => by rw [Bd.returns] at h; cases h)
 refine ⟨_, _, R6 _ ?_, hrun, hended, _, _, rfl, ?_, ⟨_, rfl⟩, hW, hsame.mono (by decide) (by decide)⟩
 ·show Steps p.tables e below (T4.setTop (mkF m 15 #[.val (.ref a1)] [(.int 2)])) _
  exact retI X4 hx Bd.returns (hb hby d14_15) hr
 ·show Qi 2 h0 n0 _ T4.heap _
  rw [e4]
  exact ⟨rfl, N0, rfl⟩
abbrev yn15 : MethodName := ⟨"java/util/ImmutableCollections$List12", "get", "(I)Ljava/lang/Object;"⟩
theorem ef_rm_2g0 (m : MethodId) (a1 : Addr) : entryFrame m #[(.ref a1), (.int (0 : Int32))] 2 = mkF m 0 #[.val (.ref a1), .val (.int (0 : Int32))] [] := by first | (simp [entryFrame, mkF, argsToLocals, Value.category]; done) | rfl
theorem d15_0 : decode jdk_44_method_5_code 0 = .ok (.iload_n 1, 1) := by decide +kernel
theorem d15_1 : decode jdk_44_method_5_code 1 = .ok (.ifCond .ne 8, 3) := by decide +kernel
theorem d15_4 : decode jdk_44_method_5_code 4 = .ok (.aload_n 0, 1) := by decide +kernel
theorem d15_5 : decode jdk_44_method_5_code 5 = .ok (.getfield 13, 3) := by decide +kernel
theorem d15_8 : decode jdk_44_method_5_code 8 = .ok (.areturn, 1) := by decide +kernel
set_option maxRecDepth 65536 in
set_option maxHeartbeats 40000000 in
theorem rm_2g0 (l : Launch) (Z : State) (a0 : Array Value) (hw : ∀ d ∈ tables_1, d.before a0 Z = true) (ws : List Jvm.Cond) (a1 : Addr) (s1 : Addr) (h0 : Heap) (n0 : Nat) (Z0 : n0 ≤ h0.size) (F1 : Fld Z h0 a1 "java/util/ImmutableCollections$List12" "e0" "Ljava/lang/Object;" (.ref s1)) :
    MetFree l yn15 (head1 (Jvm.Cond.code yn15 jdk_44_method_5_code 2 (some (.object "java/lang/Object")) :: ws) ({ frames := 0, cells := 0, slots := 0, locals := 0 } : Room)) (fun a U => a = #[(.ref a1), (.int (0 : Int32))] ∧ Z.Warmed39 U.vm ∧ U.heap = h0) (fun _ _ _ _ _ => True) (fun _ U o U' => ∃ v L, o = .returned v ∧ Qr s1 h0 n0 v U'.heap L ∧ FrameEnd U o U' L ({ frames := 0, cells := 0, slots := 0, locals := 0 } : Room).cells ({ frames := 0, cells := 0, slots := 0, locals := 0 } : Room).slots) := by
 refine MetFree.of_bodySF (plainFor_of_name pn_java_util_ImmutableCollections_List12) hisR ?_
 intro p e s m args below meth c s₁ Bd hml0 hP hK
 obtain ⟨rfl, hZ, hh⟩ := hP
 have hx := Bd.exec
 have hby := Bd.bytes
 have hml : c.maxLocals = 2 := hml0
 have hown : s.vm.findClass "java/util/ImmutableCollections$List12" = some m.cls := findClass_of_methodNamed Bd.named
 have hnm := (name_of_methodNamed Bd.named Bd.method).1
 have X0 : Stand p l e ({ frames := 0, cells := 0, slots := 0, locals := 0 } : Room) s m #[(.ref a1), (.int 0)] below meth c s₁ [] 0 0 := Stand.of_body Bd
 have e0 : s₁.heap = h0 := by rw [← hh, Bd.state]; rfl
 have N0 := Fr.nil n0
 obtain ⟨A0, hA0⟩ : ∃ A, A = s₁.setTop (entryFrame m #[(.ref a1), (.int 0)] 2) := ⟨_, rfl⟩
 have R0 : ∀ tgt, Steps p.tables e below (s₁.setTop (mkF m 0 #[.val (.ref a1), .val (.int 0)] [])) tgt → Steps p.tables e below A0 tgt := fun tgt hgo => by rw [hA0]; exact castTop (ef_rm_2g0 m a1) hgo
 have w : ∀ (i : Nat) {d : Jvm.Cond}, tables_1[i]? = some d → d.before a0 Z = true := fun i d h => hw d (List.mem_of_getElem? h)
 have R1 : Rc p e below A0 (s₁.setTop (mkF m 5 #[.val (.ref a1), .val (.int 0)] [(.ref a1)])) := by
   intro tgt hgo
   refine R0 tgt ?_
   show Steps p.tables e below (s₁.setTop (mkF m 0 #[.val (.ref a1), .val (.int 0)] [])) _
   refine XS.iloadN X0.here hx rfl (hb hby d15_0) rfl ?_
   refine XS.ifNo X0.here hx rfl (hb hby d15_1) rfl ((if0 _ _).trans (teq (by decide : (0 : Int32) = (0 : Int32))).2) ?_
   refine XS.aloadN X0.here hx rfl (hb hby d15_4) rfl rfl ?_
   exact hgo
 obtain ⟨T2, X2, e2, st2⟩ := getF X0 hx hZ hown (host := "") (Or.inl (w 148 rfl)) Via.refl e0 F1 (g := (mkF m 5 #[.val (.ref a1), .val (.int 0)] [(.ref a1)])) rfl rfl (hb hby d15_5)
 have R3 := Rc.st R1 st2
 subst hA0
 obtain ⟨fs, hr, hrun, hended, hW, hsame⟩ := X2.leave (v := some (.ref s1)) (fun h => by rw [Bd.returns] at h; cases h)
 refine ⟨_, _, R3 _ ?_, hrun, hended, _, _, rfl, ?_, ⟨_, rfl⟩, hW, hsame.mono (by decide) (by decide)⟩
 ·show Steps p.tables e below (T2.setTop (mkF m 8 #[.val (.ref a1), .val (.int 0)] [(.ref s1)])) _
  jvm_step X2.here [X2.here.top, hx, (hb hby d15_8), X2.method', Bd.returns, Value.isRef, FieldType.isReference]
  first | (intro acts; rw [hr _ acts rfl rfl rfl]) | rw [hr _ _ rfl rfl rfl]
  exact Steps.refl _
 ·show Qr s1 h0 n0 _ T2.heap _
  rw [e2]
  exact ⟨rfl, N0, rfl⟩
theorem ef_rm_2g1 (m : MethodId) (a1 : Addr) : entryFrame m #[(.ref a1), (.int (1 : Int32))] 2 = mkF m 0 #[.val (.ref a1), .val (.int (1 : Int32))] [] := by first | (simp [entryFrame, mkF, argsToLocals, Value.category]; done) | rfl
theorem d15_9 : decode jdk_44_method_5_code 9 = .ok (.iload_n 1, 1) := by decide +kernel
theorem d15_10 : decode jdk_44_method_5_code 10 = .ok (.iconst 1, 1) := by decide +kernel
theorem d15_11 : decode jdk_44_method_5_code 11 = .ok (.if_icmp .ne 18, 3) := by decide +kernel
theorem d15_14 : decode jdk_44_method_5_code 14 = .ok (.aload_n 0, 1) := by decide +kernel
theorem d15_15 : decode jdk_44_method_5_code 15 = .ok (.getfield 24, 3) := by decide +kernel
theorem d15_18 : decode jdk_44_method_5_code 18 = .ok (.getstatic 19, 3) := by decide +kernel
theorem d15_21 : decode jdk_44_method_5_code 21 = .ok (.if_acmp .eq 8, 3) := by decide +kernel
theorem d15_24 : decode jdk_44_method_5_code 24 = .ok (.aload_n 0, 1) := by decide +kernel
theorem d15_25 : decode jdk_44_method_5_code 25 = .ok (.getfield 24, 3) := by decide +kernel
theorem d15_28 : decode jdk_44_method_5_code 28 = .ok (.areturn, 1) := by decide +kernel
set_option maxRecDepth 65536 in
set_option maxHeartbeats 40000000 in
theorem rm_2g1 (l : Launch) (Z : State) (a0 : Array Value) (hw : ∀ d ∈ tables_1, d.before a0 Z = true) (ws : List Jvm.Cond) (a1 : Addr) (s2 em : Addr) (h0 : Heap) (n0 : Nat) (Z0 : n0 ≤ h0.size) (X00 : Old Z n0 h0) (S_em : Sta Z Z.heap "java/util/ImmutableCollections" "EMPTY" "Ljava/lang/Object;" (.ref em)) (hne : ¬ s2 = em) (F1 : Fld Z h0 a1 "java/util/ImmutableCollections$List12" "e1" "Ljava/lang/Object;" (.ref s2)) :
    MetFree l yn15 (head1 (Jvm.Cond.code yn15 jdk_44_method_5_code 2 (some (.object "java/lang/Object")) :: ws) ({ frames := 0, cells := 0, slots := 0, locals := 0 } : Room)) (fun a U => a = #[(.ref a1), (.int (1 : Int32))] ∧ Z.Warmed39 U.vm ∧ U.heap = h0) (fun _ _ _ _ _ => True) (fun _ U o U' => ∃ v L, o = .returned v ∧ Qr s2 h0 n0 v U'.heap L ∧ FrameEnd U o U' L ({ frames := 0, cells := 0, slots := 0, locals := 0 } : Room).cells ({ frames := 0, cells := 0, slots := 0, locals := 0 } : Room).slots) := by
 refine MetFree.of_bodySF (plainFor_of_name pn_java_util_ImmutableCollections_List12) hisR ?_
 intro p e s m args below meth c s₁ Bd hml0 hP hK
 obtain ⟨rfl, hZ, hh⟩ := hP
 have hx := Bd.exec
 have hby := Bd.bytes
 have hml : c.maxLocals = 2 := hml0
 have hown : s.vm.findClass "java/util/ImmutableCollections$List12" = some m.cls := findClass_of_methodNamed Bd.named
 have hnm := (name_of_methodNamed Bd.named Bd.method).1
 have X0 : Stand p l e ({ frames := 0, cells := 0, slots := 0, locals := 0 } : Room) s m #[(.ref a1), (.int 1)] below meth c s₁ [] 0 0 := Stand.of_body Bd
 have e0 : s₁.heap = h0 := by rw [← hh, Bd.state]; rfl
 have N0 := Fr.nil n0
 obtain ⟨A0, hA0⟩ : ∃ A, A = s₁.setTop (entryFrame m #[(.ref a1), (.int 1)] 2) := ⟨_, rfl⟩
 have R0 : ∀ tgt, Steps p.tables e below (s₁.setTop (mkF m 0 #[.val (.ref a1), .val (.int 1)] [])) tgt → Steps p.tables e below A0 tgt := fun tgt hgo => by rw [hA0]; exact castTop (ef_rm_2g1 m a1) hgo
 have w : ∀ (i : Nat) {d : Jvm.Cond}, tables_1[i]? = some d → d.before a0 Z = true := fun i d h => hw d (List.mem_of_getElem? h)
 have R1 : Rc p e below A0 (s₁.setTop (mkF m 15 #[.val (.ref a1), .val (.int 1)] [(.ref a1)])) := by
   intro tgt hgo
   refine R0 tgt ?_
   show Steps p.tables e below (s₁.setTop (mkF m 0 #[.val (.ref a1), .val (.int 1)] [])) _
   refine XS.iloadN X0.here hx rfl (hb hby d15_0) rfl ?_
   refine XS.ifYes X0.here hx rfl (pc0 := 1) (pc' := 9) rfl (hb hby d15_1) rfl ((if0 _ _).trans (feq (by decide : ¬ ((1 : Int32) = (0 : Int32)))).2) (by decide) (by decide) ?_
   refine XS.iloadN X0.here hx rfl (hb hby d15_9) rfl ?_
   refine XS.iconst X0.here hx rfl (hb hby d15_10) ?_
   refine XS.icmpNo X0.here hx rfl (hb hby d15_11) rfl (teq (by decide : (1 : Int32) = (1 : Int32))).2 ?_
   refine XS.aloadN X0.here hx rfl (hb hby d15_14) rfl rfl ?_
   exact hgo
 obtain ⟨T2, X2, e2, st2⟩ := getF X0 hx hZ hown (host := "") (Or.inl (w 150 rfl)) Via.refl e0 F1 (g := (mkF m 15 #[.val (.ref a1), .val (.int 1)] [(.ref a1)])) rfl rfl (hb hby d15_15)
 have R3 := Rc.st R1 st2
 obtain ⟨T4, X4, e4, st4⟩ := getS2 X2 hx hZ hown (Or.inr (w 158 rfl)) Via.refl e2 (S_em.ext X00.2) (g := (mkF m 18 #[.val (.ref a1), .val (.int 1)] [(.ref s2)])) rfl (hb hby d15_18)
 have R5 := Rc.st R3 st4
 have R6 : Rc p e below A0 (T4.setTop (mkF m 25 #[.val (.ref a1), .val (.int 1)] [(.ref a1)])) := by
   intro tgt hgo
   refine R5 tgt ?_
   show Steps p.tables e below (T4.setTop (mkF m 21 #[.val (.ref a1), .val (.int 1)] [(.ref em), (.ref s2)])) _
   refine Jvm.RoadKit.acmp (g := (mkF m 21 #[.val (.ref a1), .val (.int 1)] [(.ref em), (.ref s2)])) X4 hx rfl rfl rfl (pc0 := 21) (pc' := 24) (same := false) rfl (hb hby d15_21) rfl (decide_eq_false fun q => (hne : ¬ (s2 = em)) (Value.ref.inj q)) (by decide) (by decide) ?_
   refine XS.aloadN X4.here hx rfl (hb hby d15_24) rfl rfl ?_
   exact hgo
 obtain ⟨T7, X7, e7, st7⟩ := getF X4 hx hZ hown (host := "") (Or.inl (w 150 rfl)) Via.refl e4 F1 (g := (mkF m 25 #[.val (.ref a1), .val (.int 1)] [(.ref a1)])) rfl rfl (hb hby d15_25)
 have R8 := Rc.st R6 st7
 subst hA0
 obtain ⟨fs, hr, hrun, hended, hW, hsame⟩ := X7.leave (v := some (.ref s2)) (fun h => by rw [Bd.returns] at h; cases h)
 refine ⟨_, _, R8 _ ?_, hrun, hended, _, _, rfl, ?_, ⟨_, rfl⟩, hW, hsame.mono (by decide) (by decide)⟩
 ·show Steps p.tables e below (T7.setTop (mkF m 28 #[.val (.ref a1), .val (.int 1)] [(.ref s2)])) _
  jvm_step X7.here [X7.here.top, hx, (hb hby d15_28), X7.method', Bd.returns, Value.isRef, FieldType.isReference]
  first | (intro acts; rw [hr _ acts rfl rfl rfl]) | rw [hr _ _ rfl rfl rfl]
  exact Steps.refl _
 ·show Qr s2 h0 n0 _ T7.heap _
  rw [e7]
  exact ⟨rfl, N0, rfl⟩
abbrev yn16 : MethodName := ⟨"com/example/verdict_ladder/verdictladder/lint/Finding$Kind", "token", "()Ljava/lang/String;"⟩
theorem pn_com_example_verdict_ladder_verdictladder_lint_Finding_Kind : plainName "com/example/verdict_ladder/verdictladder/lint/Finding$Kind" = true := by first | (simp [plainName, overriddenIn]; done) | decide +kernel
theorem ef_rm_tk (m : MethodId) (a1 : Addr) : entryFrame m #[(.ref a1)] 1 = mkF m 0 #[.val (.ref a1)] [] := by first | (simp [entryFrame, mkF, argsToLocals, Value.category]; done) | rfl
theorem d16_0 : decode prog_17_method_4_code 0 = .ok (.aload_n 0, 1) := by decide +kernel
theorem d16_1 : decode prog_17_method_4_code 1 = .ok (.getfield 32, 3) := by decide +kernel
theorem d16_4 : decode prog_17_method_4_code 4 = .ok (.areturn, 1) := by decide +kernel
set_option maxRecDepth 65536 in
set_option maxHeartbeats 40000000 in
theorem rm_tk (l : Launch) (Z : State) (a0 : Array Value) (hw : ∀ d ∈ tables_1, d.before a0 Z = true) (ws : List Jvm.Cond) (a1 : Addr) (tk : Addr) (h0 : Heap) (n0 : Nat) (Z0 : n0 ≤ h0.size) (F1 : Fld Z h0 a1 "com/example/verdict_ladder/verdictladder/lint/Finding$Kind" "token" "Ljava/lang/String;" (.ref tk)) :
    MetFree l yn16 (head1 (Jvm.Cond.code yn16 prog_17_method_4_code 1 (some (.object "java/lang/String")) :: ws) ({ frames := 0, cells := 0, slots := 0, locals := 0 } : Room)) (fun a U => a = #[(.ref a1)] ∧ Z.Warmed39 U.vm ∧ U.heap = h0) (fun _ _ _ _ _ => True) (fun _ U o U' => ∃ v L, o = .returned v ∧ Qr tk h0 n0 v U'.heap L ∧ FrameEnd U o U' L ({ frames := 0, cells := 0, slots := 0, locals := 0 } : Room).cells ({ frames := 0, cells := 0, slots := 0, locals := 0 } : Room).slots) := by
 refine MetFree.of_bodySF (plainFor_of_name pn_com_example_verdict_ladder_verdictladder_lint_Finding_Kind) hisR ?_
 intro p e s m args below meth c s₁ Bd hml0 hP hK
 obtain ⟨rfl, hZ, hh⟩ := hP
 have hx := Bd.exec
 have hby := Bd.bytes
 have hml : c.maxLocals = 1 := hml0
 have hown : s.vm.findClass "com/example/verdict_ladder/verdictladder/lint/Finding$Kind" = some m.cls := findClass_of_methodNamed Bd.named
 have hnm := (name_of_methodNamed Bd.named Bd.method).1
 have X0 : Stand p l e ({ frames := 0, cells := 0, slots := 0, locals := 0 } : Room) s m #[(.ref a1)] below meth c s₁ [] 0 0 := Stand.of_body Bd
 have e0 : s₁.heap = h0 := by rw [← hh, Bd.state]; rfl
 have N0 := Fr.nil n0
 obtain ⟨A0, hA0⟩ : ∃ A, A = s₁.setTop (entryFrame m #[(.ref a1)] 1) := ⟨_, rfl⟩
 have R0 : ∀ tgt, Steps p.tables e below (s₁.setTop (mkF m 0 #[.val (.ref a1)] [])) tgt → Steps p.tables e below A0 tgt := fun tgt hgo => by rw [hA0]; exact castTop (ef_rm_tk m a1) hgo
 have w : ∀ (i : Nat) {d : Jvm.Cond}, tables_1[i]? = some d → d.before a0 Z = true := fun i d h => hw d (List.mem_of_getElem? h)
 have R1 : Rc p e below A0 (s₁.setTop (mkF m 1 #[.val (.ref a1)] [(.ref a1)])) := by
   intro tgt hgo
   refine R0 tgt ?_
   show Steps p.tables e below (s₁.setTop (mkF m 0 #[.val (.ref a1)] [])) _
   refine XS.aloadN X0.here hx rfl (hb hby d16_0) rfl rfl ?_
   exact hgo
 obtain ⟨T2, X2, e2, st2⟩ := getF X0 hx hZ hown (host := "") (Or.inl (w 108 rfl)) Via.refl e0 F1 (g := (mkF m 1 #[.val (.ref a1)] [(.ref a1)])) rfl rfl (hb hby d16_1)
 have R3 := Rc.st R1 st2
 subst hA0
 obtain ⟨fs, hr, hrun, hended, hW, hsame⟩ := X2.leave (v := some (.ref tk)) (fun h => by rw [Bd.returns] at h; cases h)
 refine ⟨_, _, R3 _ ?_, hrun, hended, _, _, rfl, ?_, ⟨_, rfl⟩, hW, hsame.mono (by decide) (by decide)⟩
 ·show Steps p.tables e below (T2.setTop (mkF m 4 #[.val (.ref a1)] [(.ref tk)])) _
  jvm_step X2.here [X2.here.top, hx, (hb hby d16_4), X2.method', Bd.returns, Value.isRef, FieldType.isReference]
  first | (intro acts; rw [hr _ acts rfl rfl rfl]) | rw [hr _ _ rfl rfl rfl]
  exact Steps.refl _
 ·show Qr tk h0 n0 _ T2.heap _
  rw [e2]
  exact ⟨rfl, N0, rfl⟩
def Qli0 (Z : State) (tk : Addr) (h0 : Heap) (n0 : Nat) (v : Option Value) (h : Heap) (L : List Loc) : Prop := (∃ r : Addr, v = some (.ref r) ∧ ∃ kr : ClassId, h0.size ≤ r ∧ n0 ≤ r ∧ Ovr Z kr "java/lang/String" ∧ Arv Z h r kr (.object "java/lang/String") (1 : Int32) [(.ref tk)] .null) ∧ Fr n0 L ∧ Keep h0 h []
abbrev yn17 : MethodName := ⟨"com/example/verdict_ladder/verdictladder/lint/Finding", "line", "()[Ljava/lang/String;"⟩
theorem ef_rm_li0 (m : MethodId) (a1 : Addr) : entryFrame m #[(.ref a1)] 3 = mkF m 0 #[.val (.ref a1), .unset, .unset] [] := by first | (simp [entryFrame, mkF, argsToLocals, Value.category]; done) | rfl
theorem d17_0 : decode prog_16_method_4_code 0 = .ok (.aload_n 0, 1) := by decide +kernel
theorem d17_1 : decode prog_16_method_4_code 1 = .ok (.getfield 19, 3) := by decide +kernel
theorem d17_4 : decode prog_16_method_4_code 4 = .ok (.invokeinterface 23 1, 5) := by decide +kernel
theorem pd_7 : parseMethodDescriptor "()I" = some ⟨[], some .int⟩ := by decide +kernel
abbrev yn18 : MethodName := ⟨"java/util/List", "size", "()I"⟩
theorem d17_9 : decode prog_16_method_4_code 9 = .ok (.iconst 1, 1) := by decide +kernel
theorem d17_10 : decode prog_16_method_4_code 10 = .ok (.iadd, 1) := by decide +kernel
theorem d17_11 : decode prog_16_method_4_code 11 = .ok (.anewarray 27, 3) := by decide +kernel
theorem d17_14 : decode prog_16_method_4_code 14 = .ok (.astore_n 1, 1) := by decide +kernel
theorem d17_15 : decode prog_16_method_4_code 15 = .ok (.aload_n 1, 1) := by decide +kernel
theorem d17_16 : decode prog_16_method_4_code 16 = .ok (.iconst 0, 1) := by decide +kernel
theorem d17_17 : decode prog_16_method_4_code 17 = .ok (.aload_n 0, 1) := by decide +kernel
theorem d17_18 : decode prog_16_method_4_code 18 = .ok (.getfield 7, 3) := by decide +kernel
theorem d17_21 : decode prog_16_method_4_code 21 = .ok (.invokevirtual 29, 3) := by decide +kernel
theorem pd_8 : parseMethodDescriptor "()Ljava/lang/String;" = some ⟨[], some (.object "java/lang/String")⟩ := by decide +kernel
theorem d17_24 : decode prog_16_method_4_code 24 = .ok (.aastore, 1) := by decide +kernel
theorem d17_25 : decode prog_16_method_4_code 25 = .ok (.iconst 0, 1) := by decide +kernel
theorem d17_26 : decode prog_16_method_4_code 26 = .ok (.istore_n 2, 1) := by decide +kernel
theorem d17_27 : decode prog_16_method_4_code 27 = .ok (.iload_n 2, 1) := by decide +kernel
theorem d17_28 : decode prog_16_method_4_code 28 = .ok (.aload_n 0, 1) := by decide +kernel
theorem d17_29 : decode prog_16_method_4_code 29 = .ok (.getfield 19, 3) := by decide +kernel
theorem d17_32 : decode prog_16_method_4_code 32 = .ok (.invokeinterface 23 1, 5) := by decide +kernel
theorem d17_37 : decode prog_16_method_4_code 37 = .ok (.if_icmp .ge 27, 3) := by decide +kernel
theorem d17_64 : decode prog_16_method_4_code 64 = .ok (.aload_n 1, 1) := by decide +kernel
theorem d17_65 : decode prog_16_method_4_code 65 = .ok (.areturn, 1) := by decide +kernel
set_option maxRecDepth 65536 in
set_option maxHeartbeats 40000000 in
theorem rm_li0 (l : Launch) (Z : State) (a0 : Array Value) (hw : ∀ d ∈ tables_1, d.before a0 Z = true) (ws : List Jvm.Cond) (a1 : Addr) (kd tk lx : Addr) (ea : Addr) (ke : ClassId) (h0 : Heap) (n0 : Nat) (Z0 : n0 ≤ h0.size) (E1 : Exa Z h0 a1 "com/example/verdict_ladder/verdictladder/lint/Finding") (Fk : Fld Z h0 a1 "com/example/verdict_ladder/verdictladder/lint/Finding" "kind" "Lcom/example/verdict_ladder/verdictladder/lint/Finding$Kind;" (.ref kd)) (Ff : Fld Z h0 a1 "com/example/verdict_ladder/verdictladder/lint/Finding" "fields" "Ljava/util/List;" (.ref lx)) (Ek : Exa Z h0 kd "com/example/verdict_ladder/verdictladder/lint/Finding$Kind") (Ft : Fld Z h0 kd "com/example/verdict_ladder/verdictladder/lint/Finding$Kind" "token" "Ljava/lang/String;" (.ref tk)) (Et : Exa Z h0 tk "java/lang/String") (Ex : Exa Z h0 lx "java/util/ImmutableCollections$ListN") (Fe : Fld Z h0 lx "java/util/ImmutableCollections$ListN" "elements" "[Ljava/lang/Object;" (.ref ea)) (Ve : Arv Z h0 ea ke (.object "java/lang/Object") (0 : Int32) [] .null) :
    MetFree l yn17 (head1 (Jvm.Cond.code yn17 prog_16_method_4_code 3 (some (.array (.object "java/lang/String"))) :: ws) ({ frames := 1, cells := 1, slots := 1, locals := 14 } : Room)) (fun a U => a = #[(.ref a1)] ∧ Z.Warmed39 U.vm ∧ U.heap = h0) (fun _ _ _ _ _ => True) (fun _ U o U' => ∃ v L, o = .returned v ∧ Qli0 Z tk h0 n0 v U'.heap L ∧ FrameEnd U o U' L ({ frames := 1, cells := 1, slots := 1, locals := 14 } : Room).cells ({ frames := 1, cells := 1, slots := 1, locals := 14 } : Room).slots) := by
 refine MetFree.of_bodySF (plainFor_of_name pn_com_example_verdict_ladder_verdictladder_lint_Finding) hisR ?_
 intro p e s m args below meth c s₁ Bd hml0 hP hK
 obtain ⟨rfl, hZ, hh⟩ := hP
 have hx := Bd.exec
 have hby := Bd.bytes
 have hml : c.maxLocals = 3 := hml0
 have hown : s.vm.findClass "com/example/verdict_ladder/verdictladder/lint/Finding" = some m.cls := findClass_of_methodNamed Bd.named
 have hnm := (name_of_methodNamed Bd.named Bd.method).1
 have X0 : Stand p l e ({ frames := 1, cells := 1, slots := 1, locals := 14 } : Room) s m #[(.ref a1)] below meth c s₁ [] 0 0 := Stand.of_body Bd
 have e0 : s₁.heap = h0 := by rw [← hh, Bd.state]; rfl
 have N0 := Fr.nil n0
 obtain ⟨A0, hA0⟩ : ∃ A, A = s₁.setTop (entryFrame m #[(.ref a1)] 3) := ⟨_, rfl⟩
 have R0 : ∀ tgt, Steps p.tables e below (s₁.setTop (mkF m 0 #[.val (.ref a1), .unset, .unset] [])) tgt → Steps p.tables e below A0 tgt := fun tgt hgo => by rw [hA0]; exact castTop (ef_rm_li0 m a1) hgo
 have w : ∀ (i : Nat) {d : Jvm.Cond}, tables_1[i]? = some d → d.before a0 Z = true := fun i d h => hw d (List.mem_of_getElem? h)
 have hZn := Z0
 have hK : Keep h0 h0 [] := Keep.refl _ _
 have R1 : Rc p e below A0 (s₁.setTop (mkF m 1 #[.val (.ref a1), .unset, .unset] [(.ref a1)])) := by
   intro tgt hgo
   refine R0 tgt ?_
   show Steps p.tables e below (s₁.setTop (mkF m 0 #[.val (.ref a1), .unset, .unset] [])) _
   refine XS.aloadN X0.here hx rfl (hb hby d17_0) rfl rfl ?_
   exact hgo
 obtain ⟨T2, X2, e2, st2⟩ := getF X0 hx hZ hown (host := "") (Or.inl (w 86 rfl)) Via.refl e0 Ff (g := (mkF m 1 #[.val (.ref a1), .unset, .unset] [(.ref a1)])) rfl rfl (hb hby d17_1)
 have R3 := Rc.st R1 st2
 obtain ⟨cq4, kq4, q4a, q4b, q4c⟩ := isOf hZ e2 Ex
 obtain ⟨_, _, ⟨T4, L4, k4, n4⟩, -, X4, ⟨Lc4, hQ4, l4, y4, z4⟩, st4⟩ := X2.interfaceBack hx (xi := yn18) (y := yn12) hown (mvT hZ (w 93 rfl)) (mvT hZ (w 94 rfl)) (mvT hZ (w 95 rfl)) (mvT hZ (w 96 rfl)) (mvT hZ (w 97 rfl)) (mvT hZ (w 98 rfl)) (mvT hZ (w 99 rfl)) (mvT hZ (w 100 rfl)) (by decide) (backOf (W := 0) (rm_ns l Z a0 hw [] lx ea ke (0 : Int32) _ h0 n0 hZn Fe Ve) hZ (w 101 rfl) (w 58 rfl) (by decide) (by decide)) q4a q4b q4c (g := (mkF m 4 #[.val (.ref a1), .unset, .unset] [(.ref lx)])) rfl (by rw [hml]; rfl) (Steps.refl _) (argsL := []) (rest := []) (lenOf pd_7 rfl) rfl (by show 2 * 0 + _ ≤ _; exact Nat.le_of_eq rfl) (hb hby d17_4) (fun _ _ => ⟨rfl, e2, (by decide : 0 + 0 ≤ _), (by decide : 0 + 0 ≤ _)⟩)
 dsimp only [Pt.U, Pt.locs, Pt.cells, Pt.slots] at X4 l4 y4 z4 st4 hQ4
 subst l4 y4 z4
 obtain ⟨rfl, N4q, e4⟩ := hQ4
 have N4 := Fr.app N0 N4q
 have R5 := Rc.tr R3 st4
 have R6 : Rc p e below A0 (T4.setTop (mkF m 11 #[.val (.ref a1), .unset, .unset] [(.int 1)])) := by
   intro tgt hgo
   refine R5 tgt ?_
   show Steps p.tables e below (T4.setTop (mkF m 9 #[.val (.ref a1), .unset, .unset] [(.int 0)])) _
   refine XS.iconst X4.here hx rfl (hb hby d17_9) ?_
   refine XS.iadd X4.here hx rfl (hb hby d17_10) rfl ?_
   exact hgo
 obtain ⟨T7, h7, k7, X7, e7, E7, A7, O7, st7⟩ := newR X4 hx hZ hown (w 102 rfl) (w 31 rfl) e4 (g := (mkF m 11 #[.val (.ref a1), .unset, .unset] [(.int 1)])) rfl (hb hby d17_11) rfl (by decide) (cap := 1) (by decide) (by decide) (by decide) (by decide)
 obtain ⟨r, g7⟩ : ∃ z, z = h0.size := ⟨_, rfl⟩
 rw [← g7] at A7 st7
 have ne_a1_r : a1 ≠ r := Nat.ne_of_lt (Nat.lt_of_lt_of_le E1.lt (Nat.le_of_eq g7.symm))
 have ne_kd_r : kd ≠ r := Nat.ne_of_lt (Nat.lt_of_lt_of_le Ek.lt (Nat.le_of_eq g7.symm))
 have ne_tk_r : tk ≠ r := Nat.ne_of_lt (Nat.lt_of_lt_of_le Et.lt (Nat.le_of_eq g7.symm))
 have ne_lx_r : lx ≠ r := Nat.ne_of_lt (Nat.lt_of_lt_of_le Ex.lt (Nat.le_of_eq g7.symm))
 have ne_ea_r : ea ≠ r := Nat.ne_of_lt (Nat.lt_of_lt_of_le Ve.lt (Nat.le_of_eq g7.symm))
 have ge_r : n0 ≤ r := Nat.le_trans hZn (Nat.le_of_eq g7.symm)
 have sz_r : h0.size ≤ r := Nat.le_trans hK.1 (Nat.le_of_eq g7.symm)
 replace hZn := Nat.le_trans hZn E7.1
 replace hK := hK.ext E7
 replace E1 := E1.ext E7
 replace Fk := Fk.ext E7
 replace Ff := Ff.ext E7
 replace Ek := Ek.ext E7
 replace Ft := Ft.ext E7
 replace Et := Et.ext E7
 replace Ex := Ex.ext E7
 replace Fe := Fe.ext E7
 replace Ve := Ve.ext E7
 have V_r : Arv Z h7 r k7 (.object "java/lang/String") (1 : Int32) [.null] .null := (Arv.new A7 (by decide)).pad (pad_rep [] .null 1)
 have R8 := Rc.st R6 st7
 have R9 : Rc p e below A0 (T7.setTop (mkF m 18 #[.val (.ref a1), .val (.ref r), .unset] [(.ref a1), (.int 0), (.ref r)])) := by
   intro tgt hgo
   refine R8 tgt ?_
   show Steps p.tables e below (T7.setTop (mkF m 14 #[.val (.ref a1), .unset, .unset] [(.ref r)])) _
   refine XS.astoreN X7.here hx rfl (hb hby d17_14) rfl rfl (l' := #[.val (.ref a1), .val (.ref r), .unset]) rfl ?_
   refine XS.aloadN X7.here hx rfl (hb hby d17_15) rfl rfl ?_
   refine XS.iconst X7.here hx rfl (hb hby d17_16) ?_
   refine XS.aloadN X7.here hx rfl (hb hby d17_17) rfl rfl ?_
   exact hgo
 obtain ⟨T10, X10, e10, st10⟩ := getF X7 hx hZ hown (host := "") (Or.inl (w 39 rfl)) Via.refl e7 Fk (g := (mkF m 18 #[.val (.ref a1), .val (.ref r), .unset] [(.ref a1), (.int 0), (.ref r)])) rfl rfl (hb hby d17_18)
 have R11 := Rc.st R9 st10
 obtain ⟨cq12, kq12, q12a, q12b, q12c⟩ := isOf hZ e10 Ek
 obtain ⟨_, _, ⟨T12, L12, k12, n12⟩, -, X12, ⟨Lc12, hQ12, l12, y12, z12⟩, st12⟩ := X10.virtualBack hx (y := yn16) (z := yn16) hown (mvT hZ (w 103 rfl)) (mvT hZ (w 104 rfl)) (notFace_of_selects (args := #[]) (mvT hZ (w 106 rfl))) (mvT hZ (w 106 rfl)) (mvT hZ (w 105 rfl)) (by decide) (backOf (W := 2) (rm_tk l Z a0 hw [] kd tk h7 n0 hZn Ft) hZ (w 107 rfl) (w 2 rfl) (by decide) (by decide)) q12a q12c (g := (mkF m 21 #[.val (.ref a1), .val (.ref r), .unset] [(.ref kd), (.int 0), (.ref r)])) rfl (by rw [hml]; rfl) (Steps.refl _) (argsL := []) (rest := [(.int 0), (.ref r)]) (lenOf pd_8 rfl) rfl (by show 2 * 0 + _ ≤ _; exact Nat.le_of_eq rfl) (hb hby d17_21) (fun _ _ => ⟨rfl, e10, (by decide : 1 + 0 ≤ _), (by decide : 1 + 0 ≤ _)⟩)
 dsimp only [Pt.U, Pt.locs, Pt.cells, Pt.slots] at X12 l12 y12 z12 st12 hQ12
 subst l12 y12 z12
 obtain ⟨rfl, N12q, e12⟩ := hQ12
 have N12 := Fr.app N4 N12q
 have R13 := Rc.tr R11 st12
 obtain ⟨cl14, Ar14, q14, S14, Nn14, H14, G14⟩ := V_r
 have hin14 : ¬ ((0 : Int32) < 0 ∨ cl14.slots.size ≤ ((0 : Int32)).toNatClampNeg) := inb_of S14 ⟨by decide, by decide⟩
 obtain ⟨T14, h14, X14, e14, W14, st14⟩ := stR X12 hx hZ e12 Ar14 (j := (0 : Int32)) hin14 rfl (Sto.ofV Ar14 q14 O7 (Ins.self Et)) (g := (mkF m 24 #[.val (.ref a1), .val (.ref r), .unset] [(.ref tk), (.int 0), (.ref r)])) rfl rfl (hb hby d17_24)
 replace hZn := Nat.le_trans hZn (Keep.of_wr W14).1
 replace hK := hK.wr W14 (Or.inr sz_r)
 replace E1 := E1.wr W14
 replace Fk := Fk.other W14 (Or.inl ne_a1_r)
 replace Ff := Ff.other W14 (Or.inl ne_a1_r)
 replace Ek := Ek.wr W14
 replace Ft := Ft.other W14 (Or.inl ne_kd_r)
 replace Et := Et.wr W14
 replace Ex := Ex.wr W14
 replace Fe := Fe.other W14 (Or.inl ne_lx_r)
 replace Ve := Ve.other W14 ne_ea_r
 have V_r : Arv Z h14 r k7 (.object "java/lang/String") (1 : Int32) [(.ref tk)] .null := Arv.set Ar14 q14 S14 Nn14 H14 G14 rfl W14 0 rfl (Nat.le_of_ble_eq_true rfl)
 have N14 := Fr.snoc X14 N12 ge_r
 have R15 := Rc.st R13 st14
 have R16 : Rc p e below A0 (T14.setTop (mkF m 29 #[.val (.ref a1), .val (.ref r), .val (.int 0)] [(.ref a1), (.int 0)])) := by
   intro tgt hgo
   refine R15 tgt ?_
   show Steps p.tables e below (T14.setTop (mkF m 25 #[.val (.ref a1), .val (.ref r), .unset] [])) _
   refine XS.iconst X14.here hx rfl (hb hby d17_25) ?_
   refine XS.istoreN X14.here hx rfl (hb hby d17_26) rfl (l' := #[.val (.ref a1), .val (.ref r), .val (.int 0)]) rfl ?_
   refine XS.iloadN X14.here hx rfl (hb hby d17_27) rfl ?_
   refine XS.aloadN X14.here hx rfl (hb hby d17_28) rfl rfl ?_
   exact hgo
 obtain ⟨T17, X17, e17, st17⟩ := getF X14 hx hZ hown (host := "") (Or.inl (w 86 rfl)) Via.refl e14 Ff (g := (mkF m 29 #[.val (.ref a1), .val (.ref r), .val (.int 0)] [(.ref a1), (.int 0)])) rfl rfl (hb hby d17_29)
 have R18 := Rc.st R16 st17
 obtain ⟨cq19, kq19, q19a, q19b, q19c⟩ := isOf hZ e17 Ex
 obtain ⟨_, _, ⟨T19, L19, k19, n19⟩, -, X19, ⟨Lc19, hQ19, l19, y19, z19⟩, st19⟩ := X17.interfaceBack hx (xi := yn18) (y := yn12) hown (mvT hZ (w 93 rfl)) (mvT hZ (w 94 rfl)) (mvT hZ (w 95 rfl)) (mvT hZ (w 96 rfl)) (mvT hZ (w 97 rfl)) (mvT hZ (w 98 rfl)) (mvT hZ (w 99 rfl)) (mvT hZ (w 100 rfl)) (by decide) (backOf (W := 1) (rm_ns l Z a0 hw [] lx ea ke (0 : Int32) _ h14 n0 hZn Fe Ve) hZ (w 101 rfl) (w 58 rfl) (by decide) (by decide)) q19a q19b q19c (g := (mkF m 32 #[.val (.ref a1), .val (.ref r), .val (.int 0)] [(.ref lx), (.int 0)])) rfl (by rw [hml]; rfl) (Steps.refl _) (argsL := []) (rest := [(.int 0)]) (lenOf pd_7 rfl) rfl (by show 2 * 0 + _ ≤ _; exact Nat.le_of_eq rfl) (hb hby d17_32) (fun _ _ => ⟨rfl, e17, (by decide : 1 + 0 ≤ _), (by decide : 1 + 0 ≤ _)⟩)
 dsimp only [Pt.U, Pt.locs, Pt.cells, Pt.slots] at X19 l19 y19 z19 st19 hQ19
 subst l19 y19 z19
 obtain ⟨rfl, N19q, e19⟩ := hQ19
 have N19 := Fr.app N14 N19q
 have R20 := Rc.tr R18 st19
 have R21 : Rc p e below A0 (T19.setTop (mkF m 65 #[.val (.ref a1), .val (.ref r), .val (.int 0)] [(.ref r)])) := by
   intro tgt hgo
   refine R20 tgt ?_
   show Steps p.tables e below (T19.setTop (mkF m 37 #[.val (.ref a1), .val (.ref r), .val (.int 0)] [(.int 0), (.int 0)])) _
   refine XS.icmpYes X19.here hx rfl (pc0 := 37) (pc' := 64) rfl (hb hby d17_37) rfl (flt (by decide : ¬ ((0 : Int32) < (0 : Int32)))).2.1 (by decide) (by decide) ?_
   refine XS.aloadN X19.here hx rfl (hb hby d17_64) rfl rfl ?_
   exact hgo
 subst hA0
 obtain ⟨fs, hr, hrun, hended, hW, hsame⟩ := X19.leave (v := some (.ref r)) (fun h => by rw [Bd.returns] at h; cases h)
 refine ⟨_, _, R21 _ ?_, hrun, hended, _, _, rfl, ?_, ⟨_, rfl⟩, hW, hsame.mono (by decide) (by decide)⟩
 ·show Steps p.tables e below (T19.setTop (mkF m 65 #[.val (.ref a1), .val (.ref r), .val (.int 0)] [(.ref r)])) _
  jvm_step X19.here [X19.here.top, hx, (hb hby d17_65), X19.method', Bd.returns, Value.isRef, FieldType.isReference]
  first | (intro acts; rw [hr _ acts rfl rfl rfl]) | rw [hr _ _ rfl rfl rfl]
  exact Steps.refl _
 ·show Qli0 Z tk h0 n0 _ T19.heap _
  rw [e19]
  exact ⟨⟨r, rfl, _, sz_r, ge_r, O7, V_r⟩, N19, hK⟩
def Qli1 (Z : State) (tk s1 : Addr) (h0 : Heap) (n0 : Nat) (v : Option Value) (h : Heap) (L : List Loc) : Prop := (∃ r : Addr, v = some (.ref r) ∧ ∃ kr : ClassId, h0.size ≤ r ∧ n0 ≤ r ∧ Ovr Z kr "java/lang/String" ∧ Arv Z h r kr (.object "java/lang/String") (2 : Int32) [(.ref tk), (.ref s1)] .null) ∧ Fr n0 L ∧ Keep h0 h []
theorem ef_rm_li1 (m : MethodId) (a1 : Addr) : entryFrame m #[(.ref a1)] 3 = mkF m 0 #[.val (.ref a1), .unset, .unset] [] := by first | (simp [entryFrame, mkF, argsToLocals, Value.category]; done) | rfl
theorem d17_40 : decode prog_16_method_4_code 40 = .ok (.aload_n 1, 1) := by decide +kernel
theorem d17_41 : decode prog_16_method_4_code 41 = .ok (.iload_n 2, 1) := by decide +kernel
theorem d17_42 : decode prog_16_method_4_code 42 = .ok (.iconst 1, 1) := by decide +kernel
theorem d17_43 : decode prog_16_method_4_code 43 = .ok (.iadd, 1) := by decide +kernel
theorem d17_44 : decode prog_16_method_4_code 44 = .ok (.aload_n 0, 1) := by decide +kernel
theorem d17_45 : decode prog_16_method_4_code 45 = .ok (.getfield 19, 3) := by decide +kernel
theorem d17_48 : decode prog_16_method_4_code 48 = .ok (.iload_n 2, 1) := by decide +kernel
theorem d17_49 : decode prog_16_method_4_code 49 = .ok (.invokeinterface 35 2, 5) := by decide +kernel
theorem pd_9 : parseMethodDescriptor "(I)Ljava/lang/Object;" = some ⟨[.int], some (.object "java/lang/Object")⟩ := by decide +kernel
abbrev yn19 : MethodName := ⟨"java/util/List", "get", "(I)Ljava/lang/Object;"⟩
theorem d17_54 : decode prog_16_method_4_code 54 = .ok (.checkcast 27, 3) := by decide +kernel
theorem d17_57 : decode prog_16_method_4_code 57 = .ok (.aastore, 1) := by decide +kernel
theorem d17_58 : decode prog_16_method_4_code 58 = .ok (.iinc 2 1, 3) := by decide +kernel
theorem d17_61 : decode prog_16_method_4_code 61 = .ok (.goto (-34), 3) := by decide +kernel
set_option maxRecDepth 65536 in
set_option maxHeartbeats 40000000 in
theorem rm_li1 (l : Launch) (Z : State) (a0 : Array Value) (hw : ∀ d ∈ tables_1, d.before a0 Z = true) (ws : List Jvm.Cond) (a1 : Addr) (kd tk lx s1 : Addr) (em : Addr) (h0 : Heap) (n0 : Nat) (Z0 : n0 ≤ h0.size) (E1 : Exa Z h0 a1 "com/example/verdict_ladder/verdictladder/lint/Finding") (Fk : Fld Z h0 a1 "com/example/verdict_ladder/verdictladder/lint/Finding" "kind" "Lcom/example/verdict_ladder/verdictladder/lint/Finding$Kind;" (.ref kd)) (Ff : Fld Z h0 a1 "com/example/verdict_ladder/verdictladder/lint/Finding" "fields" "Ljava/util/List;" (.ref lx)) (Ek : Exa Z h0 kd "com/example/verdict_ladder/verdictladder/lint/Finding$Kind") (Ft : Fld Z h0 kd "com/example/verdict_ladder/verdictladder/lint/Finding$Kind" "token" "Ljava/lang/String;" (.ref tk)) (Et : Exa Z h0 tk "java/lang/String") (Ex : Exa Z h0 lx "java/util/ImmutableCollections$List12") (X00 : Old Z n0 h0) (S_em : Sta Z Z.heap "java/util/ImmutableCollections" "EMPTY" "Ljava/lang/Object;" (.ref em)) (Fe0 : Fld Z h0 lx "java/util/ImmutableCollections$List12" "e0" "Ljava/lang/Object;" (.ref s1)) (Fe1 : Fld Z h0 lx "java/util/ImmutableCollections$List12" "e1" "Ljava/lang/Object;" (.ref em)) (Es1 : Exa Z h0 s1 "java/lang/String") :
    MetFree l yn17 (head1 (Jvm.Cond.code yn17 prog_16_method_4_code 3 (some (.array (.object "java/lang/String"))) :: ws) ({ frames := 1, cells := 1, slots := 2, locals := 15 } : Room)) (fun a U => a = #[(.ref a1)] ∧ Z.Warmed39 U.vm ∧ U.heap = h0) (fun _ _ _ _ _ => True) (fun _ U o U' => ∃ v L, o = .returned v ∧ Qli1 Z tk s1 h0 n0 v U'.heap L ∧ FrameEnd U o U' L ({ frames := 1, cells := 1, slots := 2, locals := 15 } : Room).cells ({ frames := 1, cells := 1, slots := 2, locals := 15 } : Room).slots) := by
 refine MetFree.of_bodySF (plainFor_of_name pn_com_example_verdict_ladder_verdictladder_lint_Finding) hisR ?_
 intro p e s m args below meth c s₁ Bd hml0 hP hK
 obtain ⟨rfl, hZ, hh⟩ := hP
 have hx := Bd.exec
 have hby := Bd.bytes
 have hml : c.maxLocals = 3 := hml0
 have hown : s.vm.findClass "com/example/verdict_ladder/verdictladder/lint/Finding" = some m.cls := findClass_of_methodNamed Bd.named
 have hnm := (name_of_methodNamed Bd.named Bd.method).1
 have X0 : Stand p l e ({ frames := 1, cells := 1, slots := 2, locals := 15 } : Room) s m #[(.ref a1)] below meth c s₁ [] 0 0 := Stand.of_body Bd
 have e0 : s₁.heap = h0 := by rw [← hh, Bd.state]; rfl
 have N0 := Fr.nil n0
 obtain ⟨A0, hA0⟩ : ∃ A, A = s₁.setTop (entryFrame m #[(.ref a1)] 3) := ⟨_, rfl⟩
 have R0 : ∀ tgt, Steps p.tables e below (s₁.setTop (mkF m 0 #[.val (.ref a1), .unset, .unset] [])) tgt → Steps p.tables e below A0 tgt := fun tgt hgo => by rw [hA0]; exact castTop (ef_rm_li1 m a1) hgo
 have w : ∀ (i : Nat) {d : Jvm.Cond}, tables_1[i]? = some d → d.before a0 Z = true := fun i d h => hw d (List.mem_of_getElem? h)
 have hZn := Z0
 have hK : Keep h0 h0 [] := Keep.refl _ _
 have hOld := X00
 have R1 : Rc p e below A0 (s₁.setTop (mkF m 1 #[.val (.ref a1), .unset, .unset] [(.ref a1)])) := by
   intro tgt hgo
   refine R0 tgt ?_
   show Steps p.tables e below (s₁.setTop (mkF m 0 #[.val (.ref a1), .unset, .unset] [])) _
   refine XS.aloadN X0.here hx rfl (hb hby d17_0) rfl rfl ?_
   exact hgo
 obtain ⟨T2, X2, e2, st2⟩ := getF X0 hx hZ hown (host := "") (Or.inl (w 86 rfl)) Via.refl e0 Ff (g := (mkF m 1 #[.val (.ref a1), .unset, .unset] [(.ref a1)])) rfl rfl (hb hby d17_1)
 have R3 := Rc.st R1 st2
 obtain ⟨cq4, kq4, q4a, q4b, q4c⟩ := isOf hZ e2 Ex
 obtain ⟨_, _, ⟨T4, L4, k4, n4⟩, -, X4, ⟨Lc4, hQ4, l4, y4, z4⟩, st4⟩ := X2.interfaceBack hx (xi := yn18) (y := yn14) hown (mvT hZ (w 93 rfl)) (mvT hZ (w 94 rfl)) (mvT hZ (w 95 rfl)) (mvT hZ (w 152 rfl)) (mvT hZ (w 153 rfl)) (mvT hZ (w 154 rfl)) (mvT hZ (w 155 rfl)) (mvT hZ (w 156 rfl)) (by decide) (backOf (W := 0) (rm_2s1 l Z a0 hw [] lx em h0 n0 hZn hOld S_em Fe1) hZ (w 157 rfl) (w 138 rfl) (by decide) (by decide)) q4a q4b q4c (g := (mkF m 4 #[.val (.ref a1), .unset, .unset] [(.ref lx)])) rfl (by rw [hml]; rfl) (Steps.refl _) (argsL := []) (rest := []) (lenOf pd_7 rfl) rfl (by show 2 * 0 + _ ≤ _; exact Nat.le_of_eq rfl) (hb hby d17_4) (fun _ _ => ⟨rfl, e2, (by decide : 0 + 0 ≤ _), (by decide : 0 + 0 ≤ _)⟩)
 dsimp only [Pt.U, Pt.locs, Pt.cells, Pt.slots] at X4 l4 y4 z4 st4 hQ4
 subst l4 y4 z4
 obtain ⟨rfl, N4q, e4⟩ := hQ4
 have N4 := Fr.app N0 N4q
 have R5 := Rc.tr R3 st4
 have R6 : Rc p e below A0 (T4.setTop (mkF m 11 #[.val (.ref a1), .unset, .unset] [(.int 2)])) := by
   intro tgt hgo
   refine R5 tgt ?_
   show Steps p.tables e below (T4.setTop (mkF m 9 #[.val (.ref a1), .unset, .unset] [(.int 1)])) _
   refine XS.iconst X4.here hx rfl (hb hby d17_9) ?_
   refine XS.iadd X4.here hx rfl (hb hby d17_10) rfl ?_
   exact hgo
 obtain ⟨T7, h7, k7, X7, e7, E7, A7, O7, st7⟩ := newR X4 hx hZ hown (w 102 rfl) (w 31 rfl) e4 (g := (mkF m 11 #[.val (.ref a1), .unset, .unset] [(.int 2)])) rfl (hb hby d17_11) rfl (by decide) (cap := 2) (by decide) (by decide) (by decide) (by decide)
 obtain ⟨r, g7⟩ : ∃ z, z = h0.size := ⟨_, rfl⟩
 rw [← g7] at A7 st7
 have ne_a1_r : a1 ≠ r := Nat.ne_of_lt (Nat.lt_of_lt_of_le E1.lt (Nat.le_of_eq g7.symm))
 have ne_kd_r : kd ≠ r := Nat.ne_of_lt (Nat.lt_of_lt_of_le Ek.lt (Nat.le_of_eq g7.symm))
 have ne_tk_r : tk ≠ r := Nat.ne_of_lt (Nat.lt_of_lt_of_le Et.lt (Nat.le_of_eq g7.symm))
 have ne_lx_r : lx ≠ r := Nat.ne_of_lt (Nat.lt_of_lt_of_le Ex.lt (Nat.le_of_eq g7.symm))
 have ne_s1_r : s1 ≠ r := Nat.ne_of_lt (Nat.lt_of_lt_of_le Es1.lt (Nat.le_of_eq g7.symm))
 have ge_r : n0 ≤ r := Nat.le_trans hZn (Nat.le_of_eq g7.symm)
 have sz_r : h0.size ≤ r := Nat.le_trans hK.1 (Nat.le_of_eq g7.symm)
 replace hZn := Nat.le_trans hZn E7.1
 replace hK := hK.ext E7
 replace hOld := hOld.ext E7
 replace E1 := E1.ext E7
 replace Fk := Fk.ext E7
 replace Ff := Ff.ext E7
 replace Ek := Ek.ext E7
 replace Ft := Ft.ext E7
 replace Et := Et.ext E7
 replace Ex := Ex.ext E7
 replace Fe0 := Fe0.ext E7
 replace Fe1 := Fe1.ext E7
 replace Es1 := Es1.ext E7
 have V_r : Arv Z h7 r k7 (.object "java/lang/String") (2 : Int32) [.null, .null] .null := (Arv.new A7 (by decide)).pad (pad_rep [] .null 2)
 have R8 := Rc.st R6 st7
 have R9 : Rc p e below A0 (T7.setTop (mkF m 18 #[.val (.ref a1), .val (.ref r), .unset] [(.ref a1), (.int 0), (.ref r)])) := by
   intro tgt hgo
   refine R8 tgt ?_
   show Steps p.tables e below (T7.setTop (mkF m 14 #[.val (.ref a1), .unset, .unset] [(.ref r)])) _
   refine XS.astoreN X7.here hx rfl (hb hby d17_14) rfl rfl (l' := #[.val (.ref a1), .val (.ref r), .unset]) rfl ?_
   refine XS.aloadN X7.here hx rfl (hb hby d17_15) rfl rfl ?_
   refine XS.iconst X7.here hx rfl (hb hby d17_16) ?_
   refine XS.aloadN X7.here hx rfl (hb hby d17_17) rfl rfl ?_
   exact hgo
 obtain ⟨T10, X10, e10, st10⟩ := getF X7 hx hZ hown (host := "") (Or.inl (w 39 rfl)) Via.refl e7 Fk (g := (mkF m 18 #[.val (.ref a1), .val (.ref r), .unset] [(.ref a1), (.int 0), (.ref r)])) rfl rfl (hb hby d17_18)
 have R11 := Rc.st R9 st10
 obtain ⟨cq12, kq12, q12a, q12b, q12c⟩ := isOf hZ e10 Ek
 obtain ⟨_, _, ⟨T12, L12, k12, n12⟩, -, X12, ⟨Lc12, hQ12, l12, y12, z12⟩, st12⟩ := X10.virtualBack hx (y := yn16) (z := yn16) hown (mvT hZ (w 103 rfl)) (mvT hZ (w 104 rfl)) (notFace_of_selects (args := #[]) (mvT hZ (w 106 rfl))) (mvT hZ (w 106 rfl)) (mvT hZ (w 105 rfl)) (by decide) (backOf (W := 2) (rm_tk l Z a0 hw [] kd tk h7 n0 hZn Ft) hZ (w 107 rfl) (w 2 rfl) (by decide) (by decide)) q12a q12c (g := (mkF m 21 #[.val (.ref a1), .val (.ref r), .unset] [(.ref kd), (.int 0), (.ref r)])) rfl (by rw [hml]; rfl) (Steps.refl _) (argsL := []) (rest := [(.int 0), (.ref r)]) (lenOf pd_8 rfl) rfl (by show 2 * 0 + _ ≤ _; exact Nat.le_of_eq rfl) (hb hby d17_21) (fun _ _ => ⟨rfl, e10, (by decide : 1 + 0 ≤ _), (by decide : 2 + 0 ≤ _)⟩)
 dsimp only [Pt.U, Pt.locs, Pt.cells, Pt.slots] at X12 l12 y12 z12 st12 hQ12
 subst l12 y12 z12
 obtain ⟨rfl, N12q, e12⟩ := hQ12
 have N12 := Fr.app N4 N12q
 have R13 := Rc.tr R11 st12
 obtain ⟨cl14, Ar14, q14, S14, Nn14, H14, G14⟩ := V_r
 have hin14 : ¬ ((0 : Int32) < 0 ∨ cl14.slots.size ≤ ((0 : Int32)).toNatClampNeg) := inb_of S14 ⟨by decide, by decide⟩
 obtain ⟨T14, h14, X14, e14, W14, st14⟩ := stR X12 hx hZ e12 Ar14 (j := (0 : Int32)) hin14 rfl (Sto.ofV Ar14 q14 O7 (Ins.self Et)) (g := (mkF m 24 #[.val (.ref a1), .val (.ref r), .unset] [(.ref tk), (.int 0), (.ref r)])) rfl rfl (hb hby d17_24)
 replace hZn := Nat.le_trans hZn (Keep.of_wr W14).1
 replace hK := hK.wr W14 (Or.inr sz_r)
 replace hOld := hOld.wr W14 ge_r
 replace E1 := E1.wr W14
 replace Fk := Fk.other W14 (Or.inl ne_a1_r)
 replace Ff := Ff.other W14 (Or.inl ne_a1_r)
 replace Ek := Ek.wr W14
 replace Ft := Ft.other W14 (Or.inl ne_kd_r)
 replace Et := Et.wr W14
 replace Ex := Ex.wr W14
 replace Fe0 := Fe0.other W14 (Or.inl ne_lx_r)
 replace Fe1 := Fe1.other W14 (Or.inl ne_lx_r)
 replace Es1 := Es1.wr W14
 have V_r : Arv Z h14 r k7 (.object "java/lang/String") (2 : Int32) [(.ref tk), .null] .null := Arv.set Ar14 q14 S14 Nn14 H14 G14 rfl W14 0 rfl (Nat.le_of_ble_eq_true rfl)
 have N14 := Fr.snoc X14 N12 ge_r
 have R15 := Rc.st R13 st14
 have R16 : Rc p e below A0 (T14.setTop (mkF m 29 #[.val (.ref a1), .val (.ref r), .val (.int 0)] [(.ref a1), (.int 0)])) := by
   intro tgt hgo
   refine R15 tgt ?_
   show Steps p.tables e below (T14.setTop (mkF m 25 #[.val (.ref a1), .val (.ref r), .unset] [])) _
   refine XS.iconst X14.here hx rfl (hb hby d17_25) ?_
   refine XS.istoreN X14.here hx rfl (hb hby d17_26) rfl (l' := #[.val (.ref a1), .val (.ref r), .val (.int 0)]) rfl ?_
   refine XS.iloadN X14.here hx rfl (hb hby d17_27) rfl ?_
   refine XS.aloadN X14.here hx rfl (hb hby d17_28) rfl rfl ?_
   exact hgo
 obtain ⟨T17, X17, e17, st17⟩ := getF X14 hx hZ hown (host := "") (Or.inl (w 86 rfl)) Via.refl e14 Ff (g := (mkF m 29 #[.val (.ref a1), .val (.ref r), .val (.int 0)] [(.ref a1), (.int 0)])) rfl rfl (hb hby d17_29)
 have R18 := Rc.st R16 st17
 obtain ⟨cq19, kq19, q19a, q19b, q19c⟩ := isOf hZ e17 Ex
 obtain ⟨_, _, ⟨T19, L19, k19, n19⟩, -, X19, ⟨Lc19, hQ19, l19, y19, z19⟩, st19⟩ := X17.interfaceBack hx (xi := yn18) (y := yn14) hown (mvT hZ (w 93 rfl)) (mvT hZ (w 94 rfl)) (mvT hZ (w 95 rfl)) (mvT hZ (w 152 rfl)) (mvT hZ (w 153 rfl)) (mvT hZ (w 154 rfl)) (mvT hZ (w 155 rfl)) (mvT hZ (w 156 rfl)) (by decide) (backOf (W := 1) (rm_2s1 l Z a0 hw [] lx em h14 n0 hZn hOld S_em Fe1) hZ (w 157 rfl) (w 138 rfl) (by decide) (by decide)) q19a q19b q19c (g := (mkF m 32 #[.val (.ref a1), .val (.ref r), .val (.int 0)] [(.ref lx), (.int 0)])) rfl (by rw [hml]; rfl) (Steps.refl _) (argsL := []) (rest := [(.int 0)]) (lenOf pd_7 rfl) rfl (by show 2 * 0 + _ ≤ _; exact Nat.le_of_eq rfl) (hb hby d17_32) (fun _ _ => ⟨rfl, e17, (by decide : 1 + 0 ≤ _), (by decide : 2 + 0 ≤ _)⟩)
 dsimp only [Pt.U, Pt.locs, Pt.cells, Pt.slots] at X19 l19 y19 z19 st19 hQ19
 subst l19 y19 z19
 obtain ⟨rfl, N19q, e19⟩ := hQ19
 have N19 := Fr.app N14 N19q
 have R20 := Rc.tr R18 st19
 have R21 : Rc p e below A0 (T19.setTop (mkF m 45 #[.val (.ref a1), .val (.ref r), .val (.int 0)] [(.ref a1), (.int 1), (.ref r)])) := by
   intro tgt hgo
   refine R20 tgt ?_
   show Steps p.tables e below (T19.setTop (mkF m 37 #[.val (.ref a1), .val (.ref r), .val (.int 0)] [(.int 1), (.int 0)])) _
   refine XS.icmpNo X19.here hx rfl (hb hby d17_37) rfl (tlt (by decide : (0 : Int32) < (1 : Int32))).2.1 ?_
   refine XS.aloadN X19.here hx rfl (hb hby d17_40) rfl rfl ?_
   refine XS.iloadN X19.here hx rfl (hb hby d17_41) rfl ?_
   refine XS.iconst X19.here hx rfl (hb hby d17_42) ?_
   refine XS.iadd X19.here hx rfl (hb hby d17_43) rfl ?_
   refine XS.aloadN X19.here hx rfl (hb hby d17_44) rfl rfl ?_
   exact hgo
 obtain ⟨T22, X22, e22, st22⟩ := getF X19 hx hZ hown (host := "") (Or.inl (w 86 rfl)) Via.refl e19 Ff (g := (mkF m 45 #[.val (.ref a1), .val (.ref r), .val (.int 0)] [(.ref a1), (.int 1), (.ref r)])) rfl rfl (hb hby d17_45)
 have R23 := Rc.st R21 st22
 have R24 : Rc p e below A0 (T22.setTop (mkF m 49 #[.val (.ref a1), .val (.ref r), .val (.int 0)] [(.int 0), (.ref lx), (.int 1), (.ref r)])) := by
   intro tgt hgo
   refine R23 tgt ?_
   show Steps p.tables e below (T22.setTop (mkF m 48 #[.val (.ref a1), .val (.ref r), .val (.int 0)] [(.ref lx), (.int 1), (.ref r)])) _
   refine XS.iloadN X22.here hx rfl (hb hby d17_48) rfl ?_
   exact hgo
 obtain ⟨cq25, kq25, q25a, q25b, q25c⟩ := isOf hZ e22 Ex
 obtain ⟨_, _, ⟨T25, L25, k25, n25⟩, -, X25, ⟨Lc25, hQ25, l25, y25, z25⟩, st25⟩ := X22.interfaceBack hx (xi := yn19) (y := yn15) hown (mvT hZ (w 110 rfl)) (mvT hZ (w 111 rfl)) (mvT hZ (w 112 rfl)) (mvT hZ (w 159 rfl)) (mvT hZ (w 160 rfl)) (mvT hZ (w 161 rfl)) (mvT hZ (w 162 rfl)) (mvT hZ (w 156 rfl)) (by decide) (backOf (W := 2) (rm_2g0 l Z a0 hw [] lx s1 h14 n0 hZn Fe0) hZ (w 163 rfl) (w 138 rfl) (by decide) (by decide)) q25a q25b q25c (g := (mkF m 49 #[.val (.ref a1), .val (.ref r), .val (.int 0)] [(.int 0), (.ref lx), (.int 1), (.ref r)])) rfl (by rw [hml]; rfl) (Steps.refl _) (argsL := [(.int 0)]) (rest := [(.int 1), (.ref r)]) (lenOf pd_9 rfl) rfl (by show 2 * 0 + _ ≤ _; exact Nat.le_of_eq rfl) (hb hby d17_49) (fun _ _ => ⟨rfl, e22, (by decide : 1 + 0 ≤ _), (by decide : 2 + 0 ≤ _)⟩)
 dsimp only [Pt.U, Pt.locs, Pt.cells, Pt.slots] at X25 l25 y25 z25 st25 hQ25
 subst l25 y25 z25
 obtain ⟨rfl, N25q, e25⟩ := hQ25
 have N25 := Fr.app N19 N25q
 have R26 := Rc.tr R24 st25
 obtain ⟨T27, X27, e27, st27⟩ := castY X25 hx hZ hown (w 102 rfl) e25 (Ins.self Es1) (g := (mkF m 54 #[.val (.ref a1), .val (.ref r), .val (.int 0)] [(.ref s1), (.int 1), (.ref r)])) rfl rfl (hb hby d17_54)
 have R28 := Rc.st R26 st27
 obtain ⟨cl29, Ar29, q29, S29, Nn29, H29, G29⟩ := V_r
 have hin29 : ¬ ((1 : Int32) < 0 ∨ cl29.slots.size ≤ ((1 : Int32)).toNatClampNeg) := inb_of S29 ⟨by decide, by decide⟩
 obtain ⟨T29, h29, X29, e29, W29, st29⟩ := stR X27 hx hZ e27 Ar29 (j := (1 : Int32)) hin29 rfl (Sto.ofV Ar29 q29 O7 (Ins.self Es1)) (g := (mkF m 57 #[.val (.ref a1), .val (.ref r), .val (.int 0)] [(.ref s1), (.int 1), (.ref r)])) rfl rfl (hb hby d17_57)
 replace hZn := Nat.le_trans hZn (Keep.of_wr W29).1
 replace hK := hK.wr W29 (Or.inr sz_r)
 replace hOld := hOld.wr W29 ge_r
 replace E1 := E1.wr W29
 replace Fk := Fk.other W29 (Or.inl ne_a1_r)
 replace Ff := Ff.other W29 (Or.inl ne_a1_r)
 replace Ek := Ek.wr W29
 replace Ft := Ft.other W29 (Or.inl ne_kd_r)
 replace Et := Et.wr W29
 replace Ex := Ex.wr W29
 replace Fe0 := Fe0.other W29 (Or.inl ne_lx_r)
 replace Fe1 := Fe1.other W29 (Or.inl ne_lx_r)
 replace Es1 := Es1.wr W29
 have V_r : Arv Z h29 r k7 (.object "java/lang/String") (2 : Int32) [(.ref tk), (.ref s1)] .null := Arv.set Ar29 q29 S29 Nn29 H29 G29 rfl W29 1 rfl (Nat.le_of_ble_eq_true rfl)
 have N29 := Fr.snoc X29 N25 ge_r
 have R30 := Rc.st R28 st29
 have R31 : Rc p e below A0 (T29.setTop (mkF m 29 #[.val (.ref a1), .val (.ref r), .val (.int 1)] [(.ref a1), (.int 1)])) := by
   intro tgt hgo
   refine R30 tgt ?_
   show Steps p.tables e below (T29.setTop (mkF m 58 #[.val (.ref a1), .val (.ref r), .val (.int 0)] [])) _
   refine XS.iinc X29.here hx rfl (hb hby d17_58) rfl (l' := #[.val (.ref a1), .val (.ref r), .val (.int 1)]) rfl ?_
   refine XS.goto X29.here hx rfl (pc0 := 61) (pc' := 27) rfl (hb hby d17_61) (by decide) (by decide) ?_
   refine XS.iloadN X29.here hx rfl (hb hby d17_27) rfl ?_
   refine XS.aloadN X29.here hx rfl (hb hby d17_28) rfl rfl ?_
   exact hgo
 obtain ⟨T32, X32, e32, st32⟩ := getF X29 hx hZ hown (host := "") (Or.inl (w 86 rfl)) Via.refl e29 Ff (g := (mkF m 29 #[.val (.ref a1), .val (.ref r), .val (.int 1)] [(.ref a1), (.int 1)])) rfl rfl (hb hby d17_29)
 have R33 := Rc.st R31 st32
 obtain ⟨cq34, kq34, q34a, q34b, q34c⟩ := isOf hZ e32 Ex
 obtain ⟨_, _, ⟨T34, L34, k34, n34⟩, -, X34, ⟨Lc34, hQ34, l34, y34, z34⟩, st34⟩ := X32.interfaceBack hx (xi := yn18) (y := yn14) hown (mvT hZ (w 93 rfl)) (mvT hZ (w 94 rfl)) (mvT hZ (w 95 rfl)) (mvT hZ (w 152 rfl)) (mvT hZ (w 153 rfl)) (mvT hZ (w 154 rfl)) (mvT hZ (w 155 rfl)) (mvT hZ (w 156 rfl)) (by decide) (backOf (W := 1) (rm_2s1 l Z a0 hw [] lx em h29 n0 hZn hOld S_em Fe1) hZ (w 157 rfl) (w 138 rfl) (by decide) (by decide)) q34a q34b q34c (g := (mkF m 32 #[.val (.ref a1), .val (.ref r), .val (.int 1)] [(.ref lx), (.int 1)])) rfl (by rw [hml]; rfl) (Steps.refl _) (argsL := []) (rest := [(.int 1)]) (lenOf pd_7 rfl) rfl (by show 2 * 0 + _ ≤ _; exact Nat.le_of_eq rfl) (hb hby d17_32) (fun _ _ => ⟨rfl, e32, (by decide : 1 + 0 ≤ _), (by decide : 2 + 0 ≤ _)⟩)
 dsimp only [Pt.U, Pt.locs, Pt.cells, Pt.slots] at X34 l34 y34 z34 st34 hQ34
 subst l34 y34 z34
 obtain ⟨rfl, N34q, e34⟩ := hQ34
 have N34 := Fr.app N29 N34q
 have R35 := Rc.tr R33 st34
 have R36 : Rc p e below A0 (T34.setTop (mkF m 65 #[.val (.ref a1), .val (.ref r), .val (.int 1)] [(.ref r)])) := by
   intro tgt hgo
   refine R35 tgt ?_
   show Steps p.tables e below (T34.setTop (mkF m 37 #[.val (.ref a1), .val (.ref r), .val (.int 1)] [(.int 1), (.int 1)])) _
   refine XS.icmpYes X34.here hx rfl (pc0 := 37) (pc' := 64) rfl (hb hby d17_37) rfl (flt (by decide : ¬ ((1 : Int32) < (1 : Int32)))).2.1 (by decide) (by decide) ?_
   refine XS.aloadN X34.here hx rfl (hb hby d17_64) rfl rfl ?_
   exact hgo
 subst hA0
 obtain ⟨fs, hr, hrun, hended, hW, hsame⟩ := X34.leave (v := some (.ref r)) (fun h => by rw [Bd.returns] at h; cases h)
 refine ⟨_, _, R36 _ ?_, hrun, hended, _, _, rfl, ?_, ⟨_, rfl⟩, hW, hsame.mono (by decide) (by decide)⟩
 ·show Steps p.tables e below (T34.setTop (mkF m 65 #[.val (.ref a1), .val (.ref r), .val (.int 1)] [(.ref r)])) _
  jvm_step X34.here [X34.here.top, hx, (hb hby d17_65), X34.method', Bd.returns, Value.isRef, FieldType.isReference]
  first | (intro acts; rw [hr _ acts rfl rfl rfl]) | rw [hr _ _ rfl rfl rfl]
  exact Steps.refl _
 ·show Qli1 Z tk s1 h0 n0 _ T34.heap _
  rw [e34]
  exact ⟨⟨r, rfl, _, sz_r, ge_r, O7, V_r⟩, N34, hK⟩
def Qli2 (Z : State) (tk s1 s2 : Addr) (h0 : Heap) (n0 : Nat) (v : Option Value) (h : Heap) (L : List Loc) : Prop := (∃ r : Addr, v = some (.ref r) ∧ ∃ kr : ClassId, h0.size ≤ r ∧ n0 ≤ r ∧ Ovr Z kr "java/lang/String" ∧ Arv Z h r kr (.object "java/lang/String") (3 : Int32) [(.ref tk), (.ref s1), (.ref s2)] .null) ∧ Fr n0 L ∧ Keep h0 h []
theorem ef_rm_li2 (m : MethodId) (a1 : Addr) : entryFrame m #[(.ref a1)] 3 = mkF m 0 #[.val (.ref a1), .unset, .unset] [] := by first | (simp [entryFrame, mkF, argsToLocals, Value.category]; done) | rfl
set_option maxRecDepth 65536 in
set_option maxHeartbeats 40000000 in
theorem rm_li2 (l : Launch) (Z : State) (a0 : Array Value) (hw : ∀ d ∈ tables_1, d.before a0 Z = true) (ws : List Jvm.Cond) (a1 : Addr) (kd tk lx s1 s2 : Addr) (em : Addr) (h0 : Heap) (n0 : Nat) (Z0 : n0 ≤ h0.size) (E1 : Exa Z h0 a1 "com/example/verdict_ladder/verdictladder/lint/Finding") (Fk : Fld Z h0 a1 "com/example/verdict_ladder/verdictladder/lint/Finding" "kind" "Lcom/example/verdict_ladder/verdictladder/lint/Finding$Kind;" (.ref kd)) (Ff : Fld Z h0 a1 "com/example/verdict_ladder/verdictladder/lint/Finding" "fields" "Ljava/util/List;" (.ref lx)) (Ek : Exa Z h0 kd "com/example/verdict_ladder/verdictladder/lint/Finding$Kind") (Ft : Fld Z h0 kd "com/example/verdict_ladder/verdictladder/lint/Finding$Kind" "token" "Ljava/lang/String;" (.ref tk)) (Et : Exa Z h0 tk "java/lang/String") (Ex : Exa Z h0 lx "java/util/ImmutableCollections$List12") (X00 : Old Z n0 h0) (S_em : Sta Z Z.heap "java/util/ImmutableCollections" "EMPTY" "Ljava/lang/Object;" (.ref em)) (hne : ¬ s2 = em) (Fe0 : Fld Z h0 lx "java/util/ImmutableCollections$List12" "e0" "Ljava/lang/Object;" (.ref s1)) (Fe1 : Fld Z h0 lx "java/util/ImmutableCollections$List12" "e1" "Ljava/lang/Object;" (.ref s2)) (Es1 : Exa Z h0 s1 "java/lang/String") (Es2 : Exa Z h0 s2 "java/lang/String") :
    MetFree l yn17 (head1 (Jvm.Cond.code yn17 prog_16_method_4_code 3 (some (.array (.object "java/lang/String"))) :: ws) ({ frames := 1, cells := 1, slots := 3, locals := 15 } : Room)) (fun a U => a = #[(.ref a1)] ∧ Z.Warmed39 U.vm ∧ U.heap = h0) (fun _ _ _ _ _ => True) (fun _ U o U' => ∃ v L, o = .returned v ∧ Qli2 Z tk s1 s2 h0 n0 v U'.heap L ∧ FrameEnd U o U' L ({ frames := 1, cells := 1, slots := 3, locals := 15 } : Room).cells ({ frames := 1, cells := 1, slots := 3, locals := 15 } : Room).slots) := by
 refine MetFree.of_bodySF (plainFor_of_name pn_com_example_verdict_ladder_verdictladder_lint_Finding) hisR ?_
 intro p e s m args below meth c s₁ Bd hml0 hP hK
 obtain ⟨rfl, hZ, hh⟩ := hP
 have hx := Bd.exec
 have hby := Bd.bytes
 have hml : c.maxLocals = 3 := hml0
 have hown : s.vm.findClass "com/example/verdict_ladder/verdictladder/lint/Finding" = some m.cls := findClass_of_methodNamed Bd.named
 have hnm := (name_of_methodNamed Bd.named Bd.method).1
 have X0 : Stand p l e ({ frames := 1, cells := 1, slots := 3, locals := 15 } : Room) s m #[(.ref a1)] below meth c s₁ [] 0 0 := Stand.of_body Bd
 have e0 : s₁.heap = h0 := by rw [← hh, Bd.state]; rfl
 have N0 := Fr.nil n0
 obtain ⟨A0, hA0⟩ : ∃ A, A = s₁.setTop (entryFrame m #[(.ref a1)] 3) := ⟨_, rfl⟩
 have R0 : ∀ tgt, Steps p.tables e below (s₁.setTop (mkF m 0 #[.val (.ref a1), .unset, .unset] [])) tgt → Steps p.tables e below A0 tgt := fun tgt hgo => by rw [hA0]; exact castTop (ef_rm_li2 m a1) hgo
 have w : ∀ (i : Nat) {d : Jvm.Cond}, tables_1[i]? = some d → d.before a0 Z = true := fun i d h => hw d (List.mem_of_getElem? h)
 have hZn := Z0
 have hK : Keep h0 h0 [] := Keep.refl _ _
 have hOld := X00
 have R1 : Rc p e below A0 (s₁.setTop (mkF m 1 #[.val (.ref a1), .unset, .unset] [(.ref a1)])) := by
   intro tgt hgo
   refine R0 tgt ?_
   show Steps p.tables e below (s₁.setTop (mkF m 0 #[.val (.ref a1), .unset, .unset] [])) _
   refine XS.aloadN X0.here hx rfl (hb hby d17_0) rfl rfl ?_
   exact hgo
 obtain ⟨T2, X2, e2, st2⟩ := getF X0 hx hZ hown (host := "") (Or.inl (w 86 rfl)) Via.refl e0 Ff (g := (mkF m 1 #[.val (.ref a1), .unset, .unset] [(.ref a1)])) rfl rfl (hb hby d17_1)
 have R3 := Rc.st R1 st2
 obtain ⟨cq4, kq4, q4a, q4b, q4c⟩ := isOf hZ e2 Ex
 obtain ⟨_, _, ⟨T4, L4, k4, n4⟩, -, X4, ⟨Lc4, hQ4, l4, y4, z4⟩, st4⟩ := X2.interfaceBack hx (xi := yn18) (y := yn14) hown (mvT hZ (w 93 rfl)) (mvT hZ (w 94 rfl)) (mvT hZ (w 95 rfl)) (mvT hZ (w 152 rfl)) (mvT hZ (w 153 rfl)) (mvT hZ (w 154 rfl)) (mvT hZ (w 155 rfl)) (mvT hZ (w 156 rfl)) (by decide) (backOf (W := 0) (rm_2s2 l Z a0 hw [] lx s2 em h0 n0 hZn hOld S_em hne Fe1) hZ (w 157 rfl) (w 138 rfl) (by decide) (by decide)) q4a q4b q4c (g := (mkF m 4 #[.val (.ref a1), .unset, .unset] [(.ref lx)])) rfl (by rw [hml]; rfl) (Steps.refl _) (argsL := []) (rest := []) (lenOf pd_7 rfl) rfl (by show 2 * 0 + _ ≤ _; exact Nat.le_of_eq rfl) (hb hby d17_4) (fun _ _ => ⟨rfl, e2, (by decide : 0 + 0 ≤ _), (by decide : 0 + 0 ≤ _)⟩)
 dsimp only [Pt.U, Pt.locs, Pt.cells, Pt.slots] at X4 l4 y4 z4 st4 hQ4
 subst l4 y4 z4
 obtain ⟨rfl, N4q, e4⟩ := hQ4
 have N4 := Fr.app N0 N4q
 have R5 := Rc.tr R3 st4
 have R6 : Rc p e below A0 (T4.setTop (mkF m 11 #[.val (.ref a1), .unset, .unset] [(.int 3)])) := by
   intro tgt hgo
   refine R5 tgt ?_
   show Steps p.tables e below (T4.setTop (mkF m 9 #[.val (.ref a1), .unset, .unset] [(.int 2)])) _
   refine XS.iconst X4.here hx rfl (hb hby d17_9) ?_
   refine XS.iadd X4.here hx rfl (hb hby d17_10) rfl ?_
   exact hgo
 obtain ⟨T7, h7, k7, X7, e7, E7, A7, O7, st7⟩ := newR X4 hx hZ hown (w 102 rfl) (w 31 rfl) e4 (g := (mkF m 11 #[.val (.ref a1), .unset, .unset] [(.int 3)])) rfl (hb hby d17_11) rfl (by decide) (cap := 3) (by decide) (by decide) (by decide) (by decide)
 obtain ⟨r, g7⟩ : ∃ z, z = h0.size := ⟨_, rfl⟩
 rw [← g7] at A7 st7
 have ne_a1_r : a1 ≠ r := Nat.ne_of_lt (Nat.lt_of_lt_of_le E1.lt (Nat.le_of_eq g7.symm))
 have ne_kd_r : kd ≠ r := Nat.ne_of_lt (Nat.lt_of_lt_of_le Ek.lt (Nat.le_of_eq g7.symm))
 have ne_tk_r : tk ≠ r := Nat.ne_of_lt (Nat.lt_of_lt_of_le Et.lt (Nat.le_of_eq g7.symm))
 have ne_lx_r : lx ≠ r := Nat.ne_of_lt (Nat.lt_of_lt_of_le Ex.lt (Nat.le_of_eq g7.symm))
 have ne_s1_r : s1 ≠ r := Nat.ne_of_lt (Nat.lt_of_lt_of_le Es1.lt (Nat.le_of_eq g7.symm))
 have ne_s2_r : s2 ≠ r := Nat.ne_of_lt (Nat.lt_of_lt_of_le Es2.lt (Nat.le_of_eq g7.symm))
 have ge_r : n0 ≤ r := Nat.le_trans hZn (Nat.le_of_eq g7.symm)
 have sz_r : h0.size ≤ r := Nat.le_trans hK.1 (Nat.le_of_eq g7.symm)
 replace hZn := Nat.le_trans hZn E7.1
 replace hK := hK.ext E7
 replace hOld := hOld.ext E7
 replace E1 := E1.ext E7
 replace Fk := Fk.ext E7
 replace Ff := Ff.ext E7
 replace Ek := Ek.ext E7
 replace Ft := Ft.ext E7
 replace Et := Et.ext E7
 replace Ex := Ex.ext E7
 replace Fe0 := Fe0.ext E7
 replace Fe1 := Fe1.ext E7
 replace Es1 := Es1.ext E7
 replace Es2 := Es2.ext E7
 have V_r : Arv Z h7 r k7 (.object "java/lang/String") (3 : Int32) [.null, .null, .null] .null := (Arv.new A7 (by decide)).pad (pad_rep [] .null 3)
 have R8 := Rc.st R6 st7
 have R9 : Rc p e below A0 (T7.setTop (mkF m 18 #[.val (.ref a1), .val (.ref r), .unset] [(.ref a1), (.int 0), (.ref r)])) := by
   intro tgt hgo
   refine R8 tgt ?_
   show Steps p.tables e below (T7.setTop (mkF m 14 #[.val (.ref a1), .unset, .unset] [(.ref r)])) _
   refine XS.astoreN X7.here hx rfl (hb hby d17_14) rfl rfl (l' := #[.val (.ref a1), .val (.ref r), .unset]) rfl ?_
   refine XS.aloadN X7.here hx rfl (hb hby d17_15) rfl rfl ?_
   refine XS.iconst X7.here hx rfl (hb hby d17_16) ?_
   refine XS.aloadN X7.here hx rfl (hb hby d17_17) rfl rfl ?_
   exact hgo
 obtain ⟨T10, X10, e10, st10⟩ := getF X7 hx hZ hown (host := "") (Or.inl (w 39 rfl)) Via.refl e7 Fk (g := (mkF m 18 #[.val (.ref a1), .val (.ref r), .unset] [(.ref a1), (.int 0), (.ref r)])) rfl rfl (hb hby d17_18)
 have R11 := Rc.st R9 st10
 obtain ⟨cq12, kq12, q12a, q12b, q12c⟩ := isOf hZ e10 Ek
 obtain ⟨_, _, ⟨T12, L12, k12, n12⟩, -, X12, ⟨Lc12, hQ12, l12, y12, z12⟩, st12⟩ := X10.virtualBack hx (y := yn16) (z := yn16) hown (mvT hZ (w 103 rfl)) (mvT hZ (w 104 rfl)) (notFace_of_selects (args := #[]) (mvT hZ (w 106 rfl))) (mvT hZ (w 106 rfl)) (mvT hZ (w 105 rfl)) (by decide) (backOf (W := 2) (rm_tk l Z a0 hw [] kd tk h7 n0 hZn Ft) hZ (w 107 rfl) (w 2 rfl) (by decide) (by decide)) q12a q12c (g := (mkF m 21 #[.val (.ref a1), .val (.ref r), .unset] [(.ref kd), (.int 0), (.ref r)])) rfl (by rw [hml]; rfl) (Steps.refl _) (argsL := []) (rest := [(.int 0), (.ref r)]) (lenOf pd_8 rfl) rfl (by show 2 * 0 + _ ≤ _; exact Nat.le_of_eq rfl) (hb hby d17_21) (fun _ _ => ⟨rfl, e10, (by decide : 1 + 0 ≤ _), (by decide : 3 + 0 ≤ _)⟩)
 dsimp only [Pt.U, Pt.locs, Pt.cells, Pt.slots] at X12 l12 y12 z12 st12 hQ12
 subst l12 y12 z12
 obtain ⟨rfl, N12q, e12⟩ := hQ12
 have N12 := Fr.app N4 N12q
 have R13 := Rc.tr R11 st12
 obtain ⟨cl14, Ar14, q14, S14, Nn14, H14, G14⟩ := V_r
 have hin14 : ¬ ((0 : Int32) < 0 ∨ cl14.slots.size ≤ ((0 : Int32)).toNatClampNeg) := inb_of S14 ⟨by decide, by decide⟩
 obtain ⟨T14, h14, X14, e14, W14, st14⟩ := stR X12 hx hZ e12 Ar14 (j := (0 : Int32)) hin14 rfl (Sto.ofV Ar14 q14 O7 (Ins.self Et)) (g := (mkF m 24 #[.val (.ref a1), .val (.ref r), .unset] [(.ref tk), (.int 0), (.ref r)])) rfl rfl (hb hby d17_24)
 replace hZn := Nat.le_trans hZn (Keep.of_wr W14).1
 replace hK := hK.wr W14 (Or.inr sz_r)
 replace hOld := hOld.wr W14 ge_r
 replace E1 := E1.wr W14
 replace Fk := Fk.other W14 (Or.inl ne_a1_r)
 replace Ff := Ff.other W14 (Or.inl ne_a1_r)
 replace Ek := Ek.wr W14
 replace Ft := Ft.other W14 (Or.inl ne_kd_r)
 replace Et := Et.wr W14
 replace Ex := Ex.wr W14
 replace Fe0 := Fe0.other W14 (Or.inl ne_lx_r)
 replace Fe1 := Fe1.other W14 (Or.inl ne_lx_r)
 replace Es1 := Es1.wr W14
 replace Es2 := Es2.wr W14
 have V_r : Arv Z h14 r k7 (.object "java/lang/String") (3 : Int32) [(.ref tk), .null, .null] .null := Arv.set Ar14 q14 S14 Nn14 H14 G14 rfl W14 0 rfl (Nat.le_of_ble_eq_true rfl)
 have N14 := Fr.snoc X14 N12 ge_r
 have R15 := Rc.st R13 st14
 have R16 : Rc p e below A0 (T14.setTop (mkF m 29 #[.val (.ref a1), .val (.ref r), .val (.int 0)] [(.ref a1), (.int 0)])) := by
   intro tgt hgo
   refine R15 tgt ?_
   show Steps p.tables e below (T14.setTop (mkF m 25 #[.val (.ref a1), .val (.ref r), .unset] [])) _
   refine XS.iconst X14.here hx rfl (hb hby d17_25) ?_
   refine XS.istoreN X14.here hx rfl (hb hby d17_26) rfl (l' := #[.val (.ref a1), .val (.ref r), .val (.int 0)]) rfl ?_
   refine XS.iloadN X14.here hx rfl (hb hby d17_27) rfl ?_
   refine XS.aloadN X14.here hx rfl (hb hby d17_28) rfl rfl ?_
   exact hgo
 obtain ⟨T17, X17, e17, st17⟩ := getF X14 hx hZ hown (host := "") (Or.inl (w 86 rfl)) Via.refl e14 Ff (g := (mkF m 29 #[.val (.ref a1), .val (.ref r), .val (.int 0)] [(.ref a1), (.int 0)])) rfl rfl (hb hby d17_29)
 have R18 := Rc.st R16 st17
 obtain ⟨cq19, kq19, q19a, q19b, q19c⟩ := isOf hZ e17 Ex
 obtain ⟨_, _, ⟨T19, L19, k19, n19⟩, -, X19, ⟨Lc19, hQ19, l19, y19, z19⟩, st19⟩ := X17.interfaceBack hx (xi := yn18) (y := yn14) hown (mvT hZ (w 93 rfl)) (mvT hZ (w 94 rfl)) (mvT hZ (w 95 rfl)) (mvT hZ (w 152 rfl)) (mvT hZ (w 153 rfl)) (mvT hZ (w 154 rfl)) (mvT hZ (w 155 rfl)) (mvT hZ (w 156 rfl)) (by decide) (backOf (W := 1) (rm_2s2 l Z a0 hw [] lx s2 em h14 n0 hZn hOld S_em hne Fe1) hZ (w 157 rfl) (w 138 rfl) (by decide) (by decide)) q19a q19b q19c (g := (mkF m 32 #[.val (.ref a1), .val (.ref r), .val (.int 0)] [(.ref lx), (.int 0)])) rfl (by rw [hml]; rfl) (Steps.refl _) (argsL := []) (rest := [(.int 0)]) (lenOf pd_7 rfl) rfl (by show 2 * 0 + _ ≤ _; exact Nat.le_of_eq rfl) (hb hby d17_32) (fun _ _ => ⟨rfl, e17, (by decide : 1 + 0 ≤ _), (by decide : 3 + 0 ≤ _)⟩)
 dsimp only [Pt.U, Pt.locs, Pt.cells, Pt.slots] at X19 l19 y19 z19 st19 hQ19
 subst l19 y19 z19
 obtain ⟨rfl, N19q, e19⟩ := hQ19
 have N19 := Fr.app N14 N19q
 have R20 := Rc.tr R18 st19
 have R21 : Rc p e below A0 (T19.setTop (mkF m 45 #[.val (.ref a1), .val (.ref r), .val (.int 0)] [(.ref a1), (.int 1), (.ref r)])) := by
   intro tgt hgo
   refine R20 tgt ?_
   show Steps p.tables e below (T19.setTop (mkF m 37 #[.val (.ref a1), .val (.ref r), .val (.int 0)] [(.int 2), (.int 0)])) _
   refine XS.icmpNo X19.here hx rfl (hb hby d17_37) rfl (tlt (by decide : (0 : Int32) < (2 : Int32))).2.1 ?_
   refine XS.aloadN X19.here hx rfl (hb hby d17_40) rfl rfl ?_
   refine XS.iloadN X19.here hx rfl (hb hby d17_41) rfl ?_
   refine XS.iconst X19.here hx rfl (hb hby d17_42) ?_
   refine XS.iadd X19.here hx rfl (hb hby d17_43) rfl ?_
   refine XS.aloadN X19.here hx rfl (hb hby d17_44) rfl rfl ?_
   exact hgo
 obtain ⟨T22, X22, e22, st22⟩ := getF X19 hx hZ hown (host := "") (Or.inl (w 86 rfl)) Via.refl e19 Ff (g := (mkF m 45 #[.val (.ref a1), .val (.ref r), .val (.int 0)] [(.ref a1), (.int 1), (.ref r)])) rfl rfl (hb hby d17_45)
 have R23 := Rc.st R21 st22
 have R24 : Rc p e below A0 (T22.setTop (mkF m 49 #[.val (.ref a1), .val (.ref r), .val (.int 0)] [(.int 0), (.ref lx), (.int 1), (.ref r)])) := by
   intro tgt hgo
   refine R23 tgt ?_
   show Steps p.tables e below (T22.setTop (mkF m 48 #[.val (.ref a1), .val (.ref r), .val (.int 0)] [(.ref lx), (.int 1), (.ref r)])) _
   refine XS.iloadN X22.here hx rfl (hb hby d17_48) rfl ?_
   exact hgo
 obtain ⟨cq25, kq25, q25a, q25b, q25c⟩ := isOf hZ e22 Ex
 obtain ⟨_, _, ⟨T25, L25, k25, n25⟩, -, X25, ⟨Lc25, hQ25, l25, y25, z25⟩, st25⟩ := X22.interfaceBack hx (xi := yn19) (y := yn15) hown (mvT hZ (w 110 rfl)) (mvT hZ (w 111 rfl)) (mvT hZ (w 112 rfl)) (mvT hZ (w 159 rfl)) (mvT hZ (w 160 rfl)) (mvT hZ (w 161 rfl)) (mvT hZ (w 162 rfl)) (mvT hZ (w 156 rfl)) (by decide) (backOf (W := 2) (rm_2g0 l Z a0 hw [] lx s1 h14 n0 hZn Fe0) hZ (w 163 rfl) (w 138 rfl) (by decide) (by decide)) q25a q25b q25c (g := (mkF m 49 #[.val (.ref a1), .val (.ref r), .val (.int 0)] [(.int 0), (.ref lx), (.int 1), (.ref r)])) rfl (by rw [hml]; rfl) (Steps.refl _) (argsL := [(.int 0)]) (rest := [(.int 1), (.ref r)]) (lenOf pd_9 rfl) rfl (by show 2 * 0 + _ ≤ _; exact Nat.le_of_eq rfl) (hb hby d17_49) (fun _ _ => ⟨rfl, e22, (by decide : 1 + 0 ≤ _), (by decide : 3 + 0 ≤ _)⟩)
 dsimp only [Pt.U, Pt.locs, Pt.cells, Pt.slots] at X25 l25 y25 z25 st25 hQ25
 subst l25 y25 z25
 obtain ⟨rfl, N25q, e25⟩ := hQ25
 have N25 := Fr.app N19 N25q
 have R26 := Rc.tr R24 st25
 obtain ⟨T27, X27, e27, st27⟩ := castY X25 hx hZ hown (w 102 rfl) e25 (Ins.self Es1) (g := (mkF m 54 #[.val (.ref a1), .val (.ref r), .val (.int 0)] [(.ref s1), (.int 1), (.ref r)])) rfl rfl (hb hby d17_54)
 have R28 := Rc.st R26 st27
 obtain ⟨cl29, Ar29, q29, S29, Nn29, H29, G29⟩ := V_r
 have hin29 : ¬ ((1 : Int32) < 0 ∨ cl29.slots.size ≤ ((1 : Int32)).toNatClampNeg) := inb_of S29 ⟨by decide, by decide⟩
 obtain ⟨T29, h29, X29, e29, W29, st29⟩ := stR X27 hx hZ e27 Ar29 (j := (1 : Int32)) hin29 rfl (Sto.ofV Ar29 q29 O7 (Ins.self Es1)) (g := (mkF m 57 #[.val (.ref a1), .val (.ref r), .val (.int 0)] [(.ref s1), (.int 1), (.ref r)])) rfl rfl (hb hby d17_57)
 replace hZn := Nat.le_trans hZn (Keep.of_wr W29).1
 replace hK := hK.wr W29 (Or.inr sz_r)
 replace hOld := hOld.wr W29 ge_r
 replace E1 := E1.wr W29
 replace Fk := Fk.other W29 (Or.inl ne_a1_r)
 replace Ff := Ff.other W29 (Or.inl ne_a1_r)
 replace Ek := Ek.wr W29
 replace Ft := Ft.other W29 (Or.inl ne_kd_r)
 replace Et := Et.wr W29
 replace Ex := Ex.wr W29
 replace Fe0 := Fe0.other W29 (Or.inl ne_lx_r)
 replace Fe1 := Fe1.other W29 (Or.inl ne_lx_r)
 replace Es1 := Es1.wr W29
 replace Es2 := Es2.wr W29
 have V_r : Arv Z h29 r k7 (.object "java/lang/String") (3 : Int32) [(.ref tk), (.ref s1), .null] .null := Arv.set Ar29 q29 S29 Nn29 H29 G29 rfl W29 1 rfl (Nat.le_of_ble_eq_true rfl)
 have N29 := Fr.snoc X29 N25 ge_r
 have R30 := Rc.st R28 st29
 have R31 : Rc p e below A0 (T29.setTop (mkF m 29 #[.val (.ref a1), .val (.ref r), .val (.int 1)] [(.ref a1), (.int 1)])) := by
   intro tgt hgo
   refine R30 tgt ?_
   show Steps p.tables e below (T29.setTop (mkF m 58 #[.val (.ref a1), .val (.ref r), .val (.int 0)] [])) _
   refine XS.iinc X29.here hx rfl (hb hby d17_58) rfl (l' := #[.val (.ref a1), .val (.ref r), .val (.int 1)]) rfl ?_
   refine XS.goto X29.here hx rfl (pc0 := 61) (pc' := 27) rfl (hb hby d17_61) (by decide) (by decide) ?_
   refine XS.iloadN X29.here hx rfl (hb hby d17_27) rfl ?_
   refine XS.aloadN X29.here hx rfl (hb hby d17_28) rfl rfl ?_
   exact hgo
 obtain ⟨T32, X32, e32, st32⟩ := getF X29 hx hZ hown (host := "") (Or.inl (w 86 rfl)) Via.refl e29 Ff (g := (mkF m 29 #[.val (.ref a1), .val (.ref r), .val (.int 1)] [(.ref a1), (.int 1)])) rfl rfl (hb hby d17_29)
 have R33 := Rc.st R31 st32
 obtain ⟨cq34, kq34, q34a, q34b, q34c⟩ := isOf hZ e32 Ex
 obtain ⟨_, _, ⟨T34, L34, k34, n34⟩, -, X34, ⟨Lc34, hQ34, l34, y34, z34⟩, st34⟩ := X32.interfaceBack hx (xi := yn18) (y := yn14) hown (mvT hZ (w 93 rfl)) (mvT hZ (w 94 rfl)) (mvT hZ (w 95 rfl)) (mvT hZ (w 152 rfl)) (mvT hZ (w 153 rfl)) (mvT hZ (w 154 rfl)) (mvT hZ (w 155 rfl)) (mvT hZ (w 156 rfl)) (by decide) (backOf (W := 1) (rm_2s2 l Z a0 hw [] lx s2 em h29 n0 hZn hOld S_em hne Fe1) hZ (w 157 rfl) (w 138 rfl) (by decide) (by decide)) q34a q34b q34c (g := (mkF m 32 #[.val (.ref a1), .val (.ref r), .val (.int 1)] [(.ref lx), (.int 1)])) rfl (by rw [hml]; rfl) (Steps.refl _) (argsL := []) (rest := [(.int 1)]) (lenOf pd_7 rfl) rfl (by show 2 * 0 + _ ≤ _; exact Nat.le_of_eq rfl) (hb hby d17_32) (fun _ _ => ⟨rfl, e32, (by decide : 1 + 0 ≤ _), (by decide : 3 + 0 ≤ _)⟩)
 dsimp only [Pt.U, Pt.locs, Pt.cells, Pt.slots] at X34 l34 y34 z34 st34 hQ34
 subst l34 y34 z34
 obtain ⟨rfl, N34q, e34⟩ := hQ34
 have N34 := Fr.app N29 N34q
 have R35 := Rc.tr R33 st34
 have R36 : Rc p e below A0 (T34.setTop (mkF m 45 #[.val (.ref a1), .val (.ref r), .val (.int 1)] [(.ref a1), (.int 2), (.ref r)])) := by
   intro tgt hgo
   refine R35 tgt ?_
   show Steps p.tables e below (T34.setTop (mkF m 37 #[.val (.ref a1), .val (.ref r), .val (.int 1)] [(.int 2), (.int 1)])) _
   refine XS.icmpNo X34.here hx rfl (hb hby d17_37) rfl (tlt (by decide : (1 : Int32) < (2 : Int32))).2.1 ?_
   refine XS.aloadN X34.here hx rfl (hb hby d17_40) rfl rfl ?_
   refine XS.iloadN X34.here hx rfl (hb hby d17_41) rfl ?_
   refine XS.iconst X34.here hx rfl (hb hby d17_42) ?_
   refine XS.iadd X34.here hx rfl (hb hby d17_43) rfl ?_
   refine XS.aloadN X34.here hx rfl (hb hby d17_44) rfl rfl ?_
   exact hgo
 obtain ⟨T37, X37, e37, st37⟩ := getF X34 hx hZ hown (host := "") (Or.inl (w 86 rfl)) Via.refl e34 Ff (g := (mkF m 45 #[.val (.ref a1), .val (.ref r), .val (.int 1)] [(.ref a1), (.int 2), (.ref r)])) rfl rfl (hb hby d17_45)
 have R38 := Rc.st R36 st37
 have R39 : Rc p e below A0 (T37.setTop (mkF m 49 #[.val (.ref a1), .val (.ref r), .val (.int 1)] [(.int 1), (.ref lx), (.int 2), (.ref r)])) := by
   intro tgt hgo
   refine R38 tgt ?_
   show Steps p.tables e below (T37.setTop (mkF m 48 #[.val (.ref a1), .val (.ref r), .val (.int 1)] [(.ref lx), (.int 2), (.ref r)])) _
   refine XS.iloadN X37.here hx rfl (hb hby d17_48) rfl ?_
   exact hgo
 obtain ⟨cq40, kq40, q40a, q40b, q40c⟩ := isOf hZ e37 Ex
 obtain ⟨_, _, ⟨T40, L40, k40, n40⟩, -, X40, ⟨Lc40, hQ40, l40, y40, z40⟩, st40⟩ := X37.interfaceBack hx (xi := yn19) (y := yn15) hown (mvT hZ (w 110 rfl)) (mvT hZ (w 111 rfl)) (mvT hZ (w 112 rfl)) (mvT hZ (w 159 rfl)) (mvT hZ (w 160 rfl)) (mvT hZ (w 161 rfl)) (mvT hZ (w 162 rfl)) (mvT hZ (w 156 rfl)) (by decide) (backOf (W := 2) (rm_2g1 l Z a0 hw [] lx s2 em h29 n0 hZn hOld S_em hne Fe1) hZ (w 163 rfl) (w 138 rfl) (by decide) (by decide)) q40a q40b q40c (g := (mkF m 49 #[.val (.ref a1), .val (.ref r), .val (.int 1)] [(.int 1), (.ref lx), (.int 2), (.ref r)])) rfl (by rw [hml]; rfl) (Steps.refl _) (argsL := [(.int 1)]) (rest := [(.int 2), (.ref r)]) (lenOf pd_9 rfl) rfl (by show 2 * 0 + _ ≤ _; exact Nat.le_of_eq rfl) (hb hby d17_49) (fun _ _ => ⟨rfl, e37, (by decide : 1 + 0 ≤ _), (by decide : 3 + 0 ≤ _)⟩)
 dsimp only [Pt.U, Pt.locs, Pt.cells, Pt.slots] at X40 l40 y40 z40 st40 hQ40
 subst l40 y40 z40
 obtain ⟨rfl, N40q, e40⟩ := hQ40
 have N40 := Fr.app N34 N40q
 have R41 := Rc.tr R39 st40
 obtain ⟨T42, X42, e42, st42⟩ := castY X40 hx hZ hown (w 102 rfl) e40 (Ins.self Es2) (g := (mkF m 54 #[.val (.ref a1), .val (.ref r), .val (.int 1)] [(.ref s2), (.int 2), (.ref r)])) rfl rfl (hb hby d17_54)
 have R43 := Rc.st R41 st42
 obtain ⟨cl44, Ar44, q44, S44, Nn44, H44, G44⟩ := V_r
 have hin44 : ¬ ((2 : Int32) < 0 ∨ cl44.slots.size ≤ ((2 : Int32)).toNatClampNeg) := inb_of S44 ⟨by decide, by decide⟩
 obtain ⟨T44, h44, X44, e44, W44, st44⟩ := stR X42 hx hZ e42 Ar44 (j := (2 : Int32)) hin44 rfl (Sto.ofV Ar44 q44 O7 (Ins.self Es2)) (g := (mkF m 57 #[.val (.ref a1), .val (.ref r), .val (.int 1)] [(.ref s2), (.int 2), (.ref r)])) rfl rfl (hb hby d17_57)
 replace hZn := Nat.le_trans hZn (Keep.of_wr W44).1
 replace hK := hK.wr W44 (Or.inr sz_r)
 replace hOld := hOld.wr W44 ge_r
 replace E1 := E1.wr W44
 replace Fk := Fk.other W44 (Or.inl ne_a1_r)
 replace Ff := Ff.other W44 (Or.inl ne_a1_r)
 replace Ek := Ek.wr W44
 replace Ft := Ft.other W44 (Or.inl ne_kd_r)
 replace Et := Et.wr W44
 replace Ex := Ex.wr W44
 replace Fe0 := Fe0.other W44 (Or.inl ne_lx_r)
 replace Fe1 := Fe1.other W44 (Or.inl ne_lx_r)
 replace Es1 := Es1.wr W44
 replace Es2 := Es2.wr W44
 have V_r : Arv Z h44 r k7 (.object "java/lang/String") (3 : Int32) [(.ref tk), (.ref s1), (.ref s2)] .null := Arv.set Ar44 q44 S44 Nn44 H44 G44 rfl W44 2 rfl (Nat.le_of_ble_eq_true rfl)
 have N44 := Fr.snoc X44 N40 ge_r
 have R45 := Rc.st R43 st44
 have R46 : Rc p e below A0 (T44.setTop (mkF m 29 #[.val (.ref a1), .val (.ref r), .val (.int 2)] [(.ref a1), (.int 2)])) := by
   intro tgt hgo
   refine R45 tgt ?_
   show Steps p.tables e below (T44.setTop (mkF m 58 #[.val (.ref a1), .val (.ref r), .val (.int 1)] [])) _
   refine XS.iinc X44.here hx rfl (hb hby d17_58) rfl (l' := #[.val (.ref a1), .val (.ref r), .val (.int 2)]) rfl ?_
   refine XS.goto X44.here hx rfl (pc0 := 61) (pc' := 27) rfl (hb hby d17_61) (by decide) (by decide) ?_
   refine XS.iloadN X44.here hx rfl (hb hby d17_27) rfl ?_
   refine XS.aloadN X44.here hx rfl (hb hby d17_28) rfl rfl ?_
   exact hgo
 obtain ⟨T47, X47, e47, st47⟩ := getF X44 hx hZ hown (host := "") (Or.inl (w 86 rfl)) Via.refl e44 Ff (g := (mkF m 29 #[.val (.ref a1), .val (.ref r), .val (.int 2)] [(.ref a1), (.int 2)])) rfl rfl (hb hby d17_29)
 have R48 := Rc.st R46 st47
 obtain ⟨cq49, kq49, q49a, q49b, q49c⟩ := isOf hZ e47 Ex
 obtain ⟨_, _, ⟨T49, L49, k49, n49⟩, -, X49, ⟨Lc49, hQ49, l49, y49, z49⟩, st49⟩ := X47.interfaceBack hx (xi := yn18) (y := yn14) hown (mvT hZ (w 93 rfl)) (mvT hZ (w 94 rfl)) (mvT hZ (w 95 rfl)) (mvT hZ (w 152 rfl)) (mvT hZ (w 153 rfl)) (mvT hZ (w 154 rfl)) (mvT hZ (w 155 rfl)) (mvT hZ (w 156 rfl)) (by decide) (backOf (W := 1) (rm_2s2 l Z a0 hw [] lx s2 em h44 n0 hZn hOld S_em hne Fe1) hZ (w 157 rfl) (w 138 rfl) (by decide) (by decide)) q49a q49b q49c (g := (mkF m 32 #[.val (.ref a1), .val (.ref r), .val (.int 2)] [(.ref lx), (.int 2)])) rfl (by rw [hml]; rfl) (Steps.refl _) (argsL := []) (rest := [(.int 2)]) (lenOf pd_7 rfl) rfl (by show 2 * 0 + _ ≤ _; exact Nat.le_of_eq rfl) (hb hby d17_32) (fun _ _ => ⟨rfl, e47, (by decide : 1 + 0 ≤ _), (by decide : 3 + 0 ≤ _)⟩)
 dsimp only [Pt.U, Pt.locs, Pt.cells, Pt.slots] at X49 l49 y49 z49 st49 hQ49
 subst l49 y49 z49
 obtain ⟨rfl, N49q, e49⟩ := hQ49
 have N49 := Fr.app N44 N49q
 have R50 := Rc.tr R48 st49
 have R51 : Rc p e below A0 (T49.setTop (mkF m 65 #[.val (.ref a1), .val (.ref r), .val (.int 2)] [(.ref r)])) := by
   intro tgt hgo
   refine R50 tgt ?_
   show Steps p.tables e below (T49.setTop (mkF m 37 #[.val (.ref a1), .val (.ref r), .val (.int 2)] [(.int 2), (.int 2)])) _
   refine XS.icmpYes X49.here hx rfl (pc0 := 37) (pc' := 64) rfl (hb hby d17_37) rfl (flt (by decide : ¬ ((2 : Int32) < (2 : Int32)))).2.1 (by decide) (by decide) ?_
   refine XS.aloadN X49.here hx rfl (hb hby d17_64) rfl rfl ?_
   exact hgo
 subst hA0
 obtain ⟨fs, hr, hrun, hended, hW, hsame⟩ := X49.leave (v := some (.ref r)) (fun h => by rw [Bd.returns] at h; cases h)
 refine ⟨_, _, R51 _ ?_, hrun, hended, _, _, rfl, ?_, ⟨_, rfl⟩, hW, hsame.mono (by decide) (by decide)⟩
 ·show Steps p.tables e below (T49.setTop (mkF m 65 #[.val (.ref a1), .val (.ref r), .val (.int 2)] [(.ref r)])) _
  jvm_step X49.here [X49.here.top, hx, (hb hby d17_65), X49.method', Bd.returns, Value.isRef, FieldType.isReference]
  first | (intro acts; rw [hr _ acts rfl rfl rfl]) | rw [hr _ _ rfl rfl rfl]
  exact Steps.refl _
 ·show Qli2 Z tk s1 s2 h0 n0 _ T49.heap _
  rw [e49]
  exact ⟨⟨r, rfl, _, sz_r, ge_r, O7, V_r⟩, N49, hK⟩
def Qli3 (Z : State) (tk s1 s2 s3 : Addr) (h0 : Heap) (n0 : Nat) (v : Option Value) (h : Heap) (L : List Loc) : Prop := (∃ r : Addr, v = some (.ref r) ∧ ∃ kr : ClassId, h0.size ≤ r ∧ n0 ≤ r ∧ Ovr Z kr "java/lang/String" ∧ Arv Z h r kr (.object "java/lang/String") (4 : Int32) [(.ref tk), (.ref s1), (.ref s2), (.ref s3)] .null) ∧ Fr n0 L ∧ Keep h0 h []
theorem ef_rm_li3 (m : MethodId) (a1 : Addr) : entryFrame m #[(.ref a1)] 3 = mkF m 0 #[.val (.ref a1), .unset, .unset] [] := by first | (simp [entryFrame, mkF, argsToLocals, Value.category]; done) | rfl
set_option maxRecDepth 65536 in
set_option maxHeartbeats 40000000 in
theorem rm_li3 (l : Launch) (Z : State) (a0 : Array Value) (hw : ∀ d ∈ tables_1, d.before a0 Z = true) (ws : List Jvm.Cond) (a1 : Addr) (kd tk lx s1 s2 s3 : Addr) (ea : Addr) (ke : ClassId) (h0 : Heap) (n0 : Nat) (Z0 : n0 ≤ h0.size) (E1 : Exa Z h0 a1 "com/example/verdict_ladder/verdictladder/lint/Finding") (Fk : Fld Z h0 a1 "com/example/verdict_ladder/verdictladder/lint/Finding" "kind" "Lcom/example/verdict_ladder/verdictladder/lint/Finding$Kind;" (.ref kd)) (Ff : Fld Z h0 a1 "com/example/verdict_ladder/verdictladder/lint/Finding" "fields" "Ljava/util/List;" (.ref lx)) (Ek : Exa Z h0 kd "com/example/verdict_ladder/verdictladder/lint/Finding$Kind") (Ft : Fld Z h0 kd "com/example/verdict_ladder/verdictladder/lint/Finding$Kind" "token" "Ljava/lang/String;" (.ref tk)) (Et : Exa Z h0 tk "java/lang/String") (Ex : Exa Z h0 lx "java/util/ImmutableCollections$ListN") (Fe : Fld Z h0 lx "java/util/ImmutableCollections$ListN" "elements" "[Ljava/lang/Object;" (.ref ea)) (Ve : Arv Z h0 ea ke (.object "java/lang/Object") (3 : Int32) [(.ref s1), (.ref s2), (.ref s3)] .null) (Es1 : Exa Z h0 s1 "java/lang/String") (Es2 : Exa Z h0 s2 "java/lang/String") (Es3 : Exa Z h0 s3 "java/lang/String") :
    MetFree l yn17 (head1 (Jvm.Cond.code yn17 prog_16_method_4_code 3 (some (.array (.object "java/lang/String"))) :: ws) ({ frames := 1, cells := 1, slots := 4, locals := 15 } : Room)) (fun a U => a = #[(.ref a1)] ∧ Z.Warmed39 U.vm ∧ U.heap = h0) (fun _ _ _ _ _ => True) (fun _ U o U' => ∃ v L, o = .returned v ∧ Qli3 Z tk s1 s2 s3 h0 n0 v U'.heap L ∧ FrameEnd U o U' L ({ frames := 1, cells := 1, slots := 4, locals := 15 } : Room).cells ({ frames := 1, cells := 1, slots := 4, locals := 15 } : Room).slots) := by
 refine MetFree.of_bodySF (plainFor_of_name pn_com_example_verdict_ladder_verdictladder_lint_Finding) hisR ?_
 intro p e s m args below meth c s₁ Bd hml0 hP hK
 obtain ⟨rfl, hZ, hh⟩ := hP
 have hx := Bd.exec
 have hby := Bd.bytes
 have hml : c.maxLocals = 3 := hml0
 have hown : s.vm.findClass "com/example/verdict_ladder/verdictladder/lint/Finding" = some m.cls := findClass_of_methodNamed Bd.named
 have hnm := (name_of_methodNamed Bd.named Bd.method).1
 have X0 : Stand p l e ({ frames := 1, cells := 1, slots := 4, locals := 15 } : Room) s m #[(.ref a1)] below meth c s₁ [] 0 0 := Stand.of_body Bd
 have e0 : s₁.heap = h0 := by rw [← hh, Bd.state]; rfl
 have N0 := Fr.nil n0
 obtain ⟨A0, hA0⟩ : ∃ A, A = s₁.setTop (entryFrame m #[(.ref a1)] 3) := ⟨_, rfl⟩
 have R0 : ∀ tgt, Steps p.tables e below (s₁.setTop (mkF m 0 #[.val (.ref a1), .unset, .unset] [])) tgt → Steps p.tables e below A0 tgt := fun tgt hgo => by rw [hA0]; exact castTop (ef_rm_li3 m a1) hgo
 have w : ∀ (i : Nat) {d : Jvm.Cond}, tables_1[i]? = some d → d.before a0 Z = true := fun i d h => hw d (List.mem_of_getElem? h)
 have hZn := Z0
 have hK : Keep h0 h0 [] := Keep.refl _ _
 have R1 : Rc p e below A0 (s₁.setTop (mkF m 1 #[.val (.ref a1), .unset, .unset] [(.ref a1)])) := by
   intro tgt hgo
   refine R0 tgt ?_
   show Steps p.tables e below (s₁.setTop (mkF m 0 #[.val (.ref a1), .unset, .unset] [])) _
   refine XS.aloadN X0.here hx rfl (hb hby d17_0) rfl rfl ?_
   exact hgo
 obtain ⟨T2, X2, e2, st2⟩ := getF X0 hx hZ hown (host := "") (Or.inl (w 86 rfl)) Via.refl e0 Ff (g := (mkF m 1 #[.val (.ref a1), .unset, .unset] [(.ref a1)])) rfl rfl (hb hby d17_1)
 have R3 := Rc.st R1 st2
 obtain ⟨cq4, kq4, q4a, q4b, q4c⟩ := isOf hZ e2 Ex
 obtain ⟨_, _, ⟨T4, L4, k4, n4⟩, -, X4, ⟨Lc4, hQ4, l4, y4, z4⟩, st4⟩ := X2.interfaceBack hx (xi := yn18) (y := yn12) hown (mvT hZ (w 93 rfl)) (mvT hZ (w 94 rfl)) (mvT hZ (w 95 rfl)) (mvT hZ (w 96 rfl)) (mvT hZ (w 97 rfl)) (mvT hZ (w 98 rfl)) (mvT hZ (w 99 rfl)) (mvT hZ (w 100 rfl)) (by decide) (backOf (W := 0) (rm_ns l Z a0 hw [] lx ea ke (3 : Int32) _ h0 n0 hZn Fe Ve) hZ (w 101 rfl) (w 58 rfl) (by decide) (by decide)) q4a q4b q4c (g := (mkF m 4 #[.val (.ref a1), .unset, .unset] [(.ref lx)])) rfl (by rw [hml]; rfl) (Steps.refl _) (argsL := []) (rest := []) (lenOf pd_7 rfl) rfl (by show 2 * 0 + _ ≤ _; exact Nat.le_of_eq rfl) (hb hby d17_4) (fun _ _ => ⟨rfl, e2, (by decide : 0 + 0 ≤ _), (by decide : 0 + 0 ≤ _)⟩)
 dsimp only [Pt.U, Pt.locs, Pt.cells, Pt.slots] at X4 l4 y4 z4 st4 hQ4
 subst l4 y4 z4
 obtain ⟨rfl, N4q, e4⟩ := hQ4
 have N4 := Fr.app N0 N4q
 have R5 := Rc.tr R3 st4
 have R6 : Rc p e below A0 (T4.setTop (mkF m 11 #[.val (.ref a1), .unset, .unset] [(.int 4)])) := by
   intro tgt hgo
   refine R5 tgt ?_
   show Steps p.tables e below (T4.setTop (mkF m 9 #[.val (.ref a1), .unset, .unset] [(.int 3)])) _
   refine XS.iconst X4.here hx rfl (hb hby d17_9) ?_
   refine XS.iadd X4.here hx rfl (hb hby d17_10) rfl ?_
   exact hgo
 obtain ⟨T7, h7, k7, X7, e7, E7, A7, O7, st7⟩ := newR X4 hx hZ hown (w 102 rfl) (w 31 rfl) e4 (g := (mkF m 11 #[.val (.ref a1), .unset, .unset] [(.int 4)])) rfl (hb hby d17_11) rfl (by decide) (cap := 4) (by decide) (by decide) (by decide) (by decide)
 obtain ⟨r, g7⟩ : ∃ z, z = h0.size := ⟨_, rfl⟩
 rw [← g7] at A7 st7
 have ne_a1_r : a1 ≠ r := Nat.ne_of_lt (Nat.lt_of_lt_of_le E1.lt (Nat.le_of_eq g7.symm))
 have ne_kd_r : kd ≠ r := Nat.ne_of_lt (Nat.lt_of_lt_of_le Ek.lt (Nat.le_of_eq g7.symm))
 have ne_tk_r : tk ≠ r := Nat.ne_of_lt (Nat.lt_of_lt_of_le Et.lt (Nat.le_of_eq g7.symm))
 have ne_lx_r : lx ≠ r := Nat.ne_of_lt (Nat.lt_of_lt_of_le Ex.lt (Nat.le_of_eq g7.symm))
 have ne_ea_r : ea ≠ r := Nat.ne_of_lt (Nat.lt_of_lt_of_le Ve.lt (Nat.le_of_eq g7.symm))
 have ne_s1_r : s1 ≠ r := Nat.ne_of_lt (Nat.lt_of_lt_of_le Es1.lt (Nat.le_of_eq g7.symm))
 have ne_s2_r : s2 ≠ r := Nat.ne_of_lt (Nat.lt_of_lt_of_le Es2.lt (Nat.le_of_eq g7.symm))
 have ne_s3_r : s3 ≠ r := Nat.ne_of_lt (Nat.lt_of_lt_of_le Es3.lt (Nat.le_of_eq g7.symm))
 have ge_r : n0 ≤ r := Nat.le_trans hZn (Nat.le_of_eq g7.symm)
 have sz_r : h0.size ≤ r := Nat.le_trans hK.1 (Nat.le_of_eq g7.symm)
 replace hZn := Nat.le_trans hZn E7.1
 replace hK := hK.ext E7
 replace E1 := E1.ext E7
 replace Fk := Fk.ext E7
 replace Ff := Ff.ext E7
 replace Ek := Ek.ext E7
 replace Ft := Ft.ext E7
 replace Et := Et.ext E7
 replace Ex := Ex.ext E7
 replace Fe := Fe.ext E7
 replace Ve := Ve.ext E7
 replace Es1 := Es1.ext E7
 replace Es2 := Es2.ext E7
 replace Es3 := Es3.ext E7
 have V_r : Arv Z h7 r k7 (.object "java/lang/String") (4 : Int32) [.null, .null, .null, .null] .null := (Arv.new A7 (by decide)).pad (pad_rep [] .null 4)
 have R8 := Rc.st R6 st7
 have R9 : Rc p e below A0 (T7.setTop (mkF m 18 #[.val (.ref a1), .val (.ref r), .unset] [(.ref a1), (.int 0), (.ref r)])) := by
   intro tgt hgo
   refine R8 tgt ?_
   show Steps p.tables e below (T7.setTop (mkF m 14 #[.val (.ref a1), .unset, .unset] [(.ref r)])) _
   refine XS.astoreN X7.here hx rfl (hb hby d17_14) rfl rfl (l' := #[.val (.ref a1), .val (.ref r), .unset]) rfl ?_
   refine XS.aloadN X7.here hx rfl (hb hby d17_15) rfl rfl ?_
   refine XS.iconst X7.here hx rfl (hb hby d17_16) ?_
   refine XS.aloadN X7.here hx rfl (hb hby d17_17) rfl rfl ?_
   exact hgo
 obtain ⟨T10, X10, e10, st10⟩ := getF X7 hx hZ hown (host := "") (Or.inl (w 39 rfl)) Via.refl e7 Fk (g := (mkF m 18 #[.val (.ref a1), .val (.ref r), .unset] [(.ref a1), (.int 0), (.ref r)])) rfl rfl (hb hby d17_18)
 have R11 := Rc.st R9 st10
 obtain ⟨cq12, kq12, q12a, q12b, q12c⟩ := isOf hZ e10 Ek
 obtain ⟨_, _, ⟨T12, L12, k12, n12⟩, -, X12, ⟨Lc12, hQ12, l12, y12, z12⟩, st12⟩ := X10.virtualBack hx (y := yn16) (z := yn16) hown (mvT hZ (w 103 rfl)) (mvT hZ (w 104 rfl)) (notFace_of_selects (args := #[]) (mvT hZ (w 106 rfl))) (mvT hZ (w 106 rfl)) (mvT hZ (w 105 rfl)) (by decide) (backOf (W := 2) (rm_tk l Z a0 hw [] kd tk h7 n0 hZn Ft) hZ (w 107 rfl) (w 2 rfl) (by decide) (by decide)) q12a q12c (g := (mkF m 21 #[.val (.ref a1), .val (.ref r), .unset] [(.ref kd), (.int 0), (.ref r)])) rfl (by rw [hml]; rfl) (Steps.refl _) (argsL := []) (rest := [(.int 0), (.ref r)]) (lenOf pd_8 rfl) rfl (by show 2 * 0 + _ ≤ _; exact Nat.le_of_eq rfl) (hb hby d17_21) (fun _ _ => ⟨rfl, e10, (by decide : 1 + 0 ≤ _), (by decide : 4 + 0 ≤ _)⟩)
 dsimp only [Pt.U, Pt.locs, Pt.cells, Pt.slots] at X12 l12 y12 z12 st12 hQ12
 subst l12 y12 z12
 obtain ⟨rfl, N12q, e12⟩ := hQ12
 have N12 := Fr.app N4 N12q
 have R13 := Rc.tr R11 st12
 obtain ⟨cl14, Ar14, q14, S14, Nn14, H14, G14⟩ := V_r
 have hin14 : ¬ ((0 : Int32) < 0 ∨ cl14.slots.size ≤ ((0 : Int32)).toNatClampNeg) := inb_of S14 ⟨by decide, by decide⟩
 obtain ⟨T14, h14, X14, e14, W14, st14⟩ := stR X12 hx hZ e12 Ar14 (j := (0 : Int32)) hin14 rfl (Sto.ofV Ar14 q14 O7 (Ins.self Et)) (g := (mkF m 24 #[.val (.ref a1), .val (.ref r), .unset] [(.ref tk), (.int 0), (.ref r)])) rfl rfl (hb hby d17_24)
 replace hZn := Nat.le_trans hZn (Keep.of_wr W14).1
 replace hK := hK.wr W14 (Or.inr sz_r)
 replace E1 := E1.wr W14
 replace Fk := Fk.other W14 (Or.inl ne_a1_r)
 replace Ff := Ff.other W14 (Or.inl ne_a1_r)
 replace Ek := Ek.wr W14
 replace Ft := Ft.other W14 (Or.inl ne_kd_r)
 replace Et := Et.wr W14
 replace Ex := Ex.wr W14
 replace Fe := Fe.other W14 (Or.inl ne_lx_r)
 replace Ve := Ve.other W14 ne_ea_r
 replace Es1 := Es1.wr W14
 replace Es2 := Es2.wr W14
 replace Es3 := Es3.wr W14
 have V_r : Arv Z h14 r k7 (.object "java/lang/String") (4 : Int32) [(.ref tk), .null, .null, .null] .null := Arv.set Ar14 q14 S14 Nn14 H14 G14 rfl W14 0 rfl (Nat.le_of_ble_eq_true rfl)
 have N14 := Fr.snoc X14 N12 ge_r
 have R15 := Rc.st R13 st14
 have R16 : Rc p e below A0 (T14.setTop (mkF m 29 #[.val (.ref a1), .val (.ref r), .val (.int 0)] [(.ref a1), (.int 0)])) := by
   intro tgt hgo
   refine R15 tgt ?_
   show Steps p.tables e below (T14.setTop (mkF m 25 #[.val (.ref a1), .val (.ref r), .unset] [])) _
   refine XS.iconst X14.here hx rfl (hb hby d17_25) ?_
   refine XS.istoreN X14.here hx rfl (hb hby d17_26) rfl (l' := #[.val (.ref a1), .val (.ref r), .val (.int 0)]) rfl ?_
   refine XS.iloadN X14.here hx rfl (hb hby d17_27) rfl ?_
   refine XS.aloadN X14.here hx rfl (hb hby d17_28) rfl rfl ?_
   exact hgo
 obtain ⟨T17, X17, e17, st17⟩ := getF X14 hx hZ hown (host := "") (Or.inl (w 86 rfl)) Via.refl e14 Ff (g := (mkF m 29 #[.val (.ref a1), .val (.ref r), .val (.int 0)] [(.ref a1), (.int 0)])) rfl rfl (hb hby d17_29)
 have R18 := Rc.st R16 st17
 obtain ⟨cq19, kq19, q19a, q19b, q19c⟩ := isOf hZ e17 Ex
 obtain ⟨_, _, ⟨T19, L19, k19, n19⟩, -, X19, ⟨Lc19, hQ19, l19, y19, z19⟩, st19⟩ := X17.interfaceBack hx (xi := yn18) (y := yn12) hown (mvT hZ (w 93 rfl)) (mvT hZ (w 94 rfl)) (mvT hZ (w 95 rfl)) (mvT hZ (w 96 rfl)) (mvT hZ (w 97 rfl)) (mvT hZ (w 98 rfl)) (mvT hZ (w 99 rfl)) (mvT hZ (w 100 rfl)) (by decide) (backOf (W := 1) (rm_ns l Z a0 hw [] lx ea ke (3 : Int32) _ h14 n0 hZn Fe Ve) hZ (w 101 rfl) (w 58 rfl) (by decide) (by decide)) q19a q19b q19c (g := (mkF m 32 #[.val (.ref a1), .val (.ref r), .val (.int 0)] [(.ref lx), (.int 0)])) rfl (by rw [hml]; rfl) (Steps.refl _) (argsL := []) (rest := [(.int 0)]) (lenOf pd_7 rfl) rfl (by show 2 * 0 + _ ≤ _; exact Nat.le_of_eq rfl) (hb hby d17_32) (fun _ _ => ⟨rfl, e17, (by decide : 1 + 0 ≤ _), (by decide : 4 + 0 ≤ _)⟩)
 dsimp only [Pt.U, Pt.locs, Pt.cells, Pt.slots] at X19 l19 y19 z19 st19 hQ19
 subst l19 y19 z19
 obtain ⟨rfl, N19q, e19⟩ := hQ19
 have N19 := Fr.app N14 N19q
 have R20 := Rc.tr R18 st19
 have R21 : Rc p e below A0 (T19.setTop (mkF m 45 #[.val (.ref a1), .val (.ref r), .val (.int 0)] [(.ref a1), (.int 1), (.ref r)])) := by
   intro tgt hgo
   refine R20 tgt ?_
   show Steps p.tables e below (T19.setTop (mkF m 37 #[.val (.ref a1), .val (.ref r), .val (.int 0)] [(.int 3), (.int 0)])) _
   refine XS.icmpNo X19.here hx rfl (hb hby d17_37) rfl (tlt (by decide : (0 : Int32) < (3 : Int32))).2.1 ?_
   refine XS.aloadN X19.here hx rfl (hb hby d17_40) rfl rfl ?_
   refine XS.iloadN X19.here hx rfl (hb hby d17_41) rfl ?_
   refine XS.iconst X19.here hx rfl (hb hby d17_42) ?_
   refine XS.iadd X19.here hx rfl (hb hby d17_43) rfl ?_
   refine XS.aloadN X19.here hx rfl (hb hby d17_44) rfl rfl ?_
   exact hgo
 obtain ⟨T22, X22, e22, st22⟩ := getF X19 hx hZ hown (host := "") (Or.inl (w 86 rfl)) Via.refl e19 Ff (g := (mkF m 45 #[.val (.ref a1), .val (.ref r), .val (.int 0)] [(.ref a1), (.int 1), (.ref r)])) rfl rfl (hb hby d17_45)
 have R23 := Rc.st R21 st22
 have R24 : Rc p e below A0 (T22.setTop (mkF m 49 #[.val (.ref a1), .val (.ref r), .val (.int 0)] [(.int 0), (.ref lx), (.int 1), (.ref r)])) := by
   intro tgt hgo
   refine R23 tgt ?_
   show Steps p.tables e below (T22.setTop (mkF m 48 #[.val (.ref a1), .val (.ref r), .val (.int 0)] [(.ref lx), (.int 1), (.ref r)])) _
   refine XS.iloadN X22.here hx rfl (hb hby d17_48) rfl ?_
   exact hgo
 obtain ⟨cq25, kq25, q25a, q25b, q25c⟩ := isOf hZ e22 Ex
 obtain ⟨_, _, ⟨T25, L25, k25, n25⟩, -, X25, ⟨Lc25, hQ25, l25, y25, z25⟩, st25⟩ := X22.interfaceBack hx (xi := yn19) (y := yn13) hown (mvT hZ (w 110 rfl)) (mvT hZ (w 111 rfl)) (mvT hZ (w 112 rfl)) (mvT hZ (w 113 rfl)) (mvT hZ (w 114 rfl)) (mvT hZ (w 115 rfl)) (mvT hZ (w 116 rfl)) (mvT hZ (w 100 rfl)) (by decide) (backOf (W := 2) (rm_ng0 l Z a0 hw [] lx s1 s2 s3 ea ke h14 n0 hZn Fe Ve) hZ (w 117 rfl) (w 58 rfl) (by decide) (by decide)) q25a q25b q25c (g := (mkF m 49 #[.val (.ref a1), .val (.ref r), .val (.int 0)] [(.int 0), (.ref lx), (.int 1), (.ref r)])) rfl (by rw [hml]; rfl) (Steps.refl _) (argsL := [(.int 0)]) (rest := [(.int 1), (.ref r)]) (lenOf pd_9 rfl) rfl (by show 2 * 0 + _ ≤ _; exact Nat.le_of_eq rfl) (hb hby d17_49) (fun _ _ => ⟨rfl, e22, (by decide : 1 + 0 ≤ _), (by decide : 4 + 0 ≤ _)⟩)
 dsimp only [Pt.U, Pt.locs, Pt.cells, Pt.slots] at X25 l25 y25 z25 st25 hQ25
 subst l25 y25 z25
 obtain ⟨rfl, N25q, e25⟩ := hQ25
 have N25 := Fr.app N19 N25q
 have R26 := Rc.tr R24 st25
 obtain ⟨T27, X27, e27, st27⟩ := castY X25 hx hZ hown (w 102 rfl) e25 (Ins.self Es1) (g := (mkF m 54 #[.val (.ref a1), .val (.ref r), .val (.int 0)] [(.ref s1), (.int 1), (.ref r)])) rfl rfl (hb hby d17_54)
 have R28 := Rc.st R26 st27
 obtain ⟨cl29, Ar29, q29, S29, Nn29, H29, G29⟩ := V_r
 have hin29 : ¬ ((1 : Int32) < 0 ∨ cl29.slots.size ≤ ((1 : Int32)).toNatClampNeg) := inb_of S29 ⟨by decide, by decide⟩
 obtain ⟨T29, h29, X29, e29, W29, st29⟩ := stR X27 hx hZ e27 Ar29 (j := (1 : Int32)) hin29 rfl (Sto.ofV Ar29 q29 O7 (Ins.self Es1)) (g := (mkF m 57 #[.val (.ref a1), .val (.ref r), .val (.int 0)] [(.ref s1), (.int 1), (.ref r)])) rfl rfl (hb hby d17_57)
 replace hZn := Nat.le_trans hZn (Keep.of_wr W29).1
 replace hK := hK.wr W29 (Or.inr sz_r)
 replace E1 := E1.wr W29
 replace Fk := Fk.other W29 (Or.inl ne_a1_r)
 replace Ff := Ff.other W29 (Or.inl ne_a1_r)
 replace Ek := Ek.wr W29
 replace Ft := Ft.other W29 (Or.inl ne_kd_r)
 replace Et := Et.wr W29
 replace Ex := Ex.wr W29
 replace Fe := Fe.other W29 (Or.inl ne_lx_r)
 replace Ve := Ve.other W29 ne_ea_r
 replace Es1 := Es1.wr W29
 replace Es2 := Es2.wr W29
 replace Es3 := Es3.wr W29
 have V_r : Arv Z h29 r k7 (.object "java/lang/String") (4 : Int32) [(.ref tk), (.ref s1), .null, .null] .null := Arv.set Ar29 q29 S29 Nn29 H29 G29 rfl W29 1 rfl (Nat.le_of_ble_eq_true rfl)
 have N29 := Fr.snoc X29 N25 ge_r
 have R30 := Rc.st R28 st29
 have R31 : Rc p e below A0 (T29.setTop (mkF m 29 #[.val (.ref a1), .val (.ref r), .val (.int 1)] [(.ref a1), (.int 1)])) := by
   intro tgt hgo
   refine R30 tgt ?_
   show Steps p.tables e below (T29.setTop (mkF m 58 #[.val (.ref a1), .val (.ref r), .val (.int 0)] [])) _
   refine XS.iinc X29.here hx rfl (hb hby d17_58) rfl (l' := #[.val (.ref a1), .val (.ref r), .val (.int 1)]) rfl ?_
   refine XS.goto X29.here hx rfl (pc0 := 61) (pc' := 27) rfl (hb hby d17_61) (by decide) (by decide) ?_
   refine XS.iloadN X29.here hx rfl (hb hby d17_27) rfl ?_
   refine XS.aloadN X29.here hx rfl (hb hby d17_28) rfl rfl ?_
   exact hgo
 obtain ⟨T32, X32, e32, st32⟩ := getF X29 hx hZ hown (host := "") (Or.inl (w 86 rfl)) Via.refl e29 Ff (g := (mkF m 29 #[.val (.ref a1), .val (.ref r), .val (.int 1)] [(.ref a1), (.int 1)])) rfl rfl (hb hby d17_29)
 have R33 := Rc.st R31 st32
 obtain ⟨cq34, kq34, q34a, q34b, q34c⟩ := isOf hZ e32 Ex
 obtain ⟨_, _, ⟨T34, L34, k34, n34⟩, -, X34, ⟨Lc34, hQ34, l34, y34, z34⟩, st34⟩ := X32.interfaceBack hx (xi := yn18) (y := yn12) hown (mvT hZ (w 93 rfl)) (mvT hZ (w 94 rfl)) (mvT hZ (w 95 rfl)) (mvT hZ (w 96 rfl)) (mvT hZ (w 97 rfl)) (mvT hZ (w 98 rfl)) (mvT hZ (w 99 rfl)) (mvT hZ (w 100 rfl)) (by decide) (backOf (W := 1) (rm_ns l Z a0 hw [] lx ea ke (3 : Int32) _ h29 n0 hZn Fe Ve) hZ (w 101 rfl) (w 58 rfl) (by decide) (by decide)) q34a q34b q34c (g := (mkF m 32 #[.val (.ref a1), .val (.ref r), .val (.int 1)] [(.ref lx), (.int 1)])) rfl (by rw [hml]; rfl) (Steps.refl _) (argsL := []) (rest := [(.int 1)]) (lenOf pd_7 rfl) rfl (by show 2 * 0 + _ ≤ _; exact Nat.le_of_eq rfl) (hb hby d17_32) (fun _ _ => ⟨rfl, e32, (by decide : 1 + 0 ≤ _), (by decide : 4 + 0 ≤ _)⟩)
 dsimp only [Pt.U, Pt.locs, Pt.cells, Pt.slots] at X34 l34 y34 z34 st34 hQ34
 subst l34 y34 z34
 obtain ⟨rfl, N34q, e34⟩ := hQ34
 have N34 := Fr.app N29 N34q
 have R35 := Rc.tr R33 st34
 have R36 : Rc p e below A0 (T34.setTop (mkF m 45 #[.val (.ref a1), .val (.ref r), .val (.int 1)] [(.ref a1), (.int 2), (.ref r)])) := by
   intro tgt hgo
   refine R35 tgt ?_
   show Steps p.tables e below (T34.setTop (mkF m 37 #[.val (.ref a1), .val (.ref r), .val (.int 1)] [(.int 3), (.int 1)])) _
   refine XS.icmpNo X34.here hx rfl (hb hby d17_37) rfl (tlt (by decide : (1 : Int32) < (3 : Int32))).2.1 ?_
   refine XS.aloadN X34.here hx rfl (hb hby d17_40) rfl rfl ?_
   refine XS.iloadN X34.here hx rfl (hb hby d17_41) rfl ?_
   refine XS.iconst X34.here hx rfl (hb hby d17_42) ?_
   refine XS.iadd X34.here hx rfl (hb hby d17_43) rfl ?_
   refine XS.aloadN X34.here hx rfl (hb hby d17_44) rfl rfl ?_
   exact hgo
 obtain ⟨T37, X37, e37, st37⟩ := getF X34 hx hZ hown (host := "") (Or.inl (w 86 rfl)) Via.refl e34 Ff (g := (mkF m 45 #[.val (.ref a1), .val (.ref r), .val (.int 1)] [(.ref a1), (.int 2), (.ref r)])) rfl rfl (hb hby d17_45)
 have R38 := Rc.st R36 st37
 have R39 : Rc p e below A0 (T37.setTop (mkF m 49 #[.val (.ref a1), .val (.ref r), .val (.int 1)] [(.int 1), (.ref lx), (.int 2), (.ref r)])) := by
   intro tgt hgo
   refine R38 tgt ?_
   show Steps p.tables e below (T37.setTop (mkF m 48 #[.val (.ref a1), .val (.ref r), .val (.int 1)] [(.ref lx), (.int 2), (.ref r)])) _
   refine XS.iloadN X37.here hx rfl (hb hby d17_48) rfl ?_
   exact hgo
 obtain ⟨cq40, kq40, q40a, q40b, q40c⟩ := isOf hZ e37 Ex
 obtain ⟨_, _, ⟨T40, L40, k40, n40⟩, -, X40, ⟨Lc40, hQ40, l40, y40, z40⟩, st40⟩ := X37.interfaceBack hx (xi := yn19) (y := yn13) hown (mvT hZ (w 110 rfl)) (mvT hZ (w 111 rfl)) (mvT hZ (w 112 rfl)) (mvT hZ (w 113 rfl)) (mvT hZ (w 114 rfl)) (mvT hZ (w 115 rfl)) (mvT hZ (w 116 rfl)) (mvT hZ (w 100 rfl)) (by decide) (backOf (W := 2) (rm_ng1 l Z a0 hw [] lx s1 s2 s3 ea ke h29 n0 hZn Fe Ve) hZ (w 117 rfl) (w 58 rfl) (by decide) (by decide)) q40a q40b q40c (g := (mkF m 49 #[.val (.ref a1), .val (.ref r), .val (.int 1)] [(.int 1), (.ref lx), (.int 2), (.ref r)])) rfl (by rw [hml]; rfl) (Steps.refl _) (argsL := [(.int 1)]) (rest := [(.int 2), (.ref r)]) (lenOf pd_9 rfl) rfl (by show 2 * 0 + _ ≤ _; exact Nat.le_of_eq rfl) (hb hby d17_49) (fun _ _ => ⟨rfl, e37, (by decide : 1 + 0 ≤ _), (by decide : 4 + 0 ≤ _)⟩)
 dsimp only [Pt.U, Pt.locs, Pt.cells, Pt.slots] at X40 l40 y40 z40 st40 hQ40
 subst l40 y40 z40
 obtain ⟨rfl, N40q, e40⟩ := hQ40
 have N40 := Fr.app N34 N40q
 have R41 := Rc.tr R39 st40
 obtain ⟨T42, X42, e42, st42⟩ := castY X40 hx hZ hown (w 102 rfl) e40 (Ins.self Es2) (g := (mkF m 54 #[.val (.ref a1), .val (.ref r), .val (.int 1)] [(.ref s2), (.int 2), (.ref r)])) rfl rfl (hb hby d17_54)
 have R43 := Rc.st R41 st42
 obtain ⟨cl44, Ar44, q44, S44, Nn44, H44, G44⟩ := V_r
 have hin44 : ¬ ((2 : Int32) < 0 ∨ cl44.slots.size ≤ ((2 : Int32)).toNatClampNeg) := inb_of S44 ⟨by decide, by decide⟩
 obtain ⟨T44, h44, X44, e44, W44, st44⟩ := stR X42 hx hZ e42 Ar44 (j := (2 : Int32)) hin44 rfl (Sto.ofV Ar44 q44 O7 (Ins.self Es2)) (g := (mkF m 57 #[.val (.ref a1), .val (.ref r), .val (.int 1)] [(.ref s2), (.int 2), (.ref r)])) rfl rfl (hb hby d17_57)
 replace hZn := Nat.le_trans hZn (Keep.of_wr W44).1
 replace hK := hK.wr W44 (Or.inr sz_r)
 replace E1 := E1.wr W44
 replace Fk := Fk.other W44 (Or.inl ne_a1_r)
 replace Ff := Ff.other W44 (Or.inl ne_a1_r)
 replace Ek := Ek.wr W44
 replace Ft := Ft.other W44 (Or.inl ne_kd_r)
 replace Et := Et.wr W44
 replace Ex := Ex.wr W44
 replace Fe := Fe.other W44 (Or.inl ne_lx_r)
 replace Ve := Ve.other W44 ne_ea_r
 replace Es1 := Es1.wr W44
 replace Es2 := Es2.wr W44
 replace Es3 := Es3.wr W44
 have V_r : Arv Z h44 r k7 (.object "java/lang/String") (4 : Int32) [(.ref tk), (.ref s1), (.ref s2), .null] .null := Arv.set Ar44 q44 S44 Nn44 H44 G44 rfl W44 2 rfl (Nat.le_of_ble_eq_true rfl)
 have N44 := Fr.snoc X44 N40 ge_r
 have R45 := Rc.st R43 st44
 have R46 : Rc p e below A0 (T44.setTop (mkF m 29 #[.val (.ref a1), .val (.ref r), .val (.int 2)] [(.ref a1), (.int 2)])) := by
   intro tgt hgo
   refine R45 tgt ?_
   show Steps p.tables e below (T44.setTop (mkF m 58 #[.val (.ref a1), .val (.ref r), .val (.int 1)] [])) _
   refine XS.iinc X44.here hx rfl (hb hby d17_58) rfl (l' := #[.val (.ref a1), .val (.ref r), .val (.int 2)]) rfl ?_
   refine XS.goto X44.here hx rfl (pc0 := 61) (pc' := 27) rfl (hb hby d17_61) (by decide) (by decide) ?_
   refine XS.iloadN X44.here hx rfl (hb hby d17_27) rfl ?_
   refine XS.aloadN X44.here hx rfl (hb hby d17_28) rfl rfl ?_
   exact hgo
 obtain ⟨T47, X47, e47, st47⟩ := getF X44 hx hZ hown (host := "") (Or.inl (w 86 rfl)) Via.refl e44 Ff (g := (mkF m 29 #[.val (.ref a1), .val (.ref r), .val (.int 2)] [(.ref a1), (.int 2)])) rfl rfl (hb hby d17_29)
 have R48 := Rc.st R46 st47
 obtain ⟨cq49, kq49, q49a, q49b, q49c⟩ := isOf hZ e47 Ex
 obtain ⟨_, _, ⟨T49, L49, k49, n49⟩, -, X49, ⟨Lc49, hQ49, l49, y49, z49⟩, st49⟩ := X47.interfaceBack hx (xi := yn18) (y := yn12) hown (mvT hZ (w 93 rfl)) (mvT hZ (w 94 rfl)) (mvT hZ (w 95 rfl)) (mvT hZ (w 96 rfl)) (mvT hZ (w 97 rfl)) (mvT hZ (w 98 rfl)) (mvT hZ (w 99 rfl)) (mvT hZ (w 100 rfl)) (by decide) (backOf (W := 1) (rm_ns l Z a0 hw [] lx ea ke (3 : Int32) _ h44 n0 hZn Fe Ve) hZ (w 101 rfl) (w 58 rfl) (by decide) (by decide)) q49a q49b q49c (g := (mkF m 32 #[.val (.ref a1), .val (.ref r), .val (.int 2)] [(.ref lx), (.int 2)])) rfl (by rw [hml]; rfl) (Steps.refl _) (argsL := []) (rest := [(.int 2)]) (lenOf pd_7 rfl) rfl (by show 2 * 0 + _ ≤ _; exact Nat.le_of_eq rfl) (hb hby d17_32) (fun _ _ => ⟨rfl, e47, (by decide : 1 + 0 ≤ _), (by decide : 4 + 0 ≤ _)⟩)
 dsimp only [Pt.U, Pt.locs, Pt.cells, Pt.slots] at X49 l49 y49 z49 st49 hQ49
 subst l49 y49 z49
 obtain ⟨rfl, N49q, e49⟩ := hQ49
 have N49 := Fr.app N44 N49q
 have R50 := Rc.tr R48 st49
 have R51 : Rc p e below A0 (T49.setTop (mkF m 45 #[.val (.ref a1), .val (.ref r), .val (.int 2)] [(.ref a1), (.int 3), (.ref r)])) := by
   intro tgt hgo
   refine R50 tgt ?_
   show Steps p.tables e below (T49.setTop (mkF m 37 #[.val (.ref a1), .val (.ref r), .val (.int 2)] [(.int 3), (.int 2)])) _
   refine XS.icmpNo X49.here hx rfl (hb hby d17_37) rfl (tlt (by decide : (2 : Int32) < (3 : Int32))).2.1 ?_
   refine XS.aloadN X49.here hx rfl (hb hby d17_40) rfl rfl ?_
   refine XS.iloadN X49.here hx rfl (hb hby d17_41) rfl ?_
   refine XS.iconst X49.here hx rfl (hb hby d17_42) ?_
   refine XS.iadd X49.here hx rfl (hb hby d17_43) rfl ?_
   refine XS.aloadN X49.here hx rfl (hb hby d17_44) rfl rfl ?_
   exact hgo
 obtain ⟨T52, X52, e52, st52⟩ := getF X49 hx hZ hown (host := "") (Or.inl (w 86 rfl)) Via.refl e49 Ff (g := (mkF m 45 #[.val (.ref a1), .val (.ref r), .val (.int 2)] [(.ref a1), (.int 3), (.ref r)])) rfl rfl (hb hby d17_45)
 have R53 := Rc.st R51 st52
 have R54 : Rc p e below A0 (T52.setTop (mkF m 49 #[.val (.ref a1), .val (.ref r), .val (.int 2)] [(.int 2), (.ref lx), (.int 3), (.ref r)])) := by
   intro tgt hgo
   refine R53 tgt ?_
   show Steps p.tables e below (T52.setTop (mkF m 48 #[.val (.ref a1), .val (.ref r), .val (.int 2)] [(.ref lx), (.int 3), (.ref r)])) _
   refine XS.iloadN X52.here hx rfl (hb hby d17_48) rfl ?_
   exact hgo
 obtain ⟨cq55, kq55, q55a, q55b, q55c⟩ := isOf hZ e52 Ex
 obtain ⟨_, _, ⟨T55, L55, k55, n55⟩, -, X55, ⟨Lc55, hQ55, l55, y55, z55⟩, st55⟩ := X52.interfaceBack hx (xi := yn19) (y := yn13) hown (mvT hZ (w 110 rfl)) (mvT hZ (w 111 rfl)) (mvT hZ (w 112 rfl)) (mvT hZ (w 113 rfl)) (mvT hZ (w 114 rfl)) (mvT hZ (w 115 rfl)) (mvT hZ (w 116 rfl)) (mvT hZ (w 100 rfl)) (by decide) (backOf (W := 2) (rm_ng2 l Z a0 hw [] lx s1 s2 s3 ea ke h44 n0 hZn Fe Ve) hZ (w 117 rfl) (w 58 rfl) (by decide) (by decide)) q55a q55b q55c (g := (mkF m 49 #[.val (.ref a1), .val (.ref r), .val (.int 2)] [(.int 2), (.ref lx), (.int 3), (.ref r)])) rfl (by rw [hml]; rfl) (Steps.refl _) (argsL := [(.int 2)]) (rest := [(.int 3), (.ref r)]) (lenOf pd_9 rfl) rfl (by show 2 * 0 + _ ≤ _; exact Nat.le_of_eq rfl) (hb hby d17_49) (fun _ _ => ⟨rfl, e52, (by decide : 1 + 0 ≤ _), (by decide : 4 + 0 ≤ _)⟩)
 dsimp only [Pt.U, Pt.locs, Pt.cells, Pt.slots] at X55 l55 y55 z55 st55 hQ55
 subst l55 y55 z55
 obtain ⟨rfl, N55q, e55⟩ := hQ55
 have N55 := Fr.app N49 N55q
 have R56 := Rc.tr R54 st55
 obtain ⟨T57, X57, e57, st57⟩ := castY X55 hx hZ hown (w 102 rfl) e55 (Ins.self Es3) (g := (mkF m 54 #[.val (.ref a1), .val (.ref r), .val (.int 2)] [(.ref s3), (.int 3), (.ref r)])) rfl rfl (hb hby d17_54)
 have R58 := Rc.st R56 st57
 obtain ⟨cl59, Ar59, q59, S59, Nn59, H59, G59⟩ := V_r
 have hin59 : ¬ ((3 : Int32) < 0 ∨ cl59.slots.size ≤ ((3 : Int32)).toNatClampNeg) := inb_of S59 ⟨by decide, by decide⟩
 obtain ⟨T59, h59, X59, e59, W59, st59⟩ := stR X57 hx hZ e57 Ar59 (j := (3 : Int32)) hin59 rfl (Sto.ofV Ar59 q59 O7 (Ins.self Es3)) (g := (mkF m 57 #[.val (.ref a1), .val (.ref r), .val (.int 2)] [(.ref s3), (.int 3), (.ref r)])) rfl rfl (hb hby d17_57)
 replace hZn := Nat.le_trans hZn (Keep.of_wr W59).1
 replace hK := hK.wr W59 (Or.inr sz_r)
 replace E1 := E1.wr W59
 replace Fk := Fk.other W59 (Or.inl ne_a1_r)
 replace Ff := Ff.other W59 (Or.inl ne_a1_r)
 replace Ek := Ek.wr W59
 replace Ft := Ft.other W59 (Or.inl ne_kd_r)
 replace Et := Et.wr W59
 replace Ex := Ex.wr W59
 replace Fe := Fe.other W59 (Or.inl ne_lx_r)
 replace Ve := Ve.other W59 ne_ea_r
 replace Es1 := Es1.wr W59
 replace Es2 := Es2.wr W59
 replace Es3 := Es3.wr W59
 have V_r : Arv Z h59 r k7 (.object "java/lang/String") (4 : Int32) [(.ref tk), (.ref s1), (.ref s2), (.ref s3)] .null := Arv.set Ar59 q59 S59 Nn59 H59 G59 rfl W59 3 rfl (Nat.le_of_ble_eq_true rfl)
 have N59 := Fr.snoc X59 N55 ge_r
 have R60 := Rc.st R58 st59
 have R61 : Rc p e below A0 (T59.setTop (mkF m 29 #[.val (.ref a1), .val (.ref r), .val (.int 3)] [(.ref a1), (.int 3)])) := by
   intro tgt hgo
   refine R60 tgt ?_
   show Steps p.tables e below (T59.setTop (mkF m 58 #[.val (.ref a1), .val (.ref r), .val (.int 2)] [])) _
   refine XS.iinc X59.here hx rfl (hb hby d17_58) rfl (l' := #[.val (.ref a1), .val (.ref r), .val (.int 3)]) rfl ?_
   refine XS.goto X59.here hx rfl (pc0 := 61) (pc' := 27) rfl (hb hby d17_61) (by decide) (by decide) ?_
   refine XS.iloadN X59.here hx rfl (hb hby d17_27) rfl ?_
   refine XS.aloadN X59.here hx rfl (hb hby d17_28) rfl rfl ?_
   exact hgo
 obtain ⟨T62, X62, e62, st62⟩ := getF X59 hx hZ hown (host := "") (Or.inl (w 86 rfl)) Via.refl e59 Ff (g := (mkF m 29 #[.val (.ref a1), .val (.ref r), .val (.int 3)] [(.ref a1), (.int 3)])) rfl rfl (hb hby d17_29)
 have R63 := Rc.st R61 st62
 obtain ⟨cq64, kq64, q64a, q64b, q64c⟩ := isOf hZ e62 Ex
 obtain ⟨_, _, ⟨T64, L64, k64, n64⟩, -, X64, ⟨Lc64, hQ64, l64, y64, z64⟩, st64⟩ := X62.interfaceBack hx (xi := yn18) (y := yn12) hown (mvT hZ (w 93 rfl)) (mvT hZ (w 94 rfl)) (mvT hZ (w 95 rfl)) (mvT hZ (w 96 rfl)) (mvT hZ (w 97 rfl)) (mvT hZ (w 98 rfl)) (mvT hZ (w 99 rfl)) (mvT hZ (w 100 rfl)) (by decide) (backOf (W := 1) (rm_ns l Z a0 hw [] lx ea ke (3 : Int32) _ h59 n0 hZn Fe Ve) hZ (w 101 rfl) (w 58 rfl) (by decide) (by decide)) q64a q64b q64c (g := (mkF m 32 #[.val (.ref a1), .val (.ref r), .val (.int 3)] [(.ref lx), (.int 3)])) rfl (by rw [hml]; rfl) (Steps.refl _) (argsL := []) (rest := [(.int 3)]) (lenOf pd_7 rfl) rfl (by show 2 * 0 + _ ≤ _; exact Nat.le_of_eq rfl) (hb hby d17_32) (fun _ _ => ⟨rfl, e62, (by decide : 1 + 0 ≤ _), (by decide : 4 + 0 ≤ _)⟩)
 dsimp only [Pt.U, Pt.locs, Pt.cells, Pt.slots] at X64 l64 y64 z64 st64 hQ64
 subst l64 y64 z64
 obtain ⟨rfl, N64q, e64⟩ := hQ64
 have N64 := Fr.app N59 N64q
 have R65 := Rc.tr R63 st64
 have R66 : Rc p e below A0 (T64.setTop (mkF m 65 #[.val (.ref a1), .val (.ref r), .val (.int 3)] [(.ref r)])) := by
   intro tgt hgo
   refine R65 tgt ?_
   show Steps p.tables e below (T64.setTop (mkF m 37 #[.val (.ref a1), .val (.ref r), .val (.int 3)] [(.int 3), (.int 3)])) _
   refine XS.icmpYes X64.here hx rfl (pc0 := 37) (pc' := 64) rfl (hb hby d17_37) rfl (flt (by decide : ¬ ((3 : Int32) < (3 : Int32)))).2.1 (by decide) (by decide) ?_
   refine XS.aloadN X64.here hx rfl (hb hby d17_64) rfl rfl ?_
   exact hgo
 subst hA0
 obtain ⟨fs, hr, hrun, hended, hW, hsame⟩ := X64.leave (v := some (.ref r)) (fun h => by rw [Bd.returns] at h; cases h)
 refine ⟨_, _, R66 _ ?_, hrun, hended, _, _, rfl, ?_, ⟨_, rfl⟩, hW, hsame.mono (by decide) (by decide)⟩
 ·show Steps p.tables e below (T64.setTop (mkF m 65 #[.val (.ref a1), .val (.ref r), .val (.int 3)] [(.ref r)])) _
  jvm_step X64.here [X64.here.top, hx, (hb hby d17_65), X64.method', Bd.returns, Value.isRef, FieldType.isReference]
  first | (intro acts; rw [hr _ acts rfl rfl rfl]) | rw [hr _ _ rfl rfl rfl]
  exact Steps.refl _
 ·show Qli3 Z tk s1 s2 s3 h0 n0 _ T64.heap _
  rw [e64]
  exact ⟨⟨r, rfl, _, sz_r, ge_r, O7, V_r⟩, N64, hK⟩
abbrev yn20 : MethodName := ⟨"com/example/verdict_ladder/verdictladder/lint/FindingLinePinLaw", "matches", "([Ljava/lang/String;ILjava/lang/String;Ljava/lang/String;Ljava/lang/String;Ljava/lang/String;)Z"⟩
theorem pn_com_example_verdict_ladder_verdictladder_lint_FindingLinePinLaw : plainName "com/example/verdict_ladder/verdictladder/lint/FindingLinePinLaw" = true := by first | (simp [plainName, overriddenIn]; done) | decide +kernel
theorem ef_rm_ma0 (m : MethodId) (r : Addr) (lt : Addr) (s1 : Addr) (s2 : Addr) (s3 : Addr) : entryFrame m #[(.ref r), (.int (0 : Int32)), (.ref lt), (.ref s1), (.ref s2), (.ref s3)] 6 = mkF m 0 #[.val (.ref r), .val (.int (0 : Int32)), .val (.ref lt), .val (.ref s1), .val (.ref s2), .val (.ref s3)] [] := by first | (simp [entryFrame, mkF, argsToLocals, Value.category]; done) | rfl
theorem d18_0 : decode method_3_code 0 = .ok (.aload_n 0, 1) := by decide +kernel
theorem d18_1 : decode method_3_code 1 = .ok (.ifnull 11, 3) := by decide +kernel
theorem d18_4 : decode method_3_code 4 = .ok (.aload_n 0, 1) := by decide +kernel
theorem d18_5 : decode method_3_code 5 = .ok (.arraylength, 1) := by decide +kernel
theorem d18_6 : decode method_3_code 6 = .ok (.iload_n 1, 1) := by decide +kernel
theorem d18_7 : decode method_3_code 7 = .ok (.iconst 1, 1) := by decide +kernel
theorem d18_8 : decode method_3_code 8 = .ok (.iadd, 1) := by decide +kernel
theorem d18_9 : decode method_3_code 9 = .ok (.if_icmp .eq 5, 3) := by decide +kernel
theorem d18_14 : decode method_3_code 14 = .ok (.aload_n 2, 1) := by decide +kernel
theorem d18_15 : decode method_3_code 15 = .ok (.aload_n 0, 1) := by decide +kernel
theorem d18_16 : decode method_3_code 16 = .ok (.iconst 0, 1) := by decide +kernel
theorem d18_17 : decode method_3_code 17 = .ok (.aaload, 1) := by decide +kernel
theorem d18_18 : decode method_3_code 18 = .ok (.invokevirtual 16, 3) := by decide +kernel
theorem pd_10 : parseMethodDescriptor "(Ljava/lang/Object;)Z" = some ⟨[(.object "java/lang/Object")], some .boolean⟩ := by decide +kernel
theorem d18_21 : decode method_3_code 21 = .ok (.ifCond .ne 5, 3) := by decide +kernel
theorem d18_26 : decode method_3_code 26 = .ok (.iload_n 1, 1) := by decide +kernel
theorem d18_27 : decode method_3_code 27 = .ok (.iconst 1, 1) := by decide +kernel
theorem d18_28 : decode method_3_code 28 = .ok (.if_icmp .lt 15, 3) := by decide +kernel
theorem d18_43 : decode method_3_code 43 = .ok (.iload_n 1, 1) := by decide +kernel
theorem d18_44 : decode method_3_code 44 = .ok (.iconst 2, 1) := by decide +kernel
theorem d18_45 : decode method_3_code 45 = .ok (.if_icmp .lt 16, 3) := by decide +kernel
theorem d18_61 : decode method_3_code 61 = .ok (.iload_n 1, 1) := by decide +kernel
theorem d18_62 : decode method_3_code 62 = .ok (.iconst 3, 1) := by decide +kernel
theorem d18_63 : decode method_3_code 63 = .ok (.if_icmp .lt 16, 3) := by decide +kernel
theorem d18_79 : decode method_3_code 79 = .ok (.iconst 1, 1) := by decide +kernel
theorem d18_80 : decode method_3_code 80 = .ok (.ireturn, 1) := by decide +kernel
set_option maxRecDepth 65536 in
set_option maxHeartbeats 40000000 in
theorem rm_ma0 (l : Launch) (Z : State) (a0 : Array Value) (hw : ∀ d ∈ tables_1, d.before a0 Z = true) (ws : List Jvm.Cond) (r : Addr) (lt : Addr) (s1 : Addr) (s2 : Addr) (s3 : Addr) (tk : Addr) (zc : Int32) (bs : List Int32) (b1 b2 : Addr) (k1 k2 kr : ClassId) (h0 : Heap) (n0 : Nat) (Z0 : n0 ≤ h0.size) (X00 : Old Z n0 h0) (S_cs : Sta Z Z.heap "java/lang/String" "COMPACT_STRINGS" "Z" (.int zc)) (hz : ¬ zc = 0) (hbs : own_tok bs) (D1 : StrF Z h0 lt b1 k1 bs) (D2 : StrF Z h0 tk b2 k2 bs) (Vr : Arv Z h0 r kr (.object "java/lang/String") (1 : Int32) [(.ref tk)] .null) :
    MetFree l yn20 (head1 (Jvm.Cond.code yn20 method_3_code 6 (some .boolean) :: ws) ({ frames := 3, cells := 0, slots := 0, locals := 74 } : Room)) (fun a U => a = #[(.ref r), (.int (0 : Int32)), (.ref lt), (.ref s1), (.ref s2), (.ref s3)] ∧ Z.Warmed39 U.vm ∧ U.heap = h0) (fun _ _ _ _ _ => True) (fun _ U o U' => ∃ v L, o = .returned v ∧ Qi 1 h0 n0 v U'.heap L ∧ FrameEnd U o U' L ({ frames := 3, cells := 0, slots := 0, locals := 74 } : Room).cells ({ frames := 3, cells := 0, slots := 0, locals := 74 } : Room).slots) := by
 refine MetFree.of_bodySF (plainFor_of_name pn_com_example_verdict_ladder_verdictladder_lint_FindingLinePinLaw) hisR ?_
 intro p e s m args below meth c s₁ Bd hml0 hP hK
 obtain ⟨rfl, hZ, hh⟩ := hP
 have hx := Bd.exec
 have hby := Bd.bytes
 have hml : c.maxLocals = 6 := hml0
 have hown : s.vm.findClass "com/example/verdict_ladder/verdictladder/lint/FindingLinePinLaw" = some m.cls := findClass_of_methodNamed Bd.named
 have hnm := (name_of_methodNamed Bd.named Bd.method).1
 have X0 : Stand p l e ({ frames := 3, cells := 0, slots := 0, locals := 74 } : Room) s m #[(.ref r), (.int 0), (.ref lt), (.ref s1), (.ref s2), (.ref s3)] below meth c s₁ [] 0 0 := Stand.of_body Bd
 have e0 : s₁.heap = h0 := by rw [← hh, Bd.state]; rfl
 have N0 := Fr.nil n0
 obtain ⟨A0, hA0⟩ : ∃ A, A = s₁.setTop (entryFrame m #[(.ref r), (.int 0), (.ref lt), (.ref s1), (.ref s2), (.ref s3)] 6) := ⟨_, rfl⟩
 have R0 : ∀ tgt, Steps p.tables e below (s₁.setTop (mkF m 0 #[.val (.ref r), .val (.int 0), .val (.ref lt), .val (.ref s1), .val (.ref s2), .val (.ref s3)] [])) tgt → Steps p.tables e below A0 tgt := fun tgt hgo => by rw [hA0]; exact castTop (ef_rm_ma0 m r lt s1 s2 s3) hgo
 have w : ∀ (i : Nat) {d : Jvm.Cond}, tables_1[i]? = some d → d.before a0 Z = true := fun i d h => hw d (List.mem_of_getElem? h)
 have E1 := D1.1
 have R1 : Rc p e below A0 (s₁.setTop (mkF m 5 #[.val (.ref r), .val (.int 0), .val (.ref lt), .val (.ref s1), .val (.ref s2), .val (.ref s3)] [(.ref r)])) := by
   intro tgt hgo
   refine R0 tgt ?_
   show Steps p.tables e below (s₁.setTop (mkF m 0 #[.val (.ref r), .val (.int 0), .val (.ref lt), .val (.ref s1), .val (.ref s2), .val (.ref s3)] [])) _
   refine XS.aloadN X0.here hx rfl (hb hby d18_0) rfl rfl ?_
   refine XS.ifnullNo X0.here hx rfl (hb hby d18_1) rfl ?_
   refine XS.aloadN X0.here hx rfl (hb hby d18_4) rfl rfl ?_
   exact hgo
 obtain ⟨cl2, Ar2, -, S2, Nn2, -, -⟩ := id Vr
 have R3 : Rc p e below A0 (s₁.setTop (mkF m 6 #[.val (.ref r), .val (.int 0), .val (.ref lt), .val (.ref s1), .val (.ref s2), .val (.ref s3)] [(.int 1)])) := by
   intro tgt hgo
   refine R1 tgt ?_
   refine X0.arraylength hx (by rw [e0]; exact Ar2.1) (State.isArrayOf_alike hZ.alike Ar2.2.1) (g := (mkF m 5 #[.val (.ref r), .val (.int 0), .val (.ref lt), .val (.ref s1), .val (.ref s2), .val (.ref s3)] [(.ref r)])) rfl rfl (hb hby d18_5) _ ?_
   rw [len_of S2 Nn2]
   exact hgo
 have R4 : Rc p e below A0 (s₁.setTop (mkF m 17 #[.val (.ref r), .val (.int 0), .val (.ref lt), .val (.ref s1), .val (.ref s2), .val (.ref s3)] [(.int 0), (.ref r), (.ref lt)])) := by
   intro tgt hgo
   refine R3 tgt ?_
   show Steps p.tables e below (s₁.setTop (mkF m 6 #[.val (.ref r), .val (.int 0), .val (.ref lt), .val (.ref s1), .val (.ref s2), .val (.ref s3)] [(.int 1)])) _
   refine XS.iloadN X0.here hx rfl (hb hby d18_6) rfl ?_
   refine XS.iconst X0.here hx rfl (hb hby d18_7) ?_
   refine XS.iadd X0.here hx rfl (hb hby d18_8) rfl ?_
   refine XS.icmpYes X0.here hx rfl (pc0 := 9) (pc' := 14) rfl (hb hby d18_9) rfl (teq (by decide : (1 : Int32) = (1 : Int32))).1 (by decide) (by decide) ?_
   refine XS.aloadN X0.here hx rfl (hb hby d18_14) rfl rfl ?_
   refine XS.aloadN X0.here hx rfl (hb hby d18_15) rfl rfl ?_
   refine XS.iconst X0.here hx rfl (hb hby d18_16) ?_
   exact hgo
 obtain ⟨cl5, Ar5, q5, S5, Nn5, H5, G5⟩ := id Vr
 have hin5 : ¬ ((0 : Int32) < 0 ∨ cl5.slots.size ≤ ((0 : Int32)).toNatClampNeg) := inb_of S5 ⟨by decide, by decide⟩
 have hat5 : cl5.slots[((0 : Int32)).toNatClampNeg]? = some (.ref tk) := Has.at H5 hin5 rfl
 have R6 : Rc p e below A0 (s₁.setTop (mkF m 18 #[.val (.ref r), .val (.int 0), .val (.ref lt), .val (.ref s1), .val (.ref s2), .val (.ref s3)] [(.ref tk), (.ref lt)])) := by
   intro tgt hgo
   refine R4 tgt ?_
   refine X0.aaload hx (j := (0 : Int32)) (v := (.ref tk)) (by rw [e0]; exact Ar5.1) (State.isArrayOf_alike hZ.alike Ar5.2.1) rfl Ar5.2.2 hin5 hat5 (g := (mkF m 17 #[.val (.ref r), .val (.int 0), .val (.ref lt), .val (.ref s1), .val (.ref s2), .val (.ref s3)] [(.int 0), (.ref r), (.ref lt)])) rfl rfl (hb hby d18_17) _ ?_
   exact hgo
 obtain ⟨cq7, kq7, q7a, q7b, q7c⟩ := isOf hZ e0 E1
 obtain ⟨_, _, ⟨T7, L7, k7, n7⟩, -, X7, ⟨Lc7, hQ7, l7, y7, z7⟩, st7⟩ := X0.virtualBack hx (y := yn0) (z := yn0) hown (mvT hZ (w 121 rfl)) (mvT hZ (w 122 rfl)) (notFace_of_selects (args := #[]) (mvT hZ (w 124 rfl))) (mvT hZ (w 124 rfl)) (mvT hZ (w 123 rfl)) (by decide) (backOf (W := 0) (rm_eqt l Z a0 hw [] lt tk zc bs b1 b2 k1 k2 h0 n0 Z0 X00 S_cs hz hbs D1 D2) hZ (w 125 rfl) (w 5 rfl) (by decide) (by decide)) q7a q7c (g := (mkF m 18 #[.val (.ref r), .val (.int 0), .val (.ref lt), .val (.ref s1), .val (.ref s2), .val (.ref s3)] [(.ref tk), (.ref lt)])) rfl (by rw [hml]; rfl) (Steps.refl _) (argsL := [(.ref tk)]) (rest := []) (lenOf pd_10 rfl) rfl (by show 2 * 0 + _ ≤ _; exact Nat.le_of_eq rfl) (hb hby d18_18) (fun _ _ => ⟨rfl, e0, (by decide : 0 + 0 ≤ _), (by decide : 0 + 0 ≤ _)⟩)
 dsimp only [Pt.U, Pt.locs, Pt.cells, Pt.slots] at X7 l7 y7 z7 st7 hQ7
 subst l7 y7 z7
 obtain ⟨rfl, N7q, e7⟩ := hQ7
 have N7 := Fr.app N0 N7q
 have R8 := Rc.tr R6 st7
 have R9 : Rc p e below A0 (T7.setTop (mkF m 80 #[.val (.ref r), .val (.int 0), .val (.ref lt), .val (.ref s1), .val (.ref s2), .val (.ref s3)] [(.int 1)])) := by
   intro tgt hgo
   refine R8 tgt ?_
   show Steps p.tables e below (T7.setTop (mkF m 21 #[.val (.ref r), .val (.int 0), .val (.ref lt), .val (.ref s1), .val (.ref s2), .val (.ref s3)] [(.int 1)])) _
   refine XS.ifYes X7.here hx rfl (pc0 := 21) (pc' := 26) rfl (hb hby d18_21) rfl ((if0 _ _).trans (feq (by decide : ¬ ((1 : Int32) = (0 : Int32)))).2) (by decide) (by decide) ?_
   refine XS.iloadN X7.here hx rfl (hb hby d18_26) rfl ?_
   refine XS.iconst X7.here hx rfl (hb hby d18_27) ?_
   refine XS.icmpYes X7.here hx rfl (pc0 := 28) (pc' := 43) rfl (hb hby d18_28) rfl (tlt (by decide : (0 : Int32) < (1 : Int32))).1 (by decide) (by decide) ?_
   refine XS.iloadN X7.here hx rfl (hb hby d18_43) rfl ?_
   refine XS.iconst X7.here hx rfl (hb hby d18_44) ?_
   refine XS.icmpYes X7.here hx rfl (pc0 := 45) (pc' := 61) rfl (hb hby d18_45) rfl (tlt (by decide : (0 : Int32) < (2 : Int32))).1 (by decide) (by decide) ?_
   refine XS.iloadN X7.here hx rfl (hb hby d18_61) rfl ?_
   refine XS.iconst X7.here hx rfl (hb hby d18_62) ?_
   refine XS.icmpYes X7.here hx rfl (pc0 := 63) (pc' := 79) rfl (hb hby d18_63) rfl (tlt (by decide : (0 : Int32) < (3 : Int32))).1 (by decide) (by decide) ?_
   refine XS.iconst X7.here hx rfl (hb hby d18_79) ?_
   exact hgo
 subst hA0
 obtain ⟨fs, hr, hrun, hended, hW, hsame⟩ := X7.leave (v := some (.int 1)) (fun h => by rw [Bd.returns] at h; cases h)
 refine ⟨_, _, R9 _ ?_, hrun, hended, _, _, rfl, ?_, ⟨_, rfl⟩, hW, hsame.mono (by decide) (by decide)⟩
 ·show Steps p.tables e below (T7.setTop (mkF m 80 #[.val (.ref r), .val (.int 0), .val (.ref lt), .val (.ref s1), .val (.ref s2), .val (.ref s3)] [(.int 1)])) _
  exact retN X7 hx (t := .boolean) Bd.returns (by simp) (hb hby d18_80) hr
 ·show Qi 1 h0 n0 _ T7.heap _
  rw [e7]
  exact ⟨rfl, N7, rfl⟩
theorem ef_rm_ma1 (m : MethodId) (r : Addr) (lt : Addr) (s1 : Addr) (s2 : Addr) (s3 : Addr) : entryFrame m #[(.ref r), (.int (1 : Int32)), (.ref lt), (.ref s1), (.ref s2), (.ref s3)] 6 = mkF m 0 #[.val (.ref r), .val (.int (1 : Int32)), .val (.ref lt), .val (.ref s1), .val (.ref s2), .val (.ref s3)] [] := by first | (simp [entryFrame, mkF, argsToLocals, Value.category]; done) | rfl
theorem d18_31 : decode method_3_code 31 = .ok (.aload_n 3, 1) := by decide +kernel
theorem d18_32 : decode method_3_code 32 = .ok (.aload_n 0, 1) := by decide +kernel
theorem d18_33 : decode method_3_code 33 = .ok (.iconst 1, 1) := by decide +kernel
theorem d18_34 : decode method_3_code 34 = .ok (.aaload, 1) := by decide +kernel
theorem d18_35 : decode method_3_code 35 = .ok (.invokevirtual 16, 3) := by decide +kernel
theorem d18_38 : decode method_3_code 38 = .ok (.ifCond .ne 5, 3) := by decide +kernel
set_option maxRecDepth 65536 in
set_option maxHeartbeats 40000000 in
theorem rm_ma1 (l : Launch) (Z : State) (a0 : Array Value) (hw : ∀ d ∈ tables_1, d.before a0 Z = true) (ws : List Jvm.Cond) (r : Addr) (lt : Addr) (s1 : Addr) (s2 : Addr) (s3 : Addr) (tk : Addr) (zc : Int32) (bs : List Int32) (b1 b2 : Addr) (k1 k2 kr : ClassId) (h0 : Heap) (n0 : Nat) (Z0 : n0 ≤ h0.size) (X00 : Old Z n0 h0) (S_cs : Sta Z Z.heap "java/lang/String" "COMPACT_STRINGS" "Z" (.int zc)) (hz : ¬ zc = 0) (hbs : own_tok bs) (D1 : StrF Z h0 lt b1 k1 bs) (D2 : StrF Z h0 tk b2 k2 bs) (Vr : Arv Z h0 r kr (.object "java/lang/String") (2 : Int32) [(.ref tk), (.ref s1)] .null) (Es1 : Exa Z h0 s1 "java/lang/String") :
    MetFree l yn20 (head1 (Jvm.Cond.code yn20 method_3_code 6 (some .boolean) :: ws) ({ frames := 3, cells := 0, slots := 0, locals := 74 } : Room)) (fun a U => a = #[(.ref r), (.int (1 : Int32)), (.ref lt), (.ref s1), (.ref s2), (.ref s3)] ∧ Z.Warmed39 U.vm ∧ U.heap = h0) (fun _ _ _ _ _ => True) (fun _ U o U' => ∃ v L, o = .returned v ∧ Qi 1 h0 n0 v U'.heap L ∧ FrameEnd U o U' L ({ frames := 3, cells := 0, slots := 0, locals := 74 } : Room).cells ({ frames := 3, cells := 0, slots := 0, locals := 74 } : Room).slots) := by
 refine MetFree.of_bodySF (plainFor_of_name pn_com_example_verdict_ladder_verdictladder_lint_FindingLinePinLaw) hisR ?_
 intro p e s m args below meth c s₁ Bd hml0 hP hK
 obtain ⟨rfl, hZ, hh⟩ := hP
 have hx := Bd.exec
 have hby := Bd.bytes
 have hml : c.maxLocals = 6 := hml0
 have hown : s.vm.findClass "com/example/verdict_ladder/verdictladder/lint/FindingLinePinLaw" = some m.cls := findClass_of_methodNamed Bd.named
 have hnm := (name_of_methodNamed Bd.named Bd.method).1
 have X0 : Stand p l e ({ frames := 3, cells := 0, slots := 0, locals := 74 } : Room) s m #[(.ref r), (.int 1), (.ref lt), (.ref s1), (.ref s2), (.ref s3)] below meth c s₁ [] 0 0 := Stand.of_body Bd
 have e0 : s₁.heap = h0 := by rw [← hh, Bd.state]; rfl
 have N0 := Fr.nil n0
 obtain ⟨A0, hA0⟩ : ∃ A, A = s₁.setTop (entryFrame m #[(.ref r), (.int 1), (.ref lt), (.ref s1), (.ref s2), (.ref s3)] 6) := ⟨_, rfl⟩
 have R0 : ∀ tgt, Steps p.tables e below (s₁.setTop (mkF m 0 #[.val (.ref r), .val (.int 1), .val (.ref lt), .val (.ref s1), .val (.ref s2), .val (.ref s3)] [])) tgt → Steps p.tables e below A0 tgt := fun tgt hgo => by rw [hA0]; exact castTop (ef_rm_ma1 m r lt s1 s2 s3) hgo
 have w : ∀ (i : Nat) {d : Jvm.Cond}, tables_1[i]? = some d → d.before a0 Z = true := fun i d h => hw d (List.mem_of_getElem? h)
 have E1 := D1.1
 have R1 : Rc p e below A0 (s₁.setTop (mkF m 5 #[.val (.ref r), .val (.int 1), .val (.ref lt), .val (.ref s1), .val (.ref s2), .val (.ref s3)] [(.ref r)])) := by
   intro tgt hgo
   refine R0 tgt ?_
   show Steps p.tables e below (s₁.setTop (mkF m 0 #[.val (.ref r), .val (.int 1), .val (.ref lt), .val (.ref s1), .val (.ref s2), .val (.ref s3)] [])) _
   refine XS.aloadN X0.here hx rfl (hb hby d18_0) rfl rfl ?_
   refine XS.ifnullNo X0.here hx rfl (hb hby d18_1) rfl ?_
   refine XS.aloadN X0.here hx rfl (hb hby d18_4) rfl rfl ?_
   exact hgo
 obtain ⟨cl2, Ar2, -, S2, Nn2, -, -⟩ := id Vr
 have R3 : Rc p e below A0 (s₁.setTop (mkF m 6 #[.val (.ref r), .val (.int 1), .val (.ref lt), .val (.ref s1), .val (.ref s2), .val (.ref s3)] [(.int 2)])) := by
   intro tgt hgo
   refine R1 tgt ?_
   refine X0.arraylength hx (by rw [e0]; exact Ar2.1) (State.isArrayOf_alike hZ.alike Ar2.2.1) (g := (mkF m 5 #[.val (.ref r), .val (.int 1), .val (.ref lt), .val (.ref s1), .val (.ref s2), .val (.ref s3)] [(.ref r)])) rfl rfl (hb hby d18_5) _ ?_
   rw [len_of S2 Nn2]
   exact hgo
 have R4 : Rc p e below A0 (s₁.setTop (mkF m 17 #[.val (.ref r), .val (.int 1), .val (.ref lt), .val (.ref s1), .val (.ref s2), .val (.ref s3)] [(.int 0), (.ref r), (.ref lt)])) := by
   intro tgt hgo
   refine R3 tgt ?_
   show Steps p.tables e below (s₁.setTop (mkF m 6 #[.val (.ref r), .val (.int 1), .val (.ref lt), .val (.ref s1), .val (.ref s2), .val (.ref s3)] [(.int 2)])) _
   refine XS.iloadN X0.here hx rfl (hb hby d18_6) rfl ?_
   refine XS.iconst X0.here hx rfl (hb hby d18_7) ?_
   refine XS.iadd X0.here hx rfl (hb hby d18_8) rfl ?_
   refine XS.icmpYes X0.here hx rfl (pc0 := 9) (pc' := 14) rfl (hb hby d18_9) rfl (teq (by decide : (2 : Int32) = (2 : Int32))).1 (by decide) (by decide) ?_
   refine XS.aloadN X0.here hx rfl (hb hby d18_14) rfl rfl ?_
   refine XS.aloadN X0.here hx rfl (hb hby d18_15) rfl rfl ?_
   refine XS.iconst X0.here hx rfl (hb hby d18_16) ?_
   exact hgo
 obtain ⟨cl5, Ar5, q5, S5, Nn5, H5, G5⟩ := id Vr
 have hin5 : ¬ ((0 : Int32) < 0 ∨ cl5.slots.size ≤ ((0 : Int32)).toNatClampNeg) := inb_of S5 ⟨by decide, by decide⟩
 have hat5 : cl5.slots[((0 : Int32)).toNatClampNeg]? = some (.ref tk) := Has.at H5 hin5 rfl
 have R6 : Rc p e below A0 (s₁.setTop (mkF m 18 #[.val (.ref r), .val (.int 1), .val (.ref lt), .val (.ref s1), .val (.ref s2), .val (.ref s3)] [(.ref tk), (.ref lt)])) := by
   intro tgt hgo
   refine R4 tgt ?_
   refine X0.aaload hx (j := (0 : Int32)) (v := (.ref tk)) (by rw [e0]; exact Ar5.1) (State.isArrayOf_alike hZ.alike Ar5.2.1) rfl Ar5.2.2 hin5 hat5 (g := (mkF m 17 #[.val (.ref r), .val (.int 1), .val (.ref lt), .val (.ref s1), .val (.ref s2), .val (.ref s3)] [(.int 0), (.ref r), (.ref lt)])) rfl rfl (hb hby d18_17) _ ?_
   exact hgo
 obtain ⟨cq7, kq7, q7a, q7b, q7c⟩ := isOf hZ e0 E1
 obtain ⟨_, _, ⟨T7, L7, k7, n7⟩, -, X7, ⟨Lc7, hQ7, l7, y7, z7⟩, st7⟩ := X0.virtualBack hx (y := yn0) (z := yn0) hown (mvT hZ (w 121 rfl)) (mvT hZ (w 122 rfl)) (notFace_of_selects (args := #[]) (mvT hZ (w 124 rfl))) (mvT hZ (w 124 rfl)) (mvT hZ (w 123 rfl)) (by decide) (backOf (W := 0) (rm_eqt l Z a0 hw [] lt tk zc bs b1 b2 k1 k2 h0 n0 Z0 X00 S_cs hz hbs D1 D2) hZ (w 125 rfl) (w 5 rfl) (by decide) (by decide)) q7a q7c (g := (mkF m 18 #[.val (.ref r), .val (.int 1), .val (.ref lt), .val (.ref s1), .val (.ref s2), .val (.ref s3)] [(.ref tk), (.ref lt)])) rfl (by rw [hml]; rfl) (Steps.refl _) (argsL := [(.ref tk)]) (rest := []) (lenOf pd_10 rfl) rfl (by show 2 * 0 + _ ≤ _; exact Nat.le_of_eq rfl) (hb hby d18_18) (fun _ _ => ⟨rfl, e0, (by decide : 0 + 0 ≤ _), (by decide : 0 + 0 ≤ _)⟩)
 dsimp only [Pt.U, Pt.locs, Pt.cells, Pt.slots] at X7 l7 y7 z7 st7 hQ7
 subst l7 y7 z7
 obtain ⟨rfl, N7q, e7⟩ := hQ7
 have N7 := Fr.app N0 N7q
 have R8 := Rc.tr R6 st7
 have R9 : Rc p e below A0 (T7.setTop (mkF m 34 #[.val (.ref r), .val (.int 1), .val (.ref lt), .val (.ref s1), .val (.ref s2), .val (.ref s3)] [(.int 1), (.ref r), (.ref s1)])) := by
   intro tgt hgo
   refine R8 tgt ?_
   show Steps p.tables e below (T7.setTop (mkF m 21 #[.val (.ref r), .val (.int 1), .val (.ref lt), .val (.ref s1), .val (.ref s2), .val (.ref s3)] [(.int 1)])) _
   refine XS.ifYes X7.here hx rfl (pc0 := 21) (pc' := 26) rfl (hb hby d18_21) rfl ((if0 _ _).trans (feq (by decide : ¬ ((1 : Int32) = (0 : Int32)))).2) (by decide) (by decide) ?_
   refine XS.iloadN X7.here hx rfl (hb hby d18_26) rfl ?_
   refine XS.iconst X7.here hx rfl (hb hby d18_27) ?_
   refine XS.icmpNo X7.here hx rfl (hb hby d18_28) rfl (flt (by decide : ¬ ((1 : Int32) < (1 : Int32)))).1 ?_
   refine XS.aloadN X7.here hx rfl (hb hby d18_31) rfl rfl ?_
   refine XS.aloadN X7.here hx rfl (hb hby d18_32) rfl rfl ?_
   refine XS.iconst X7.here hx rfl (hb hby d18_33) ?_
   exact hgo
 obtain ⟨cl10, Ar10, q10, S10, Nn10, H10, G10⟩ := id Vr
 have hin10 : ¬ ((1 : Int32) < 0 ∨ cl10.slots.size ≤ ((1 : Int32)).toNatClampNeg) := inb_of S10 ⟨by decide, by decide⟩
 have hat10 : cl10.slots[((1 : Int32)).toNatClampNeg]? = some (.ref s1) := Has.at H10 hin10 rfl
 have R11 : Rc p e below A0 (T7.setTop (mkF m 35 #[.val (.ref r), .val (.int 1), .val (.ref lt), .val (.ref s1), .val (.ref s2), .val (.ref s3)] [(.ref s1), (.ref s1)])) := by
   intro tgt hgo
   refine R9 tgt ?_
   refine X7.aaload hx (j := (1 : Int32)) (v := (.ref s1)) (by rw [e7]; exact Ar10.1) (State.isArrayOf_alike hZ.alike Ar10.2.1) rfl Ar10.2.2 hin10 hat10 (g := (mkF m 34 #[.val (.ref r), .val (.int 1), .val (.ref lt), .val (.ref s1), .val (.ref s2), .val (.ref s3)] [(.int 1), (.ref r), (.ref s1)])) rfl rfl (hb hby d18_34) _ ?_
   exact hgo
 obtain ⟨cq12, kq12, q12a, q12b, q12c⟩ := isOf hZ e7 Es1
 obtain ⟨_, _, ⟨T12, L12, k12, n12⟩, -, X12, ⟨Lc12, hQ12, l12, y12, z12⟩, st12⟩ := X7.virtualBack hx (y := yn0) (z := yn0) hown (mvT hZ (w 121 rfl)) (mvT hZ (w 122 rfl)) (notFace_of_selects (args := #[]) (mvT hZ (w 124 rfl))) (mvT hZ (w 124 rfl)) (mvT hZ (w 123 rfl)) (by decide) (backOf (W := 0) (rm_eqs l Z a0 hw [] s1 s1 h0 n0 Z0) hZ (w 125 rfl) (w 5 rfl) (by decide) (by decide)) q12a q12c (g := (mkF m 35 #[.val (.ref r), .val (.int 1), .val (.ref lt), .val (.ref s1), .val (.ref s2), .val (.ref s3)] [(.ref s1), (.ref s1)])) rfl (by rw [hml]; rfl) (Steps.refl _) (argsL := [(.ref s1)]) (rest := []) (lenOf pd_10 rfl) rfl (by show 2 * 0 + _ ≤ _; exact Nat.le_of_eq rfl) (hb hby d18_35) (fun _ _ => ⟨rfl, e7, (by decide : 0 + 0 ≤ _), (by decide : 0 + 0 ≤ _)⟩)
 dsimp only [Pt.U, Pt.locs, Pt.cells, Pt.slots] at X12 l12 y12 z12 st12 hQ12
 subst l12 y12 z12
 obtain ⟨rfl, N12q, e12⟩ := hQ12
 have N12 := Fr.app N7 N12q
 have R13 := Rc.tr R11 st12
 have R14 : Rc p e below A0 (T12.setTop (mkF m 80 #[.val (.ref r), .val (.int 1), .val (.ref lt), .val (.ref s1), .val (.ref s2), .val (.ref s3)] [(.int 1)])) := by
   intro tgt hgo
   refine R13 tgt ?_
   show Steps p.tables e below (T12.setTop (mkF m 38 #[.val (.ref r), .val (.int 1), .val (.ref lt), .val (.ref s1), .val (.ref s2), .val (.ref s3)] [(.int 1)])) _
   refine XS.ifYes X12.here hx rfl (pc0 := 38) (pc' := 43) rfl (hb hby d18_38) rfl ((if0 _ _).trans (feq (by decide : ¬ ((1 : Int32) = (0 : Int32)))).2) (by decide) (by decide) ?_
   refine XS.iloadN X12.here hx rfl (hb hby d18_43) rfl ?_
   refine XS.iconst X12.here hx rfl (hb hby d18_44) ?_
   refine XS.icmpYes X12.here hx rfl (pc0 := 45) (pc' := 61) rfl (hb hby d18_45) rfl (tlt (by decide : (1 : Int32) < (2 : Int32))).1 (by decide) (by decide) ?_
   refine XS.iloadN X12.here hx rfl (hb hby d18_61) rfl ?_
   refine XS.iconst X12.here hx rfl (hb hby d18_62) ?_
   refine XS.icmpYes X12.here hx rfl (pc0 := 63) (pc' := 79) rfl (hb hby d18_63) rfl (tlt (by decide : (1 : Int32) < (3 : Int32))).1 (by decide) (by decide) ?_
   refine XS.iconst X12.here hx rfl (hb hby d18_79) ?_
   exact hgo
 subst hA0
 obtain ⟨fs, hr, hrun, hended, hW, hsame⟩ := X12.leave (v := some (.int 1)) (fun h => by rw [Bd.returns] at h; cases h)
 refine ⟨_, _, R14 _ ?_, hrun, hended, _, _, rfl, ?_, ⟨_, rfl⟩, hW, hsame.mono (by decide) (by decide)⟩
 ·show Steps p.tables e below (T12.setTop (mkF m 80 #[.val (.ref r), .val (.int 1), .val (.ref lt), .val (.ref s1), .val (.ref s2), .val (.ref s3)] [(.int 1)])) _
  exact retN X12 hx (t := .boolean) Bd.returns (by simp) (hb hby d18_80) hr
 ·show Qi 1 h0 n0 _ T12.heap _
  rw [e12]
  exact ⟨rfl, N12, rfl⟩
theorem ef_rm_ma2 (m : MethodId) (r : Addr) (lt : Addr) (s1 : Addr) (s2 : Addr) (s3 : Addr) : entryFrame m #[(.ref r), (.int (2 : Int32)), (.ref lt), (.ref s1), (.ref s2), (.ref s3)] 6 = mkF m 0 #[.val (.ref r), .val (.int (2 : Int32)), .val (.ref lt), .val (.ref s1), .val (.ref s2), .val (.ref s3)] [] := by first | (simp [entryFrame, mkF, argsToLocals, Value.category]; done) | rfl
theorem d18_48 : decode method_3_code 48 = .ok (.aload 4, 2) := by decide +kernel
theorem d18_50 : decode method_3_code 50 = .ok (.aload_n 0, 1) := by decide +kernel
theorem d18_51 : decode method_3_code 51 = .ok (.iconst 2, 1) := by decide +kernel
theorem d18_52 : decode method_3_code 52 = .ok (.aaload, 1) := by decide +kernel
theorem d18_53 : decode method_3_code 53 = .ok (.invokevirtual 16, 3) := by decide +kernel
theorem d18_56 : decode method_3_code 56 = .ok (.ifCond .ne 5, 3) := by decide +kernel
set_option maxRecDepth 65536 in
set_option maxHeartbeats 40000000 in
theorem rm_ma2 (l : Launch) (Z : State) (a0 : Array Value) (hw : ∀ d ∈ tables_1, d.before a0 Z = true) (ws : List Jvm.Cond) (r : Addr) (lt : Addr) (s1 : Addr) (s2 : Addr) (s3 : Addr) (tk : Addr) (zc : Int32) (bs : List Int32) (b1 b2 : Addr) (k1 k2 kr : ClassId) (h0 : Heap) (n0 : Nat) (Z0 : n0 ≤ h0.size) (X00 : Old Z n0 h0) (S_cs : Sta Z Z.heap "java/lang/String" "COMPACT_STRINGS" "Z" (.int zc)) (hz : ¬ zc = 0) (hbs : own_tok bs) (D1 : StrF Z h0 lt b1 k1 bs) (D2 : StrF Z h0 tk b2 k2 bs) (Vr : Arv Z h0 r kr (.object "java/lang/String") (3 : Int32) [(.ref tk), (.ref s1), (.ref s2)] .null) (Es1 : Exa Z h0 s1 "java/lang/String") (Es2 : Exa Z h0 s2 "java/lang/String") :
    MetFree l yn20 (head1 (Jvm.Cond.code yn20 method_3_code 6 (some .boolean) :: ws) ({ frames := 3, cells := 0, slots := 0, locals := 74 } : Room)) (fun a U => a = #[(.ref r), (.int (2 : Int32)), (.ref lt), (.ref s1), (.ref s2), (.ref s3)] ∧ Z.Warmed39 U.vm ∧ U.heap = h0) (fun _ _ _ _ _ => True) (fun _ U o U' => ∃ v L, o = .returned v ∧ Qi 1 h0 n0 v U'.heap L ∧ FrameEnd U o U' L ({ frames := 3, cells := 0, slots := 0, locals := 74 } : Room).cells ({ frames := 3, cells := 0, slots := 0, locals := 74 } : Room).slots) := by
 refine MetFree.of_bodySF (plainFor_of_name pn_com_example_verdict_ladder_verdictladder_lint_FindingLinePinLaw) hisR ?_
 intro p e s m args below meth c s₁ Bd hml0 hP hK
 obtain ⟨rfl, hZ, hh⟩ := hP
 have hx := Bd.exec
 have hby := Bd.bytes
 have hml : c.maxLocals = 6 := hml0
 have hown : s.vm.findClass "com/example/verdict_ladder/verdictladder/lint/FindingLinePinLaw" = some m.cls := findClass_of_methodNamed Bd.named
 have hnm := (name_of_methodNamed Bd.named Bd.method).1
 have X0 : Stand p l e ({ frames := 3, cells := 0, slots := 0, locals := 74 } : Room) s m #[(.ref r), (.int 2), (.ref lt), (.ref s1), (.ref s2), (.ref s3)] below meth c s₁ [] 0 0 := Stand.of_body Bd
 have e0 : s₁.heap = h0 := by rw [← hh, Bd.state]; rfl
 have N0 := Fr.nil n0
 obtain ⟨A0, hA0⟩ : ∃ A, A = s₁.setTop (entryFrame m #[(.ref r), (.int 2), (.ref lt), (.ref s1), (.ref s2), (.ref s3)] 6) := ⟨_, rfl⟩
 have R0 : ∀ tgt, Steps p.tables e below (s₁.setTop (mkF m 0 #[.val (.ref r), .val (.int 2), .val (.ref lt), .val (.ref s1), .val (.ref s2), .val (.ref s3)] [])) tgt → Steps p.tables e below A0 tgt := fun tgt hgo => by rw [hA0]; exact castTop (ef_rm_ma2 m r lt s1 s2 s3) hgo
 have w : ∀ (i : Nat) {d : Jvm.Cond}, tables_1[i]? = some d → d.before a0 Z = true := fun i d h => hw d (List.mem_of_getElem? h)
 have E1 := D1.1
 have R1 : Rc p e below A0 (s₁.setTop (mkF m 5 #[.val (.ref r), .val (.int 2), .val (.ref lt), .val (.ref s1), .val (.ref s2), .val (.ref s3)] [(.ref r)])) := by
   intro tgt hgo
   refine R0 tgt ?_
   show Steps p.tables e below (s₁.setTop (mkF m 0 #[.val (.ref r), .val (.int 2), .val (.ref lt), .val (.ref s1), .val (.ref s2), .val (.ref s3)] [])) _
   refine XS.aloadN X0.here hx rfl (hb hby d18_0) rfl rfl ?_
   refine XS.ifnullNo X0.here hx rfl (hb hby d18_1) rfl ?_
   refine XS.aloadN X0.here hx rfl (hb hby d18_4) rfl rfl ?_
   exact hgo
 obtain ⟨cl2, Ar2, -, S2, Nn2, -, -⟩ := id Vr
 have R3 : Rc p e below A0 (s₁.setTop (mkF m 6 #[.val (.ref r), .val (.int 2), .val (.ref lt), .val (.ref s1), .val (.ref s2), .val (.ref s3)] [(.int 3)])) := by
   intro tgt hgo
   refine R1 tgt ?_
   refine X0.arraylength hx (by rw [e0]; exact Ar2.1) (State.isArrayOf_alike hZ.alike Ar2.2.1) (g := (mkF m 5 #[.val (.ref r), .val (.int 2), .val (.ref lt), .val (.ref s1), .val (.ref s2), .val (.ref s3)] [(.ref r)])) rfl rfl (hb hby d18_5) _ ?_
   rw [len_of S2 Nn2]
   exact hgo
 have R4 : Rc p e below A0 (s₁.setTop (mkF m 17 #[.val (.ref r), .val (.int 2), .val (.ref lt), .val (.ref s1), .val (.ref s2), .val (.ref s3)] [(.int 0), (.ref r), (.ref lt)])) := by
   intro tgt hgo
   refine R3 tgt ?_
   show Steps p.tables e below (s₁.setTop (mkF m 6 #[.val (.ref r), .val (.int 2), .val (.ref lt), .val (.ref s1), .val (.ref s2), .val (.ref s3)] [(.int 3)])) _
   refine XS.iloadN X0.here hx rfl (hb hby d18_6) rfl ?_
   refine XS.iconst X0.here hx rfl (hb hby d18_7) ?_
   refine XS.iadd X0.here hx rfl (hb hby d18_8) rfl ?_
   refine XS.icmpYes X0.here hx rfl (pc0 := 9) (pc' := 14) rfl (hb hby d18_9) rfl (teq (by decide : (3 : Int32) = (3 : Int32))).1 (by decide) (by decide) ?_
   refine XS.aloadN X0.here hx rfl (hb hby d18_14) rfl rfl ?_
   refine XS.aloadN X0.here hx rfl (hb hby d18_15) rfl rfl ?_
   refine XS.iconst X0.here hx rfl (hb hby d18_16) ?_
   exact hgo
 obtain ⟨cl5, Ar5, q5, S5, Nn5, H5, G5⟩ := id Vr
 have hin5 : ¬ ((0 : Int32) < 0 ∨ cl5.slots.size ≤ ((0 : Int32)).toNatClampNeg) := inb_of S5 ⟨by decide, by decide⟩
 have hat5 : cl5.slots[((0 : Int32)).toNatClampNeg]? = some (.ref tk) := Has.at H5 hin5 rfl
 have R6 : Rc p e below A0 (s₁.setTop (mkF m 18 #[.val (.ref r), .val (.int 2), .val (.ref lt), .val (.ref s1), .val (.ref s2), .val (.ref s3)] [(.ref tk), (.ref lt)])) := by
   intro tgt hgo
   refine R4 tgt ?_
   refine X0.aaload hx (j := (0 : Int32)) (v := (.ref tk)) (by rw [e0]; exact Ar5.1) (State.isArrayOf_alike hZ.alike Ar5.2.1) rfl Ar5.2.2 hin5 hat5 (g := (mkF m 17 #[.val (.ref r), .val (.int 2), .val (.ref lt), .val (.ref s1), .val (.ref s2), .val (.ref s3)] [(.int 0), (.ref r), (.ref lt)])) rfl rfl (hb hby d18_17) _ ?_
   exact hgo
 obtain ⟨cq7, kq7, q7a, q7b, q7c⟩ := isOf hZ e0 E1
 obtain ⟨_, _, ⟨T7, L7, k7, n7⟩, -, X7, ⟨Lc7, hQ7, l7, y7, z7⟩, st7⟩ := X0.virtualBack hx (y := yn0) (z := yn0) hown (mvT hZ (w 121 rfl)) (mvT hZ (w 122 rfl)) (notFace_of_selects (args := #[]) (mvT hZ (w 124 rfl))) (mvT hZ (w 124 rfl)) (mvT hZ (w 123 rfl)) (by decide) (backOf (W := 0) (rm_eqt l Z a0 hw [] lt tk zc bs b1 b2 k1 k2 h0 n0 Z0 X00 S_cs hz hbs D1 D2) hZ (w 125 rfl) (w 5 rfl) (by decide) (by decide)) q7a q7c (g := (mkF m 18 #[.val (.ref r), .val (.int 2), .val (.ref lt), .val (.ref s1), .val (.ref s2), .val (.ref s3)] [(.ref tk), (.ref lt)])) rfl (by rw [hml]; rfl) (Steps.refl _) (argsL := [(.ref tk)]) (rest := []) (lenOf pd_10 rfl) rfl (by show 2 * 0 + _ ≤ _; exact Nat.le_of_eq rfl) (hb hby d18_18) (fun _ _ => ⟨rfl, e0, (by decide : 0 + 0 ≤ _), (by decide : 0 + 0 ≤ _)⟩)
 dsimp only [Pt.U, Pt.locs, Pt.cells, Pt.slots] at X7 l7 y7 z7 st7 hQ7
 subst l7 y7 z7
 obtain ⟨rfl, N7q, e7⟩ := hQ7
 have N7 := Fr.app N0 N7q
 have R8 := Rc.tr R6 st7
 have R9 : Rc p e below A0 (T7.setTop (mkF m 34 #[.val (.ref r), .val (.int 2), .val (.ref lt), .val (.ref s1), .val (.ref s2), .val (.ref s3)] [(.int 1), (.ref r), (.ref s1)])) := by
   intro tgt hgo
   refine R8 tgt ?_
   show Steps p.tables e below (T7.setTop (mkF m 21 #[.val (.ref r), .val (.int 2), .val (.ref lt), .val (.ref s1), .val (.ref s2), .val (.ref s3)] [(.int 1)])) _
   refine XS.ifYes X7.here hx rfl (pc0 := 21) (pc' := 26) rfl (hb hby d18_21) rfl ((if0 _ _).trans (feq (by decide : ¬ ((1 : Int32) = (0 : Int32)))).2) (by decide) (by decide) ?_
   refine XS.iloadN X7.here hx rfl (hb hby d18_26) rfl ?_
   refine XS.iconst X7.here hx rfl (hb hby d18_27) ?_
   refine XS.icmpNo X7.here hx rfl (hb hby d18_28) rfl (flt (by decide : ¬ ((2 : Int32) < (1 : Int32)))).1 ?_
   refine XS.aloadN X7.here hx rfl (hb hby d18_31) rfl rfl ?_
   refine XS.aloadN X7.here hx rfl (hb hby d18_32) rfl rfl ?_
   refine XS.iconst X7.here hx rfl (hb hby d18_33) ?_
   exact hgo
 obtain ⟨cl10, Ar10, q10, S10, Nn10, H10, G10⟩ := id Vr
 have hin10 : ¬ ((1 : Int32) < 0 ∨ cl10.slots.size ≤ ((1 : Int32)).toNatClampNeg) := inb_of S10 ⟨by decide, by decide⟩
 have hat10 : cl10.slots[((1 : Int32)).toNatClampNeg]? = some (.ref s1) := Has.at H10 hin10 rfl
 have R11 : Rc p e below A0 (T7.setTop (mkF m 35 #[.val (.ref r), .val (.int 2), .val (.ref lt), .val (.ref s1), .val (.ref s2), .val (.ref s3)] [(.ref s1), (.ref s1)])) := by
   intro tgt hgo
   refine R9 tgt ?_
   refine X7.aaload hx (j := (1 : Int32)) (v := (.ref s1)) (by rw [e7]; exact Ar10.1) (State.isArrayOf_alike hZ.alike Ar10.2.1) rfl Ar10.2.2 hin10 hat10 (g := (mkF m 34 #[.val (.ref r), .val (.int 2), .val (.ref lt), .val (.ref s1), .val (.ref s2), .val (.ref s3)] [(.int 1), (.ref r), (.ref s1)])) rfl rfl (hb hby d18_34) _ ?_
   exact hgo
 obtain ⟨cq12, kq12, q12a, q12b, q12c⟩ := isOf hZ e7 Es1
 obtain ⟨_, _, ⟨T12, L12, k12, n12⟩, -, X12, ⟨Lc12, hQ12, l12, y12, z12⟩, st12⟩ := X7.virtualBack hx (y := yn0) (z := yn0) hown (mvT hZ (w 121 rfl)) (mvT hZ (w 122 rfl)) (notFace_of_selects (args := #[]) (mvT hZ (w 124 rfl))) (mvT hZ (w 124 rfl)) (mvT hZ (w 123 rfl)) (by decide) (backOf (W := 0) (rm_eqs l Z a0 hw [] s1 s1 h0 n0 Z0) hZ (w 125 rfl) (w 5 rfl) (by decide) (by decide)) q12a q12c (g := (mkF m 35 #[.val (.ref r), .val (.int 2), .val (.ref lt), .val (.ref s1), .val (.ref s2), .val (.ref s3)] [(.ref s1), (.ref s1)])) rfl (by rw [hml]; rfl) (Steps.refl _) (argsL := [(.ref s1)]) (rest := []) (lenOf pd_10 rfl) rfl (by show 2 * 0 + _ ≤ _; exact Nat.le_of_eq rfl) (hb hby d18_35) (fun _ _ => ⟨rfl, e7, (by decide : 0 + 0 ≤ _), (by decide : 0 + 0 ≤ _)⟩)
 dsimp only [Pt.U, Pt.locs, Pt.cells, Pt.slots] at X12 l12 y12 z12 st12 hQ12
 subst l12 y12 z12
 obtain ⟨rfl, N12q, e12⟩ := hQ12
 have N12 := Fr.app N7 N12q
 have R13 := Rc.tr R11 st12
 have R14 : Rc p e below A0 (T12.setTop (mkF m 52 #[.val (.ref r), .val (.int 2), .val (.ref lt), .val (.ref s1), .val (.ref s2), .val (.ref s3)] [(.int 2), (.ref r), (.ref s2)])) := by
   intro tgt hgo
   refine R13 tgt ?_
   show Steps p.tables e below (T12.setTop (mkF m 38 #[.val (.ref r), .val (.int 2), .val (.ref lt), .val (.ref s1), .val (.ref s2), .val (.ref s3)] [(.int 1)])) _
   refine XS.ifYes X12.here hx rfl (pc0 := 38) (pc' := 43) rfl (hb hby d18_38) rfl ((if0 _ _).trans (feq (by decide : ¬ ((1 : Int32) = (0 : Int32)))).2) (by decide) (by decide) ?_
   refine XS.iloadN X12.here hx rfl (hb hby d18_43) rfl ?_
   refine XS.iconst X12.here hx rfl (hb hby d18_44) ?_
   refine XS.icmpNo X12.here hx rfl (hb hby d18_45) rfl (flt (by decide : ¬ ((2 : Int32) < (2 : Int32)))).1 ?_
   refine XS.aload X12.here hx rfl (hb hby d18_48) rfl rfl ?_
   refine XS.aloadN X12.here hx rfl (hb hby d18_50) rfl rfl ?_
   refine XS.iconst X12.here hx rfl (hb hby d18_51) ?_
   exact hgo
 obtain ⟨cl15, Ar15, q15, S15, Nn15, H15, G15⟩ := id Vr
 have hin15 : ¬ ((2 : Int32) < 0 ∨ cl15.slots.size ≤ ((2 : Int32)).toNatClampNeg) := inb_of S15 ⟨by decide, by decide⟩
 have hat15 : cl15.slots[((2 : Int32)).toNatClampNeg]? = some (.ref s2) := Has.at H15 hin15 rfl
 have R16 : Rc p e below A0 (T12.setTop (mkF m 53 #[.val (.ref r), .val (.int 2), .val (.ref lt), .val (.ref s1), .val (.ref s2), .val (.ref s3)] [(.ref s2), (.ref s2)])) := by
   intro tgt hgo
   refine R14 tgt ?_
   refine X12.aaload hx (j := (2 : Int32)) (v := (.ref s2)) (by rw [e12]; exact Ar15.1) (State.isArrayOf_alike hZ.alike Ar15.2.1) rfl Ar15.2.2 hin15 hat15 (g := (mkF m 52 #[.val (.ref r), .val (.int 2), .val (.ref lt), .val (.ref s1), .val (.ref s2), .val (.ref s3)] [(.int 2), (.ref r), (.ref s2)])) rfl rfl (hb hby d18_52) _ ?_
   exact hgo
 obtain ⟨cq17, kq17, q17a, q17b, q17c⟩ := isOf hZ e12 Es2
 obtain ⟨_, _, ⟨T17, L17, k17, n17⟩, -, X17, ⟨Lc17, hQ17, l17, y17, z17⟩, st17⟩ := X12.virtualBack hx (y := yn0) (z := yn0) hown (mvT hZ (w 121 rfl)) (mvT hZ (w 122 rfl)) (notFace_of_selects (args := #[]) (mvT hZ (w 124 rfl))) (mvT hZ (w 124 rfl)) (mvT hZ (w 123 rfl)) (by decide) (backOf (W := 0) (rm_eqs l Z a0 hw [] s2 s2 h0 n0 Z0) hZ (w 125 rfl) (w 5 rfl) (by decide) (by decide)) q17a q17c (g := (mkF m 53 #[.val (.ref r), .val (.int 2), .val (.ref lt), .val (.ref s1), .val (.ref s2), .val (.ref s3)] [(.ref s2), (.ref s2)])) rfl (by rw [hml]; rfl) (Steps.refl _) (argsL := [(.ref s2)]) (rest := []) (lenOf pd_10 rfl) rfl (by show 2 * 0 + _ ≤ _; exact Nat.le_of_eq rfl) (hb hby d18_53) (fun _ _ => ⟨rfl, e12, (by decide : 0 + 0 ≤ _), (by decide : 0 + 0 ≤ _)⟩)
 dsimp only [Pt.U, Pt.locs, Pt.cells, Pt.slots] at X17 l17 y17 z17 st17 hQ17
 subst l17 y17 z17
 obtain ⟨rfl, N17q, e17⟩ := hQ17
 have N17 := Fr.app N12 N17q
 have R18 := Rc.tr R16 st17
 have R19 : Rc p e below A0 (T17.setTop (mkF m 80 #[.val (.ref r), .val (.int 2), .val (.ref lt), .val (.ref s1), .val (.ref s2), .val (.ref s3)] [(.int 1)])) := by
   intro tgt hgo
   refine R18 tgt ?_
   show Steps p.tables e below (T17.setTop (mkF m 56 #[.val (.ref r), .val (.int 2), .val (.ref lt), .val (.ref s1), .val (.ref s2), .val (.ref s3)] [(.int 1)])) _
   refine XS.ifYes X17.here hx rfl (pc0 := 56) (pc' := 61) rfl (hb hby d18_56) rfl ((if0 _ _).trans (feq (by decide : ¬ ((1 : Int32) = (0 : Int32)))).2) (by decide) (by decide) ?_
   refine XS.iloadN X17.here hx rfl (hb hby d18_61) rfl ?_
   refine XS.iconst X17.here hx rfl (hb hby d18_62) ?_
   refine XS.icmpYes X17.here hx rfl (pc0 := 63) (pc' := 79) rfl (hb hby d18_63) rfl (tlt (by decide : (2 : Int32) < (3 : Int32))).1 (by decide) (by decide) ?_
   refine XS.iconst X17.here hx rfl (hb hby d18_79) ?_
   exact hgo
 subst hA0
 obtain ⟨fs, hr, hrun, hended, hW, hsame⟩ := X17.leave (v := some (.int 1)) (fun h => by rw [Bd.returns] at h; cases h)
 refine ⟨_, _, R19 _ ?_, hrun, hended, _, _, rfl, ?_, ⟨_, rfl⟩, hW, hsame.mono (by decide) (by decide)⟩
 ·show Steps p.tables e below (T17.setTop (mkF m 80 #[.val (.ref r), .val (.int 2), .val (.ref lt), .val (.ref s1), .val (.ref s2), .val (.ref s3)] [(.int 1)])) _
  exact retN X17 hx (t := .boolean) Bd.returns (by simp) (hb hby d18_80) hr
 ·show Qi 1 h0 n0 _ T17.heap _
  rw [e17]
  exact ⟨rfl, N17, rfl⟩
theorem ef_rm_ma3 (m : MethodId) (r : Addr) (lt : Addr) (s1 : Addr) (s2 : Addr) (s3 : Addr) : entryFrame m #[(.ref r), (.int (3 : Int32)), (.ref lt), (.ref s1), (.ref s2), (.ref s3)] 6 = mkF m 0 #[.val (.ref r), .val (.int (3 : Int32)), .val (.ref lt), .val (.ref s1), .val (.ref s2), .val (.ref s3)] [] := by first | (simp [entryFrame, mkF, argsToLocals, Value.category]; done) | rfl
theorem d18_66 : decode method_3_code 66 = .ok (.aload 5, 2) := by decide +kernel
theorem d18_68 : decode method_3_code 68 = .ok (.aload_n 0, 1) := by decide +kernel
theorem d18_69 : decode method_3_code 69 = .ok (.iconst 3, 1) := by decide +kernel
theorem d18_70 : decode method_3_code 70 = .ok (.aaload, 1) := by decide +kernel
theorem d18_71 : decode method_3_code 71 = .ok (.invokevirtual 16, 3) := by decide +kernel
theorem d18_74 : decode method_3_code 74 = .ok (.ifCond .ne 5, 3) := by decide +kernel
set_option maxRecDepth 65536 in
set_option maxHeartbeats 40000000 in
theorem rm_ma3 (l : Launch) (Z : State) (a0 : Array Value) (hw : ∀ d ∈ tables_1, d.before a0 Z = true) (ws : List Jvm.Cond) (r : Addr) (lt : Addr) (s1 : Addr) (s2 : Addr) (s3 : Addr) (tk : Addr) (zc : Int32) (bs : List Int32) (b1 b2 : Addr) (k1 k2 kr : ClassId) (h0 : Heap) (n0 : Nat) (Z0 : n0 ≤ h0.size) (X00 : Old Z n0 h0) (S_cs : Sta Z Z.heap "java/lang/String" "COMPACT_STRINGS" "Z" (.int zc)) (hz : ¬ zc = 0) (hbs : own_tok bs) (D1 : StrF Z h0 lt b1 k1 bs) (D2 : StrF Z h0 tk b2 k2 bs) (Vr : Arv Z h0 r kr (.object "java/lang/String") (4 : Int32) [(.ref tk), (.ref s1), (.ref s2), (.ref s3)] .null) (Es1 : Exa Z h0 s1 "java/lang/String") (Es2 : Exa Z h0 s2 "java/lang/String") (Es3 : Exa Z h0 s3 "java/lang/String") :
    MetFree l yn20 (head1 (Jvm.Cond.code yn20 method_3_code 6 (some .boolean) :: ws) ({ frames := 3, cells := 0, slots := 0, locals := 74 } : Room)) (fun a U => a = #[(.ref r), (.int (3 : Int32)), (.ref lt), (.ref s1), (.ref s2), (.ref s3)] ∧ Z.Warmed39 U.vm ∧ U.heap = h0) (fun _ _ _ _ _ => True) (fun _ U o U' => ∃ v L, o = .returned v ∧ Qi 1 h0 n0 v U'.heap L ∧ FrameEnd U o U' L ({ frames := 3, cells := 0, slots := 0, locals := 74 } : Room).cells ({ frames := 3, cells := 0, slots := 0, locals := 74 } : Room).slots) := by
 refine MetFree.of_bodySF (plainFor_of_name pn_com_example_verdict_ladder_verdictladder_lint_FindingLinePinLaw) hisR ?_
 intro p e s m args below meth c s₁ Bd hml0 hP hK
 obtain ⟨rfl, hZ, hh⟩ := hP
 have hx := Bd.exec
 have hby := Bd.bytes
 have hml : c.maxLocals = 6 := hml0
 have hown : s.vm.findClass "com/example/verdict_ladder/verdictladder/lint/FindingLinePinLaw" = some m.cls := findClass_of_methodNamed Bd.named
 have hnm := (name_of_methodNamed Bd.named Bd.method).1
 have X0 : Stand p l e ({ frames := 3, cells := 0, slots := 0, locals := 74 } : Room) s m #[(.ref r), (.int 3), (.ref lt), (.ref s1), (.ref s2), (.ref s3)] below meth c s₁ [] 0 0 := Stand.of_body Bd
 have e0 : s₁.heap = h0 := by rw [← hh, Bd.state]; rfl
 have N0 := Fr.nil n0
 obtain ⟨A0, hA0⟩ : ∃ A, A = s₁.setTop (entryFrame m #[(.ref r), (.int 3), (.ref lt), (.ref s1), (.ref s2), (.ref s3)] 6) := ⟨_, rfl⟩
 have R0 : ∀ tgt, Steps p.tables e below (s₁.setTop (mkF m 0 #[.val (.ref r), .val (.int 3), .val (.ref lt), .val (.ref s1), .val (.ref s2), .val (.ref s3)] [])) tgt → Steps p.tables e below A0 tgt := fun tgt hgo => by rw [hA0]; exact castTop (ef_rm_ma3 m r lt s1 s2 s3) hgo
 have w : ∀ (i : Nat) {d : Jvm.Cond}, tables_1[i]? = some d → d.before a0 Z = true := fun i d h => hw d (List.mem_of_getElem? h)
 have E1 := D1.1
 have R1 : Rc p e below A0 (s₁.setTop (mkF m 5 #[.val (.ref r), .val (.int 3), .val (.ref lt), .val (.ref s1), .val (.ref s2), .val (.ref s3)] [(.ref r)])) := by
   intro tgt hgo
   refine R0 tgt ?_
   show Steps p.tables e below (s₁.setTop (mkF m 0 #[.val (.ref r), .val (.int 3), .val (.ref lt), .val (.ref s1), .val (.ref s2), .val (.ref s3)] [])) _
   refine XS.aloadN X0.here hx rfl (hb hby d18_0) rfl rfl ?_
   refine XS.ifnullNo X0.here hx rfl (hb hby d18_1) rfl ?_
   refine XS.aloadN X0.here hx rfl (hb hby d18_4) rfl rfl ?_
   exact hgo
 obtain ⟨cl2, Ar2, -, S2, Nn2, -, -⟩ := id Vr
 have R3 : Rc p e below A0 (s₁.setTop (mkF m 6 #[.val (.ref r), .val (.int 3), .val (.ref lt), .val (.ref s1), .val (.ref s2), .val (.ref s3)] [(.int 4)])) := by
   intro tgt hgo
   refine R1 tgt ?_
   refine X0.arraylength hx (by rw [e0]; exact Ar2.1) (State.isArrayOf_alike hZ.alike Ar2.2.1) (g := (mkF m 5 #[.val (.ref r), .val (.int 3), .val (.ref lt), .val (.ref s1), .val (.ref s2), .val (.ref s3)] [(.ref r)])) rfl rfl (hb hby d18_5) _ ?_
   rw [len_of S2 Nn2]
   exact hgo
 have R4 : Rc p e below A0 (s₁.setTop (mkF m 17 #[.val (.ref r), .val (.int 3), .val (.ref lt), .val (.ref s1), .val (.ref s2), .val (.ref s3)] [(.int 0), (.ref r), (.ref lt)])) := by
   intro tgt hgo
   refine R3 tgt ?_
   show Steps p.tables e below (s₁.setTop (mkF m 6 #[.val (.ref r), .val (.int 3), .val (.ref lt), .val (.ref s1), .val (.ref s2), .val (.ref s3)] [(.int 4)])) _
   refine XS.iloadN X0.here hx rfl (hb hby d18_6) rfl ?_
   refine XS.iconst X0.here hx rfl (hb hby d18_7) ?_
   refine XS.iadd X0.here hx rfl (hb hby d18_8) rfl ?_
   refine XS.icmpYes X0.here hx rfl (pc0 := 9) (pc' := 14) rfl (hb hby d18_9) rfl (teq (by decide : (4 : Int32) = (4 : Int32))).1 (by decide) (by decide) ?_
   refine XS.aloadN X0.here hx rfl (hb hby d18_14) rfl rfl ?_
   refine XS.aloadN X0.here hx rfl (hb hby d18_15) rfl rfl ?_
   refine XS.iconst X0.here hx rfl (hb hby d18_16) ?_
   exact hgo
 obtain ⟨cl5, Ar5, q5, S5, Nn5, H5, G5⟩ := id Vr
 have hin5 : ¬ ((0 : Int32) < 0 ∨ cl5.slots.size ≤ ((0 : Int32)).toNatClampNeg) := inb_of S5 ⟨by decide, by decide⟩
 have hat5 : cl5.slots[((0 : Int32)).toNatClampNeg]? = some (.ref tk) := Has.at H5 hin5 rfl
 have R6 : Rc p e below A0 (s₁.setTop (mkF m 18 #[.val (.ref r), .val (.int 3), .val (.ref lt), .val (.ref s1), .val (.ref s2), .val (.ref s3)] [(.ref tk), (.ref lt)])) := by
   intro tgt hgo
   refine R4 tgt ?_
   refine X0.aaload hx (j := (0 : Int32)) (v := (.ref tk)) (by rw [e0]; exact Ar5.1) (State.isArrayOf_alike hZ.alike Ar5.2.1) rfl Ar5.2.2 hin5 hat5 (g := (mkF m 17 #[.val (.ref r), .val (.int 3), .val (.ref lt), .val (.ref s1), .val (.ref s2), .val (.ref s3)] [(.int 0), (.ref r), (.ref lt)])) rfl rfl (hb hby d18_17) _ ?_
   exact hgo
 obtain ⟨cq7, kq7, q7a, q7b, q7c⟩ := isOf hZ e0 E1
 obtain ⟨_, _, ⟨T7, L7, k7, n7⟩, -, X7, ⟨Lc7, hQ7, l7, y7, z7⟩, st7⟩ := X0.virtualBack hx (y := yn0) (z := yn0) hown (mvT hZ (w 121 rfl)) (mvT hZ (w 122 rfl)) (notFace_of_selects (args := #[]) (mvT hZ (w 124 rfl))) (mvT hZ (w 124 rfl)) (mvT hZ (w 123 rfl)) (by decide) (backOf (W := 0) (rm_eqt l Z a0 hw [] lt tk zc bs b1 b2 k1 k2 h0 n0 Z0 X00 S_cs hz hbs D1 D2) hZ (w 125 rfl) (w 5 rfl) (by decide) (by decide)) q7a q7c (g := (mkF m 18 #[.val (.ref r), .val (.int 3), .val (.ref lt), .val (.ref s1), .val (.ref s2), .val (.ref s3)] [(.ref tk), (.ref lt)])) rfl (by rw [hml]; rfl) (Steps.refl _) (argsL := [(.ref tk)]) (rest := []) (lenOf pd_10 rfl) rfl (by show 2 * 0 + _ ≤ _; exact Nat.le_of_eq rfl) (hb hby d18_18) (fun _ _ => ⟨rfl, e0, (by decide : 0 + 0 ≤ _), (by decide : 0 + 0 ≤ _)⟩)
 dsimp only [Pt.U, Pt.locs, Pt.cells, Pt.slots] at X7 l7 y7 z7 st7 hQ7
 subst l7 y7 z7
 obtain ⟨rfl, N7q, e7⟩ := hQ7
 have N7 := Fr.app N0 N7q
 have R8 := Rc.tr R6 st7
 have R9 : Rc p e below A0 (T7.setTop (mkF m 34 #[.val (.ref r), .val (.int 3), .val (.ref lt), .val (.ref s1), .val (.ref s2), .val (.ref s3)] [(.int 1), (.ref r), (.ref s1)])) := by
   intro tgt hgo
   refine R8 tgt ?_
   show Steps p.tables e below (T7.setTop (mkF m 21 #[.val (.ref r), .val (.int 3), .val (.ref lt), .val (.ref s1), .val (.ref s2), .val (.ref s3)] [(.int 1)])) _
   refine XS.ifYes X7.here hx rfl (pc0 := 21) (pc' := 26) rfl (hb hby d18_21) rfl ((if0 _ _).trans (feq (by decide : ¬ ((1 : Int32) = (0 : Int32)))).2) (by decide) (by decide) ?_
   refine XS.iloadN X7.here hx rfl (hb hby d18_26) rfl ?_
   refine XS.iconst X7.here hx rfl (hb hby d18_27) ?_
   refine XS.icmpNo X7.here hx rfl (hb hby d18_28) rfl (flt (by decide : ¬ ((3 : Int32) < (1 : Int32)))).1 ?_
   refine XS.aloadN X7.here hx rfl (hb hby d18_31) rfl rfl ?_
   refine XS.aloadN X7.here hx rfl (hb hby d18_32) rfl rfl ?_
   refine XS.iconst X7.here hx rfl (hb hby d18_33) ?_
   exact hgo
 obtain ⟨cl10, Ar10, q10, S10, Nn10, H10, G10⟩ := id Vr
 have hin10 : ¬ ((1 : Int32) < 0 ∨ cl10.slots.size ≤ ((1 : Int32)).toNatClampNeg) := inb_of S10 ⟨by decide, by decide⟩
 have hat10 : cl10.slots[((1 : Int32)).toNatClampNeg]? = some (.ref s1) := Has.at H10 hin10 rfl
 have R11 : Rc p e below A0 (T7.setTop (mkF m 35 #[.val (.ref r), .val (.int 3), .val (.ref lt), .val (.ref s1), .val (.ref s2), .val (.ref s3)] [(.ref s1), (.ref s1)])) := by
   intro tgt hgo
   refine R9 tgt ?_
   refine X7.aaload hx (j := (1 : Int32)) (v := (.ref s1)) (by rw [e7]; exact Ar10.1) (State.isArrayOf_alike hZ.alike Ar10.2.1) rfl Ar10.2.2 hin10 hat10 (g := (mkF m 34 #[.val (.ref r), .val (.int 3), .val (.ref lt), .val (.ref s1), .val (.ref s2), .val (.ref s3)] [(.int 1), (.ref r), (.ref s1)])) rfl rfl (hb hby d18_34) _ ?_
   exact hgo
 obtain ⟨cq12, kq12, q12a, q12b, q12c⟩ := isOf hZ e7 Es1
 obtain ⟨_, _, ⟨T12, L12, k12, n12⟩, -, X12, ⟨Lc12, hQ12, l12, y12, z12⟩, st12⟩ := X7.virtualBack hx (y := yn0) (z := yn0) hown (mvT hZ (w 121 rfl)) (mvT hZ (w 122 rfl)) (notFace_of_selects (args := #[]) (mvT hZ (w 124 rfl))) (mvT hZ (w 124 rfl)) (mvT hZ (w 123 rfl)) (by decide) (backOf (W := 0) (rm_eqs l Z a0 hw [] s1 s1 h0 n0 Z0) hZ (w 125 rfl) (w 5 rfl) (by decide) (by decide)) q12a q12c (g := (mkF m 35 #[.val (.ref r), .val (.int 3), .val (.ref lt), .val (.ref s1), .val (.ref s2), .val (.ref s3)] [(.ref s1), (.ref s1)])) rfl (by rw [hml]; rfl) (Steps.refl _) (argsL := [(.ref s1)]) (rest := []) (lenOf pd_10 rfl) rfl (by show 2 * 0 + _ ≤ _; exact Nat.le_of_eq rfl) (hb hby d18_35) (fun _ _ => ⟨rfl, e7, (by decide : 0 + 0 ≤ _), (by decide : 0 + 0 ≤ _)⟩)
 dsimp only [Pt.U, Pt.locs, Pt.cells, Pt.slots] at X12 l12 y12 z12 st12 hQ12
 subst l12 y12 z12
 obtain ⟨rfl, N12q, e12⟩ := hQ12
 have N12 := Fr.app N7 N12q
 have R13 := Rc.tr R11 st12
 have R14 : Rc p e below A0 (T12.setTop (mkF m 52 #[.val (.ref r), .val (.int 3), .val (.ref lt), .val (.ref s1), .val (.ref s2), .val (.ref s3)] [(.int 2), (.ref r), (.ref s2)])) := by
   intro tgt hgo
   refine R13 tgt ?_
   show Steps p.tables e below (T12.setTop (mkF m 38 #[.val (.ref r), .val (.int 3), .val (.ref lt), .val (.ref s1), .val (.ref s2), .val (.ref s3)] [(.int 1)])) _
   refine XS.ifYes X12.here hx rfl (pc0 := 38) (pc' := 43) rfl (hb hby d18_38) rfl ((if0 _ _).trans (feq (by decide : ¬ ((1 : Int32) = (0 : Int32)))).2) (by decide) (by decide) ?_
   refine XS.iloadN X12.here hx rfl (hb hby d18_43) rfl ?_
   refine XS.iconst X12.here hx rfl (hb hby d18_44) ?_
   refine XS.icmpNo X12.here hx rfl (hb hby d18_45) rfl (flt (by decide : ¬ ((3 : Int32) < (2 : Int32)))).1 ?_
   refine XS.aload X12.here hx rfl (hb hby d18_48) rfl rfl ?_
   refine XS.aloadN X12.here hx rfl (hb hby d18_50) rfl rfl ?_
   refine XS.iconst X12.here hx rfl (hb hby d18_51) ?_
   exact hgo
 obtain ⟨cl15, Ar15, q15, S15, Nn15, H15, G15⟩ := id Vr
 have hin15 : ¬ ((2 : Int32) < 0 ∨ cl15.slots.size ≤ ((2 : Int32)).toNatClampNeg) := inb_of S15 ⟨by decide, by decide⟩
 have hat15 : cl15.slots[((2 : Int32)).toNatClampNeg]? = some (.ref s2) := Has.at H15 hin15 rfl
 have R16 : Rc p e below A0 (T12.setTop (mkF m 53 #[.val (.ref r), .val (.int 3), .val (.ref lt), .val (.ref s1), .val (.ref s2), .val (.ref s3)] [(.ref s2), (.ref s2)])) := by
   intro tgt hgo
   refine R14 tgt ?_
   refine X12.aaload hx (j := (2 : Int32)) (v := (.ref s2)) (by rw [e12]; exact Ar15.1) (State.isArrayOf_alike hZ.alike Ar15.2.1) rfl Ar15.2.2 hin15 hat15 (g := (mkF m 52 #[.val (.ref r), .val (.int 3), .val (.ref lt), .val (.ref s1), .val (.ref s2), .val (.ref s3)] [(.int 2), (.ref r), (.ref s2)])) rfl rfl (hb hby d18_52) _ ?_
   exact hgo
 obtain ⟨cq17, kq17, q17a, q17b, q17c⟩ := isOf hZ e12 Es2
 obtain ⟨_, _, ⟨T17, L17, k17, n17⟩, -, X17, ⟨Lc17, hQ17, l17, y17, z17⟩, st17⟩ := X12.virtualBack hx (y := yn0) (z := yn0) hown (mvT hZ (w 121 rfl)) (mvT hZ (w 122 rfl)) (notFace_of_selects (args := #[]) (mvT hZ (w 124 rfl))) (mvT hZ (w 124 rfl)) (mvT hZ (w 123 rfl)) (by decide) (backOf (W := 0) (rm_eqs l Z a0 hw [] s2 s2 h0 n0 Z0) hZ (w 125 rfl) (w 5 rfl) (by decide) (by decide)) q17a q17c (g := (mkF m 53 #[.val (.ref r), .val (.int 3), .val (.ref lt), .val (.ref s1), .val (.ref s2), .val (.ref s3)] [(.ref s2), (.ref s2)])) rfl (by rw [hml]; rfl) (Steps.refl _) (argsL := [(.ref s2)]) (rest := []) (lenOf pd_10 rfl) rfl (by show 2 * 0 + _ ≤ _; exact Nat.le_of_eq rfl) (hb hby d18_53) (fun _ _ => ⟨rfl, e12, (by decide : 0 + 0 ≤ _), (by decide : 0 + 0 ≤ _)⟩)
 dsimp only [Pt.U, Pt.locs, Pt.cells, Pt.slots] at X17 l17 y17 z17 st17 hQ17
 subst l17 y17 z17
 obtain ⟨rfl, N17q, e17⟩ := hQ17
 have N17 := Fr.app N12 N17q
 have R18 := Rc.tr R16 st17
 have R19 : Rc p e below A0 (T17.setTop (mkF m 70 #[.val (.ref r), .val (.int 3), .val (.ref lt), .val (.ref s1), .val (.ref s2), .val (.ref s3)] [(.int 3), (.ref r), (.ref s3)])) := by
   intro tgt hgo
   refine R18 tgt ?_
   show Steps p.tables e below (T17.setTop (mkF m 56 #[.val (.ref r), .val (.int 3), .val (.ref lt), .val (.ref s1), .val (.ref s2), .val (.ref s3)] [(.int 1)])) _
   refine XS.ifYes X17.here hx rfl (pc0 := 56) (pc' := 61) rfl (hb hby d18_56) rfl ((if0 _ _).trans (feq (by decide : ¬ ((1 : Int32) = (0 : Int32)))).2) (by decide) (by decide) ?_
   refine XS.iloadN X17.here hx rfl (hb hby d18_61) rfl ?_
   refine XS.iconst X17.here hx rfl (hb hby d18_62) ?_
   refine XS.icmpNo X17.here hx rfl (hb hby d18_63) rfl (flt (by decide : ¬ ((3 : Int32) < (3 : Int32)))).1 ?_
   refine XS.aload X17.here hx rfl (hb hby d18_66) rfl rfl ?_
   refine XS.aloadN X17.here hx rfl (hb hby d18_68) rfl rfl ?_
   refine XS.iconst X17.here hx rfl (hb hby d18_69) ?_
   exact hgo
 obtain ⟨cl20, Ar20, q20, S20, Nn20, H20, G20⟩ := id Vr
 have hin20 : ¬ ((3 : Int32) < 0 ∨ cl20.slots.size ≤ ((3 : Int32)).toNatClampNeg) := inb_of S20 ⟨by decide, by decide⟩
 have hat20 : cl20.slots[((3 : Int32)).toNatClampNeg]? = some (.ref s3) := Has.at H20 hin20 rfl
 have R21 : Rc p e below A0 (T17.setTop (mkF m 71 #[.val (.ref r), .val (.int 3), .val (.ref lt), .val (.ref s1), .val (.ref s2), .val (.ref s3)] [(.ref s3), (.ref s3)])) := by
   intro tgt hgo
   refine R19 tgt ?_
   refine X17.aaload hx (j := (3 : Int32)) (v := (.ref s3)) (by rw [e17]; exact Ar20.1) (State.isArrayOf_alike hZ.alike Ar20.2.1) rfl Ar20.2.2 hin20 hat20 (g := (mkF m 70 #[.val (.ref r), .val (.int 3), .val (.ref lt), .val (.ref s1), .val (.ref s2), .val (.ref s3)] [(.int 3), (.ref r), (.ref s3)])) rfl rfl (hb hby d18_70) _ ?_
   exact hgo
 obtain ⟨cq22, kq22, q22a, q22b, q22c⟩ := isOf hZ e17 Es3
 obtain ⟨_, _, ⟨T22, L22, k22, n22⟩, -, X22, ⟨Lc22, hQ22, l22, y22, z22⟩, st22⟩ := X17.virtualBack hx (y := yn0) (z := yn0) hown (mvT hZ (w 121 rfl)) (mvT hZ (w 122 rfl)) (notFace_of_selects (args := #[]) (mvT hZ (w 124 rfl))) (mvT hZ (w 124 rfl)) (mvT hZ (w 123 rfl)) (by decide) (backOf (W := 0) (rm_eqs l Z a0 hw [] s3 s3 h0 n0 Z0) hZ (w 125 rfl) (w 5 rfl) (by decide) (by decide)) q22a q22c (g := (mkF m 71 #[.val (.ref r), .val (.int 3), .val (.ref lt), .val (.ref s1), .val (.ref s2), .val (.ref s3)] [(.ref s3), (.ref s3)])) rfl (by rw [hml]; rfl) (Steps.refl _) (argsL := [(.ref s3)]) (rest := []) (lenOf pd_10 rfl) rfl (by show 2 * 0 + _ ≤ _; exact Nat.le_of_eq rfl) (hb hby d18_71) (fun _ _ => ⟨rfl, e17, (by decide : 0 + 0 ≤ _), (by decide : 0 + 0 ≤ _)⟩)
 dsimp only [Pt.U, Pt.locs, Pt.cells, Pt.slots] at X22 l22 y22 z22 st22 hQ22
 subst l22 y22 z22
 obtain ⟨rfl, N22q, e22⟩ := hQ22
 have N22 := Fr.app N17 N22q
 have R23 := Rc.tr R21 st22
 have R24 : Rc p e below A0 (T22.setTop (mkF m 80 #[.val (.ref r), .val (.int 3), .val (.ref lt), .val (.ref s1), .val (.ref s2), .val (.ref s3)] [(.int 1)])) := by
   intro tgt hgo
   refine R23 tgt ?_
   show Steps p.tables e below (T22.setTop (mkF m 74 #[.val (.ref r), .val (.int 3), .val (.ref lt), .val (.ref s1), .val (.ref s2), .val (.ref s3)] [(.int 1)])) _
   refine XS.ifYes X22.here hx rfl (pc0 := 74) (pc' := 79) rfl (hb hby d18_74) rfl ((if0 _ _).trans (feq (by decide : ¬ ((1 : Int32) = (0 : Int32)))).2) (by decide) (by decide) ?_
   refine XS.iconst X22.here hx rfl (hb hby d18_79) ?_
   exact hgo
 subst hA0
 obtain ⟨fs, hr, hrun, hended, hW, hsame⟩ := X22.leave (v := some (.int 1)) (fun h => by rw [Bd.returns] at h; cases h)
 refine ⟨_, _, R24 _ ?_, hrun, hended, _, _, rfl, ?_, ⟨_, rfl⟩, hW, hsame.mono (by decide) (by decide)⟩
 ·show Steps p.tables e below (T22.setTop (mkF m 80 #[.val (.ref r), .val (.int 3), .val (.ref lt), .val (.ref s1), .val (.ref s2), .val (.ref s3)] [(.int 1)])) _
  exact retN X22 hx (t := .boolean) Bd.returns (by simp) (hb hby d18_80) hr
 ·show Qi 1 h0 n0 _ T22.heap _
  rw [e22]
  exact ⟨rfl, N22, rfl⟩
theorem own_ch255 {c : Int32} (h : own_ch c) : ¬ ((255 : Int32) < c) := by rw [Int32.lt_iff_toInt_lt, show (255 : Int32).toInt = 255 from by decide]; have := h.2; omega
theorem own_rngc (x c : Int32) (e : c = ((x &&& (255 : Int32)).toUInt32.toUInt16.toUInt32.toInt32)) : own_ch c := by
  have h1 := Jvm.Kit.i32_mask x (255 : Int32) (k := 8) (by decide) (by decide)
  rw [show ((x &&& (255 : Int32)).toUInt32.toUInt16.toUInt32.toInt32) = x &&& 255 from by simp only [i2c_mask]] at e
  unfold own_ch; rw [e, h1]; omega
theorem own_lat {c : Int32} (h : own_ch c) : ¬ c < 0 ∧ ¬ (255 : Int32) < c := ⟨by rw [Int32.lt_iff_toInt_lt, Int32.toInt_zero]; have := h.1; omega, own_ch255 h⟩
theorem own_ln3 (x n : Int32) (e : n = (x &&& (3 : Int32))) (h0 : ¬ n = 0) (h1 : ¬ n = 1) (h2 : ¬ n = 2) : n = 3 := by
  have q := Jvm.Kit.i32_mask x (3 : Int32) (k := 2) (by decide) (by decide)
  rw [← e] at q
  have g0 : n.toInt ≠ 0 := fun z => h0 (Int32.toInt_inj.mp z)
  have g1 : n.toInt ≠ 1 := fun z => h1 (Int32.toInt_inj.mp z)
  have g2 : n.toInt ≠ 2 := fun z => h2 (Int32.toInt_inj.mp z)
  refine Int32.toInt_inj.mp ?_
  show n.toInt = 3
  omega
abbrev yn21 : MethodName := ⟨"java/lang/StringLatin1", "canEncode", "(C)Z"⟩
theorem ef_rm_cen (m : MethodId) (p1 : Int32) : entryFrame m #[(.int p1)] 1 = mkF m 0 #[.val (.int p1)] [] := by first | (simp [entryFrame, mkF, argsToLocals, Value.category]; done) | rfl
theorem d19_0 : decode jdk_43_method_3_code 0 = .ok (.iload_n 0, 1) := by decide +kernel
theorem d19_1 : decode jdk_43_method_3_code 1 = .ok (.sipush 255, 3) := by decide +kernel
theorem d19_4 : decode jdk_43_method_3_code 4 = .ok (.if_icmp .gt 7, 3) := by decide +kernel
theorem d19_7 : decode jdk_43_method_3_code 7 = .ok (.iconst 1, 1) := by decide +kernel
theorem d19_8 : decode jdk_43_method_3_code 8 = .ok (.goto 4, 3) := by decide +kernel
theorem d19_12 : decode jdk_43_method_3_code 12 = .ok (.ireturn, 1) := by decide +kernel
set_option maxRecDepth 65536 in
set_option maxHeartbeats 40000000 in
theorem rm_cen (l : Launch) (Z : State) (a0 : Array Value) (hw : ∀ d ∈ tables_1, d.before a0 Z = true) (ws : List Jvm.Cond) (p1 : Int32) (h0 : Heap) (n0 : Nat) (Z0 : n0 ≤ h0.size) (hch : own_ch p1) :
    MetFree l yn21 (head1 (Jvm.Cond.code yn21 jdk_43_method_3_code 1 (some .boolean) :: ws) ({ frames := 0, cells := 0, slots := 0, locals := 0 } : Room)) (fun a U => a = #[(.int p1)] ∧ Z.Warmed39 U.vm ∧ U.heap = h0) (fun _ _ _ _ _ => True) (fun _ U o U' => ∃ v L, o = .returned v ∧ Qi 1 h0 n0 v U'.heap L ∧ FrameEnd U o U' L ({ frames := 0, cells := 0, slots := 0, locals := 0 } : Room).cells ({ frames := 0, cells := 0, slots := 0, locals := 0 } : Room).slots) := by
 refine MetFree.of_bodySF (plainFor_of_name pn_java_lang_StringLatin1) hisR ?_
 intro p e s m args below meth c s₁ Bd hml0 hP hK
 obtain ⟨rfl, hZ, hh⟩ := hP
 have hx := Bd.exec
 have hby := Bd.bytes
 have hml : c.maxLocals = 1 := hml0
 have hown : s.vm.findClass "java/lang/StringLatin1" = some m.cls := findClass_of_methodNamed Bd.named
 have hnm := (name_of_methodNamed Bd.named Bd.method).1
 have X0 : Stand p l e ({ frames := 0, cells := 0, slots := 0, locals := 0 } : Room) s m #[(.int p1)] below meth c s₁ [] 0 0 := Stand.of_body Bd
 have e0 : s₁.heap = h0 := by rw [← hh, Bd.state]; rfl
 have N0 := Fr.nil n0
 obtain ⟨A0, hA0⟩ : ∃ A, A = s₁.setTop (entryFrame m #[(.int p1)] 1) := ⟨_, rfl⟩
 have R0 : ∀ tgt, Steps p.tables e below (s₁.setTop (mkF m 0 #[.val (.int p1)] [])) tgt → Steps p.tables e below A0 tgt := fun tgt hgo => by rw [hA0]; exact castTop (ef_rm_cen m p1) hgo
 have w : ∀ (i : Nat) {d : Jvm.Cond}, tables_1[i]? = some d → d.before a0 Z = true := fun i d h => hw d (List.mem_of_getElem? h)
 have R1 : Rc p e below A0 (s₁.setTop (mkF m 12 #[.val (.int p1)] [(.int 1)])) := by
   intro tgt hgo
   refine R0 tgt ?_
   show Steps p.tables e below (s₁.setTop (mkF m 0 #[.val (.int p1)] [])) _
   refine XS.iloadN X0.here hx rfl (hb hby d19_0) rfl ?_
   refine XS.sipush X0.here hx rfl (hb hby d19_1) ?_
   refine XS.icmpNo X0.here hx rfl (hb hby d19_4) rfl (flt (own_ch255 hch : ¬ ((255 : Int32) < p1))).2.2.1 ?_
   refine XS.iconst X0.here hx rfl (hb hby d19_7) ?_
   refine XS.goto X0.here hx rfl (pc0 := 8) (pc' := 12) rfl (hb hby d19_8) (by decide) (by decide) ?_
   exact hgo
 subst hA0
 obtain ⟨fs, hr, hrun, hended, hW, hsame⟩ := X0.leave (v := some (.int 1)) (fun h => by rw [Bd.returns] at h; cases h)
 refine ⟨_, _, R1 _ ?_, hrun, hended, _, _, rfl, ?_, ⟨_, rfl⟩, hW, hsame.mono (by decide) (by decide)⟩
 ·show Steps p.tables e below (s₁.setTop (mkF m 12 #[.val (.int p1)] [(.int 1)])) _
  exact retN X0 hx (t := .boolean) Bd.returns (by simp) (hb hby d19_12) hr
 ·show Qi 1 h0 n0 _ s₁.heap _
  rw [e0]
  exact ⟨rfl, N0, rfl⟩
def Qtb (h0 : Heap) (n0 : Nat) (v : Option Value) (h : Heap) (L : List Loc) : Prop := (∃ x : Addr, v = some (.ref x)) ∧ Fr n0 L ∧ Keep h0 h []
def Qst (Z : State) (h0 : Heap) (n0 : Nat) (v : Option Value) (h : Heap) (L : List Loc) : Prop := (∃ x : Addr, v = some (.ref x) ∧ h0.size ≤ x ∧ n0 ≤ x ∧ Exa Z h x "java/lang/String") ∧ Fr n0 L ∧ Keep h0 h []
def Qem (a1 : Addr) (h0 : Heap) (n0 : Nat) (v : Option Value) (h : Heap) (L : List Loc) : Prop := v = none ∧ Fr n0 L ∧ Keep h0 h [a1]
abbrev yn22 : MethodName := ⟨"java/lang/StringLatin1", "toBytes", "(C)[B"⟩
theorem ef_rm_tb (m : MethodId) (p1 : Int32) : entryFrame m #[(.int p1)] 1 = mkF m 0 #[.val (.int p1)] [] := by first | (simp [entryFrame, mkF, argsToLocals, Value.category]; done) | rfl
theorem d20_0 : decode jdk_43_method_46_code 0 = .ok (.iconst 1, 1) := by decide +kernel
theorem d20_1 : decode jdk_43_method_46_code 1 = .ok (.newarray .byte, 2) := by decide +kernel
theorem d20_3 : decode jdk_43_method_46_code 3 = .ok (.dup, 1) := by decide +kernel
theorem d20_4 : decode jdk_43_method_46_code 4 = .ok (.iconst 0, 1) := by decide +kernel
theorem d20_5 : decode jdk_43_method_46_code 5 = .ok (.iload_n 0, 1) := by decide +kernel
theorem d20_6 : decode jdk_43_method_46_code 6 = .ok (.i2b, 1) := by decide +kernel
theorem d20_7 : decode jdk_43_method_46_code 7 = .ok (.bastore, 1) := by decide +kernel
theorem d20_8 : decode jdk_43_method_46_code 8 = .ok (.areturn, 1) := by decide +kernel
set_option maxRecDepth 65536 in
set_option maxHeartbeats 40000000 in
theorem rm_tb (l : Launch) (Z : State) (a0 : Array Value) (hw : ∀ d ∈ tables_1, d.before a0 Z = true) (ws : List Jvm.Cond) (p1 : Int32) (h0 : Heap) (n0 : Nat) (Z0 : n0 ≤ h0.size) :
    MetFree l yn22 (head1 (Jvm.Cond.code yn22 jdk_43_method_46_code 1 (some (.array .byte)) :: ws) ({ frames := 0, cells := 1, slots := 1, locals := 0 } : Room)) (fun a U => a = #[(.int p1)] ∧ Z.Warmed39 U.vm ∧ U.heap = h0) (fun _ _ _ _ _ => True) (fun _ U o U' => ∃ v L, o = .returned v ∧ Qtb h0 n0 v U'.heap L ∧ FrameEnd U o U' L ({ frames := 0, cells := 1, slots := 1, locals := 0 } : Room).cells ({ frames := 0, cells := 1, slots := 1, locals := 0 } : Room).slots) := by
 refine MetFree.of_bodySF (plainFor_of_name pn_java_lang_StringLatin1) hisR ?_
 intro p e s m args below meth c s₁ Bd hml0 hP hK
 obtain ⟨rfl, hZ, hh⟩ := hP
 have hx := Bd.exec
 have hby := Bd.bytes
 have hml : c.maxLocals = 1 := hml0
 have hown : s.vm.findClass "java/lang/StringLatin1" = some m.cls := findClass_of_methodNamed Bd.named
 have hnm := (name_of_methodNamed Bd.named Bd.method).1
 have X0 : Stand p l e ({ frames := 0, cells := 1, slots := 1, locals := 0 } : Room) s m #[(.int p1)] below meth c s₁ [] 0 0 := Stand.of_body Bd
 have e0 : s₁.heap = h0 := by rw [← hh, Bd.state]; rfl
 have N0 := Fr.nil n0
 obtain ⟨A0, hA0⟩ : ∃ A, A = s₁.setTop (entryFrame m #[(.int p1)] 1) := ⟨_, rfl⟩
 have R0 : ∀ tgt, Steps p.tables e below (s₁.setTop (mkF m 0 #[.val (.int p1)] [])) tgt → Steps p.tables e below A0 tgt := fun tgt hgo => by rw [hA0]; exact castTop (ef_rm_tb m p1) hgo
 have w : ∀ (i : Nat) {d : Jvm.Cond}, tables_1[i]? = some d → d.before a0 Z = true := fun i d h => hw d (List.mem_of_getElem? h)
 have hZn := Z0
 have hK : Keep h0 h0 [] := Keep.refl _ _
 have R1 : Rc p e below A0 (s₁.setTop (mkF m 1 #[.val (.int p1)] [(.int 1)])) := by
   intro tgt hgo
   refine R0 tgt ?_
   show Steps p.tables e below (s₁.setTop (mkF m 0 #[.val (.int p1)] [])) _
   refine XS.iconst X0.here hx rfl (hb hby d20_0) ?_
   exact hgo
 obtain ⟨T2, h2, k2, X2, e2, E2, A2, st2⟩ := newP X0 hx hZ (w 7 rfl) e0 (g := (mkF m 1 #[.val (.int p1)] [(.int 1)])) rfl (hb hby d20_1) rfl (by decide) (cap := 1) (by decide) (by decide) (by decide) (by decide)
 obtain ⟨tb, g2⟩ : ∃ z, z = h0.size := ⟨_, rfl⟩
 rw [← g2] at A2 st2
 have ge_tb : n0 ≤ tb := Nat.le_trans hZn (Nat.le_of_eq g2.symm)
 have sz_tb : h0.size ≤ tb := Nat.le_trans hK.1 (Nat.le_of_eq g2.symm)
 replace hZn := Nat.le_trans hZn E2.1
 replace hK := hK.ext E2
 have V_tb : Arv Z h2 tb k2 .byte (1 : Int32) [(.int 0)] (.int 0) := (Arv.new A2 (by decide)).pad (pad_rep [] (.int 0) 1)
 have R3 := Rc.st R1 st2
 have R4 : Rc p e below A0 (T2.setTop (mkF m 7 #[.val (.int p1)] [(.int (p1.toInt8.toInt32)), (.int 0), (.ref tb), (.ref tb)])) := by
   intro tgt hgo
   refine R3 tgt ?_
   show Steps p.tables e below (T2.setTop (mkF m 3 #[.val (.int p1)] [(.ref tb)])) _
   refine XS.dup X2.here hx rfl (hb hby d20_3) rfl rfl ?_
   refine XS.iconst X2.here hx rfl (hb hby d20_4) ?_
   refine XS.iloadN X2.here hx rfl (hb hby d20_5) rfl ?_
   refine XS.i2b X2.here hx rfl (hb hby d20_6) rfl ?_
   exact hgo
 obtain ⟨cl5, Ar5, q5, S5, Nn5, H5, G5⟩ := V_tb
 have hin5 : ¬ ((0 : Int32) < 0 ∨ cl5.slots.size ≤ ((0 : Int32)).toNatClampNeg) := inb_of S5 ⟨by decide, by decide⟩
 obtain ⟨T5, h5, X5, e5, W5, st5⟩ := stB X2 hx hZ e2 Ar5 (j := (0 : Int32)) hin5 (g := (mkF m 7 #[.val (.int p1)] [(.int (p1.toInt8.toInt32)), (.int 0), (.ref tb), (.ref tb)])) rfl rfl (hb hby d20_7)
 replace hZn := Nat.le_trans hZn (Keep.of_wr W5).1
 replace hK := hK.wr W5 (Or.inr sz_tb)
 have V_tb : Arv Z h5 tb k2 .byte (1 : Int32) [(.int (nar .byte (p1.toInt8.toInt32)))] (.int 0) := Arv.set Ar5 q5 S5 Nn5 H5 G5 (fits_nar_byte _) W5 0 rfl (Nat.le_of_ble_eq_true rfl)
 have N5 := Fr.snoc X5 N0 ge_tb
 have R6 := Rc.st R4 st5
 subst hA0
 obtain ⟨fs, hr, hrun, hended, hW, hsame⟩ := X5.leave (v := some (.ref tb)) (fun h => by rw [Bd.returns] at h; cases h)
 refine ⟨_, _, R6 _ ?_, hrun, hended, _, _, rfl, ?_, ⟨_, rfl⟩, hW, hsame.mono (by decide) (by decide)⟩
 ·show Steps p.tables e below (T5.setTop (mkF m 8 #[.val (.int p1)] [(.ref tb)])) _
  jvm_step X5.here [X5.here.top, hx, (hb hby d20_8), X5.method', Bd.returns, Value.isRef, FieldType.isReference]
  first | (intro acts; rw [hr _ acts rfl rfl rfl]) | rw [hr _ _ rfl rfl rfl]
  exact Steps.refl _
 ·show Qtb h0 n0 _ T5.heap _
  rw [e5]
  exact ⟨⟨_, rfl⟩, N5, hK⟩
abbrev yn23 : MethodName := ⟨"java/lang/String", "<init>", "([BB)V"⟩
theorem ef_rm_ib (m : MethodId) (a1 : Addr) (a2 : Addr) : entryFrame m #[(.ref a1), (.ref a2), (.int (0 : Int32))] 3 = mkF m 0 #[.val (.ref a1), .val (.ref a2), .val (.int (0 : Int32))] [] := by first | (simp [entryFrame, mkF, argsToLocals, Value.category]; done) | rfl
theorem d21_0 : decode jdk_42_method_151_code 0 = .ok (.aload_n 0, 1) := by decide +kernel
theorem d21_1 : decode jdk_42_method_151_code 1 = .ok (.invokespecial 1, 3) := by decide +kernel
theorem d21_4 : decode jdk_42_method_151_code 4 = .ok (.aload_n 0, 1) := by decide +kernel
theorem d21_5 : decode jdk_42_method_151_code 5 = .ok (.aload_n 1, 1) := by decide +kernel
theorem d21_6 : decode jdk_42_method_151_code 6 = .ok (.putfield 9, 3) := by decide +kernel
theorem d21_9 : decode jdk_42_method_151_code 9 = .ok (.aload_n 0, 1) := by decide +kernel
theorem d21_10 : decode jdk_42_method_151_code 10 = .ok (.iload_n 2, 1) := by decide +kernel
theorem d21_11 : decode jdk_42_method_151_code 11 = .ok (.putfield 15, 3) := by decide +kernel
theorem d21_14 : decode jdk_42_method_151_code 14 = .ok (.return_, 1) := by decide +kernel
set_option maxRecDepth 65536 in
set_option maxHeartbeats 40000000 in
theorem rm_ib (l : Launch) (Z : State) (a0 : Array Value) (hw : ∀ d ∈ tables_1, d.before a0 Z = true) (ws : List Jvm.Cond) (a1 : Addr) (a2 : Addr) (h0 : Heap) (n0 : Nat) (Z0 : n0 ≤ h0.size) (ge1 : n0 ≤ a1) (E1 : Exa Z h0 a1 "java/lang/String") (Fv : Fld Z h0 a1 "java/lang/String" "value" "[B" .null) (Fd : Fld Z h0 a1 "java/lang/String" "coder" "B" (.int 0)) :
    MetFree l yn23 (head1 (Jvm.Cond.code yn23 jdk_42_method_151_code 3 none :: ws) ({ frames := 1, cells := 0, slots := 0, locals := 12 } : Room)) (fun a U => a = #[(.ref a1), (.ref a2), (.int (0 : Int32))] ∧ Z.Warmed39 U.vm ∧ U.heap = h0) (fun _ _ _ _ _ => True) (fun _ U o U' => ∃ v L, o = .returned v ∧ Qem a1 h0 n0 v U'.heap L ∧ FrameEnd U o U' L ({ frames := 1, cells := 0, slots := 0, locals := 12 } : Room).cells ({ frames := 1, cells := 0, slots := 0, locals := 12 } : Room).slots) := by
 refine MetFree.of_bodySF (plainFor_of_name pn_java_lang_String) hisR ?_
 intro p e s m args below meth c s₁ Bd hml0 hP hK
 obtain ⟨rfl, hZ, hh⟩ := hP
 have hx := Bd.exec
 have hby := Bd.bytes
 have hml : c.maxLocals = 3 := hml0
 have hown : s.vm.findClass "java/lang/String" = some m.cls := findClass_of_methodNamed Bd.named
 have hnm := (name_of_methodNamed Bd.named Bd.method).1
 have X0 : Stand p l e ({ frames := 1, cells := 0, slots := 0, locals := 12 } : Room) s m #[(.ref a1), (.ref a2), (.int 0)] below meth c s₁ [] 0 0 := Stand.of_body Bd
 have e0 : s₁.heap = h0 := by rw [← hh, Bd.state]; rfl
 have N0 := Fr.nil n0
 obtain ⟨A0, hA0⟩ : ∃ A, A = s₁.setTop (entryFrame m #[(.ref a1), (.ref a2), (.int 0)] 3) := ⟨_, rfl⟩
 have R0 : ∀ tgt, Steps p.tables e below (s₁.setTop (mkF m 0 #[.val (.ref a1), .val (.ref a2), .val (.int 0)] [])) tgt → Steps p.tables e below A0 tgt := fun tgt hgo => by rw [hA0]; exact castTop (ef_rm_ib m a1 a2) hgo
 have w : ∀ (i : Nat) {d : Jvm.Cond}, tables_1[i]? = some d → d.before a0 Z = true := fun i d h => hw d (List.mem_of_getElem? h)
 have hZn := Z0
 have hK : Keep h0 h0 [a1] := Keep.refl _ _
 have R1 : Rc p e below A0 (s₁.setTop (mkF m 1 #[.val (.ref a1), .val (.ref a2), .val (.int 0)] [(.ref a1)])) := by
   intro tgt hgo
   refine R0 tgt ?_
   show Steps p.tables e below (s₁.setTop (mkF m 0 #[.val (.ref a1), .val (.ref a2), .val (.int 0)] [])) _
   refine XS.aloadN X0.here hx rfl (hb hby d21_0) rfl rfl ?_
   exact hgo
 obtain ⟨T2, X2, e2, st2⟩ := initO X0 hx hZ hown (w 25 rfl) (w 26 rfl) (w 27 rfl) e0 (g := (mkF m 1 #[.val (.ref a1), .val (.ref a2), .val (.int 0)] [(.ref a1)])) rfl (by rw [hml]; rfl) rfl (hb hby d21_1) (by decide) (W := 0) (by show 2 * 0 + _ ≤ _; exact Nat.le_of_eq rfl) (by decide)
 have R3 := Rc.st R1 st2
 have R4 : Rc p e below A0 (T2.setTop (mkF m 6 #[.val (.ref a1), .val (.ref a2), .val (.int 0)] [(.ref a2), (.ref a1)])) := by
   intro tgt hgo
   refine R3 tgt ?_
   show Steps p.tables e below (T2.setTop (mkF m 4 #[.val (.ref a1), .val (.ref a2), .val (.int 0)] [])) _
   refine XS.aloadN X2.here hx rfl (hb hby d21_4) rfl rfl ?_
   refine XS.aloadN X2.here hx rfl (hb hby d21_5) rfl rfl ?_
   exact hgo
 obtain ⟨T5, h5, X5, e5, W5, st5⟩ := putF X2 hx hZ hown (host := "") (Or.inl (w 29 rfl)) Via.refl e2 Fv E1 (Or.inr ⟨(w 8 rfl), rfl, hnm⟩) (w 6 rfl) (ty := (.array .byte)) (by decide) rfl rfl (g := (mkF m 6 #[.val (.ref a1), .val (.ref a2), .val (.int 0)] [(.ref a2), (.ref a1)])) rfl rfl (hb hby d21_6)
 have N5 := Fr.snoc X5 N0 ge1
 replace hZn := Nat.le_trans hZn (Keep.of_wr W5).1
 replace hK := hK.wr W5 (Or.inl (List.mem_of_getElem? (i := 0) rfl))
 replace E1 := E1.wr W5
 replace Fv := Fv.same W5
 replace Fd := Fd.other W5 (Or.inr (slot_ne (Or.inr (w 9 rfl)) (Or.inr (w 8 rfl)) (by decide) (t := .byte) (t' := (.array .byte)) (by decide) (by decide)))
 have R6 := Rc.st R4 st5
 have R7 : Rc p e below A0 (T5.setTop (mkF m 11 #[.val (.ref a1), .val (.ref a2), .val (.int 0)] [(.int 0), (.ref a1)])) := by
   intro tgt hgo
   refine R6 tgt ?_
   show Steps p.tables e below (T5.setTop (mkF m 9 #[.val (.ref a1), .val (.ref a2), .val (.int 0)] [])) _
   refine XS.aloadN X5.here hx rfl (hb hby d21_9) rfl rfl ?_
   refine XS.iloadN X5.here hx rfl (hb hby d21_10) rfl ?_
   exact hgo
 obtain ⟨T8, h8, X8, e8, W8, st8⟩ := putFN X5 hx hZ hown (w 30 rfl) Via.refl e5 Fd E1 (Or.inr ⟨(w 9 rfl), rfl, hnm⟩) (w 6 rfl) (ty := .byte) (v' := (.int 0)) (by decide) rfl (by decide) (g := (mkF m 11 #[.val (.ref a1), .val (.ref a2), .val (.int 0)] [(.int 0), (.ref a1)])) rfl rfl (hb hby d21_11)
 have N8 := Fr.snoc X8 N5 ge1
 replace hZn := Nat.le_trans hZn (Keep.of_wr W8).1
 replace hK := hK.wr W8 (Or.inl (List.mem_of_getElem? (i := 0) rfl))
 replace E1 := E1.wr W8
 replace Fv := Fv.other W8 (Or.inr (slot_ne (Or.inr (w 8 rfl)) (Or.inr (w 9 rfl)) (by decide) (t := (.array .byte)) (t' := .byte) (by decide) (by decide)))
 replace Fd := Fd.same W8
 have R9 := Rc.st R7 st8
 subst hA0
 obtain ⟨fs, hr, hrun, hended, hW, hsame⟩ := X8.leave (v := none) (fun _ => rfl)
 refine ⟨_, _, R9 _ ?_, hrun, hended, _, _, rfl, ?_, ⟨_, rfl⟩, hW, hsame.mono (by decide) (by decide)⟩
 ·show Steps p.tables e below (T8.setTop (mkF m 14 #[.val (.ref a1), .val (.ref a2), .val (.int 0)] [])) _
  exact X8.returnOut hx Bd.returns (hb hby d21_14) hr
 ·show Qem a1 h0 n0 _ T8.heap _
  rw [e8]
  exact ⟨rfl, N8, hK⟩
abbrev yn24 : MethodName := ⟨"java/lang/String", "valueOf", "(C)Ljava/lang/String;"⟩
theorem ef_rm_vo (m : MethodId) (p1 : Int32) : entryFrame m #[(.int p1)] 1 = mkF m 0 #[.val (.int p1)] [] := by first | (simp [entryFrame, mkF, argsToLocals, Value.category]; done) | rfl
theorem d22_0 : decode jdk_42_method_139_code 0 = .ok (.getstatic 38, 3) := by decide +kernel
theorem d22_3 : decode jdk_42_method_139_code 3 = .ok (.ifCond .eq 23, 3) := by decide +kernel
theorem d22_6 : decode jdk_42_method_139_code 6 = .ok (.iload_n 0, 1) := by decide +kernel
theorem d22_7 : decode jdk_42_method_139_code 7 = .ok (.invokestatic 1015, 3) := by decide +kernel
theorem pd_11 : parseMethodDescriptor "(C)Z" = some ⟨[.char], some .boolean⟩ := by decide +kernel
theorem d22_10 : decode jdk_42_method_139_code 10 = .ok (.ifCond .eq 16, 3) := by decide +kernel
theorem d22_13 : decode jdk_42_method_139_code 13 = .ok (.new 10, 3) := by decide +kernel
theorem d22_16 : decode jdk_42_method_139_code 16 = .ok (.dup, 1) := by decide +kernel
theorem d22_17 : decode jdk_42_method_139_code 17 = .ok (.iload_n 0, 1) := by decide +kernel
theorem d22_18 : decode jdk_42_method_139_code 18 = .ok (.invokestatic 1018, 3) := by decide +kernel
theorem pd_12 : parseMethodDescriptor "(C)[B" = some ⟨[.char], some (.array .byte)⟩ := by decide +kernel
theorem d22_21 : decode jdk_42_method_139_code 21 = .ok (.iconst 0, 1) := by decide +kernel
theorem d22_22 : decode jdk_42_method_139_code 22 = .ok (.invokespecial 209, 3) := by decide +kernel
theorem pd_13 : parseMethodDescriptor "([BB)V" = some ⟨[(.array .byte), .byte], none⟩ := by decide +kernel
theorem d22_25 : decode jdk_42_method_139_code 25 = .ok (.areturn, 1) := by decide +kernel
set_option maxRecDepth 65536 in
set_option maxHeartbeats 40000000 in
theorem rm_vo (l : Launch) (Z : State) (a0 : Array Value) (hw : ∀ d ∈ tables_1, d.before a0 Z = true) (ws : List Jvm.Cond) (p1 : Int32) (zc : Int32) (h0 : Heap) (n0 : Nat) (Z0 : n0 ≤ h0.size) (X00 : Old Z n0 h0) (S_cs : Sta Z Z.heap "java/lang/String" "COMPACT_STRINGS" "Z" (.int zc)) (hz : ¬ zc = 0) (hch : own_ch p1) :
    MetFree l yn24 (head1 (Jvm.Cond.code yn24 jdk_42_method_139_code 1 (some (.object "java/lang/String")) :: ws) ({ frames := 2, cells := 2, slots := 5, locals := 27 } : Room)) (fun a U => a = #[(.int p1)] ∧ Z.Warmed39 U.vm ∧ U.heap = h0) (fun _ _ _ _ _ => True) (fun _ U o U' => ∃ v L, o = .returned v ∧ Qst Z h0 n0 v U'.heap L ∧ FrameEnd U o U' L ({ frames := 2, cells := 2, slots := 5, locals := 27 } : Room).cells ({ frames := 2, cells := 2, slots := 5, locals := 27 } : Room).slots) := by
 refine MetFree.of_bodySF (plainFor_of_name pn_java_lang_String) hisR ?_
 intro p e s m args below meth c s₁ Bd hml0 hP hK
 obtain ⟨rfl, hZ, hh⟩ := hP
 have hx := Bd.exec
 have hby := Bd.bytes
 have hml : c.maxLocals = 1 := hml0
 have hown : s.vm.findClass "java/lang/String" = some m.cls := findClass_of_methodNamed Bd.named
 have hnm := (name_of_methodNamed Bd.named Bd.method).1
 have X0 : Stand p l e ({ frames := 2, cells := 2, slots := 5, locals := 27 } : Room) s m #[(.int p1)] below meth c s₁ [] 0 0 := Stand.of_body Bd
 have e0 : s₁.heap = h0 := by rw [← hh, Bd.state]; rfl
 have N0 := Fr.nil n0
 obtain ⟨A0, hA0⟩ : ∃ A, A = s₁.setTop (entryFrame m #[(.int p1)] 1) := ⟨_, rfl⟩
 have R0 : ∀ tgt, Steps p.tables e below (s₁.setTop (mkF m 0 #[.val (.int p1)] [])) tgt → Steps p.tables e below A0 tgt := fun tgt hgo => by rw [hA0]; exact castTop (ef_rm_vo m p1) hgo
 have w : ∀ (i : Nat) {d : Jvm.Cond}, tables_1[i]? = some d → d.before a0 Z = true := fun i d h => hw d (List.mem_of_getElem? h)
 have hZn := Z0
 have hK : Keep h0 h0 [] := Keep.refl _ _
 have hOld := X00
 obtain ⟨T1, X1, e1, st1⟩ := getS2 X0 hx hZ hown (host := "") (Or.inl (w 127 rfl)) Via.refl e0 (S_cs.ext hOld.2) (g := (mkF m 0 #[.val (.int p1)] [])) rfl (hb hby d22_0)
 have R2 := Rc.st R0 st1
 have R3 : Rc p e below A0 (T1.setTop (mkF m 7 #[.val (.int p1)] [(.int p1)])) := by
   intro tgt hgo
   refine R2 tgt ?_
   show Steps p.tables e below (T1.setTop (mkF m 3 #[.val (.int p1)] [(.int zc)])) _
   refine XS.ifNo X1.here hx rfl (hb hby d22_3) rfl ((if0 _ _).trans (feq (hz : ¬ (zc = (0 : Int32)))).1) ?_
   refine XS.iloadN X1.here hx rfl (hb hby d22_6) rfl ?_
   exact hgo
 obtain ⟨_, _, ⟨T4, L4, k4, n4⟩, -, X4, ⟨Lc4, hQ4, l4, y4, z4⟩, st4⟩ := Jvm.LawKit.callS X1 hx (y := yn21) hown (mvT hZ (w 180 rfl)) (mvT hZ (w 181 rfl)) (mvT hZ (w 130 rfl)) (mvT hZ (w 182 rfl)) (by decide) (backOf (W := 0) (rm_cen l Z a0 hw [] p1 h0 n0 hZn hch) hZ (w 182 rfl) (w 130 rfl) (by decide) (by decide)) (g := (mkF m 7 #[.val (.int p1)] [(.int p1)])) rfl (by rw [hml]; rfl) (argsL := [(.int p1)]) (rest := []) (lenOf pd_11 rfl) rfl (by show 2 * 0 + _ ≤ _; exact Nat.le_of_eq rfl) (hb hby d22_7) (fun _ _ => ⟨rfl, e1, (by decide : 0 + 0 ≤ _), (by decide : 0 + 0 ≤ _)⟩)
 dsimp only [Pt.U, Pt.locs, Pt.cells, Pt.slots] at X4 l4 y4 z4 st4 hQ4
 subst l4 y4 z4
 obtain ⟨rfl, N4q, e4⟩ := hQ4
 have N4 := Fr.app N0 N4q
 have R5 := Rc.st R3 st4
 have R6 : Rc p e below A0 (T4.setTop (mkF m 13 #[.val (.int p1)] [])) := by
   intro tgt hgo
   refine R5 tgt ?_
   show Steps p.tables e below (T4.setTop (mkF m 10 #[.val (.int p1)] [(.int 1)])) _
   refine XS.ifNo X4.here hx rfl (hb hby d22_10) rfl ((if0 _ _).trans (feq (by decide : ¬ ((1 : Int32) = (0 : Int32)))).1) ?_
   exact hgo
 obtain ⟨T7, h7, X7, e7, E7, A7, D7, -, st7⟩ := newO X4 hx hZ hown (w 126 rfl) (w 6 rfl) (w 5 rfl) e4 (g := (mkF m 13 #[.val (.int p1)] [])) rfl (hb hby d22_13) (by decide) (by decide)
 obtain ⟨str, g7⟩ : ∃ z, z = h0.size := ⟨_, rfl⟩
 rw [← g7] at A7 D7 st7
 have ge_str : n0 ≤ str := Nat.le_trans hZn (Nat.le_of_eq g7.symm)
 have sz_str : h0.size ≤ str := Nat.le_trans hK.1 (Nat.le_of_eq g7.symm)
 replace hZn := Nat.le_trans hZn E7.1
 replace hK := hK.ext E7
 replace hOld := hOld.ext E7
 have E_str := A7
 have F_value_str : Fld Z h7 str "java/lang/String" "value" "[B" .null := D7 (Or.inr (w 8 rfl)) (ty := (.array .byte)) (by decide)
 have F_coder_str : Fld Z h7 str "java/lang/String" "coder" "B" (.int 0) := D7 (Or.inr (w 9 rfl)) (ty := .byte) (by decide)
 have R8 := Rc.st R6 st7
 have R9 : Rc p e below A0 (T7.setTop (mkF m 18 #[.val (.int p1)] [(.int p1), (.ref str), (.ref str)])) := by
   intro tgt hgo
   refine R8 tgt ?_
   show Steps p.tables e below (T7.setTop (mkF m 16 #[.val (.int p1)] [(.ref str)])) _
   refine XS.dup X7.here hx rfl (hb hby d22_16) rfl rfl ?_
   refine XS.iloadN X7.here hx rfl (hb hby d22_17) rfl ?_
   exact hgo
 obtain ⟨_, _, ⟨T10, L10, k10, n10⟩, -, X10, ⟨Lc10, hQ10, l10, y10, z10⟩, st10⟩ := Jvm.LawKit.callS X7 hx (y := yn22) hown (mvT hZ (w 183 rfl)) (mvT hZ (w 184 rfl)) (mvT hZ (w 130 rfl)) (mvT hZ (w 185 rfl)) (by decide) (backOf (W := 2) (rm_tb l Z a0 hw [] p1 h7 n0 hZn) hZ (w 185 rfl) (w 130 rfl) (by decide) (by decide)) (g := (mkF m 18 #[.val (.int p1)] [(.int p1), (.ref str), (.ref str)])) rfl (by rw [hml]; rfl) (argsL := [(.int p1)]) (rest := [(.ref str), (.ref str)]) (lenOf pd_12 rfl) rfl (by show 2 * 0 + _ ≤ _; exact Nat.le_of_eq rfl) (hb hby d22_18) (fun _ _ => ⟨rfl, e7, (by decide : 1 + 1 ≤ _), (by decide : 4 + 1 ≤ _)⟩)
 dsimp only [Pt.U, Pt.locs, Pt.cells, Pt.slots] at X10 l10 y10 z10 st10 hQ10
 subst l10 y10 z10
 obtain ⟨⟨x10, rfl⟩, N10q, K10⟩ := hQ10
 have N10 := Fr.app N4 N10q
 have R11 := Rc.st R9 st10
 replace hZn := Nat.le_trans hZn K10.1
 replace hK := hK.trans K10 all0
 replace hOld := hOld.keep K10 all0
 replace E_str := E_str.keep K10
 replace F_value_str := F_value_str.keep K10 nin0
 replace F_coder_str := F_coder_str.keep K10 nin0
 have R12 : Rc p e below A0 (T10.setTop (mkF m 22 #[.val (.int p1)] [(.int 0), (.ref x10), (.ref str), (.ref str)])) := by
   intro tgt hgo
   refine R11 tgt ?_
   show Steps p.tables e below (T10.setTop (mkF m 21 #[.val (.int p1)] [(.ref x10), (.ref str), (.ref str)])) _
   refine XS.iconst X10.here hx rfl (hb hby d22_21) ?_
   exact hgo
 obtain ⟨_, _, ⟨T13, L13, k13, n13⟩, -, X13, ⟨Lc13, hQ13, l13, y13, z13⟩, st13⟩ := X10.specialBack hx (y := yn23) rfl hown (mvT hZ (w 186 rfl)) (mvT hZ (w 187 rfl)) (mvT hZ (w 188 rfl)) (by decide) (backOf (W := 1) (rm_ib l Z a0 hw [] str x10 T10.heap n0 hZn ge_str E_str F_value_str F_coder_str) hZ (w 188 rfl) (w 5 rfl) (by decide) (by decide)) (g := (mkF m 22 #[.val (.int p1)] [(.int 0), (.ref x10), (.ref str), (.ref str)])) rfl (by rw [hml]; rfl) (Steps.refl _) (a := str) (argsL := [(.ref x10), (.int 0)]) (rest := [(.ref str)]) (lenOf pd_13 rfl) rfl (by show 2 * 0 + _ ≤ _; exact Nat.le_of_eq rfl) (hb hby d22_22) (fun _ _ => ⟨rfl, rfl, (by decide : 2 + 0 ≤ _), (by decide : 5 + 0 ≤ _)⟩)
 dsimp only [Pt.U, Pt.locs, Pt.cells, Pt.slots] at X13 l13 y13 z13 st13 hQ13
 subst l13 y13 z13
 obtain ⟨rfl, N13q, K13⟩ := hQ13
 have N13 := Fr.app N10 N13q
 have R14 := Rc.tr R12 st13
 replace hZn := Nat.le_trans hZn K13.1
 replace hK := hK.trans K13 (allS (Or.inr sz_str) all0)
 replace hOld := hOld.keep K13 (allS ge_str all0)
 replace E_str := E_str.keep K13
 subst hA0
 obtain ⟨fs, hr, hrun, hended, hW, hsame⟩ := X13.leave (v := some (.ref str)) (fun h => by rw [Bd.returns] at h; cases h)
 refine ⟨_, _, R14 _ ?_, hrun, hended, _, _, rfl, ?_, ⟨_, rfl⟩, hW, hsame.mono (by decide) (by decide)⟩
 ·show Steps p.tables e below (T13.setTop (mkF m 25 #[.val (.int p1)] [(.ref str)])) _
  jvm_step X13.here [X13.here.top, hx, (hb hby d22_25), X13.method', Bd.returns, Value.isRef, FieldType.isReference]
  first | (intro acts; rw [hr _ acts rfl rfl rfl]) | rw [hr _ _ rfl rfl rfl]
  exact Steps.refl _
 ·show Qst Z h0 n0 _ T13.heap _
  exact ⟨⟨_, rfl, sz_str, ge_str, E_str⟩, N13, hK⟩
theorem own_EL {Z : State} {a0 : Array Value} (hw : ∀ d ∈ tables_1, d.before a0 Z = true) : EW Z a0 consts_1 := EW.cons (hw _ (List.mem_of_getElem? (i := 4) rfl)) (by decide) ( EW.cons (hw _ (List.mem_of_getElem? (i := 166) rfl)) (by decide) ( EW.cons (hw _ (List.mem_of_getElem? (i := 135) rfl)) (by decide) ( EW.cons (hw _ (List.mem_of_getElem? (i := 28) rfl)) (by decide) ( EW.nil))))
abbrev yn25 : MethodName := ⟨"java/lang/String", "<init>", "([CIILjava/lang/Void;)V"⟩
theorem ef_rm_i4 (m : MethodId) (a1 : Addr) (a2 : Addr) : entryFrame m #[(.ref a1), (.ref a2), (.int (0 : Int32)), (.int (0 : Int32)), .null] 6 = mkF m 0 #[.val (.ref a1), .val (.ref a2), .val (.int (0 : Int32)), .val (.int (0 : Int32)), .val .null, .unset] [] := by first | (simp [entryFrame, mkF, argsToLocals, Value.category]; done) | rfl
theorem d23_0 : decode jdk_42_method_149_code 0 = .ok (.aload_n 0, 1) := by decide +kernel
theorem d23_1 : decode jdk_42_method_149_code 1 = .ok (.invokespecial 1, 3) := by decide +kernel
theorem d23_4 : decode jdk_42_method_149_code 4 = .ok (.iload_n 3, 1) := by decide +kernel
theorem d23_5 : decode jdk_42_method_149_code 5 = .ok (.ifCond .ne 22, 3) := by decide +kernel
theorem d23_8 : decode jdk_42_method_149_code 8 = .ok (.aload_n 0, 1) := by decide +kernel
theorem d23_9 : decode jdk_42_method_149_code 9 = .ok (.ldc 7, 2) := by decide +kernel
theorem d23_11 : decode jdk_42_method_149_code 11 = .ok (.getfield 9, 3) := by decide +kernel
theorem d23_14 : decode jdk_42_method_149_code 14 = .ok (.putfield 9, 3) := by decide +kernel
theorem d23_17 : decode jdk_42_method_149_code 17 = .ok (.aload_n 0, 1) := by decide +kernel
theorem d23_18 : decode jdk_42_method_149_code 18 = .ok (.ldc 7, 2) := by decide +kernel
theorem d23_20 : decode jdk_42_method_149_code 20 = .ok (.getfield 15, 3) := by decide +kernel
theorem d23_23 : decode jdk_42_method_149_code 23 = .ok (.putfield 15, 3) := by decide +kernel
theorem d23_26 : decode jdk_42_method_149_code 26 = .ok (.return_, 1) := by decide +kernel
set_option maxRecDepth 65536 in
set_option maxHeartbeats 40000000 in
theorem rm_i4 (l : Launch) (Z : State) (a0 : Array Value) (hw : ∀ d ∈ tables_1, d.before a0 Z = true) (ws : List Jvm.Cond) (a1 : Addr) (a2 : Addr) (h0 : Heap) (n0 : Nat) (Z0 : n0 ≤ h0.size) (ge1 : n0 ≤ a1) (E1 : Exa Z h0 a1 "java/lang/String") (Fv : Fld Z h0 a1 "java/lang/String" "value" "[B" .null) (Fd : Fld Z h0 a1 "java/lang/String" "coder" "B" (.int 0)) :
    MetFree l yn25 (head1 (Jvm.Cond.code yn25 jdk_42_method_149_code 6 none :: ws) ({ frames := 1, cells := 2, slots := 4, locals := 12 } : Room)) (fun a U => a = #[(.ref a1), (.ref a2), (.int (0 : Int32)), (.int (0 : Int32)), .null] ∧ Z.Warmed39 U.vm ∧ U.heap = h0 ∧ CHv Z consts_1 U.vm h0 ∧ ∀ x ∈ ([a1] : List Addr), Safe Z consts_1 U.vm h0 x) (fun _ _ _ _ _ => True) (fun _ U o U' => ∃ v L, o = .returned v ∧ Qem a1 h0 n0 v U'.heap L ∧ CHr Z consts_1 U.vm U.heap U'.vm U'.heap ∧ ReturnedEndW U o U' L ({ frames := 1, cells := 2, slots := 4, locals := 12 } : Room).cells ({ frames := 1, cells := 2, slots := 4, locals := 12 } : Room).slots) := by
 refine MetFree.of_bodySF (plainFor_of_name pn_java_lang_String) hisR ?_
 intro p e s m args below meth c s₁ Bd hml0 hP hK
 obtain ⟨rfl, hZ, hh, hCH, hSf⟩ := hP
 have hx := Bd.exec
 have hby := Bd.bytes
 have hml : c.maxLocals = 6 := hml0
 have hown : (s.setVm s.vm).vm.findClass "java/lang/String" = some m.cls := findClass_of_methodNamed Bd.named
 have hnm := (name_of_methodNamed Bd.named Bd.method).1
 replace hZ : Z.Warmed39 (s.setVm s.vm).vm := hZ
 have X0 : Stand p l e ({ frames := 1, cells := 2, slots := 4, locals := 12 } : Room) (s.setVm s.vm) m #[(.ref a1), (.ref a2), (.int 0), (.int 0), .null] below meth c s₁ [] 0 0 := Stand.of_body Bd
 have e0 : s₁.heap = h0 := by rw [← hh, Bd.state]; rfl
 have N0 := Fr.nil n0
 have hS := OwnKit.own_since s h0.size
 have hk : h0.size ≤ h0.size := Nat.le_refl _
 have hEL : EW Z a0 consts_1 := own_EL hw
 have wS : ∀ a ∈ Bundle.stringAtoms, a.before a0 Z = true := fun d hd => hw d ((by decide +kernel : ∀ d ∈ Bundle.stringAtoms, d ∈ tables_1) d hd)
 obtain ⟨A0, hA0⟩ : ∃ A, A = s₁.setTop (entryFrame m #[(.ref a1), (.ref a2), (.int 0), (.int 0), .null] 6) := ⟨_, rfl⟩
 have R0 : ∀ tgt, Steps p.tables e below (s₁.setTop (mkF m 0 #[.val (.ref a1), .val (.ref a2), .val (.int 0), .val (.int 0), .val .null, .unset] [])) tgt → Steps p.tables e below A0 tgt := fun tgt hgo => by rw [hA0]; exact castTop (ef_rm_i4 m a1 a2) hgo
 have hR := CHr.refl hCH
 have Sf_a1 : Safe Z consts_1 s.vm h0 a1 := hSf _ (List.mem_of_getElem? (i := 0) rfl)
 have w : ∀ (i : Nat) {d : Jvm.Cond}, tables_1[i]? = some d → d.before a0 Z = true := fun i d h => hw d (List.mem_of_getElem? h)
 have hZn := Z0
 have hK : Keep h0 h0 [a1] := Keep.refl _ _
 have R1 : Rc p e below A0 (s₁.setTop (mkF m 1 #[.val (.ref a1), .val (.ref a2), .val (.int 0), .val (.int 0), .val .null, .unset] [(.ref a1)])) := by
   intro tgt hgo
   refine R0 tgt ?_
   show Steps p.tables e below (s₁.setTop (mkF m 0 #[.val (.ref a1), .val (.ref a2), .val (.int 0), .val (.int 0), .val .null, .unset] [])) _
   refine XS.aloadN X0.here hx rfl (hb hby d23_0) rfl rfl ?_
   exact hgo
 obtain ⟨T2, X2, e2, st2⟩ := initO X0 hx hZ hown (w 25 rfl) (w 26 rfl) (w 27 rfl) e0 (g := (mkF m 1 #[.val (.ref a1), .val (.ref a2), .val (.int 0), .val (.int 0), .val .null, .unset] [(.ref a1)])) rfl (by rw [hml]; rfl) rfl (hb hby d23_1) (by decide) (W := 0) (by show 2 * 0 + _ ≤ _; exact Nat.le_of_eq rfl) (by decide)
 have R3 := Rc.st R1 st2
 have R4 : Rc p e below A0 (T2.setTop (mkF m 9 #[.val (.ref a1), .val (.ref a2), .val (.int 0), .val (.int 0), .val .null, .unset] [(.ref a1)])) := by
   intro tgt hgo
   refine R3 tgt ?_
   show Steps p.tables e below (T2.setTop (mkF m 4 #[.val (.ref a1), .val (.ref a2), .val (.int 0), .val (.int 0), .val .null, .unset] [])) _
   refine XS.iloadN X2.here hx rfl (hb hby d23_4) rfl ?_
   refine XS.ifNo X2.here hx rfl (hb hby d23_5) rfl ((if0 _ _).trans (teq (by decide : (0 : Int32) = (0 : Int32))).2) ?_
   refine XS.aloadN X2.here hx rfl (hb hby d23_8) rfl rfl ?_
   exact hgo
 obtain ⟨lt, T5, h5, k1_5, b_lt, kb_lt, X5, e5, E5, hS5, hk5, hZ5, hown5, E_lt, Fc_lt, Fv_lt, V_lt, lta5, ltb5, CR5, LT5, sf5, st5⟩ := ldcCH X2 hx hZ hown (w 28 rfl) wS e2 hS hk hEL (List.mem_of_getElem? (i := 3) rfl) hR.1 (vs := []) (z := (0 : Int32)) ⟨by decide, by decide⟩ (by decide) rfl (g := (mkF m 9 #[.val (.ref a1), .val (.ref a2), .val (.int 0), .val (.int 0), .val .null, .unset] [(.ref a1)])) rfl (hb hby d23_9) (n := 0) (by decide) (by decide) (by decide) (by decide)
 replace Sf_a1 := CR5.safe E1.lt Sf_a1
 replace hR := hR.trans CR5
 replace hZn := Nat.le_trans hZn E5.1
 replace hK := hK.ext E5
 replace E1 := E1.ext E5
 replace Fv := Fv.ext E5
 replace Fd := Fd.ext E5
 replace hS := hS5
 replace hZ := hZ5
 replace hown := hown5
 replace hk := hk5
 have R6 := Rc.st R4 st5
 have ne_a1_lt := (sf5 a1 Sf_a1).1
 have ne_a1_b := (sf5 a1 Sf_a1).2
 obtain ⟨T7, X7, e7, st7⟩ := getF X5 hx hZ hown (host := "") (Or.inl (w 29 rfl)) Via.refl e5 Fv_lt (g := (mkF m 11 #[.val (.ref a1), .val (.ref a2), .val (.int 0), .val (.int 0), .val .null, .unset] [(.ref lt), (.ref a1)])) rfl rfl (hb hby d23_11)
 have R8 := Rc.st R6 st7
 obtain ⟨T9, h9, X9, e9, W9, st9⟩ := putF X7 hx hZ hown (host := "") (Or.inl (w 29 rfl)) Via.refl e7 Fv E1 (Or.inr ⟨(w 8 rfl), rfl, hnm⟩) (w 6 rfl) (ty := (.array .byte)) (by decide) rfl rfl (g := (mkF m 14 #[.val (.ref a1), .val (.ref a2), .val (.int 0), .val (.int 0), .val .null, .unset] [(.ref b_lt), (.ref a1)])) rfl rfl (hb hby d23_14)
 have N9 := Fr.snoc X9 N0 ge1
 have sfw9 : Safe Z consts_1 T5.vm h5 a1 := Sf_a1
 replace Sf_a1 := Safe.wr W9 sfw9 hR.1 Sf_a1
 replace hR := hR.trans (CHr.wr W9 sfw9 hR.1)
 replace hZn := Nat.le_trans hZn (Keep.of_wr W9).1
 replace hK := hK.wr W9 (Or.inl (List.mem_of_getElem? (i := 0) rfl))
 replace E1 := E1.wr W9
 replace Fv := Fv.same W9
 replace Fd := Fd.other W9 (Or.inr (slot_ne (Or.inr (w 9 rfl)) (Or.inr (w 8 rfl)) (by decide) (t := .byte) (t' := (.array .byte)) (by decide) (by decide)))
 replace hk := Nat.le_trans hk (Keep.of_wr W9).1
 replace E_lt := E_lt.wr W9
 replace Fc_lt := Fc_lt.other W9 (Or.inl (Ne.symm ne_a1_lt))
 replace Fv_lt := Fv_lt.other W9 (Or.inl (Ne.symm ne_a1_lt))
 replace V_lt := V_lt.other W9 (Ne.symm ne_a1_b)
 have R10 := Rc.st R8 st9
 have R11 : Rc p e below A0 (T9.setTop (mkF m 18 #[.val (.ref a1), .val (.ref a2), .val (.int 0), .val (.int 0), .val .null, .unset] [(.ref a1)])) := by
   intro tgt hgo
   refine R10 tgt ?_
   show Steps p.tables e below (T9.setTop (mkF m 17 #[.val (.ref a1), .val (.ref a2), .val (.int 0), .val (.int 0), .val .null, .unset] [])) _
   refine XS.aloadN X9.here hx rfl (hb hby d23_17) rfl rfl ?_
   exact hgo
 have R13 : ∀ tgt, Steps p.tables e below (T9.setTop (mkF m 20 #[.val (.ref a1), .val (.ref a2), .val (.int 0), .val (.int 0), .val .null, .unset] [(.ref lt), (.ref a1)])) tgt → Steps p.tables e below A0 tgt := fun tgt hgo => R11 tgt (ldcAgain X9 hx hZ hown (w 28 rfl) LT5 (g := (mkF m 18 #[.val (.ref a1), .val (.ref a2), .val (.int 0), .val (.int 0), .val .null, .unset] [(.ref a1)])) rfl (hb hby d23_18) tgt hgo)
 obtain ⟨T14, X14, e14, st14⟩ := getF X9 hx hZ hown (host := "") (Or.inl (w 30 rfl)) Via.refl e9 Fc_lt (g := (mkF m 20 #[.val (.ref a1), .val (.ref a2), .val (.int 0), .val (.int 0), .val .null, .unset] [(.ref lt), (.ref a1)])) rfl rfl (hb hby d23_20)
 have R15 := Rc.st R13 st14
 obtain ⟨T16, h16, X16, e16, W16, st16⟩ := putFN X14 hx hZ hown (w 30 rfl) Via.refl e14 Fd E1 (Or.inr ⟨(w 9 rfl), rfl, hnm⟩) (w 6 rfl) (ty := .byte) (v' := (.int 0)) (by decide) rfl (by decide) (g := (mkF m 23 #[.val (.ref a1), .val (.ref a2), .val (.int 0), .val (.int 0), .val .null, .unset] [(.int 0), (.ref a1)])) rfl rfl (hb hby d23_23)
 have N16 := Fr.snoc X16 N9 ge1
 have sfw16 : Safe Z consts_1 T5.vm h9 a1 := Sf_a1
 replace Sf_a1 := Safe.wr W16 sfw16 hR.1 Sf_a1
 replace hR := hR.trans (CHr.wr W16 sfw16 hR.1)
 replace hZn := Nat.le_trans hZn (Keep.of_wr W16).1
 replace hK := hK.wr W16 (Or.inl (List.mem_of_getElem? (i := 0) rfl))
 replace E1 := E1.wr W16
 replace Fv := Fv.other W16 (Or.inr (slot_ne (Or.inr (w 8 rfl)) (Or.inr (w 9 rfl)) (by decide) (t := (.array .byte)) (t' := .byte) (by decide) (by decide)))
 replace Fd := Fd.same W16
 replace hk := Nat.le_trans hk (Keep.of_wr W16).1
 replace E_lt := E_lt.wr W16
 replace Fc_lt := Fc_lt.other W16 (Or.inl (Ne.symm ne_a1_lt))
 replace Fv_lt := Fv_lt.other W16 (Or.inl (Ne.symm ne_a1_lt))
 replace V_lt := V_lt.other W16 (Ne.symm ne_a1_b)
 have R17 := Rc.st R15 st16
 subst hA0
 obtain ⟨fs, hr, hrun, hended, hRW⟩ := X16.leaveW hS (by rw [e16]; exact hk) (v := none) (fun _ => rfl) Bd.notSynchronized
 refine ⟨_, _, R17 _ ?_, hrun, hended, _, _, rfl, ?_, ?_, OwnKit.own_fin hRW (by decide) (by decide)⟩
 ·show Steps p.tables e below (T16.setTop (mkF m 26 #[.val (.ref a1), .val (.ref a2), .val (.int 0), .val (.int 0), .val .null, .unset] [])) _
  exact X16.returnOut hx Bd.returns (hb hby d23_26) hr
 ·show Qem a1 h0 n0 _ T16.heap _
  rw [e16]
  exact ⟨rfl, N16, hK⟩
 ·show CHr Z consts_1 s.vm s.heap T16.vm T16.heap
  rw [hh, e16]
  exact hR.trans (CHv.at X16 hZ hEL hR.1)
abbrev yn26 : MethodName := ⟨"java/lang/String", "<init>", "([C)V"⟩
theorem ef_rm_i1 (m : MethodId) (a1 : Addr) (a2 : Addr) : entryFrame m #[(.ref a1), (.ref a2)] 2 = mkF m 0 #[.val (.ref a1), .val (.ref a2)] [] := by first | (simp [entryFrame, mkF, argsToLocals, Value.category]; done) | rfl
theorem d24_0 : decode jdk_42_method_3_code 0 = .ok (.aload_n 0, 1) := by decide +kernel
theorem d24_1 : decode jdk_42_method_3_code 1 = .ok (.aload_n 1, 1) := by decide +kernel
theorem d24_2 : decode jdk_42_method_3_code 2 = .ok (.iconst 0, 1) := by decide +kernel
theorem d24_3 : decode jdk_42_method_3_code 3 = .ok (.aload_n 1, 1) := by decide +kernel
theorem d24_4 : decode jdk_42_method_3_code 4 = .ok (.arraylength, 1) := by decide +kernel
theorem d24_5 : decode jdk_42_method_3_code 5 = .ok (.aconst_null, 1) := by decide +kernel
theorem d24_6 : decode jdk_42_method_3_code 6 = .ok (.invokespecial 27, 3) := by decide +kernel
theorem pd_14 : parseMethodDescriptor "([CIILjava/lang/Void;)V" = some ⟨[(.array .char), .int, .int, (.object "java/lang/Void")], none⟩ := by decide +kernel
theorem d24_9 : decode jdk_42_method_3_code 9 = .ok (.return_, 1) := by decide +kernel
set_option maxRecDepth 65536 in
set_option maxHeartbeats 40000000 in
theorem rm_i1 (l : Launch) (Z : State) (a0 : Array Value) (hw : ∀ d ∈ tables_1, d.before a0 Z = true) (ws : List Jvm.Cond) (a1 : Addr) (a2 : Addr) (kC : ClassId) (h0 : Heap) (n0 : Nat) (Z0 : n0 ≤ h0.size) (ge1 : n0 ≤ a1) (E1 : Exa Z h0 a1 "java/lang/String") (Fv : Fld Z h0 a1 "java/lang/String" "value" "[B" .null) (Fd : Fld Z h0 a1 "java/lang/String" "coder" "B" (.int 0)) (Vc : Arv Z h0 a2 kC .char 0 [] (.int 0)) (hn : a1 ≠ a2) :
    MetFree l yn26 (head1 (Jvm.Cond.code yn26 jdk_42_method_3_code 2 none :: ws) ({ frames := 2, cells := 2, slots := 4, locals := 29 } : Room)) (fun a U => a = #[(.ref a1), (.ref a2)] ∧ Z.Warmed39 U.vm ∧ U.heap = h0 ∧ CHv Z consts_1 U.vm h0 ∧ ∀ x ∈ ([a1] : List Addr), Safe Z consts_1 U.vm h0 x) (fun _ _ _ _ _ => True) (fun _ U o U' => ∃ v L, o = .returned v ∧ Qem a1 h0 n0 v U'.heap L ∧ CHr Z consts_1 U.vm U.heap U'.vm U'.heap ∧ ReturnedEndW U o U' L ({ frames := 2, cells := 2, slots := 4, locals := 29 } : Room).cells ({ frames := 2, cells := 2, slots := 4, locals := 29 } : Room).slots) := by
 refine MetFree.of_bodySF (plainFor_of_name pn_java_lang_String) hisR ?_
 intro p e s m args below meth c s₁ Bd hml0 hP hK
 obtain ⟨rfl, hZ, hh, hCH, hSf⟩ := hP
 have hx := Bd.exec
 have hby := Bd.bytes
 have hml : c.maxLocals = 2 := hml0
 have hown : (s.setVm s.vm).vm.findClass "java/lang/String" = some m.cls := findClass_of_methodNamed Bd.named
 have hnm := (name_of_methodNamed Bd.named Bd.method).1
 replace hZ : Z.Warmed39 (s.setVm s.vm).vm := hZ
 have X0 : Stand p l e ({ frames := 2, cells := 2, slots := 4, locals := 29 } : Room) (s.setVm s.vm) m #[(.ref a1), (.ref a2)] below meth c s₁ [] 0 0 := Stand.of_body Bd
 have e0 : s₁.heap = h0 := by rw [← hh, Bd.state]; rfl
 have N0 := Fr.nil n0
 have hS := OwnKit.own_since s h0.size
 have hk : h0.size ≤ h0.size := Nat.le_refl _
 have hEL : EW Z a0 consts_1 := own_EL hw
 have wS : ∀ a ∈ Bundle.stringAtoms, a.before a0 Z = true := fun d hd => hw d ((by decide +kernel : ∀ d ∈ Bundle.stringAtoms, d ∈ tables_1) d hd)
 obtain ⟨A0, hA0⟩ : ∃ A, A = s₁.setTop (entryFrame m #[(.ref a1), (.ref a2)] 2) := ⟨_, rfl⟩
 have R0 : ∀ tgt, Steps p.tables e below (s₁.setTop (mkF m 0 #[.val (.ref a1), .val (.ref a2)] [])) tgt → Steps p.tables e below A0 tgt := fun tgt hgo => by rw [hA0]; exact castTop (ef_rm_i1 m a1 a2) hgo
 have hR := CHr.refl hCH
 have Sf_a1 : Safe Z consts_1 s.vm h0 a1 := hSf _ (List.mem_of_getElem? (i := 0) rfl)
 have w : ∀ (i : Nat) {d : Jvm.Cond}, tables_1[i]? = some d → d.before a0 Z = true := fun i d h => hw d (List.mem_of_getElem? h)
 have hZn := Z0
 have hK : Keep h0 h0 [a1] := Keep.refl _ _
 have R1 : Rc p e below A0 (s₁.setTop (mkF m 4 #[.val (.ref a1), .val (.ref a2)] [(.ref a2), (.int 0), (.ref a2), (.ref a1)])) := by
   intro tgt hgo
   refine R0 tgt ?_
   show Steps p.tables e below (s₁.setTop (mkF m 0 #[.val (.ref a1), .val (.ref a2)] [])) _
   refine XS.aloadN X0.here hx rfl (hb hby d24_0) rfl rfl ?_
   refine XS.aloadN X0.here hx rfl (hb hby d24_1) rfl rfl ?_
   refine XS.iconst X0.here hx rfl (hb hby d24_2) ?_
   refine XS.aloadN X0.here hx rfl (hb hby d24_3) rfl rfl ?_
   exact hgo
 obtain ⟨cl2, Ar2, -, S2, Nn2, -, -⟩ := id Vc
 have R3 : Rc p e below A0 (s₁.setTop (mkF m 5 #[.val (.ref a1), .val (.ref a2)] [(.int 0), (.int 0), (.ref a2), (.ref a1)])) := by
   intro tgt hgo
   refine R1 tgt ?_
   refine X0.arraylength hx (by rw [e0]; exact Ar2.1) (State.isArrayOf_alike hZ.alike Ar2.2.1) (g := (mkF m 4 #[.val (.ref a1), .val (.ref a2)] [(.ref a2), (.int 0), (.ref a2), (.ref a1)])) rfl rfl (hb hby d24_4) _ ?_
   rw [len_of S2 Nn2]
   exact hgo
 have R4 : Rc p e below A0 (s₁.setTop (mkF m 6 #[.val (.ref a1), .val (.ref a2)] [.null, (.int 0), (.int 0), (.ref a2), (.ref a1)])) := by
   intro tgt hgo
   refine R3 tgt ?_
   show Steps p.tables e below (s₁.setTop (mkF m 5 #[.val (.ref a1), .val (.ref a2)] [(.int 0), (.int 0), (.ref a2), (.ref a1)])) _
   refine XS.aconstNull X0.here hx rfl (hb hby d24_5) ?_
   exact hgo
 obtain ⟨_, _, ⟨T5, L5, k5, n5⟩, -, X5, hS5, hg5, ⟨Lc5, ⟨hQ5, CR5⟩, l5, y5, z5⟩, st5⟩ := X0.specialBackS hx (y := yn25) rfl hown (mvT hZ (w 21 rfl)) (mvT hZ (w 22 rfl)) (mvT hZ (w 24 rfl)) (by decide) (OwnKit.own_backH (W := 0) (xs := [a1]) (rm_i4 l Z a0 hw [] a1 a2 h0 n0 hZn ge1 E1 Fv Fd) hZ (w 24 rfl) (w 5 rfl) (by decide) (by decide) hEL hR.1 (allS ⟨Sf_a1, E1.lt⟩ all0)) (g := (mkF m 6 #[.val (.ref a1), .val (.ref a2)] [.null, (.int 0), (.int 0), (.ref a2), (.ref a1)])) rfl (by rw [hml]; rfl) (Steps.refl _) (a := a1) (argsL := [(.ref a2), (.int 0), (.int 0), .null]) (rest := []) (lenOf pd_14 rfl) rfl (by show 2 * 0 + _ ≤ _; exact Nat.le_of_eq rfl) (hb hby d24_6) (fun _ _ => ⟨rfl, e0, (by decide : 0 + 2 ≤ _), (by decide : 0 + 4 ≤ _)⟩)
 dsimp only [Pt.U, Pt.locs, Pt.cells, Pt.slots] at X5 hS5 hg5 l5 y5 z5 st5 hQ5
 subst l5 y5 z5
 obtain ⟨X5r, hS5r, hZ5r, hown5r⟩ := rebS hS (by rw [e0]; exact hk) X5 hS5 hg5 hZ hown
 replace X5 := X5r
 replace hS := hS5r
 replace hZ := hZ5r
 replace hown := hown5r
 replace Sf_a1 := CR5.safe E1.lt Sf_a1
 replace hR := hR.trans CR5
 obtain ⟨rfl, N5q, K5⟩ := hQ5
 have N5 := Fr.app N0 N5q
 have R6 := Rc.tr R4 st5
 replace hZn := Nat.le_trans hZn K5.1
 replace hK := hK.trans K5 (allS (Or.inl (List.mem_of_getElem? (i := 0) rfl)) all0)
 replace E1 := E1.keep K5
 replace Vc := Vc.keep K5 (ninS (Ne.symm hn) nin0)
 replace hk : T5.heap.size ≤ T5.heap.size := Nat.le_refl _
 subst hA0
 obtain ⟨fs, hr, hrun, hended, hRW⟩ := X5.leaveW hS hk (v := none) (fun _ => rfl) Bd.notSynchronized
 refine ⟨_, _, R6 _ ?_, hrun, hended, _, _, rfl, ?_, ?_, OwnKit.own_fin hRW (by decide) (by decide)⟩
 ·show Steps p.tables e below (T5.setTop (mkF m 9 #[.val (.ref a1), .val (.ref a2)] [])) _
  exact X5.returnOut hx Bd.returns (hb hby d24_9) hr
 ·show Qem a1 h0 n0 _ T5.heap _
  exact ⟨rfl, N5, hK⟩
 ·show CHr Z consts_1 s.vm s.heap T5.vm T5.heap
  rw [hh]
  exact hR.trans (CHv.at X5 hZ hEL hR.1)
abbrev yn27 : MethodName := ⟨"com/example/verdict_ladder/verdictladder/lint/FindingLinePinLaw", "str", "(I)Ljava/lang/String;"⟩
theorem ef_rm_str (m : MethodId) (p1 : Int32) : entryFrame m #[(.int p1)] 4 = mkF m 0 #[.val (.int p1), .unset, .unset, .unset] [] := by first | (simp [entryFrame, mkF, argsToLocals, Value.category]; done) | rfl
theorem d25_0 : decode method_2_code 0 = .ok (.iload_n 0, 1) := by decide +kernel
theorem d25_1 : decode method_2_code 1 = .ok (.bipush 16, 2) := by decide +kernel
theorem d25_3 : decode method_2_code 3 = .ok (.iushr, 1) := by decide +kernel
theorem d25_4 : decode method_2_code 4 = .ok (.sipush 32767, 3) := by decide +kernel
theorem d25_7 : decode method_2_code 7 = .ok (.iand, 1) := by decide +kernel
theorem d25_8 : decode method_2_code 8 = .ok (.iconst 3, 1) := by decide +kernel
theorem d25_9 : decode method_2_code 9 = .ok (.irem, 1) := by decide +kernel
theorem d25_10 : decode method_2_code 10 = .ok (.istore_n 1, 1) := by decide +kernel
theorem d25_11 : decode method_2_code 11 = .ok (.iload_n 0, 1) := by decide +kernel
theorem d25_12 : decode method_2_code 12 = .ok (.sipush 255, 3) := by decide +kernel
theorem d25_15 : decode method_2_code 15 = .ok (.iand, 1) := by decide +kernel
theorem d25_16 : decode method_2_code 16 = .ok (.i2c, 1) := by decide +kernel
theorem d25_17 : decode method_2_code 17 = .ok (.istore_n 2, 1) := by decide +kernel
theorem d25_18 : decode method_2_code 18 = .ok (.iload_n 0, 1) := by decide +kernel
theorem d25_19 : decode method_2_code 19 = .ok (.bipush 8, 2) := by decide +kernel
theorem d25_21 : decode method_2_code 21 = .ok (.iushr, 1) := by decide +kernel
theorem d25_22 : decode method_2_code 22 = .ok (.sipush 255, 3) := by decide +kernel
theorem d25_25 : decode method_2_code 25 = .ok (.iand, 1) := by decide +kernel
theorem d25_26 : decode method_2_code 26 = .ok (.i2c, 1) := by decide +kernel
theorem d25_27 : decode method_2_code 27 = .ok (.istore_n 3, 1) := by decide +kernel
theorem d25_28 : decode method_2_code 28 = .ok (.iload_n 1, 1) := by decide +kernel
theorem d25_29 : decode method_2_code 29 = .ok (.ifCond .ne 14, 3) := by decide +kernel
theorem d25_32 : decode method_2_code 32 = .ok (.new 7, 3) := by decide +kernel
theorem d25_35 : decode method_2_code 35 = .ok (.dup, 1) := by decide +kernel
theorem d25_36 : decode method_2_code 36 = .ok (.iconst 0, 1) := by decide +kernel
theorem d25_37 : decode method_2_code 37 = .ok (.newarray .char, 2) := by decide +kernel
theorem d25_39 : decode method_2_code 39 = .ok (.invokespecial 9, 3) := by decide +kernel
theorem pd_15 : parseMethodDescriptor "([C)V" = some ⟨[(.array .char)], none⟩ := by decide +kernel
theorem d25_42 : decode method_2_code 42 = .ok (.areturn, 1) := by decide +kernel
theorem d25_43 : decode method_2_code 43 = .ok (.iload_n 1, 1) := by decide +kernel
theorem d25_44 : decode method_2_code 44 = .ok (.iconst 1, 1) := by decide +kernel
theorem d25_45 : decode method_2_code 45 = .ok (.if_icmp .ne 8, 3) := by decide +kernel
theorem d25_48 : decode method_2_code 48 = .ok (.iload_n 2, 1) := by decide +kernel
theorem d25_49 : decode method_2_code 49 = .ok (.invokestatic 12, 3) := by decide +kernel
theorem pd_16 : parseMethodDescriptor "(C)Ljava/lang/String;" = some ⟨[.char], some (.object "java/lang/String")⟩ := by decide +kernel
theorem d25_52 : decode method_2_code 52 = .ok (.areturn, 1) := by decide +kernel
theorem d25_53 : decode method_2_code 53 = .ok (.new 7, 3) := by decide +kernel
theorem d25_56 : decode method_2_code 56 = .ok (.dup, 1) := by decide +kernel
theorem d25_57 : decode method_2_code 57 = .ok (.iconst 2, 1) := by decide +kernel
theorem d25_58 : decode method_2_code 58 = .ok (.newarray .char, 2) := by decide +kernel
theorem d25_60 : decode method_2_code 60 = .ok (.dup, 1) := by decide +kernel
theorem d25_61 : decode method_2_code 61 = .ok (.iconst 0, 1) := by decide +kernel
theorem d25_62 : decode method_2_code 62 = .ok (.iload_n 2, 1) := by decide +kernel
theorem d25_63 : decode method_2_code 63 = .ok (.castore, 1) := by decide +kernel
theorem d25_64 : decode method_2_code 64 = .ok (.dup, 1) := by decide +kernel
theorem d25_65 : decode method_2_code 65 = .ok (.iconst 1, 1) := by decide +kernel
theorem d25_66 : decode method_2_code 66 = .ok (.iload_n 3, 1) := by decide +kernel
theorem d25_67 : decode method_2_code 67 = .ok (.castore, 1) := by decide +kernel
theorem d25_68 : decode method_2_code 68 = .ok (.invokespecial 9, 3) := by decide +kernel
theorem d25_71 : decode method_2_code 71 = .ok (.areturn, 1) := by decide +kernel
set_option maxRecDepth 65536 in
set_option maxHeartbeats 40000000 in
theorem rm_str (l : Launch) (Z : State) (a0 : Array Value) (hw : ∀ d ∈ tables_1, d.before a0 Z = true) (ws : List Jvm.Cond) (p1 : Int32) (zc : Int32) (h0 : Heap) (n0 : Nat) (Z0 : n0 ≤ h0.size) (X00 : Old Z n0 h0) (S_cs : Sta Z Z.heap "java/lang/String" "COMPACT_STRINGS" "Z" (.int zc)) (hz : ¬ zc = 0) :
    MetFree l yn27 (head1 (Jvm.Cond.code yn27 method_2_code 4 (some (.object "java/lang/String")) :: ws) ({ frames := 4, cells := 4, slots := 8, locals := 66 } : Room)) (fun a U => a = #[(.int p1)] ∧ Z.Warmed39 U.vm ∧ U.heap = h0 ∧ CHv Z consts_1 U.vm h0 ∧ ∀ x ∈ ([] : List Addr), Safe Z consts_1 U.vm h0 x) (fun _ _ _ _ _ => True) (fun _ U o U' => ∃ v L, o = .returned v ∧ Qst Z h0 n0 v U'.heap L ∧ CHr Z consts_1 U.vm U.heap U'.vm U'.heap ∧ ReturnedEndW U o U' L ({ frames := 4, cells := 4, slots := 8, locals := 66 } : Room).cells ({ frames := 4, cells := 4, slots := 8, locals := 66 } : Room).slots) := by
 refine MetFree.of_bodySF (plainFor_of_name pn_com_example_verdict_ladder_verdictladder_lint_FindingLinePinLaw) hisR ?_
 intro p e s m args below meth c s₁ Bd hml0 hP hK
 obtain ⟨rfl, hZ, hh, hCH, hSf⟩ := hP
 have hx := Bd.exec
 have hby := Bd.bytes
 have hml : c.maxLocals = 4 := hml0
 have hown : (s.setVm s.vm).vm.findClass "com/example/verdict_ladder/verdictladder/lint/FindingLinePinLaw" = some m.cls := findClass_of_methodNamed Bd.named
 have hnm := (name_of_methodNamed Bd.named Bd.method).1
 replace hZ : Z.Warmed39 (s.setVm s.vm).vm := hZ
 have X0 : Stand p l e ({ frames := 4, cells := 4, slots := 8, locals := 66 } : Room) (s.setVm s.vm) m #[(.int p1)] below meth c s₁ [] 0 0 := Stand.of_body Bd
 have e0 : s₁.heap = h0 := by rw [← hh, Bd.state]; rfl
 have N0 := Fr.nil n0
 have hS := OwnKit.own_since s h0.size
 have hk : h0.size ≤ h0.size := Nat.le_refl _
 have hEL : EW Z a0 consts_1 := own_EL hw
 have wS : ∀ a ∈ Bundle.stringAtoms, a.before a0 Z = true := fun d hd => hw d ((by decide +kernel : ∀ d ∈ Bundle.stringAtoms, d ∈ tables_1) d hd)
 obtain ⟨A0, hA0⟩ : ∃ A, A = s₁.setTop (entryFrame m #[(.int p1)] 4) := ⟨_, rfl⟩
 have R0 : ∀ tgt, Steps p.tables e below (s₁.setTop (mkF m 0 #[.val (.int p1), .unset, .unset, .unset] [])) tgt → Steps p.tables e below A0 tgt := fun tgt hgo => by rw [hA0]; exact castTop (ef_rm_str m p1) hgo
 have hR := CHr.refl hCH
 have w : ∀ (i : Nat) {d : Jvm.Cond}, tables_1[i]? = some d → d.before a0 Z = true := fun i d h => hw d (List.mem_of_getElem? h)
 have hZn := Z0
 have hK : Keep h0 h0 [] := Keep.refl _ _
 have hOld := X00
 have hws : ∀ d ∈ StrChars.Road.words, d.before a0 Z = true := fun d hd => hw d ((by decide +kernel : ∀ d ∈ StrChars.Road.words, d ∈ tables_1) d hd)
 have R1 : Rc p e below A0 (s₁.setTop (mkF m 10 #[.val (.int p1), .unset, .unset, .unset] [(.int ((((p1.toUInt32 >>> ((16 : Int32) &&& 31).toUInt32).toInt32) &&& (32767 : Int32)) - (((p1.toUInt32 >>> ((16 : Int32) &&& 31).toUInt32).toInt32) &&& (32767 : Int32)) / (3 : Int32) * (3 : Int32)))])) := by
   intro tgt hgo
   refine R0 tgt ?_
   show Steps p.tables e below (s₁.setTop (mkF m 0 #[.val (.int p1), .unset, .unset, .unset] [])) _
   refine XS.iloadN X0.here hx rfl (hb hby d25_0) rfl ?_
   refine XS.bipush X0.here hx rfl (hb hby d25_1) ?_
   refine XS.iushr X0.here hx rfl (hb hby d25_3) rfl ?_
   refine XS.sipush X0.here hx rfl (hb hby d25_4) ?_
   refine XS.iand X0.here hx rfl (hb hby d25_7) rfl ?_
   refine XS.iconst X0.here hx rfl (hb hby d25_8) ?_
   refine XS.irem X0.here hx rfl (hb hby d25_9) rfl (by decide) ?_
   exact hgo
 obtain ⟨ln, e_ln⟩ : ∃ z : Int32, z = ((((p1.toUInt32 >>> ((16 : Int32) &&& 31).toUInt32).toInt32) &&& (32767 : Int32)) - (((p1.toUInt32 >>> ((16 : Int32) &&& 31).toUInt32).toInt32) &&& (32767 : Int32)) / (3 : Int32) * (3 : Int32)) := ⟨_, rfl⟩
 rw [← e_ln] at R1
 have R2 : Rc p e below A0 (s₁.setTop (mkF m 17 #[.val (.int p1), .val (.int ln), .unset, .unset] [(.int ((p1 &&& (255 : Int32)).toUInt32.toUInt16.toUInt32.toInt32))])) := by
   intro tgt hgo
   refine R1 tgt ?_
   show Steps p.tables e below (s₁.setTop (mkF m 10 #[.val (.int p1), .unset, .unset, .unset] [(.int ln)])) _
   refine XS.istoreN X0.here hx rfl (hb hby d25_10) rfl (l' := #[.val (.int p1), .val (.int ln), .unset, .unset]) rfl ?_
   refine XS.iloadN X0.here hx rfl (hb hby d25_11) rfl ?_
   refine XS.sipush X0.here hx rfl (hb hby d25_12) ?_
   refine XS.iand X0.here hx rfl (hb hby d25_15) rfl ?_
   refine XS.i2c X0.here hx rfl (hb hby d25_16) rfl ?_
   exact hgo
 obtain ⟨c0, e_c0⟩ : ∃ z : Int32, z = ((p1 &&& (255 : Int32)).toUInt32.toUInt16.toUInt32.toInt32) := ⟨_, rfl⟩
 rw [← e_c0] at R2
 have hc0 := own_rngc _ c0 e_c0
 have R3 : Rc p e below A0 (s₁.setTop (mkF m 27 #[.val (.int p1), .val (.int ln), .val (.int c0), .unset] [(.int ((((p1.toUInt32 >>> ((8 : Int32) &&& 31).toUInt32).toInt32) &&& (255 : Int32)).toUInt32.toUInt16.toUInt32.toInt32))])) := by
   intro tgt hgo
   refine R2 tgt ?_
   show Steps p.tables e below (s₁.setTop (mkF m 17 #[.val (.int p1), .val (.int ln), .unset, .unset] [(.int c0)])) _
   refine XS.istoreN X0.here hx rfl (hb hby d25_17) rfl (l' := #[.val (.int p1), .val (.int ln), .val (.int c0), .unset]) rfl ?_
   refine XS.iloadN X0.here hx rfl (hb hby d25_18) rfl ?_
   refine XS.bipush X0.here hx rfl (hb hby d25_19) ?_
   refine XS.iushr X0.here hx rfl (hb hby d25_21) rfl ?_
   refine XS.sipush X0.here hx rfl (hb hby d25_22) ?_
   refine XS.iand X0.here hx rfl (hb hby d25_25) rfl ?_
   refine XS.i2c X0.here hx rfl (hb hby d25_26) rfl ?_
   exact hgo
 obtain ⟨c1, e_c1⟩ : ∃ z : Int32, z = ((((p1.toUInt32 >>> ((8 : Int32) &&& 31).toUInt32).toInt32) &&& (255 : Int32)).toUInt32.toUInt16.toUInt32.toInt32) := ⟨_, rfl⟩
 rw [← e_c1] at R3
 have hc1 := own_rngc _ c1 e_c1
 have R5 : Rc p e below A0 (s₁.setTop (mkF m 29 #[.val (.int p1), .val (.int ln), .val (.int c0), .val (.int c1)] [(.int ln)])) := by
   intro tgt hgo
   refine R3 tgt ?_
   show Steps p.tables e below (s₁.setTop (mkF m 27 #[.val (.int p1), .val (.int ln), .val (.int c0), .unset] [(.int c1)])) _
   refine XS.istoreN X0.here hx rfl (hb hby d25_27) rfl (l' := #[.val (.int p1), .val (.int ln), .val (.int c0), .val (.int c1)]) rfl ?_
   refine XS.iloadN X0.here hx rfl (hb hby d25_28) rfl ?_
   exact hgo
 by_cases hc29_4 : ln = (0 : Int32)
 ·have R6 : Rc p e below A0 (s₁.setTop (mkF m 32 #[.val (.int p1), .val (.int ln), .val (.int c0), .val (.int c1)] [])) := by
    intro tgt hgo
    refine R5 tgt ?_
    show Steps p.tables e below (s₁.setTop (mkF m 29 #[.val (.int p1), .val (.int ln), .val (.int c0), .val (.int c1)] [(.int ln)])) _
    refine XS.ifNo X0.here hx rfl (hb hby d25_29) rfl ((if0 _ _).trans (teq hc29_4).2) ?_
    exact hgo
  obtain ⟨T7, h7, X7, e7, E7, A7, D7, -, st7⟩ := newO X0 hx hZ hown (w 16 rfl) (w 6 rfl) (w 5 rfl) e0 (g := (mkF m 32 #[.val (.int p1), .val (.int ln), .val (.int c0), .val (.int c1)] [])) rfl (hb hby d25_32) (by decide) (by decide)
  obtain ⟨str, g7⟩ : ∃ z, z = h0.size := ⟨_, rfl⟩
  rw [← g7] at A7 D7 st7
  have ge_str : n0 ≤ str := Nat.le_trans hZn (Nat.le_of_eq g7.symm)
  have sz_str : h0.size ≤ str := Nat.le_trans hK.1 (Nat.le_of_eq g7.symm)
  have Sf_str : Safe Z consts_1 s.vm h0 str := Safe.new (Nat.le_of_eq g7.symm)
  replace Sf_str := Safe.ext E7 hR.1 Sf_str
  replace hR := hR.trans (CHr.ext E7 hR.1)
  replace hk := Nat.le_trans hk E7.1
  replace hZn := Nat.le_trans hZn E7.1
  replace hK := hK.ext E7
  replace hOld := hOld.ext E7
  have E_str := A7
  have F_value_str : Fld Z h7 str "java/lang/String" "value" "[B" .null := D7 (Or.inr (w 8 rfl)) (ty := (.array .byte)) (by decide)
  have F_coder_str : Fld Z h7 str "java/lang/String" "coder" "B" (.int 0) := D7 (Or.inr (w 9 rfl)) (ty := .byte) (by decide)
  have R8 := Rc.st R6 st7
  have R9 : Rc p e below A0 (T7.setTop (mkF m 37 #[.val (.int p1), .val (.int ln), .val (.int c0), .val (.int c1)] [(.int 0), (.ref str), (.ref str)])) := by
    intro tgt hgo
    refine R8 tgt ?_
    show Steps p.tables e below (T7.setTop (mkF m 35 #[.val (.int p1), .val (.int ln), .val (.int c0), .val (.int c1)] [(.ref str)])) _
    refine XS.dup X7.here hx rfl (hb hby d25_35) rfl rfl ?_
    refine XS.iconst X7.here hx rfl (hb hby d25_36) ?_
    exact hgo
  obtain ⟨T10, h10, k10, X10, e10, E10, A10, st10⟩ := newP X7 hx hZ (w 17 rfl) e7 (g := (mkF m 37 #[.val (.int p1), .val (.int ln), .val (.int c0), .val (.int c1)] [(.int 0), (.ref str), (.ref str)])) rfl (hb hby d25_37) rfl (by decide) (cap := 0) (by decide) (by decide) (by decide) (by decide)
  obtain ⟨sa, g10⟩ : ∃ z, z = h7.size := ⟨_, rfl⟩
  rw [← g10] at A10 st10
  have ne_str_sa : str ≠ sa := Nat.ne_of_lt (Nat.lt_of_lt_of_le E_str.lt (Nat.le_of_eq g10.symm))
  have ge_sa : n0 ≤ sa := Nat.le_trans hZn (Nat.le_of_eq g10.symm)
  have sz_sa : h0.size ≤ sa := Nat.le_trans hK.1 (Nat.le_of_eq g10.symm)
  have Sf_sa : Safe Z consts_1 s.vm h7 sa := Safe.new (Nat.le_of_eq g10.symm)
  replace Sf_str := Safe.ext E10 hR.1 Sf_str
  replace Sf_sa := Safe.ext E10 hR.1 Sf_sa
  replace hR := hR.trans (CHr.ext E10 hR.1)
  replace hk := Nat.le_trans hk E10.1
  replace hZn := Nat.le_trans hZn E10.1
  replace hK := hK.ext E10
  replace hOld := hOld.ext E10
  replace E_str := E_str.ext E10
  replace F_value_str := F_value_str.ext E10
  replace F_coder_str := F_coder_str.ext E10
  have V_sa := Arv.new A10 (by decide)
  have R11 := Rc.st R9 st10
  obtain ⟨_, _, ⟨T12, L12, k12, n12⟩, -, X12, hS12, hg12, ⟨Lc12, ⟨hQ12, CR12⟩, l12, y12, z12⟩, st12⟩ := X10.specialBackS hx (y := yn26) rfl hown (mvT hZ (w 18 rfl)) (mvT hZ (w 19 rfl)) (mvT hZ (w 20 rfl)) (by decide) (OwnKit.own_backH (W := 1) (xs := [str]) (rm_i1 l Z a0 hw [] str sa _ h10 n0 hZn ge_str E_str F_value_str F_coder_str V_sa ne_str_sa) hZ (w 20 rfl) (w 5 rfl) (by decide) (by decide) hEL hR.1 (allS ⟨Sf_str, E_str.lt⟩ all0)) (g := (mkF m 39 #[.val (.int p1), .val (.int ln), .val (.int c0), .val (.int c1)] [(.ref sa), (.ref str), (.ref str)])) rfl (by rw [hml]; rfl) (Steps.refl _) (a := str) (argsL := [(.ref sa)]) (rest := [(.ref str)]) (lenOf pd_15 rfl) rfl (by show 2 * 0 + _ ≤ _; exact Nat.le_of_eq rfl) (hb hby d25_39) (fun _ _ => ⟨rfl, e10, (by decide : 2 + 2 ≤ _), (by decide : 4 + 4 ≤ _)⟩)
  dsimp only [Pt.U, Pt.locs, Pt.cells, Pt.slots] at X12 hS12 hg12 l12 y12 z12 st12 hQ12
  subst l12 y12 z12
  obtain ⟨X12r, hS12r, hZ12r, hown12r⟩ := rebS hS (by rw [e10]; exact hk) X12 hS12 hg12 hZ hown
  replace X12 := X12r
  replace hS := hS12r
  replace hZ := hZ12r
  replace hown := hown12r
  replace Sf_str := CR12.safe E_str.lt Sf_str
  replace Sf_sa := CR12.safe V_sa.lt Sf_sa
  replace hR := hR.trans CR12
  obtain ⟨rfl, N12q, K12⟩ := hQ12
  have N12 := Fr.app N0 N12q
  have R13 := Rc.tr R11 st12
  replace hZn := Nat.le_trans hZn K12.1
  replace hK := hK.trans K12 (allS (Or.inr sz_str) all0)
  replace hOld := hOld.keep K12 (allS ge_str all0)
  replace E_str := E_str.keep K12
  replace V_sa := V_sa.keep K12 (ninS (Ne.symm ne_str_sa) nin0)
  replace hk : T12.heap.size ≤ T12.heap.size := Nat.le_refl _
  subst hA0
  obtain ⟨fs, hr, hrun, hended, hRW⟩ := X12.leaveW hS hk (v := some (.ref str)) (fun h => by rw [Bd.returns] at h; cases h) Bd.notSynchronized
  refine ⟨_, _, R13 _ ?_, hrun, hended, _, _, rfl, ?_, ?_, OwnKit.own_fin hRW (by decide) (by decide)⟩
  ·show Steps p.tables e below (T12.setTop (mkF m 42 #[.val (.int p1), .val (.int ln), .val (.int c0), .val (.int c1)] [(.ref str)])) _
   jvm_step X12.here [X12.here.top, hx, (hb hby d25_42), X12.method', Bd.returns, Value.isRef, FieldType.isReference]
   first | (intro acts; rw [hr _ acts rfl rfl rfl]) | rw [hr _ _ rfl rfl rfl]
   exact Steps.refl _
  ·show Qst Z h0 n0 _ T12.heap _
   exact ⟨⟨_, rfl, sz_str, ge_str, E_str⟩, N12, hK⟩
  ·show CHr Z consts_1 s.vm s.heap T12.vm T12.heap
   rw [hh]
   exact hR.trans (CHv.at X12 hZ hEL hR.1)
 ·have R15 : Rc p e below A0 (s₁.setTop (mkF m 45 #[.val (.int p1), .val (.int ln), .val (.int c0), .val (.int c1)] [(.int 1), (.int ln)])) := by
    intro tgt hgo
    refine R5 tgt ?_
    show Steps p.tables e below (s₁.setTop (mkF m 29 #[.val (.int p1), .val (.int ln), .val (.int c0), .val (.int c1)] [(.int ln)])) _
    refine XS.ifYes X0.here hx rfl (pc0 := 29) (pc' := 43) rfl (hb hby d25_29) rfl ((if0 _ _).trans (feq hc29_4).2) (by decide) (by decide) ?_
    refine XS.iloadN X0.here hx rfl (hb hby d25_43) rfl ?_
    refine XS.iconst X0.here hx rfl (hb hby d25_44) ?_
    exact hgo
  by_cases hc45_14 : ln = (1 : Int32)
  ·have R16 : Rc p e below A0 (s₁.setTop (mkF m 49 #[.val (.int p1), .val (.int ln), .val (.int c0), .val (.int c1)] [(.int c0)])) := by
     intro tgt hgo
     refine R15 tgt ?_
     show Steps p.tables e below (s₁.setTop (mkF m 45 #[.val (.int p1), .val (.int ln), .val (.int c0), .val (.int c1)] [(.int 1), (.int ln)])) _
     refine XS.icmpNo X0.here hx rfl (hb hby d25_45) rfl (teq hc45_14).2 ?_
     refine XS.iloadN X0.here hx rfl (hb hby d25_48) rfl ?_
     exact hgo
   obtain ⟨_, _, ⟨T17, L17, k17, n17⟩, -, X17, ⟨Lc17, hQ17, l17, y17, z17⟩, st17⟩ := Jvm.LawKit.callS X0 hx (y := yn24) hown (mvT hZ (w 177 rfl)) (mvT hZ (w 178 rfl)) (mvT hZ (w 5 rfl)) (mvT hZ (w 179 rfl)) (by decide) (backOf (W := 0) (rm_vo l Z a0 hw [] c0 zc h0 n0 hZn hOld S_cs hz hc0) hZ (w 179 rfl) (w 5 rfl) (by decide) (by decide)) (g := (mkF m 49 #[.val (.int p1), .val (.int ln), .val (.int c0), .val (.int c1)] [(.int c0)])) rfl (by rw [hml]; rfl) (argsL := [(.int c0)]) (rest := []) (lenOf pd_16 rfl) rfl (by show 2 * 0 + _ ≤ _; exact Nat.le_of_eq rfl) (hb hby d25_49) (fun _ _ => ⟨rfl, e0, (by decide : 0 + 2 ≤ _), (by decide : 0 + 5 ≤ _)⟩)
   dsimp only [Pt.U, Pt.locs, Pt.cells, Pt.slots] at X17 l17 y17 z17 st17 hQ17
   subst l17 y17 z17
   obtain ⟨⟨str, rfl, sz_str0, ge_str, E_str⟩, N17q, K17⟩ := hQ17
   have N17 := Fr.app N0 N17q
   have R18 := Rc.st R16 st17
   have sz_str := Nat.le_trans hK.1 sz_str0
   have sfk : ∀ x ∈ ([] : List Addr), Safe Z consts_1 s.vm h0 x := all0
   replace hR := hR.trans (CHr.keep K17 sfk hR.1)
   replace hk := Nat.le_trans hk K17.1
   replace hZn := Nat.le_trans hZn K17.1
   replace hK := hK.trans K17 all0
   replace hOld := hOld.keep K17 all0
   subst hA0
   obtain ⟨fs, hr, hrun, hended, hRW⟩ := X17.leaveW hS hk (v := some (.ref str)) (fun h => by rw [Bd.returns] at h; cases h) Bd.notSynchronized
   refine ⟨_, _, R18 _ ?_, hrun, hended, _, _, rfl, ?_, ?_, OwnKit.own_fin hRW (by decide) (by decide)⟩
   ·show Steps p.tables e below (T17.setTop (mkF m 52 #[.val (.int p1), .val (.int ln), .val (.int c0), .val (.int c1)] [(.ref str)])) _
    jvm_step X17.here [X17.here.top, hx, (hb hby d25_52), X17.method', Bd.returns, Value.isRef, FieldType.isReference]
    first | (intro acts; rw [hr _ acts rfl rfl rfl]) | rw [hr _ _ rfl rfl rfl]
    exact Steps.refl _
   ·show Qst Z h0 n0 _ T17.heap _
    exact ⟨⟨_, rfl, sz_str, ge_str, E_str⟩, N17, hK⟩
   ·show CHr Z consts_1 s.vm s.heap T17.vm T17.heap
    rw [hh]
    exact hR.trans (CHv.at X17 hZ hEL hR.1)
  ·have R19 : Rc p e below A0 (s₁.setTop (mkF m 53 #[.val (.int p1), .val (.int ln), .val (.int c0), .val (.int c1)] [])) := by
     intro tgt hgo
     refine R15 tgt ?_
     show Steps p.tables e below (s₁.setTop (mkF m 45 #[.val (.int p1), .val (.int ln), .val (.int c0), .val (.int c1)] [(.int 1), (.int ln)])) _
     refine XS.icmpYes X0.here hx rfl (pc0 := 45) (pc' := 53) rfl (hb hby d25_45) rfl (feq hc45_14).2 (by decide) (by decide) ?_
     exact hgo
   obtain ⟨T20, h20, X20, e20, E20, A20, D20, -, st20⟩ := newO X0 hx hZ hown (w 16 rfl) (w 6 rfl) (w 5 rfl) e0 (g := (mkF m 53 #[.val (.int p1), .val (.int ln), .val (.int c0), .val (.int c1)] [])) rfl (hb hby d25_53) (by decide) (by decide)
   obtain ⟨str, g20⟩ : ∃ z, z = h0.size := ⟨_, rfl⟩
   rw [← g20] at A20 D20 st20
   have ge_str : n0 ≤ str := Nat.le_trans hZn (Nat.le_of_eq g20.symm)
   have sz_str : h0.size ≤ str := Nat.le_trans hK.1 (Nat.le_of_eq g20.symm)
   have Sf_str : Safe Z consts_1 s.vm h0 str := Safe.new (Nat.le_of_eq g20.symm)
   replace Sf_str := Safe.ext E20 hR.1 Sf_str
   replace hR := hR.trans (CHr.ext E20 hR.1)
   replace hk := Nat.le_trans hk E20.1
   replace hZn := Nat.le_trans hZn E20.1
   replace hK := hK.ext E20
   replace hOld := hOld.ext E20
   have E_str := A20
   have F_value_str : Fld Z h20 str "java/lang/String" "value" "[B" .null := D20 (Or.inr (w 8 rfl)) (ty := (.array .byte)) (by decide)
   have F_coder_str : Fld Z h20 str "java/lang/String" "coder" "B" (.int 0) := D20 (Or.inr (w 9 rfl)) (ty := .byte) (by decide)
   have R21 := Rc.st R19 st20
   have R22 : Rc p e below A0 (T20.setTop (mkF m 58 #[.val (.int p1), .val (.int ln), .val (.int c0), .val (.int c1)] [(.int 2), (.ref str), (.ref str)])) := by
     intro tgt hgo
     refine R21 tgt ?_
     show Steps p.tables e below (T20.setTop (mkF m 56 #[.val (.int p1), .val (.int ln), .val (.int c0), .val (.int c1)] [(.ref str)])) _
     refine XS.dup X20.here hx rfl (hb hby d25_56) rfl rfl ?_
     refine XS.iconst X20.here hx rfl (hb hby d25_57) ?_
     exact hgo
   obtain ⟨T23, h23, k23, X23, e23, E23, A23, st23⟩ := newP X20 hx hZ (w 17 rfl) e20 (g := (mkF m 58 #[.val (.int p1), .val (.int ln), .val (.int c0), .val (.int c1)] [(.int 2), (.ref str), (.ref str)])) rfl (hb hby d25_58) rfl (by decide) (cap := 2) (by decide) (by decide) (by decide) (by decide)
   obtain ⟨sb, g23⟩ : ∃ z, z = h20.size := ⟨_, rfl⟩
   rw [← g23] at A23 st23
   have ne_str_sb : str ≠ sb := Nat.ne_of_lt (Nat.lt_of_lt_of_le E_str.lt (Nat.le_of_eq g23.symm))
   have ge_sb : n0 ≤ sb := Nat.le_trans hZn (Nat.le_of_eq g23.symm)
   have sz_sb : h0.size ≤ sb := Nat.le_trans hK.1 (Nat.le_of_eq g23.symm)
   have Sf_sb : Safe Z consts_1 s.vm h20 sb := Safe.new (Nat.le_of_eq g23.symm)
   replace Sf_str := Safe.ext E23 hR.1 Sf_str
   replace Sf_sb := Safe.ext E23 hR.1 Sf_sb
   replace hR := hR.trans (CHr.ext E23 hR.1)
   replace hk := Nat.le_trans hk E23.1
   replace hZn := Nat.le_trans hZn E23.1
   replace hK := hK.ext E23
   replace hOld := hOld.ext E23
   replace E_str := E_str.ext E23
   replace F_value_str := F_value_str.ext E23
   replace F_coder_str := F_coder_str.ext E23
   have V_sb : Arv Z h23 sb k23 .char (2 : Int32) [(.int 0), (.int 0)] (.int 0) := (Arv.new A23 (by decide)).pad (pad_rep [] (.int 0) 2)
   have R24 := Rc.st R22 st23
   have R25 : Rc p e below A0 (T23.setTop (mkF m 63 #[.val (.int p1), .val (.int ln), .val (.int c0), .val (.int c1)] [(.int c0), (.int 0), (.ref sb), (.ref sb), (.ref str), (.ref str)])) := by
     intro tgt hgo
     refine R24 tgt ?_
     show Steps p.tables e below (T23.setTop (mkF m 60 #[.val (.int p1), .val (.int ln), .val (.int c0), .val (.int c1)] [(.ref sb), (.ref str), (.ref str)])) _
     refine XS.dup X23.here hx rfl (hb hby d25_60) rfl rfl ?_
     refine XS.iconst X23.here hx rfl (hb hby d25_61) ?_
     refine XS.iloadN X23.here hx rfl (hb hby d25_62) rfl ?_
     exact hgo
   obtain ⟨cl26, Ar26, q26, S26, Nn26, H26, G26⟩ := V_sb
   have hin26 : ¬ ((0 : Int32) < 0 ∨ cl26.slots.size ≤ ((0 : Int32)).toNatClampNeg) := inb_of S26 ⟨by decide, by decide⟩
   obtain ⟨T26, h26, X26, e26, W26, st26⟩ := stC X23 hx hZ e23 Ar26 (j := (0 : Int32)) hin26 (g := (mkF m 63 #[.val (.int p1), .val (.int ln), .val (.int c0), .val (.int c1)] [(.int c0), (.int 0), (.ref sb), (.ref sb), (.ref str), (.ref str)])) rfl rfl (hb hby d25_63)
   have sfw26 : Safe Z consts_1 s.vm h23 sb := (Safe.arr hZ.alike Ar26 (by decide))
   replace Sf_str := Safe.wr W26 sfw26 hR.1 Sf_str
   replace Sf_sb := Safe.wr W26 sfw26 hR.1 Sf_sb
   replace hR := hR.trans (CHr.wr W26 sfw26 hR.1)
   replace hk := Nat.le_trans hk (Keep.of_wr W26).1
   replace hZn := Nat.le_trans hZn (Keep.of_wr W26).1
   replace hK := hK.wr W26 (Or.inr sz_sb)
   replace hOld := hOld.wr W26 ge_sb
   replace E_str := E_str.wr W26
   replace F_value_str := F_value_str.other W26 (Or.inl ne_str_sb)
   replace F_coder_str := F_coder_str.other W26 (Or.inl ne_str_sb)
   have V_sb : Arv Z h26 sb k23 .char (2 : Int32) [(.int (nar .char c0)), (.int 0)] (.int 0) := Arv.set Ar26 q26 S26 Nn26 H26 G26 (fits_nar_char _) W26 0 rfl (Nat.le_of_ble_eq_true rfl)
   have N26 := Fr.snoc X26 N0 ge_sb
   have R27 := Rc.st R25 st26
   rw [own_narc hc0] at V_sb
   have R28 : Rc p e below A0 (T26.setTop (mkF m 67 #[.val (.int p1), .val (.int ln), .val (.int c0), .val (.int c1)] [(.int c1), (.int 1), (.ref sb), (.ref sb), (.ref str), (.ref str)])) := by
     intro tgt hgo
     refine R27 tgt ?_
     show Steps p.tables e below (T26.setTop (mkF m 64 #[.val (.int p1), .val (.int ln), .val (.int c0), .val (.int c1)] [(.ref sb), (.ref str), (.ref str)])) _
     refine XS.dup X26.here hx rfl (hb hby d25_64) rfl rfl ?_
     refine XS.iconst X26.here hx rfl (hb hby d25_65) ?_
     refine XS.iloadN X26.here hx rfl (hb hby d25_66) rfl ?_
     exact hgo
   obtain ⟨cl29, Ar29, q29, S29, Nn29, H29, G29⟩ := V_sb
   have hin29 : ¬ ((1 : Int32) < 0 ∨ cl29.slots.size ≤ ((1 : Int32)).toNatClampNeg) := inb_of S29 ⟨by decide, by decide⟩
   obtain ⟨T29, h29, X29, e29, W29, st29⟩ := stC X26 hx hZ e26 Ar29 (j := (1 : Int32)) hin29 (g := (mkF m 67 #[.val (.int p1), .val (.int ln), .val (.int c0), .val (.int c1)] [(.int c1), (.int 1), (.ref sb), (.ref sb), (.ref str), (.ref str)])) rfl rfl (hb hby d25_67)
   have sfw29 : Safe Z consts_1 s.vm h26 sb := (Safe.arr hZ.alike Ar29 (by decide))
   replace Sf_str := Safe.wr W29 sfw29 hR.1 Sf_str
   replace Sf_sb := Safe.wr W29 sfw29 hR.1 Sf_sb
   replace hR := hR.trans (CHr.wr W29 sfw29 hR.1)
   replace hk := Nat.le_trans hk (Keep.of_wr W29).1
   replace hZn := Nat.le_trans hZn (Keep.of_wr W29).1
   replace hK := hK.wr W29 (Or.inr sz_sb)
   replace hOld := hOld.wr W29 ge_sb
   replace E_str := E_str.wr W29
   replace F_value_str := F_value_str.other W29 (Or.inl ne_str_sb)
   replace F_coder_str := F_coder_str.other W29 (Or.inl ne_str_sb)
   have V_sb : Arv Z h29 sb k23 .char (2 : Int32) [(.int c0), (.int (nar .char c1))] (.int 0) := Arv.set Ar29 q29 S29 Nn29 H29 G29 (fits_nar_char _) W29 1 rfl (Nat.le_of_ble_eq_true rfl)
   have N29 := Fr.snoc X29 N26 ge_sb
   have R30 := Rc.st R28 st29
   rw [own_narc hc1] at V_sb
   have hlat : ∀ c ∈ [c0, c1], ¬ c < 0 ∧ ¬ (255 : Int32) < c := by
     intro c hc
     simp only [List.mem_cons, List.not_mem_nil, or_false] at hc
     rcases hc with rfl | rfl
     · exact own_lat hc0
     · exact own_lat hc1
   obtain ⟨_, _, ⟨T31, L31, k31, n31⟩, -, X31, ⟨Lc31, hQ31, l31, y31, z31⟩, st31⟩ := X29.specialBack hx (y := yn26) rfl hown (mvT hZ (w 18 rfl)) (mvT hZ (w 19 rfl)) (mvT hZ (w 20 rfl)) (by decide) (StrChars.Road.backV (W := 1) hZ hws (kI := 4) (w 6 rfl) (cs := [c0, c1]) (bs := [own_b c0, own_b c1]) (n := 2) ge_str hZn E_str F_value_str F_coder_str V_sb (S_cs.ext hOld.2) hz rfl rfl (by decide) (by decide) hlat rfl (by decide) (by decide)) (g := (mkF m 68 #[.val (.int p1), .val (.int ln), .val (.int c0), .val (.int c1)] [(.ref sb), (.ref str), (.ref str)])) rfl (by rw [hml]; rfl) (Steps.refl _) (a := str) (argsL := [(.ref sb)]) (rest := [(.ref str)]) (lenOf pd_15 rfl) rfl (by show 2 * 0 + _ ≤ _; exact Nat.le_of_eq rfl) (hb hby d25_68) (fun _ _ => ⟨rfl, e29, (by decide : 2 + 1 ≤ _), (by decide : 6 + 2 ≤ _)⟩)
   dsimp only [Pt.U, Pt.locs, Pt.cells, Pt.slots] at X31 l31 y31 z31 st31 hQ31
   subst l31 y31 z31
   obtain ⟨rfl, N31q, K31, g31a, g31b, tb, kb, g31c, g31d, g31e, g31f, g31g⟩ := hQ31
   have N31 := Fr.app N29 N31q
   have R32 := Rc.tr R30 st31
   have sfk : ∀ x ∈ ([str] : List Addr), Safe Z consts_1 s.vm h29 x := (allS Sf_str all0)
   replace Sf_str := Safe.keep K31 sfk hR.1 Sf_str
   replace Sf_sb := Safe.keep K31 sfk hR.1 Sf_sb
   replace hR := hR.trans (CHr.keep K31 sfk hR.1)
   replace hk := Nat.le_trans hk K31.1
   replace hZn := Nat.le_trans hZn K31.1
   replace hK := hK.trans K31 (allS (Or.inr sz_str) all0)
   replace hOld := hOld.keep K31 (allS ge_str all0)
   replace E_str := E_str.keep K31
   replace V_sb := V_sb.keep K31 (ninS (Ne.symm ne_str_sb) nin0)
   subst hA0
   obtain ⟨fs, hr, hrun, hended, hRW⟩ := X31.leaveW hS hk (v := some (.ref str)) (fun h => by rw [Bd.returns] at h; cases h) Bd.notSynchronized
   refine ⟨_, _, R32 _ ?_, hrun, hended, _, _, rfl, ?_, ?_, OwnKit.own_fin hRW (by decide) (by decide)⟩
   ·show Steps p.tables e below (T31.setTop (mkF m 71 #[.val (.int p1), .val (.int ln), .val (.int c0), .val (.int c1)] [(.ref str)])) _
    jvm_step X31.here [X31.here.top, hx, (hb hby d25_71), X31.method', Bd.returns, Value.isRef, FieldType.isReference]
    first | (intro acts; rw [hr _ acts rfl rfl rfl]) | rw [hr _ _ rfl rfl rfl]
    exact Steps.refl _
   ·show Qst Z h0 n0 _ T31.heap _
    exact ⟨⟨_, rfl, sz_str, ge_str, E_str⟩, N31, hK⟩
   ·show CHr Z consts_1 s.vm s.heap T31.vm T31.heap
    rw [hh]
    exact hR.trans (CHv.at X31 hZ hEL hR.1)
def Q0 (n0 : Nat) (v : Option Value) (h : Heap) (L : List Loc) : Prop := v = some (.int 1) ∧ Fr n0 L
def own_K (Z : State) (h : Heap) (kd tk b : Addr) (k : ClassId) (bs : List Int32) : Prop := Exa Z h kd "com/example/verdict_ladder/verdictladder/lint/Finding$Kind" ∧ Fld Z h kd "com/example/verdict_ladder/verdictladder/lint/Finding$Kind" "token" "Ljava/lang/String;" (.ref tk) ∧ StrF Z h tk b k bs
theorem own_K.ext {Z : State} {h h' : Heap} {kd tk b : Addr} {k : ClassId} {bs : List Int32} (K : own_K Z h kd tk b k bs) (E : Ext h h') : own_K Z h' kd tk b k bs := ⟨K.1.ext E, K.2.1.ext E, K.2.2.1.ext E, K.2.2.2.1.ext E, K.2.2.2.2.1.ext E, K.2.2.2.2.2.ext E⟩
theorem ef_rm_law (m : MethodId) (p1 : Int32) (p2 : Int32) (p3 : Int32) (p4 : Int32) (p5 : Int32) : entryFrame m #[(.int p1), (.int p2), (.int p3), (.int p4), (.int p5)] maxLocals = mkF m 0 #[.val (.int p1), .val (.int p2), .val (.int p3), .val (.int p4), .val (.int p5), .unset, .unset, .unset, .unset, .unset, .unset, .unset, .unset, .unset, .unset, .unset] [] := by first | (simp [entryFrame, mkF, argsToLocals, Value.category, maxLocals]; done) | rfl
theorem pd_17 : parseMethodDescriptor "(I)Ljava/lang/String;" = some ⟨[.int], some (.object "java/lang/String")⟩ := by decide +kernel
theorem pd_18 : parseMethodDescriptor "(Lcom/example/verdict_ladder/verdictladder/lint/Finding$Kind;[Ljava/lang/String;)V" = some ⟨[(.object "com/example/verdict_ladder/verdictladder/lint/Finding$Kind"), (.array (.object "java/lang/String"))], none⟩ := by decide +kernel
theorem pd_19 : parseMethodDescriptor "()[Ljava/lang/String;" = some ⟨[], some (.array (.object "java/lang/String"))⟩ := by decide +kernel
theorem pd_20 : parseMethodDescriptor "([Ljava/lang/String;ILjava/lang/String;Ljava/lang/String;Ljava/lang/String;Ljava/lang/String;)Z" = some ⟨[(.array (.object "java/lang/String")), .int, (.object "java/lang/String"), (.object "java/lang/String"), (.object "java/lang/String"), (.object "java/lang/String")], some .boolean⟩ := by decide +kernel
set_option maxRecDepth 65536 in
set_option maxHeartbeats 40000000 in
theorem rm_law (l : Launch) (Z : State) (a0 : Array Value) (hw : ∀ d ∈ tables_1, d.before a0 Z = true) (ws : List Jvm.Cond) (p1 : Int32) (p2 : Int32) (p3 : Int32) (p4 : Int32) (p5 : Int32) (zc : Int32) (kd_sh tk_sh bt_sh : Addr) (kt_sh : ClassId) (kd_un tk_un bt_un : Addr) (kt_un : ClassId) (kd_bo tk_bo bt_bo : Addr) (kt_bo : ClassId) (el ea em : Addr) (ke : ClassId) (h0 : Heap) (n0 : Nat) (Z0 : n0 ≤ h0.size) (X00 : Old Z n0 h0) (S_cs : Sta Z Z.heap "java/lang/String" "COMPACT_STRINGS" "Z" (.int zc)) (hz : ¬ zc = 0) (S_sh : Sta Z Z.heap "com/example/verdict_ladder/verdictladder/lint/Finding$Kind" "SHADOWED" "Lcom/example/verdict_ladder/verdictladder/lint/Finding$Kind;" (.ref kd_sh)) (KP_sh : own_K Z h0 kd_sh tk_sh bt_sh kt_sh own_sh) (S_un : Sta Z Z.heap "com/example/verdict_ladder/verdictladder/lint/Finding$Kind" "UNREACHABLE" "Lcom/example/verdict_ladder/verdictladder/lint/Finding$Kind;" (.ref kd_un)) (KP_un : own_K Z h0 kd_un tk_un bt_un kt_un own_un) (S_bo : Sta Z Z.heap "com/example/verdict_ladder/verdictladder/lint/Finding$Kind" "BOTH_LISTS" "Lcom/example/verdict_ladder/verdictladder/lint/Finding$Kind;" (.ref kd_bo)) (KP_bo : own_K Z h0 kd_bo tk_bo bt_bo kt_bo own_bo) (S_el : Sta Z Z.heap "java/util/ImmutableCollections" "EMPTY_LIST" "Ljava/util/ImmutableCollections$ListN;" (.ref el)) (Eel : Exa Z h0 el "java/util/ImmutableCollections$ListN") (Fel : Fld Z h0 el "java/util/ImmutableCollections$ListN" "elements" "[Ljava/lang/Object;" (.ref ea)) (Vel : Arv Z h0 ea ke (.object "java/lang/Object") 0 [] .null) (S_em : Sta Z Z.heap "java/util/ImmutableCollections" "EMPTY" "Ljava/lang/Object;" (.ref em)) (Eem : Exa Z h0 em "java/lang/Object") :
    MetFree l x (head1 (Jvm.Cond.code x code maxLocals ret :: ws) room_1) (fun a U => a = #[(.int p1), (.int p2), (.int p3), (.int p4), (.int p5)] ∧ Z.Warmed39 U.vm ∧ U.heap = h0 ∧ CHv Z consts_1 U.vm h0) (fun _ _ _ _ _ => True) (fun _ U o U' => ∃ v L, o = .returned v ∧ Q0 n0 v U'.heap L ∧ ReturnedEndW U o U' L room_1.cells room_1.slots) := by
 refine MetFree.of_bodySF (plainFor_of_name pn_com_example_verdict_ladder_verdictladder_lint_FindingLinePinLaw) hisR ?_
 intro p e s m args below meth c s₁ Bd hml0 hP hK
 obtain ⟨rfl, hZ, hh, hCH⟩ := hP
 have hx := Bd.exec
 have hby := Bd.bytes
 have hml : c.maxLocals = 16 := hml0
 have hown : (s.setVm s.vm).vm.findClass "com/example/verdict_ladder/verdictladder/lint/FindingLinePinLaw" = some m.cls := findClass_of_methodNamed Bd.named
 have hnm := (name_of_methodNamed Bd.named Bd.method).1
 replace hZ : Z.Warmed39 (s.setVm s.vm).vm := hZ
 have X0 : Stand p l e room_1 (s.setVm s.vm) m #[(.int p1), (.int p2), (.int p3), (.int p4), (.int p5)] below meth c s₁ [] 0 0 := Stand.of_body Bd
 have e0 : s₁.heap = h0 := by rw [← hh, Bd.state]; rfl
 have N0 := Fr.nil n0
 have hS := OwnKit.own_since s h0.size
 have hk : h0.size ≤ h0.size := Nat.le_refl _
 have hEL : EW Z a0 consts_1 := own_EL hw
 have wS : ∀ a ∈ Bundle.stringAtoms, a.before a0 Z = true := fun d hd => hw d ((by decide +kernel : ∀ d ∈ Bundle.stringAtoms, d ∈ tables_1) d hd)
 obtain ⟨A0, hA0⟩ : ∃ A, A = s₁.setTop (entryFrame m #[(.int p1), (.int p2), (.int p3), (.int p4), (.int p5)] maxLocals) := ⟨_, rfl⟩
 have R0 : ∀ tgt, Steps p.tables e below (s₁.setTop (mkF m 0 #[.val (.int p1), .val (.int p2), .val (.int p3), .val (.int p4), .val (.int p5), .unset, .unset, .unset, .unset, .unset, .unset, .unset, .unset, .unset, .unset, .unset] [])) tgt → Steps p.tables e below A0 tgt := fun tgt hgo => by rw [hA0]; exact castTop (ef_rm_law m p1 p2 p3 p4 p5) hgo
 have w : ∀ (i : Nat) {d : Jvm.Cond}, tables_1[i]? = some d → d.before a0 Z = true := fun i d h => hw d (List.mem_of_getElem? h)
 have hZn := Z0
 have hK : Keep h0 h0 [] := Keep.refl _ _
 have hOld := X00
 have R1 : Rc p e below A0 (s₁.setTop (mkF m 6 #[.val (.int p1), .val (.int p2), .val (.int p3), .val (.int p4), .val (.int p5), .unset, .unset, .unset, .unset, .unset, .unset, .unset, .unset, .unset, .unset, .unset] [(.int ((p1 &&& (2147483647 : Int32)) - (p1 &&& (2147483647 : Int32)) / (3 : Int32) * (3 : Int32)))])) := by
   intro tgt hgo
   refine R0 tgt ?_
   show Steps p.tables e below (s₁.setTop (mkF m 0 #[.val (.int p1), .val (.int p2), .val (.int p3), .val (.int p4), .val (.int p5), .unset, .unset, .unset, .unset, .unset, .unset, .unset, .unset, .unset, .unset, .unset] [])) _
   refine XS.iloadN X0.here hx rfl (hb hby at_0) rfl ?_
   refine X0.ldcInt hx hown (mvT hZ (w 0 rfl)) (g := (mkF m 1 #[.val (.int p1), .val (.int p2), .val (.int p3), .val (.int p4), .val (.int p5), .unset, .unset, .unset, .unset, .unset, .unset, .unset, .unset, .unset, .unset, .unset] [(.int p1)])) rfl (hb hby at_1) _ ?_
   refine XS.iand X0.here hx rfl (hb hby at_3) rfl ?_
   refine XS.iconst X0.here hx rfl (hb hby at_4) ?_
   refine XS.irem X0.here hx rfl (hb hby at_5) rfl (by decide) ?_
   exact hgo
 obtain ⟨kk, e_kk⟩ : ∃ z : Int32, z = ((p1 &&& (2147483647 : Int32)) - (p1 &&& (2147483647 : Int32)) / (3 : Int32) * (3 : Int32)) := ⟨_, rfl⟩
 rw [← e_kk] at R1
 have R2 : Rc p e below A0 (s₁.setTop (mkF m 8 #[.val (.int p1), .val (.int p2), .val (.int p3), .val (.int p4), .val (.int p5), .val (.int kk), .unset, .unset, .unset, .unset, .unset, .unset, .unset, .unset, .unset, .unset] [])) := by
   intro tgt hgo
   refine R1 tgt ?_
   show Steps p.tables e below (s₁.setTop (mkF m 6 #[.val (.int p1), .val (.int p2), .val (.int p3), .val (.int p4), .val (.int p5), .unset, .unset, .unset, .unset, .unset, .unset, .unset, .unset, .unset, .unset, .unset] [(.int kk)])) _
   refine XS.istore X0.here hx rfl (hb hby at_6) rfl (l' := #[.val (.int p1), .val (.int p2), .val (.int p3), .val (.int p4), .val (.int p5), .val (.int kk), .unset, .unset, .unset, .unset, .unset, .unset, .unset, .unset, .unset, .unset]) rfl ?_
   exact hgo
 refine cps (A := ∃ (vmA : Vm) (TA : State) (hA : Heap) (kA : Nat) (kd tk lt bt bl : Addr) (kt kl : ClassId) (bs : List Int32), Stand p l e room_1 (s.setVm vmA) m #[(.int p1), (.int p2), (.int p3), (.int p4), (.int p5)] below meth c TA [] 2 48 ∧ TA.heap = hA ∧ s.Since vmA kA ∧ kA ≤ hA.size ∧ Z.Warmed39 (s.setVm vmA).vm ∧ (s.setVm vmA).vm.findClass "com/example/verdict_ladder/verdictladder/lint/FindingLinePinLaw" = some m.cls ∧ CHv Z consts_1 vmA hA ∧ n0 ≤ hA.size ∧ Old Z n0 hA ∧ Keep h0 hA [] ∧ own_tok bs ∧ own_K Z hA kd tk bt kt bs ∧ StrF Z hA lt bl kl bs ∧ Rc p e below A0 (TA.setTop (mkF m 52 #[.val (.int p1), .val (.int p2), .val (.int p3), .val (.int p4), .val (.int p5), .val (.int kk), .val (.ref kd), .val (.ref lt), .unset, .unset, .unset, .unset, .unset, .unset, .unset, .unset] []))) ?_ ?_
 ·intro hcont
  have R4 : Rc p e below A0 (s₁.setTop (mkF m 10 #[.val (.int p1), .val (.int p2), .val (.int p3), .val (.int p4), .val (.int p5), .val (.int kk), .unset, .unset, .unset, .unset, .unset, .unset, .unset, .unset, .unset, .unset] [(.int kk)])) := by
    intro tgt hgo
    refine R2 tgt ?_
    show Steps p.tables e below (s₁.setTop (mkF m 8 #[.val (.int p1), .val (.int p2), .val (.int p3), .val (.int p4), .val (.int p5), .val (.int kk), .unset, .unset, .unset, .unset, .unset, .unset, .unset, .unset, .unset, .unset] [])) _
    refine XS.iload X0.here hx rfl (hb hby at_8) rfl ?_
    exact hgo
  by_cases hc10_3 : kk = (0 : Int32)
  ·have R5 : Rc p e below A0 (s₁.setTop (mkF m 13 #[.val (.int p1), .val (.int p2), .val (.int p3), .val (.int p4), .val (.int p5), .val (.int kk), .unset, .unset, .unset, .unset, .unset, .unset, .unset, .unset, .unset, .unset] [])) := by
     intro tgt hgo
     refine R4 tgt ?_
     show Steps p.tables e below (s₁.setTop (mkF m 10 #[.val (.int p1), .val (.int p2), .val (.int p3), .val (.int p4), .val (.int p5), .val (.int kk), .unset, .unset, .unset, .unset, .unset, .unset, .unset, .unset, .unset, .unset] [(.int kk)])) _
     refine XS.ifNo X0.here hx rfl (hb hby at_10) rfl ((if0 _ _).trans (teq hc10_3).2) ?_
     exact hgo
   obtain ⟨T6, X6, e6, st6⟩ := getS2 X0 hx hZ hown (host := "") (Or.inl (w 1 rfl)) Via.refl e0 (S_sh.ext hOld.2) (g := (mkF m 13 #[.val (.int p1), .val (.int p2), .val (.int p3), .val (.int p4), .val (.int p5), .val (.int kk), .unset, .unset, .unset, .unset, .unset, .unset, .unset, .unset, .unset, .unset] [])) rfl (hb hby at_13)
   have R7 := Rc.st R5 st6
   have R8 : Rc p e below A0 (T6.setTop (mkF m 18 #[.val (.int p1), .val (.int p2), .val (.int p3), .val (.int p4), .val (.int p5), .val (.int kk), .val (.ref kd_sh), .unset, .unset, .unset, .unset, .unset, .unset, .unset, .unset, .unset] [])) := by
     intro tgt hgo
     refine R7 tgt ?_
     show Steps p.tables e below (T6.setTop (mkF m 16 #[.val (.int p1), .val (.int p2), .val (.int p3), .val (.int p4), .val (.int p5), .val (.int kk), .unset, .unset, .unset, .unset, .unset, .unset, .unset, .unset, .unset, .unset] [(.ref kd_sh)])) _
     refine XS.astore X6.here hx rfl (hb hby at_16) rfl rfl (l' := #[.val (.int p1), .val (.int p2), .val (.int p3), .val (.int p4), .val (.int p5), .val (.int kk), .val (.ref kd_sh), .unset, .unset, .unset, .unset, .unset, .unset, .unset, .unset, .unset]) rfl ?_
     exact hgo
   obtain ⟨lt, T9, h9, k1_9, b_lt, kb_lt, X9, e9, E9, hS9, hk9, hZ9, hown9, E_lt, Fc_lt, Fv_lt, V_lt, lta9, ltb9, CR9, LT9, sf9, st9⟩ := ldcCH X6 hx hZ hown (w 4 rfl) wS e6 hS hk hEL (List.mem_of_getElem? (i := 0) rfl) hCH (vs := [(.int 115), (.int 104), (.int 97), (.int 100), (.int 111), (.int 119), (.int 101), (.int 100)]) (z := (8 : Int32)) ⟨by decide, by decide⟩ (by decide) rfl (g := (mkF m 18 #[.val (.int p1), .val (.int p2), .val (.int p3), .val (.int p4), .val (.int p5), .val (.int kk), .val (.ref kd_sh), .unset, .unset, .unset, .unset, .unset, .unset, .unset, .unset, .unset] [])) rfl (hb hby at_18) (n := 32) (by decide) (by decide) (by decide) (by decide)
   replace hZn := Nat.le_trans hZn E9.1
   replace hK := hK.ext E9
   replace hOld := hOld.ext E9
   replace hS := hS9
   replace hZ := hZ9
   replace hown := hown9
   replace hk := hk9
   have hCH := CR9.1
   have R10 := Rc.st R8 st9
   have KPn := KP_sh.ext E9
   have R11 : Rc p e below A0 (T9.setTop (mkF m 52 #[.val (.int p1), .val (.int p2), .val (.int p3), .val (.int p4), .val (.int p5), .val (.int kk), .val (.ref kd_sh), .val (.ref lt), .unset, .unset, .unset, .unset, .unset, .unset, .unset, .unset] [])) := by
     intro tgt hgo
     refine R10 tgt ?_
     show Steps p.tables e below (T9.setTop (mkF m 20 #[.val (.int p1), .val (.int p2), .val (.int p3), .val (.int p4), .val (.int p5), .val (.int kk), .val (.ref kd_sh), .unset, .unset, .unset, .unset, .unset, .unset, .unset, .unset, .unset] [(.ref lt)])) _
     refine XS.astore X9.here hx rfl (hb hby at_20) rfl rfl (l' := #[.val (.int p1), .val (.int p2), .val (.int p3), .val (.int p4), .val (.int p5), .val (.int kk), .val (.ref kd_sh), .val (.ref lt), .unset, .unset, .unset, .unset, .unset, .unset, .unset, .unset]) rfl ?_
     refine XS.goto X9.here hx rfl (pc0 := 22) (pc' := 52) rfl (hb hby at_22) (by decide) (by decide) ?_
     exact hgo
   exact hcont ⟨_, _, _, _, kd_sh, tk_sh, lt, bt_sh, b_lt, kt_sh, kb_lt, own_sh, X9.more (by decide) (by decide), e9, hS, hk, hZ, hown, hCH, hZn, hOld, hK, Or.inl rfl, KPn, ⟨E_lt, Fc_lt, Fv_lt, V_lt⟩, R11⟩
  ·have R13 : Rc p e below A0 (s₁.setTop (mkF m 28 #[.val (.int p1), .val (.int p2), .val (.int p3), .val (.int p4), .val (.int p5), .val (.int kk), .unset, .unset, .unset, .unset, .unset, .unset, .unset, .unset, .unset, .unset] [(.int 1), (.int kk)])) := by
     intro tgt hgo
     refine R4 tgt ?_
     show Steps p.tables e below (s₁.setTop (mkF m 10 #[.val (.int p1), .val (.int p2), .val (.int p3), .val (.int p4), .val (.int p5), .val (.int kk), .unset, .unset, .unset, .unset, .unset, .unset, .unset, .unset, .unset, .unset] [(.int kk)])) _
     refine XS.ifYes X0.here hx rfl (pc0 := 10) (pc' := 25) rfl (hb hby at_10) rfl ((if0 _ _).trans (feq hc10_3).2) (by decide) (by decide) ?_
     refine XS.iload X0.here hx rfl (hb hby at_25) rfl ?_
     refine XS.iconst X0.here hx rfl (hb hby at_27) ?_
     exact hgo
   by_cases hc28_12 : kk = (1 : Int32)
   ·have R14 : Rc p e below A0 (s₁.setTop (mkF m 31 #[.val (.int p1), .val (.int p2), .val (.int p3), .val (.int p4), .val (.int p5), .val (.int kk), .unset, .unset, .unset, .unset, .unset, .unset, .unset, .unset, .unset, .unset] [])) := by
      intro tgt hgo
      refine R13 tgt ?_
      show Steps p.tables e below (s₁.setTop (mkF m 28 #[.val (.int p1), .val (.int p2), .val (.int p3), .val (.int p4), .val (.int p5), .val (.int kk), .unset, .unset, .unset, .unset, .unset, .unset, .unset, .unset, .unset, .unset] [(.int 1), (.int kk)])) _
      refine XS.icmpNo X0.here hx rfl (hb hby at_28) rfl (teq hc28_12).2 ?_
      exact hgo
    obtain ⟨T15, X15, e15, st15⟩ := getS2 X0 hx hZ hown (host := "") (Or.inl (w 164 rfl)) Via.refl e0 (S_un.ext hOld.2) (g := (mkF m 31 #[.val (.int p1), .val (.int p2), .val (.int p3), .val (.int p4), .val (.int p5), .val (.int kk), .unset, .unset, .unset, .unset, .unset, .unset, .unset, .unset, .unset, .unset] [])) rfl (hb hby at_31)
    have R16 := Rc.st R14 st15
    have R17 : Rc p e below A0 (T15.setTop (mkF m 36 #[.val (.int p1), .val (.int p2), .val (.int p3), .val (.int p4), .val (.int p5), .val (.int kk), .val (.ref kd_un), .unset, .unset, .unset, .unset, .unset, .unset, .unset, .unset, .unset] [])) := by
      intro tgt hgo
      refine R16 tgt ?_
      show Steps p.tables e below (T15.setTop (mkF m 34 #[.val (.int p1), .val (.int p2), .val (.int p3), .val (.int p4), .val (.int p5), .val (.int kk), .unset, .unset, .unset, .unset, .unset, .unset, .unset, .unset, .unset, .unset] [(.ref kd_un)])) _
      refine XS.astore X15.here hx rfl (hb hby at_34) rfl rfl (l' := #[.val (.int p1), .val (.int p2), .val (.int p3), .val (.int p4), .val (.int p5), .val (.int kk), .val (.ref kd_un), .unset, .unset, .unset, .unset, .unset, .unset, .unset, .unset, .unset]) rfl ?_
      exact hgo
    obtain ⟨lt, T18, h18, k1_18, b_lt, kb_lt, X18, e18, E18, hS18, hk18, hZ18, hown18, E_lt, Fc_lt, Fv_lt, V_lt, lta18, ltb18, CR18, LT18, sf18, st18⟩ := ldcCH X15 hx hZ hown (w 166 rfl) wS e15 hS hk hEL (List.mem_of_getElem? (i := 1) rfl) hCH (vs := [(.int 117), (.int 110), (.int 114), (.int 101), (.int 97), (.int 99), (.int 104), (.int 97), (.int 98), (.int 108), (.int 101)]) (z := (11 : Int32)) ⟨by decide, by decide⟩ (by decide) rfl (g := (mkF m 36 #[.val (.int p1), .val (.int p2), .val (.int p3), .val (.int p4), .val (.int p5), .val (.int kk), .val (.ref kd_un), .unset, .unset, .unset, .unset, .unset, .unset, .unset, .unset, .unset] [])) rfl (hb hby at_36) (n := 44) (by decide) (by decide) (by decide) (by decide)
    replace hZn := Nat.le_trans hZn E18.1
    replace hK := hK.ext E18
    replace hOld := hOld.ext E18
    replace hS := hS18
    replace hZ := hZ18
    replace hown := hown18
    replace hk := hk18
    have hCH := CR18.1
    have R19 := Rc.st R17 st18
    have KPn := KP_un.ext E18
    have R20 : Rc p e below A0 (T18.setTop (mkF m 52 #[.val (.int p1), .val (.int p2), .val (.int p3), .val (.int p4), .val (.int p5), .val (.int kk), .val (.ref kd_un), .val (.ref lt), .unset, .unset, .unset, .unset, .unset, .unset, .unset, .unset] [])) := by
      intro tgt hgo
      refine R19 tgt ?_
      show Steps p.tables e below (T18.setTop (mkF m 38 #[.val (.int p1), .val (.int p2), .val (.int p3), .val (.int p4), .val (.int p5), .val (.int kk), .val (.ref kd_un), .unset, .unset, .unset, .unset, .unset, .unset, .unset, .unset, .unset] [(.ref lt)])) _
      refine XS.astore X18.here hx rfl (hb hby at_38) rfl rfl (l' := #[.val (.int p1), .val (.int p2), .val (.int p3), .val (.int p4), .val (.int p5), .val (.int kk), .val (.ref kd_un), .val (.ref lt), .unset, .unset, .unset, .unset, .unset, .unset, .unset, .unset]) rfl ?_
      refine XS.goto X18.here hx rfl (pc0 := 40) (pc' := 52) rfl (hb hby at_40) (by decide) (by decide) ?_
      exact hgo
    exact hcont ⟨_, _, _, _, kd_un, tk_un, lt, bt_un, b_lt, kt_un, kb_lt, own_un, X18.more (by decide) (by decide), e18, hS, hk, hZ, hown, hCH, hZn, hOld, hK, Or.inr (Or.inl rfl), KPn, ⟨E_lt, Fc_lt, Fv_lt, V_lt⟩, R20⟩
   ·have R21 : Rc p e below A0 (s₁.setTop (mkF m 43 #[.val (.int p1), .val (.int p2), .val (.int p3), .val (.int p4), .val (.int p5), .val (.int kk), .unset, .unset, .unset, .unset, .unset, .unset, .unset, .unset, .unset, .unset] [])) := by
      intro tgt hgo
      refine R13 tgt ?_
      show Steps p.tables e below (s₁.setTop (mkF m 28 #[.val (.int p1), .val (.int p2), .val (.int p3), .val (.int p4), .val (.int p5), .val (.int kk), .unset, .unset, .unset, .unset, .unset, .unset, .unset, .unset, .unset, .unset] [(.int 1), (.int kk)])) _
      refine XS.icmpYes X0.here hx rfl (pc0 := 28) (pc' := 43) rfl (hb hby at_28) rfl (feq hc28_12).2 (by decide) (by decide) ?_
      exact hgo
    obtain ⟨T22, X22, e22, st22⟩ := getS2 X0 hx hZ hown (host := "") (Or.inl (w 133 rfl)) Via.refl e0 (S_bo.ext hOld.2) (g := (mkF m 43 #[.val (.int p1), .val (.int p2), .val (.int p3), .val (.int p4), .val (.int p5), .val (.int kk), .unset, .unset, .unset, .unset, .unset, .unset, .unset, .unset, .unset, .unset] [])) rfl (hb hby at_43)
    have R23 := Rc.st R21 st22
    have R24 : Rc p e below A0 (T22.setTop (mkF m 48 #[.val (.int p1), .val (.int p2), .val (.int p3), .val (.int p4), .val (.int p5), .val (.int kk), .val (.ref kd_bo), .unset, .unset, .unset, .unset, .unset, .unset, .unset, .unset, .unset] [])) := by
      intro tgt hgo
      refine R23 tgt ?_
      show Steps p.tables e below (T22.setTop (mkF m 46 #[.val (.int p1), .val (.int p2), .val (.int p3), .val (.int p4), .val (.int p5), .val (.int kk), .unset, .unset, .unset, .unset, .unset, .unset, .unset, .unset, .unset, .unset] [(.ref kd_bo)])) _
      refine XS.astore X22.here hx rfl (hb hby at_46) rfl rfl (l' := #[.val (.int p1), .val (.int p2), .val (.int p3), .val (.int p4), .val (.int p5), .val (.int kk), .val (.ref kd_bo), .unset, .unset, .unset, .unset, .unset, .unset, .unset, .unset, .unset]) rfl ?_
      exact hgo
    obtain ⟨lt, T25, h25, k1_25, b_lt, kb_lt, X25, e25, E25, hS25, hk25, hZ25, hown25, E_lt, Fc_lt, Fv_lt, V_lt, lta25, ltb25, CR25, LT25, sf25, st25⟩ := ldcCH X22 hx hZ hown (w 135 rfl) wS e22 hS hk hEL (List.mem_of_getElem? (i := 2) rfl) hCH (vs := [(.int 98), (.int 111), (.int 116), (.int 104), (.int 45), (.int 108), (.int 105), (.int 115), (.int 116), (.int 115)]) (z := (10 : Int32)) ⟨by decide, by decide⟩ (by decide) rfl (g := (mkF m 48 #[.val (.int p1), .val (.int p2), .val (.int p3), .val (.int p4), .val (.int p5), .val (.int kk), .val (.ref kd_bo), .unset, .unset, .unset, .unset, .unset, .unset, .unset, .unset, .unset] [])) rfl (hb hby at_48) (n := 40) (by decide) (by decide) (by decide) (by decide)
    replace hZn := Nat.le_trans hZn E25.1
    replace hK := hK.ext E25
    replace hOld := hOld.ext E25
    replace hS := hS25
    replace hZ := hZ25
    replace hown := hown25
    replace hk := hk25
    have hCH := CR25.1
    have R26 := Rc.st R24 st25
    have KPn := KP_bo.ext E25
    have R27 : Rc p e below A0 (T25.setTop (mkF m 52 #[.val (.int p1), .val (.int p2), .val (.int p3), .val (.int p4), .val (.int p5), .val (.int kk), .val (.ref kd_bo), .val (.ref lt), .unset, .unset, .unset, .unset, .unset, .unset, .unset, .unset] [])) := by
      intro tgt hgo
      refine R26 tgt ?_
      show Steps p.tables e below (T25.setTop (mkF m 50 #[.val (.int p1), .val (.int p2), .val (.int p3), .val (.int p4), .val (.int p5), .val (.int kk), .val (.ref kd_bo), .unset, .unset, .unset, .unset, .unset, .unset, .unset, .unset, .unset] [(.ref lt)])) _
      refine XS.astore X25.here hx rfl (hb hby at_50) rfl rfl (l' := #[.val (.int p1), .val (.int p2), .val (.int p3), .val (.int p4), .val (.int p5), .val (.int kk), .val (.ref kd_bo), .val (.ref lt), .unset, .unset, .unset, .unset, .unset, .unset, .unset, .unset]) rfl ?_
      exact hgo
    exact hcont ⟨_, _, _, _, kd_bo, tk_bo, lt, bt_bo, b_lt, kt_bo, kb_lt, own_bo, X25.more (by decide) (by decide), e25, hS, hk, hZ, hown, hCH, hZn, hOld, hK, Or.inr (Or.inr rfl), KPn, ⟨E_lt, Fc_lt, Fv_lt, V_lt⟩, R27⟩
 ·rintro ⟨vmA, TA, hA, kA, kd, tk, lt, bt, bl, kt, kl, bs, XA, eA, hSA, hkA, hZA, hownA, hCHA, hZnA, hOldA, hKA, hbs, ⟨Ek, Ft, Et, Ct, Fvt, Vt⟩, ⟨El, Cl, Fvl, Vl⟩, RA⟩
  replace hS := hSA
  replace hk := hkA
  replace hZ := hZA
  replace hown := hownA
  replace hCH := hCHA
  replace hZn := hZnA
  replace hOld := hOldA
  replace hK := hKA
  replace Eel := Eel.keep hK
  replace Eem := Eem.keep hK
  replace Fel := Fel.keep hK nin0
  replace Vel := Vel.keep hK nin0
  have R28 : Rc p e below A0 (TA.setTop (mkF m 55 #[.val (.int p1), .val (.int p2), .val (.int p3), .val (.int p4), .val (.int p5), .val (.int kk), .val (.ref kd), .val (.ref lt), .unset, .unset, .unset, .unset, .unset, .unset, .unset, .unset] [(.int (p2 &&& (3 : Int32)))])) := by
    intro tgt hgo
    refine RA tgt ?_
    show Steps p.tables e below (TA.setTop (mkF m 52 #[.val (.int p1), .val (.int p2), .val (.int p3), .val (.int p4), .val (.int p5), .val (.int kk), .val (.ref kd), .val (.ref lt), .unset, .unset, .unset, .unset, .unset, .unset, .unset, .unset] [])) _
    refine XS.iloadN XA.here hx rfl (hb hby at_52) rfl ?_
    refine XS.iconst XA.here hx rfl (hb hby at_53) ?_
    refine XS.iand XA.here hx rfl (hb hby at_54) rfl ?_
    exact hgo
  obtain ⟨nn, e_nn⟩ : ∃ z : Int32, z = (p2 &&& (3 : Int32)) := ⟨_, rfl⟩
  rw [← e_nn] at R28
  have R29 : Rc p e below A0 (TA.setTop (mkF m 58 #[.val (.int p1), .val (.int p2), .val (.int p3), .val (.int p4), .val (.int p5), .val (.int kk), .val (.ref kd), .val (.ref lt), .val (.int nn), .unset, .unset, .unset, .unset, .unset, .unset, .unset] [(.int p3)])) := by
    intro tgt hgo
    refine R28 tgt ?_
    show Steps p.tables e below (TA.setTop (mkF m 55 #[.val (.int p1), .val (.int p2), .val (.int p3), .val (.int p4), .val (.int p5), .val (.int kk), .val (.ref kd), .val (.ref lt), .unset, .unset, .unset, .unset, .unset, .unset, .unset, .unset] [(.int nn)])) _
    refine XS.istore XA.here hx rfl (hb hby at_55) rfl (l' := #[.val (.int p1), .val (.int p2), .val (.int p3), .val (.int p4), .val (.int p5), .val (.int kk), .val (.ref kd), .val (.ref lt), .val (.int nn), .unset, .unset, .unset, .unset, .unset, .unset, .unset]) rfl ?_
    refine XS.iloadN XA.here hx rfl (hb hby at_57) rfl ?_
    exact hgo
  obtain ⟨_, _, ⟨T30, L30, k30, n30⟩, -, X30, hS30, hg30, ⟨Lc30, ⟨hQ30, CR30⟩, l30, y30, z30⟩, st30⟩ := callSS XA hx (y := yn27) hown (mvT hZ (w 12 rfl)) (mvT hZ (w 13 rfl)) (mvT hZ (w 14 rfl)) (mvT hZ (w 15 rfl)) (by decide) (OwnKit.own_backH (W := 0) (xs := []) (rm_str l Z a0 hw [] p3 zc hA n0 hZn hOld S_cs hz) hZ (w 15 rfl) (w 14 rfl) (by decide) (by decide) hEL hCH all0) (g := (mkF m 58 #[.val (.int p1), .val (.int p2), .val (.int p3), .val (.int p4), .val (.int p5), .val (.int kk), .val (.ref kd), .val (.ref lt), .val (.int nn), .unset, .unset, .unset, .unset, .unset, .unset, .unset] [(.int p3)])) rfl (by rw [hml]; rfl) (argsL := [(.int p3)]) (rest := []) (lenOf pd_17 rfl) rfl (by show 2 * 0 + _ ≤ _; exact Nat.le_of_eq rfl) (hb hby at_58) (fun _ _ => ⟨rfl, eA, (by decide : 2 + 4 ≤ _), (by decide : 48 + 8 ≤ _)⟩)
  dsimp only [Pt.U, Pt.locs, Pt.cells, Pt.slots] at X30 hS30 hg30 l30 y30 z30 st30 hQ30
  subst l30 y30 z30
  obtain ⟨X30r, hS30r, hZ30r, hown30r⟩ := rebS hS (by rw [eA]; exact hk) X30 hS30 hg30 hZ hown
  replace X30 := X30r
  replace hS := hS30r
  replace hZ := hZ30r
  replace hown := hown30r
  obtain ⟨⟨s1, rfl, sz0_s1, ge_s1, Es1⟩, N30q, K30⟩ := hQ30
  have N30 := Fr.app N0 N30q
  have R31 := Rc.tr R29 st30
  have ne_kd_s1 : kd ≠ s1 := Nat.ne_of_lt (Nat.lt_of_lt_of_le Ek.lt sz0_s1)
  have ne_tk_s1 : tk ≠ s1 := Nat.ne_of_lt (Nat.lt_of_lt_of_le Et.lt sz0_s1)
  have ne_bt_s1 : bt ≠ s1 := Nat.ne_of_lt (Nat.lt_of_lt_of_le Vt.lt sz0_s1)
  have ne_lt_s1 : lt ≠ s1 := Nat.ne_of_lt (Nat.lt_of_lt_of_le El.lt sz0_s1)
  have ne_bl_s1 : bl ≠ s1 := Nat.ne_of_lt (Nat.lt_of_lt_of_le Vl.lt sz0_s1)
  have ne_el_s1 : el ≠ s1 := Nat.ne_of_lt (Nat.lt_of_lt_of_le Eel.lt sz0_s1)
  have ne_ea_s1 : ea ≠ s1 := Nat.ne_of_lt (Nat.lt_of_lt_of_le Vel.lt sz0_s1)
  have ne_em_s1 : em ≠ s1 := Nat.ne_of_lt (Nat.lt_of_lt_of_le Eem.lt sz0_s1)
  have sz_s1 := Nat.le_trans hK.1 sz0_s1
  replace hZn := Nat.le_trans hZn K30.1
  replace hOld := hOld.keep K30 all0
  replace hK := hK.trans K30 all0
  replace Ek := Ek.keep K30
  replace Ft := Ft.keep K30 nin0
  replace Et := Et.keep K30
  replace Ct := Ct.keep K30 nin0
  replace Fvt := Fvt.keep K30 nin0
  replace Vt := Vt.keep K30 nin0
  replace El := El.keep K30
  replace Cl := Cl.keep K30 nin0
  replace Fvl := Fvl.keep K30 nin0
  replace Vl := Vl.keep K30 nin0
  replace Eel := Eel.keep K30
  replace Fel := Fel.keep K30 nin0
  replace Vel := Vel.keep K30 nin0
  replace Eem := Eem.keep K30
  have hCH := CR30.1
  replace hk : T30.heap.size ≤ T30.heap.size := Nat.le_refl _
  have R32 : Rc p e below A0 (T30.setTop (mkF m 64 #[.val (.int p1), .val (.int p2), .val (.int p3), .val (.int p4), .val (.int p5), .val (.int kk), .val (.ref kd), .val (.ref lt), .val (.int nn), .val (.ref s1), .unset, .unset, .unset, .unset, .unset, .unset] [(.int p4)])) := by
    intro tgt hgo
    refine R31 tgt ?_
    show Steps p.tables e below (T30.setTop (mkF m 61 #[.val (.int p1), .val (.int p2), .val (.int p3), .val (.int p4), .val (.int p5), .val (.int kk), .val (.ref kd), .val (.ref lt), .val (.int nn), .unset, .unset, .unset, .unset, .unset, .unset, .unset] [(.ref s1)])) _
    refine XS.astore X30.here hx rfl (hb hby at_61) rfl rfl (l' := #[.val (.int p1), .val (.int p2), .val (.int p3), .val (.int p4), .val (.int p5), .val (.int kk), .val (.ref kd), .val (.ref lt), .val (.int nn), .val (.ref s1), .unset, .unset, .unset, .unset, .unset, .unset]) rfl ?_
    refine XS.iloadN X30.here hx rfl (hb hby at_63) rfl ?_
    exact hgo
  obtain ⟨_, _, ⟨T33, L33, k33, n33⟩, -, X33, hS33, hg33, ⟨Lc33, ⟨hQ33, CR33⟩, l33, y33, z33⟩, st33⟩ := callSS X30 hx (y := yn27) hown (mvT hZ (w 12 rfl)) (mvT hZ (w 13 rfl)) (mvT hZ (w 14 rfl)) (mvT hZ (w 15 rfl)) (by decide) (OwnKit.own_backH (W := 0) (xs := []) (rm_str l Z a0 hw [] p4 zc T30.heap n0 hZn hOld S_cs hz) hZ (w 15 rfl) (w 14 rfl) (by decide) (by decide) hEL hCH all0) (g := (mkF m 64 #[.val (.int p1), .val (.int p2), .val (.int p3), .val (.int p4), .val (.int p5), .val (.int kk), .val (.ref kd), .val (.ref lt), .val (.int nn), .val (.ref s1), .unset, .unset, .unset, .unset, .unset, .unset] [(.int p4)])) rfl (by rw [hml]; rfl) (argsL := [(.int p4)]) (rest := []) (lenOf pd_17 rfl) rfl (by show 2 * 0 + _ ≤ _; exact Nat.le_of_eq rfl) (hb hby at_64) (fun _ _ => ⟨rfl, rfl, (by decide : 6 + 4 ≤ _), (by decide : 56 + 8 ≤ _)⟩)
  dsimp only [Pt.U, Pt.locs, Pt.cells, Pt.slots] at X33 hS33 hg33 l33 y33 z33 st33 hQ33
  subst l33 y33 z33
  obtain ⟨X33r, hS33r, hZ33r, hown33r⟩ := rebS hS hk X33 hS33 hg33 hZ hown
  replace X33 := X33r
  replace hS := hS33r
  replace hZ := hZ33r
  replace hown := hown33r
  obtain ⟨⟨s2, rfl, sz0_s2, ge_s2, Es2⟩, N33q, K33⟩ := hQ33
  have N33 := Fr.app N30 N33q
  have R34 := Rc.tr R32 st33
  have ne_kd_s2 : kd ≠ s2 := Nat.ne_of_lt (Nat.lt_of_lt_of_le Ek.lt sz0_s2)
  have ne_tk_s2 : tk ≠ s2 := Nat.ne_of_lt (Nat.lt_of_lt_of_le Et.lt sz0_s2)
  have ne_bt_s2 : bt ≠ s2 := Nat.ne_of_lt (Nat.lt_of_lt_of_le Vt.lt sz0_s2)
  have ne_lt_s2 : lt ≠ s2 := Nat.ne_of_lt (Nat.lt_of_lt_of_le El.lt sz0_s2)
  have ne_bl_s2 : bl ≠ s2 := Nat.ne_of_lt (Nat.lt_of_lt_of_le Vl.lt sz0_s2)
  have ne_el_s2 : el ≠ s2 := Nat.ne_of_lt (Nat.lt_of_lt_of_le Eel.lt sz0_s2)
  have ne_ea_s2 : ea ≠ s2 := Nat.ne_of_lt (Nat.lt_of_lt_of_le Vel.lt sz0_s2)
  have ne_em_s2 : em ≠ s2 := Nat.ne_of_lt (Nat.lt_of_lt_of_le Eem.lt sz0_s2)
  have ne_s1_s2 : s1 ≠ s2 := Nat.ne_of_lt (Nat.lt_of_lt_of_le Es1.lt sz0_s2)
  have sz_s2 := Nat.le_trans hK.1 sz0_s2
  replace hZn := Nat.le_trans hZn K33.1
  replace hOld := hOld.keep K33 all0
  replace hK := hK.trans K33 all0
  replace Ek := Ek.keep K33
  replace Ft := Ft.keep K33 nin0
  replace Et := Et.keep K33
  replace Ct := Ct.keep K33 nin0
  replace Fvt := Fvt.keep K33 nin0
  replace Vt := Vt.keep K33 nin0
  replace El := El.keep K33
  replace Cl := Cl.keep K33 nin0
  replace Fvl := Fvl.keep K33 nin0
  replace Vl := Vl.keep K33 nin0
  replace Eel := Eel.keep K33
  replace Fel := Fel.keep K33 nin0
  replace Vel := Vel.keep K33 nin0
  replace Eem := Eem.keep K33
  replace Es1 := Es1.keep K33
  have hCH := CR33.1
  replace hk : T33.heap.size ≤ T33.heap.size := Nat.le_refl _
  have R35 : Rc p e below A0 (T33.setTop (mkF m 71 #[.val (.int p1), .val (.int p2), .val (.int p3), .val (.int p4), .val (.int p5), .val (.int kk), .val (.ref kd), .val (.ref lt), .val (.int nn), .val (.ref s1), .val (.ref s2), .unset, .unset, .unset, .unset, .unset] [(.int p5)])) := by
    intro tgt hgo
    refine R34 tgt ?_
    show Steps p.tables e below (T33.setTop (mkF m 67 #[.val (.int p1), .val (.int p2), .val (.int p3), .val (.int p4), .val (.int p5), .val (.int kk), .val (.ref kd), .val (.ref lt), .val (.int nn), .val (.ref s1), .unset, .unset, .unset, .unset, .unset, .unset] [(.ref s2)])) _
    refine XS.astore X33.here hx rfl (hb hby at_67) rfl rfl (l' := #[.val (.int p1), .val (.int p2), .val (.int p3), .val (.int p4), .val (.int p5), .val (.int kk), .val (.ref kd), .val (.ref lt), .val (.int nn), .val (.ref s1), .val (.ref s2), .unset, .unset, .unset, .unset, .unset]) rfl ?_
    refine XS.iload X33.here hx rfl (hb hby at_69) rfl ?_
    exact hgo
  obtain ⟨_, _, ⟨T36, L36, k36, n36⟩, -, X36, hS36, hg36, ⟨Lc36, ⟨hQ36, CR36⟩, l36, y36, z36⟩, st36⟩ := callSS X33 hx (y := yn27) hown (mvT hZ (w 12 rfl)) (mvT hZ (w 13 rfl)) (mvT hZ (w 14 rfl)) (mvT hZ (w 15 rfl)) (by decide) (OwnKit.own_backH (W := 0) (xs := []) (rm_str l Z a0 hw [] p5 zc T33.heap n0 hZn hOld S_cs hz) hZ (w 15 rfl) (w 14 rfl) (by decide) (by decide) hEL hCH all0) (g := (mkF m 71 #[.val (.int p1), .val (.int p2), .val (.int p3), .val (.int p4), .val (.int p5), .val (.int kk), .val (.ref kd), .val (.ref lt), .val (.int nn), .val (.ref s1), .val (.ref s2), .unset, .unset, .unset, .unset, .unset] [(.int p5)])) rfl (by rw [hml]; rfl) (argsL := [(.int p5)]) (rest := []) (lenOf pd_17 rfl) rfl (by show 2 * 0 + _ ≤ _; exact Nat.le_of_eq rfl) (hb hby at_71) (fun _ _ => ⟨rfl, rfl, (by decide : 10 + 4 ≤ _), (by decide : 64 + 8 ≤ _)⟩)
  dsimp only [Pt.U, Pt.locs, Pt.cells, Pt.slots] at X36 hS36 hg36 l36 y36 z36 st36 hQ36
  subst l36 y36 z36
  obtain ⟨X36r, hS36r, hZ36r, hown36r⟩ := rebS hS hk X36 hS36 hg36 hZ hown
  replace X36 := X36r
  replace hS := hS36r
  replace hZ := hZ36r
  replace hown := hown36r
  obtain ⟨⟨s3, rfl, sz0_s3, ge_s3, Es3⟩, N36q, K36⟩ := hQ36
  have N36 := Fr.app N33 N36q
  have R37 := Rc.tr R35 st36
  have ne_kd_s3 : kd ≠ s3 := Nat.ne_of_lt (Nat.lt_of_lt_of_le Ek.lt sz0_s3)
  have ne_tk_s3 : tk ≠ s3 := Nat.ne_of_lt (Nat.lt_of_lt_of_le Et.lt sz0_s3)
  have ne_bt_s3 : bt ≠ s3 := Nat.ne_of_lt (Nat.lt_of_lt_of_le Vt.lt sz0_s3)
  have ne_lt_s3 : lt ≠ s3 := Nat.ne_of_lt (Nat.lt_of_lt_of_le El.lt sz0_s3)
  have ne_bl_s3 : bl ≠ s3 := Nat.ne_of_lt (Nat.lt_of_lt_of_le Vl.lt sz0_s3)
  have ne_el_s3 : el ≠ s3 := Nat.ne_of_lt (Nat.lt_of_lt_of_le Eel.lt sz0_s3)
  have ne_ea_s3 : ea ≠ s3 := Nat.ne_of_lt (Nat.lt_of_lt_of_le Vel.lt sz0_s3)
  have ne_em_s3 : em ≠ s3 := Nat.ne_of_lt (Nat.lt_of_lt_of_le Eem.lt sz0_s3)
  have ne_s1_s3 : s1 ≠ s3 := Nat.ne_of_lt (Nat.lt_of_lt_of_le Es1.lt sz0_s3)
  have ne_s2_s3 : s2 ≠ s3 := Nat.ne_of_lt (Nat.lt_of_lt_of_le Es2.lt sz0_s3)
  have sz_s3 := Nat.le_trans hK.1 sz0_s3
  replace hZn := Nat.le_trans hZn K36.1
  replace hOld := hOld.keep K36 all0
  replace hK := hK.trans K36 all0
  replace Ek := Ek.keep K36
  replace Ft := Ft.keep K36 nin0
  replace Et := Et.keep K36
  replace Ct := Ct.keep K36 nin0
  replace Fvt := Fvt.keep K36 nin0
  replace Vt := Vt.keep K36 nin0
  replace El := El.keep K36
  replace Cl := Cl.keep K36 nin0
  replace Fvl := Fvl.keep K36 nin0
  replace Vl := Vl.keep K36 nin0
  replace Eel := Eel.keep K36
  replace Fel := Fel.keep K36 nin0
  replace Vel := Vel.keep K36 nin0
  replace Eem := Eem.keep K36
  replace Es1 := Es1.keep K36
  replace Es2 := Es2.keep K36
  have hCH := CR36.1
  replace hk : T36.heap.size ≤ T36.heap.size := Nat.le_refl _
  have R39 : Rc p e below A0 (T36.setTop (mkF m 78 #[.val (.int p1), .val (.int p2), .val (.int p3), .val (.int p4), .val (.int p5), .val (.int kk), .val (.ref kd), .val (.ref lt), .val (.int nn), .val (.ref s1), .val (.ref s2), .val (.ref s3), .unset, .unset, .unset, .unset] [(.int nn)])) := by
    intro tgt hgo
    refine R37 tgt ?_
    show Steps p.tables e below (T36.setTop (mkF m 74 #[.val (.int p1), .val (.int p2), .val (.int p3), .val (.int p4), .val (.int p5), .val (.int kk), .val (.ref kd), .val (.ref lt), .val (.int nn), .val (.ref s1), .val (.ref s2), .unset, .unset, .unset, .unset, .unset] [(.ref s3)])) _
    refine XS.astore X36.here hx rfl (hb hby at_74) rfl rfl (l' := #[.val (.int p1), .val (.int p2), .val (.int p3), .val (.int p4), .val (.int p5), .val (.int kk), .val (.ref kd), .val (.ref lt), .val (.int nn), .val (.ref s1), .val (.ref s2), .val (.ref s3), .unset, .unset, .unset, .unset]) rfl ?_
    refine XS.iload X36.here hx rfl (hb hby at_76) rfl ?_
    exact hgo
  by_cases hc78_38 : nn = (0 : Int32)
  ·have R40 : Rc p e below A0 (T36.setTop (mkF m 81 #[.val (.int p1), .val (.int p2), .val (.int p3), .val (.int p4), .val (.int p5), .val (.int kk), .val (.ref kd), .val (.ref lt), .val (.int nn), .val (.ref s1), .val (.ref s2), .val (.ref s3), .unset, .unset, .unset, .unset] [])) := by
     intro tgt hgo
     refine R39 tgt ?_
     show Steps p.tables e below (T36.setTop (mkF m 78 #[.val (.int p1), .val (.int p2), .val (.int p3), .val (.int p4), .val (.int p5), .val (.int kk), .val (.ref kd), .val (.ref lt), .val (.int nn), .val (.ref s1), .val (.ref s2), .val (.ref s3), .unset, .unset, .unset, .unset] [(.int nn)])) _
     refine XS.ifNo X36.here hx rfl (hb hby at_78) rfl ((if0 _ _).trans (teq hc78_38).2) ?_
     exact hgo
   rw [(hc78_38 : nn = (0 : Int32))] at R40
   have R41 : Rc p e below A0 (T36.setTop (mkF m 82 #[.val (.int p1), .val (.int p2), .val (.int p3), .val (.int p4), .val (.int p5), .val (.int kk), .val (.ref kd), .val (.ref lt), .val (.int 0), .val (.ref s1), .val (.ref s2), .val (.ref s3), .unset, .unset, .unset, .unset] [(.int 0)])) := by
     intro tgt hgo
     refine R40 tgt ?_
     show Steps p.tables e below (T36.setTop (mkF m 81 #[.val (.int p1), .val (.int p2), .val (.int p3), .val (.int p4), .val (.int p5), .val (.int kk), .val (.ref kd), .val (.ref lt), .val (.int 0), .val (.ref s1), .val (.ref s2), .val (.ref s3), .unset, .unset, .unset, .unset] [])) _
     refine XS.iconst X36.here hx rfl (hb hby at_81) ?_
     exact hgo
   obtain ⟨T42, h42, k42, X42, e42, E42, A42, O42, st42⟩ := newR X36 hx hZ hown (w 16 rfl) (w 31 rfl) rfl (g := (mkF m 82 #[.val (.int p1), .val (.int p2), .val (.int p3), .val (.int p4), .val (.int p5), .val (.int kk), .val (.ref kd), .val (.ref lt), .val (.int 0), .val (.ref s1), .val (.ref s2), .val (.ref s3), .unset, .unset, .unset, .unset] [(.int 0)])) rfl (hb hby at_82) rfl (by decide) (cap := 0) (by decide) (by decide) (by decide) (by decide)
   obtain ⟨fx, g42⟩ : ∃ z, z = T36.heap.size := ⟨_, rfl⟩
   rw [← g42] at A42 st42
   have ne_kd_fx : kd ≠ fx := Nat.ne_of_lt (Nat.lt_of_lt_of_le Ek.lt (Nat.le_of_eq g42.symm))
   have ne_tk_fx : tk ≠ fx := Nat.ne_of_lt (Nat.lt_of_lt_of_le Et.lt (Nat.le_of_eq g42.symm))
   have ne_bt_fx : bt ≠ fx := Nat.ne_of_lt (Nat.lt_of_lt_of_le Vt.lt (Nat.le_of_eq g42.symm))
   have ne_lt_fx : lt ≠ fx := Nat.ne_of_lt (Nat.lt_of_lt_of_le El.lt (Nat.le_of_eq g42.symm))
   have ne_bl_fx : bl ≠ fx := Nat.ne_of_lt (Nat.lt_of_lt_of_le Vl.lt (Nat.le_of_eq g42.symm))
   have ne_el_fx : el ≠ fx := Nat.ne_of_lt (Nat.lt_of_lt_of_le Eel.lt (Nat.le_of_eq g42.symm))
   have ne_ea_fx : ea ≠ fx := Nat.ne_of_lt (Nat.lt_of_lt_of_le Vel.lt (Nat.le_of_eq g42.symm))
   have ne_s1_fx : s1 ≠ fx := Nat.ne_of_lt (Nat.lt_of_lt_of_le Es1.lt (Nat.le_of_eq g42.symm))
   have ne_s2_fx : s2 ≠ fx := Nat.ne_of_lt (Nat.lt_of_lt_of_le Es2.lt (Nat.le_of_eq g42.symm))
   have ne_s3_fx : s3 ≠ fx := Nat.ne_of_lt (Nat.lt_of_lt_of_le Es3.lt (Nat.le_of_eq g42.symm))
   have ge_fx : n0 ≤ fx := Nat.le_trans hZn (Nat.le_of_eq g42.symm)
   have sz_fx : h0.size ≤ fx := Nat.le_trans hK.1 (Nat.le_of_eq g42.symm)
   replace hCH := hCH.ext E42
   replace hZn := Nat.le_trans hZn E42.1
   replace hOld := hOld.ext E42
   replace hK := hK.ext E42
   replace Ek := Ek.ext E42
   replace Ft := Ft.ext E42
   replace Et := Et.ext E42
   replace Ct := Ct.ext E42
   replace Fvt := Fvt.ext E42
   replace Vt := Vt.ext E42
   replace El := El.ext E42
   replace Cl := Cl.ext E42
   replace Fvl := Fvl.ext E42
   replace Vl := Vl.ext E42
   replace Eel := Eel.ext E42
   replace Fel := Fel.ext E42
   replace Vel := Vel.ext E42
   replace Es1 := Es1.ext E42
   replace Es2 := Es2.ext E42
   replace Es3 := Es3.ext E42
   replace hk := Nat.le_trans hk E42.1
   have V_fx : Arv Z h42 fx k42 (.object "java/lang/String") (0 : Int32) [] .null := (Arv.new A42 (by decide)).pad (pad_rep [] .null 0)
   have R43 := Rc.st R41 st42
   have R44 : Rc p e below A0 (T42.setTop (mkF m 156 #[.val (.int p1), .val (.int p2), .val (.int p3), .val (.int p4), .val (.int p5), .val (.int kk), .val (.ref kd), .val (.ref lt), .val (.int 0), .val (.ref s1), .val (.ref s2), .val (.ref s3), .val (.ref fx), .unset, .unset, .unset] [])) := by
     intro tgt hgo
     refine R43 tgt ?_
     show Steps p.tables e below (T42.setTop (mkF m 85 #[.val (.int p1), .val (.int p2), .val (.int p3), .val (.int p4), .val (.int p5), .val (.int kk), .val (.ref kd), .val (.ref lt), .val (.int 0), .val (.ref s1), .val (.ref s2), .val (.ref s3), .unset, .unset, .unset, .unset] [(.ref fx)])) _
     refine XS.astore X42.here hx rfl (hb hby at_85) rfl rfl (l' := #[.val (.int p1), .val (.int p2), .val (.int p3), .val (.int p4), .val (.int p5), .val (.int kk), .val (.ref kd), .val (.ref lt), .val (.int 0), .val (.ref s1), .val (.ref s2), .val (.ref s3), .val (.ref fx), .unset, .unset, .unset]) rfl ?_
     refine XS.goto X42.here hx rfl (pc0 := 87) (pc' := 156) rfl (hb hby at_87) (by decide) (by decide) ?_
     exact hgo
   obtain ⟨T45, h45, X45, e45, E45, A45, D45, -, st45⟩ := newO X42 hx hZ hown (w 32 rfl) (w 33 rfl) (w 34 rfl) e42 (g := (mkF m 156 #[.val (.int p1), .val (.int p2), .val (.int p3), .val (.int p4), .val (.int p5), .val (.int kk), .val (.ref kd), .val (.ref lt), .val (.int 0), .val (.ref s1), .val (.ref s2), .val (.ref s3), .val (.ref fx), .unset, .unset, .unset] [])) rfl (hb hby at_156) (by decide) (by decide)
   obtain ⟨fo, g45⟩ : ∃ z, z = h42.size := ⟨_, rfl⟩
   rw [← g45] at A45 D45 st45
   have ne_kd_fo : kd ≠ fo := Nat.ne_of_lt (Nat.lt_of_lt_of_le Ek.lt (Nat.le_of_eq g45.symm))
   have ne_tk_fo : tk ≠ fo := Nat.ne_of_lt (Nat.lt_of_lt_of_le Et.lt (Nat.le_of_eq g45.symm))
   have ne_bt_fo : bt ≠ fo := Nat.ne_of_lt (Nat.lt_of_lt_of_le Vt.lt (Nat.le_of_eq g45.symm))
   have ne_lt_fo : lt ≠ fo := Nat.ne_of_lt (Nat.lt_of_lt_of_le El.lt (Nat.le_of_eq g45.symm))
   have ne_bl_fo : bl ≠ fo := Nat.ne_of_lt (Nat.lt_of_lt_of_le Vl.lt (Nat.le_of_eq g45.symm))
   have ne_el_fo : el ≠ fo := Nat.ne_of_lt (Nat.lt_of_lt_of_le Eel.lt (Nat.le_of_eq g45.symm))
   have ne_ea_fo : ea ≠ fo := Nat.ne_of_lt (Nat.lt_of_lt_of_le Vel.lt (Nat.le_of_eq g45.symm))
   have ne_s1_fo : s1 ≠ fo := Nat.ne_of_lt (Nat.lt_of_lt_of_le Es1.lt (Nat.le_of_eq g45.symm))
   have ne_s2_fo : s2 ≠ fo := Nat.ne_of_lt (Nat.lt_of_lt_of_le Es2.lt (Nat.le_of_eq g45.symm))
   have ne_s3_fo : s3 ≠ fo := Nat.ne_of_lt (Nat.lt_of_lt_of_le Es3.lt (Nat.le_of_eq g45.symm))
   have ne_fx_fo : fx ≠ fo := Nat.ne_of_lt (Nat.lt_of_lt_of_le V_fx.lt (Nat.le_of_eq g45.symm))
   have ge_fo : n0 ≤ fo := Nat.le_trans hZn (Nat.le_of_eq g45.symm)
   have sz_fo : h0.size ≤ fo := Nat.le_trans hK.1 (Nat.le_of_eq g45.symm)
   replace hCH := hCH.ext E45
   replace hZn := Nat.le_trans hZn E45.1
   replace hOld := hOld.ext E45
   replace hK := hK.ext E45
   replace Ek := Ek.ext E45
   replace Ft := Ft.ext E45
   replace Et := Et.ext E45
   replace Ct := Ct.ext E45
   replace Fvt := Fvt.ext E45
   replace Vt := Vt.ext E45
   replace El := El.ext E45
   replace Cl := Cl.ext E45
   replace Fvl := Fvl.ext E45
   replace Vl := Vl.ext E45
   replace Eel := Eel.ext E45
   replace Fel := Fel.ext E45
   replace Vel := Vel.ext E45
   replace Es1 := Es1.ext E45
   replace Es2 := Es2.ext E45
   replace Es3 := Es3.ext E45
   replace hk := Nat.le_trans hk E45.1
   replace V_fx := V_fx.ext E45
   have E_fo := A45
   have F_kind_fo : Fld Z h45 fo "com/example/verdict_ladder/verdictladder/lint/Finding" "kind" "Lcom/example/verdict_ladder/verdictladder/lint/Finding$Kind;" .null := D45 (Or.inr (w 40 rfl)) (ty := (.object "com/example/verdict_ladder/verdictladder/lint/Finding$Kind")) (by decide)
   have F_fields_fo : Fld Z h45 fo "com/example/verdict_ladder/verdictladder/lint/Finding" "fields" "Ljava/util/List;" .null := D45 (Or.inr (w 87 rfl)) (ty := (.object "java/util/List")) (by decide)
   have R46 := Rc.st R44 st45
   have R47 : Rc p e below A0 (T45.setTop (mkF m 164 #[.val (.int p1), .val (.int p2), .val (.int p3), .val (.int p4), .val (.int p5), .val (.int kk), .val (.ref kd), .val (.ref lt), .val (.int 0), .val (.ref s1), .val (.ref s2), .val (.ref s3), .val (.ref fx), .unset, .unset, .unset] [(.ref fx), (.ref kd), (.ref fo), (.ref fo)])) := by
     intro tgt hgo
     refine R46 tgt ?_
     show Steps p.tables e below (T45.setTop (mkF m 159 #[.val (.int p1), .val (.int p2), .val (.int p3), .val (.int p4), .val (.int p5), .val (.int kk), .val (.ref kd), .val (.ref lt), .val (.int 0), .val (.ref s1), .val (.ref s2), .val (.ref s3), .val (.ref fx), .unset, .unset, .unset] [(.ref fo)])) _
     refine XS.dup X45.here hx rfl (hb hby at_159) rfl rfl ?_
     refine XS.aload X45.here hx rfl (hb hby at_160) rfl rfl ?_
     refine XS.aload X45.here hx rfl (hb hby at_162) rfl rfl ?_
     exact hgo
   obtain ⟨_, _, ⟨T48, L48, k48, n48⟩, -, X48, ⟨Lc48, hQ48, l48, y48, z48⟩, st48⟩ := X45.specialBack hx (y := yn11) rfl hown (mvT hZ (w 35 rfl)) (mvT hZ (w 36 rfl)) (mvT hZ (w 37 rfl)) (by decide) (backOf (W := 1) (rm_fi0 l Z a0 hw [] fo kd fx el _ h45 n0 hZn ge_fo ne_fx_fo E_fo F_kind_fo F_fields_fo hOld S_el V_fx) hZ (w 37 rfl) (w 34 rfl) (by decide) (by decide)) (g := (mkF m 164 #[.val (.int p1), .val (.int p2), .val (.int p3), .val (.int p4), .val (.int p5), .val (.int kk), .val (.ref kd), .val (.ref lt), .val (.int 0), .val (.ref s1), .val (.ref s2), .val (.ref s3), .val (.ref fx), .unset, .unset, .unset] [(.ref fx), (.ref kd), (.ref fo), (.ref fo)])) rfl (by rw [hml]; rfl) (Steps.refl _) (a := fo) (argsL := [(.ref kd), (.ref fx)]) (rest := [(.ref fo)]) (lenOf pd_18 rfl) rfl (by show 2 * 0 + _ ≤ _; exact Nat.le_of_eq rfl) (hb hby at_164) (fun _ _ => ⟨rfl, e45, (by decide : 16 + 0 ≤ _), (by decide : 74 + 0 ≤ _)⟩)
   dsimp only [Pt.U, Pt.locs, Pt.cells, Pt.slots] at X48 l48 y48 z48 st48 hQ48
   subst l48 y48 z48
   obtain ⟨rfl, N48q, K48, Fk, Ff⟩ := hQ48
   have N48 := Fr.app N36 N48q
   have R49 := Rc.tr R47 st48
   replace hZn := Nat.le_trans hZn K48.1
   replace hOld := hOld.keep K48 (allS ge_fo all0)
   replace hK := hK.trans K48 (allS (Or.inr sz_fo) all0)
   replace Ek := Ek.keep K48
   replace Ft := Ft.keep K48 (ninS ne_kd_fo nin0)
   replace Et := Et.keep K48
   replace Ct := Ct.keep K48 (ninS ne_tk_fo nin0)
   replace Fvt := Fvt.keep K48 (ninS ne_tk_fo nin0)
   replace Vt := Vt.keep K48 (ninS ne_bt_fo nin0)
   replace El := El.keep K48
   replace Cl := Cl.keep K48 (ninS ne_lt_fo nin0)
   replace Fvl := Fvl.keep K48 (ninS ne_lt_fo nin0)
   replace Vl := Vl.keep K48 (ninS ne_bl_fo nin0)
   replace Eel := Eel.keep K48
   replace Fel := Fel.keep K48 (ninS ne_el_fo nin0)
   replace Vel := Vel.keep K48 (ninS ne_ea_fo nin0)
   replace Es1 := Es1.keep K48
   replace Es2 := Es2.keep K48
   replace Es3 := Es3.keep K48
   replace hk := Nat.le_trans hk K48.1
   replace V_fx := V_fx.keep K48 (ninS ne_fx_fo nin0)
   replace E_fo := E_fo.keep K48
   have R50 : Rc p e below A0 (T48.setTop (mkF m 171 #[.val (.int p1), .val (.int p2), .val (.int p3), .val (.int p4), .val (.int p5), .val (.int kk), .val (.ref kd), .val (.ref lt), .val (.int 0), .val (.ref s1), .val (.ref s2), .val (.ref s3), .val (.ref fx), .val (.ref fo), .unset, .unset] [(.ref fo)])) := by
     intro tgt hgo
     refine R49 tgt ?_
     show Steps p.tables e below (T48.setTop (mkF m 167 #[.val (.int p1), .val (.int p2), .val (.int p3), .val (.int p4), .val (.int p5), .val (.int kk), .val (.ref kd), .val (.ref lt), .val (.int 0), .val (.ref s1), .val (.ref s2), .val (.ref s3), .val (.ref fx), .unset, .unset, .unset] [(.ref fo)])) _
     refine XS.astore X48.here hx rfl (hb hby at_167) rfl rfl (l' := #[.val (.int p1), .val (.int p2), .val (.int p3), .val (.int p4), .val (.int p5), .val (.int kk), .val (.ref kd), .val (.ref lt), .val (.int 0), .val (.ref s1), .val (.ref s2), .val (.ref s3), .val (.ref fx), .val (.ref fo), .unset, .unset]) rfl ?_
     refine XS.aload X48.here hx rfl (hb hby at_169) rfl rfl ?_
     exact hgo
   obtain ⟨cq51, kq51, q51a, q51b, q51c⟩ := isOf hZ rfl E_fo
   obtain ⟨_, _, ⟨T51, L51, k51, n51⟩, -, X51, ⟨Lc51, hQ51, l51, y51, z51⟩, st51⟩ := X48.virtualBack hx (y := yn17) (z := yn17) hown (mvT hZ (w 88 rfl)) (mvT hZ (w 89 rfl)) (notFace_of_selects (args := #[]) (mvT hZ (w 91 rfl))) (mvT hZ (w 91 rfl)) (mvT hZ (w 90 rfl)) (by decide) (backOf (W := 0) (rm_li0 l Z a0 hw [] fo kd tk el ea ke T48.heap n0 hZn E_fo Fk Ff Ek Ft Et Eel Fel Vel) hZ (w 92 rfl) (w 34 rfl) (by decide) (by decide)) q51a q51c (g := (mkF m 171 #[.val (.int p1), .val (.int p2), .val (.int p3), .val (.int p4), .val (.int p5), .val (.int kk), .val (.ref kd), .val (.ref lt), .val (.int 0), .val (.ref s1), .val (.ref s2), .val (.ref s3), .val (.ref fx), .val (.ref fo), .unset, .unset] [(.ref fo)])) rfl (by rw [hml]; rfl) (Steps.refl _) (argsL := []) (rest := []) (lenOf pd_19 rfl) rfl (by show 2 * 0 + _ ≤ _; exact Nat.le_of_eq rfl) (hb hby at_171) (fun _ _ => ⟨rfl, rfl, (by decide : 16 + 1 ≤ _), (by decide : 74 + 1 ≤ _)⟩)
   dsimp only [Pt.U, Pt.locs, Pt.cells, Pt.slots] at X51 l51 y51 z51 st51 hQ51
   subst l51 y51 z51
   obtain ⟨⟨r1, rfl, k_r1, sz0_r1, ge_r1, O_r1, V_r1⟩, N51q, K51⟩ := hQ51
   have N51 := Fr.app N48 N51q
   have R52 := Rc.tr R50 st51
   have ne_kd_r1 : kd ≠ r1 := Nat.ne_of_lt (Nat.lt_of_lt_of_le Ek.lt sz0_r1)
   have ne_tk_r1 : tk ≠ r1 := Nat.ne_of_lt (Nat.lt_of_lt_of_le Et.lt sz0_r1)
   have ne_bt_r1 : bt ≠ r1 := Nat.ne_of_lt (Nat.lt_of_lt_of_le Vt.lt sz0_r1)
   have ne_lt_r1 : lt ≠ r1 := Nat.ne_of_lt (Nat.lt_of_lt_of_le El.lt sz0_r1)
   have ne_bl_r1 : bl ≠ r1 := Nat.ne_of_lt (Nat.lt_of_lt_of_le Vl.lt sz0_r1)
   have ne_el_r1 : el ≠ r1 := Nat.ne_of_lt (Nat.lt_of_lt_of_le Eel.lt sz0_r1)
   have ne_ea_r1 : ea ≠ r1 := Nat.ne_of_lt (Nat.lt_of_lt_of_le Vel.lt sz0_r1)
   have ne_s1_r1 : s1 ≠ r1 := Nat.ne_of_lt (Nat.lt_of_lt_of_le Es1.lt sz0_r1)
   have ne_s2_r1 : s2 ≠ r1 := Nat.ne_of_lt (Nat.lt_of_lt_of_le Es2.lt sz0_r1)
   have ne_s3_r1 : s3 ≠ r1 := Nat.ne_of_lt (Nat.lt_of_lt_of_le Es3.lt sz0_r1)
   have ne_fo_r1 : fo ≠ r1 := Nat.ne_of_lt (Nat.lt_of_lt_of_le E_fo.lt sz0_r1)
   have sz_r1 := Nat.le_trans hK.1 sz0_r1
   replace hZn := Nat.le_trans hZn K51.1
   replace hOld := hOld.keep K51 all0
   replace hK := hK.trans K51 all0
   replace Ek := Ek.keep K51
   replace Ft := Ft.keep K51 nin0
   replace Et := Et.keep K51
   replace Ct := Ct.keep K51 nin0
   replace Fvt := Fvt.keep K51 nin0
   replace Vt := Vt.keep K51 nin0
   replace El := El.keep K51
   replace Cl := Cl.keep K51 nin0
   replace Fvl := Fvl.keep K51 nin0
   replace Vl := Vl.keep K51 nin0
   replace Eel := Eel.keep K51
   replace Fel := Fel.keep K51 nin0
   replace Vel := Vel.keep K51 nin0
   replace Es1 := Es1.keep K51
   replace Es2 := Es2.keep K51
   replace Es3 := Es3.keep K51
   replace hk := Nat.le_trans hk K51.1
   replace E_fo := E_fo.keep K51
   replace Fk := Fk.keep K51 nin0
   replace Ff := Ff.keep K51 nin0
   have R53 : Rc p e below A0 (T51.setTop (mkF m 188 #[.val (.int p1), .val (.int p2), .val (.int p3), .val (.int p4), .val (.int p5), .val (.int kk), .val (.ref kd), .val (.ref lt), .val (.int 0), .val (.ref s1), .val (.ref s2), .val (.ref s3), .val (.ref fx), .val (.ref fo), .val (.ref r1), .unset] [(.ref s3), (.ref s2), (.ref s1), (.ref lt), (.int 0), (.ref r1)])) := by
     intro tgt hgo
     refine R52 tgt ?_
     show Steps p.tables e below (T51.setTop (mkF m 174 #[.val (.int p1), .val (.int p2), .val (.int p3), .val (.int p4), .val (.int p5), .val (.int kk), .val (.ref kd), .val (.ref lt), .val (.int 0), .val (.ref s1), .val (.ref s2), .val (.ref s3), .val (.ref fx), .val (.ref fo), .unset, .unset] [(.ref r1)])) _
     refine XS.astore X51.here hx rfl (hb hby at_174) rfl rfl (l' := #[.val (.int p1), .val (.int p2), .val (.int p3), .val (.int p4), .val (.int p5), .val (.int kk), .val (.ref kd), .val (.ref lt), .val (.int 0), .val (.ref s1), .val (.ref s2), .val (.ref s3), .val (.ref fx), .val (.ref fo), .val (.ref r1), .unset]) rfl ?_
     refine XS.aload X51.here hx rfl (hb hby at_176) rfl rfl ?_
     refine XS.iload X51.here hx rfl (hb hby at_178) rfl ?_
     refine XS.aload X51.here hx rfl (hb hby at_180) rfl rfl ?_
     refine XS.aload X51.here hx rfl (hb hby at_182) rfl rfl ?_
     refine XS.aload X51.here hx rfl (hb hby at_184) rfl rfl ?_
     refine XS.aload X51.here hx rfl (hb hby at_186) rfl rfl ?_
     exact hgo
   obtain ⟨_, _, ⟨T54, L54, k54, n54⟩, -, X54, ⟨Lc54, hQ54, l54, y54, z54⟩, st54⟩ := Jvm.LawKit.callS X51 hx (y := yn20) hown (mvT hZ (w 118 rfl)) (mvT hZ (w 119 rfl)) (mvT hZ (w 14 rfl)) (mvT hZ (w 120 rfl)) (by decide) (backOf (W := 0) (rm_ma0 l Z a0 hw [] r1 lt s1 s2 s3 tk zc bs bl bt kl kt k_r1 T51.heap n0 hZn hOld S_cs hz hbs ⟨El, Cl, Fvl, Vl⟩ ⟨Et, Ct, Fvt, Vt⟩ V_r1) hZ (w 120 rfl) (w 14 rfl) (by decide) (by decide)) (g := (mkF m 188 #[.val (.int p1), .val (.int p2), .val (.int p3), .val (.int p4), .val (.int p5), .val (.int kk), .val (.ref kd), .val (.ref lt), .val (.int 0), .val (.ref s1), .val (.ref s2), .val (.ref s3), .val (.ref fx), .val (.ref fo), .val (.ref r1), .unset] [(.ref s3), (.ref s2), (.ref s1), (.ref lt), (.int 0), (.ref r1)])) rfl (by rw [hml]; rfl) (argsL := [(.ref r1), (.int 0), (.ref lt), (.ref s1), (.ref s2), (.ref s3)]) (rest := []) (lenOf pd_20 rfl) rfl (by show 2 * 0 + _ ≤ _; exact Nat.le_of_eq rfl) (hb hby at_188) (fun _ _ => ⟨rfl, rfl, (by decide : 17 + 0 ≤ _), (by decide : 75 + 0 ≤ _)⟩)
   dsimp only [Pt.U, Pt.locs, Pt.cells, Pt.slots] at X54 l54 y54 z54 st54 hQ54
   subst l54 y54 z54
   obtain ⟨rfl, N54q, e54⟩ := hQ54
   have N54 := Fr.app N51 N54q
   have R55 := Rc.st R53 st54
   have R56 : Rc p e below A0 (T54.setTop (mkF m 201 #[.val (.int p1), .val (.int p2), .val (.int p3), .val (.int p4), .val (.int p5), .val (.int kk), .val (.ref kd), .val (.ref lt), .val (.int 0), .val (.ref s1), .val (.ref s2), .val (.ref s3), .val (.ref fx), .val (.ref fo), .val (.ref r1), .unset] [(.ref s1), (.int 0), (.ref r1)])) := by
     intro tgt hgo
     refine R55 tgt ?_
     show Steps p.tables e below (T54.setTop (mkF m 191 #[.val (.int p1), .val (.int p2), .val (.int p3), .val (.int p4), .val (.int p5), .val (.int kk), .val (.ref kd), .val (.ref lt), .val (.int 0), .val (.ref s1), .val (.ref s2), .val (.ref s3), .val (.ref fx), .val (.ref fo), .val (.ref r1), .unset] [(.int 1)])) _
     refine XS.ifYes X54.here hx rfl (pc0 := 191) (pc' := 196) rfl (hb hby at_191) rfl ((if0 _ _).trans (feq (by decide : ¬ ((1 : Int32) = (0 : Int32)))).2) (by decide) (by decide) ?_
     refine XS.aload X54.here hx rfl (hb hby at_196) rfl rfl ?_
     refine XS.iconst X54.here hx rfl (hb hby at_198) ?_
     refine XS.aload X54.here hx rfl (hb hby at_199) rfl rfl ?_
     exact hgo
   obtain ⟨cl57, Ar57, q57, S57, Nn57, H57, G57⟩ := V_r1
   have hin57 : ¬ ((0 : Int32) < 0 ∨ cl57.slots.size ≤ ((0 : Int32)).toNatClampNeg) := inb_of S57 ⟨by decide, by decide⟩
   obtain ⟨T57, h57, X57, e57, W57, st57⟩ := stR X54 hx hZ e54 Ar57 (j := (0 : Int32)) hin57 rfl (Sto.ofV Ar57 q57 O_r1 (Ins.self Es1)) (g := (mkF m 201 #[.val (.int p1), .val (.int p2), .val (.int p3), .val (.int p4), .val (.int p5), .val (.int kk), .val (.ref kd), .val (.ref lt), .val (.int 0), .val (.ref s1), .val (.ref s2), .val (.ref s3), .val (.ref fx), .val (.ref fo), .val (.ref r1), .unset] [(.ref s1), (.int 0), (.ref r1)])) rfl rfl (hb hby at_201)
   replace hZn := Nat.le_trans hZn (Keep.of_wr W57).1
   replace hOld := hOld.wr W57 ge_r1
   replace hK := hK.wr W57 (Or.inr sz_r1)
   replace Ek := Ek.wr W57
   replace Ft := Ft.other W57 (Or.inl ne_kd_r1)
   replace Et := Et.wr W57
   replace Ct := Ct.other W57 (Or.inl ne_tk_r1)
   replace Fvt := Fvt.other W57 (Or.inl ne_tk_r1)
   replace Vt := Vt.other W57 ne_bt_r1
   replace El := El.wr W57
   replace Cl := Cl.other W57 (Or.inl ne_lt_r1)
   replace Fvl := Fvl.other W57 (Or.inl ne_lt_r1)
   replace Vl := Vl.other W57 ne_bl_r1
   replace Eel := Eel.wr W57
   replace Fel := Fel.other W57 (Or.inl ne_el_r1)
   replace Vel := Vel.other W57 ne_ea_r1
   replace Es1 := Es1.wr W57
   replace Es2 := Es2.wr W57
   replace Es3 := Es3.wr W57
   replace hk := Nat.le_trans hk (Keep.of_wr W57).1
   replace E_fo := E_fo.wr W57
   replace Fk := Fk.other W57 (Or.inl ne_fo_r1)
   replace Ff := Ff.other W57 (Or.inl ne_fo_r1)
   have V_r1 : Arv Z h57 r1 k_r1 (.object "java/lang/String") (1 : Int32) [(.ref s1)] .null := Arv.set Ar57 q57 S57 Nn57 H57 G57 rfl W57 0 rfl (Nat.le_of_ble_eq_true rfl)
   have N57 := Fr.snoc X57 N54 ge_r1
   have R58 := Rc.st R56 st57
   have R59 : Rc p e below A0 (T57.setTop (mkF m 216 #[.val (.int p1), .val (.int p2), .val (.int p3), .val (.int p4), .val (.int p5), .val (.int kk), .val (.ref kd), .val (.ref lt), .val (.int 0), .val (.ref s1), .val (.ref s2), .val (.ref s3), .val (.ref fx), .val (.ref fo), .val (.ref r1), .unset] [(.ref fo)])) := by
     intro tgt hgo
     refine R58 tgt ?_
     show Steps p.tables e below (T57.setTop (mkF m 202 #[.val (.int p1), .val (.int p2), .val (.int p3), .val (.int p4), .val (.int p5), .val (.int kk), .val (.ref kd), .val (.ref lt), .val (.int 0), .val (.ref s1), .val (.ref s2), .val (.ref s3), .val (.ref fx), .val (.ref fo), .val (.ref r1), .unset] [])) _
     refine XS.iload X57.here hx rfl (hb hby at_202) rfl ?_
     refine XS.iconst X57.here hx rfl (hb hby at_204) ?_
     refine XS.icmpYes X57.here hx rfl (pc0 := 205) (pc' := 214) rfl (hb hby at_205) rfl (tlt (by decide : (0 : Int32) < (1 : Int32))).1 (by decide) (by decide) ?_
     refine XS.aload X57.here hx rfl (hb hby at_214) rfl rfl ?_
     exact hgo
   obtain ⟨cq60, kq60, q60a, q60b, q60c⟩ := isOf hZ e57 E_fo
   obtain ⟨_, _, ⟨T60, L60, k60, n60⟩, -, X60, ⟨Lc60, hQ60, l60, y60, z60⟩, st60⟩ := X57.virtualBack hx (y := yn17) (z := yn17) hown (mvT hZ (w 88 rfl)) (mvT hZ (w 89 rfl)) (notFace_of_selects (args := #[]) (mvT hZ (w 91 rfl))) (mvT hZ (w 91 rfl)) (mvT hZ (w 90 rfl)) (by decide) (backOf (W := 0) (rm_li0 l Z a0 hw [] fo kd tk el ea ke h57 n0 hZn E_fo Fk Ff Ek Ft Et Eel Fel Vel) hZ (w 92 rfl) (w 34 rfl) (by decide) (by decide)) q60a q60c (g := (mkF m 216 #[.val (.int p1), .val (.int p2), .val (.int p3), .val (.int p4), .val (.int p5), .val (.int kk), .val (.ref kd), .val (.ref lt), .val (.int 0), .val (.ref s1), .val (.ref s2), .val (.ref s3), .val (.ref fx), .val (.ref fo), .val (.ref r1), .unset] [(.ref fo)])) rfl (by rw [hml]; rfl) (Steps.refl _) (argsL := []) (rest := []) (lenOf pd_19 rfl) rfl (by show 2 * 0 + _ ≤ _; exact Nat.le_of_eq rfl) (hb hby at_216) (fun _ _ => ⟨rfl, e57, (by decide : 17 + 1 ≤ _), (by decide : 75 + 1 ≤ _)⟩)
   dsimp only [Pt.U, Pt.locs, Pt.cells, Pt.slots] at X60 l60 y60 z60 st60 hQ60
   subst l60 y60 z60
   obtain ⟨⟨r2, rfl, k_r2, sz0_r2, ge_r2, O_r2, V_r2⟩, N60q, K60⟩ := hQ60
   have N60 := Fr.app N57 N60q
   have R61 := Rc.tr R59 st60
   replace hZn := Nat.le_trans hZn K60.1
   replace hOld := hOld.keep K60 all0
   replace hK := hK.trans K60 all0
   replace Ek := Ek.keep K60
   replace Ft := Ft.keep K60 nin0
   replace Et := Et.keep K60
   replace Ct := Ct.keep K60 nin0
   replace Fvt := Fvt.keep K60 nin0
   replace Vt := Vt.keep K60 nin0
   replace El := El.keep K60
   replace Cl := Cl.keep K60 nin0
   replace Fvl := Fvl.keep K60 nin0
   replace Vl := Vl.keep K60 nin0
   replace Eel := Eel.keep K60
   replace Fel := Fel.keep K60 nin0
   replace Vel := Vel.keep K60 nin0
   replace Es1 := Es1.keep K60
   replace Es2 := Es2.keep K60
   replace Es3 := Es3.keep K60
   replace hk := Nat.le_trans hk K60.1
   replace E_fo := E_fo.keep K60
   replace Fk := Fk.keep K60 nin0
   replace Ff := Ff.keep K60 nin0
   replace V_r1 := V_r1.keep K60 nin0
   have R62 : Rc p e below A0 (T60.setTop (mkF m 233 #[.val (.int p1), .val (.int p2), .val (.int p3), .val (.int p4), .val (.int p5), .val (.int kk), .val (.ref kd), .val (.ref lt), .val (.int 0), .val (.ref s1), .val (.ref s2), .val (.ref s3), .val (.ref fx), .val (.ref fo), .val (.ref r1), .val (.ref r2)] [(.ref s3), (.ref s2), (.ref s1), (.ref lt), (.int 0), (.ref r2)])) := by
     intro tgt hgo
     refine R61 tgt ?_
     show Steps p.tables e below (T60.setTop (mkF m 219 #[.val (.int p1), .val (.int p2), .val (.int p3), .val (.int p4), .val (.int p5), .val (.int kk), .val (.ref kd), .val (.ref lt), .val (.int 0), .val (.ref s1), .val (.ref s2), .val (.ref s3), .val (.ref fx), .val (.ref fo), .val (.ref r1), .unset] [(.ref r2)])) _
     refine XS.astore X60.here hx rfl (hb hby at_219) rfl rfl (l' := #[.val (.int p1), .val (.int p2), .val (.int p3), .val (.int p4), .val (.int p5), .val (.int kk), .val (.ref kd), .val (.ref lt), .val (.int 0), .val (.ref s1), .val (.ref s2), .val (.ref s3), .val (.ref fx), .val (.ref fo), .val (.ref r1), .val (.ref r2)]) rfl ?_
     refine XS.aload X60.here hx rfl (hb hby at_221) rfl rfl ?_
     refine XS.iload X60.here hx rfl (hb hby at_223) rfl ?_
     refine XS.aload X60.here hx rfl (hb hby at_225) rfl rfl ?_
     refine XS.aload X60.here hx rfl (hb hby at_227) rfl rfl ?_
     refine XS.aload X60.here hx rfl (hb hby at_229) rfl rfl ?_
     refine XS.aload X60.here hx rfl (hb hby at_231) rfl rfl ?_
     exact hgo
   obtain ⟨_, _, ⟨T63, L63, k63, n63⟩, -, X63, ⟨Lc63, hQ63, l63, y63, z63⟩, st63⟩ := Jvm.LawKit.callS X60 hx (y := yn20) hown (mvT hZ (w 118 rfl)) (mvT hZ (w 119 rfl)) (mvT hZ (w 14 rfl)) (mvT hZ (w 120 rfl)) (by decide) (backOf (W := 0) (rm_ma0 l Z a0 hw [] r2 lt s1 s2 s3 tk zc bs bl bt kl kt k_r2 T60.heap n0 hZn hOld S_cs hz hbs ⟨El, Cl, Fvl, Vl⟩ ⟨Et, Ct, Fvt, Vt⟩ V_r2) hZ (w 120 rfl) (w 14 rfl) (by decide) (by decide)) (g := (mkF m 233 #[.val (.int p1), .val (.int p2), .val (.int p3), .val (.int p4), .val (.int p5), .val (.int kk), .val (.ref kd), .val (.ref lt), .val (.int 0), .val (.ref s1), .val (.ref s2), .val (.ref s3), .val (.ref fx), .val (.ref fo), .val (.ref r1), .val (.ref r2)] [(.ref s3), (.ref s2), (.ref s1), (.ref lt), (.int 0), (.ref r2)])) rfl (by rw [hml]; rfl) (argsL := [(.ref r2), (.int 0), (.ref lt), (.ref s1), (.ref s2), (.ref s3)]) (rest := []) (lenOf pd_20 rfl) rfl (by show 2 * 0 + _ ≤ _; exact Nat.le_of_eq rfl) (hb hby at_233) (fun _ _ => ⟨rfl, rfl, (by decide : 18 + 0 ≤ _), (by decide : 76 + 0 ≤ _)⟩)
   dsimp only [Pt.U, Pt.locs, Pt.cells, Pt.slots] at X63 l63 y63 z63 st63 hQ63
   subst l63 y63 z63
   obtain ⟨rfl, N63q, e63⟩ := hQ63
   have N63 := Fr.app N60 N63q
   have R64 := Rc.st R62 st63
   subst hA0
   obtain ⟨fs, hr, hrun, hended, hRW⟩ := X63.leaveW hS (by rw [e63]; exact hk) (v := some (.int 1)) (fun h => by rw [Bd.returns] at h; cases h) Bd.notSynchronized
   refine ⟨_, _, R64 _ ?_, hrun, hended, _, _, rfl, ?_, OwnKit.own_fin hRW (by decide) (by decide)⟩
   ·show Steps p.tables e below (T63.setTop (mkF m 236 #[.val (.int p1), .val (.int p2), .val (.int p3), .val (.int p4), .val (.int p5), .val (.int kk), .val (.ref kd), .val (.ref lt), .val (.int 0), .val (.ref s1), .val (.ref s2), .val (.ref s3), .val (.ref fx), .val (.ref fo), .val (.ref r1), .val (.ref r2)] [(.int 1)])) _
    exact retN X63 hx (t := .boolean) Bd.returns (by simp) (hb hby at_236) hr
   ·show Q0 n0 _ T63.heap _
    rw [e63]
    exact ⟨rfl, N63⟩
  ·have R66 : Rc p e below A0 (T36.setTop (mkF m 93 #[.val (.int p1), .val (.int p2), .val (.int p3), .val (.int p4), .val (.int p5), .val (.int kk), .val (.ref kd), .val (.ref lt), .val (.int nn), .val (.ref s1), .val (.ref s2), .val (.ref s3), .unset, .unset, .unset, .unset] [(.int 1), (.int nn)])) := by
     intro tgt hgo
     refine R39 tgt ?_
     show Steps p.tables e below (T36.setTop (mkF m 78 #[.val (.int p1), .val (.int p2), .val (.int p3), .val (.int p4), .val (.int p5), .val (.int kk), .val (.ref kd), .val (.ref lt), .val (.int nn), .val (.ref s1), .val (.ref s2), .val (.ref s3), .unset, .unset, .unset, .unset] [(.int nn)])) _
     refine XS.ifYes X36.here hx rfl (pc0 := 78) (pc' := 90) rfl (hb hby at_78) rfl ((if0 _ _).trans (feq hc78_38).2) (by decide) (by decide) ?_
     refine XS.iload X36.here hx rfl (hb hby at_90) rfl ?_
     refine XS.iconst X36.here hx rfl (hb hby at_92) ?_
     exact hgo
   by_cases hc93_65 : nn = (1 : Int32)
   ·have R67 : Rc p e below A0 (T36.setTop (mkF m 96 #[.val (.int p1), .val (.int p2), .val (.int p3), .val (.int p4), .val (.int p5), .val (.int kk), .val (.ref kd), .val (.ref lt), .val (.int nn), .val (.ref s1), .val (.ref s2), .val (.ref s3), .unset, .unset, .unset, .unset] [])) := by
      intro tgt hgo
      refine R66 tgt ?_
      show Steps p.tables e below (T36.setTop (mkF m 93 #[.val (.int p1), .val (.int p2), .val (.int p3), .val (.int p4), .val (.int p5), .val (.int kk), .val (.ref kd), .val (.ref lt), .val (.int nn), .val (.ref s1), .val (.ref s2), .val (.ref s3), .unset, .unset, .unset, .unset] [(.int 1), (.int nn)])) _
      refine XS.icmpNo X36.here hx rfl (hb hby at_93) rfl (teq hc93_65).2 ?_
      exact hgo
    rw [(hc93_65 : nn = (1 : Int32))] at R67
    have R68 : Rc p e below A0 (T36.setTop (mkF m 97 #[.val (.int p1), .val (.int p2), .val (.int p3), .val (.int p4), .val (.int p5), .val (.int kk), .val (.ref kd), .val (.ref lt), .val (.int 1), .val (.ref s1), .val (.ref s2), .val (.ref s3), .unset, .unset, .unset, .unset] [(.int 1)])) := by
      intro tgt hgo
      refine R67 tgt ?_
      show Steps p.tables e below (T36.setTop (mkF m 96 #[.val (.int p1), .val (.int p2), .val (.int p3), .val (.int p4), .val (.int p5), .val (.int kk), .val (.ref kd), .val (.ref lt), .val (.int 1), .val (.ref s1), .val (.ref s2), .val (.ref s3), .unset, .unset, .unset, .unset] [])) _
      refine XS.iconst X36.here hx rfl (hb hby at_96) ?_
      exact hgo
    obtain ⟨T69, h69, k69, X69, e69, E69, A69, O69, st69⟩ := newR X36 hx hZ hown (w 16 rfl) (w 31 rfl) rfl (g := (mkF m 97 #[.val (.int p1), .val (.int p2), .val (.int p3), .val (.int p4), .val (.int p5), .val (.int kk), .val (.ref kd), .val (.ref lt), .val (.int 1), .val (.ref s1), .val (.ref s2), .val (.ref s3), .unset, .unset, .unset, .unset] [(.int 1)])) rfl (hb hby at_97) rfl (by decide) (cap := 1) (by decide) (by decide) (by decide) (by decide)
    obtain ⟨fx, g69⟩ : ∃ z, z = T36.heap.size := ⟨_, rfl⟩
    rw [← g69] at A69 st69
    have ne_kd_fx : kd ≠ fx := Nat.ne_of_lt (Nat.lt_of_lt_of_le Ek.lt (Nat.le_of_eq g69.symm))
    have ne_tk_fx : tk ≠ fx := Nat.ne_of_lt (Nat.lt_of_lt_of_le Et.lt (Nat.le_of_eq g69.symm))
    have ne_bt_fx : bt ≠ fx := Nat.ne_of_lt (Nat.lt_of_lt_of_le Vt.lt (Nat.le_of_eq g69.symm))
    have ne_lt_fx : lt ≠ fx := Nat.ne_of_lt (Nat.lt_of_lt_of_le El.lt (Nat.le_of_eq g69.symm))
    have ne_bl_fx : bl ≠ fx := Nat.ne_of_lt (Nat.lt_of_lt_of_le Vl.lt (Nat.le_of_eq g69.symm))
    have ne_em_fx : em ≠ fx := Nat.ne_of_lt (Nat.lt_of_lt_of_le Eem.lt (Nat.le_of_eq g69.symm))
    have ne_s1_fx : s1 ≠ fx := Nat.ne_of_lt (Nat.lt_of_lt_of_le Es1.lt (Nat.le_of_eq g69.symm))
    have ne_s2_fx : s2 ≠ fx := Nat.ne_of_lt (Nat.lt_of_lt_of_le Es2.lt (Nat.le_of_eq g69.symm))
    have ne_s3_fx : s3 ≠ fx := Nat.ne_of_lt (Nat.lt_of_lt_of_le Es3.lt (Nat.le_of_eq g69.symm))
    have ge_fx : n0 ≤ fx := Nat.le_trans hZn (Nat.le_of_eq g69.symm)
    have sz_fx : h0.size ≤ fx := Nat.le_trans hK.1 (Nat.le_of_eq g69.symm)
    replace hCH := hCH.ext E69
    replace hZn := Nat.le_trans hZn E69.1
    replace hOld := hOld.ext E69
    replace hK := hK.ext E69
    replace Ek := Ek.ext E69
    replace Ft := Ft.ext E69
    replace Et := Et.ext E69
    replace Ct := Ct.ext E69
    replace Fvt := Fvt.ext E69
    replace Vt := Vt.ext E69
    replace El := El.ext E69
    replace Cl := Cl.ext E69
    replace Fvl := Fvl.ext E69
    replace Vl := Vl.ext E69
    replace Eem := Eem.ext E69
    replace Es1 := Es1.ext E69
    replace Es2 := Es2.ext E69
    replace Es3 := Es3.ext E69
    replace hk := Nat.le_trans hk E69.1
    have V_fx : Arv Z h69 fx k69 (.object "java/lang/String") (1 : Int32) [.null] .null := (Arv.new A69 (by decide)).pad (pad_rep [] .null 1)
    have R70 := Rc.st R68 st69
    have R71 : Rc p e below A0 (T69.setTop (mkF m 104 #[.val (.int p1), .val (.int p2), .val (.int p3), .val (.int p4), .val (.int p5), .val (.int kk), .val (.ref kd), .val (.ref lt), .val (.int 1), .val (.ref s1), .val (.ref s2), .val (.ref s3), .unset, .unset, .unset, .unset] [(.ref s1), (.int 0), (.ref fx), (.ref fx)])) := by
      intro tgt hgo
      refine R70 tgt ?_
      show Steps p.tables e below (T69.setTop (mkF m 100 #[.val (.int p1), .val (.int p2), .val (.int p3), .val (.int p4), .val (.int p5), .val (.int kk), .val (.ref kd), .val (.ref lt), .val (.int 1), .val (.ref s1), .val (.ref s2), .val (.ref s3), .unset, .unset, .unset, .unset] [(.ref fx)])) _
      refine XS.dup X69.here hx rfl (hb hby at_100) rfl rfl ?_
      refine XS.iconst X69.here hx rfl (hb hby at_101) ?_
      refine XS.aload X69.here hx rfl (hb hby at_102) rfl rfl ?_
      exact hgo
    obtain ⟨cl72, Ar72, q72, S72, Nn72, H72, G72⟩ := V_fx
    have hin72 : ¬ ((0 : Int32) < 0 ∨ cl72.slots.size ≤ ((0 : Int32)).toNatClampNeg) := inb_of S72 ⟨by decide, by decide⟩
    obtain ⟨T72, h72, X72, e72, W72, st72⟩ := stR X69 hx hZ e69 Ar72 (j := (0 : Int32)) hin72 rfl (Sto.ofV Ar72 q72 O69 (Ins.self Es1)) (g := (mkF m 104 #[.val (.int p1), .val (.int p2), .val (.int p3), .val (.int p4), .val (.int p5), .val (.int kk), .val (.ref kd), .val (.ref lt), .val (.int 1), .val (.ref s1), .val (.ref s2), .val (.ref s3), .unset, .unset, .unset, .unset] [(.ref s1), (.int 0), (.ref fx), (.ref fx)])) rfl rfl (hb hby at_104)
    replace hZn := Nat.le_trans hZn (Keep.of_wr W72).1
    replace hOld := hOld.wr W72 ge_fx
    replace hK := hK.wr W72 (Or.inr sz_fx)
    replace Ek := Ek.wr W72
    replace Ft := Ft.other W72 (Or.inl ne_kd_fx)
    replace Et := Et.wr W72
    replace Ct := Ct.other W72 (Or.inl ne_tk_fx)
    replace Fvt := Fvt.other W72 (Or.inl ne_tk_fx)
    replace Vt := Vt.other W72 ne_bt_fx
    replace El := El.wr W72
    replace Cl := Cl.other W72 (Or.inl ne_lt_fx)
    replace Fvl := Fvl.other W72 (Or.inl ne_lt_fx)
    replace Vl := Vl.other W72 ne_bl_fx
    replace Eem := Eem.wr W72
    replace Es1 := Es1.wr W72
    replace Es2 := Es2.wr W72
    replace Es3 := Es3.wr W72
    replace hk := Nat.le_trans hk (Keep.of_wr W72).1
    have V_fx : Arv Z h72 fx k69 (.object "java/lang/String") (1 : Int32) [(.ref s1)] .null := Arv.set Ar72 q72 S72 Nn72 H72 G72 rfl W72 0 rfl (Nat.le_of_ble_eq_true rfl)
    have N72 := Fr.snoc X72 N36 ge_fx
    have R73 := Rc.st R71 st72
    have R74 : Rc p e below A0 (T72.setTop (mkF m 156 #[.val (.int p1), .val (.int p2), .val (.int p3), .val (.int p4), .val (.int p5), .val (.int kk), .val (.ref kd), .val (.ref lt), .val (.int 1), .val (.ref s1), .val (.ref s2), .val (.ref s3), .val (.ref fx), .unset, .unset, .unset] [])) := by
      intro tgt hgo
      refine R73 tgt ?_
      show Steps p.tables e below (T72.setTop (mkF m 105 #[.val (.int p1), .val (.int p2), .val (.int p3), .val (.int p4), .val (.int p5), .val (.int kk), .val (.ref kd), .val (.ref lt), .val (.int 1), .val (.ref s1), .val (.ref s2), .val (.ref s3), .unset, .unset, .unset, .unset] [(.ref fx)])) _
      refine XS.astore X72.here hx rfl (hb hby at_105) rfl rfl (l' := #[.val (.int p1), .val (.int p2), .val (.int p3), .val (.int p4), .val (.int p5), .val (.int kk), .val (.ref kd), .val (.ref lt), .val (.int 1), .val (.ref s1), .val (.ref s2), .val (.ref s3), .val (.ref fx), .unset, .unset, .unset]) rfl ?_
      refine XS.goto X72.here hx rfl (pc0 := 107) (pc' := 156) rfl (hb hby at_107) (by decide) (by decide) ?_
      exact hgo
    obtain ⟨T75, h75, X75, e75, E75, A75, D75, -, st75⟩ := newO X72 hx hZ hown (w 32 rfl) (w 33 rfl) (w 34 rfl) e72 (g := (mkF m 156 #[.val (.int p1), .val (.int p2), .val (.int p3), .val (.int p4), .val (.int p5), .val (.int kk), .val (.ref kd), .val (.ref lt), .val (.int 1), .val (.ref s1), .val (.ref s2), .val (.ref s3), .val (.ref fx), .unset, .unset, .unset] [])) rfl (hb hby at_156) (by decide) (by decide)
    obtain ⟨fo, g75⟩ : ∃ z, z = h72.size := ⟨_, rfl⟩
    rw [← g75] at A75 D75 st75
    have ne_kd_fo : kd ≠ fo := Nat.ne_of_lt (Nat.lt_of_lt_of_le Ek.lt (Nat.le_of_eq g75.symm))
    have ne_tk_fo : tk ≠ fo := Nat.ne_of_lt (Nat.lt_of_lt_of_le Et.lt (Nat.le_of_eq g75.symm))
    have ne_bt_fo : bt ≠ fo := Nat.ne_of_lt (Nat.lt_of_lt_of_le Vt.lt (Nat.le_of_eq g75.symm))
    have ne_lt_fo : lt ≠ fo := Nat.ne_of_lt (Nat.lt_of_lt_of_le El.lt (Nat.le_of_eq g75.symm))
    have ne_bl_fo : bl ≠ fo := Nat.ne_of_lt (Nat.lt_of_lt_of_le Vl.lt (Nat.le_of_eq g75.symm))
    have ne_em_fo : em ≠ fo := Nat.ne_of_lt (Nat.lt_of_lt_of_le Eem.lt (Nat.le_of_eq g75.symm))
    have ne_s1_fo : s1 ≠ fo := Nat.ne_of_lt (Nat.lt_of_lt_of_le Es1.lt (Nat.le_of_eq g75.symm))
    have ne_s2_fo : s2 ≠ fo := Nat.ne_of_lt (Nat.lt_of_lt_of_le Es2.lt (Nat.le_of_eq g75.symm))
    have ne_s3_fo : s3 ≠ fo := Nat.ne_of_lt (Nat.lt_of_lt_of_le Es3.lt (Nat.le_of_eq g75.symm))
    have ne_fx_fo : fx ≠ fo := Nat.ne_of_lt (Nat.lt_of_lt_of_le V_fx.lt (Nat.le_of_eq g75.symm))
    have ge_fo : n0 ≤ fo := Nat.le_trans hZn (Nat.le_of_eq g75.symm)
    have sz_fo : h0.size ≤ fo := Nat.le_trans hK.1 (Nat.le_of_eq g75.symm)
    replace hZn := Nat.le_trans hZn E75.1
    replace hOld := hOld.ext E75
    replace hK := hK.ext E75
    replace Ek := Ek.ext E75
    replace Ft := Ft.ext E75
    replace Et := Et.ext E75
    replace Ct := Ct.ext E75
    replace Fvt := Fvt.ext E75
    replace Vt := Vt.ext E75
    replace El := El.ext E75
    replace Cl := Cl.ext E75
    replace Fvl := Fvl.ext E75
    replace Vl := Vl.ext E75
    replace Eem := Eem.ext E75
    replace Es1 := Es1.ext E75
    replace Es2 := Es2.ext E75
    replace Es3 := Es3.ext E75
    replace hk := Nat.le_trans hk E75.1
    replace V_fx := V_fx.ext E75
    have E_fo := A75
    have F_kind_fo : Fld Z h75 fo "com/example/verdict_ladder/verdictladder/lint/Finding" "kind" "Lcom/example/verdict_ladder/verdictladder/lint/Finding$Kind;" .null := D75 (Or.inr (w 40 rfl)) (ty := (.object "com/example/verdict_ladder/verdictladder/lint/Finding$Kind")) (by decide)
    have F_fields_fo : Fld Z h75 fo "com/example/verdict_ladder/verdictladder/lint/Finding" "fields" "Ljava/util/List;" .null := D75 (Or.inr (w 87 rfl)) (ty := (.object "java/util/List")) (by decide)
    have R76 := Rc.st R74 st75
    have R77 : Rc p e below A0 (T75.setTop (mkF m 164 #[.val (.int p1), .val (.int p2), .val (.int p3), .val (.int p4), .val (.int p5), .val (.int kk), .val (.ref kd), .val (.ref lt), .val (.int 1), .val (.ref s1), .val (.ref s2), .val (.ref s3), .val (.ref fx), .unset, .unset, .unset] [(.ref fx), (.ref kd), (.ref fo), (.ref fo)])) := by
      intro tgt hgo
      refine R76 tgt ?_
      show Steps p.tables e below (T75.setTop (mkF m 159 #[.val (.int p1), .val (.int p2), .val (.int p3), .val (.int p4), .val (.int p5), .val (.int kk), .val (.ref kd), .val (.ref lt), .val (.int 1), .val (.ref s1), .val (.ref s2), .val (.ref s3), .val (.ref fx), .unset, .unset, .unset] [(.ref fo)])) _
      refine XS.dup X75.here hx rfl (hb hby at_159) rfl rfl ?_
      refine XS.aload X75.here hx rfl (hb hby at_160) rfl rfl ?_
      refine XS.aload X75.here hx rfl (hb hby at_162) rfl rfl ?_
      exact hgo
    obtain ⟨_, _, ⟨T78, L78, k78, n78⟩, -, X78, ⟨Lc78, hQ78, l78, y78, z78⟩, st78⟩ := X75.specialBack hx (y := yn11) rfl hown (mvT hZ (w 35 rfl)) (mvT hZ (w 36 rfl)) (mvT hZ (w 37 rfl)) (by decide) (backOf (W := 1) (rm_fi1 l Z a0 hw [] fo kd fx s1 em _ h75 n0 hZn ge_fo ne_fx_fo E_fo F_kind_fo F_fields_fo hOld S_em V_fx Es1) hZ (w 37 rfl) (w 34 rfl) (by decide) (by decide)) (g := (mkF m 164 #[.val (.int p1), .val (.int p2), .val (.int p3), .val (.int p4), .val (.int p5), .val (.int kk), .val (.ref kd), .val (.ref lt), .val (.int 1), .val (.ref s1), .val (.ref s2), .val (.ref s3), .val (.ref fx), .unset, .unset, .unset] [(.ref fx), (.ref kd), (.ref fo), (.ref fo)])) rfl (by rw [hml]; rfl) (Steps.refl _) (a := fo) (argsL := [(.ref kd), (.ref fx)]) (rest := [(.ref fo)]) (lenOf pd_18 rfl) rfl (by show 2 * 0 + _ ≤ _; exact Nat.le_of_eq rfl) (hb hby at_164) (fun _ _ => ⟨rfl, e75, (by decide : 16 + 1 ≤ _), (by decide : 75 + 2 ≤ _)⟩)
    dsimp only [Pt.U, Pt.locs, Pt.cells, Pt.slots] at X78 l78 y78 z78 st78 hQ78
    subst l78 y78 z78
    obtain ⟨rfl, N78q, K78, Fk, lx, szx0, gex, Ff, Ex, Fe0, Fe1⟩ := hQ78
    have N78 := Fr.app N72 N78q
    have R79 := Rc.tr R77 st78
    have ne_kd_lx : kd ≠ lx := Nat.ne_of_lt (Nat.lt_of_lt_of_le Ek.lt szx0)
    have ne_tk_lx : tk ≠ lx := Nat.ne_of_lt (Nat.lt_of_lt_of_le Et.lt szx0)
    have ne_bt_lx : bt ≠ lx := Nat.ne_of_lt (Nat.lt_of_lt_of_le Vt.lt szx0)
    have ne_lt_lx : lt ≠ lx := Nat.ne_of_lt (Nat.lt_of_lt_of_le El.lt szx0)
    have ne_bl_lx : bl ≠ lx := Nat.ne_of_lt (Nat.lt_of_lt_of_le Vl.lt szx0)
    have ne_em_lx : em ≠ lx := Nat.ne_of_lt (Nat.lt_of_lt_of_le Eem.lt szx0)
    have ne_s1_lx : s1 ≠ lx := Nat.ne_of_lt (Nat.lt_of_lt_of_le Es1.lt szx0)
    have ne_s2_lx : s2 ≠ lx := Nat.ne_of_lt (Nat.lt_of_lt_of_le Es2.lt szx0)
    have ne_s3_lx : s3 ≠ lx := Nat.ne_of_lt (Nat.lt_of_lt_of_le Es3.lt szx0)
    have ne_fx_lx : fx ≠ lx := Nat.ne_of_lt (Nat.lt_of_lt_of_le V_fx.lt szx0)
    have ne_fo_lx : fo ≠ lx := Nat.ne_of_lt (Nat.lt_of_lt_of_le E_fo.lt szx0)
    have sz_lx := Nat.le_trans hK.1 szx0
    replace hZn := Nat.le_trans hZn K78.1
    replace hOld := hOld.keep K78 (allS ge_fo all0)
    replace hK := hK.trans K78 (allS (Or.inr sz_fo) all0)
    replace Ek := Ek.keep K78
    replace Ft := Ft.keep K78 (ninS ne_kd_fo nin0)
    replace Et := Et.keep K78
    replace Ct := Ct.keep K78 (ninS ne_tk_fo nin0)
    replace Fvt := Fvt.keep K78 (ninS ne_tk_fo nin0)
    replace Vt := Vt.keep K78 (ninS ne_bt_fo nin0)
    replace El := El.keep K78
    replace Cl := Cl.keep K78 (ninS ne_lt_fo nin0)
    replace Fvl := Fvl.keep K78 (ninS ne_lt_fo nin0)
    replace Vl := Vl.keep K78 (ninS ne_bl_fo nin0)
    replace Eem := Eem.keep K78
    replace Es1 := Es1.keep K78
    replace Es2 := Es2.keep K78
    replace Es3 := Es3.keep K78
    replace hk := Nat.le_trans hk K78.1
    replace V_fx := V_fx.keep K78 (ninS ne_fx_fo nin0)
    replace E_fo := E_fo.keep K78
    have R80 : Rc p e below A0 (T78.setTop (mkF m 171 #[.val (.int p1), .val (.int p2), .val (.int p3), .val (.int p4), .val (.int p5), .val (.int kk), .val (.ref kd), .val (.ref lt), .val (.int 1), .val (.ref s1), .val (.ref s2), .val (.ref s3), .val (.ref fx), .val (.ref fo), .unset, .unset] [(.ref fo)])) := by
      intro tgt hgo
      refine R79 tgt ?_
      show Steps p.tables e below (T78.setTop (mkF m 167 #[.val (.int p1), .val (.int p2), .val (.int p3), .val (.int p4), .val (.int p5), .val (.int kk), .val (.ref kd), .val (.ref lt), .val (.int 1), .val (.ref s1), .val (.ref s2), .val (.ref s3), .val (.ref fx), .unset, .unset, .unset] [(.ref fo)])) _
      refine XS.astore X78.here hx rfl (hb hby at_167) rfl rfl (l' := #[.val (.int p1), .val (.int p2), .val (.int p3), .val (.int p4), .val (.int p5), .val (.int kk), .val (.ref kd), .val (.ref lt), .val (.int 1), .val (.ref s1), .val (.ref s2), .val (.ref s3), .val (.ref fx), .val (.ref fo), .unset, .unset]) rfl ?_
      refine XS.aload X78.here hx rfl (hb hby at_169) rfl rfl ?_
      exact hgo
    obtain ⟨cq81, kq81, q81a, q81b, q81c⟩ := isOf hZ rfl E_fo
    obtain ⟨_, _, ⟨T81, L81, k81, n81⟩, -, X81, ⟨Lc81, hQ81, l81, y81, z81⟩, st81⟩ := X78.virtualBack hx (y := yn17) (z := yn17) hown (mvT hZ (w 88 rfl)) (mvT hZ (w 89 rfl)) (notFace_of_selects (args := #[]) (mvT hZ (w 91 rfl))) (mvT hZ (w 91 rfl)) (mvT hZ (w 90 rfl)) (by decide) (backOf (W := 0) (rm_li1 l Z a0 hw [] fo kd tk lx s1 em T78.heap n0 hZn E_fo Fk Ff Ek Ft Et Ex hOld S_em Fe0 Fe1 Es1) hZ (w 92 rfl) (w 34 rfl) (by decide) (by decide)) q81a q81c (g := (mkF m 171 #[.val (.int p1), .val (.int p2), .val (.int p3), .val (.int p4), .val (.int p5), .val (.int kk), .val (.ref kd), .val (.ref lt), .val (.int 1), .val (.ref s1), .val (.ref s2), .val (.ref s3), .val (.ref fx), .val (.ref fo), .unset, .unset] [(.ref fo)])) rfl (by rw [hml]; rfl) (Steps.refl _) (argsL := []) (rest := []) (lenOf pd_19 rfl) rfl (by show 2 * 0 + _ ≤ _; exact Nat.le_of_eq rfl) (hb hby at_171) (fun _ _ => ⟨rfl, rfl, (by decide : 17 + 1 ≤ _), (by decide : 77 + 2 ≤ _)⟩)
    dsimp only [Pt.U, Pt.locs, Pt.cells, Pt.slots] at X81 l81 y81 z81 st81 hQ81
    subst l81 y81 z81
    obtain ⟨⟨r1, rfl, k_r1, sz0_r1, ge_r1, O_r1, V_r1⟩, N81q, K81⟩ := hQ81
    have N81 := Fr.app N78 N81q
    have R82 := Rc.tr R80 st81
    have ne_kd_r1 : kd ≠ r1 := Nat.ne_of_lt (Nat.lt_of_lt_of_le Ek.lt sz0_r1)
    have ne_tk_r1 : tk ≠ r1 := Nat.ne_of_lt (Nat.lt_of_lt_of_le Et.lt sz0_r1)
    have ne_bt_r1 : bt ≠ r1 := Nat.ne_of_lt (Nat.lt_of_lt_of_le Vt.lt sz0_r1)
    have ne_lt_r1 : lt ≠ r1 := Nat.ne_of_lt (Nat.lt_of_lt_of_le El.lt sz0_r1)
    have ne_bl_r1 : bl ≠ r1 := Nat.ne_of_lt (Nat.lt_of_lt_of_le Vl.lt sz0_r1)
    have ne_em_r1 : em ≠ r1 := Nat.ne_of_lt (Nat.lt_of_lt_of_le Eem.lt sz0_r1)
    have ne_s1_r1 : s1 ≠ r1 := Nat.ne_of_lt (Nat.lt_of_lt_of_le Es1.lt sz0_r1)
    have ne_s2_r1 : s2 ≠ r1 := Nat.ne_of_lt (Nat.lt_of_lt_of_le Es2.lt sz0_r1)
    have ne_s3_r1 : s3 ≠ r1 := Nat.ne_of_lt (Nat.lt_of_lt_of_le Es3.lt sz0_r1)
    have ne_fo_r1 : fo ≠ r1 := Nat.ne_of_lt (Nat.lt_of_lt_of_le E_fo.lt sz0_r1)
    have ne_lx_r1 : lx ≠ r1 := Nat.ne_of_lt (Nat.lt_of_lt_of_le Ex.lt sz0_r1)
    have sz_r1 := Nat.le_trans hK.1 sz0_r1
    replace hZn := Nat.le_trans hZn K81.1
    replace hOld := hOld.keep K81 all0
    replace hK := hK.trans K81 all0
    replace Ek := Ek.keep K81
    replace Ft := Ft.keep K81 nin0
    replace Et := Et.keep K81
    replace Ct := Ct.keep K81 nin0
    replace Fvt := Fvt.keep K81 nin0
    replace Vt := Vt.keep K81 nin0
    replace El := El.keep K81
    replace Cl := Cl.keep K81 nin0
    replace Fvl := Fvl.keep K81 nin0
    replace Vl := Vl.keep K81 nin0
    replace Eem := Eem.keep K81
    replace Es1 := Es1.keep K81
    replace Es2 := Es2.keep K81
    replace Es3 := Es3.keep K81
    replace hk := Nat.le_trans hk K81.1
    replace E_fo := E_fo.keep K81
    replace Fk := Fk.keep K81 nin0
    replace Ff := Ff.keep K81 nin0
    replace Ex := Ex.keep K81
    replace Fe0 := Fe0.keep K81 nin0
    replace Fe1 := Fe1.keep K81 nin0
    have R83 : Rc p e below A0 (T81.setTop (mkF m 188 #[.val (.int p1), .val (.int p2), .val (.int p3), .val (.int p4), .val (.int p5), .val (.int kk), .val (.ref kd), .val (.ref lt), .val (.int 1), .val (.ref s1), .val (.ref s2), .val (.ref s3), .val (.ref fx), .val (.ref fo), .val (.ref r1), .unset] [(.ref s3), (.ref s2), (.ref s1), (.ref lt), (.int 1), (.ref r1)])) := by
      intro tgt hgo
      refine R82 tgt ?_
      show Steps p.tables e below (T81.setTop (mkF m 174 #[.val (.int p1), .val (.int p2), .val (.int p3), .val (.int p4), .val (.int p5), .val (.int kk), .val (.ref kd), .val (.ref lt), .val (.int 1), .val (.ref s1), .val (.ref s2), .val (.ref s3), .val (.ref fx), .val (.ref fo), .unset, .unset] [(.ref r1)])) _
      refine XS.astore X81.here hx rfl (hb hby at_174) rfl rfl (l' := #[.val (.int p1), .val (.int p2), .val (.int p3), .val (.int p4), .val (.int p5), .val (.int kk), .val (.ref kd), .val (.ref lt), .val (.int 1), .val (.ref s1), .val (.ref s2), .val (.ref s3), .val (.ref fx), .val (.ref fo), .val (.ref r1), .unset]) rfl ?_
      refine XS.aload X81.here hx rfl (hb hby at_176) rfl rfl ?_
      refine XS.iload X81.here hx rfl (hb hby at_178) rfl ?_
      refine XS.aload X81.here hx rfl (hb hby at_180) rfl rfl ?_
      refine XS.aload X81.here hx rfl (hb hby at_182) rfl rfl ?_
      refine XS.aload X81.here hx rfl (hb hby at_184) rfl rfl ?_
      refine XS.aload X81.here hx rfl (hb hby at_186) rfl rfl ?_
      exact hgo
    obtain ⟨_, _, ⟨T84, L84, k84, n84⟩, -, X84, ⟨Lc84, hQ84, l84, y84, z84⟩, st84⟩ := Jvm.LawKit.callS X81 hx (y := yn20) hown (mvT hZ (w 118 rfl)) (mvT hZ (w 119 rfl)) (mvT hZ (w 14 rfl)) (mvT hZ (w 120 rfl)) (by decide) (backOf (W := 0) (rm_ma1 l Z a0 hw [] r1 lt s1 s2 s3 tk zc bs bl bt kl kt k_r1 T81.heap n0 hZn hOld S_cs hz hbs ⟨El, Cl, Fvl, Vl⟩ ⟨Et, Ct, Fvt, Vt⟩ V_r1 Es1) hZ (w 120 rfl) (w 14 rfl) (by decide) (by decide)) (g := (mkF m 188 #[.val (.int p1), .val (.int p2), .val (.int p3), .val (.int p4), .val (.int p5), .val (.int kk), .val (.ref kd), .val (.ref lt), .val (.int 1), .val (.ref s1), .val (.ref s2), .val (.ref s3), .val (.ref fx), .val (.ref fo), .val (.ref r1), .unset] [(.ref s3), (.ref s2), (.ref s1), (.ref lt), (.int 1), (.ref r1)])) rfl (by rw [hml]; rfl) (argsL := [(.ref r1), (.int 1), (.ref lt), (.ref s1), (.ref s2), (.ref s3)]) (rest := []) (lenOf pd_20 rfl) rfl (by show 2 * 0 + _ ≤ _; exact Nat.le_of_eq rfl) (hb hby at_188) (fun _ _ => ⟨rfl, rfl, (by decide : 18 + 0 ≤ _), (by decide : 79 + 0 ≤ _)⟩)
    dsimp only [Pt.U, Pt.locs, Pt.cells, Pt.slots] at X84 l84 y84 z84 st84 hQ84
    subst l84 y84 z84
    obtain ⟨rfl, N84q, e84⟩ := hQ84
    have N84 := Fr.app N81 N84q
    have R85 := Rc.st R83 st84
    have R86 : Rc p e below A0 (T84.setTop (mkF m 201 #[.val (.int p1), .val (.int p2), .val (.int p3), .val (.int p4), .val (.int p5), .val (.int kk), .val (.ref kd), .val (.ref lt), .val (.int 1), .val (.ref s1), .val (.ref s2), .val (.ref s3), .val (.ref fx), .val (.ref fo), .val (.ref r1), .unset] [(.ref s1), (.int 0), (.ref r1)])) := by
      intro tgt hgo
      refine R85 tgt ?_
      show Steps p.tables e below (T84.setTop (mkF m 191 #[.val (.int p1), .val (.int p2), .val (.int p3), .val (.int p4), .val (.int p5), .val (.int kk), .val (.ref kd), .val (.ref lt), .val (.int 1), .val (.ref s1), .val (.ref s2), .val (.ref s3), .val (.ref fx), .val (.ref fo), .val (.ref r1), .unset] [(.int 1)])) _
      refine XS.ifYes X84.here hx rfl (pc0 := 191) (pc' := 196) rfl (hb hby at_191) rfl ((if0 _ _).trans (feq (by decide : ¬ ((1 : Int32) = (0 : Int32)))).2) (by decide) (by decide) ?_
      refine XS.aload X84.here hx rfl (hb hby at_196) rfl rfl ?_
      refine XS.iconst X84.here hx rfl (hb hby at_198) ?_
      refine XS.aload X84.here hx rfl (hb hby at_199) rfl rfl ?_
      exact hgo
    obtain ⟨cl87, Ar87, q87, S87, Nn87, H87, G87⟩ := V_r1
    have hin87 : ¬ ((0 : Int32) < 0 ∨ cl87.slots.size ≤ ((0 : Int32)).toNatClampNeg) := inb_of S87 ⟨by decide, by decide⟩
    obtain ⟨T87, h87, X87, e87, W87, st87⟩ := stR X84 hx hZ e84 Ar87 (j := (0 : Int32)) hin87 rfl (Sto.ofV Ar87 q87 O_r1 (Ins.self Es1)) (g := (mkF m 201 #[.val (.int p1), .val (.int p2), .val (.int p3), .val (.int p4), .val (.int p5), .val (.int kk), .val (.ref kd), .val (.ref lt), .val (.int 1), .val (.ref s1), .val (.ref s2), .val (.ref s3), .val (.ref fx), .val (.ref fo), .val (.ref r1), .unset] [(.ref s1), (.int 0), (.ref r1)])) rfl rfl (hb hby at_201)
    replace hZn := Nat.le_trans hZn (Keep.of_wr W87).1
    replace hOld := hOld.wr W87 ge_r1
    replace hK := hK.wr W87 (Or.inr sz_r1)
    replace Ek := Ek.wr W87
    replace Ft := Ft.other W87 (Or.inl ne_kd_r1)
    replace Et := Et.wr W87
    replace Ct := Ct.other W87 (Or.inl ne_tk_r1)
    replace Fvt := Fvt.other W87 (Or.inl ne_tk_r1)
    replace Vt := Vt.other W87 ne_bt_r1
    replace El := El.wr W87
    replace Cl := Cl.other W87 (Or.inl ne_lt_r1)
    replace Fvl := Fvl.other W87 (Or.inl ne_lt_r1)
    replace Vl := Vl.other W87 ne_bl_r1
    replace Eem := Eem.wr W87
    replace Es1 := Es1.wr W87
    replace Es2 := Es2.wr W87
    replace Es3 := Es3.wr W87
    replace hk := Nat.le_trans hk (Keep.of_wr W87).1
    replace E_fo := E_fo.wr W87
    replace Fk := Fk.other W87 (Or.inl ne_fo_r1)
    replace Ff := Ff.other W87 (Or.inl ne_fo_r1)
    replace Ex := Ex.wr W87
    replace Fe0 := Fe0.other W87 (Or.inl ne_lx_r1)
    replace Fe1 := Fe1.other W87 (Or.inl ne_lx_r1)
    have V_r1 : Arv Z h87 r1 k_r1 (.object "java/lang/String") (2 : Int32) [(.ref s1), (.ref s1)] .null := Arv.set Ar87 q87 S87 Nn87 H87 G87 rfl W87 0 rfl (Nat.le_of_ble_eq_true rfl)
    have N87 := Fr.snoc X87 N84 ge_r1
    have R88 := Rc.st R86 st87
    have R89 : Rc p e below A0 (T87.setTop (mkF m 213 #[.val (.int p1), .val (.int p2), .val (.int p3), .val (.int p4), .val (.int p5), .val (.int kk), .val (.ref kd), .val (.ref lt), .val (.int 1), .val (.ref s1), .val (.ref s2), .val (.ref s3), .val (.ref fx), .val (.ref fo), .val (.ref r1), .unset] [(.ref lt), (.int 1), (.ref r1)])) := by
      intro tgt hgo
      refine R88 tgt ?_
      show Steps p.tables e below (T87.setTop (mkF m 202 #[.val (.int p1), .val (.int p2), .val (.int p3), .val (.int p4), .val (.int p5), .val (.int kk), .val (.ref kd), .val (.ref lt), .val (.int 1), .val (.ref s1), .val (.ref s2), .val (.ref s3), .val (.ref fx), .val (.ref fo), .val (.ref r1), .unset] [])) _
      refine XS.iload X87.here hx rfl (hb hby at_202) rfl ?_
      refine XS.iconst X87.here hx rfl (hb hby at_204) ?_
      refine XS.icmpNo X87.here hx rfl (hb hby at_205) rfl (flt (by decide : ¬ ((1 : Int32) < (1 : Int32)))).1 ?_
      refine XS.aload X87.here hx rfl (hb hby at_208) rfl rfl ?_
      refine XS.iconst X87.here hx rfl (hb hby at_210) ?_
      refine XS.aload X87.here hx rfl (hb hby at_211) rfl rfl ?_
      exact hgo
    obtain ⟨cl90, Ar90, q90, S90, Nn90, H90, G90⟩ := V_r1
    have hin90 : ¬ ((1 : Int32) < 0 ∨ cl90.slots.size ≤ ((1 : Int32)).toNatClampNeg) := inb_of S90 ⟨by decide, by decide⟩
    obtain ⟨T90, h90, X90, e90, W90, st90⟩ := stR X87 hx hZ e87 Ar90 (j := (1 : Int32)) hin90 rfl (Sto.ofV Ar90 q90 O_r1 (Ins.self El)) (g := (mkF m 213 #[.val (.int p1), .val (.int p2), .val (.int p3), .val (.int p4), .val (.int p5), .val (.int kk), .val (.ref kd), .val (.ref lt), .val (.int 1), .val (.ref s1), .val (.ref s2), .val (.ref s3), .val (.ref fx), .val (.ref fo), .val (.ref r1), .unset] [(.ref lt), (.int 1), (.ref r1)])) rfl rfl (hb hby at_213)
    replace hZn := Nat.le_trans hZn (Keep.of_wr W90).1
    replace hOld := hOld.wr W90 ge_r1
    replace hK := hK.wr W90 (Or.inr sz_r1)
    replace Ek := Ek.wr W90
    replace Ft := Ft.other W90 (Or.inl ne_kd_r1)
    replace Et := Et.wr W90
    replace Ct := Ct.other W90 (Or.inl ne_tk_r1)
    replace Fvt := Fvt.other W90 (Or.inl ne_tk_r1)
    replace Vt := Vt.other W90 ne_bt_r1
    replace El := El.wr W90
    replace Cl := Cl.other W90 (Or.inl ne_lt_r1)
    replace Fvl := Fvl.other W90 (Or.inl ne_lt_r1)
    replace Vl := Vl.other W90 ne_bl_r1
    replace Eem := Eem.wr W90
    replace Es1 := Es1.wr W90
    replace Es2 := Es2.wr W90
    replace Es3 := Es3.wr W90
    replace hk := Nat.le_trans hk (Keep.of_wr W90).1
    replace E_fo := E_fo.wr W90
    replace Fk := Fk.other W90 (Or.inl ne_fo_r1)
    replace Ff := Ff.other W90 (Or.inl ne_fo_r1)
    replace Ex := Ex.wr W90
    replace Fe0 := Fe0.other W90 (Or.inl ne_lx_r1)
    replace Fe1 := Fe1.other W90 (Or.inl ne_lx_r1)
    have V_r1 : Arv Z h90 r1 k_r1 (.object "java/lang/String") (2 : Int32) [(.ref s1), (.ref lt)] .null := Arv.set Ar90 q90 S90 Nn90 H90 G90 rfl W90 1 rfl (Nat.le_of_ble_eq_true rfl)
    have N90 := Fr.snoc X90 N87 ge_r1
    have R91 := Rc.st R89 st90
    have R92 : Rc p e below A0 (T90.setTop (mkF m 216 #[.val (.int p1), .val (.int p2), .val (.int p3), .val (.int p4), .val (.int p5), .val (.int kk), .val (.ref kd), .val (.ref lt), .val (.int 1), .val (.ref s1), .val (.ref s2), .val (.ref s3), .val (.ref fx), .val (.ref fo), .val (.ref r1), .unset] [(.ref fo)])) := by
      intro tgt hgo
      refine R91 tgt ?_
      show Steps p.tables e below (T90.setTop (mkF m 214 #[.val (.int p1), .val (.int p2), .val (.int p3), .val (.int p4), .val (.int p5), .val (.int kk), .val (.ref kd), .val (.ref lt), .val (.int 1), .val (.ref s1), .val (.ref s2), .val (.ref s3), .val (.ref fx), .val (.ref fo), .val (.ref r1), .unset] [])) _
      refine XS.aload X90.here hx rfl (hb hby at_214) rfl rfl ?_
      exact hgo
    obtain ⟨cq93, kq93, q93a, q93b, q93c⟩ := isOf hZ e90 E_fo
    obtain ⟨_, _, ⟨T93, L93, k93, n93⟩, -, X93, ⟨Lc93, hQ93, l93, y93, z93⟩, st93⟩ := X90.virtualBack hx (y := yn17) (z := yn17) hown (mvT hZ (w 88 rfl)) (mvT hZ (w 89 rfl)) (notFace_of_selects (args := #[]) (mvT hZ (w 91 rfl))) (mvT hZ (w 91 rfl)) (mvT hZ (w 90 rfl)) (by decide) (backOf (W := 0) (rm_li1 l Z a0 hw [] fo kd tk lx s1 em h90 n0 hZn E_fo Fk Ff Ek Ft Et Ex hOld S_em Fe0 Fe1 Es1) hZ (w 92 rfl) (w 34 rfl) (by decide) (by decide)) q93a q93c (g := (mkF m 216 #[.val (.int p1), .val (.int p2), .val (.int p3), .val (.int p4), .val (.int p5), .val (.int kk), .val (.ref kd), .val (.ref lt), .val (.int 1), .val (.ref s1), .val (.ref s2), .val (.ref s3), .val (.ref fx), .val (.ref fo), .val (.ref r1), .unset] [(.ref fo)])) rfl (by rw [hml]; rfl) (Steps.refl _) (argsL := []) (rest := []) (lenOf pd_19 rfl) rfl (by show 2 * 0 + _ ≤ _; exact Nat.le_of_eq rfl) (hb hby at_216) (fun _ _ => ⟨rfl, e90, (by decide : 18 + 1 ≤ _), (by decide : 79 + 2 ≤ _)⟩)
    dsimp only [Pt.U, Pt.locs, Pt.cells, Pt.slots] at X93 l93 y93 z93 st93 hQ93
    subst l93 y93 z93
    obtain ⟨⟨r2, rfl, k_r2, sz0_r2, ge_r2, O_r2, V_r2⟩, N93q, K93⟩ := hQ93
    have N93 := Fr.app N90 N93q
    have R94 := Rc.tr R92 st93
    replace hZn := Nat.le_trans hZn K93.1
    replace hOld := hOld.keep K93 all0
    replace hK := hK.trans K93 all0
    replace Ek := Ek.keep K93
    replace Ft := Ft.keep K93 nin0
    replace Et := Et.keep K93
    replace Ct := Ct.keep K93 nin0
    replace Fvt := Fvt.keep K93 nin0
    replace Vt := Vt.keep K93 nin0
    replace El := El.keep K93
    replace Cl := Cl.keep K93 nin0
    replace Fvl := Fvl.keep K93 nin0
    replace Vl := Vl.keep K93 nin0
    replace Eem := Eem.keep K93
    replace Es1 := Es1.keep K93
    replace Es2 := Es2.keep K93
    replace Es3 := Es3.keep K93
    replace hk := Nat.le_trans hk K93.1
    replace E_fo := E_fo.keep K93
    replace Fk := Fk.keep K93 nin0
    replace Ff := Ff.keep K93 nin0
    replace Ex := Ex.keep K93
    replace Fe0 := Fe0.keep K93 nin0
    replace Fe1 := Fe1.keep K93 nin0
    replace V_r1 := V_r1.keep K93 nin0
    have R95 : Rc p e below A0 (T93.setTop (mkF m 233 #[.val (.int p1), .val (.int p2), .val (.int p3), .val (.int p4), .val (.int p5), .val (.int kk), .val (.ref kd), .val (.ref lt), .val (.int 1), .val (.ref s1), .val (.ref s2), .val (.ref s3), .val (.ref fx), .val (.ref fo), .val (.ref r1), .val (.ref r2)] [(.ref s3), (.ref s2), (.ref s1), (.ref lt), (.int 1), (.ref r2)])) := by
      intro tgt hgo
      refine R94 tgt ?_
      show Steps p.tables e below (T93.setTop (mkF m 219 #[.val (.int p1), .val (.int p2), .val (.int p3), .val (.int p4), .val (.int p5), .val (.int kk), .val (.ref kd), .val (.ref lt), .val (.int 1), .val (.ref s1), .val (.ref s2), .val (.ref s3), .val (.ref fx), .val (.ref fo), .val (.ref r1), .unset] [(.ref r2)])) _
      refine XS.astore X93.here hx rfl (hb hby at_219) rfl rfl (l' := #[.val (.int p1), .val (.int p2), .val (.int p3), .val (.int p4), .val (.int p5), .val (.int kk), .val (.ref kd), .val (.ref lt), .val (.int 1), .val (.ref s1), .val (.ref s2), .val (.ref s3), .val (.ref fx), .val (.ref fo), .val (.ref r1), .val (.ref r2)]) rfl ?_
      refine XS.aload X93.here hx rfl (hb hby at_221) rfl rfl ?_
      refine XS.iload X93.here hx rfl (hb hby at_223) rfl ?_
      refine XS.aload X93.here hx rfl (hb hby at_225) rfl rfl ?_
      refine XS.aload X93.here hx rfl (hb hby at_227) rfl rfl ?_
      refine XS.aload X93.here hx rfl (hb hby at_229) rfl rfl ?_
      refine XS.aload X93.here hx rfl (hb hby at_231) rfl rfl ?_
      exact hgo
    obtain ⟨_, _, ⟨T96, L96, k96, n96⟩, -, X96, ⟨Lc96, hQ96, l96, y96, z96⟩, st96⟩ := Jvm.LawKit.callS X93 hx (y := yn20) hown (mvT hZ (w 118 rfl)) (mvT hZ (w 119 rfl)) (mvT hZ (w 14 rfl)) (mvT hZ (w 120 rfl)) (by decide) (backOf (W := 0) (rm_ma1 l Z a0 hw [] r2 lt s1 s2 s3 tk zc bs bl bt kl kt k_r2 T93.heap n0 hZn hOld S_cs hz hbs ⟨El, Cl, Fvl, Vl⟩ ⟨Et, Ct, Fvt, Vt⟩ V_r2 Es1) hZ (w 120 rfl) (w 14 rfl) (by decide) (by decide)) (g := (mkF m 233 #[.val (.int p1), .val (.int p2), .val (.int p3), .val (.int p4), .val (.int p5), .val (.int kk), .val (.ref kd), .val (.ref lt), .val (.int 1), .val (.ref s1), .val (.ref s2), .val (.ref s3), .val (.ref fx), .val (.ref fo), .val (.ref r1), .val (.ref r2)] [(.ref s3), (.ref s2), (.ref s1), (.ref lt), (.int 1), (.ref r2)])) rfl (by rw [hml]; rfl) (argsL := [(.ref r2), (.int 1), (.ref lt), (.ref s1), (.ref s2), (.ref s3)]) (rest := []) (lenOf pd_20 rfl) rfl (by show 2 * 0 + _ ≤ _; exact Nat.le_of_eq rfl) (hb hby at_233) (fun _ _ => ⟨rfl, rfl, (by decide : 19 + 0 ≤ _), (by decide : 81 + 0 ≤ _)⟩)
    dsimp only [Pt.U, Pt.locs, Pt.cells, Pt.slots] at X96 l96 y96 z96 st96 hQ96
    subst l96 y96 z96
    obtain ⟨rfl, N96q, e96⟩ := hQ96
    have N96 := Fr.app N93 N96q
    have R97 := Rc.st R95 st96
    subst hA0
    obtain ⟨fs, hr, hrun, hended, hRW⟩ := X96.leaveW hS (by rw [e96]; exact hk) (v := some (.int 1)) (fun h => by rw [Bd.returns] at h; cases h) Bd.notSynchronized
    refine ⟨_, _, R97 _ ?_, hrun, hended, _, _, rfl, ?_, OwnKit.own_fin hRW (by decide) (by decide)⟩
    ·show Steps p.tables e below (T96.setTop (mkF m 236 #[.val (.int p1), .val (.int p2), .val (.int p3), .val (.int p4), .val (.int p5), .val (.int kk), .val (.ref kd), .val (.ref lt), .val (.int 1), .val (.ref s1), .val (.ref s2), .val (.ref s3), .val (.ref fx), .val (.ref fo), .val (.ref r1), .val (.ref r2)] [(.int 1)])) _
     exact retN X96 hx (t := .boolean) Bd.returns (by simp) (hb hby at_236) hr
    ·show Q0 n0 _ T96.heap _
     rw [e96]
     exact ⟨rfl, N96⟩
   ·have R99 : Rc p e below A0 (T36.setTop (mkF m 113 #[.val (.int p1), .val (.int p2), .val (.int p3), .val (.int p4), .val (.int p5), .val (.int kk), .val (.ref kd), .val (.ref lt), .val (.int nn), .val (.ref s1), .val (.ref s2), .val (.ref s3), .unset, .unset, .unset, .unset] [(.int 2), (.int nn)])) := by
      intro tgt hgo
      refine R66 tgt ?_
      show Steps p.tables e below (T36.setTop (mkF m 93 #[.val (.int p1), .val (.int p2), .val (.int p3), .val (.int p4), .val (.int p5), .val (.int kk), .val (.ref kd), .val (.ref lt), .val (.int nn), .val (.ref s1), .val (.ref s2), .val (.ref s3), .unset, .unset, .unset, .unset] [(.int 1), (.int nn)])) _
      refine XS.icmpYes X36.here hx rfl (pc0 := 93) (pc' := 110) rfl (hb hby at_93) rfl (feq hc93_65).2 (by decide) (by decide) ?_
      refine XS.iload X36.here hx rfl (hb hby at_110) rfl ?_
      refine XS.iconst X36.here hx rfl (hb hby at_112) ?_
      exact hgo
    by_cases hc113_98 : nn = (2 : Int32)
    ·have R100 : Rc p e below A0 (T36.setTop (mkF m 116 #[.val (.int p1), .val (.int p2), .val (.int p3), .val (.int p4), .val (.int p5), .val (.int kk), .val (.ref kd), .val (.ref lt), .val (.int nn), .val (.ref s1), .val (.ref s2), .val (.ref s3), .unset, .unset, .unset, .unset] [])) := by
       intro tgt hgo
       refine R99 tgt ?_
       show Steps p.tables e below (T36.setTop (mkF m 113 #[.val (.int p1), .val (.int p2), .val (.int p3), .val (.int p4), .val (.int p5), .val (.int kk), .val (.ref kd), .val (.ref lt), .val (.int nn), .val (.ref s1), .val (.ref s2), .val (.ref s3), .unset, .unset, .unset, .unset] [(.int 2), (.int nn)])) _
       refine XS.icmpNo X36.here hx rfl (hb hby at_113) rfl (teq hc113_98).2 ?_
       exact hgo
     rw [(hc113_98 : nn = (2 : Int32))] at R100
     have R101 : Rc p e below A0 (T36.setTop (mkF m 117 #[.val (.int p1), .val (.int p2), .val (.int p3), .val (.int p4), .val (.int p5), .val (.int kk), .val (.ref kd), .val (.ref lt), .val (.int 2), .val (.ref s1), .val (.ref s2), .val (.ref s3), .unset, .unset, .unset, .unset] [(.int 2)])) := by
       intro tgt hgo
       refine R100 tgt ?_
       show Steps p.tables e below (T36.setTop (mkF m 116 #[.val (.int p1), .val (.int p2), .val (.int p3), .val (.int p4), .val (.int p5), .val (.int kk), .val (.ref kd), .val (.ref lt), .val (.int 2), .val (.ref s1), .val (.ref s2), .val (.ref s3), .unset, .unset, .unset, .unset] [])) _
       refine XS.iconst X36.here hx rfl (hb hby at_116) ?_
       exact hgo
     obtain ⟨T102, h102, k102, X102, e102, E102, A102, O102, st102⟩ := newR X36 hx hZ hown (w 16 rfl) (w 31 rfl) rfl (g := (mkF m 117 #[.val (.int p1), .val (.int p2), .val (.int p3), .val (.int p4), .val (.int p5), .val (.int kk), .val (.ref kd), .val (.ref lt), .val (.int 2), .val (.ref s1), .val (.ref s2), .val (.ref s3), .unset, .unset, .unset, .unset] [(.int 2)])) rfl (hb hby at_117) rfl (by decide) (cap := 2) (by decide) (by decide) (by decide) (by decide)
     obtain ⟨fx, g102⟩ : ∃ z, z = T36.heap.size := ⟨_, rfl⟩
     rw [← g102] at A102 st102
     have ne_kd_fx : kd ≠ fx := Nat.ne_of_lt (Nat.lt_of_lt_of_le Ek.lt (Nat.le_of_eq g102.symm))
     have ne_tk_fx : tk ≠ fx := Nat.ne_of_lt (Nat.lt_of_lt_of_le Et.lt (Nat.le_of_eq g102.symm))
     have ne_bt_fx : bt ≠ fx := Nat.ne_of_lt (Nat.lt_of_lt_of_le Vt.lt (Nat.le_of_eq g102.symm))
     have ne_lt_fx : lt ≠ fx := Nat.ne_of_lt (Nat.lt_of_lt_of_le El.lt (Nat.le_of_eq g102.symm))
     have ne_bl_fx : bl ≠ fx := Nat.ne_of_lt (Nat.lt_of_lt_of_le Vl.lt (Nat.le_of_eq g102.symm))
     have ne_em_fx : em ≠ fx := Nat.ne_of_lt (Nat.lt_of_lt_of_le Eem.lt (Nat.le_of_eq g102.symm))
     have ne_s1_fx : s1 ≠ fx := Nat.ne_of_lt (Nat.lt_of_lt_of_le Es1.lt (Nat.le_of_eq g102.symm))
     have ne_s2_fx : s2 ≠ fx := Nat.ne_of_lt (Nat.lt_of_lt_of_le Es2.lt (Nat.le_of_eq g102.symm))
     have ne_s3_fx : s3 ≠ fx := Nat.ne_of_lt (Nat.lt_of_lt_of_le Es3.lt (Nat.le_of_eq g102.symm))
     have ge_fx : n0 ≤ fx := Nat.le_trans hZn (Nat.le_of_eq g102.symm)
     have sz_fx : h0.size ≤ fx := Nat.le_trans hK.1 (Nat.le_of_eq g102.symm)
     replace hCH := hCH.ext E102
     replace hZn := Nat.le_trans hZn E102.1
     replace hOld := hOld.ext E102
     replace hK := hK.ext E102
     replace Ek := Ek.ext E102
     replace Ft := Ft.ext E102
     replace Et := Et.ext E102
     replace Ct := Ct.ext E102
     replace Fvt := Fvt.ext E102
     replace Vt := Vt.ext E102
     replace El := El.ext E102
     replace Cl := Cl.ext E102
     replace Fvl := Fvl.ext E102
     replace Vl := Vl.ext E102
     replace Eem := Eem.ext E102
     replace Es1 := Es1.ext E102
     replace Es2 := Es2.ext E102
     replace Es3 := Es3.ext E102
     replace hk := Nat.le_trans hk E102.1
     have V_fx : Arv Z h102 fx k102 (.object "java/lang/String") (2 : Int32) [.null, .null] .null := (Arv.new A102 (by decide)).pad (pad_rep [] .null 2)
     have R103 := Rc.st R101 st102
     have R104 : Rc p e below A0 (T102.setTop (mkF m 124 #[.val (.int p1), .val (.int p2), .val (.int p3), .val (.int p4), .val (.int p5), .val (.int kk), .val (.ref kd), .val (.ref lt), .val (.int 2), .val (.ref s1), .val (.ref s2), .val (.ref s3), .unset, .unset, .unset, .unset] [(.ref s1), (.int 0), (.ref fx), (.ref fx)])) := by
       intro tgt hgo
       refine R103 tgt ?_
       show Steps p.tables e below (T102.setTop (mkF m 120 #[.val (.int p1), .val (.int p2), .val (.int p3), .val (.int p4), .val (.int p5), .val (.int kk), .val (.ref kd), .val (.ref lt), .val (.int 2), .val (.ref s1), .val (.ref s2), .val (.ref s3), .unset, .unset, .unset, .unset] [(.ref fx)])) _
       refine XS.dup X102.here hx rfl (hb hby at_120) rfl rfl ?_
       refine XS.iconst X102.here hx rfl (hb hby at_121) ?_
       refine XS.aload X102.here hx rfl (hb hby at_122) rfl rfl ?_
       exact hgo
     obtain ⟨cl105, Ar105, q105, S105, Nn105, H105, G105⟩ := V_fx
     have hin105 : ¬ ((0 : Int32) < 0 ∨ cl105.slots.size ≤ ((0 : Int32)).toNatClampNeg) := inb_of S105 ⟨by decide, by decide⟩
     obtain ⟨T105, h105, X105, e105, W105, st105⟩ := stR X102 hx hZ e102 Ar105 (j := (0 : Int32)) hin105 rfl (Sto.ofV Ar105 q105 O102 (Ins.self Es1)) (g := (mkF m 124 #[.val (.int p1), .val (.int p2), .val (.int p3), .val (.int p4), .val (.int p5), .val (.int kk), .val (.ref kd), .val (.ref lt), .val (.int 2), .val (.ref s1), .val (.ref s2), .val (.ref s3), .unset, .unset, .unset, .unset] [(.ref s1), (.int 0), (.ref fx), (.ref fx)])) rfl rfl (hb hby at_124)
     replace hZn := Nat.le_trans hZn (Keep.of_wr W105).1
     replace hOld := hOld.wr W105 ge_fx
     replace hK := hK.wr W105 (Or.inr sz_fx)
     replace Ek := Ek.wr W105
     replace Ft := Ft.other W105 (Or.inl ne_kd_fx)
     replace Et := Et.wr W105
     replace Ct := Ct.other W105 (Or.inl ne_tk_fx)
     replace Fvt := Fvt.other W105 (Or.inl ne_tk_fx)
     replace Vt := Vt.other W105 ne_bt_fx
     replace El := El.wr W105
     replace Cl := Cl.other W105 (Or.inl ne_lt_fx)
     replace Fvl := Fvl.other W105 (Or.inl ne_lt_fx)
     replace Vl := Vl.other W105 ne_bl_fx
     replace Eem := Eem.wr W105
     replace Es1 := Es1.wr W105
     replace Es2 := Es2.wr W105
     replace Es3 := Es3.wr W105
     replace hk := Nat.le_trans hk (Keep.of_wr W105).1
     have V_fx : Arv Z h105 fx k102 (.object "java/lang/String") (2 : Int32) [(.ref s1), .null] .null := Arv.set Ar105 q105 S105 Nn105 H105 G105 rfl W105 0 rfl (Nat.le_of_ble_eq_true rfl)
     have N105 := Fr.snoc X105 N36 ge_fx
     have R106 := Rc.st R104 st105
     have R107 : Rc p e below A0 (T105.setTop (mkF m 129 #[.val (.int p1), .val (.int p2), .val (.int p3), .val (.int p4), .val (.int p5), .val (.int kk), .val (.ref kd), .val (.ref lt), .val (.int 2), .val (.ref s1), .val (.ref s2), .val (.ref s3), .unset, .unset, .unset, .unset] [(.ref s2), (.int 1), (.ref fx), (.ref fx)])) := by
       intro tgt hgo
       refine R106 tgt ?_
       show Steps p.tables e below (T105.setTop (mkF m 125 #[.val (.int p1), .val (.int p2), .val (.int p3), .val (.int p4), .val (.int p5), .val (.int kk), .val (.ref kd), .val (.ref lt), .val (.int 2), .val (.ref s1), .val (.ref s2), .val (.ref s3), .unset, .unset, .unset, .unset] [(.ref fx)])) _
       refine XS.dup X105.here hx rfl (hb hby at_125) rfl rfl ?_
       refine XS.iconst X105.here hx rfl (hb hby at_126) ?_
       refine XS.aload X105.here hx rfl (hb hby at_127) rfl rfl ?_
       exact hgo
     obtain ⟨cl108, Ar108, q108, S108, Nn108, H108, G108⟩ := V_fx
     have hin108 : ¬ ((1 : Int32) < 0 ∨ cl108.slots.size ≤ ((1 : Int32)).toNatClampNeg) := inb_of S108 ⟨by decide, by decide⟩
     obtain ⟨T108, h108, X108, e108, W108, st108⟩ := stR X105 hx hZ e105 Ar108 (j := (1 : Int32)) hin108 rfl (Sto.ofV Ar108 q108 O102 (Ins.self Es2)) (g := (mkF m 129 #[.val (.int p1), .val (.int p2), .val (.int p3), .val (.int p4), .val (.int p5), .val (.int kk), .val (.ref kd), .val (.ref lt), .val (.int 2), .val (.ref s1), .val (.ref s2), .val (.ref s3), .unset, .unset, .unset, .unset] [(.ref s2), (.int 1), (.ref fx), (.ref fx)])) rfl rfl (hb hby at_129)
     replace hZn := Nat.le_trans hZn (Keep.of_wr W108).1
     replace hOld := hOld.wr W108 ge_fx
     replace hK := hK.wr W108 (Or.inr sz_fx)
     replace Ek := Ek.wr W108
     replace Ft := Ft.other W108 (Or.inl ne_kd_fx)
     replace Et := Et.wr W108
     replace Ct := Ct.other W108 (Or.inl ne_tk_fx)
     replace Fvt := Fvt.other W108 (Or.inl ne_tk_fx)
     replace Vt := Vt.other W108 ne_bt_fx
     replace El := El.wr W108
     replace Cl := Cl.other W108 (Or.inl ne_lt_fx)
     replace Fvl := Fvl.other W108 (Or.inl ne_lt_fx)
     replace Vl := Vl.other W108 ne_bl_fx
     replace Eem := Eem.wr W108
     replace Es1 := Es1.wr W108
     replace Es2 := Es2.wr W108
     replace Es3 := Es3.wr W108
     replace hk := Nat.le_trans hk (Keep.of_wr W108).1
     have V_fx : Arv Z h108 fx k102 (.object "java/lang/String") (2 : Int32) [(.ref s1), (.ref s2)] .null := Arv.set Ar108 q108 S108 Nn108 H108 G108 rfl W108 1 rfl (Nat.le_of_ble_eq_true rfl)
     have N108 := Fr.snoc X108 N105 ge_fx
     have R109 := Rc.st R107 st108
     have R110 : Rc p e below A0 (T108.setTop (mkF m 156 #[.val (.int p1), .val (.int p2), .val (.int p3), .val (.int p4), .val (.int p5), .val (.int kk), .val (.ref kd), .val (.ref lt), .val (.int 2), .val (.ref s1), .val (.ref s2), .val (.ref s3), .val (.ref fx), .unset, .unset, .unset] [])) := by
       intro tgt hgo
       refine R109 tgt ?_
       show Steps p.tables e below (T108.setTop (mkF m 130 #[.val (.int p1), .val (.int p2), .val (.int p3), .val (.int p4), .val (.int p5), .val (.int kk), .val (.ref kd), .val (.ref lt), .val (.int 2), .val (.ref s1), .val (.ref s2), .val (.ref s3), .unset, .unset, .unset, .unset] [(.ref fx)])) _
       refine XS.astore X108.here hx rfl (hb hby at_130) rfl rfl (l' := #[.val (.int p1), .val (.int p2), .val (.int p3), .val (.int p4), .val (.int p5), .val (.int kk), .val (.ref kd), .val (.ref lt), .val (.int 2), .val (.ref s1), .val (.ref s2), .val (.ref s3), .val (.ref fx), .unset, .unset, .unset]) rfl ?_
       refine XS.goto X108.here hx rfl (pc0 := 132) (pc' := 156) rfl (hb hby at_132) (by decide) (by decide) ?_
       exact hgo
     obtain ⟨T111, h111, X111, e111, E111, A111, D111, -, st111⟩ := newO X108 hx hZ hown (w 32 rfl) (w 33 rfl) (w 34 rfl) e108 (g := (mkF m 156 #[.val (.int p1), .val (.int p2), .val (.int p3), .val (.int p4), .val (.int p5), .val (.int kk), .val (.ref kd), .val (.ref lt), .val (.int 2), .val (.ref s1), .val (.ref s2), .val (.ref s3), .val (.ref fx), .unset, .unset, .unset] [])) rfl (hb hby at_156) (by decide) (by decide)
     obtain ⟨fo, g111⟩ : ∃ z, z = h108.size := ⟨_, rfl⟩
     rw [← g111] at A111 D111 st111
     have ne_kd_fo : kd ≠ fo := Nat.ne_of_lt (Nat.lt_of_lt_of_le Ek.lt (Nat.le_of_eq g111.symm))
     have ne_tk_fo : tk ≠ fo := Nat.ne_of_lt (Nat.lt_of_lt_of_le Et.lt (Nat.le_of_eq g111.symm))
     have ne_bt_fo : bt ≠ fo := Nat.ne_of_lt (Nat.lt_of_lt_of_le Vt.lt (Nat.le_of_eq g111.symm))
     have ne_lt_fo : lt ≠ fo := Nat.ne_of_lt (Nat.lt_of_lt_of_le El.lt (Nat.le_of_eq g111.symm))
     have ne_bl_fo : bl ≠ fo := Nat.ne_of_lt (Nat.lt_of_lt_of_le Vl.lt (Nat.le_of_eq g111.symm))
     have ne_em_fo : em ≠ fo := Nat.ne_of_lt (Nat.lt_of_lt_of_le Eem.lt (Nat.le_of_eq g111.symm))
     have ne_s1_fo : s1 ≠ fo := Nat.ne_of_lt (Nat.lt_of_lt_of_le Es1.lt (Nat.le_of_eq g111.symm))
     have ne_s2_fo : s2 ≠ fo := Nat.ne_of_lt (Nat.lt_of_lt_of_le Es2.lt (Nat.le_of_eq g111.symm))
     have ne_s3_fo : s3 ≠ fo := Nat.ne_of_lt (Nat.lt_of_lt_of_le Es3.lt (Nat.le_of_eq g111.symm))
     have ne_fx_fo : fx ≠ fo := Nat.ne_of_lt (Nat.lt_of_lt_of_le V_fx.lt (Nat.le_of_eq g111.symm))
     have ge_fo : n0 ≤ fo := Nat.le_trans hZn (Nat.le_of_eq g111.symm)
     have sz_fo : h0.size ≤ fo := Nat.le_trans hK.1 (Nat.le_of_eq g111.symm)
     replace hZn := Nat.le_trans hZn E111.1
     replace hOld := hOld.ext E111
     replace hK := hK.ext E111
     replace Ek := Ek.ext E111
     replace Ft := Ft.ext E111
     replace Et := Et.ext E111
     replace Ct := Ct.ext E111
     replace Fvt := Fvt.ext E111
     replace Vt := Vt.ext E111
     replace El := El.ext E111
     replace Cl := Cl.ext E111
     replace Fvl := Fvl.ext E111
     replace Vl := Vl.ext E111
     replace Eem := Eem.ext E111
     replace Es1 := Es1.ext E111
     replace Es2 := Es2.ext E111
     replace Es3 := Es3.ext E111
     replace hk := Nat.le_trans hk E111.1
     replace V_fx := V_fx.ext E111
     have E_fo := A111
     have F_kind_fo : Fld Z h111 fo "com/example/verdict_ladder/verdictladder/lint/Finding" "kind" "Lcom/example/verdict_ladder/verdictladder/lint/Finding$Kind;" .null := D111 (Or.inr (w 40 rfl)) (ty := (.object "com/example/verdict_ladder/verdictladder/lint/Finding$Kind")) (by decide)
     have F_fields_fo : Fld Z h111 fo "com/example/verdict_ladder/verdictladder/lint/Finding" "fields" "Ljava/util/List;" .null := D111 (Or.inr (w 87 rfl)) (ty := (.object "java/util/List")) (by decide)
     have R112 := Rc.st R110 st111
     have R113 : Rc p e below A0 (T111.setTop (mkF m 164 #[.val (.int p1), .val (.int p2), .val (.int p3), .val (.int p4), .val (.int p5), .val (.int kk), .val (.ref kd), .val (.ref lt), .val (.int 2), .val (.ref s1), .val (.ref s2), .val (.ref s3), .val (.ref fx), .unset, .unset, .unset] [(.ref fx), (.ref kd), (.ref fo), (.ref fo)])) := by
       intro tgt hgo
       refine R112 tgt ?_
       show Steps p.tables e below (T111.setTop (mkF m 159 #[.val (.int p1), .val (.int p2), .val (.int p3), .val (.int p4), .val (.int p5), .val (.int kk), .val (.ref kd), .val (.ref lt), .val (.int 2), .val (.ref s1), .val (.ref s2), .val (.ref s3), .val (.ref fx), .unset, .unset, .unset] [(.ref fo)])) _
       refine XS.dup X111.here hx rfl (hb hby at_159) rfl rfl ?_
       refine XS.aload X111.here hx rfl (hb hby at_160) rfl rfl ?_
       refine XS.aload X111.here hx rfl (hb hby at_162) rfl rfl ?_
       exact hgo
     obtain ⟨_, _, ⟨T114, L114, k114, n114⟩, -, X114, ⟨Lc114, hQ114, l114, y114, z114⟩, st114⟩ := X111.specialBack hx (y := yn11) rfl hown (mvT hZ (w 35 rfl)) (mvT hZ (w 36 rfl)) (mvT hZ (w 37 rfl)) (by decide) (backOf (W := 1) (rm_fi2 l Z a0 hw [] fo kd fx s1 s2 _ h111 n0 hZn ge_fo ne_fx_fo E_fo F_kind_fo F_fields_fo V_fx Es1 Es2) hZ (w 37 rfl) (w 34 rfl) (by decide) (by decide)) (g := (mkF m 164 #[.val (.int p1), .val (.int p2), .val (.int p3), .val (.int p4), .val (.int p5), .val (.int kk), .val (.ref kd), .val (.ref lt), .val (.int 2), .val (.ref s1), .val (.ref s2), .val (.ref s3), .val (.ref fx), .unset, .unset, .unset] [(.ref fx), (.ref kd), (.ref fo), (.ref fo)])) rfl (by rw [hml]; rfl) (Steps.refl _) (a := fo) (argsL := [(.ref kd), (.ref fx)]) (rest := [(.ref fo)]) (lenOf pd_18 rfl) rfl (by show 2 * 0 + _ ≤ _; exact Nat.le_of_eq rfl) (hb hby at_164) (fun _ _ => ⟨rfl, e111, (by decide : 16 + 1 ≤ _), (by decide : 76 + 2 ≤ _)⟩)
     dsimp only [Pt.U, Pt.locs, Pt.cells, Pt.slots] at X114 l114 y114 z114 st114 hQ114
     subst l114 y114 z114
     obtain ⟨rfl, N114q, K114, Fk, lx, szx0, gex, Ff, Ex, Fe0, Fe1⟩ := hQ114
     have N114 := Fr.app N108 N114q
     have R115 := Rc.tr R113 st114
     have ne_kd_lx : kd ≠ lx := Nat.ne_of_lt (Nat.lt_of_lt_of_le Ek.lt szx0)
     have ne_tk_lx : tk ≠ lx := Nat.ne_of_lt (Nat.lt_of_lt_of_le Et.lt szx0)
     have ne_bt_lx : bt ≠ lx := Nat.ne_of_lt (Nat.lt_of_lt_of_le Vt.lt szx0)
     have ne_lt_lx : lt ≠ lx := Nat.ne_of_lt (Nat.lt_of_lt_of_le El.lt szx0)
     have ne_bl_lx : bl ≠ lx := Nat.ne_of_lt (Nat.lt_of_lt_of_le Vl.lt szx0)
     have ne_em_lx : em ≠ lx := Nat.ne_of_lt (Nat.lt_of_lt_of_le Eem.lt szx0)
     have ne_s1_lx : s1 ≠ lx := Nat.ne_of_lt (Nat.lt_of_lt_of_le Es1.lt szx0)
     have ne_s2_lx : s2 ≠ lx := Nat.ne_of_lt (Nat.lt_of_lt_of_le Es2.lt szx0)
     have ne_s3_lx : s3 ≠ lx := Nat.ne_of_lt (Nat.lt_of_lt_of_le Es3.lt szx0)
     have ne_fx_lx : fx ≠ lx := Nat.ne_of_lt (Nat.lt_of_lt_of_le V_fx.lt szx0)
     have ne_fo_lx : fo ≠ lx := Nat.ne_of_lt (Nat.lt_of_lt_of_le E_fo.lt szx0)
     have sz_lx := Nat.le_trans hK.1 szx0
     replace hZn := Nat.le_trans hZn K114.1
     replace hOld := hOld.keep K114 (allS ge_fo all0)
     replace hK := hK.trans K114 (allS (Or.inr sz_fo) all0)
     replace Ek := Ek.keep K114
     replace Ft := Ft.keep K114 (ninS ne_kd_fo nin0)
     replace Et := Et.keep K114
     replace Ct := Ct.keep K114 (ninS ne_tk_fo nin0)
     replace Fvt := Fvt.keep K114 (ninS ne_tk_fo nin0)
     replace Vt := Vt.keep K114 (ninS ne_bt_fo nin0)
     replace El := El.keep K114
     replace Cl := Cl.keep K114 (ninS ne_lt_fo nin0)
     replace Fvl := Fvl.keep K114 (ninS ne_lt_fo nin0)
     replace Vl := Vl.keep K114 (ninS ne_bl_fo nin0)
     replace Eem := Eem.keep K114
     replace Es1 := Es1.keep K114
     replace Es2 := Es2.keep K114
     replace Es3 := Es3.keep K114
     replace hk := Nat.le_trans hk K114.1
     replace V_fx := V_fx.keep K114 (ninS ne_fx_fo nin0)
     replace E_fo := E_fo.keep K114
     have R116 : Rc p e below A0 (T114.setTop (mkF m 171 #[.val (.int p1), .val (.int p2), .val (.int p3), .val (.int p4), .val (.int p5), .val (.int kk), .val (.ref kd), .val (.ref lt), .val (.int 2), .val (.ref s1), .val (.ref s2), .val (.ref s3), .val (.ref fx), .val (.ref fo), .unset, .unset] [(.ref fo)])) := by
       intro tgt hgo
       refine R115 tgt ?_
       show Steps p.tables e below (T114.setTop (mkF m 167 #[.val (.int p1), .val (.int p2), .val (.int p3), .val (.int p4), .val (.int p5), .val (.int kk), .val (.ref kd), .val (.ref lt), .val (.int 2), .val (.ref s1), .val (.ref s2), .val (.ref s3), .val (.ref fx), .unset, .unset, .unset] [(.ref fo)])) _
       refine XS.astore X114.here hx rfl (hb hby at_167) rfl rfl (l' := #[.val (.int p1), .val (.int p2), .val (.int p3), .val (.int p4), .val (.int p5), .val (.int kk), .val (.ref kd), .val (.ref lt), .val (.int 2), .val (.ref s1), .val (.ref s2), .val (.ref s3), .val (.ref fx), .val (.ref fo), .unset, .unset]) rfl ?_
       refine XS.aload X114.here hx rfl (hb hby at_169) rfl rfl ?_
       exact hgo
     have hne : ¬ s2 = em := Ne.symm ne_em_s2
     obtain ⟨cq117, kq117, q117a, q117b, q117c⟩ := isOf hZ rfl E_fo
     obtain ⟨_, _, ⟨T117, L117, k117, n117⟩, -, X117, ⟨Lc117, hQ117, l117, y117, z117⟩, st117⟩ := X114.virtualBack hx (y := yn17) (z := yn17) hown (mvT hZ (w 88 rfl)) (mvT hZ (w 89 rfl)) (notFace_of_selects (args := #[]) (mvT hZ (w 91 rfl))) (mvT hZ (w 91 rfl)) (mvT hZ (w 90 rfl)) (by decide) (backOf (W := 0) (rm_li2 l Z a0 hw [] fo kd tk lx s1 s2 em T114.heap n0 hZn E_fo Fk Ff Ek Ft Et Ex hOld S_em hne Fe0 Fe1 Es1 Es2) hZ (w 92 rfl) (w 34 rfl) (by decide) (by decide)) q117a q117c (g := (mkF m 171 #[.val (.int p1), .val (.int p2), .val (.int p3), .val (.int p4), .val (.int p5), .val (.int kk), .val (.ref kd), .val (.ref lt), .val (.int 2), .val (.ref s1), .val (.ref s2), .val (.ref s3), .val (.ref fx), .val (.ref fo), .unset, .unset] [(.ref fo)])) rfl (by rw [hml]; rfl) (Steps.refl _) (argsL := []) (rest := []) (lenOf pd_19 rfl) rfl (by show 2 * 0 + _ ≤ _; exact Nat.le_of_eq rfl) (hb hby at_171) (fun _ _ => ⟨rfl, rfl, (by decide : 17 + 1 ≤ _), (by decide : 78 + 3 ≤ _)⟩)
     dsimp only [Pt.U, Pt.locs, Pt.cells, Pt.slots] at X117 l117 y117 z117 st117 hQ117
     subst l117 y117 z117
     obtain ⟨⟨r1, rfl, k_r1, sz0_r1, ge_r1, O_r1, V_r1⟩, N117q, K117⟩ := hQ117
     have N117 := Fr.app N114 N117q
     have R118 := Rc.tr R116 st117
     have ne_kd_r1 : kd ≠ r1 := Nat.ne_of_lt (Nat.lt_of_lt_of_le Ek.lt sz0_r1)
     have ne_tk_r1 : tk ≠ r1 := Nat.ne_of_lt (Nat.lt_of_lt_of_le Et.lt sz0_r1)
     have ne_bt_r1 : bt ≠ r1 := Nat.ne_of_lt (Nat.lt_of_lt_of_le Vt.lt sz0_r1)
     have ne_lt_r1 : lt ≠ r1 := Nat.ne_of_lt (Nat.lt_of_lt_of_le El.lt sz0_r1)
     have ne_bl_r1 : bl ≠ r1 := Nat.ne_of_lt (Nat.lt_of_lt_of_le Vl.lt sz0_r1)
     have ne_em_r1 : em ≠ r1 := Nat.ne_of_lt (Nat.lt_of_lt_of_le Eem.lt sz0_r1)
     have ne_s1_r1 : s1 ≠ r1 := Nat.ne_of_lt (Nat.lt_of_lt_of_le Es1.lt sz0_r1)
     have ne_s2_r1 : s2 ≠ r1 := Nat.ne_of_lt (Nat.lt_of_lt_of_le Es2.lt sz0_r1)
     have ne_s3_r1 : s3 ≠ r1 := Nat.ne_of_lt (Nat.lt_of_lt_of_le Es3.lt sz0_r1)
     have ne_fo_r1 : fo ≠ r1 := Nat.ne_of_lt (Nat.lt_of_lt_of_le E_fo.lt sz0_r1)
     have ne_lx_r1 : lx ≠ r1 := Nat.ne_of_lt (Nat.lt_of_lt_of_le Ex.lt sz0_r1)
     have sz_r1 := Nat.le_trans hK.1 sz0_r1
     replace hZn := Nat.le_trans hZn K117.1
     replace hOld := hOld.keep K117 all0
     replace hK := hK.trans K117 all0
     replace Ek := Ek.keep K117
     replace Ft := Ft.keep K117 nin0
     replace Et := Et.keep K117
     replace Ct := Ct.keep K117 nin0
     replace Fvt := Fvt.keep K117 nin0
     replace Vt := Vt.keep K117 nin0
     replace El := El.keep K117
     replace Cl := Cl.keep K117 nin0
     replace Fvl := Fvl.keep K117 nin0
     replace Vl := Vl.keep K117 nin0
     replace Eem := Eem.keep K117
     replace Es1 := Es1.keep K117
     replace Es2 := Es2.keep K117
     replace Es3 := Es3.keep K117
     replace hk := Nat.le_trans hk K117.1
     replace E_fo := E_fo.keep K117
     replace Fk := Fk.keep K117 nin0
     replace Ff := Ff.keep K117 nin0
     replace Ex := Ex.keep K117
     replace Fe0 := Fe0.keep K117 nin0
     replace Fe1 := Fe1.keep K117 nin0
     have R119 : Rc p e below A0 (T117.setTop (mkF m 188 #[.val (.int p1), .val (.int p2), .val (.int p3), .val (.int p4), .val (.int p5), .val (.int kk), .val (.ref kd), .val (.ref lt), .val (.int 2), .val (.ref s1), .val (.ref s2), .val (.ref s3), .val (.ref fx), .val (.ref fo), .val (.ref r1), .unset] [(.ref s3), (.ref s2), (.ref s1), (.ref lt), (.int 2), (.ref r1)])) := by
       intro tgt hgo
       refine R118 tgt ?_
       show Steps p.tables e below (T117.setTop (mkF m 174 #[.val (.int p1), .val (.int p2), .val (.int p3), .val (.int p4), .val (.int p5), .val (.int kk), .val (.ref kd), .val (.ref lt), .val (.int 2), .val (.ref s1), .val (.ref s2), .val (.ref s3), .val (.ref fx), .val (.ref fo), .unset, .unset] [(.ref r1)])) _
       refine XS.astore X117.here hx rfl (hb hby at_174) rfl rfl (l' := #[.val (.int p1), .val (.int p2), .val (.int p3), .val (.int p4), .val (.int p5), .val (.int kk), .val (.ref kd), .val (.ref lt), .val (.int 2), .val (.ref s1), .val (.ref s2), .val (.ref s3), .val (.ref fx), .val (.ref fo), .val (.ref r1), .unset]) rfl ?_
       refine XS.aload X117.here hx rfl (hb hby at_176) rfl rfl ?_
       refine XS.iload X117.here hx rfl (hb hby at_178) rfl ?_
       refine XS.aload X117.here hx rfl (hb hby at_180) rfl rfl ?_
       refine XS.aload X117.here hx rfl (hb hby at_182) rfl rfl ?_
       refine XS.aload X117.here hx rfl (hb hby at_184) rfl rfl ?_
       refine XS.aload X117.here hx rfl (hb hby at_186) rfl rfl ?_
       exact hgo
     obtain ⟨_, _, ⟨T120, L120, k120, n120⟩, -, X120, ⟨Lc120, hQ120, l120, y120, z120⟩, st120⟩ := Jvm.LawKit.callS X117 hx (y := yn20) hown (mvT hZ (w 118 rfl)) (mvT hZ (w 119 rfl)) (mvT hZ (w 14 rfl)) (mvT hZ (w 120 rfl)) (by decide) (backOf (W := 0) (rm_ma2 l Z a0 hw [] r1 lt s1 s2 s3 tk zc bs bl bt kl kt k_r1 T117.heap n0 hZn hOld S_cs hz hbs ⟨El, Cl, Fvl, Vl⟩ ⟨Et, Ct, Fvt, Vt⟩ V_r1 Es1 Es2) hZ (w 120 rfl) (w 14 rfl) (by decide) (by decide)) (g := (mkF m 188 #[.val (.int p1), .val (.int p2), .val (.int p3), .val (.int p4), .val (.int p5), .val (.int kk), .val (.ref kd), .val (.ref lt), .val (.int 2), .val (.ref s1), .val (.ref s2), .val (.ref s3), .val (.ref fx), .val (.ref fo), .val (.ref r1), .unset] [(.ref s3), (.ref s2), (.ref s1), (.ref lt), (.int 2), (.ref r1)])) rfl (by rw [hml]; rfl) (argsL := [(.ref r1), (.int 2), (.ref lt), (.ref s1), (.ref s2), (.ref s3)]) (rest := []) (lenOf pd_20 rfl) rfl (by show 2 * 0 + _ ≤ _; exact Nat.le_of_eq rfl) (hb hby at_188) (fun _ _ => ⟨rfl, rfl, (by decide : 18 + 0 ≤ _), (by decide : 81 + 0 ≤ _)⟩)
     dsimp only [Pt.U, Pt.locs, Pt.cells, Pt.slots] at X120 l120 y120 z120 st120 hQ120
     subst l120 y120 z120
     obtain ⟨rfl, N120q, e120⟩ := hQ120
     have N120 := Fr.app N117 N120q
     have R121 := Rc.st R119 st120
     have R122 : Rc p e below A0 (T120.setTop (mkF m 201 #[.val (.int p1), .val (.int p2), .val (.int p3), .val (.int p4), .val (.int p5), .val (.int kk), .val (.ref kd), .val (.ref lt), .val (.int 2), .val (.ref s1), .val (.ref s2), .val (.ref s3), .val (.ref fx), .val (.ref fo), .val (.ref r1), .unset] [(.ref s1), (.int 0), (.ref r1)])) := by
       intro tgt hgo
       refine R121 tgt ?_
       show Steps p.tables e below (T120.setTop (mkF m 191 #[.val (.int p1), .val (.int p2), .val (.int p3), .val (.int p4), .val (.int p5), .val (.int kk), .val (.ref kd), .val (.ref lt), .val (.int 2), .val (.ref s1), .val (.ref s2), .val (.ref s3), .val (.ref fx), .val (.ref fo), .val (.ref r1), .unset] [(.int 1)])) _
       refine XS.ifYes X120.here hx rfl (pc0 := 191) (pc' := 196) rfl (hb hby at_191) rfl ((if0 _ _).trans (feq (by decide : ¬ ((1 : Int32) = (0 : Int32)))).2) (by decide) (by decide) ?_
       refine XS.aload X120.here hx rfl (hb hby at_196) rfl rfl ?_
       refine XS.iconst X120.here hx rfl (hb hby at_198) ?_
       refine XS.aload X120.here hx rfl (hb hby at_199) rfl rfl ?_
       exact hgo
     obtain ⟨cl123, Ar123, q123, S123, Nn123, H123, G123⟩ := V_r1
     have hin123 : ¬ ((0 : Int32) < 0 ∨ cl123.slots.size ≤ ((0 : Int32)).toNatClampNeg) := inb_of S123 ⟨by decide, by decide⟩
     obtain ⟨T123, h123, X123, e123, W123, st123⟩ := stR X120 hx hZ e120 Ar123 (j := (0 : Int32)) hin123 rfl (Sto.ofV Ar123 q123 O_r1 (Ins.self Es1)) (g := (mkF m 201 #[.val (.int p1), .val (.int p2), .val (.int p3), .val (.int p4), .val (.int p5), .val (.int kk), .val (.ref kd), .val (.ref lt), .val (.int 2), .val (.ref s1), .val (.ref s2), .val (.ref s3), .val (.ref fx), .val (.ref fo), .val (.ref r1), .unset] [(.ref s1), (.int 0), (.ref r1)])) rfl rfl (hb hby at_201)
     replace hZn := Nat.le_trans hZn (Keep.of_wr W123).1
     replace hOld := hOld.wr W123 ge_r1
     replace hK := hK.wr W123 (Or.inr sz_r1)
     replace Ek := Ek.wr W123
     replace Ft := Ft.other W123 (Or.inl ne_kd_r1)
     replace Et := Et.wr W123
     replace Ct := Ct.other W123 (Or.inl ne_tk_r1)
     replace Fvt := Fvt.other W123 (Or.inl ne_tk_r1)
     replace Vt := Vt.other W123 ne_bt_r1
     replace El := El.wr W123
     replace Cl := Cl.other W123 (Or.inl ne_lt_r1)
     replace Fvl := Fvl.other W123 (Or.inl ne_lt_r1)
     replace Vl := Vl.other W123 ne_bl_r1
     replace Eem := Eem.wr W123
     replace Es1 := Es1.wr W123
     replace Es2 := Es2.wr W123
     replace Es3 := Es3.wr W123
     replace hk := Nat.le_trans hk (Keep.of_wr W123).1
     replace E_fo := E_fo.wr W123
     replace Fk := Fk.other W123 (Or.inl ne_fo_r1)
     replace Ff := Ff.other W123 (Or.inl ne_fo_r1)
     replace Ex := Ex.wr W123
     replace Fe0 := Fe0.other W123 (Or.inl ne_lx_r1)
     replace Fe1 := Fe1.other W123 (Or.inl ne_lx_r1)
     have V_r1 : Arv Z h123 r1 k_r1 (.object "java/lang/String") (3 : Int32) [(.ref s1), (.ref s1), (.ref s2)] .null := Arv.set Ar123 q123 S123 Nn123 H123 G123 rfl W123 0 rfl (Nat.le_of_ble_eq_true rfl)
     have N123 := Fr.snoc X123 N120 ge_r1
     have R124 := Rc.st R122 st123
     have R125 : Rc p e below A0 (T123.setTop (mkF m 213 #[.val (.int p1), .val (.int p2), .val (.int p3), .val (.int p4), .val (.int p5), .val (.int kk), .val (.ref kd), .val (.ref lt), .val (.int 2), .val (.ref s1), .val (.ref s2), .val (.ref s3), .val (.ref fx), .val (.ref fo), .val (.ref r1), .unset] [(.ref lt), (.int 1), (.ref r1)])) := by
       intro tgt hgo
       refine R124 tgt ?_
       show Steps p.tables e below (T123.setTop (mkF m 202 #[.val (.int p1), .val (.int p2), .val (.int p3), .val (.int p4), .val (.int p5), .val (.int kk), .val (.ref kd), .val (.ref lt), .val (.int 2), .val (.ref s1), .val (.ref s2), .val (.ref s3), .val (.ref fx), .val (.ref fo), .val (.ref r1), .unset] [])) _
       refine XS.iload X123.here hx rfl (hb hby at_202) rfl ?_
       refine XS.iconst X123.here hx rfl (hb hby at_204) ?_
       refine XS.icmpNo X123.here hx rfl (hb hby at_205) rfl (flt (by decide : ¬ ((2 : Int32) < (1 : Int32)))).1 ?_
       refine XS.aload X123.here hx rfl (hb hby at_208) rfl rfl ?_
       refine XS.iconst X123.here hx rfl (hb hby at_210) ?_
       refine XS.aload X123.here hx rfl (hb hby at_211) rfl rfl ?_
       exact hgo
     obtain ⟨cl126, Ar126, q126, S126, Nn126, H126, G126⟩ := V_r1
     have hin126 : ¬ ((1 : Int32) < 0 ∨ cl126.slots.size ≤ ((1 : Int32)).toNatClampNeg) := inb_of S126 ⟨by decide, by decide⟩
     obtain ⟨T126, h126, X126, e126, W126, st126⟩ := stR X123 hx hZ e123 Ar126 (j := (1 : Int32)) hin126 rfl (Sto.ofV Ar126 q126 O_r1 (Ins.self El)) (g := (mkF m 213 #[.val (.int p1), .val (.int p2), .val (.int p3), .val (.int p4), .val (.int p5), .val (.int kk), .val (.ref kd), .val (.ref lt), .val (.int 2), .val (.ref s1), .val (.ref s2), .val (.ref s3), .val (.ref fx), .val (.ref fo), .val (.ref r1), .unset] [(.ref lt), (.int 1), (.ref r1)])) rfl rfl (hb hby at_213)
     replace hZn := Nat.le_trans hZn (Keep.of_wr W126).1
     replace hOld := hOld.wr W126 ge_r1
     replace hK := hK.wr W126 (Or.inr sz_r1)
     replace Ek := Ek.wr W126
     replace Ft := Ft.other W126 (Or.inl ne_kd_r1)
     replace Et := Et.wr W126
     replace Ct := Ct.other W126 (Or.inl ne_tk_r1)
     replace Fvt := Fvt.other W126 (Or.inl ne_tk_r1)
     replace Vt := Vt.other W126 ne_bt_r1
     replace El := El.wr W126
     replace Cl := Cl.other W126 (Or.inl ne_lt_r1)
     replace Fvl := Fvl.other W126 (Or.inl ne_lt_r1)
     replace Vl := Vl.other W126 ne_bl_r1
     replace Eem := Eem.wr W126
     replace Es1 := Es1.wr W126
     replace Es2 := Es2.wr W126
     replace Es3 := Es3.wr W126
     replace hk := Nat.le_trans hk (Keep.of_wr W126).1
     replace E_fo := E_fo.wr W126
     replace Fk := Fk.other W126 (Or.inl ne_fo_r1)
     replace Ff := Ff.other W126 (Or.inl ne_fo_r1)
     replace Ex := Ex.wr W126
     replace Fe0 := Fe0.other W126 (Or.inl ne_lx_r1)
     replace Fe1 := Fe1.other W126 (Or.inl ne_lx_r1)
     have V_r1 : Arv Z h126 r1 k_r1 (.object "java/lang/String") (3 : Int32) [(.ref s1), (.ref lt), (.ref s2)] .null := Arv.set Ar126 q126 S126 Nn126 H126 G126 rfl W126 1 rfl (Nat.le_of_ble_eq_true rfl)
     have N126 := Fr.snoc X126 N123 ge_r1
     have R127 := Rc.st R125 st126
     have R128 : Rc p e below A0 (T126.setTop (mkF m 216 #[.val (.int p1), .val (.int p2), .val (.int p3), .val (.int p4), .val (.int p5), .val (.int kk), .val (.ref kd), .val (.ref lt), .val (.int 2), .val (.ref s1), .val (.ref s2), .val (.ref s3), .val (.ref fx), .val (.ref fo), .val (.ref r1), .unset] [(.ref fo)])) := by
       intro tgt hgo
       refine R127 tgt ?_
       show Steps p.tables e below (T126.setTop (mkF m 214 #[.val (.int p1), .val (.int p2), .val (.int p3), .val (.int p4), .val (.int p5), .val (.int kk), .val (.ref kd), .val (.ref lt), .val (.int 2), .val (.ref s1), .val (.ref s2), .val (.ref s3), .val (.ref fx), .val (.ref fo), .val (.ref r1), .unset] [])) _
       refine XS.aload X126.here hx rfl (hb hby at_214) rfl rfl ?_
       exact hgo
     obtain ⟨cq129, kq129, q129a, q129b, q129c⟩ := isOf hZ e126 E_fo
     obtain ⟨_, _, ⟨T129, L129, k129, n129⟩, -, X129, ⟨Lc129, hQ129, l129, y129, z129⟩, st129⟩ := X126.virtualBack hx (y := yn17) (z := yn17) hown (mvT hZ (w 88 rfl)) (mvT hZ (w 89 rfl)) (notFace_of_selects (args := #[]) (mvT hZ (w 91 rfl))) (mvT hZ (w 91 rfl)) (mvT hZ (w 90 rfl)) (by decide) (backOf (W := 0) (rm_li2 l Z a0 hw [] fo kd tk lx s1 s2 em h126 n0 hZn E_fo Fk Ff Ek Ft Et Ex hOld S_em hne Fe0 Fe1 Es1 Es2) hZ (w 92 rfl) (w 34 rfl) (by decide) (by decide)) q129a q129c (g := (mkF m 216 #[.val (.int p1), .val (.int p2), .val (.int p3), .val (.int p4), .val (.int p5), .val (.int kk), .val (.ref kd), .val (.ref lt), .val (.int 2), .val (.ref s1), .val (.ref s2), .val (.ref s3), .val (.ref fx), .val (.ref fo), .val (.ref r1), .unset] [(.ref fo)])) rfl (by rw [hml]; rfl) (Steps.refl _) (argsL := []) (rest := []) (lenOf pd_19 rfl) rfl (by show 2 * 0 + _ ≤ _; exact Nat.le_of_eq rfl) (hb hby at_216) (fun _ _ => ⟨rfl, e126, (by decide : 18 + 1 ≤ _), (by decide : 81 + 3 ≤ _)⟩)
     dsimp only [Pt.U, Pt.locs, Pt.cells, Pt.slots] at X129 l129 y129 z129 st129 hQ129
     subst l129 y129 z129
     obtain ⟨⟨r2, rfl, k_r2, sz0_r2, ge_r2, O_r2, V_r2⟩, N129q, K129⟩ := hQ129
     have N129 := Fr.app N126 N129q
     have R130 := Rc.tr R128 st129
     replace hZn := Nat.le_trans hZn K129.1
     replace hOld := hOld.keep K129 all0
     replace hK := hK.trans K129 all0
     replace Ek := Ek.keep K129
     replace Ft := Ft.keep K129 nin0
     replace Et := Et.keep K129
     replace Ct := Ct.keep K129 nin0
     replace Fvt := Fvt.keep K129 nin0
     replace Vt := Vt.keep K129 nin0
     replace El := El.keep K129
     replace Cl := Cl.keep K129 nin0
     replace Fvl := Fvl.keep K129 nin0
     replace Vl := Vl.keep K129 nin0
     replace Eem := Eem.keep K129
     replace Es1 := Es1.keep K129
     replace Es2 := Es2.keep K129
     replace Es3 := Es3.keep K129
     replace hk := Nat.le_trans hk K129.1
     replace E_fo := E_fo.keep K129
     replace Fk := Fk.keep K129 nin0
     replace Ff := Ff.keep K129 nin0
     replace Ex := Ex.keep K129
     replace Fe0 := Fe0.keep K129 nin0
     replace Fe1 := Fe1.keep K129 nin0
     replace V_r1 := V_r1.keep K129 nin0
     have R131 : Rc p e below A0 (T129.setTop (mkF m 233 #[.val (.int p1), .val (.int p2), .val (.int p3), .val (.int p4), .val (.int p5), .val (.int kk), .val (.ref kd), .val (.ref lt), .val (.int 2), .val (.ref s1), .val (.ref s2), .val (.ref s3), .val (.ref fx), .val (.ref fo), .val (.ref r1), .val (.ref r2)] [(.ref s3), (.ref s2), (.ref s1), (.ref lt), (.int 2), (.ref r2)])) := by
       intro tgt hgo
       refine R130 tgt ?_
       show Steps p.tables e below (T129.setTop (mkF m 219 #[.val (.int p1), .val (.int p2), .val (.int p3), .val (.int p4), .val (.int p5), .val (.int kk), .val (.ref kd), .val (.ref lt), .val (.int 2), .val (.ref s1), .val (.ref s2), .val (.ref s3), .val (.ref fx), .val (.ref fo), .val (.ref r1), .unset] [(.ref r2)])) _
       refine XS.astore X129.here hx rfl (hb hby at_219) rfl rfl (l' := #[.val (.int p1), .val (.int p2), .val (.int p3), .val (.int p4), .val (.int p5), .val (.int kk), .val (.ref kd), .val (.ref lt), .val (.int 2), .val (.ref s1), .val (.ref s2), .val (.ref s3), .val (.ref fx), .val (.ref fo), .val (.ref r1), .val (.ref r2)]) rfl ?_
       refine XS.aload X129.here hx rfl (hb hby at_221) rfl rfl ?_
       refine XS.iload X129.here hx rfl (hb hby at_223) rfl ?_
       refine XS.aload X129.here hx rfl (hb hby at_225) rfl rfl ?_
       refine XS.aload X129.here hx rfl (hb hby at_227) rfl rfl ?_
       refine XS.aload X129.here hx rfl (hb hby at_229) rfl rfl ?_
       refine XS.aload X129.here hx rfl (hb hby at_231) rfl rfl ?_
       exact hgo
     obtain ⟨_, _, ⟨T132, L132, k132, n132⟩, -, X132, ⟨Lc132, hQ132, l132, y132, z132⟩, st132⟩ := Jvm.LawKit.callS X129 hx (y := yn20) hown (mvT hZ (w 118 rfl)) (mvT hZ (w 119 rfl)) (mvT hZ (w 14 rfl)) (mvT hZ (w 120 rfl)) (by decide) (backOf (W := 0) (rm_ma2 l Z a0 hw [] r2 lt s1 s2 s3 tk zc bs bl bt kl kt k_r2 T129.heap n0 hZn hOld S_cs hz hbs ⟨El, Cl, Fvl, Vl⟩ ⟨Et, Ct, Fvt, Vt⟩ V_r2 Es1 Es2) hZ (w 120 rfl) (w 14 rfl) (by decide) (by decide)) (g := (mkF m 233 #[.val (.int p1), .val (.int p2), .val (.int p3), .val (.int p4), .val (.int p5), .val (.int kk), .val (.ref kd), .val (.ref lt), .val (.int 2), .val (.ref s1), .val (.ref s2), .val (.ref s3), .val (.ref fx), .val (.ref fo), .val (.ref r1), .val (.ref r2)] [(.ref s3), (.ref s2), (.ref s1), (.ref lt), (.int 2), (.ref r2)])) rfl (by rw [hml]; rfl) (argsL := [(.ref r2), (.int 2), (.ref lt), (.ref s1), (.ref s2), (.ref s3)]) (rest := []) (lenOf pd_20 rfl) rfl (by show 2 * 0 + _ ≤ _; exact Nat.le_of_eq rfl) (hb hby at_233) (fun _ _ => ⟨rfl, rfl, (by decide : 19 + 0 ≤ _), (by decide : 84 + 0 ≤ _)⟩)
     dsimp only [Pt.U, Pt.locs, Pt.cells, Pt.slots] at X132 l132 y132 z132 st132 hQ132
     subst l132 y132 z132
     obtain ⟨rfl, N132q, e132⟩ := hQ132
     have N132 := Fr.app N129 N132q
     have R133 := Rc.st R131 st132
     subst hA0
     obtain ⟨fs, hr, hrun, hended, hRW⟩ := X132.leaveW hS (by rw [e132]; exact hk) (v := some (.int 1)) (fun h => by rw [Bd.returns] at h; cases h) Bd.notSynchronized
     refine ⟨_, _, R133 _ ?_, hrun, hended, _, _, rfl, ?_, OwnKit.own_fin hRW (by decide) (by decide)⟩
     ·show Steps p.tables e below (T132.setTop (mkF m 236 #[.val (.int p1), .val (.int p2), .val (.int p3), .val (.int p4), .val (.int p5), .val (.int kk), .val (.ref kd), .val (.ref lt), .val (.int 2), .val (.ref s1), .val (.ref s2), .val (.ref s3), .val (.ref fx), .val (.ref fo), .val (.ref r1), .val (.ref r2)] [(.int 1)])) _
      exact retN X132 hx (t := .boolean) Bd.returns (by simp) (hb hby at_236) hr
     ·show Q0 n0 _ T132.heap _
      rw [e132]
      exact ⟨rfl, N132⟩
    ·have R134 : Rc p e below A0 (T36.setTop (mkF m 135 #[.val (.int p1), .val (.int p2), .val (.int p3), .val (.int p4), .val (.int p5), .val (.int kk), .val (.ref kd), .val (.ref lt), .val (.int nn), .val (.ref s1), .val (.ref s2), .val (.ref s3), .unset, .unset, .unset, .unset] [])) := by
       intro tgt hgo
       refine R99 tgt ?_
       show Steps p.tables e below (T36.setTop (mkF m 113 #[.val (.int p1), .val (.int p2), .val (.int p3), .val (.int p4), .val (.int p5), .val (.int kk), .val (.ref kd), .val (.ref lt), .val (.int nn), .val (.ref s1), .val (.ref s2), .val (.ref s3), .unset, .unset, .unset, .unset] [(.int 2), (.int nn)])) _
       refine XS.icmpYes X36.here hx rfl (pc0 := 113) (pc' := 135) rfl (hb hby at_113) rfl (feq hc113_98).2 (by decide) (by decide) ?_
       exact hgo
     rw [(own_ln3 p2 nn e_nn hc78_38 hc93_65 hc113_98 : nn = (3 : Int32))] at R134
     have R135 : Rc p e below A0 (T36.setTop (mkF m 136 #[.val (.int p1), .val (.int p2), .val (.int p3), .val (.int p4), .val (.int p5), .val (.int kk), .val (.ref kd), .val (.ref lt), .val (.int 3), .val (.ref s1), .val (.ref s2), .val (.ref s3), .unset, .unset, .unset, .unset] [(.int 3)])) := by
       intro tgt hgo
       refine R134 tgt ?_
       show Steps p.tables e below (T36.setTop (mkF m 135 #[.val (.int p1), .val (.int p2), .val (.int p3), .val (.int p4), .val (.int p5), .val (.int kk), .val (.ref kd), .val (.ref lt), .val (.int 3), .val (.ref s1), .val (.ref s2), .val (.ref s3), .unset, .unset, .unset, .unset] [])) _
       refine XS.iconst X36.here hx rfl (hb hby at_135) ?_
       exact hgo
     obtain ⟨T136, h136, k136, X136, e136, E136, A136, O136, st136⟩ := newR X36 hx hZ hown (w 16 rfl) (w 31 rfl) rfl (g := (mkF m 136 #[.val (.int p1), .val (.int p2), .val (.int p3), .val (.int p4), .val (.int p5), .val (.int kk), .val (.ref kd), .val (.ref lt), .val (.int 3), .val (.ref s1), .val (.ref s2), .val (.ref s3), .unset, .unset, .unset, .unset] [(.int 3)])) rfl (hb hby at_136) rfl (by decide) (cap := 3) (by decide) (by decide) (by decide) (by decide)
     obtain ⟨fx, g136⟩ : ∃ z, z = T36.heap.size := ⟨_, rfl⟩
     rw [← g136] at A136 st136
     have ne_kd_fx : kd ≠ fx := Nat.ne_of_lt (Nat.lt_of_lt_of_le Ek.lt (Nat.le_of_eq g136.symm))
     have ne_tk_fx : tk ≠ fx := Nat.ne_of_lt (Nat.lt_of_lt_of_le Et.lt (Nat.le_of_eq g136.symm))
     have ne_bt_fx : bt ≠ fx := Nat.ne_of_lt (Nat.lt_of_lt_of_le Vt.lt (Nat.le_of_eq g136.symm))
     have ne_lt_fx : lt ≠ fx := Nat.ne_of_lt (Nat.lt_of_lt_of_le El.lt (Nat.le_of_eq g136.symm))
     have ne_bl_fx : bl ≠ fx := Nat.ne_of_lt (Nat.lt_of_lt_of_le Vl.lt (Nat.le_of_eq g136.symm))
     have ne_s1_fx : s1 ≠ fx := Nat.ne_of_lt (Nat.lt_of_lt_of_le Es1.lt (Nat.le_of_eq g136.symm))
     have ne_s2_fx : s2 ≠ fx := Nat.ne_of_lt (Nat.lt_of_lt_of_le Es2.lt (Nat.le_of_eq g136.symm))
     have ne_s3_fx : s3 ≠ fx := Nat.ne_of_lt (Nat.lt_of_lt_of_le Es3.lt (Nat.le_of_eq g136.symm))
     have ge_fx : n0 ≤ fx := Nat.le_trans hZn (Nat.le_of_eq g136.symm)
     have sz_fx : h0.size ≤ fx := Nat.le_trans hK.1 (Nat.le_of_eq g136.symm)
     replace hCH := hCH.ext E136
     replace hZn := Nat.le_trans hZn E136.1
     replace hOld := hOld.ext E136
     replace hK := hK.ext E136
     replace Ek := Ek.ext E136
     replace Ft := Ft.ext E136
     replace Et := Et.ext E136
     replace Ct := Ct.ext E136
     replace Fvt := Fvt.ext E136
     replace Vt := Vt.ext E136
     replace El := El.ext E136
     replace Cl := Cl.ext E136
     replace Fvl := Fvl.ext E136
     replace Vl := Vl.ext E136
     replace Es1 := Es1.ext E136
     replace Es2 := Es2.ext E136
     replace Es3 := Es3.ext E136
     replace hk := Nat.le_trans hk E136.1
     have V_fx : Arv Z h136 fx k136 (.object "java/lang/String") (3 : Int32) [.null, .null, .null] .null := (Arv.new A136 (by decide)).pad (pad_rep [] .null 3)
     have R137 := Rc.st R135 st136
     have R138 : Rc p e below A0 (T136.setTop (mkF m 143 #[.val (.int p1), .val (.int p2), .val (.int p3), .val (.int p4), .val (.int p5), .val (.int kk), .val (.ref kd), .val (.ref lt), .val (.int 3), .val (.ref s1), .val (.ref s2), .val (.ref s3), .unset, .unset, .unset, .unset] [(.ref s1), (.int 0), (.ref fx), (.ref fx)])) := by
       intro tgt hgo
       refine R137 tgt ?_
       show Steps p.tables e below (T136.setTop (mkF m 139 #[.val (.int p1), .val (.int p2), .val (.int p3), .val (.int p4), .val (.int p5), .val (.int kk), .val (.ref kd), .val (.ref lt), .val (.int 3), .val (.ref s1), .val (.ref s2), .val (.ref s3), .unset, .unset, .unset, .unset] [(.ref fx)])) _
       refine XS.dup X136.here hx rfl (hb hby at_139) rfl rfl ?_
       refine XS.iconst X136.here hx rfl (hb hby at_140) ?_
       refine XS.aload X136.here hx rfl (hb hby at_141) rfl rfl ?_
       exact hgo
     obtain ⟨cl139, Ar139, q139, S139, Nn139, H139, G139⟩ := V_fx
     have hin139 : ¬ ((0 : Int32) < 0 ∨ cl139.slots.size ≤ ((0 : Int32)).toNatClampNeg) := inb_of S139 ⟨by decide, by decide⟩
     obtain ⟨T139, h139, X139, e139, W139, st139⟩ := stR X136 hx hZ e136 Ar139 (j := (0 : Int32)) hin139 rfl (Sto.ofV Ar139 q139 O136 (Ins.self Es1)) (g := (mkF m 143 #[.val (.int p1), .val (.int p2), .val (.int p3), .val (.int p4), .val (.int p5), .val (.int kk), .val (.ref kd), .val (.ref lt), .val (.int 3), .val (.ref s1), .val (.ref s2), .val (.ref s3), .unset, .unset, .unset, .unset] [(.ref s1), (.int 0), (.ref fx), (.ref fx)])) rfl rfl (hb hby at_143)
     replace hZn := Nat.le_trans hZn (Keep.of_wr W139).1
     replace hOld := hOld.wr W139 ge_fx
     replace hK := hK.wr W139 (Or.inr sz_fx)
     replace Ek := Ek.wr W139
     replace Ft := Ft.other W139 (Or.inl ne_kd_fx)
     replace Et := Et.wr W139
     replace Ct := Ct.other W139 (Or.inl ne_tk_fx)
     replace Fvt := Fvt.other W139 (Or.inl ne_tk_fx)
     replace Vt := Vt.other W139 ne_bt_fx
     replace El := El.wr W139
     replace Cl := Cl.other W139 (Or.inl ne_lt_fx)
     replace Fvl := Fvl.other W139 (Or.inl ne_lt_fx)
     replace Vl := Vl.other W139 ne_bl_fx
     replace Es1 := Es1.wr W139
     replace Es2 := Es2.wr W139
     replace Es3 := Es3.wr W139
     replace hk := Nat.le_trans hk (Keep.of_wr W139).1
     have V_fx : Arv Z h139 fx k136 (.object "java/lang/String") (3 : Int32) [(.ref s1), .null, .null] .null := Arv.set Ar139 q139 S139 Nn139 H139 G139 rfl W139 0 rfl (Nat.le_of_ble_eq_true rfl)
     have N139 := Fr.snoc X139 N36 ge_fx
     have R140 := Rc.st R138 st139
     have R141 : Rc p e below A0 (T139.setTop (mkF m 148 #[.val (.int p1), .val (.int p2), .val (.int p3), .val (.int p4), .val (.int p5), .val (.int kk), .val (.ref kd), .val (.ref lt), .val (.int 3), .val (.ref s1), .val (.ref s2), .val (.ref s3), .unset, .unset, .unset, .unset] [(.ref s2), (.int 1), (.ref fx), (.ref fx)])) := by
       intro tgt hgo
       refine R140 tgt ?_
       show Steps p.tables e below (T139.setTop (mkF m 144 #[.val (.int p1), .val (.int p2), .val (.int p3), .val (.int p4), .val (.int p5), .val (.int kk), .val (.ref kd), .val (.ref lt), .val (.int 3), .val (.ref s1), .val (.ref s2), .val (.ref s3), .unset, .unset, .unset, .unset] [(.ref fx)])) _
       refine XS.dup X139.here hx rfl (hb hby at_144) rfl rfl ?_
       refine XS.iconst X139.here hx rfl (hb hby at_145) ?_
       refine XS.aload X139.here hx rfl (hb hby at_146) rfl rfl ?_
       exact hgo
     obtain ⟨cl142, Ar142, q142, S142, Nn142, H142, G142⟩ := V_fx
     have hin142 : ¬ ((1 : Int32) < 0 ∨ cl142.slots.size ≤ ((1 : Int32)).toNatClampNeg) := inb_of S142 ⟨by decide, by decide⟩
     obtain ⟨T142, h142, X142, e142, W142, st142⟩ := stR X139 hx hZ e139 Ar142 (j := (1 : Int32)) hin142 rfl (Sto.ofV Ar142 q142 O136 (Ins.self Es2)) (g := (mkF m 148 #[.val (.int p1), .val (.int p2), .val (.int p3), .val (.int p4), .val (.int p5), .val (.int kk), .val (.ref kd), .val (.ref lt), .val (.int 3), .val (.ref s1), .val (.ref s2), .val (.ref s3), .unset, .unset, .unset, .unset] [(.ref s2), (.int 1), (.ref fx), (.ref fx)])) rfl rfl (hb hby at_148)
     replace hZn := Nat.le_trans hZn (Keep.of_wr W142).1
     replace hOld := hOld.wr W142 ge_fx
     replace hK := hK.wr W142 (Or.inr sz_fx)
     replace Ek := Ek.wr W142
     replace Ft := Ft.other W142 (Or.inl ne_kd_fx)
     replace Et := Et.wr W142
     replace Ct := Ct.other W142 (Or.inl ne_tk_fx)
     replace Fvt := Fvt.other W142 (Or.inl ne_tk_fx)
     replace Vt := Vt.other W142 ne_bt_fx
     replace El := El.wr W142
     replace Cl := Cl.other W142 (Or.inl ne_lt_fx)
     replace Fvl := Fvl.other W142 (Or.inl ne_lt_fx)
     replace Vl := Vl.other W142 ne_bl_fx
     replace Es1 := Es1.wr W142
     replace Es2 := Es2.wr W142
     replace Es3 := Es3.wr W142
     replace hk := Nat.le_trans hk (Keep.of_wr W142).1
     have V_fx : Arv Z h142 fx k136 (.object "java/lang/String") (3 : Int32) [(.ref s1), (.ref s2), .null] .null := Arv.set Ar142 q142 S142 Nn142 H142 G142 rfl W142 1 rfl (Nat.le_of_ble_eq_true rfl)
     have N142 := Fr.snoc X142 N139 ge_fx
     have R143 := Rc.st R141 st142
     have R144 : Rc p e below A0 (T142.setTop (mkF m 153 #[.val (.int p1), .val (.int p2), .val (.int p3), .val (.int p4), .val (.int p5), .val (.int kk), .val (.ref kd), .val (.ref lt), .val (.int 3), .val (.ref s1), .val (.ref s2), .val (.ref s3), .unset, .unset, .unset, .unset] [(.ref s3), (.int 2), (.ref fx), (.ref fx)])) := by
       intro tgt hgo
       refine R143 tgt ?_
       show Steps p.tables e below (T142.setTop (mkF m 149 #[.val (.int p1), .val (.int p2), .val (.int p3), .val (.int p4), .val (.int p5), .val (.int kk), .val (.ref kd), .val (.ref lt), .val (.int 3), .val (.ref s1), .val (.ref s2), .val (.ref s3), .unset, .unset, .unset, .unset] [(.ref fx)])) _
       refine XS.dup X142.here hx rfl (hb hby at_149) rfl rfl ?_
       refine XS.iconst X142.here hx rfl (hb hby at_150) ?_
       refine XS.aload X142.here hx rfl (hb hby at_151) rfl rfl ?_
       exact hgo
     obtain ⟨cl145, Ar145, q145, S145, Nn145, H145, G145⟩ := V_fx
     have hin145 : ¬ ((2 : Int32) < 0 ∨ cl145.slots.size ≤ ((2 : Int32)).toNatClampNeg) := inb_of S145 ⟨by decide, by decide⟩
     obtain ⟨T145, h145, X145, e145, W145, st145⟩ := stR X142 hx hZ e142 Ar145 (j := (2 : Int32)) hin145 rfl (Sto.ofV Ar145 q145 O136 (Ins.self Es3)) (g := (mkF m 153 #[.val (.int p1), .val (.int p2), .val (.int p3), .val (.int p4), .val (.int p5), .val (.int kk), .val (.ref kd), .val (.ref lt), .val (.int 3), .val (.ref s1), .val (.ref s2), .val (.ref s3), .unset, .unset, .unset, .unset] [(.ref s3), (.int 2), (.ref fx), (.ref fx)])) rfl rfl (hb hby at_153)
     replace hZn := Nat.le_trans hZn (Keep.of_wr W145).1
     replace hOld := hOld.wr W145 ge_fx
     replace hK := hK.wr W145 (Or.inr sz_fx)
     replace Ek := Ek.wr W145
     replace Ft := Ft.other W145 (Or.inl ne_kd_fx)
     replace Et := Et.wr W145
     replace Ct := Ct.other W145 (Or.inl ne_tk_fx)
     replace Fvt := Fvt.other W145 (Or.inl ne_tk_fx)
     replace Vt := Vt.other W145 ne_bt_fx
     replace El := El.wr W145
     replace Cl := Cl.other W145 (Or.inl ne_lt_fx)
     replace Fvl := Fvl.other W145 (Or.inl ne_lt_fx)
     replace Vl := Vl.other W145 ne_bl_fx
     replace Es1 := Es1.wr W145
     replace Es2 := Es2.wr W145
     replace Es3 := Es3.wr W145
     replace hk := Nat.le_trans hk (Keep.of_wr W145).1
     have V_fx : Arv Z h145 fx k136 (.object "java/lang/String") (3 : Int32) [(.ref s1), (.ref s2), (.ref s3)] .null := Arv.set Ar145 q145 S145 Nn145 H145 G145 rfl W145 2 rfl (Nat.le_of_ble_eq_true rfl)
     have N145 := Fr.snoc X145 N142 ge_fx
     have R146 := Rc.st R144 st145
     have R147 : Rc p e below A0 (T145.setTop (mkF m 156 #[.val (.int p1), .val (.int p2), .val (.int p3), .val (.int p4), .val (.int p5), .val (.int kk), .val (.ref kd), .val (.ref lt), .val (.int 3), .val (.ref s1), .val (.ref s2), .val (.ref s3), .val (.ref fx), .unset, .unset, .unset] [])) := by
       intro tgt hgo
       refine R146 tgt ?_
       show Steps p.tables e below (T145.setTop (mkF m 154 #[.val (.int p1), .val (.int p2), .val (.int p3), .val (.int p4), .val (.int p5), .val (.int kk), .val (.ref kd), .val (.ref lt), .val (.int 3), .val (.ref s1), .val (.ref s2), .val (.ref s3), .unset, .unset, .unset, .unset] [(.ref fx)])) _
       refine XS.astore X145.here hx rfl (hb hby at_154) rfl rfl (l' := #[.val (.int p1), .val (.int p2), .val (.int p3), .val (.int p4), .val (.int p5), .val (.int kk), .val (.ref kd), .val (.ref lt), .val (.int 3), .val (.ref s1), .val (.ref s2), .val (.ref s3), .val (.ref fx), .unset, .unset, .unset]) rfl ?_
       exact hgo
     obtain ⟨T148, h148, X148, e148, E148, A148, D148, -, st148⟩ := newO X145 hx hZ hown (w 32 rfl) (w 33 rfl) (w 34 rfl) e145 (g := (mkF m 156 #[.val (.int p1), .val (.int p2), .val (.int p3), .val (.int p4), .val (.int p5), .val (.int kk), .val (.ref kd), .val (.ref lt), .val (.int 3), .val (.ref s1), .val (.ref s2), .val (.ref s3), .val (.ref fx), .unset, .unset, .unset] [])) rfl (hb hby at_156) (by decide) (by decide)
     obtain ⟨fo, g148⟩ : ∃ z, z = h145.size := ⟨_, rfl⟩
     rw [← g148] at A148 D148 st148
     have ne_kd_fo : kd ≠ fo := Nat.ne_of_lt (Nat.lt_of_lt_of_le Ek.lt (Nat.le_of_eq g148.symm))
     have ne_tk_fo : tk ≠ fo := Nat.ne_of_lt (Nat.lt_of_lt_of_le Et.lt (Nat.le_of_eq g148.symm))
     have ne_bt_fo : bt ≠ fo := Nat.ne_of_lt (Nat.lt_of_lt_of_le Vt.lt (Nat.le_of_eq g148.symm))
     have ne_lt_fo : lt ≠ fo := Nat.ne_of_lt (Nat.lt_of_lt_of_le El.lt (Nat.le_of_eq g148.symm))
     have ne_bl_fo : bl ≠ fo := Nat.ne_of_lt (Nat.lt_of_lt_of_le Vl.lt (Nat.le_of_eq g148.symm))
     have ne_s1_fo : s1 ≠ fo := Nat.ne_of_lt (Nat.lt_of_lt_of_le Es1.lt (Nat.le_of_eq g148.symm))
     have ne_s2_fo : s2 ≠ fo := Nat.ne_of_lt (Nat.lt_of_lt_of_le Es2.lt (Nat.le_of_eq g148.symm))
     have ne_s3_fo : s3 ≠ fo := Nat.ne_of_lt (Nat.lt_of_lt_of_le Es3.lt (Nat.le_of_eq g148.symm))
     have ne_fx_fo : fx ≠ fo := Nat.ne_of_lt (Nat.lt_of_lt_of_le V_fx.lt (Nat.le_of_eq g148.symm))
     have ge_fo : n0 ≤ fo := Nat.le_trans hZn (Nat.le_of_eq g148.symm)
     have sz_fo : h0.size ≤ fo := Nat.le_trans hK.1 (Nat.le_of_eq g148.symm)
     replace hZn := Nat.le_trans hZn E148.1
     replace hOld := hOld.ext E148
     replace hK := hK.ext E148
     replace Ek := Ek.ext E148
     replace Ft := Ft.ext E148
     replace Et := Et.ext E148
     replace Ct := Ct.ext E148
     replace Fvt := Fvt.ext E148
     replace Vt := Vt.ext E148
     replace El := El.ext E148
     replace Cl := Cl.ext E148
     replace Fvl := Fvl.ext E148
     replace Vl := Vl.ext E148
     replace Es1 := Es1.ext E148
     replace Es2 := Es2.ext E148
     replace Es3 := Es3.ext E148
     replace hk := Nat.le_trans hk E148.1
     replace V_fx := V_fx.ext E148
     have E_fo := A148
     have F_kind_fo : Fld Z h148 fo "com/example/verdict_ladder/verdictladder/lint/Finding" "kind" "Lcom/example/verdict_ladder/verdictladder/lint/Finding$Kind;" .null := D148 (Or.inr (w 40 rfl)) (ty := (.object "com/example/verdict_ladder/verdictladder/lint/Finding$Kind")) (by decide)
     have F_fields_fo : Fld Z h148 fo "com/example/verdict_ladder/verdictladder/lint/Finding" "fields" "Ljava/util/List;" .null := D148 (Or.inr (w 87 rfl)) (ty := (.object "java/util/List")) (by decide)
     have R149 := Rc.st R147 st148
     have R150 : Rc p e below A0 (T148.setTop (mkF m 164 #[.val (.int p1), .val (.int p2), .val (.int p3), .val (.int p4), .val (.int p5), .val (.int kk), .val (.ref kd), .val (.ref lt), .val (.int 3), .val (.ref s1), .val (.ref s2), .val (.ref s3), .val (.ref fx), .unset, .unset, .unset] [(.ref fx), (.ref kd), (.ref fo), (.ref fo)])) := by
       intro tgt hgo
       refine R149 tgt ?_
       show Steps p.tables e below (T148.setTop (mkF m 159 #[.val (.int p1), .val (.int p2), .val (.int p3), .val (.int p4), .val (.int p5), .val (.int kk), .val (.ref kd), .val (.ref lt), .val (.int 3), .val (.ref s1), .val (.ref s2), .val (.ref s3), .val (.ref fx), .unset, .unset, .unset] [(.ref fo)])) _
       refine XS.dup X148.here hx rfl (hb hby at_159) rfl rfl ?_
       refine XS.aload X148.here hx rfl (hb hby at_160) rfl rfl ?_
       refine XS.aload X148.here hx rfl (hb hby at_162) rfl rfl ?_
       exact hgo
     obtain ⟨_, _, ⟨T151, L151, k151, n151⟩, -, X151, ⟨Lc151, hQ151, l151, y151, z151⟩, st151⟩ := X148.specialBack hx (y := yn11) rfl hown (mvT hZ (w 35 rfl)) (mvT hZ (w 36 rfl)) (mvT hZ (w 37 rfl)) (by decide) (backOf (W := 1) (rm_fi3 l Z a0 hw [] fo kd fx s1 s2 s3 _ h148 n0 hZn ge_fo ne_fx_fo E_fo F_kind_fo F_fields_fo V_fx Es1 Es2 Es3) hZ (w 37 rfl) (w 34 rfl) (by decide) (by decide)) (g := (mkF m 164 #[.val (.int p1), .val (.int p2), .val (.int p3), .val (.int p4), .val (.int p5), .val (.int kk), .val (.ref kd), .val (.ref lt), .val (.int 3), .val (.ref s1), .val (.ref s2), .val (.ref s3), .val (.ref fx), .unset, .unset, .unset] [(.ref fx), (.ref kd), (.ref fo), (.ref fo)])) rfl (by rw [hml]; rfl) (Steps.refl _) (a := fo) (argsL := [(.ref kd), (.ref fx)]) (rest := [(.ref fo)]) (lenOf pd_18 rfl) rfl (by show 2 * 0 + _ ≤ _; exact Nat.le_of_eq rfl) (hb hby at_164) (fun _ _ => ⟨rfl, e148, (by decide : 16 + 2 ≤ _), (by decide : 77 + 5 ≤ _)⟩)
     dsimp only [Pt.U, Pt.locs, Pt.cells, Pt.slots] at X151 l151 y151 z151 st151 hQ151
     subst l151 y151 z151
     obtain ⟨rfl, N151q, K151, Fk, lx, szx0, gex, Ff, Ex, ea, ke, sze0, gee, nee, Fe, Ve⟩ := hQ151
     have N151 := Fr.app N145 N151q
     have R152 := Rc.tr R150 st151
     have ne_kd_lx : kd ≠ lx := Nat.ne_of_lt (Nat.lt_of_lt_of_le Ek.lt szx0)
     have ne_tk_lx : tk ≠ lx := Nat.ne_of_lt (Nat.lt_of_lt_of_le Et.lt szx0)
     have ne_bt_lx : bt ≠ lx := Nat.ne_of_lt (Nat.lt_of_lt_of_le Vt.lt szx0)
     have ne_lt_lx : lt ≠ lx := Nat.ne_of_lt (Nat.lt_of_lt_of_le El.lt szx0)
     have ne_bl_lx : bl ≠ lx := Nat.ne_of_lt (Nat.lt_of_lt_of_le Vl.lt szx0)
     have ne_s1_lx : s1 ≠ lx := Nat.ne_of_lt (Nat.lt_of_lt_of_le Es1.lt szx0)
     have ne_s2_lx : s2 ≠ lx := Nat.ne_of_lt (Nat.lt_of_lt_of_le Es2.lt szx0)
     have ne_s3_lx : s3 ≠ lx := Nat.ne_of_lt (Nat.lt_of_lt_of_le Es3.lt szx0)
     have ne_fx_lx : fx ≠ lx := Nat.ne_of_lt (Nat.lt_of_lt_of_le V_fx.lt szx0)
     have ne_fo_lx : fo ≠ lx := Nat.ne_of_lt (Nat.lt_of_lt_of_le E_fo.lt szx0)
     have sz_lx := Nat.le_trans hK.1 szx0
     have ne_kd_ea : kd ≠ ea := Nat.ne_of_lt (Nat.lt_of_lt_of_le Ek.lt sze0)
     have ne_tk_ea : tk ≠ ea := Nat.ne_of_lt (Nat.lt_of_lt_of_le Et.lt sze0)
     have ne_bt_ea : bt ≠ ea := Nat.ne_of_lt (Nat.lt_of_lt_of_le Vt.lt sze0)
     have ne_lt_ea : lt ≠ ea := Nat.ne_of_lt (Nat.lt_of_lt_of_le El.lt sze0)
     have ne_bl_ea : bl ≠ ea := Nat.ne_of_lt (Nat.lt_of_lt_of_le Vl.lt sze0)
     have ne_s1_ea : s1 ≠ ea := Nat.ne_of_lt (Nat.lt_of_lt_of_le Es1.lt sze0)
     have ne_s2_ea : s2 ≠ ea := Nat.ne_of_lt (Nat.lt_of_lt_of_le Es2.lt sze0)
     have ne_s3_ea : s3 ≠ ea := Nat.ne_of_lt (Nat.lt_of_lt_of_le Es3.lt sze0)
     have ne_fx_ea : fx ≠ ea := Nat.ne_of_lt (Nat.lt_of_lt_of_le V_fx.lt sze0)
     have ne_fo_ea : fo ≠ ea := Nat.ne_of_lt (Nat.lt_of_lt_of_le E_fo.lt sze0)
     have sz_ea := Nat.le_trans hK.1 sze0
     replace hZn := Nat.le_trans hZn K151.1
     replace hOld := hOld.keep K151 (allS ge_fo all0)
     replace hK := hK.trans K151 (allS (Or.inr sz_fo) all0)
     replace Ek := Ek.keep K151
     replace Ft := Ft.keep K151 (ninS ne_kd_fo nin0)
     replace Et := Et.keep K151
     replace Ct := Ct.keep K151 (ninS ne_tk_fo nin0)
     replace Fvt := Fvt.keep K151 (ninS ne_tk_fo nin0)
     replace Vt := Vt.keep K151 (ninS ne_bt_fo nin0)
     replace El := El.keep K151
     replace Cl := Cl.keep K151 (ninS ne_lt_fo nin0)
     replace Fvl := Fvl.keep K151 (ninS ne_lt_fo nin0)
     replace Vl := Vl.keep K151 (ninS ne_bl_fo nin0)
     replace Es1 := Es1.keep K151
     replace Es2 := Es2.keep K151
     replace Es3 := Es3.keep K151
     replace hk := Nat.le_trans hk K151.1
     replace V_fx := V_fx.keep K151 (ninS ne_fx_fo nin0)
     replace E_fo := E_fo.keep K151
     have R153 : Rc p e below A0 (T151.setTop (mkF m 171 #[.val (.int p1), .val (.int p2), .val (.int p3), .val (.int p4), .val (.int p5), .val (.int kk), .val (.ref kd), .val (.ref lt), .val (.int 3), .val (.ref s1), .val (.ref s2), .val (.ref s3), .val (.ref fx), .val (.ref fo), .unset, .unset] [(.ref fo)])) := by
       intro tgt hgo
       refine R152 tgt ?_
       show Steps p.tables e below (T151.setTop (mkF m 167 #[.val (.int p1), .val (.int p2), .val (.int p3), .val (.int p4), .val (.int p5), .val (.int kk), .val (.ref kd), .val (.ref lt), .val (.int 3), .val (.ref s1), .val (.ref s2), .val (.ref s3), .val (.ref fx), .unset, .unset, .unset] [(.ref fo)])) _
       refine XS.astore X151.here hx rfl (hb hby at_167) rfl rfl (l' := #[.val (.int p1), .val (.int p2), .val (.int p3), .val (.int p4), .val (.int p5), .val (.int kk), .val (.ref kd), .val (.ref lt), .val (.int 3), .val (.ref s1), .val (.ref s2), .val (.ref s3), .val (.ref fx), .val (.ref fo), .unset, .unset]) rfl ?_
       refine XS.aload X151.here hx rfl (hb hby at_169) rfl rfl ?_
       exact hgo
     obtain ⟨cq154, kq154, q154a, q154b, q154c⟩ := isOf hZ rfl E_fo
     obtain ⟨_, _, ⟨T154, L154, k154, n154⟩, -, X154, ⟨Lc154, hQ154, l154, y154, z154⟩, st154⟩ := X151.virtualBack hx (y := yn17) (z := yn17) hown (mvT hZ (w 88 rfl)) (mvT hZ (w 89 rfl)) (notFace_of_selects (args := #[]) (mvT hZ (w 91 rfl))) (mvT hZ (w 91 rfl)) (mvT hZ (w 90 rfl)) (by decide) (backOf (W := 0) (rm_li3 l Z a0 hw [] fo kd tk lx s1 s2 s3 ea ke T151.heap n0 hZn E_fo Fk Ff Ek Ft Et Ex Fe Ve Es1 Es2 Es3) hZ (w 92 rfl) (w 34 rfl) (by decide) (by decide)) q154a q154c (g := (mkF m 171 #[.val (.int p1), .val (.int p2), .val (.int p3), .val (.int p4), .val (.int p5), .val (.int kk), .val (.ref kd), .val (.ref lt), .val (.int 3), .val (.ref s1), .val (.ref s2), .val (.ref s3), .val (.ref fx), .val (.ref fo), .unset, .unset] [(.ref fo)])) rfl (by rw [hml]; rfl) (Steps.refl _) (argsL := []) (rest := []) (lenOf pd_19 rfl) rfl (by show 2 * 0 + _ ≤ _; exact Nat.le_of_eq rfl) (hb hby at_171) (fun _ _ => ⟨rfl, rfl, (by decide : 18 + 1 ≤ _), (by decide : 82 + 4 ≤ _)⟩)
     dsimp only [Pt.U, Pt.locs, Pt.cells, Pt.slots] at X154 l154 y154 z154 st154 hQ154
     subst l154 y154 z154
     obtain ⟨⟨r1, rfl, k_r1, sz0_r1, ge_r1, O_r1, V_r1⟩, N154q, K154⟩ := hQ154
     have N154 := Fr.app N151 N154q
     have R155 := Rc.tr R153 st154
     have ne_kd_r1 : kd ≠ r1 := Nat.ne_of_lt (Nat.lt_of_lt_of_le Ek.lt sz0_r1)
     have ne_tk_r1 : tk ≠ r1 := Nat.ne_of_lt (Nat.lt_of_lt_of_le Et.lt sz0_r1)
     have ne_bt_r1 : bt ≠ r1 := Nat.ne_of_lt (Nat.lt_of_lt_of_le Vt.lt sz0_r1)
     have ne_lt_r1 : lt ≠ r1 := Nat.ne_of_lt (Nat.lt_of_lt_of_le El.lt sz0_r1)
     have ne_bl_r1 : bl ≠ r1 := Nat.ne_of_lt (Nat.lt_of_lt_of_le Vl.lt sz0_r1)
     have ne_s1_r1 : s1 ≠ r1 := Nat.ne_of_lt (Nat.lt_of_lt_of_le Es1.lt sz0_r1)
     have ne_s2_r1 : s2 ≠ r1 := Nat.ne_of_lt (Nat.lt_of_lt_of_le Es2.lt sz0_r1)
     have ne_s3_r1 : s3 ≠ r1 := Nat.ne_of_lt (Nat.lt_of_lt_of_le Es3.lt sz0_r1)
     have ne_fo_r1 : fo ≠ r1 := Nat.ne_of_lt (Nat.lt_of_lt_of_le E_fo.lt sz0_r1)
     have ne_lx_r1 : lx ≠ r1 := Nat.ne_of_lt (Nat.lt_of_lt_of_le Ex.lt sz0_r1)
     have ne_ea_r1 : ea ≠ r1 := Nat.ne_of_lt (Nat.lt_of_lt_of_le Ve.lt sz0_r1)
     have sz_r1 := Nat.le_trans hK.1 sz0_r1
     replace hZn := Nat.le_trans hZn K154.1
     replace hOld := hOld.keep K154 all0
     replace hK := hK.trans K154 all0
     replace Ek := Ek.keep K154
     replace Ft := Ft.keep K154 nin0
     replace Et := Et.keep K154
     replace Ct := Ct.keep K154 nin0
     replace Fvt := Fvt.keep K154 nin0
     replace Vt := Vt.keep K154 nin0
     replace El := El.keep K154
     replace Cl := Cl.keep K154 nin0
     replace Fvl := Fvl.keep K154 nin0
     replace Vl := Vl.keep K154 nin0
     replace Es1 := Es1.keep K154
     replace Es2 := Es2.keep K154
     replace Es3 := Es3.keep K154
     replace hk := Nat.le_trans hk K154.1
     replace E_fo := E_fo.keep K154
     replace Fk := Fk.keep K154 nin0
     replace Ff := Ff.keep K154 nin0
     replace Ex := Ex.keep K154
     replace Fe := Fe.keep K154 nin0
     replace Ve := Ve.keep K154 nin0
     have R156 : Rc p e below A0 (T154.setTop (mkF m 188 #[.val (.int p1), .val (.int p2), .val (.int p3), .val (.int p4), .val (.int p5), .val (.int kk), .val (.ref kd), .val (.ref lt), .val (.int 3), .val (.ref s1), .val (.ref s2), .val (.ref s3), .val (.ref fx), .val (.ref fo), .val (.ref r1), .unset] [(.ref s3), (.ref s2), (.ref s1), (.ref lt), (.int 3), (.ref r1)])) := by
       intro tgt hgo
       refine R155 tgt ?_
       show Steps p.tables e below (T154.setTop (mkF m 174 #[.val (.int p1), .val (.int p2), .val (.int p3), .val (.int p4), .val (.int p5), .val (.int kk), .val (.ref kd), .val (.ref lt), .val (.int 3), .val (.ref s1), .val (.ref s2), .val (.ref s3), .val (.ref fx), .val (.ref fo), .unset, .unset] [(.ref r1)])) _
       refine XS.astore X154.here hx rfl (hb hby at_174) rfl rfl (l' := #[.val (.int p1), .val (.int p2), .val (.int p3), .val (.int p4), .val (.int p5), .val (.int kk), .val (.ref kd), .val (.ref lt), .val (.int 3), .val (.ref s1), .val (.ref s2), .val (.ref s3), .val (.ref fx), .val (.ref fo), .val (.ref r1), .unset]) rfl ?_
       refine XS.aload X154.here hx rfl (hb hby at_176) rfl rfl ?_
       refine XS.iload X154.here hx rfl (hb hby at_178) rfl ?_
       refine XS.aload X154.here hx rfl (hb hby at_180) rfl rfl ?_
       refine XS.aload X154.here hx rfl (hb hby at_182) rfl rfl ?_
       refine XS.aload X154.here hx rfl (hb hby at_184) rfl rfl ?_
       refine XS.aload X154.here hx rfl (hb hby at_186) rfl rfl ?_
       exact hgo
     obtain ⟨_, _, ⟨T157, L157, k157, n157⟩, -, X157, ⟨Lc157, hQ157, l157, y157, z157⟩, st157⟩ := Jvm.LawKit.callS X154 hx (y := yn20) hown (mvT hZ (w 118 rfl)) (mvT hZ (w 119 rfl)) (mvT hZ (w 14 rfl)) (mvT hZ (w 120 rfl)) (by decide) (backOf (W := 0) (rm_ma3 l Z a0 hw [] r1 lt s1 s2 s3 tk zc bs bl bt kl kt k_r1 T154.heap n0 hZn hOld S_cs hz hbs ⟨El, Cl, Fvl, Vl⟩ ⟨Et, Ct, Fvt, Vt⟩ V_r1 Es1 Es2 Es3) hZ (w 120 rfl) (w 14 rfl) (by decide) (by decide)) (g := (mkF m 188 #[.val (.int p1), .val (.int p2), .val (.int p3), .val (.int p4), .val (.int p5), .val (.int kk), .val (.ref kd), .val (.ref lt), .val (.int 3), .val (.ref s1), .val (.ref s2), .val (.ref s3), .val (.ref fx), .val (.ref fo), .val (.ref r1), .unset] [(.ref s3), (.ref s2), (.ref s1), (.ref lt), (.int 3), (.ref r1)])) rfl (by rw [hml]; rfl) (argsL := [(.ref r1), (.int 3), (.ref lt), (.ref s1), (.ref s2), (.ref s3)]) (rest := []) (lenOf pd_20 rfl) rfl (by show 2 * 0 + _ ≤ _; exact Nat.le_of_eq rfl) (hb hby at_188) (fun _ _ => ⟨rfl, rfl, (by decide : 19 + 0 ≤ _), (by decide : 86 + 0 ≤ _)⟩)
     dsimp only [Pt.U, Pt.locs, Pt.cells, Pt.slots] at X157 l157 y157 z157 st157 hQ157
     subst l157 y157 z157
     obtain ⟨rfl, N157q, e157⟩ := hQ157
     have N157 := Fr.app N154 N157q
     have R158 := Rc.st R156 st157
     have R159 : Rc p e below A0 (T157.setTop (mkF m 201 #[.val (.int p1), .val (.int p2), .val (.int p3), .val (.int p4), .val (.int p5), .val (.int kk), .val (.ref kd), .val (.ref lt), .val (.int 3), .val (.ref s1), .val (.ref s2), .val (.ref s3), .val (.ref fx), .val (.ref fo), .val (.ref r1), .unset] [(.ref s1), (.int 0), (.ref r1)])) := by
       intro tgt hgo
       refine R158 tgt ?_
       show Steps p.tables e below (T157.setTop (mkF m 191 #[.val (.int p1), .val (.int p2), .val (.int p3), .val (.int p4), .val (.int p5), .val (.int kk), .val (.ref kd), .val (.ref lt), .val (.int 3), .val (.ref s1), .val (.ref s2), .val (.ref s3), .val (.ref fx), .val (.ref fo), .val (.ref r1), .unset] [(.int 1)])) _
       refine XS.ifYes X157.here hx rfl (pc0 := 191) (pc' := 196) rfl (hb hby at_191) rfl ((if0 _ _).trans (feq (by decide : ¬ ((1 : Int32) = (0 : Int32)))).2) (by decide) (by decide) ?_
       refine XS.aload X157.here hx rfl (hb hby at_196) rfl rfl ?_
       refine XS.iconst X157.here hx rfl (hb hby at_198) ?_
       refine XS.aload X157.here hx rfl (hb hby at_199) rfl rfl ?_
       exact hgo
     obtain ⟨cl160, Ar160, q160, S160, Nn160, H160, G160⟩ := V_r1
     have hin160 : ¬ ((0 : Int32) < 0 ∨ cl160.slots.size ≤ ((0 : Int32)).toNatClampNeg) := inb_of S160 ⟨by decide, by decide⟩
     obtain ⟨T160, h160, X160, e160, W160, st160⟩ := stR X157 hx hZ e157 Ar160 (j := (0 : Int32)) hin160 rfl (Sto.ofV Ar160 q160 O_r1 (Ins.self Es1)) (g := (mkF m 201 #[.val (.int p1), .val (.int p2), .val (.int p3), .val (.int p4), .val (.int p5), .val (.int kk), .val (.ref kd), .val (.ref lt), .val (.int 3), .val (.ref s1), .val (.ref s2), .val (.ref s3), .val (.ref fx), .val (.ref fo), .val (.ref r1), .unset] [(.ref s1), (.int 0), (.ref r1)])) rfl rfl (hb hby at_201)
     replace hZn := Nat.le_trans hZn (Keep.of_wr W160).1
     replace hOld := hOld.wr W160 ge_r1
     replace hK := hK.wr W160 (Or.inr sz_r1)
     replace Ek := Ek.wr W160
     replace Ft := Ft.other W160 (Or.inl ne_kd_r1)
     replace Et := Et.wr W160
     replace Ct := Ct.other W160 (Or.inl ne_tk_r1)
     replace Fvt := Fvt.other W160 (Or.inl ne_tk_r1)
     replace Vt := Vt.other W160 ne_bt_r1
     replace El := El.wr W160
     replace Cl := Cl.other W160 (Or.inl ne_lt_r1)
     replace Fvl := Fvl.other W160 (Or.inl ne_lt_r1)
     replace Vl := Vl.other W160 ne_bl_r1
     replace Es1 := Es1.wr W160
     replace Es2 := Es2.wr W160
     replace Es3 := Es3.wr W160
     replace hk := Nat.le_trans hk (Keep.of_wr W160).1
     replace E_fo := E_fo.wr W160
     replace Fk := Fk.other W160 (Or.inl ne_fo_r1)
     replace Ff := Ff.other W160 (Or.inl ne_fo_r1)
     replace Ex := Ex.wr W160
     replace Fe := Fe.other W160 (Or.inl ne_lx_r1)
     replace Ve := Ve.other W160 ne_ea_r1
     have V_r1 : Arv Z h160 r1 k_r1 (.object "java/lang/String") (4 : Int32) [(.ref s1), (.ref s1), (.ref s2), (.ref s3)] .null := Arv.set Ar160 q160 S160 Nn160 H160 G160 rfl W160 0 rfl (Nat.le_of_ble_eq_true rfl)
     have N160 := Fr.snoc X160 N157 ge_r1
     have R161 := Rc.st R159 st160
     have R162 : Rc p e below A0 (T160.setTop (mkF m 213 #[.val (.int p1), .val (.int p2), .val (.int p3), .val (.int p4), .val (.int p5), .val (.int kk), .val (.ref kd), .val (.ref lt), .val (.int 3), .val (.ref s1), .val (.ref s2), .val (.ref s3), .val (.ref fx), .val (.ref fo), .val (.ref r1), .unset] [(.ref lt), (.int 1), (.ref r1)])) := by
       intro tgt hgo
       refine R161 tgt ?_
       show Steps p.tables e below (T160.setTop (mkF m 202 #[.val (.int p1), .val (.int p2), .val (.int p3), .val (.int p4), .val (.int p5), .val (.int kk), .val (.ref kd), .val (.ref lt), .val (.int 3), .val (.ref s1), .val (.ref s2), .val (.ref s3), .val (.ref fx), .val (.ref fo), .val (.ref r1), .unset] [])) _
       refine XS.iload X160.here hx rfl (hb hby at_202) rfl ?_
       refine XS.iconst X160.here hx rfl (hb hby at_204) ?_
       refine XS.icmpNo X160.here hx rfl (hb hby at_205) rfl (flt (by decide : ¬ ((3 : Int32) < (1 : Int32)))).1 ?_
       refine XS.aload X160.here hx rfl (hb hby at_208) rfl rfl ?_
       refine XS.iconst X160.here hx rfl (hb hby at_210) ?_
       refine XS.aload X160.here hx rfl (hb hby at_211) rfl rfl ?_
       exact hgo
     obtain ⟨cl163, Ar163, q163, S163, Nn163, H163, G163⟩ := V_r1
     have hin163 : ¬ ((1 : Int32) < 0 ∨ cl163.slots.size ≤ ((1 : Int32)).toNatClampNeg) := inb_of S163 ⟨by decide, by decide⟩
     obtain ⟨T163, h163, X163, e163, W163, st163⟩ := stR X160 hx hZ e160 Ar163 (j := (1 : Int32)) hin163 rfl (Sto.ofV Ar163 q163 O_r1 (Ins.self El)) (g := (mkF m 213 #[.val (.int p1), .val (.int p2), .val (.int p3), .val (.int p4), .val (.int p5), .val (.int kk), .val (.ref kd), .val (.ref lt), .val (.int 3), .val (.ref s1), .val (.ref s2), .val (.ref s3), .val (.ref fx), .val (.ref fo), .val (.ref r1), .unset] [(.ref lt), (.int 1), (.ref r1)])) rfl rfl (hb hby at_213)
     replace hZn := Nat.le_trans hZn (Keep.of_wr W163).1
     replace hOld := hOld.wr W163 ge_r1
     replace hK := hK.wr W163 (Or.inr sz_r1)
     replace Ek := Ek.wr W163
     replace Ft := Ft.other W163 (Or.inl ne_kd_r1)
     replace Et := Et.wr W163
     replace Ct := Ct.other W163 (Or.inl ne_tk_r1)
     replace Fvt := Fvt.other W163 (Or.inl ne_tk_r1)
     replace Vt := Vt.other W163 ne_bt_r1
     replace El := El.wr W163
     replace Cl := Cl.other W163 (Or.inl ne_lt_r1)
     replace Fvl := Fvl.other W163 (Or.inl ne_lt_r1)
     replace Vl := Vl.other W163 ne_bl_r1
     replace Es1 := Es1.wr W163
     replace Es2 := Es2.wr W163
     replace Es3 := Es3.wr W163
     replace hk := Nat.le_trans hk (Keep.of_wr W163).1
     replace E_fo := E_fo.wr W163
     replace Fk := Fk.other W163 (Or.inl ne_fo_r1)
     replace Ff := Ff.other W163 (Or.inl ne_fo_r1)
     replace Ex := Ex.wr W163
     replace Fe := Fe.other W163 (Or.inl ne_lx_r1)
     replace Ve := Ve.other W163 ne_ea_r1
     have V_r1 : Arv Z h163 r1 k_r1 (.object "java/lang/String") (4 : Int32) [(.ref s1), (.ref lt), (.ref s2), (.ref s3)] .null := Arv.set Ar163 q163 S163 Nn163 H163 G163 rfl W163 1 rfl (Nat.le_of_ble_eq_true rfl)
     have N163 := Fr.snoc X163 N160 ge_r1
     have R164 := Rc.st R162 st163
     have R165 : Rc p e below A0 (T163.setTop (mkF m 216 #[.val (.int p1), .val (.int p2), .val (.int p3), .val (.int p4), .val (.int p5), .val (.int kk), .val (.ref kd), .val (.ref lt), .val (.int 3), .val (.ref s1), .val (.ref s2), .val (.ref s3), .val (.ref fx), .val (.ref fo), .val (.ref r1), .unset] [(.ref fo)])) := by
       intro tgt hgo
       refine R164 tgt ?_
       show Steps p.tables e below (T163.setTop (mkF m 214 #[.val (.int p1), .val (.int p2), .val (.int p3), .val (.int p4), .val (.int p5), .val (.int kk), .val (.ref kd), .val (.ref lt), .val (.int 3), .val (.ref s1), .val (.ref s2), .val (.ref s3), .val (.ref fx), .val (.ref fo), .val (.ref r1), .unset] [])) _
       refine XS.aload X163.here hx rfl (hb hby at_214) rfl rfl ?_
       exact hgo
     obtain ⟨cq166, kq166, q166a, q166b, q166c⟩ := isOf hZ e163 E_fo
     obtain ⟨_, _, ⟨T166, L166, k166, n166⟩, -, X166, ⟨Lc166, hQ166, l166, y166, z166⟩, st166⟩ := X163.virtualBack hx (y := yn17) (z := yn17) hown (mvT hZ (w 88 rfl)) (mvT hZ (w 89 rfl)) (notFace_of_selects (args := #[]) (mvT hZ (w 91 rfl))) (mvT hZ (w 91 rfl)) (mvT hZ (w 90 rfl)) (by decide) (backOf (W := 0) (rm_li3 l Z a0 hw [] fo kd tk lx s1 s2 s3 ea ke h163 n0 hZn E_fo Fk Ff Ek Ft Et Ex Fe Ve Es1 Es2 Es3) hZ (w 92 rfl) (w 34 rfl) (by decide) (by decide)) q166a q166c (g := (mkF m 216 #[.val (.int p1), .val (.int p2), .val (.int p3), .val (.int p4), .val (.int p5), .val (.int kk), .val (.ref kd), .val (.ref lt), .val (.int 3), .val (.ref s1), .val (.ref s2), .val (.ref s3), .val (.ref fx), .val (.ref fo), .val (.ref r1), .unset] [(.ref fo)])) rfl (by rw [hml]; rfl) (Steps.refl _) (argsL := []) (rest := []) (lenOf pd_19 rfl) rfl (by show 2 * 0 + _ ≤ _; exact Nat.le_of_eq rfl) (hb hby at_216) (fun _ _ => ⟨rfl, e163, (by decide : 19 + 1 ≤ _), (by decide : 86 + 4 ≤ _)⟩)
     dsimp only [Pt.U, Pt.locs, Pt.cells, Pt.slots] at X166 l166 y166 z166 st166 hQ166
     subst l166 y166 z166
     obtain ⟨⟨r2, rfl, k_r2, sz0_r2, ge_r2, O_r2, V_r2⟩, N166q, K166⟩ := hQ166
     have N166 := Fr.app N163 N166q
     have R167 := Rc.tr R165 st166
     replace hZn := Nat.le_trans hZn K166.1
     replace hOld := hOld.keep K166 all0
     replace hK := hK.trans K166 all0
     replace Ek := Ek.keep K166
     replace Ft := Ft.keep K166 nin0
     replace Et := Et.keep K166
     replace Ct := Ct.keep K166 nin0
     replace Fvt := Fvt.keep K166 nin0
     replace Vt := Vt.keep K166 nin0
     replace El := El.keep K166
     replace Cl := Cl.keep K166 nin0
     replace Fvl := Fvl.keep K166 nin0
     replace Vl := Vl.keep K166 nin0
     replace Es1 := Es1.keep K166
     replace Es2 := Es2.keep K166
     replace Es3 := Es3.keep K166
     replace hk := Nat.le_trans hk K166.1
     replace E_fo := E_fo.keep K166
     replace Fk := Fk.keep K166 nin0
     replace Ff := Ff.keep K166 nin0
     replace Ex := Ex.keep K166
     replace Fe := Fe.keep K166 nin0
     replace Ve := Ve.keep K166 nin0
     replace V_r1 := V_r1.keep K166 nin0
     have R168 : Rc p e below A0 (T166.setTop (mkF m 233 #[.val (.int p1), .val (.int p2), .val (.int p3), .val (.int p4), .val (.int p5), .val (.int kk), .val (.ref kd), .val (.ref lt), .val (.int 3), .val (.ref s1), .val (.ref s2), .val (.ref s3), .val (.ref fx), .val (.ref fo), .val (.ref r1), .val (.ref r2)] [(.ref s3), (.ref s2), (.ref s1), (.ref lt), (.int 3), (.ref r2)])) := by
       intro tgt hgo
       refine R167 tgt ?_
       show Steps p.tables e below (T166.setTop (mkF m 219 #[.val (.int p1), .val (.int p2), .val (.int p3), .val (.int p4), .val (.int p5), .val (.int kk), .val (.ref kd), .val (.ref lt), .val (.int 3), .val (.ref s1), .val (.ref s2), .val (.ref s3), .val (.ref fx), .val (.ref fo), .val (.ref r1), .unset] [(.ref r2)])) _
       refine XS.astore X166.here hx rfl (hb hby at_219) rfl rfl (l' := #[.val (.int p1), .val (.int p2), .val (.int p3), .val (.int p4), .val (.int p5), .val (.int kk), .val (.ref kd), .val (.ref lt), .val (.int 3), .val (.ref s1), .val (.ref s2), .val (.ref s3), .val (.ref fx), .val (.ref fo), .val (.ref r1), .val (.ref r2)]) rfl ?_
       refine XS.aload X166.here hx rfl (hb hby at_221) rfl rfl ?_
       refine XS.iload X166.here hx rfl (hb hby at_223) rfl ?_
       refine XS.aload X166.here hx rfl (hb hby at_225) rfl rfl ?_
       refine XS.aload X166.here hx rfl (hb hby at_227) rfl rfl ?_
       refine XS.aload X166.here hx rfl (hb hby at_229) rfl rfl ?_
       refine XS.aload X166.here hx rfl (hb hby at_231) rfl rfl ?_
       exact hgo
     obtain ⟨_, _, ⟨T169, L169, k169, n169⟩, -, X169, ⟨Lc169, hQ169, l169, y169, z169⟩, st169⟩ := Jvm.LawKit.callS X166 hx (y := yn20) hown (mvT hZ (w 118 rfl)) (mvT hZ (w 119 rfl)) (mvT hZ (w 14 rfl)) (mvT hZ (w 120 rfl)) (by decide) (backOf (W := 0) (rm_ma3 l Z a0 hw [] r2 lt s1 s2 s3 tk zc bs bl bt kl kt k_r2 T166.heap n0 hZn hOld S_cs hz hbs ⟨El, Cl, Fvl, Vl⟩ ⟨Et, Ct, Fvt, Vt⟩ V_r2 Es1 Es2 Es3) hZ (w 120 rfl) (w 14 rfl) (by decide) (by decide)) (g := (mkF m 233 #[.val (.int p1), .val (.int p2), .val (.int p3), .val (.int p4), .val (.int p5), .val (.int kk), .val (.ref kd), .val (.ref lt), .val (.int 3), .val (.ref s1), .val (.ref s2), .val (.ref s3), .val (.ref fx), .val (.ref fo), .val (.ref r1), .val (.ref r2)] [(.ref s3), (.ref s2), (.ref s1), (.ref lt), (.int 3), (.ref r2)])) rfl (by rw [hml]; rfl) (argsL := [(.ref r2), (.int 3), (.ref lt), (.ref s1), (.ref s2), (.ref s3)]) (rest := []) (lenOf pd_20 rfl) rfl (by show 2 * 0 + _ ≤ _; exact Nat.le_of_eq rfl) (hb hby at_233) (fun _ _ => ⟨rfl, rfl, (by decide : 20 + 0 ≤ _), (by decide : 90 + 0 ≤ _)⟩)
     dsimp only [Pt.U, Pt.locs, Pt.cells, Pt.slots] at X169 l169 y169 z169 st169 hQ169
     subst l169 y169 z169
     obtain ⟨rfl, N169q, e169⟩ := hQ169
     have N169 := Fr.app N166 N169q
     have R170 := Rc.st R168 st169
     subst hA0
     obtain ⟨fs, hr, hrun, hended, hRW⟩ := X169.leaveW hS (by rw [e169]; exact hk) (v := some (.int 1)) (fun h => by rw [Bd.returns] at h; cases h) Bd.notSynchronized
     refine ⟨_, _, R170 _ ?_, hrun, hended, _, _, rfl, ?_, OwnKit.own_fin hRW (by decide) (by decide)⟩
     ·show Steps p.tables e below (T169.setTop (mkF m 236 #[.val (.int p1), .val (.int p2), .val (.int p3), .val (.int p4), .val (.int p5), .val (.int kk), .val (.ref kd), .val (.ref lt), .val (.int 3), .val (.ref s1), .val (.ref s2), .val (.ref s3), .val (.ref fx), .val (.ref fo), .val (.ref r1), .val (.ref r2)] [(.int 1)])) _
      exact retN X169 hx (t := .boolean) Bd.returns (by simp) (hb hby at_236) hr
     ·show Q0 n0 _ T169.heap _
      rw [e169]
      exact ⟨rfl, N169⟩
theorem own_fld {args : Array Value} {s : State} {t : Term} {C n d : String} {c : Int32} {a : Addr} (h : (Jvm.Cond.eq (Term.field t C n d) (Term.int c)).value args s none s [] = some true) (ht : t.eval args s none [] s = some (.ref a)) : Fld s s.heap a C n d (.int c) := by
  apply Fld.start
  obtain ⟨x, y, ex, ey, kx, ky⟩ := cmp_v (Or.inl h)
  have ey' : (Term.int c).eval args s none [] s = some (.int c) := Term.int_eval c
  cases ey.symm.trans ey'
  obtain ⟨z, rfl⟩ := ky
  have ex' := ex
  rw [fld_at ht] at ex'
  simp only [Cond.value, ex, ey'] at h
  rw [ex']
  simpa using h
theorem own_eqi {args : Array Value} {s : State} {t : Term} {c : Int32} (h : (Jvm.Cond.eq t (Term.int c)).value args s none s [] = some true) : t.eval args s none [] s = some (.int c) := by
  obtain ⟨x, y, ex, ey, kx, ky⟩ := cmp_v (Or.inl h)
  have ey' : (Term.int c).eval args s none [] s = some (.int c) := Term.int_eval c
  cases ey.symm.trans ey'
  obtain ⟨z, rfl⟩ := ky
  simp only [Cond.value, ex, ey'] at h
  rw [ex]
  simpa using h
theorem own_len {args : Array Value} {s : State} {t : Term} {a : Addr} {cl : Cell} {ty : FieldType} {z : Int32} (h : (Jvm.Cond.eq (Term.length t) (Term.int z)).value args s none s [] = some true) (ev : t.eval args s none [] s = some (.ref a)) (A : Arr s s.heap a cl ty) : cl.slots.size < 2 ^ 31 ∧ cl.slots.size.toInt32 = z := by
  have ha : s.arrayAt? a = some cl := A.fin (Vm.Alike.refl _)
  have q := own_eqi h
  simp [Term.eval, ev, ha] at q
  exact q
theorem own_el {args : Array Value} {s : State} {t : Term} {a : Addr} {cl : Cell} {ty : FieldType} {j c : Int32} (h : (Jvm.Cond.eq (Term.elem t (Term.int j)) (Term.int c)).value args s none s [] = some true) (ev : t.eval args s none [] s = some (.ref a)) (A : Arr s s.heap a cl ty) : cl.slots[j.toNatClampNeg]? = some (.int c) := (elem_in (own_eqi h) ev (Term.int_eval j) A.1).2
set_option maxRecDepth 65536 in
set_option maxHeartbeats 40000000 in
theorem comes_1 {Post : Tables → Env → Array Value → State → Outcome → State → Prop} (hpost : ∀ tb e args s v u, (limb_1_1.after args s (.returned v) u = true ∧ limb_1_2.after args s (.returned v) u = true ∧ True) → FramedW s (.returned v) u (Jvm.fieldLocs frame_1_writes args s ++ Jvm.arrayLocs frame_1_arrays args s ++ Jvm.staticLocs frame_1_statics s) 48 4288 → Post tb e args s (.returned v) u) :
    ArmFor flags0 classFile x code maxLocals ret World_1 tables_1 room_1 Calls_1 rest_1 Pre_1 Post := by
  intro l hfl _ _ p e ha hc hk s m args below hf hA hF happ hP
  obtain ⟨hcalls, hrest, hpre⟩ := hP
  obtain ⟨-, -, -, hnamed, -, -, -, hat⟩ := (Spec.applies_iff hf).mp happ
  obtain ⟨hg, hn⟩ := and_e (Cond.before_iff.mp (show (Jvm.Cond.and given_1 narrow_1).before args s = true from hpre))
  obtain ⟨hg0, hg⟩ := and_e hg
  obtain ⟨hg1, hg⟩ := and_e hg
  obtain ⟨hg2, hg⟩ := and_e hg
  obtain ⟨hg3, hg⟩ := and_e hg
  obtain ⟨hg4, hg⟩ := and_e hg
  have hg5 := hg
  obtain ⟨w0, w1, w2, w3, w4, rfl⟩ : ∃ w0 w1 w2 w3 w4 : Value, args = #[w0, w1, w2, w3, w4] := by
    have hs : args.size = 5 := by simpa [Cond.value, given_1] using hg0
    obtain ⟨L⟩ := args
    match L, hs with
    | [w0, w1, w2, w3, w4], _ => exact ⟨w0, w1, w2, w3, w4, rfl⟩
  have hw := fun d (hd : d ∈ tables_1) => atoms_spec (ws := Jvm.Cond.code x code maxLocals ret :: tables_1) hat d (List.mem_cons_of_mem _ hd)
  have hfit : Fit s := fun {y c} hc i hi => by
    obtain ⟨ha, rfl⟩ := Array.getElem?_eq_some_iff.mp hc
    have q := List.all_eq_true.mp ((Array.all_eq_true_iff_forall_mem.mp hF) _ (Array.getElem_mem ha)) i (List.mem_range.mpr hi)
    simpa [Array.getElem?_eq_getElem hi] using q
  obtain ⟨hsets, hown0⟩ := atoms_of _ (rest_1_c_eq ▸ (show rest_1_c.before _ s = true from hrest))
  have hr0 := Cond.before_iff.mp hown0
  obtain ⟨i0, ei0⟩ := is_v hg1
  obtain rfl : w0 = (.int i0) := Option.some.inj ei0
  obtain ⟨i1, ei1⟩ := is_v hg2
  obtain rfl : w1 = (.int i1) := Option.some.inj ei1
  obtain ⟨i2, ei2⟩ := is_v hg3
  obtain rfl : w2 = (.int i2) := Option.some.inj ei2
  obtain ⟨i3, ei3⟩ := is_v hg4
  obtain rfl : w3 = (.int i3) := Option.some.inj ei3
  obtain ⟨i4, ei4⟩ := is_v hg5
  obtain rfl : w4 = (.int i4) := Option.some.inj ei4
  obtain ⟨n0, hn⟩ := and_e hn
  obtain ⟨n1, hn⟩ := and_e hn
  obtain ⟨n2, hn⟩ := and_e hn
  obtain ⟨n3, hn⟩ := and_e hn
  obtain ⟨n4, hn⟩ := and_e hn
  obtain ⟨n5, hn⟩ := and_e hn
  obtain ⟨n6, hn⟩ := and_e hn
  obtain ⟨n7, hn⟩ := and_e hn
  obtain ⟨n8, hn⟩ := and_e hn
  obtain ⟨n9, hn⟩ := and_e hn
  obtain ⟨n10, hn⟩ := and_e hn
  obtain ⟨n11, hn⟩ := and_e hn
  obtain ⟨n12, hn⟩ := and_e hn
  obtain ⟨n13, hn⟩ := and_e hn
  obtain ⟨n14, hn⟩ := and_e hn
  obtain ⟨n15, hn⟩ := and_e hn
  obtain ⟨n16, hn⟩ := and_e hn
  obtain ⟨n17, hn⟩ := and_e hn
  obtain ⟨n18, hn⟩ := and_e hn
  obtain ⟨n19, hn⟩ := and_e hn
  obtain ⟨n20, hn⟩ := and_e hn
  obtain ⟨n21, hn⟩ := and_e hn
  obtain ⟨n22, hn⟩ := and_e hn
  obtain ⟨n23, hn⟩ := and_e hn
  obtain ⟨n24, hn⟩ := and_e hn
  obtain ⟨n25, hn⟩ := and_e hn
  obtain ⟨n26, hn⟩ := and_e hn
  obtain ⟨n27, hn⟩ := and_e hn
  obtain ⟨n28, hn⟩ := and_e hn
  obtain ⟨n29, hn⟩ := and_e hn
  obtain ⟨n30, hn⟩ := and_e hn
  obtain ⟨n31, hn⟩ := and_e hn
  obtain ⟨n32, hn⟩ := and_e hn
  obtain ⟨n33, hn⟩ := and_e hn
  obtain ⟨n34, hn⟩ := and_e hn
  obtain ⟨n35, hn⟩ := and_e hn
  obtain ⟨n36, hn⟩ := and_e hn
  obtain ⟨n37, hn⟩ := and_e hn
  obtain ⟨n38, hn⟩ := and_e hn
  obtain ⟨n39, hn⟩ := and_e hn
  obtain ⟨n40, hn⟩ := and_e hn
  obtain ⟨n41, hn⟩ := and_e hn
  obtain ⟨n42, hn⟩ := and_e hn
  have n43 := hn
  obtain ⟨kd_sh, ev_sh⟩ := exa_v n0
  have E_sh := Exa.start ev_sh n0
  have S_sh : Sta s s.heap "com/example/verdict_ladder/verdictladder/lint/Finding$Kind" "SHADOWED" "Lcom/example/verdict_ladder/verdictladder/lint/Finding$Kind;" (.ref kd_sh) := Sta.start ev_sh (Or.inr ⟨(hw _ (List.mem_of_getElem? (i := 2) rfl)), (hw _ (List.mem_of_getElem? (i := 3) rfl))⟩)
  obtain ⟨tk_sh, et_sh⟩ := exa_v n1
  have T_sh := Exa.start et_sh n1
  have F_sh : Fld s s.heap kd_sh "com/example/verdict_ladder/verdictladder/lint/Finding$Kind" "token" "Ljava/lang/String;" (.ref tk_sh) := Fld.start (by rw [← fld_at ev_sh]; exact et_sh)
  have C_sh := own_fld n2 et_sh
  obtain ⟨bt_sh, eb_sh⟩ := arr_v n3
  obtain ⟨cb_sh, A_sh⟩ := Arr.start eb_sh n3
  have G_sh : Fld s s.heap tk_sh "java/lang/String" "value" "[B" (.ref bt_sh) := Fld.start (by rw [← fld_at et_sh]; exact eb_sh)
  have l_sh := own_len n4 eb_sh A_sh
  have V_sh : Arv s s.heap bt_sh cb_sh.cls .byte (8 : Int32) [(.int (115 : Int32)), (.int (104 : Int32)), (.int (97 : Int32)), (.int (100 : Int32)), (.int (111 : Int32)), (.int (119 : Int32)), (.int (101 : Int32)), (.int (100 : Int32))] (.int 0) := Arv.start hfit A_sh l_sh.1 l_sh.2 (by decide) rfl ⟨own_el n15 eb_sh A_sh, own_el n16 eb_sh A_sh, own_el n17 eb_sh A_sh, own_el n18 eb_sh A_sh, own_el n19 eb_sh A_sh, own_el n20 eb_sh A_sh, own_el n21 eb_sh A_sh, own_el n22 eb_sh A_sh, trivial⟩
  have KP_sh : own_K s s.heap kd_sh tk_sh bt_sh cb_sh.cls own_sh := ⟨E_sh, F_sh, T_sh, C_sh, G_sh, V_sh⟩
  obtain ⟨kd_bo, ev_bo⟩ := exa_v n5
  have E_bo := Exa.start ev_bo n5
  have S_bo : Sta s s.heap "com/example/verdict_ladder/verdictladder/lint/Finding$Kind" "BOTH_LISTS" "Lcom/example/verdict_ladder/verdictladder/lint/Finding$Kind;" (.ref kd_bo) := Sta.start ev_bo (Or.inr ⟨(hw _ (List.mem_of_getElem? (i := 2) rfl)), (hw _ (List.mem_of_getElem? (i := 134) rfl))⟩)
  obtain ⟨tk_bo, et_bo⟩ := exa_v n6
  have T_bo := Exa.start et_bo n6
  have F_bo : Fld s s.heap kd_bo "com/example/verdict_ladder/verdictladder/lint/Finding$Kind" "token" "Ljava/lang/String;" (.ref tk_bo) := Fld.start (by rw [← fld_at ev_bo]; exact et_bo)
  have C_bo := own_fld n7 et_bo
  obtain ⟨bt_bo, eb_bo⟩ := arr_v n8
  obtain ⟨cb_bo, A_bo⟩ := Arr.start eb_bo n8
  have G_bo : Fld s s.heap tk_bo "java/lang/String" "value" "[B" (.ref bt_bo) := Fld.start (by rw [← fld_at et_bo]; exact eb_bo)
  have l_bo := own_len n9 eb_bo A_bo
  have V_bo : Arv s s.heap bt_bo cb_bo.cls .byte (10 : Int32) [(.int (98 : Int32)), (.int (111 : Int32)), (.int (116 : Int32)), (.int (104 : Int32)), (.int (45 : Int32)), (.int (108 : Int32)), (.int (105 : Int32)), (.int (115 : Int32)), (.int (116 : Int32)), (.int (115 : Int32))] (.int 0) := Arv.start hfit A_bo l_bo.1 l_bo.2 (by decide) rfl ⟨own_el n23 eb_bo A_bo, own_el n24 eb_bo A_bo, own_el n25 eb_bo A_bo, own_el n26 eb_bo A_bo, own_el n27 eb_bo A_bo, own_el n28 eb_bo A_bo, own_el n29 eb_bo A_bo, own_el n30 eb_bo A_bo, own_el n31 eb_bo A_bo, own_el n32 eb_bo A_bo, trivial⟩
  have KP_bo : own_K s s.heap kd_bo tk_bo bt_bo cb_bo.cls own_bo := ⟨E_bo, F_bo, T_bo, C_bo, G_bo, V_bo⟩
  obtain ⟨kd_un, ev_un⟩ := exa_v n10
  have E_un := Exa.start ev_un n10
  have S_un : Sta s s.heap "com/example/verdict_ladder/verdictladder/lint/Finding$Kind" "UNREACHABLE" "Lcom/example/verdict_ladder/verdictladder/lint/Finding$Kind;" (.ref kd_un) := Sta.start ev_un (Or.inr ⟨(hw _ (List.mem_of_getElem? (i := 2) rfl)), (hw _ (List.mem_of_getElem? (i := 165) rfl))⟩)
  obtain ⟨tk_un, et_un⟩ := exa_v n11
  have T_un := Exa.start et_un n11
  have F_un : Fld s s.heap kd_un "com/example/verdict_ladder/verdictladder/lint/Finding$Kind" "token" "Ljava/lang/String;" (.ref tk_un) := Fld.start (by rw [← fld_at ev_un]; exact et_un)
  have C_un := own_fld n12 et_un
  obtain ⟨bt_un, eb_un⟩ := arr_v n13
  obtain ⟨cb_un, A_un⟩ := Arr.start eb_un n13
  have G_un : Fld s s.heap tk_un "java/lang/String" "value" "[B" (.ref bt_un) := Fld.start (by rw [← fld_at et_un]; exact eb_un)
  have l_un := own_len n14 eb_un A_un
  have V_un : Arv s s.heap bt_un cb_un.cls .byte (11 : Int32) [(.int (117 : Int32)), (.int (110 : Int32)), (.int (114 : Int32)), (.int (101 : Int32)), (.int (97 : Int32)), (.int (99 : Int32)), (.int (104 : Int32)), (.int (97 : Int32)), (.int (98 : Int32)), (.int (108 : Int32)), (.int (101 : Int32))] (.int 0) := Arv.start hfit A_un l_un.1 l_un.2 (by decide) rfl ⟨own_el n33 eb_un A_un, own_el n34 eb_un A_un, own_el n35 eb_un A_un, own_el n36 eb_un A_un, own_el n37 eb_un A_un, own_el n38 eb_un A_un, own_el n39 eb_un A_un, own_el n40 eb_un A_un, own_el n41 eb_un A_un, own_el n42 eb_un A_un, own_el n43 eb_un A_un, trivial⟩
  have KP_un : own_K s s.heap kd_un tk_un bt_un cb_un.cls own_un := ⟨E_un, F_un, T_un, C_un, G_un, V_un⟩
  have z3 := not_v (Cond.before_iff.mp (hsets _ (List.mem_of_getElem? (i := 2) rfl)))
  obtain ⟨i7, z6⟩ := is_v (Cond.before_iff.mp (hsets _ (List.mem_of_getElem? (i := 1) rfl)))
  have S8 : Sta s s.heap "java/lang/String" "COMPACT_STRINGS" "Z" (.int i7) := Sta.start z6 (Or.inl (hsets _ (List.mem_of_getElem? (i := 0) rfl)))
  have c9 : ¬ (i7 = (0 : Int32)) := gotF (Cond.eq_ints z6 (Term.int_eval (0))) z3
  obtain ⟨el, ev_el⟩ := exa_v (Cond.before_iff.mp (hsets _ (List.mem_of_getElem? (i := 11) rfl)))
  have E_el := Exa.start ev_el (Cond.before_iff.mp (hsets _ (List.mem_of_getElem? (i := 11) rfl)))
  have S_el : Sta s s.heap "java/util/ImmutableCollections" "EMPTY_LIST" "Ljava/util/ImmutableCollections$ListN;" (.ref el) := Sta.start ev_el (Or.inl (hsets _ (List.mem_of_getElem? (i := 10) rfl)))
  obtain ⟨ea, ev_ea⟩ := arr_v (Cond.before_iff.mp (hsets _ (List.mem_of_getElem? (i := 12) rfl)))
  obtain ⟨ca, A_ea⟩ := Arr.start ev_ea (Cond.before_iff.mp (hsets _ (List.mem_of_getElem? (i := 12) rfl)))
  have F_el : Fld s s.heap el "java/util/ImmutableCollections$ListN" "elements" "[Ljava/lang/Object;" (.ref ea) := Fld.start (by rw [← fld_at ev_el]; exact ev_ea)
  have l_ea := own_len (Cond.before_iff.mp (hsets _ (List.mem_of_getElem? (i := 14) rfl))) ev_ea A_ea
  have V_ea : Arv s s.heap ea ca.cls (.object "java/lang/Object") 0 [] .null := Arv.start hfit A_ea l_ea.1 l_ea.2 (by decide) rfl trivial
  obtain ⟨em, ev_em⟩ := exa_v (Cond.before_iff.mp (hsets _ (List.mem_of_getElem? (i := 18) rfl)))
  have E_em := Exa.start ev_em (Cond.before_iff.mp (hsets _ (List.mem_of_getElem? (i := 18) rfl)))
  have S_em : Sta s s.heap "java/util/ImmutableCollections" "EMPTY" "Ljava/lang/Object;" (.ref em) := Sta.start ev_em (Or.inl (hsets _ (List.mem_of_getElem? (i := 17) rfl)))
  have hch0 : CHv s consts_1 s.vm s.heap := CHv.start (own_EL hw) (fun p hp => hcalls.1 p hp) (hsets _ (List.mem_of_getElem? (i := 2) rfl)) (hw _ (List.mem_of_getElem? (i := 7) rfl)) (hw _ (List.mem_of_getElem? (i := 6) rfl))
  obtain ⟨n, o, h1, h2, h3, _, L, rfl, ⟨rfl, N⟩, hq⟩ := rm_law l s _ hw tables_1 i0 i1 i2 i3 i4 i7 kd_sh tk_sh bt_sh cb_sh.cls kd_un tk_un bt_un cb_un.cls kd_bo tk_bo bt_bo cb_bo.cls el ea em ca.cls s.heap s.heap.size (Nat.le_refl _) (Old.start s) S8 c9 S_sh KP_sh S_un KP_un S_bo KP_bo S_el E_el F_el V_ea S_em E_em p e ha hc hk s m _ below hf ((Spec.applies_iff_loose hf).mp happ).1 ⟨rfl, State.Warmed39.refl s, rfl, hch0⟩ trivial
  refine ⟨n, _, h1, h2, h3, hpost _ _ _ _ _ _ ⟨Cond.after_iff.mpr rfl, Cond.after_iff.mpr (eq_i res_at (Term.int_eval (1)) rfl), trivial⟩ ⟨hq.1, hq.2.1, hq.2.2.1, (hq.2.2.2.sift fun y hy => Or.inr (N y hy)).mono (by decide) (by decide)⟩⟩
theorem main_1_1 : Claimed_1_1 := comes_1 fun _ _ _ _ _ _ h hF => ⟨h.1, hF⟩
theorem main_1_2 : Claimed_1_2 := comes_1 fun _ _ _ _ _ _ h hF => ⟨h.2.1, hF⟩
end Jvm.Pilot.@@N@@
namespace Jvm.Pilot.@@N@@
open Jvm Jvm.ClassFile Sem Op Lib Jvm.Free Jvm.Stand Jvm.Pilot.@@N@@.Jvm.D
/-! MADE BY PROGRAM (witnessworld.py) out of the Statement's table words and the real class files: 36 classes; the members and pool entries that the words name. The judged class is class 1, her method 3. -/
namespace start1
open Jvm.ClassFile
def u (s : String) : CpInfo := .utf8 (stringToUtf16 s)
/-- a pool by its gaps: so many unusable entries, then the entry; so many at the end -/
def gap : Nat → List CpInfo → List CpInfo
  | 0, r => r
  | n + 1, r => .unusable :: gap n r
def poolList (es : List (Nat × CpInfo)) (last : Nat) : List CpInfo := es.foldr (fun e r => gap e.1 (e.2 :: r)) (gap last [])
def pool (es : List (Nat × CpInfo)) (last : Nat) : Array CpInfo := ⟨poolList es last⟩
def fileOf (pool : Array CpInfo) (this : Nat) (attrs : Array Attribute := #[]) (ms : Array MethodInfo := #[]) (fl : Nat := 33) (sup : Nat := 0) (ifs : Array Nat := #[]) (fds : Array FieldInfo := #[]) : ClassFile where
  minorVersion := 0
  majorVersion := 65
  constantPool := pool
  accessFlags := fl
  thisClass := this
  superClass := sup
  interfaces := ifs
  fields := fds
  methods := ms
  attributes := attrs
def plain (name : String) (sup : Option ClassId) : Class where
  name := name
  kind := .ordinary
  loader := none
  accessFlags := 33
  super := sup
  interfaces := #[]
  cf := none
  fields := #[]
  methods := #[]
  instanceTypes := #[]
  staticTypes := #[]
  resolved := #[]
  callSites := []
  init := .initialized
  statics := none
  mirror := none

def pool0 : Array CpInfo := pool [(5, u "<init>"), (0, u "()V"), (1, .class_ 10), (1, u "java/lang/Object")] 113

def k0c0 : Code := { maxStack := 0, maxLocals := 1, code := object_method_1_code, exceptionTable := #[], attributes := #[] }
def k0m0 : Method := { name := "<init>", desc := "()V", sig := { parameters := [], returnType := none }, accessFlags := 1, code := some k0c0 }
/-- java/lang/Object -/
def k0 : Class := { plain "java/lang/Object" none with
  accessFlags := 33
  interfaces := #[]
  cf := some (fileOf pool0 8 #[] #[{ accessFlags := 1, nameIndex := 5, descriptorIndex := 6, attributes := #[] }] 33 0 #[] #[])
  fields := #[]
  methods := #[k0m0]
  instanceTypes := #[]
  staticTypes := #[]
  resolved := Array.replicate 124 none
  statics := none }

def pool1 : Array CpInfo := pool [(2, .class_ 4), (1, u "java/lang/Object"), (0, u "<init>"), (0, u "()V"), (0, .class_ 8), (0, u "java/lang/String"), (0, .methodref 7 10), (0, .nameAndType 5 11), (0, u "([C)V"), (0, .methodref 7 13), (0, .nameAndType 14 15), (0, u "valueOf"), (0, u "(C)Ljava/lang/String;"), (0, .methodref 7 17), (0, .nameAndType 18 19), (0, u "equals"), (0, u "(Ljava/lang/Object;)Z"), (0, .integer 2147483647), (0, .fieldref 22 23), (0, .class_ 24), (0, .nameAndType 25 26), (0, u "com/example/verdict_ladder/verdictladder/lint/Finding$Kind"), (0, u "SHADOWED"), (0, u "Lcom/example/verdict_ladder/verdictladder/lint/Finding$Kind;"), (0, .string 28), (0, u "shadowed"), (0, .fieldref 22 30), (0, .nameAndType 31 26), (0, u "UNREACHABLE"), (0, .string 33), (0, u "unreachable"), (0, .fieldref 22 35), (0, .nameAndType 36 26), (0, u "BOTH_LISTS"), (0, .string 38), (0, u "both-lists"), (0, .methodref 40 41), (0, .class_ 42), (0, .nameAndType 43 44), (0, u "com/example/verdict_ladder/verdictladder/lint/FindingLinePinLaw"), (0, u "str"), (0, u "(I)Ljava/lang/String;"), (0, .class_ 46), (0, u "com/example/verdict_ladder/verdictladder/lint/Finding"), (0, .methodref 45 48), (0, .nameAndType 5 49), (0, u "(Lcom/example/verdict_ladder/verdictladder/lint/Finding$Kind;[Ljava/lang/String;)V"), (0, .methodref 45 51), (0, .nameAndType 52 53), (0, u "line"), (0, u "()[Ljava/lang/String;"), (0, .methodref 40 55), (0, .nameAndType 56 57), (0, u "matches"), (0, u "([Ljava/lang/String;ILjava/lang/String;Ljava/lang/String;Ljava/lang/String;Ljava/lang/String;)Z"), (3, u "law"), (0, u "(IIIII)Z")] 6

def k1m0 : Method := { name := "<init>", desc := "()V", sig := { parameters := [], returnType := none }, accessFlags := 1, code := none }
def k1c1 : Code := { maxStack := 6, maxLocals := 4, code := method_2_code, exceptionTable := #[], attributes := #[] }
def k1m1 : Method := { name := "str", desc := "(I)Ljava/lang/String;", sig := { parameters := [.int], returnType := some (.object "java/lang/String") }, accessFlags := 10, code := some k1c1 }
def k1c2 : Code := { maxStack := 3, maxLocals := 6, code := method_3_code, exceptionTable := #[], attributes := #[] }
def k1m2 : Method := { name := "matches", desc := "([Ljava/lang/String;ILjava/lang/String;Ljava/lang/String;Ljava/lang/String;Ljava/lang/String;)Z", sig := { parameters := [(.array (.object "java/lang/String")), .int, (.object "java/lang/String"), (.object "java/lang/String"), (.object "java/lang/String"), (.object "java/lang/String")], returnType := some .boolean }, accessFlags := 10, code := some k1c2 }
def k1c3 : Code := { maxStack := 6, maxLocals := 16, code := code, exceptionTable := #[], attributes := #[] }
def k1m3 : Method := { name := "law", desc := "(IIIII)Z", sig := { parameters := [.int, .int, .int, .int, .int], returnType := some .boolean }, accessFlags := 9, code := some k1c3 }
/-- com/example/verdict_ladder/verdictladder/lint/FindingLinePinLaw -/
def k1 : Class := { plain "com/example/verdict_ladder/verdictladder/lint/FindingLinePinLaw" (some 0) with
  accessFlags := 49
  interfaces := #[]
  cf := some (fileOf pool1 40 #[] #[{ accessFlags := 1, nameIndex := 5, descriptorIndex := 6, attributes := #[] }, { accessFlags := 10, nameIndex := 43, descriptorIndex := 44, attributes := #[] }, { accessFlags := 10, nameIndex := 56, descriptorIndex := 57, attributes := #[] }, { accessFlags := 9, nameIndex := 61, descriptorIndex := 62, attributes := #[] }] 49 2 #[] #[])
  fields := #[]
  methods := #[k1m0, k1m1, k1m2, k1m3]
  instanceTypes := #[]
  staticTypes := #[]
  resolved := Array.replicate 69 none
  statics := none }

def pool2 : Array CpInfo := pool [(1, .class_ 2), (0, u "java/lang/constant/Constable"), (0, .class_ 4), (0, u "java/lang/Object")] 6

/-- java/lang/constant/Constable -/
def k2 : Class := { plain "java/lang/constant/Constable" (some 0) with
  accessFlags := 1537
  interfaces := #[]
  cf := some (fileOf pool2 1 #[] #[] 1537 3 #[] #[])
  fields := #[]
  methods := #[]
  instanceTypes := #[]
  staticTypes := #[]
  resolved := Array.replicate 11 none
  statics := none }

def pool3 : Array CpInfo := pool [(1, .class_ 2), (0, u "java/lang/Comparable"), (0, .class_ 4), (0, u "java/lang/Object")] 7

/-- java/lang/Comparable -/
def k3 : Class := { plain "java/lang/Comparable" (some 0) with
  accessFlags := 1537
  interfaces := #[]
  cf := some (fileOf pool3 1 #[] #[] 1537 3 #[] #[])
  fields := #[]
  methods := #[]
  instanceTypes := #[]
  staticTypes := #[]
  resolved := Array.replicate 12 none
  statics := none }

def pool4 : Array CpInfo := pool [(1, .class_ 2), (0, u "java/io/Serializable"), (0, .class_ 4), (0, u "java/lang/Object")] 2

/-- java/io/Serializable -/
def k4 : Class := { plain "java/io/Serializable" (some 0) with
  accessFlags := 1537
  interfaces := #[]
  cf := some (fileOf pool4 1 #[] #[] 1537 3 #[] #[])
  fields := #[]
  methods := #[]
  instanceTypes := #[]
  staticTypes := #[]
  resolved := Array.replicate 7 none
  statics := none }

def pool5 : Array CpInfo := pool [(2, .class_ 4), (1, u "java/lang/Enum"), (0, u "name"), (0, u "Ljava/lang/String;"), (2, u "ordinal"), (0, u "I"), (1, .class_ 14), (1, u "java/lang/Object"), (4, u "hash"), (86, .class_ 108), (1, u "java/lang/Enum$EnumDesc"), (2, .class_ 112), (0, u "java/lang/constant/Constable"), (0, .class_ 114), (0, u "java/lang/Comparable"), (0, .class_ 116), (0, u "java/io/Serializable")] 87

/-- java/lang/Enum -/
def k5 : Class := { plain "java/lang/Enum" (some 0) with
  accessFlags := 1057
  interfaces := #[2, 3, 4]
  cf := some (fileOf pool5 2 #[.nestMembers #[106]] #[] 1057 12 #[111, 113, 115] #[{ accessFlags := 18, nameIndex := 5, descriptorIndex := 6, attributes := #[] }, { accessFlags := 18, nameIndex := 9, descriptorIndex := 10, attributes := #[] }, { accessFlags := 2, nameIndex := 19, descriptorIndex := 10, attributes := #[] }])
  fields := #[{ name := "name", type := (.object "java/lang/String"), accessFlags := 18, slot := 0, constantValue := 0 }, { name := "ordinal", type := .int, accessFlags := 18, slot := 1, constantValue := 0 }, { name := "hash", type := .int, accessFlags := 2, slot := 2, constantValue := 0 }]
  methods := #[]
  instanceTypes := #[(.object "java/lang/String"), .int, .int]
  staticTypes := #[]
  resolved := Array.replicate 204 none
  statics := none }

def pool6 : Array CpInfo := pool [(1, .class_ 2), (0, u "com/example/verdict_ladder/verdictladder/lint/Finding$Kind"), (2, u "SHADOWED"), (0, u "Lcom/example/verdict_ladder/verdictladder/lint/Finding$Kind;"), (2, u "UNREACHABLE"), (2, u "BOTH_LISTS"), (2, u "$VALUES"), (0, u "[Lcom/example/verdict_ladder/verdictladder/lint/Finding$Kind;"), (6, .class_ 25), (1, u "java/lang/Enum"), (6, .fieldref 1 33), (0, .nameAndType 34 35), (0, u "token"), (0, u "Ljava/lang/String;"), (23, u "()Ljava/lang/String;"), (6, .class_ 67), (0, u "com/example/verdict_ladder/verdictladder/lint/Finding")] 2

def k6c0 : Code := { maxStack := 1, maxLocals := 1, code := prog_17_method_4_code, exceptionTable := #[], attributes := #[] }
def k6m0 : Method := { name := "token", desc := "()Ljava/lang/String;", sig := { parameters := [], returnType := some (.object "java/lang/String") }, accessFlags := 1, code := some k6c0 }
/-- com/example/verdict_ladder/verdictladder/lint/Finding$Kind -/
def k6 : Class := { plain "com/example/verdict_ladder/verdictladder/lint/Finding$Kind" (some 5) with
  accessFlags := 16433
  interfaces := #[]
  cf := some (fileOf pool6 1 #[.nestHost 66] #[{ accessFlags := 1, nameIndex := 34, descriptorIndex := 59, attributes := #[] }] 16433 23 #[] #[{ accessFlags := 16409, nameIndex := 5, descriptorIndex := 6, attributes := #[] }, { accessFlags := 16409, nameIndex := 9, descriptorIndex := 6, attributes := #[] }, { accessFlags := 16409, nameIndex := 12, descriptorIndex := 6, attributes := #[] }, { accessFlags := 18, nameIndex := 34, descriptorIndex := 35, attributes := #[] }, { accessFlags := 4122, nameIndex := 15, descriptorIndex := 16, attributes := #[] }])
  fields := #[{ name := "SHADOWED", type := (.object "com/example/verdict_ladder/verdictladder/lint/Finding$Kind"), accessFlags := 16409, slot := 0, constantValue := 0 }, { name := "UNREACHABLE", type := (.object "com/example/verdict_ladder/verdictladder/lint/Finding$Kind"), accessFlags := 16409, slot := 1, constantValue := 0 }, { name := "BOTH_LISTS", type := (.object "com/example/verdict_ladder/verdictladder/lint/Finding$Kind"), accessFlags := 16409, slot := 2, constantValue := 0 }, { name := "token", type := (.object "java/lang/String"), accessFlags := 18, slot := 3, constantValue := 0 }, { name := "$VALUES", type := (.array (.object "com/example/verdict_ladder/verdictladder/lint/Finding$Kind")), accessFlags := 4122, slot := 3, constantValue := 0 }]
  methods := #[k6m0]
  instanceTypes := #[(.object "java/lang/String"), .int, .int, (.object "java/lang/String")]
  staticTypes := #[(.object "com/example/verdict_ladder/verdictladder/lint/Finding$Kind"), (.object "com/example/verdict_ladder/verdictladder/lint/Finding$Kind"), (.object "com/example/verdict_ladder/verdictladder/lint/Finding$Kind"), (.array (.object "com/example/verdict_ladder/verdictladder/lint/Finding$Kind"))]
  resolved := Array.replicate 70 none
  statics := some 0 }

def pool7 : Array CpInfo := pool [(2, .class_ 4), (1, u "java/lang/CharSequence"), (42, .class_ 48), (0, u "java/lang/CharSequence$1CodePointIterator"), (10, .class_ 60), (0, u "java/lang/CharSequence$1CharIterator"), (5, .class_ 67), (0, u "java/lang/Object")] 63

/-- java/lang/CharSequence -/
def k7 : Class := { plain "java/lang/CharSequence" (some 0) with
  accessFlags := 1537
  interfaces := #[]
  cf := some (fileOf pool7 2 #[.nestMembers #[47, 59]] #[] 1537 66 #[] #[])
  fields := #[]
  methods := #[]
  instanceTypes := #[]
  staticTypes := #[]
  resolved := Array.replicate 131 none
  statics := none }

def pool8 : Array CpInfo := pool [(1, .class_ 2), (0, u "java/lang/constant/ConstantDesc"), (0, .class_ 4), (0, u "java/lang/Object")] 32

/-- java/lang/constant/ConstantDesc -/
def k8 : Class := { plain "java/lang/constant/ConstantDesc" (some 0) with
  accessFlags := 1537
  interfaces := #[]
  cf := some (fileOf pool8 1 #[] #[] 1537 3 #[] #[])
  fields := #[]
  methods := #[]
  instanceTypes := #[]
  staticTypes := #[]
  resolved := Array.replicate 37 none
  statics := none }

def pool9 : Array CpInfo := pool [(1, .methodref 2 3), (0, .class_ 4), (0, .nameAndType 5 6), (0, u "java/lang/Object"), (0, u "<init>"), (0, u "()V"), (0, .string 8), (0, u ""), (0, .fieldref 10 11), (0, .class_ 12), (0, .nameAndType 13 14), (0, u "java/lang/String"), (0, u "value"), (0, u "[B"), (0, .fieldref 10 16), (0, .nameAndType 17 18), (0, u "coder"), (0, u "B"), (2, u "hash"), (0, u "I"), (2, u "hashIsZero"), (0, u "Z"), (0, .methodref 10 28), (0, .nameAndType 5 29), (0, u "([CIILjava/lang/Void;)V"), (8, .fieldref 10 39), (0, .nameAndType 40 26), (0, u "COMPACT_STRINGS"), (1, .class_ 44), (1, u "java/lang/StringUTF16"), (0, u "compress"), (1, .methodref 42 48), (0, .nameAndType 49 50), (0, u "coderFromArrayLen"), (0, u "([BI)B"), (2, u "toBytes"), (53, .class_ 109), (1, u "java/lang/StringLatin1"), (67, .methodref 42 178), (0, .nameAndType 45 179), (0, u "([CII)[B"), (29, .methodref 10 210), (0, .nameAndType 5 211), (0, u "([BB)V"), (157, u "(C)Z"), (171, .methodref 107 542), (0, .nameAndType 543 544), (0, u "equals"), (0, u "([B[B)Z"), (28, u "(Ljava/lang/Object;)Z"), (1, .class_ 576), (0, u "java/lang/CharSequence"), (22, u "CASE_INSENSITIVE_ORDER"), (0, u "Ljava/util/Comparator;"), (181, u "valueOf"), (0, u "(C)Ljava/lang/String;"), (226, u "([C)V"), (4, .methodref 107 1016), (0, .nameAndType 1017 369), (0, u "canEncode"), (0, .methodref 107 1019), (0, .nameAndType 53 1020), (0, u "(C)[B"), (80, u "serialPersistentFields"), (0, u "[Ljava/io/ObjectStreamField;"), (0, .class_ 1104), (0, u "java/lang/String$CaseInsensitiveComparator"), (1, .class_ 1107), (0, u "java/io/Serializable"), (0, .class_ 1109), (0, u "java/lang/Comparable"), (0, .class_ 1111), (0, u "java/lang/constant/Constable"), (0, .class_ 1113), (0, u "java/lang/constant/ConstantDesc"), (2, u "serialVersionUID"), (0, u "J"), (3, u "REPL"), (0, u "C"), (2, u "LATIN1"), (1, u "UTF16")] 323

def k9m0 : Method := { name := "<init>", desc := "()V", sig := { parameters := [], returnType := none }, accessFlags := 1, code := none }
def k9c1 : Code := { maxStack := 5, maxLocals := 2, code := jdk_42_method_3_code, exceptionTable := #[], attributes := #[] }
def k9m1 : Method := { name := "<init>", desc := "([C)V", sig := { parameters := [(.array .char)], returnType := none }, accessFlags := 1, code := some k9c1 }
def k9c2 : Code := { maxStack := 2, maxLocals := 3, code := jdk_42_method_66_code, exceptionTable := #[], attributes := #[] }
def k9m2 : Method := { name := "equals", desc := "(Ljava/lang/Object;)Z", sig := { parameters := [(.object "java/lang/Object")], returnType := some .boolean }, accessFlags := 1, code := some k9c2 }
def k9c3 : Code := { maxStack := 4, maxLocals := 1, code := jdk_42_method_139_code, exceptionTable := #[], attributes := #[] }
def k9m3 : Method := { name := "valueOf", desc := "(C)Ljava/lang/String;", sig := { parameters := [.char], returnType := some (.object "java/lang/String") }, accessFlags := 9, code := some k9c3 }
def k9c4 : Code := { maxStack := 4, maxLocals := 6, code := jdk_42_method_149_code, exceptionTable := #[], attributes := #[] }
def k9m4 : Method := { name := "<init>", desc := "([CIILjava/lang/Void;)V", sig := { parameters := [(.array .char), .int, .int, (.object "java/lang/Void")], returnType := none }, accessFlags := 2, code := some k9c4 }
def k9c5 : Code := { maxStack := 2, maxLocals := 3, code := jdk_42_method_151_code, exceptionTable := #[], attributes := #[] }
def k9m5 : Method := { name := "<init>", desc := "([BB)V", sig := { parameters := [(.array .byte), .byte], returnType := none }, accessFlags := 0, code := some k9c5 }
/-- java/lang/String -/
def k9 : Class := { plain "java/lang/String" (some 0) with
  accessFlags := 49
  interfaces := #[4, 3, 7, 2, 8]
  cf := some (fileOf pool9 10 #[.nestMembers #[1103]] #[{ accessFlags := 1, nameIndex := 5, descriptorIndex := 6, attributes := #[] }, { accessFlags := 1, nameIndex := 5, descriptorIndex := 1010, attributes := #[] }, { accessFlags := 1, nameIndex := 543, descriptorIndex := 573, attributes := #[] }, { accessFlags := 9, nameIndex := 782, descriptorIndex := 783, attributes := #[] }, { accessFlags := 2, nameIndex := 5, descriptorIndex := 29, attributes := #[] }, { accessFlags := 0, nameIndex := 5, descriptorIndex := 211, attributes := #[] }] 49 2 #[1106, 1108, 575, 1110, 1112] #[{ accessFlags := 18, nameIndex := 13, descriptorIndex := 14, attributes := #[] }, { accessFlags := 18, nameIndex := 17, descriptorIndex := 18, attributes := #[] }, { accessFlags := 2, nameIndex := 21, descriptorIndex := 22, attributes := #[] }, { accessFlags := 2, nameIndex := 25, descriptorIndex := 26, attributes := #[] }, { accessFlags := 26, nameIndex := 1116, descriptorIndex := 1117, attributes := #[] }, { accessFlags := 24, nameIndex := 40, descriptorIndex := 26, attributes := #[] }, { accessFlags := 26, nameIndex := 1101, descriptorIndex := 1102, attributes := #[] }, { accessFlags := 26, nameIndex := 1121, descriptorIndex := 1122, attributes := #[] }, { accessFlags := 25, nameIndex := 599, descriptorIndex := 600, attributes := #[] }, { accessFlags := 24, nameIndex := 1125, descriptorIndex := 18, attributes := #[] }, { accessFlags := 24, nameIndex := 1127, descriptorIndex := 18, attributes := #[] }])
  fields := #[{ name := "value", type := (.array .byte), accessFlags := 18, slot := 0, constantValue := 0 }, { name := "coder", type := .byte, accessFlags := 18, slot := 1, constantValue := 0 }, { name := "hash", type := .int, accessFlags := 2, slot := 2, constantValue := 0 }, { name := "hashIsZero", type := .boolean, accessFlags := 2, slot := 3, constantValue := 0 }, { name := "serialVersionUID", type := .long, accessFlags := 26, slot := 0, constantValue := 0 }, { name := "COMPACT_STRINGS", type := .boolean, accessFlags := 24, slot := 1, constantValue := 0 }, { name := "serialPersistentFields", type := (.array (.object "java/io/ObjectStreamField")), accessFlags := 26, slot := 2, constantValue := 0 }, { name := "REPL", type := .char, accessFlags := 26, slot := 3, constantValue := 0 }, { name := "CASE_INSENSITIVE_ORDER", type := (.object "java/util/Comparator"), accessFlags := 25, slot := 4, constantValue := 0 }, { name := "LATIN1", type := .byte, accessFlags := 24, slot := 5, constantValue := 0 }, { name := "UTF16", type := .byte, accessFlags := 24, slot := 6, constantValue := 0 }]
  methods := #[k9m0, k9m1, k9m2, k9m3, k9m4, k9m5]
  instanceTypes := #[(.array .byte), .byte, .int, .boolean]
  staticTypes := #[.long, .boolean, (.array (.object "java/io/ObjectStreamField")), .char, (.object "java/util/Comparator"), .byte, .byte]
  resolved := Array.replicate 1451 none
  statics := some 1 }

def pool10 : Array CpInfo := pool [(1, .methodref 2 3), (0, .class_ 4), (0, .nameAndType 5 6), (0, u "java/lang/Object"), (0, u "<init>"), (0, u "()V"), (0, .fieldref 8 9), (0, .class_ 10), (0, .nameAndType 11 12), (0, u "com/example/verdict_ladder/verdictladder/lint/Finding"), (0, u "kind"), (0, u "Lcom/example/verdict_ladder/verdictladder/lint/Finding$Kind;"), (0, .interfaceMethodref 14 15), (0, .class_ 16), (0, .nameAndType 17 18), (0, u "java/util/List"), (0, u "of"), (0, u "([Ljava/lang/Object;)Ljava/util/List;"), (0, .fieldref 8 20), (0, .nameAndType 21 22), (0, u "fields"), (0, u "Ljava/util/List;"), (0, .interfaceMethodref 14 24), (0, .nameAndType 25 26), (0, u "size"), (0, u "()I"), (0, .class_ 28), (0, u "java/lang/String"), (0, .methodref 30 31), (0, .class_ 32), (0, .nameAndType 33 34), (0, u "com/example/verdict_ladder/verdictladder/lint/Finding$Kind"), (0, u "token"), (0, u "()Ljava/lang/String;"), (0, .interfaceMethodref 14 36), (0, .nameAndType 37 38), (0, u "get"), (0, u "(I)Ljava/lang/Object;"), (2, u "(Lcom/example/verdict_ladder/verdictladder/lint/Finding$Kind;[Ljava/lang/String;)V"), (7, u "line"), (0, u "()[Ljava/lang/String;")] 8

def k10c0 : Code := { maxStack := 2, maxLocals := 3, code := prog_16_method_1_code, exceptionTable := #[], attributes := #[] }
def k10m0 : Method := { name := "<init>", desc := "(Lcom/example/verdict_ladder/verdictladder/lint/Finding$Kind;[Ljava/lang/String;)V", sig := { parameters := [(.object "com/example/verdict_ladder/verdictladder/lint/Finding$Kind"), (.array (.object "java/lang/String"))], returnType := none }, accessFlags := 128, code := some k10c0 }
def k10c1 : Code := { maxStack := 4, maxLocals := 3, code := prog_16_method_4_code, exceptionTable := #[], attributes := #[] }
def k10m1 : Method := { name := "line", desc := "()[Ljava/lang/String;", sig := { parameters := [], returnType := some (.array (.object "java/lang/String")) }, accessFlags := 0, code := some k10c1 }
/-- com/example/verdict_ladder/verdictladder/lint/Finding -/
def k10 : Class := { plain "com/example/verdict_ladder/verdictladder/lint/Finding" (some 0) with
  accessFlags := 33
  interfaces := #[]
  cf := some (fileOf pool10 8 #[.nestMembers #[30]] #[{ accessFlags := 128, nameIndex := 5, descriptorIndex := 41, attributes := #[] }, { accessFlags := 0, nameIndex := 49, descriptorIndex := 50, attributes := #[] }] 33 2 #[] #[{ accessFlags := 18, nameIndex := 11, descriptorIndex := 12, attributes := #[] }, { accessFlags := 18, nameIndex := 21, descriptorIndex := 22, attributes := #[] }])
  fields := #[{ name := "kind", type := (.object "com/example/verdict_ladder/verdictladder/lint/Finding$Kind"), accessFlags := 18, slot := 0, constantValue := 0 }, { name := "fields", type := (.object "java/util/List"), accessFlags := 18, slot := 1, constantValue := 0 }]
  methods := #[k10m0, k10m1]
  instanceTypes := #[(.object "com/example/verdict_ladder/verdictladder/lint/Finding$Kind"), (.object "java/util/List")]
  staticTypes := #[]
  resolved := Array.replicate 59 none
  statics := none }

def pool11 : Array CpInfo := pool [(8, .class_ 10), (1, u "java/lang/Iterable"), (24, .class_ 36), (0, u "java/lang/Object")] 25

/-- java/lang/Iterable -/
def k11 : Class := { plain "java/lang/Iterable" (some 0) with
  accessFlags := 1537
  interfaces := #[]
  cf := some (fileOf pool11 8 #[] #[] 1537 35 #[] #[])
  fields := #[]
  methods := #[]
  instanceTypes := #[]
  staticTypes := #[]
  resolved := Array.replicate 62 none
  statics := none }

def pool12 : Array CpInfo := pool [(10, .class_ 12), (1, u "java/util/Collection"), (47, .class_ 61), (0, u "java/lang/Object"), (0, .class_ 63), (0, u "java/lang/Iterable")] 51

/-- java/util/Collection -/
def k12 : Class := { plain "java/util/Collection" (some 0) with
  accessFlags := 1537
  interfaces := #[11]
  cf := some (fileOf pool12 10 #[] #[] 1537 60 #[62] #[])
  fields := #[]
  methods := #[]
  instanceTypes := #[]
  staticTypes := #[]
  resolved := Array.replicate 115 none
  statics := none }

def pool13 : Array CpInfo := pool [(8, .class_ 10), (1, u "java/util/SequencedCollection"), (15, .class_ 27), (0, u "java/lang/Object"), (0, .class_ 29), (0, u "java/util/Collection")] 27

/-- java/util/SequencedCollection -/
def k13 : Class := { plain "java/util/SequencedCollection" (some 0) with
  accessFlags := 1537
  interfaces := #[12]
  cf := some (fileOf pool13 8 #[] #[] 1537 26 #[28] #[])
  fields := #[]
  methods := #[]
  instanceTypes := #[]
  staticTypes := #[]
  resolved := Array.replicate 57 none
  statics := none }

def pool14 : Array CpInfo := pool [(8, .class_ 10), (1, u "java/util/List"), (20, u "(Ljava/lang/Object;)V"), (16, u "<init>"), (26, u "get"), (0, u "(I)Ljava/lang/Object;"), (2, u "size"), (0, u "()I"), (7, u "of"), (1, .fieldref 91 92), (0, .class_ 93), (0, .nameAndType 94 95), (0, u "java/util/ImmutableCollections"), (0, u "EMPTY_LIST"), (0, u "Ljava/util/ImmutableCollections$ListN;"), (0, .class_ 97), (0, u "java/util/ImmutableCollections$List12"), (0, .methodref 96 99), (0, .nameAndType 48 31), (0, .methodref 96 101), (0, .nameAndType 48 102), (0, u "(Ljava/lang/Object;Ljava/lang/Object;)V"), (0, .class_ 104), (0, u "java/lang/Object"), (3, u "([Ljava/lang/Object;)Ljava/util/List;"), (0, .methodref 91 110), (0, .nameAndType 111 108), (0, u "listFromArray"), (8, .class_ 121), (0, u "java/util/SequencedCollection")] 129

def k14m0 : Method := { name := "size", desc := "()I", sig := { parameters := [], returnType := some .int }, accessFlags := 1025, code := none }
def k14m1 : Method := { name := "get", desc := "(I)Ljava/lang/Object;", sig := { parameters := [.int], returnType := some (.object "java/lang/Object") }, accessFlags := 1025, code := none }
def k14c2 : Code := { maxStack := 5, maxLocals := 2, code := jdk_40_method_47_code, exceptionTable := #[], attributes := #[] }
def k14m2 : Method := { name := "of", desc := "([Ljava/lang/Object;)Ljava/util/List;", sig := { parameters := [(.array (.object "java/lang/Object"))], returnType := some (.object "java/util/List") }, accessFlags := 137, code := some k14c2 }
/-- java/util/List -/
def k14 : Class := { plain "java/util/List" (some 0) with
  accessFlags := 1537
  interfaces := #[13]
  cf := some (fileOf pool14 8 #[] #[{ accessFlags := 1025, nameIndex := 79, descriptorIndex := 80, attributes := #[] }, { accessFlags := 1025, nameIndex := 75, descriptorIndex := 76, attributes := #[] }, { accessFlags := 137, nameIndex := 88, descriptorIndex := 108, attributes := #[] }] 1537 103 #[120] #[])
  fields := #[]
  methods := #[k14m0, k14m1, k14m2]
  instanceTypes := #[]
  staticTypes := #[]
  resolved := Array.replicate 251 none
  statics := none }

def pool15 : Array CpInfo := pool [(2, .class_ 4), (1, u "java/lang/Object"), (0, u "<init>"), (0, u "()V"), (3, .class_ 11), (0, u "java/util/ImmutableCollections$List12"), (0, .class_ 13), (0, u "java/util/ImmutableCollections$ListN"), (3, u "Z"), (18, u "([Ljava/lang/Object;)Ljava/util/List;"), (0, .methodref 38 39), (0, .class_ 40), (0, .nameAndType 41 42), (0, u "java/util/Objects"), (0, u "requireNonNull"), (0, u "(Ljava/lang/Object;)Ljava/lang/Object;"), (0, .methodref 12 44), (0, .nameAndType 5 45), (0, u "([Ljava/lang/Object;Z)V"), (1, .class_ 49), (1, u "java/util/ImmutableCollections"), (0, u "$assertionsDisabled"), (5, u "[Ljava/lang/Object;"), (5, u "EMPTY_LIST"), (0, u "Ljava/util/ImmutableCollections$ListN;"), (8, u "EMPTY_LIST_NULLS"), (22, u "SALT32L"), (0, u "J"), (2, u "REVERSE"), (6, u "archivedObjects"), (2, u "EMPTY"), (0, u "Ljava/lang/Object;"), (0, .class_ 112), (0, u "java/util/ImmutableCollections$SetN"), (5, u "EMPTY_SET"), (0, u "Ljava/util/ImmutableCollections$SetN;"), (0, .class_ 121), (0, u "java/util/ImmutableCollections$MapN"), (3, u "EMPTY_MAP"), (0, u "Ljava/util/ImmutableCollections$MapN;"), (4, u "EXPAND_FACTOR"), (0, u "I"), (18, u "listFromArray"), (17, .class_ 170), (0, u "java/util/ImmutableCollections$MapN$MapNIterator"), (0, .class_ 172), (0, u "java/util/ImmutableCollections$MapN$1"), (0, .class_ 174), (0, u "java/util/ImmutableCollections$Map1"), (0, .class_ 176), (0, u "java/util/ImmutableCollections$AbstractImmutableMap"), (0, .class_ 178), (0, u "java/util/ImmutableCollections$SetN$SetNIterator"), (0, .class_ 180), (0, u "java/util/ImmutableCollections$Set12"), (0, .class_ 182), (0, u "java/util/ImmutableCollections$Set12$1"), (0, .class_ 184), (0, u "java/util/ImmutableCollections$AbstractImmutableSet"), (0, .class_ 186), (0, u "java/util/ImmutableCollections$SubList"), (0, .class_ 188), (0, u "java/util/ImmutableCollections$ListItr"), (0, .class_ 190), (0, u "java/util/ImmutableCollections$AbstractImmutableList"), (0, .class_ 192), (0, u "java/util/ImmutableCollections$AbstractImmutableCollection"), (0, .class_ 194), (0, u "java/util/ImmutableCollections$Access"), (0, .class_ 196), (0, u "java/util/ImmutableCollections$Access$1")] 16

def k15m0 : Method := { name := "<init>", desc := "()V", sig := { parameters := [], returnType := none }, accessFlags := 2, code := none }
def k15c1 : Code := { maxStack := 4, maxLocals := 3, code := jdk_56_method_4_code, exceptionTable := #[], attributes := #[] }
def k15m1 : Method := { name := "listFromArray", desc := "([Ljava/lang/Object;)Ljava/util/List;", sig := { parameters := [(.array (.object "java/lang/Object"))], returnType := some (.object "java/util/List") }, accessFlags := 136, code := some k15c1 }
/-- java/util/ImmutableCollections -/
def k15 : Class := { plain "java/util/ImmutableCollections" (some 0) with
  accessFlags := 32
  interfaces := #[]
  cf := some (fileOf pool15 47 #[.nestMembers #[120, 169, 171, 173, 175, 111, 177, 179, 181, 183, 12, 10, 185, 187, 189, 191, 193, 195]] #[{ accessFlags := 2, nameIndex := 5, descriptorIndex := 6, attributes := #[] }, { accessFlags := 136, nameIndex := 151, descriptorIndex := 36, attributes := #[] }] 32 2 #[] #[{ accessFlags := 26, nameIndex := 95, descriptorIndex := 96, attributes := #[] }, { accessFlags := 26, nameIndex := 99, descriptorIndex := 17, attributes := #[] }, { accessFlags := 10, nameIndex := 106, descriptorIndex := 56, attributes := #[] }, { accessFlags := 26, nameIndex := 109, descriptorIndex := 110, attributes := #[] }, { accessFlags := 24, nameIndex := 62, descriptorIndex := 63, attributes := #[] }, { accessFlags := 24, nameIndex := 72, descriptorIndex := 63, attributes := #[] }, { accessFlags := 24, nameIndex := 118, descriptorIndex := 119, attributes := #[] }, { accessFlags := 24, nameIndex := 125, descriptorIndex := 126, attributes := #[] }, { accessFlags := 24, nameIndex := 131, descriptorIndex := 132, attributes := #[] }, { accessFlags := 4120, nameIndex := 50, descriptorIndex := 17, attributes := #[] }])
  fields := #[{ name := "SALT32L", type := .long, accessFlags := 26, slot := 0, constantValue := 0 }, { name := "REVERSE", type := .boolean, accessFlags := 26, slot := 1, constantValue := 0 }, { name := "archivedObjects", type := (.array (.object "java/lang/Object")), accessFlags := 10, slot := 2, constantValue := 0 }, { name := "EMPTY", type := (.object "java/lang/Object"), accessFlags := 26, slot := 3, constantValue := 0 }, { name := "EMPTY_LIST", type := (.object "java/util/ImmutableCollections$ListN"), accessFlags := 24, slot := 4, constantValue := 0 }, { name := "EMPTY_LIST_NULLS", type := (.object "java/util/ImmutableCollections$ListN"), accessFlags := 24, slot := 5, constantValue := 0 }, { name := "EMPTY_SET", type := (.object "java/util/ImmutableCollections$SetN"), accessFlags := 24, slot := 6, constantValue := 0 }, { name := "EMPTY_MAP", type := (.object "java/util/ImmutableCollections$MapN"), accessFlags := 24, slot := 7, constantValue := 0 }, { name := "EXPAND_FACTOR", type := .int, accessFlags := 24, slot := 8, constantValue := 0 }, { name := "$assertionsDisabled", type := .boolean, accessFlags := 4120, slot := 9, constantValue := 0 }]
  methods := #[k15m0, k15m1]
  instanceTypes := #[]
  staticTypes := #[.long, .boolean, (.array (.object "java/lang/Object")), (.object "java/lang/Object"), (.object "java/util/ImmutableCollections$ListN"), (.object "java/util/ImmutableCollections$ListN"), (.object "java/util/ImmutableCollections$SetN"), (.object "java/util/ImmutableCollections$MapN"), .int, .boolean]
  resolved := Array.replicate 213 none
  statics := some 2 }

def pool16 : Array CpInfo := pool [(2, .class_ 4), (1, u "java/lang/Object"), (0, u "<init>"), (0, u "()V"), (35, .class_ 44), (1, u "java/util/Objects"), (0, u "requireNonNull"), (0, u "(Ljava/lang/Object;)Ljava/lang/Object;")] 137

def k16m0 : Method := { name := "<init>", desc := "()V", sig := { parameters := [], returnType := none }, accessFlags := 2, code := none }
def k16c1 : Code := { maxStack := 2, maxLocals := 1, code := jdk_31_method_10_code, exceptionTable := #[], attributes := #[] }
def k16m1 : Method := { name := "requireNonNull", desc := "(Ljava/lang/Object;)Ljava/lang/Object;", sig := { parameters := [(.object "java/lang/Object")], returnType := some (.object "java/lang/Object") }, accessFlags := 9, code := some k16c1 }
/-- java/util/Objects -/
def k16 : Class := { plain "java/util/Objects" (some 0) with
  accessFlags := 49
  interfaces := #[]
  cf := some (fileOf pool16 42 #[] #[{ accessFlags := 2, nameIndex := 5, descriptorIndex := 6, attributes := #[] }, { accessFlags := 9, nameIndex := 45, descriptorIndex := 46, attributes := #[] }] 49 2 #[] #[])
  fields := #[]
  methods := #[k16m0, k16m1]
  instanceTypes := #[]
  staticTypes := #[]
  resolved := Array.replicate 184 none
  statics := none }

def pool17 : Array CpInfo := pool [(1, .methodref 2 3), (0, .class_ 4), (0, .nameAndType 5 6), (0, u "java/lang/Object"), (0, u "<init>"), (0, u "()V"), (1, .class_ 10), (1, u "java/util/AbstractCollection"), (66, .class_ 78), (0, u "java/util/Collection")] 81

def k17c0 : Code := { maxStack := 1, maxLocals := 1, code := jdk_22_method_1_code, exceptionTable := #[], attributes := #[] }
def k17m0 : Method := { name := "<init>", desc := "()V", sig := { parameters := [], returnType := none }, accessFlags := 4, code := some k17c0 }
/-- java/util/AbstractCollection -/
def k17 : Class := { plain "java/util/AbstractCollection" (some 0) with
  accessFlags := 1057
  interfaces := #[12]
  cf := some (fileOf pool17 8 #[] #[{ accessFlags := 4, nameIndex := 5, descriptorIndex := 6, attributes := #[] }] 1057 2 #[77] #[])
  fields := #[]
  methods := #[k17m0]
  instanceTypes := #[]
  staticTypes := #[]
  resolved := Array.replicate 160 none
  statics := none }

def pool18 : Array CpInfo := pool [(1, .methodref 2 3), (0, .class_ 4), (0, .nameAndType 5 6), (0, u "java/util/AbstractCollection"), (0, u "<init>"), (0, u "()V"), (1, .class_ 10), (1, u "java/util/ImmutableCollections"), (2, .class_ 14), (0, u "java/util/ImmutableCollections$AbstractImmutableCollection")] 41

def k18c0 : Code := { maxStack := 1, maxLocals := 1, code := jdk_47_method_1_code, exceptionTable := #[], attributes := #[] }
def k18m0 : Method := { name := "<init>", desc := "()V", sig := { parameters := [], returnType := none }, accessFlags := 0, code := some k18c0 }
/-- java/util/ImmutableCollections$AbstractImmutableCollection -/
def k18 : Class := { plain "java/util/ImmutableCollections$AbstractImmutableCollection" (some 17) with
  accessFlags := 1056
  interfaces := #[]
  cf := some (fileOf pool18 13 #[.nestHost 8] #[{ accessFlags := 0, nameIndex := 5, descriptorIndex := 6, attributes := #[] }] 1056 2 #[] #[])
  fields := #[]
  methods := #[k18m0]
  instanceTypes := #[]
  staticTypes := #[]
  resolved := Array.replicate 56 none
  statics := none }

def pool19 : Array CpInfo := pool [(1, .class_ 2), (0, u "java/util/RandomAccess"), (0, .class_ 4), (0, u "java/lang/Object")] 2

/-- java/util/RandomAccess -/
def k19 : Class := { plain "java/util/RandomAccess" (some 0) with
  accessFlags := 1537
  interfaces := #[]
  cf := some (fileOf pool19 1 #[] #[] 1537 3 #[] #[])
  fields := #[]
  methods := #[]
  instanceTypes := #[]
  staticTypes := #[]
  resolved := Array.replicate 7 none
  statics := none }

def pool20 : Array CpInfo := pool [(1, .methodref 2 3), (0, .class_ 4), (0, .nameAndType 5 6), (0, u "java/util/ImmutableCollections$AbstractImmutableCollection"), (0, u "<init>"), (0, u "()V"), (1, .class_ 10), (1, u "java/util/ImmutableCollections"), (3, .class_ 16), (1, u "java/util/ImmutableCollections$AbstractImmutableList"), (60, .class_ 78), (0, u "java/util/List"), (45, .class_ 125), (0, u "java/util/RandomAccess")] 70

def k20c0 : Code := { maxStack := 1, maxLocals := 1, code := jdk_46_method_1_code, exceptionTable := #[], attributes := #[] }
def k20m0 : Method := { name := "<init>", desc := "()V", sig := { parameters := [], returnType := none }, accessFlags := 0, code := some k20c0 }
/-- java/util/ImmutableCollections$AbstractImmutableList -/
def k20 : Class := { plain "java/util/ImmutableCollections$AbstractImmutableList" (some 18) with
  accessFlags := 1056
  interfaces := #[14, 19]
  cf := some (fileOf pool20 14 #[.nestHost 8] #[{ accessFlags := 0, nameIndex := 5, descriptorIndex := 6, attributes := #[] }] 1056 2 #[77, 124] #[])
  fields := #[]
  methods := #[k20m0]
  instanceTypes := #[]
  staticTypes := #[]
  resolved := Array.replicate 196 none
  statics := none }

def pool21 : Array CpInfo := pool [(1, .methodref 2 3), (0, .class_ 4), (0, .nameAndType 5 6), (0, u "java/util/ImmutableCollections$AbstractImmutableList"), (0, u "<init>"), (0, u "()V"), (0, .fieldref 8 9), (0, .class_ 10), (0, .nameAndType 11 12), (0, u "java/util/ImmutableCollections$ListN"), (0, u "elements"), (0, u "[Ljava/lang/Object;"), (0, .fieldref 8 14), (0, .nameAndType 15 16), (0, u "allowNulls"), (0, u "Z"), (42, .class_ 60), (0, u "java/io/Serializable"), (4, u "([Ljava/lang/Object;Z)V"), (11, u "size"), (0, u "()I"), (0, u "get"), (0, u "(I)Ljava/lang/Object;"), (33, .class_ 115), (0, u "java/util/ImmutableCollections")] 3

def k21c0 : Code := { maxStack := 2, maxLocals := 3, code := jdk_45_method_1_code, exceptionTable := #[], attributes := #[] }
def k21m0 : Method := { name := "<init>", desc := "([Ljava/lang/Object;Z)V", sig := { parameters := [(.array (.object "java/lang/Object")), .boolean], returnType := none }, accessFlags := 2, code := some k21c0 }
def k21c1 : Code := { maxStack := 1, maxLocals := 1, code := jdk_45_method_3_code, exceptionTable := #[], attributes := #[] }
def k21m1 : Method := { name := "size", desc := "()I", sig := { parameters := [], returnType := some .int }, accessFlags := 1, code := some k21c1 }
def k21c2 : Code := { maxStack := 2, maxLocals := 2, code := jdk_45_method_4_code, exceptionTable := #[], attributes := #[] }
def k21m2 : Method := { name := "get", desc := "(I)Ljava/lang/Object;", sig := { parameters := [.int], returnType := some (.object "java/lang/Object") }, accessFlags := 1, code := some k21c2 }
/-- java/util/ImmutableCollections$ListN -/
def k21 : Class := { plain "java/util/ImmutableCollections$ListN" (some 20) with
  accessFlags := 48
  interfaces := #[4]
  cf := some (fileOf pool21 8 #[.nestHost 114] #[{ accessFlags := 2, nameIndex := 5, descriptorIndex := 65, attributes := #[] }, { accessFlags := 1, nameIndex := 77, descriptorIndex := 78, attributes := #[] }, { accessFlags := 1, nameIndex := 79, descriptorIndex := 80, attributes := #[] }] 48 2 #[59] #[{ accessFlags := 18, nameIndex := 11, descriptorIndex := 12, attributes := #[] }, { accessFlags := 18, nameIndex := 15, descriptorIndex := 16, attributes := #[] }])
  fields := #[{ name := "elements", type := (.array (.object "java/lang/Object")), accessFlags := 18, slot := 0, constantValue := 0 }, { name := "allowNulls", type := .boolean, accessFlags := 18, slot := 1, constantValue := 0 }]
  methods := #[k21m0, k21m1, k21m2]
  instanceTypes := #[(.array (.object "java/lang/Object")), .boolean]
  staticTypes := #[]
  resolved := Array.replicate 119 none
  statics := none }

def pool22 : Array CpInfo := pool [(4, .class_ 6), (1, u "java/lang/Object"), (0, u "<init>"), (0, u "()V"), (5, .class_ 16), (1, u "java/lang/StringLatin1"), (73, u "canEncode"), (14, u "(C)Z"), (15, u "$assertionsDisabled"), (0, u "Z"), (98, .class_ 223), (1, u "java/lang/StringLatin1$LinesSpliterator"), (57, u "equals"), (0, u "([B[B)Z"), (97, u "toBytes"), (1, u "(C)[B"), (7, .class_ 391), (0, u "java/lang/StringLatin1$CharsSpliterator")] 3

def k22m0 : Method := { name := "<init>", desc := "()V", sig := { parameters := [], returnType := none }, accessFlags := 0, code := none }
def k22c1 : Code := { maxStack := 2, maxLocals := 1, code := jdk_43_method_3_code, exceptionTable := #[], attributes := #[] }
def k22m1 : Method := { name := "canEncode", desc := "(C)Z", sig := { parameters := [.char], returnType := some .boolean }, accessFlags := 9, code := some k22c1 }
def k22c2 : Code := { maxStack := 3, maxLocals := 3, code := jdk_43_method_13_code, exceptionTable := #[], attributes := #[] }
def k22m2 : Method := { name := "equals", desc := "([B[B)Z", sig := { parameters := [(.array .byte), (.array .byte)], returnType := some .boolean }, accessFlags := 9, code := some k22c2 }
def k22c3 : Code := { maxStack := 4, maxLocals := 1, code := jdk_43_method_46_code, exceptionTable := #[], attributes := #[] }
def k22m3 : Method := { name := "toBytes", desc := "(C)[B", sig := { parameters := [.char], returnType := some (.array .byte) }, accessFlags := 9, code := some k22c3 }
/-- java/lang/StringLatin1 -/
def k22 : Class := { plain "java/lang/StringLatin1" (some 0) with
  accessFlags := 48
  interfaces := #[]
  cf := some (fileOf pool22 14 #[.nestMembers #[390, 221]] #[{ accessFlags := 0, nameIndex := 7, descriptorIndex := 8, attributes := #[] }, { accessFlags := 9, nameIndex := 90, descriptorIndex := 105, attributes := #[] }, { accessFlags := 9, nameIndex := 281, descriptorIndex := 282, attributes := #[] }, { accessFlags := 9, nameIndex := 380, descriptorIndex := 382, attributes := #[] }] 48 4 #[] #[{ accessFlags := 4120, nameIndex := 121, descriptorIndex := 122, attributes := #[] }])
  fields := #[{ name := "$assertionsDisabled", type := .boolean, accessFlags := 4120, slot := 0, constantValue := 0 }]
  methods := #[k22m0, k22m1, k22m2, k22m3]
  instanceTypes := #[]
  staticTypes := #[.boolean]
  resolved := Array.replicate 395 none
  statics := none }

def pool23 : Array CpInfo := pool [(1, .methodref 2 3), (0, .class_ 4), (0, .nameAndType 5 6), (0, u "java/util/ImmutableCollections$AbstractImmutableList"), (0, u "<init>"), (0, u "()V"), (0, .methodref 8 9), (0, .class_ 10), (0, .nameAndType 11 12), (0, u "java/util/Objects"), (0, u "requireNonNull"), (0, u "(Ljava/lang/Object;)Ljava/lang/Object;"), (0, .fieldref 14 15), (0, .class_ 16), (0, .nameAndType 17 18), (0, u "java/util/ImmutableCollections$List12"), (0, u "e0"), (0, u "Ljava/lang/Object;"), (0, .fieldref 20 21), (0, .class_ 22), (0, .nameAndType 23 18), (0, u "java/util/ImmutableCollections"), (0, u "EMPTY"), (0, .fieldref 14 25), (0, .nameAndType 26 18), (0, u "e1"), (24, u "size"), (0, u "()I"), (17, .class_ 71), (0, u "java/io/Serializable"), (4, u "(Ljava/lang/Object;)V"), (8, u "(Ljava/lang/Object;Ljava/lang/Object;)V"), (4, u "get"), (0, u "(I)Ljava/lang/Object;")] 33

def k23c0 : Code := { maxStack := 2, maxLocals := 2, code := jdk_44_method_1_code, exceptionTable := #[], attributes := #[] }
def k23m0 : Method := { name := "<init>", desc := "(Ljava/lang/Object;)V", sig := { parameters := [(.object "java/lang/Object")], returnType := none }, accessFlags := 0, code := some k23c0 }
def k23c1 : Code := { maxStack := 2, maxLocals := 3, code := jdk_44_method_2_code, exceptionTable := #[], attributes := #[] }
def k23m1 : Method := { name := "<init>", desc := "(Ljava/lang/Object;Ljava/lang/Object;)V", sig := { parameters := [(.object "java/lang/Object"), (.object "java/lang/Object")], returnType := none }, accessFlags := 0, code := some k23c1 }
def k23c2 : Code := { maxStack := 2, maxLocals := 1, code := jdk_44_method_3_code, exceptionTable := #[], attributes := #[] }
def k23m2 : Method := { name := "size", desc := "()I", sig := { parameters := [], returnType := some .int }, accessFlags := 1, code := some k23c2 }
def k23c3 : Code := { maxStack := 2, maxLocals := 2, code := jdk_44_method_5_code, exceptionTable := #[], attributes := #[] }
def k23m3 : Method := { name := "get", desc := "(I)Ljava/lang/Object;", sig := { parameters := [.int], returnType := some (.object "java/lang/Object") }, accessFlags := 1, code := some k23c3 }
/-- java/util/ImmutableCollections$List12 -/
def k23 : Class := { plain "java/util/ImmutableCollections$List12" (some 20) with
  accessFlags := 48
  interfaces := #[4]
  cf := some (fileOf pool23 14 #[.nestHost 20] #[{ accessFlags := 0, nameIndex := 5, descriptorIndex := 76, attributes := #[] }, { accessFlags := 0, nameIndex := 5, descriptorIndex := 85, attributes := #[] }, { accessFlags := 1, nameIndex := 51, descriptorIndex := 52, attributes := #[] }, { accessFlags := 1, nameIndex := 90, descriptorIndex := 91, attributes := #[] }] 48 2 #[70] #[{ accessFlags := 18, nameIndex := 17, descriptorIndex := 18, attributes := #[] }, { accessFlags := 18, nameIndex := 26, descriptorIndex := 18, attributes := #[] }])
  fields := #[{ name := "e0", type := (.object "java/lang/Object"), accessFlags := 18, slot := 0, constantValue := 0 }, { name := "e1", type := (.object "java/lang/Object"), accessFlags := 18, slot := 1, constantValue := 0 }]
  methods := #[k23m0, k23m1, k23m2, k23m3]
  instanceTypes := #[(.object "java/lang/Object"), (.object "java/lang/Object")]
  staticTypes := #[]
  resolved := Array.replicate 125 none
  statics := none }

def pool24 : Array CpInfo := pool [(6, .class_ 8), (1, u "java/lang/Object"), (0, u "<init>"), (0, u "()V"), (1, .class_ 14), (1, u "java/lang/StringUTF16"), (31, u "$assertionsDisabled"), (0, u "Z"), (13, u "HI_BYTE_SHIFT"), (0, u "I"), (2, u "LO_BYTE_SHIFT"), (49, .methodref 12 116), (0, .nameAndType 117 118), (0, u "compress"), (0, u "([CI[BII)I"), (3, u "([CII)[B"), (138, u "coderFromArrayLen"), (0, u "([BI)B"), (106, .class_ 371), (1, u "java/lang/StringUTF16$LinesSpliterator"), (58, u "MAX_LENGTH"), (196, .class_ 628), (0, u "java/lang/StringUTF16$CodePointsSpliterator"), (0, .class_ 630), (0, u "java/lang/StringUTF16$CharsSpliterator")] 4

def k24m0 : Method := { name := "<init>", desc := "()V", sig := { parameters := [], returnType := none }, accessFlags := 0, code := none }
def k24c1 : Code := { maxStack := 2, maxLocals := 2, code := jdk_52_method_15_code, exceptionTable := #[], attributes := #[] }
def k24m1 : Method := { name := "coderFromArrayLen", desc := "([BI)B", sig := { parameters := [(.array .byte), .int], returnType := some .byte }, accessFlags := 8, code := some k24c1 }
def k24c2 : Code := { maxStack := 5, maxLocals := 6, code := jdk_52_method_16_code, exceptionTable := #[], attributes := #[] }
def k24m2 : Method := { name := "compress", desc := "([CII)[B", sig := { parameters := [(.array .char), .int, .int], returnType := some (.array .byte) }, accessFlags := 9, code := some k24c2 }
def k24c3 : Code := { maxStack := 3, maxLocals := 7, code := jdk_52_method_21_code, exceptionTable := #[], attributes := #[] }
def k24m3 : Method := { name := "compress", desc := "([CI[BII)I", sig := { parameters := [(.array .char), .int, (.array .byte), .int, .int], returnType := some .int }, accessFlags := 9, code := some k24c3 }
/-- java/lang/StringUTF16 -/
def k24 : Class := { plain "java/lang/StringUTF16" (some 0) with
  accessFlags := 48
  interfaces := #[]
  cf := some (fileOf pool24 12 #[.nestMembers #[627, 629, 369]] #[{ accessFlags := 0, nameIndex := 9, descriptorIndex := 10, attributes := #[] }, { accessFlags := 8, nameIndex := 261, descriptorIndex := 262, attributes := #[] }, { accessFlags := 9, nameIndex := 117, descriptorIndex := 122, attributes := #[] }, { accessFlags := 9, nameIndex := 117, descriptorIndex := 118, attributes := #[] }] 48 6 #[] #[{ accessFlags := 26, nameIndex := 61, descriptorIndex := 62, attributes := #[] }, { accessFlags := 26, nameIndex := 65, descriptorIndex := 62, attributes := #[] }, { accessFlags := 24, nameIndex := 430, descriptorIndex := 62, attributes := #[] }, { accessFlags := 4120, nameIndex := 46, descriptorIndex := 47, attributes := #[] }])
  fields := #[{ name := "HI_BYTE_SHIFT", type := .int, accessFlags := 26, slot := 0, constantValue := 0 }, { name := "LO_BYTE_SHIFT", type := .int, accessFlags := 26, slot := 1, constantValue := 0 }, { name := "MAX_LENGTH", type := .int, accessFlags := 24, slot := 2, constantValue := 0 }, { name := "$assertionsDisabled", type := .boolean, accessFlags := 4120, slot := 3, constantValue := 0 }]
  methods := #[k24m0, k24m1, k24m2, k24m3]
  instanceTypes := #[]
  staticTypes := #[.int, .int, .int, .boolean]
  resolved := Array.replicate 635 none
  statics := none }

def pool25 : Array CpInfo := pool [(2, .class_ 4), (1, u "java/lang/Object"), (0, u "<init>"), (0, u "()V"), (17, .class_ 26), (1, u "jdk/internal/util/Preconditions"), (28, .class_ 56), (0, u "jdk/internal/util/Preconditions$4"), (57, .class_ 115), (0, u "jdk/internal/util/Preconditions$1"), (7, u "SIOOBE_FORMATTER"), (0, u "Ljava/util/function/BiFunction;"), (0, .class_ 126), (0, u "jdk/internal/util/Preconditions$2"), (3, u "AIOOBE_FORMATTER"), (0, .class_ 132), (0, u "jdk/internal/util/Preconditions$3"), (3, u "IOOBE_FORMATTER")] 57

def k25m0 : Method := { name := "<init>", desc := "()V", sig := { parameters := [], returnType := none }, accessFlags := 1, code := none }
/-- jdk/internal/util/Preconditions -/
def k25 : Class := { plain "jdk/internal/util/Preconditions" (some 0) with
  accessFlags := 33
  interfaces := #[]
  cf := some (fileOf pool25 24 #[.nestMembers #[55, 131, 125, 114]] #[{ accessFlags := 1, nameIndex := 5, descriptorIndex := 6, attributes := #[] }] 33 2 #[] #[{ accessFlags := 25, nameIndex := 123, descriptorIndex := 124, attributes := #[] }, { accessFlags := 25, nameIndex := 130, descriptorIndex := 124, attributes := #[] }, { accessFlags := 25, nameIndex := 136, descriptorIndex := 124, attributes := #[] }])
  fields := #[{ name := "SIOOBE_FORMATTER", type := (.object "java/util/function/BiFunction"), accessFlags := 25, slot := 0, constantValue := 0 }, { name := "AIOOBE_FORMATTER", type := (.object "java/util/function/BiFunction"), accessFlags := 25, slot := 1, constantValue := 0 }, { name := "IOOBE_FORMATTER", type := (.object "java/util/function/BiFunction"), accessFlags := 25, slot := 2, constantValue := 0 }]
  methods := #[k25m0]
  instanceTypes := #[]
  staticTypes := #[(.object "java/util/function/BiFunction"), (.object "java/util/function/BiFunction"), (.object "java/util/function/BiFunction")]
  resolved := Array.replicate 194 none
  statics := some 3 }

def pool26 : Array CpInfo := pool [(9, u "<init>"), (6, .class_ 18), (1, u "java/lang/Object"), (0, u "()V"), (1, .class_ 23), (1, u "jdk/internal/util/ArraysSupport"), (0, u "LOG2_ARRAY_LONG_INDEX_SCALE"), (0, u "I"), (2, u "U"), (0, u "Ljdk/internal/misc/Unsafe;"), (8, u "BIG_ENDIAN"), (0, u "Z"), (8, u "LOG2_BYTE_BIT_SIZE"), (4, u "LOG2_ARRAY_INT_INDEX_SCALE"), (54, u "JLA"), (0, u "Ljdk/internal/access/JavaLangAccess;"), (11, u "LOG2_ARRAY_BOOLEAN_INDEX_SCALE"), (9, u "LOG2_ARRAY_BYTE_INDEX_SCALE"), (5, u "LOG2_ARRAY_CHAR_INDEX_SCALE"), (5, u "LOG2_ARRAY_SHORT_INDEX_SCALE"), (18, u "LOG2_ARRAY_FLOAT_INDEX_SCALE"), (24, u "LOG2_ARRAY_DOUBLE_INDEX_SCALE"), (89, u "T_BOOLEAN"), (2, u "T_CHAR"), (1, u "T_FLOAT"), (1, u "T_DOUBLE"), (1, u "T_BYTE"), (1, u "T_SHORT"), (1, u "T_INT"), (1, u "T_LONG"), (1, u "SOFT_MAX_ARRAY_LENGTH")] 83

def k26m0 : Method := { name := "<init>", desc := "()V", sig := { parameters := [], returnType := none }, accessFlags := 2, code := none }
/-- jdk/internal/util/ArraysSupport -/
def k26 : Class := { plain "jdk/internal/util/ArraysSupport" (some 0) with
  accessFlags := 33
  interfaces := #[]
  cf := some (fileOf pool26 21 #[] #[{ accessFlags := 2, nameIndex := 9, descriptorIndex := 19, attributes := #[] }] 33 16 #[] #[{ accessFlags := 24, nameIndex := 28, descriptorIndex := 29, attributes := #[] }, { accessFlags := 26, nameIndex := 38, descriptorIndex := 39, attributes := #[] }, { accessFlags := 25, nameIndex := 121, descriptorIndex := 25, attributes := #[] }, { accessFlags := 25, nameIndex := 131, descriptorIndex := 25, attributes := #[] }, { accessFlags := 25, nameIndex := 137, descriptorIndex := 25, attributes := #[] }, { accessFlags := 25, nameIndex := 143, descriptorIndex := 25, attributes := #[] }, { accessFlags := 25, nameIndex := 53, descriptorIndex := 25, attributes := #[] }, { accessFlags := 25, nameIndex := 24, descriptorIndex := 25, attributes := #[] }, { accessFlags := 25, nameIndex := 162, descriptorIndex := 25, attributes := #[] }, { accessFlags := 25, nameIndex := 187, descriptorIndex := 25, attributes := #[] }, { accessFlags := 26, nameIndex := 48, descriptorIndex := 25, attributes := #[] }, { accessFlags := 25, nameIndex := 277, descriptorIndex := 25, attributes := #[] }, { accessFlags := 25, nameIndex := 280, descriptorIndex := 25, attributes := #[] }, { accessFlags := 25, nameIndex := 282, descriptorIndex := 25, attributes := #[] }, { accessFlags := 25, nameIndex := 284, descriptorIndex := 25, attributes := #[] }, { accessFlags := 25, nameIndex := 286, descriptorIndex := 25, attributes := #[] }, { accessFlags := 25, nameIndex := 288, descriptorIndex := 25, attributes := #[] }, { accessFlags := 25, nameIndex := 290, descriptorIndex := 25, attributes := #[] }, { accessFlags := 25, nameIndex := 292, descriptorIndex := 25, attributes := #[] }, { accessFlags := 26, nameIndex := 108, descriptorIndex := 109, attributes := #[] }, { accessFlags := 25, nameIndex := 294, descriptorIndex := 25, attributes := #[] }])
  fields := #[{ name := "U", type := (.object "jdk/internal/misc/Unsafe"), accessFlags := 24, slot := 0, constantValue := 0 }, { name := "BIG_ENDIAN", type := .boolean, accessFlags := 26, slot := 1, constantValue := 0 }, { name := "LOG2_ARRAY_BOOLEAN_INDEX_SCALE", type := .int, accessFlags := 25, slot := 2, constantValue := 0 }, { name := "LOG2_ARRAY_BYTE_INDEX_SCALE", type := .int, accessFlags := 25, slot := 3, constantValue := 0 }, { name := "LOG2_ARRAY_CHAR_INDEX_SCALE", type := .int, accessFlags := 25, slot := 4, constantValue := 0 }, { name := "LOG2_ARRAY_SHORT_INDEX_SCALE", type := .int, accessFlags := 25, slot := 5, constantValue := 0 }, { name := "LOG2_ARRAY_INT_INDEX_SCALE", type := .int, accessFlags := 25, slot := 6, constantValue := 0 }, { name := "LOG2_ARRAY_LONG_INDEX_SCALE", type := .int, accessFlags := 25, slot := 7, constantValue := 0 }, { name := "LOG2_ARRAY_FLOAT_INDEX_SCALE", type := .int, accessFlags := 25, slot := 8, constantValue := 0 }, { name := "LOG2_ARRAY_DOUBLE_INDEX_SCALE", type := .int, accessFlags := 25, slot := 9, constantValue := 0 }, { name := "LOG2_BYTE_BIT_SIZE", type := .int, accessFlags := 26, slot := 10, constantValue := 0 }, { name := "T_BOOLEAN", type := .int, accessFlags := 25, slot := 11, constantValue := 0 }, { name := "T_CHAR", type := .int, accessFlags := 25, slot := 12, constantValue := 0 }, { name := "T_FLOAT", type := .int, accessFlags := 25, slot := 13, constantValue := 0 }, { name := "T_DOUBLE", type := .int, accessFlags := 25, slot := 14, constantValue := 0 }, { name := "T_BYTE", type := .int, accessFlags := 25, slot := 15, constantValue := 0 }, { name := "T_SHORT", type := .int, accessFlags := 25, slot := 16, constantValue := 0 }, { name := "T_INT", type := .int, accessFlags := 25, slot := 17, constantValue := 0 }, { name := "T_LONG", type := .int, accessFlags := 25, slot := 18, constantValue := 0 }, { name := "JLA", type := (.object "jdk/internal/access/JavaLangAccess"), accessFlags := 26, slot := 19, constantValue := 0 }, { name := "SOFT_MAX_ARRAY_LENGTH", type := .int, accessFlags := 25, slot := 20, constantValue := 0 }]
  methods := #[k26m0]
  instanceTypes := #[]
  staticTypes := #[(.object "jdk/internal/misc/Unsafe"), .boolean, .int, .int, .int, .int, .int, .int, .int, .int, .int, .int, .int, .int, .int, .int, .int, .int, .int, (.object "jdk/internal/access/JavaLangAccess"), .int]
  resolved := Array.replicate 378 none
  statics := none }

def pool27 : Array CpInfo := pool [(1, u "java/lang/Cloneable"), (0, .class_ 1), (0, u "java/lang/Object"), (0, .class_ 3)] 3

/-- java/lang/Cloneable -/
def k27 : Class := { plain "java/lang/Cloneable" (some 0) with
  accessFlags := 1537
  interfaces := #[]
  cf := some (fileOf pool27 2 #[] #[] 1537 4 #[] #[])
  fields := #[]
  methods := #[]
  instanceTypes := #[]
  staticTypes := #[]
  resolved := Array.replicate 8 none
  statics := none }

/-- the primitive byte -/
def k28 : Class := { plain "byte" none with kind := .primitive 'B', accessFlags := 0x411 }
/-- [B -/
def k29 : Class := { plain "[B" (some 0) with kind := .array 28 .byte, interfaces := #[27, 4], accessFlags := 1041 }

/-- the primitive char -/
def k30 : Class := { plain "char" none with kind := .primitive 'C', accessFlags := 0x411 }
/-- [C -/
def k31 : Class := { plain "[C" (some 0) with kind := .array 30 .char, interfaces := #[27, 4], accessFlags := 1041 }

/-- the primitive int -/
def k32 : Class := { plain "int" none with kind := .primitive 'I', accessFlags := 0x411 }
/-- [I -/
def k33 : Class := { plain "[I" (some 0) with kind := .array 32 .int, interfaces := #[27, 4], accessFlags := 1041 }

/-- [Ljava/lang/Object; -/
def k34 : Class := { plain "[Ljava/lang/Object;" (some 0) with kind := .array 0 (.object "java/lang/Object"), interfaces := #[27, 4], accessFlags := 1041 }

/-- [Ljava/lang/String; -/
def k35 : Class := { plain "[Ljava/lang/String;" (some 0) with kind := .array 9 (.object "java/lang/String"), interfaces := #[27, 4], accessFlags := 1041 }

def heap : Heap := #[{ cls := 6, slots := #[.ref 5, .ref 6, .ref 7, .null], vm := .statics 6 },
  { cls := 9, slots := #[.long 0, .int 1, .null, .int 0, .null, .int 0, .int 0], vm := .statics 9 },
  { cls := 15, slots := #[.long 0, .int 0, .null, .ref 15, .ref 14, .null, .null, .null, .int 0, .int 1], vm := .statics 15 },
  { cls := 25, slots := #[.null, .null, .null], vm := .statics 25 },
  { cls := 34, slots := #[], vm := .none },
  { cls := 6, slots := #[.null, .int 0, .int 0, .ref 8], vm := .none },
  { cls := 6, slots := #[.null, .int 1, .int 0, .ref 9], vm := .none },
  { cls := 6, slots := #[.null, .int 2, .int 0, .ref 10], vm := .none },
  { cls := 9, slots := #[.ref 11, .int 0, .int 0, .int 0], vm := .none },
  { cls := 9, slots := #[.ref 12, .int 0, .int 0, .int 0], vm := .none },
  { cls := 9, slots := #[.ref 13, .int 0, .int 0, .int 0], vm := .none },
  { cls := 29, slots := #[.int 115, .int 104, .int 97, .int 100, .int 111, .int 119, .int 101, .int 100], vm := .none },
  { cls := 29, slots := #[.int 117, .int 110, .int 114, .int 101, .int 97, .int 99, .int 104, .int 97, .int 98, .int 108, .int 101], vm := .none },
  { cls := 29, slots := #[.int 98, .int 111, .int 116, .int 104, .int 45, .int 108, .int 105, .int 115, .int 116, .int 115], vm := .none },
  { cls := 21, slots := #[.ref 4, .int 0], vm := .none },
  { cls := 0, slots := #[], vm := .none }]
def classes : Array Class := #[k0, k1, k2, k3, k4, k5, k6, k7, k8, k9, k10, k11, k12, k13, k14, k15, k16, k17, k18, k19, k20, k21, k22, k23, k24, k25, k26, k27, k28, k29, k30, k31, k32, k33, k34, k35]
def interned : List (Array UInt16 × Addr) := []
def slotsUsed : Nat := 79
def theMethod : MethodId := ⟨1, 3⟩
def args0 : Array Value := #[.int 5, .int 2, .int 7, .int 9, .int 11]
def aboutOver (below : List Frame) : State where
  vm := { classes := classes, interned := interned.toArray }
  heap := heap
  slotsUsed := slotsUsed
  threads := #[{ frames := .invoking theMethod args0 :: below }]
def below0 : List Frame := [.native { method := ⟨0, 0⟩, args := #[] }]
def about1 : State := aboutOver below0
def p0 : Program := .bare "" "" ""
def e0 : Env := launch0.env 0 0 0
theorem w_frames : about1.frames = Frame.invoking theMethod args0 :: below0 := rfl
set_option maxRecDepth 65536 in
theorem w_args : argsFit about1.vm theMethod args0 = true := by decide +kernel
set_option maxRecDepth 65536 in
theorem w_heap : heapFits about1 = true := by decide +kernel
set_option maxRecDepth 65536 in
theorem w_runnable : about1.curStatus? = some .runnable := by decide +kernel
set_option maxRecDepth 65536 in
theorem w_alone : about1.alone = true := by decide +kernel
set_option maxRecDepth 65536 in
theorem w_named : about1.methodNamed? x = some theMethod := by decide +kernel
set_option maxRecDepth 65536 in
theorem w_hears : about1.hears theMethod below0 = true := by decide +kernel
set_option maxRecDepth 65536 in
theorem w_ripe : about1.ripe theMethod args0 below0 = true := by decide +kernel
theorem w_running : about1.status = .running := rfl
set_option maxRecDepth 65536 in
theorem w_room : about1.hasRoom e0.platform room_1 = true :=
  launch0.hasRoom_least _ room_1 (by decide +kernel) (by decide +kernel) (by decide +kernel) (by decide +kernel) (by decide +kernel) (by decide +kernel)
theorem allAtoms_all (ts : List Jvm.Cond) (a : Array Jvm.Value) (st : Jvm.State) : (allAtoms ts).before a st = ts.all (fun c => c.before a st) := by
  induction ts with
  | nil => rfl
  | cons c t ih =>
    show (Jvm.Cond.and c (allAtoms t)).before a st = _
    rw [Jvm.Cond.before_and, ih, List.all_cons]
def words1 : List Jvm.Cond := Jvm.Cond.code x code maxLocals ret :: tables_1
/-- a 'code' word, met by the world's own term for the bytes: nothing is compared byte by byte -/
theorem code_word {y : MethodName} {bytes : ByteArray} {mx : Nat} {rt : Option FieldType} {a : Array Value} {s : State} {m : MethodId} {meth : Method} {c : Code} (h1 : s.methodNamed? y = some m) (h2 : s.vm.method? m = some meth) (h3 : meth.code = some c) (h4 : c.code = bytes)
    (h5 : (c.maxLocals == mx && c.exceptionTable.isEmpty && decide (c.maxStack ≤ mostOperands) && decide (meth.sig.returnType = rt) && !meth.locks && decide (parseMethodDescriptor y.desc = some meth.sig)) = true) : (Jvm.Cond.code y bytes mx rt).before a s = true := by
  simp only [Bool.and_eq_true, beq_iff_eq, Bool.not_eq_true', decide_eq_true_eq] at h5
  obtain ⟨⟨⟨⟨⟨g1, g2⟩, g3⟩, g4⟩, g5⟩, g6⟩ := h5
  simp [Cond.before, Cond.holds, Cond.value, h1, h2, h3, h4, g1, g2, g3, g4, g5, g6]
def isCode : Jvm.Cond → Bool
  | .code _ _ _ _ => true
  | _ => false
theorem all_split {L : List Jvm.Cond} {P : Jvm.Cond → Bool} (h1 : L.all (fun c => isCode c || P c) = true) (h2 : ∀ c ∈ L.filter isCode, P c = true) : L.all P = true := by
  refine List.all_eq_true.mpr fun c hc => ?_
  have h := List.all_eq_true.mp h1 c hc
  rcases Bool.eq_false_or_eq_true (isCode c) with hi | hi
  · exact h2 c (List.mem_filter.mpr ⟨hc, hi⟩)
  · simpa [hi] using h
set_option maxRecDepth 65536 in
theorem w_c0 : (Jvm.Cond.code x code maxLocals ret).before args0 about1 = true := code_word (m := ⟨1, 3⟩) (meth := k1m3) (c := k1c3) (by decide +kernel) rfl rfl rfl (by decide +kernel)
set_option maxRecDepth 65536 in
theorem w_c1 : (Jvm.Cond.code ({ cls := "com/example/verdict_ladder/verdictladder/lint/FindingLinePinLaw", name := "str", desc := "(I)Ljava/lang/String;" } : Jvm.MethodName) method_2_code (4 : Nat) (Option.some (Jvm.ClassFile.FieldType.object "java/lang/String"))).before args0 about1 = true := code_word (m := ⟨1, 1⟩) (meth := k1m1) (c := k1c1) (by decide +kernel) rfl rfl rfl (by decide +kernel)
set_option maxRecDepth 65536 in
theorem w_c2 : (Jvm.Cond.code ({ cls := "java/lang/String", name := "<init>", desc := "([C)V" } : Jvm.MethodName) jdk_42_method_3_code (2 : Nat) (Option.none : Option Jvm.ClassFile.FieldType)).before args0 about1 = true := code_word (m := ⟨9, 1⟩) (meth := k9m1) (c := k9c1) (by decide +kernel) rfl rfl rfl (by decide +kernel)
set_option maxRecDepth 65536 in
theorem w_c3 : (Jvm.Cond.code ({ cls := "java/lang/String", name := "<init>", desc := "([CIILjava/lang/Void;)V" } : Jvm.MethodName) jdk_42_method_149_code (6 : Nat) (Option.none : Option Jvm.ClassFile.FieldType)).before args0 about1 = true := code_word (m := ⟨9, 4⟩) (meth := k9m4) (c := k9c4) (by decide +kernel) rfl rfl rfl (by decide +kernel)
set_option maxRecDepth 65536 in
theorem w_c4 : (Jvm.Cond.code ({ cls := "java/lang/Object", name := "<init>", desc := "()V" } : Jvm.MethodName) object_method_1_code (1 : Nat) (Option.none : Option Jvm.ClassFile.FieldType)).before args0 about1 = true := code_word (m := ⟨0, 0⟩) (meth := k0m0) (c := k0c0) (by decide +kernel) rfl rfl rfl (by decide +kernel)
set_option maxRecDepth 65536 in
theorem w_c5 : (Jvm.Cond.code ({ cls := "com/example/verdict_ladder/verdictladder/lint/Finding", name := "<init>", desc := "(Lcom/example/verdict_ladder/verdictladder/lint/Finding$Kind;[Ljava/lang/String;)V" } : Jvm.MethodName) prog_16_method_1_code (3 : Nat) (Option.none : Option Jvm.ClassFile.FieldType)).before args0 about1 = true := code_word (m := ⟨10, 0⟩) (meth := k10m0) (c := k10c0) (by decide +kernel) rfl rfl rfl (by decide +kernel)
set_option maxRecDepth 65536 in
theorem w_c6 : (Jvm.Cond.code ({ cls := "java/util/List", name := "of", desc := "([Ljava/lang/Object;)Ljava/util/List;" } : Jvm.MethodName) jdk_40_method_47_code (2 : Nat) (Option.some (Jvm.ClassFile.FieldType.object "java/util/List"))).before args0 about1 = true := code_word (m := ⟨14, 2⟩) (meth := k14m2) (c := k14c2) (by decide +kernel) rfl rfl rfl (by decide +kernel)
set_option maxRecDepth 65536 in
theorem w_c7 : (Jvm.Cond.code ({ cls := "java/util/ImmutableCollections", name := "listFromArray", desc := "([Ljava/lang/Object;)Ljava/util/List;" } : Jvm.MethodName) jdk_56_method_4_code (3 : Nat) (Option.some (Jvm.ClassFile.FieldType.object "java/util/List"))).before args0 about1 = true := code_word (m := ⟨15, 1⟩) (meth := k15m1) (c := k15c1) (by decide +kernel) rfl rfl rfl (by decide +kernel)
set_option maxRecDepth 65536 in
theorem w_c8 : (Jvm.Cond.code ({ cls := "java/util/Objects", name := "requireNonNull", desc := "(Ljava/lang/Object;)Ljava/lang/Object;" } : Jvm.MethodName) jdk_31_method_10_code (1 : Nat) (Option.some (Jvm.ClassFile.FieldType.object "java/lang/Object"))).before args0 about1 = true := code_word (m := ⟨16, 1⟩) (meth := k16m1) (c := k16c1) (by decide +kernel) rfl rfl rfl (by decide +kernel)
set_option maxRecDepth 65536 in
theorem w_c9 : (Jvm.Cond.code ({ cls := "java/util/ImmutableCollections$ListN", name := "<init>", desc := "([Ljava/lang/Object;Z)V" } : Jvm.MethodName) jdk_45_method_1_code (3 : Nat) (Option.none : Option Jvm.ClassFile.FieldType)).before args0 about1 = true := code_word (m := ⟨21, 0⟩) (meth := k21m0) (c := k21c0) (by decide +kernel) rfl rfl rfl (by decide +kernel)
set_option maxRecDepth 65536 in
theorem w_c10 : (Jvm.Cond.code ({ cls := "java/util/ImmutableCollections$AbstractImmutableList", name := "<init>", desc := "()V" } : Jvm.MethodName) jdk_46_method_1_code (1 : Nat) (Option.none : Option Jvm.ClassFile.FieldType)).before args0 about1 = true := code_word (m := ⟨20, 0⟩) (meth := k20m0) (c := k20c0) (by decide +kernel) rfl rfl rfl (by decide +kernel)
set_option maxRecDepth 65536 in
theorem w_c11 : (Jvm.Cond.code ({ cls := "java/util/ImmutableCollections$AbstractImmutableCollection", name := "<init>", desc := "()V" } : Jvm.MethodName) jdk_47_method_1_code (1 : Nat) (Option.none : Option Jvm.ClassFile.FieldType)).before args0 about1 = true := code_word (m := ⟨18, 0⟩) (meth := k18m0) (c := k18c0) (by decide +kernel) rfl rfl rfl (by decide +kernel)
set_option maxRecDepth 65536 in
theorem w_c12 : (Jvm.Cond.code ({ cls := "java/util/AbstractCollection", name := "<init>", desc := "()V" } : Jvm.MethodName) jdk_22_method_1_code (1 : Nat) (Option.none : Option Jvm.ClassFile.FieldType)).before args0 about1 = true := code_word (m := ⟨17, 0⟩) (meth := k17m0) (c := k17c0) (by decide +kernel) rfl rfl rfl (by decide +kernel)
set_option maxRecDepth 65536 in
theorem w_c13 : (Jvm.Cond.code ({ cls := "com/example/verdict_ladder/verdictladder/lint/Finding", name := "line", desc := "()[Ljava/lang/String;" } : Jvm.MethodName) prog_16_method_4_code (3 : Nat) (Option.some (Jvm.ClassFile.FieldType.array (Jvm.ClassFile.FieldType.object "java/lang/String")))).before args0 about1 = true := code_word (m := ⟨10, 1⟩) (meth := k10m1) (c := k10c1) (by decide +kernel) rfl rfl rfl (by decide +kernel)
set_option maxRecDepth 65536 in
theorem w_c14 : (Jvm.Cond.code ({ cls := "java/util/ImmutableCollections$ListN", name := "size", desc := "()I" } : Jvm.MethodName) jdk_45_method_3_code (1 : Nat) (Option.some Jvm.ClassFile.FieldType.int)).before args0 about1 = true := code_word (m := ⟨21, 1⟩) (meth := k21m1) (c := k21c1) (by decide +kernel) rfl rfl rfl (by decide +kernel)
set_option maxRecDepth 65536 in
theorem w_c15 : (Jvm.Cond.code ({ cls := "com/example/verdict_ladder/verdictladder/lint/Finding$Kind", name := "token", desc := "()Ljava/lang/String;" } : Jvm.MethodName) prog_17_method_4_code (1 : Nat) (Option.some (Jvm.ClassFile.FieldType.object "java/lang/String"))).before args0 about1 = true := code_word (m := ⟨6, 0⟩) (meth := k6m0) (c := k6c0) (by decide +kernel) rfl rfl rfl (by decide +kernel)
set_option maxRecDepth 65536 in
theorem w_c16 : (Jvm.Cond.code ({ cls := "java/util/ImmutableCollections$ListN", name := "get", desc := "(I)Ljava/lang/Object;" } : Jvm.MethodName) jdk_45_method_4_code (2 : Nat) (Option.some (Jvm.ClassFile.FieldType.object "java/lang/Object"))).before args0 about1 = true := code_word (m := ⟨21, 2⟩) (meth := k21m2) (c := k21c2) (by decide +kernel) rfl rfl rfl (by decide +kernel)
set_option maxRecDepth 65536 in
theorem w_c17 : (Jvm.Cond.code ({ cls := "com/example/verdict_ladder/verdictladder/lint/FindingLinePinLaw", name := "matches", desc := "([Ljava/lang/String;ILjava/lang/String;Ljava/lang/String;Ljava/lang/String;Ljava/lang/String;)Z" } : Jvm.MethodName) method_3_code (6 : Nat) (Option.some Jvm.ClassFile.FieldType.boolean)).before args0 about1 = true := code_word (m := ⟨1, 2⟩) (meth := k1m2) (c := k1c2) (by decide +kernel) rfl rfl rfl (by decide +kernel)
set_option maxRecDepth 65536 in
theorem w_c18 : (Jvm.Cond.code ({ cls := "java/lang/String", name := "equals", desc := "(Ljava/lang/Object;)Z" } : Jvm.MethodName) jdk_42_method_66_code (3 : Nat) (Option.some Jvm.ClassFile.FieldType.boolean)).before args0 about1 = true := code_word (m := ⟨9, 2⟩) (meth := k9m2) (c := k9c2) (by decide +kernel) rfl rfl rfl (by decide +kernel)
set_option maxRecDepth 65536 in
theorem w_c19 : (Jvm.Cond.code ({ cls := "java/lang/StringLatin1", name := "equals", desc := "([B[B)Z" } : Jvm.MethodName) jdk_43_method_13_code (3 : Nat) (Option.some Jvm.ClassFile.FieldType.boolean)).before args0 about1 = true := code_word (m := ⟨22, 2⟩) (meth := k22m2) (c := k22c2) (by decide +kernel) rfl rfl rfl (by decide +kernel)
set_option maxRecDepth 65536 in
theorem w_c20 : (Jvm.Cond.code ({ cls := "java/util/ImmutableCollections$List12", name := "<init>", desc := "(Ljava/lang/Object;Ljava/lang/Object;)V" } : Jvm.MethodName) jdk_44_method_2_code (3 : Nat) (Option.none : Option Jvm.ClassFile.FieldType)).before args0 about1 = true := code_word (m := ⟨23, 1⟩) (meth := k23m1) (c := k23c1) (by decide +kernel) rfl rfl rfl (by decide +kernel)
set_option maxRecDepth 65536 in
theorem w_c21 : (Jvm.Cond.code ({ cls := "java/util/ImmutableCollections$List12", name := "size", desc := "()I" } : Jvm.MethodName) jdk_44_method_3_code (1 : Nat) (Option.some Jvm.ClassFile.FieldType.int)).before args0 about1 = true := code_word (m := ⟨23, 2⟩) (meth := k23m2) (c := k23c2) (by decide +kernel) rfl rfl rfl (by decide +kernel)
set_option maxRecDepth 65536 in
theorem w_c22 : (Jvm.Cond.code ({ cls := "java/util/ImmutableCollections$List12", name := "get", desc := "(I)Ljava/lang/Object;" } : Jvm.MethodName) jdk_44_method_5_code (2 : Nat) (Option.some (Jvm.ClassFile.FieldType.object "java/lang/Object"))).before args0 about1 = true := code_word (m := ⟨23, 3⟩) (meth := k23m3) (c := k23c3) (by decide +kernel) rfl rfl rfl (by decide +kernel)
set_option maxRecDepth 65536 in
theorem w_c23 : (Jvm.Cond.code ({ cls := "java/lang/StringUTF16", name := "compress", desc := "([CII)[B" } : Jvm.MethodName) jdk_52_method_16_code (6 : Nat) (Option.some (Jvm.ClassFile.FieldType.array Jvm.ClassFile.FieldType.byte))).before args0 about1 = true := code_word (m := ⟨24, 2⟩) (meth := k24m2) (c := k24c2) (by decide +kernel) rfl rfl rfl (by decide +kernel)
set_option maxRecDepth 65536 in
theorem w_c24 : (Jvm.Cond.code ({ cls := "java/lang/StringUTF16", name := "compress", desc := "([CI[BII)I" } : Jvm.MethodName) jdk_52_method_21_code (7 : Nat) (Option.some Jvm.ClassFile.FieldType.int)).before args0 about1 = true := code_word (m := ⟨24, 3⟩) (meth := k24m3) (c := k24c3) (by decide +kernel) rfl rfl rfl (by decide +kernel)
set_option maxRecDepth 65536 in
theorem w_c25 : (Jvm.Cond.code ({ cls := "java/lang/StringUTF16", name := "coderFromArrayLen", desc := "([BI)B" } : Jvm.MethodName) jdk_52_method_15_code (2 : Nat) (Option.some Jvm.ClassFile.FieldType.byte)).before args0 about1 = true := code_word (m := ⟨24, 1⟩) (meth := k24m1) (c := k24c1) (by decide +kernel) rfl rfl rfl (by decide +kernel)
set_option maxRecDepth 65536 in
theorem w_c26 : (Jvm.Cond.code ({ cls := "java/lang/String", name := "valueOf", desc := "(C)Ljava/lang/String;" } : Jvm.MethodName) jdk_42_method_139_code (1 : Nat) (Option.some (Jvm.ClassFile.FieldType.object "java/lang/String"))).before args0 about1 = true := code_word (m := ⟨9, 3⟩) (meth := k9m3) (c := k9c3) (by decide +kernel) rfl rfl rfl (by decide +kernel)
set_option maxRecDepth 65536 in
theorem w_c27 : (Jvm.Cond.code ({ cls := "java/lang/StringLatin1", name := "canEncode", desc := "(C)Z" } : Jvm.MethodName) jdk_43_method_3_code (1 : Nat) (Option.some Jvm.ClassFile.FieldType.boolean)).before args0 about1 = true := code_word (m := ⟨22, 1⟩) (meth := k22m1) (c := k22c1) (by decide +kernel) rfl rfl rfl (by decide +kernel)
set_option maxRecDepth 65536 in
theorem w_c28 : (Jvm.Cond.code ({ cls := "java/lang/StringLatin1", name := "toBytes", desc := "(C)[B" } : Jvm.MethodName) jdk_43_method_46_code (1 : Nat) (Option.some (Jvm.ClassFile.FieldType.array Jvm.ClassFile.FieldType.byte))).before args0 about1 = true := code_word (m := ⟨22, 3⟩) (meth := k22m3) (c := k22c3) (by decide +kernel) rfl rfl rfl (by decide +kernel)
set_option maxRecDepth 65536 in
theorem w_c29 : (Jvm.Cond.code ({ cls := "java/lang/String", name := "<init>", desc := "([BB)V" } : Jvm.MethodName) jdk_42_method_151_code (3 : Nat) (Option.none : Option Jvm.ClassFile.FieldType)).before args0 about1 = true := code_word (m := ⟨9, 5⟩) (meth := k9m5) (c := k9c5) (by decide +kernel) rfl rfl rfl (by decide +kernel)
set_option maxRecDepth 65536 in
theorem w_c30 : (Jvm.Cond.code ({ cls := "java/util/ImmutableCollections$List12", name := "<init>", desc := "(Ljava/lang/Object;)V" } : Jvm.MethodName) jdk_44_method_1_code (2 : Nat) (Option.none : Option Jvm.ClassFile.FieldType)).before args0 about1 = true := code_word (m := ⟨23, 0⟩) (meth := k23m0) (c := k23c0) (by decide +kernel) rfl rfl rfl (by decide +kernel)
def codes1 : List Jvm.Cond := [Jvm.Cond.code x code maxLocals ret, Jvm.Cond.code ({ cls := "com/example/verdict_ladder/verdictladder/lint/FindingLinePinLaw", name := "str", desc := "(I)Ljava/lang/String;" } : Jvm.MethodName) method_2_code (4 : Nat) (Option.some (Jvm.ClassFile.FieldType.object "java/lang/String")), Jvm.Cond.code ({ cls := "java/lang/String", name := "<init>", desc := "([C)V" } : Jvm.MethodName) jdk_42_method_3_code (2 : Nat) (Option.none : Option Jvm.ClassFile.FieldType), Jvm.Cond.code ({ cls := "java/lang/String", name := "<init>", desc := "([CIILjava/lang/Void;)V" } : Jvm.MethodName) jdk_42_method_149_code (6 : Nat) (Option.none : Option Jvm.ClassFile.FieldType), Jvm.Cond.code ({ cls := "java/lang/Object", name := "<init>", desc := "()V" } : Jvm.MethodName) object_method_1_code (1 : Nat) (Option.none : Option Jvm.ClassFile.FieldType), Jvm.Cond.code ({ cls := "com/example/verdict_ladder/verdictladder/lint/Finding", name := "<init>", desc := "(Lcom/example/verdict_ladder/verdictladder/lint/Finding$Kind;[Ljava/lang/String;)V" } : Jvm.MethodName) prog_16_method_1_code (3 : Nat) (Option.none : Option Jvm.ClassFile.FieldType), Jvm.Cond.code ({ cls := "java/util/List", name := "of", desc := "([Ljava/lang/Object;)Ljava/util/List;" } : Jvm.MethodName) jdk_40_method_47_code (2 : Nat) (Option.some (Jvm.ClassFile.FieldType.object "java/util/List")), Jvm.Cond.code ({ cls := "java/util/ImmutableCollections", name := "listFromArray", desc := "([Ljava/lang/Object;)Ljava/util/List;" } : Jvm.MethodName) jdk_56_method_4_code (3 : Nat) (Option.some (Jvm.ClassFile.FieldType.object "java/util/List")), Jvm.Cond.code ({ cls := "java/util/Objects", name := "requireNonNull", desc := "(Ljava/lang/Object;)Ljava/lang/Object;" } : Jvm.MethodName) jdk_31_method_10_code (1 : Nat) (Option.some (Jvm.ClassFile.FieldType.object "java/lang/Object")), Jvm.Cond.code ({ cls := "java/util/ImmutableCollections$ListN", name := "<init>", desc := "([Ljava/lang/Object;Z)V" } : Jvm.MethodName) jdk_45_method_1_code (3 : Nat) (Option.none : Option Jvm.ClassFile.FieldType), Jvm.Cond.code ({ cls := "java/util/ImmutableCollections$AbstractImmutableList", name := "<init>", desc := "()V" } : Jvm.MethodName) jdk_46_method_1_code (1 : Nat) (Option.none : Option Jvm.ClassFile.FieldType), Jvm.Cond.code ({ cls := "java/util/ImmutableCollections$AbstractImmutableCollection", name := "<init>", desc := "()V" } : Jvm.MethodName) jdk_47_method_1_code (1 : Nat) (Option.none : Option Jvm.ClassFile.FieldType), Jvm.Cond.code ({ cls := "java/util/AbstractCollection", name := "<init>", desc := "()V" } : Jvm.MethodName) jdk_22_method_1_code (1 : Nat) (Option.none : Option Jvm.ClassFile.FieldType), Jvm.Cond.code ({ cls := "com/example/verdict_ladder/verdictladder/lint/Finding", name := "line", desc := "()[Ljava/lang/String;" } : Jvm.MethodName) prog_16_method_4_code (3 : Nat) (Option.some (Jvm.ClassFile.FieldType.array (Jvm.ClassFile.FieldType.object "java/lang/String"))), Jvm.Cond.code ({ cls := "java/util/ImmutableCollections$ListN", name := "size", desc := "()I" } : Jvm.MethodName) jdk_45_method_3_code (1 : Nat) (Option.some Jvm.ClassFile.FieldType.int), Jvm.Cond.code ({ cls := "com/example/verdict_ladder/verdictladder/lint/Finding$Kind", name := "token", desc := "()Ljava/lang/String;" } : Jvm.MethodName) prog_17_method_4_code (1 : Nat) (Option.some (Jvm.ClassFile.FieldType.object "java/lang/String")), Jvm.Cond.code ({ cls := "java/util/ImmutableCollections$ListN", name := "get", desc := "(I)Ljava/lang/Object;" } : Jvm.MethodName) jdk_45_method_4_code (2 : Nat) (Option.some (Jvm.ClassFile.FieldType.object "java/lang/Object")), Jvm.Cond.code ({ cls := "com/example/verdict_ladder/verdictladder/lint/FindingLinePinLaw", name := "matches", desc := "([Ljava/lang/String;ILjava/lang/String;Ljava/lang/String;Ljava/lang/String;Ljava/lang/String;)Z" } : Jvm.MethodName) method_3_code (6 : Nat) (Option.some Jvm.ClassFile.FieldType.boolean), Jvm.Cond.code ({ cls := "java/lang/String", name := "equals", desc := "(Ljava/lang/Object;)Z" } : Jvm.MethodName) jdk_42_method_66_code (3 : Nat) (Option.some Jvm.ClassFile.FieldType.boolean), Jvm.Cond.code ({ cls := "java/lang/StringLatin1", name := "equals", desc := "([B[B)Z" } : Jvm.MethodName) jdk_43_method_13_code (3 : Nat) (Option.some Jvm.ClassFile.FieldType.boolean), Jvm.Cond.code ({ cls := "java/util/ImmutableCollections$List12", name := "<init>", desc := "(Ljava/lang/Object;Ljava/lang/Object;)V" } : Jvm.MethodName) jdk_44_method_2_code (3 : Nat) (Option.none : Option Jvm.ClassFile.FieldType), Jvm.Cond.code ({ cls := "java/util/ImmutableCollections$List12", name := "size", desc := "()I" } : Jvm.MethodName) jdk_44_method_3_code (1 : Nat) (Option.some Jvm.ClassFile.FieldType.int), Jvm.Cond.code ({ cls := "java/util/ImmutableCollections$List12", name := "get", desc := "(I)Ljava/lang/Object;" } : Jvm.MethodName) jdk_44_method_5_code (2 : Nat) (Option.some (Jvm.ClassFile.FieldType.object "java/lang/Object")), Jvm.Cond.code ({ cls := "java/lang/StringUTF16", name := "compress", desc := "([CII)[B" } : Jvm.MethodName) jdk_52_method_16_code (6 : Nat) (Option.some (Jvm.ClassFile.FieldType.array Jvm.ClassFile.FieldType.byte)), Jvm.Cond.code ({ cls := "java/lang/StringUTF16", name := "compress", desc := "([CI[BII)I" } : Jvm.MethodName) jdk_52_method_21_code (7 : Nat) (Option.some Jvm.ClassFile.FieldType.int), Jvm.Cond.code ({ cls := "java/lang/StringUTF16", name := "coderFromArrayLen", desc := "([BI)B" } : Jvm.MethodName) jdk_52_method_15_code (2 : Nat) (Option.some Jvm.ClassFile.FieldType.byte), Jvm.Cond.code ({ cls := "java/lang/String", name := "valueOf", desc := "(C)Ljava/lang/String;" } : Jvm.MethodName) jdk_42_method_139_code (1 : Nat) (Option.some (Jvm.ClassFile.FieldType.object "java/lang/String")), Jvm.Cond.code ({ cls := "java/lang/StringLatin1", name := "canEncode", desc := "(C)Z" } : Jvm.MethodName) jdk_43_method_3_code (1 : Nat) (Option.some Jvm.ClassFile.FieldType.boolean), Jvm.Cond.code ({ cls := "java/lang/StringLatin1", name := "toBytes", desc := "(C)[B" } : Jvm.MethodName) jdk_43_method_46_code (1 : Nat) (Option.some (Jvm.ClassFile.FieldType.array Jvm.ClassFile.FieldType.byte)), Jvm.Cond.code ({ cls := "java/lang/String", name := "<init>", desc := "([BB)V" } : Jvm.MethodName) jdk_42_method_151_code (3 : Nat) (Option.none : Option Jvm.ClassFile.FieldType), Jvm.Cond.code ({ cls := "java/util/ImmutableCollections$List12", name := "<init>", desc := "(Ljava/lang/Object;)V" } : Jvm.MethodName) jdk_44_method_1_code (2 : Nat) (Option.none : Option Jvm.ClassFile.FieldType)]
set_option maxRecDepth 65536 in
theorem codes_eq : words1.filter isCode = codes1 := rfl
theorem w_codes : ∀ c ∈ words1.filter isCode, c.before args0 about1 = true := by
  rw [codes_eq]
  intro c hc
  simp only [codes1, List.mem_cons, List.not_mem_nil, or_false] at hc
  rcases hc with rfl | rfl | rfl | rfl | rfl | rfl | rfl | rfl | rfl | rfl | rfl | rfl | rfl | rfl | rfl | rfl | rfl | rfl | rfl | rfl | rfl | rfl | rfl | rfl | rfl | rfl | rfl | rfl | rfl | rfl | rfl
  · exact w_c0
  · exact w_c1
  · exact w_c2
  · exact w_c3
  · exact w_c4
  · exact w_c5
  · exact w_c6
  · exact w_c7
  · exact w_c8
  · exact w_c9
  · exact w_c10
  · exact w_c11
  · exact w_c12
  · exact w_c13
  · exact w_c14
  · exact w_c15
  · exact w_c16
  · exact w_c17
  · exact w_c18
  · exact w_c19
  · exact w_c20
  · exact w_c21
  · exact w_c22
  · exact w_c23
  · exact w_c24
  · exact w_c25
  · exact w_c26
  · exact w_c27
  · exact w_c28
  · exact w_c29
  · exact w_c30
set_option maxRecDepth 65536 in
theorem w_t1 : (words1.take 24).all (fun c => isCode c || c.before args0 about1) = true := by decide +kernel
set_option maxRecDepth 65536 in
theorem w_t2 : ((words1.drop 24).take 24).all (fun c => isCode c || c.before args0 about1) = true := by decide +kernel
set_option maxRecDepth 65536 in
theorem w_t3 : (((words1.drop 24).drop 24).take 24).all (fun c => isCode c || c.before args0 about1) = true := by decide +kernel
set_option maxRecDepth 65536 in
theorem w_t4 : ((((words1.drop 24).drop 24).drop 24).take 24).all (fun c => isCode c || c.before args0 about1) = true := by decide +kernel
set_option maxRecDepth 65536 in
theorem w_t5 : (((((words1.drop 24).drop 24).drop 24).drop 24).take 24).all (fun c => isCode c || c.before args0 about1) = true := by decide +kernel
set_option maxRecDepth 65536 in
theorem w_t6 : ((((((words1.drop 24).drop 24).drop 24).drop 24).drop 24).take 24).all (fun c => isCode c || c.before args0 about1) = true := by decide +kernel
set_option maxRecDepth 65536 in
theorem w_t7 : (((((((words1.drop 24).drop 24).drop 24).drop 24).drop 24).drop 24).take 24).all (fun c => isCode c || c.before args0 about1) = true := by decide +kernel
set_option maxRecDepth 65536 in
theorem w_t8 : ((((((((words1.drop 24).drop 24).drop 24).drop 24).drop 24).drop 24).drop 24).take 24).all (fun c => isCode c || c.before args0 about1) = true := by decide +kernel
set_option maxRecDepth 65536 in
theorem w_t9 : ((((((((words1.drop 24).drop 24).drop 24).drop 24).drop 24).drop 24).drop 24).drop 24).all (fun c => isCode c || c.before args0 about1) = true := by decide +kernel
theorem w_tables : (allAtoms (Jvm.Cond.code x code maxLocals ret :: tables_1)).before args0 about1 = true := by
  rw [allAtoms_all]
  show words1.all (fun c => c.before args0 about1) = true
  refine all_split ?_ w_codes
  rw [← List.take_append_drop 24 words1, List.all_append, w_t1, ← List.take_append_drop 24 (words1.drop 24), List.all_append, w_t2, ← List.take_append_drop 24 ((words1.drop 24).drop 24), List.all_append, w_t3, ← List.take_append_drop 24 (((words1.drop 24).drop 24).drop 24), List.all_append, w_t4, ← List.take_append_drop 24 ((((words1.drop 24).drop 24).drop 24).drop 24), List.all_append, w_t5, ← List.take_append_drop 24 (((((words1.drop 24).drop 24).drop 24).drop 24).drop 24), List.all_append, w_t6, ← List.take_append_drop 24 ((((((words1.drop 24).drop 24).drop 24).drop 24).drop 24).drop 24), List.all_append, w_t7, ← List.take_append_drop 24 (((((((words1.drop 24).drop 24).drop 24).drop 24).drop 24).drop 24).drop 24), List.all_append, w_t8, w_t9]
  rfl
set_option maxRecDepth 65536 in
theorem w_rest : rest_1_c.before args0 about1 = true := by decide +kernel
set_option maxRecDepth 65536 in
theorem w_case : (Jvm.Cond.and given_1 narrow_1).before args0 about1 = true := by decide +kernel
set_option maxRecDepth 65536 in
theorem w_consts : constsHeld consts_1 about1 := Jvm.Lit.constsHeldB_iff.mp (by decide +kernel)
theorem w_applies : (headSpec (Jvm.Cond.code x code maxLocals ret :: tables_1) room_1).applies x e0.platform about1 = true :=
  (Spec.applies_iff w_frames).mpr ⟨w_running, w_runnable, w_alone, w_named, w_hears, w_ripe, w_room, w_tables⟩
theorem atStart : AtStart classFile x code maxLocals ret World_1 tables_1 room_1 Calls_1 rest_1 Pre_1 launch0 p0 e0 about1 theMethod args0 below0 :=
  ⟨lists_1, trivial, launch0.admits_env _ _ _, launch0.least_env, fairChoices_fair.cas, fairChoices_fair.clock, w_frames, w_args, w_heap, w_applies, ⟨w_consts, trivial⟩, w_rest, w_case⟩
end start1
theorem witness_1 : WitnessClaimed_1 := ⟨start1.p0, start1.e0, start1.about1, start1.theMethod, start1.args0, start1.below0, start1.atStart⟩
end Jvm.Pilot.@@N@@
