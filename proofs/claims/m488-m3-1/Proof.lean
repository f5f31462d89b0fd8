import JvmDerived
import JvmDerived.Pilot.@@N@@Statement
import JvmDerived.Pilot.@@N@@Code
set_option linter.unusedVariables false
set_option linter.unusedSimpArgs false
@@BLOCK:NumsL.lean.txt@@
namespace Jvm.RoadKit
open Sem ClassFile Op Lib Jvm.Stand Jvm.Free Jvm.LawKit
section New
variable {p : Program} {l : Launch} {e : Env} {R : Room} {s : State} {m : MethodId} {args : Array Value} {below : List Frame} {meth : Method} {c : Code} {T : State} {locs : List Loc} {cells slots : Nat}
theorem retI (X : Stand p l e R s m args below meth c T locs cells slots) (hx : p.tables.exec = Jvm.exec) {pc : Nat} {Ls : Array Slot} {z : Int32} {rest : List Value} (hret : meth.sig.returnType = some .int) (hd : decode c.code pc = .ok (.ireturn, 1)) {fs : List Frame}
    (hl : ∀ (f : JFrame) (acts : List Action), f.method = m → f.locked = none → f.entered = [] → (doReturn e (T.setTop f) acts (some (.int z))).1 = T.setFrames fs) : Steps p.tables e below (T.setTop (mkF m pc Ls (.int z :: rest))) (T.setFrames fs) := by
  have hm' : T.vm.method? m = some meth := X.method'
  have hn : narrow .int (.int z) = .int z := rfl
  show Steps p.tables e below (T.setTop { method := m, pc := pc, locals := Ls, stack := _ :: rest, locked := none }) _
  jvm_step X.here [X.here.top, hx, hd, hm', hret, hn]
  first | (intro acts; rw [hl _ acts rfl rfl rfl]) | rw [hl _ _ rfl rfl rfl]
  exact Steps.refl _
end New
end Jvm.RoadKit
/- laws to paste: Road.backV (cut by pick.py; bodies as the Statement names them) -/
namespace Jvm.Pilot.@@N@@
namespace StrChars
open Jvm Sem ClassFile Op Lib Jvm.Stand Jvm.Free.XT Jvm.Free.ALB Jvm.Free.JM Jvm.Free
open Jvm.Lib.Cold (StaticIs)
/-- a char array whose places are chars -/
def Ch (a : Addr) (A : Cell) (U : State) : Prop := Arr .char a A U ∧ Typed .char A
theorem Ch.mv {a : Addr} {A : Cell} {U U' : State} (h : Ch a A U) (hal : U.vm.Alike U'.vm) (hh : U'.heap = U.heap) : Ch a A U' := ⟨h.1.mv hal hh, h.2⟩
theorem Ch.keep {a : Addr} {A : Cell} {U U' : State} (h : Ch a A U) (hal : U.vm.Alike U'.vm) (hk : U'.heap[a]? = some A) : Ch a A U' := ⟨h.1.keep hal hk, h.2⟩
/-- what place i of a char[]'s cell holds -/
def cv (A : Cell) (i : Nat) : Int32 := match A.slots[i]? with | some (.int x) => x | _ => 0
theorem Ch.get {a : Addr} {A : Cell} {U : State} (h : Ch a A U) {i : Nat} (hi : i < A.slots.size) : A.slots[i]? = some (.int (cv A i)) := by
  have e := Array.getElem?_eq_getElem hi
  have f := h.2 i _ e
  unfold cv; rw [e]
  generalize A.slots[i] = v at f
  cases v <;> simp [fits] at f ⊢
/-- the byte that i2b leaves of a char -/
def lo8 (x : Int32) : Int32 := x.toInt8.toInt32
theorem fits_lo8 (y : Int32) : fits .byte (.int (lo8 y)) = true := by
  have h1 := y.toInt8.le_toInt
  have h2 := y.toInt8.toInt_lt
  simp only [lo8, fits, Bool.and_eq_true, decide_eq_true_eq, Int32.le_iff_toInt_le, Int8.toInt_toInt32, show (-128 : Int32).toInt = -128 from by decide, show (127 : Int32).toInt = 127 from by decide]
  omega
/-- A' is A but that each place j of lo .. hi - 1 holds f j -/
def Laid (A A' : Cell) (lo hi : Nat) (f : Nat → Value) : Prop := A'.cls = A.cls ∧ A'.vm = A.vm ∧ A'.slots.size = A.slots.size ∧ ∀ i, A'.slots[i]? = if lo ≤ i ∧ i < hi then some (f i) else A.slots[i]?
theorem Laid.zero (A : Cell) (lo : Nat) (f : Nat → Value) : Laid A A lo (lo + 0) f := ⟨rfl, rfl, rfl, fun i => by rw [if_neg (by omega)]⟩
theorem Laid.step {A Ak : Cell} {lo k : Nat} {f : Nat → Value} {v : Value} (h : Laid A Ak lo k f) (hlo : lo ≤ k) (hk : k < Ak.slots.size) (hv : v = f k) : Laid A (Ak.setSlot k v) lo (k + 1) f := by
  refine ⟨h.1, h.2.1, by simpa [Cell.setSlot] using h.2.2.1, fun i => ?_⟩
  by_cases e : k = i
  · subst e; rw [Cell.slots_setSlot_self v hk, if_pos (by omega), hv]
  · rw [Cell.slots_setSlot_ne v e, h.2.2.2 i]
    by_cases q : lo ≤ i ∧ i < k
    · rw [if_pos q, if_pos (by omega)]
    · rw [if_neg q, if_neg (by omega)]
def U16 : String := "java/lang/StringUTF16"
namespace Cmp5
def yN : MethodName := ⟨"java/lang/StringUTF16", "compress", "([CI[BII)I"⟩
abbrev yB : ByteArray := jdk_52_method_21_code
theorem d0 : decode yB 0 = .ok (.iconst 0, 1) := by decide +kernel
theorem d1 : decode yB 1 = .ok (.istore 5, 2) := by decide +kernel
theorem d3 : decode yB 3 = .ok (.iload 5, 2) := by decide +kernel
theorem d5 : decode yB 5 = .ok (.iload 4, 2) := by decide +kernel
theorem d7 : decode yB 7 = .ok (.if_icmp (.ge) 37, 3) := by decide +kernel
theorem d10 : decode yB 10 = .ok (.aload_n 0, 1) := by decide +kernel
theorem d11 : decode yB 11 = .ok (.iload_n 1, 1) := by decide +kernel
theorem d12 : decode yB 12 = .ok (.caload, 1) := by decide +kernel
theorem d13 : decode yB 13 = .ok (.istore 6, 2) := by decide +kernel
theorem d15 : decode yB 15 = .ok (.iload 6, 2) := by decide +kernel
theorem d17 : decode yB 17 = .ok (.sipush 255, 3) := by decide +kernel
theorem d20 : decode yB 20 = .ok (.if_icmp (.le) 6, 3) := by decide +kernel
theorem d26 : decode yB 26 = .ok (.aload_n 2, 1) := by decide +kernel
theorem d27 : decode yB 27 = .ok (.iload_n 3, 1) := by decide +kernel
theorem d28 : decode yB 28 = .ok (.iload 6, 2) := by decide +kernel
theorem d30 : decode yB 30 = .ok (.i2b, 1) := by decide +kernel
theorem d31 : decode yB 31 = .ok (.bastore, 1) := by decide +kernel
theorem d32 : decode yB 32 = .ok (.iinc 1 1, 3) := by decide +kernel
theorem d35 : decode yB 35 = .ok (.iinc 3 1, 3) := by decide +kernel
theorem d38 : decode yB 38 = .ok (.iinc 5 1, 3) := by decide +kernel
theorem d41 : decode yB 41 = .ok (.goto (-38), 3) := by decide +kernel
theorem d44 : decode yB 44 = .ok (.iload 4, 2) := by decide +kernel
theorem d46 : decode yB 46 = .ok (.ireturn, 1) := by decide +kernel
def site : List Cond := []
def tab : Cond := tabOf yN yB 7 (some .int) site
def P (b : Addr) (A : Cell) (d : Addr) (B : Cell) (o q len : Nat) (args : Array Value) (s : State) : Prop := args = #[.ref b, .int (Int32.ofNat o), .ref d, .int (Int32.ofNat q), .int (Int32.ofNat len)] ∧ Ch b A s ∧ Arr .byte d B s ∧ b ≠ d ∧ o + len ≤ A.slots.size ∧ q + len ≤ B.slots.size ∧ ∀ i, i < len → ¬ 255 < cv A (o + i)
def E (b : Addr) (A : Cell) (d : Addr) (B : Cell) (o q len : Nat) (r : Option Value) (s u : State) : Prop := r = some (.int (Int32.ofNat len)) ∧ ∃ B', Put d B' s u ∧ Laid B B' q (q + len) (fun j => Value.int (lo8 (cv A (o + (j - q)))))
/-- no char of the range above 255: len; the places written hold each char's low byte -/
theorem law (l : Launch) (b : Addr) (A : Cell) (d : Addr) (B : Cell) (o q len : Nat) : Law l yN 5 5 0 0 yB 7 (some .int) site (P b A d B o q len) (E b A d B o q len) (copyLocs d q len) 0 0 := by
  refine Law.of_walk (plainFor_of_name (by decide +kernel)) (by decide +kernel) (by decide +kernel) (by decide) (fun _ _ h => by rw [h.1]; rfl) (fun _ U U' hal hh h => ⟨h.1, h.2.1.mv hal hh, h.2.2.1.mv hal hh, h.2.2.2⟩) (fun r U U' V V' h1 hal h2 h => ⟨h.1, h.2.elim fun B' q => ⟨B', q.1.mv h1 h2, q.2⟩⟩) ?_
  intro p e s m args below meth c s₁ X0 hexec hbytes hml hret hlk hnm hown hh0 W hP
  obtain ⟨rfl, hA, hB, hne, l1, l2, hp⟩ := hP
  have c1 : Steps p.tables e below (s₁.setTop (entryFrame m #[.ref b, .int (Int32.ofNat o), .ref d, .int (Int32.ofNat q), .int (Int32.ofNat len)] 7)) (s₁.setTop (mkF m 0 #[.val (.ref b), .val (.int (Int32.ofNat o)), .val (.ref d), .val (.int (Int32.ofNat q)), .val (.int (Int32.ofNat len)), .unset, .unset] [])) := entry rfl
  have hA0 := hA.1.mv X0.warmed.alike hh0
  have hB0 := hB.mv X0.warmed.alike hh0
  have a31 := hA.1.2.2.2
  have c2 : Steps p.tables e below (s₁.setTop (entryFrame m #[.ref b, .int (Int32.ofNat o), .ref d, .int (Int32.ofNat q), .int (Int32.ofNat len)] 7)) (s₁.setTop (mkF m 3 #[.val (.ref b), .val (.int (Int32.ofNat o)), .val (.ref d), .val (.int (Int32.ofNat q)), .val (.int (Int32.ofNat len)), .val (.int 0), .unset] [])) := c1.trans (by
    refine iconstV X0.here hexec rfl 0 (hb hbytes d0) (by decide) ?_
    refine XS.istore X0.here hexec rfl (hb hbytes d1) rfl rfl ?_
    exact Steps.refl _)
  have loop : ∀ (r i : Nat), i + r = len → ∀ (z : Slot), (z = .unset ∨ ∃ w, z = .val w ∧ w.category = 1) → ∀ (Tl : State) (Bk : Cell), Stand p l e { frames := 0, locals := 0, cells := 0, slots := 0 } s m #[.ref b, .int (Int32.ofNat o), .ref d, .int (Int32.ofNat q), .int (Int32.ofNat len)] below meth c Tl ([] ++ copyLocs d q i) 0 0 → Put d Bk s₁ Tl → Laid B Bk q (q + i) (fun j => Value.int (lo8 (cv A (o + (j - q))))) →
      Steps p.tables e below (s₁.setTop (entryFrame m #[.ref b, .int (Int32.ofNat o), .ref d, .int (Int32.ofNat q), .int (Int32.ofNat len)] 7)) (Tl.setTop (mkF m 3 #[.val (.ref b), .val (.int (Int32.ofNat (o + i))), .val (.ref d), .val (.int (Int32.ofNat (q + i))), .val (.int (Int32.ofNat len)), .val (.int (Int32.ofNat i)), z] [])) → ∃ (T' : State) (B' : Cell) (z' : Slot), Stand p l e { frames := 0, locals := 0, cells := 0, slots := 0 } s m #[.ref b, .int (Int32.ofNat o), .ref d, .int (Int32.ofNat q), .int (Int32.ofNat len)] below meth c T' ([] ++ copyLocs d q len) 0 0 ∧ Put d B' s₁ T' ∧ Laid B B' q (q + len) (fun j => Value.int (lo8 (cv A (o + (j - q))))) ∧
      Steps p.tables e below (s₁.setTop (entryFrame m #[.ref b, .int (Int32.ofNat o), .ref d, .int (Int32.ofNat q), .int (Int32.ofNat len)] 7)) (T'.setTop (mkF m 3 #[.val (.ref b), .val (.int (Int32.ofNat (o + len))), .val (.ref d), .val (.int (Int32.ofNat (q + len))), .val (.int (Int32.ofNat len)), .val (.int (Int32.ofNat len)), z'] [])) := by
    intro r
    induction r with
    | zero =>
      intro i hi z hz Tl Bk Xl pl fl cl
      have hil : i = len := by omega
      rw [hil] at Xl fl cl
      exact ⟨Tl, Bk, z, Xl, pl, fl, cl⟩
    | succ r ih =>
      intro i hi z hz Tl Bk Xl pl fl cl
      have all := X0.warmed.alike.symm.trans Xl.warmed.alike
      have hAl := hA0.keep all (pl.other hne hA0.1)
      have hBk := hB0.like all pl.1 fl.1 fl.2.1 fl.2.2.1
      have hlt : q + i < Bk.slots.size := by rw [fl.2.2.1]; omega
      have c3 : Steps p.tables e below (s₁.setTop (entryFrame m #[.ref b, .int (Int32.ofNat o), .ref d, .int (Int32.ofNat q), .int (Int32.ofNat len)] 7)) (Tl.setTop (mkF m 12 #[.val (.ref b), .val (.int (Int32.ofNat (o + i))), .val (.ref d), .val (.int (Int32.ofNat (q + i))), .val (.int (Int32.ofNat len)), .val (.int (Int32.ofNat i)), z] [.int (Int32.ofNat (o + i)), .ref b])) := cl.trans (by
        refine XS.iload Xl.here hexec rfl (hb hbytes d3) rfl ?_
        refine XS.iload Xl.here hexec rfl (hb hbytes d5) rfl ?_
        refine XS.icmpNo Xl.here hexec rfl (hb hbytes d7) rfl (ii_ge_f (lt32 (by omega) (by omega))) ?_
        refine XS.aloadN Xl.here hexec rfl (hb hbytes d10) rfl rfl ?_
        refine XS.iloadN Xl.here hexec rfl (hb hbytes d11) rfl ?_
        exact Steps.refl _)
      have c4 : Steps p.tables e below (s₁.setTop (entryFrame m #[.ref b, .int (Int32.ofNat o), .ref d, .int (Int32.ofNat q), .int (Int32.ofNat len)] 7)) (Tl.setTop (mkF m 13 #[.val (.ref b), .val (.int (Int32.ofNat (o + i))), .val (.ref d), .val (.int (Int32.ofNat (q + i))), .val (.int (Int32.ofNat len)), .val (.int (Int32.ofNat i)), z] [.int (cv A (o + i))])) := c3.trans (by
        refine Xl.aget hexec hAl rfl (hA.get (i := o + i) (by omega)) rfl rfl (hb hbytes d12) ?_
        exact Steps.refl _)
      have c5 : Steps p.tables e below (s₁.setTop (entryFrame m #[.ref b, .int (Int32.ofNat o), .ref d, .int (Int32.ofNat q), .int (Int32.ofNat len)] 7)) (Tl.setTop (mkF m 15 #[.val (.ref b), .val (.int (Int32.ofNat (o + i))), .val (.ref d), .val (.int (Int32.ofNat (q + i))), .val (.int (Int32.ofNat len)), .val (.int (Int32.ofNat i)), .val (.int (cv A (o + i)))] [])) := c4.trans (by
        refine XS.istoreS Xl.here hexec rfl (hb hbytes d13) rfl rfl hz ?_
        exact Steps.refl _)
      have c6 : Steps p.tables e below (s₁.setTop (entryFrame m #[.ref b, .int (Int32.ofNat o), .ref d, .int (Int32.ofNat q), .int (Int32.ofNat len)] 7)) (Tl.setTop (mkF m 31 #[.val (.ref b), .val (.int (Int32.ofNat (o + i))), .val (.ref d), .val (.int (Int32.ofNat (q + i))), .val (.int (Int32.ofNat len)), .val (.int (Int32.ofNat i)), .val (.int (cv A (o + i)))] [.int (lo8 (cv A (o + i))), .int (Int32.ofNat (q + i)), .ref d])) := c5.trans (by
        refine XS.iload Xl.here hexec rfl (hb hbytes d15) rfl ?_
        refine sipushV Xl.here hexec rfl 255 (hb hbytes d17) (by decide) ?_
        refine XS.icmpYes Xl.here hexec rfl (pc0 := 20) rfl (hb hbytes d20) rfl (ii_le_t (hp i (by omega))) (by decide) rfl ?_
        refine XS.aloadN Xl.here hexec rfl (hb hbytes d26) rfl rfl ?_
        refine XS.iloadN Xl.here hexec rfl (hb hbytes d27) rfl ?_
        refine XS.iload Xl.here hexec rfl (hb hbytes d28) rfl ?_
        refine i2b Xl.here hexec rfl (hb hbytes d30) rfl ?_
        exact Steps.refl _)
      obtain ⟨T7, X7, p7, st7⟩ := Xl.aput hexec hBk rfl hlt rfl (fits_lo8 (cv A (o + i))) (g := (mkF m 31 #[.val (.ref b), .val (.int (Int32.ofNat (o + i))), .val (.ref d), .val (.int (Int32.ofNat (q + i))), .val (.int (Int32.ofNat len)), .val (.int (Int32.ofNat i)), .val (.int (cv A (o + i)))] [.int (lo8 (cv A (o + i))), .int (Int32.ofNat (q + i)), .ref d])) rfl (rest := []) rfl (hb hbytes d31)
      have c8 : Steps p.tables e below (s₁.setTop (entryFrame m #[.ref b, .int (Int32.ofNat o), .ref d, .int (Int32.ofNat q), .int (Int32.ofNat len)] 7)) (T7.setTop (mkF m 32 #[.val (.ref b), .val (.int (Int32.ofNat (o + i))), .val (.ref d), .val (.int (Int32.ofNat (q + i))), .val (.int (Int32.ofNat len)), .val (.int (Int32.ofNat i)), .val (.int (cv A (o + i)))] [])) := c6.trans (st7 _ (Steps.refl _))
      have c9 : Steps p.tables e below (s₁.setTop (entryFrame m #[.ref b, .int (Int32.ofNat o), .ref d, .int (Int32.ofNat q), .int (Int32.ofNat len)] 7)) (T7.setTop (mkF m 3 #[.val (.ref b), .val (.int (Int32.ofNat (o + i) + 1)), .val (.ref d), .val (.int (Int32.ofNat (q + i) + 1)), .val (.int (Int32.ofNat len)), .val (.int (Int32.ofNat i + 1)), .val (.int (cv A (o + i)))] [])) := c8.trans (by
        refine iincV X7.here hexec rfl 1 (hb hbytes d32) (by decide) rfl rfl ?_
        refine iincV X7.here hexec rfl 1 (hb hbytes d35) (by decide) rfl rfl ?_
        refine iincV X7.here hexec rfl 1 (hb hbytes d38) (by decide) rfl rfl ?_
        refine XS.goto X7.here hexec rfl (pc0 := 41) rfl (hb hbytes d41) (by decide) rfl ?_
        exact Steps.refl _)
      have c10 : Steps p.tables e below (s₁.setTop (entryFrame m #[.ref b, .int (Int32.ofNat o), .ref d, .int (Int32.ofNat q), .int (Int32.ofNat len)] 7)) (T7.setTop (mkF m 3 #[.val (.ref b), .val (.int (Int32.ofNat (o + (i + 1)))), .val (.ref d), .val (.int (Int32.ofNat (q + (i + 1)))), .val (.int (Int32.ofNat len)), .val (.int (Int32.ofNat (i + 1))), .val (.int (cv A (o + i)))] [])) := by
        have := c9
        rw [succ32, succ32, succ32] at this
        exact this
      exact ih (i + 1) (by omega) _ (Or.inr ⟨_, rfl, rfl⟩) T7 _ (by rw [copyLocs_step, ← List.append_assoc]; exact X7) (pl.trans p7) (fl.step (by omega) hlt (by simp)) c10
  obtain ⟨T9, B9, z9, X9, p9, f9, g9⟩ := loop len 0 (by omega) .unset (Or.inl rfl) s₁ B (by simpa [copyLocs] using X0) ⟨hB0.1, fun _ _ => rfl, rfl⟩ (Laid.zero _ _ _) c2
  have c11 : Steps p.tables e below (s₁.setTop (entryFrame m #[.ref b, .int (Int32.ofNat o), .ref d, .int (Int32.ofNat q), .int (Int32.ofNat len)] 7)) (T9.setTop (mkF m 46 #[.val (.ref b), .val (.int (Int32.ofNat (o + len))), .val (.ref d), .val (.int (Int32.ofNat (q + len))), .val (.int (Int32.ofNat len)), .val (.int (Int32.ofNat len)), z9] [.int (Int32.ofNat len)])) := g9.trans (by
    refine XS.iload X9.here hexec rfl (hb hbytes d3) rfl ?_
    refine XS.iload X9.here hexec rfl (hb hbytes d5) rfl ?_
    refine XS.icmpYes X9.here hexec rfl (pc0 := 7) rfl (hb hbytes d7) rfl (ii_ge_t (nlt32 (by omega) (Nat.le_refl _))) (by decide) rfl ?_
    refine XS.iload X9.here hexec rfl (hb hbytes d44) rfl ?_
    exact Steps.refl _)
  exact ⟨T9, some (.int (Int32.ofNat len)), _, _, _, X9, by simp, rfl, rfl, (fun h => by cases h), ⟨rfl, B9, p9.from hh0, f9⟩, fun fs hl => c11.trans (X9.ireturnOut hexec hret rfl (Or.inl rfl) (hb hbytes d46) hl)⟩
end Cmp5
namespace Cmp3
def yN : MethodName := ⟨"java/lang/StringUTF16", "compress", "([CII)[B"⟩
abbrev yB : ByteArray := jdk_52_method_16_code
theorem d0 : decode yB 0 = .ok (.iload_n 2, 1) := by decide +kernel
theorem d1 : decode yB 1 = .ok (.newarray .byte, 2) := by decide +kernel
theorem d3 : decode yB 3 = .ok (.astore_n 3, 1) := by decide +kernel
theorem d4 : decode yB 4 = .ok (.aload_n 0, 1) := by decide +kernel
theorem d5 : decode yB 5 = .ok (.iload_n 1, 1) := by decide +kernel
theorem d6 : decode yB 6 = .ok (.aload_n 3, 1) := by decide +kernel
theorem d7 : decode yB 7 = .ok (.iconst 0, 1) := by decide +kernel
theorem d8 : decode yB 8 = .ok (.iload_n 2, 1) := by decide +kernel
theorem d9 : decode yB 9 = .ok (.invokestatic 115, 3) := by decide +kernel
theorem d12 : decode yB 12 = .ok (.istore 4, 2) := by decide +kernel
theorem d14 : decode yB 14 = .ok (.iload 4, 2) := by decide +kernel
theorem d16 : decode yB 16 = .ok (.iload_n 2, 1) := by decide +kernel
theorem d17 : decode yB 17 = .ok (.if_icmp (.eq) 40, 3) := by decide +kernel
theorem d57 : decode yB 57 = .ok (.aload_n 3, 1) := by decide +kernel
theorem d58 : decode yB 58 = .ok (.areturn, 1) := by decide +kernel
def site : List Cond := [.arrayClass .byte, Cmp5.tab] ++ staticW U16 115 Cmp5.yN
def tab : Cond := tabOf yN yB 6 (some (.array .byte)) site
def P (b : Addr) (A : Cell) (o len : Nat) (args : Array Value) (s : State) : Prop := args = #[.ref b, .int (Int32.ofNat o), .int (Int32.ofNat len)] ∧ Ch b A s ∧ o + len ≤ A.slots.size ∧ len ≤ 536870912 ∧ ∀ i, i < len → ¬ 255 < cv A (o + i)
def E (b : Addr) (A : Cell) (o len : Nat) (r : Option Value) (s u : State) : Prop := NewArr .byte "[B" len (fun j => .int (lo8 (cv A (o + j)))) r s u ∧ u.heap.size = s.heap.size + 1
/-- no char of the range above 255: a new byte[] of their low bytes -/
theorem law (l : Launch) (b : Addr) (A : Cell) (o len : Nat) : Law l yN 3 3 1 18 yB 6 (some (.array .byte)) site (P b A o len) (E b A o len) [] 1 len := by
  refine Law.of_walk (plainFor_of_name (by decide +kernel)) (by decide +kernel) (by decide +kernel) (by decide) (fun _ _ h => by rw [h.1]; rfl) (fun _ U U' hal hh h => ⟨h.1, h.2.1.mv hal hh, h.2.2⟩) (fun r U U' V V' h1 hal h2 h => ⟨NewArr.mv r U U' V V' h1 hal h2 h.1, by rw [h1, h2]; exact h.2⟩) ?_
  intro p e s m args below meth c s₁ X0 hexec hbytes hml hret hlk hnm hown hh0 W hP
  obtain ⟨rfl, hA, l1, l2, hp⟩ := hP
  have a31 := hA.1.2.2.2
  have c1 : Steps p.tables e below (s₁.setTop (entryFrame m #[.ref b, .int (Int32.ofNat o), .int (Int32.ofNat len)] 6)) (s₁.setTop (mkF m 0 #[.val (.ref b), .val (.int (Int32.ofNat o)), .val (.int (Int32.ofNat len)), .unset, .unset, .unset] [])) := entry rfl
  have c2 : Steps p.tables e below (s₁.setTop (entryFrame m #[.ref b, .int (Int32.ofNat o), .int (Int32.ofNat len)] 6)) (s₁.setTop (mkF m 1 #[.val (.ref b), .val (.int (Int32.ofNat o)), .val (.int (Int32.ofNat len)), .unset, .unset, .unset] [.int (Int32.ofNat len)])) := c1.trans (by
    refine XS.iloadN X0.here hexec rfl (hb hbytes d0) rfl ?_
    exact Steps.refl _)
  obtain ⟨T3, B3, X3, ba3, bs3, bv3, bh3, bf3, st3⟩ := X0.anew hexec (atype := .byte) (wk W (.arrayClass .byte)) rfl (by show len * 1 ≤ _; omega) (by omega) (g := (mkF m 1 #[.val (.ref b), .val (.int (Int32.ofNat o)), .val (.int (Int32.ofNat len)), .unset, .unset, .unset] [.int (Int32.ofNat len)])) rfl (hb hbytes d1) (rest := []) rfl (Nat.le_refl _) (by show 0 + len ≤ len; omega)
  rw [hh0] at ba3 st3
  have kp3 : XT.Kept s T3 := (XT.Kept.of_eq hh0).push bh3
  have hA3 := hA.keep X3.warmed.alike (kp3 _ _ hA.1.1)
  have hne : b ≠ s.heap.size := hA.1.ne
  have c4 : Steps p.tables e below (s₁.setTop (entryFrame m #[.ref b, .int (Int32.ofNat o), .int (Int32.ofNat len)] 6)) (T3.setTop (mkF m 3 #[.val (.ref b), .val (.int (Int32.ofNat o)), .val (.int (Int32.ofNat len)), .unset, .unset, .unset] [.ref s.heap.size])) := c2.trans (st3 _ (Steps.refl _))
  have c5 : Steps p.tables e below (s₁.setTop (entryFrame m #[.ref b, .int (Int32.ofNat o), .int (Int32.ofNat len)] 6)) (T3.setTop (mkF m 9 #[.val (.ref b), .val (.int (Int32.ofNat o)), .val (.int (Int32.ofNat len)), .val (.ref s.heap.size), .unset, .unset] [.int (Int32.ofNat len), .int 0, .ref s.heap.size, .int (Int32.ofNat o), .ref b])) := c4.trans (by
    refine XS.astoreN X3.here hexec rfl (hb hbytes d3) rfl rfl rfl ?_
    refine XS.aloadN X3.here hexec rfl (hb hbytes d4) rfl rfl ?_
    refine XS.iloadN X3.here hexec rfl (hb hbytes d5) rfl ?_
    refine XS.aloadN X3.here hexec rfl (hb hbytes d6) rfl rfl ?_
    refine iconstV X3.here hexec rfl 0 (hb hbytes d7) (by decide) ?_
    refine XS.iloadN X3.here hexec rfl (hb hbytes d8) rfl ?_
    exact Steps.refl _)
  obtain ⟨v6, T6, X6, E6, g6⟩ := X3.callS hexec (Cmp5.law l b A s.heap.size B3 o 0 len) hown (wks W (staticW U16 115 Cmp5.yN)) (wk W Cmp5.tab) (W := 0) (Nat.le_of_ble_eq_true rfl) (Nat.le_of_ble_eq_true rfl) (Nat.le_refl _) (by show 0 + len + 0 ≤ len; omega) (g := (mkF m 9 #[.val (.ref b), .val (.int (Int32.ofNat o)), .val (.int (Int32.ofNat len)), .val (.ref s.heap.size), .unset, .unset] [.int (Int32.ofNat len), .int (Int32.ofNat 0), .ref s.heap.size, .int (Int32.ofNat o), .ref b])) rfl (by rw [hml]; rfl) c5 (argsL := [.ref b, .int (Int32.ofNat o), .ref s.heap.size, .int (Int32.ofNat 0), .int (Int32.ofNat len)]) (rest := []) rfl rfl (by show 2 * 0 + 0 ≤ _; decide) (hb hbytes d9) (⟨rfl, hA3, ba3, hne, l1, by rw [bs3]; simp, hp⟩)
  obtain ⟨rfl, B6, p6, f6⟩ := E6
  have c7 : Steps p.tables e below (s₁.setTop (entryFrame m #[.ref b, .int (Int32.ofNat o), .int (Int32.ofNat len)] 6)) (T6.setTop (mkF m 12 #[.val (.ref b), .val (.int (Int32.ofNat o)), .val (.int (Int32.ofNat len)), .val (.ref s.heap.size), .unset, .unset] [.int (Int32.ofNat len)])) := g6
  have c8 : Steps p.tables e below (s₁.setTop (entryFrame m #[.ref b, .int (Int32.ofNat o), .int (Int32.ofNat len)] 6)) (T6.setTop (mkF m 58 #[.val (.ref b), .val (.int (Int32.ofNat o)), .val (.int (Int32.ofNat len)), .val (.ref s.heap.size), .val (.int (Int32.ofNat len)), .unset] [.ref s.heap.size])) := c7.trans (by
    refine XS.istore X6.here hexec rfl (hb hbytes d12) rfl rfl ?_
    refine XS.iload X6.here hexec rfl (hb hbytes d14) rfl ?_
    refine XS.iloadN X6.here hexec rfl (hb hbytes d16) rfl ?_
    refine XS.icmpYes X6.here hexec rfl (pc0 := 17) rfl (hb hbytes d17) rfl (ii_eq_t rfl) (by decide) rfl ?_
    refine XS.aloadN X6.here hexec rfl (hb hbytes d57) rfl rfl ?_
    exact Steps.refl _)
  have X8 := X6.wide (L' := []) (cells' := 1) (slots' := len) (fun x hx hlt => by
    simp only [List.nil_append, copyLocs, List.mem_map, List.mem_range] at hx
    obtain ⟨i, -, rfl⟩ := hx
    exact absurd hlt (Nat.lt_irrefl _)) (Nat.le_refl _) (by omega)
  exact ⟨T6, some (.ref s.heap.size), _, _, _, X8, rfl, rfl, rfl, (fun h => by cases h), ⟨⟨rfl, B6, ba3.like (X3.warmed.alike.symm.trans X6.warmed.alike) p6.1 f6.1 f6.2.1 f6.2.2.1, f6.2.1.trans bv3, by rw [X6.warmed.alike.findClass, f6.1]; exact bf3, by rw [f6.2.2.1, bs3]; simp, fun j hj => by rw [f6.2.2.2 j, if_pos (by omega)]; rfl, kp3.put p6 (Nat.le_refl _)⟩, by rw [p6.2.2, bh3, hh0]; simp⟩, fun fs hl => c8.trans (X8.areturnOut hexec rfl hret rfl (hb hbytes d58) hl)⟩
end Cmp3
namespace CodL
def yN : MethodName := ⟨"java/lang/StringUTF16", "coderFromArrayLen", "([BI)B"⟩
abbrev yB : ByteArray := jdk_52_method_15_code
theorem d0 : decode yB 0 = .ok (.iload_n 1, 1) := by decide +kernel
theorem d1 : decode yB 1 = .ok (.aload_n 0, 1) := by decide +kernel
theorem d2 : decode yB 2 = .ok (.arraylength, 1) := by decide +kernel
theorem d3 : decode yB 3 = .ok (.isub, 1) := by decide +kernel
theorem d4 : decode yB 4 = .ok (.bipush 31, 2) := by decide +kernel
theorem d6 : decode yB 6 = .ok (.iushr, 1) := by decide +kernel
theorem d7 : decode yB 7 = .ok (.i2b, 1) := by decide +kernel
theorem d8 : decode yB 8 = .ok (.ireturn, 1) := by decide +kernel
def site : List Cond := []
def tab : Cond := tabOf yN yB 2 (some .byte) site
def P (d : Addr) (B : Cell) (args : Array Value) (s : State) : Prop := args = #[.ref d, .int (Int32.ofNat B.slots.size)] ∧ Arr .byte d B s
def E (r : Option Value) (s u : State) : Prop := XT.PureE (some (.int 0)) r s u
/-- an array as long as the number of chars: LATIN1 -/
theorem law (l : Launch) (d : Addr) (B : Cell) : Law l yN 2 2 0 0 yB 2 (some .byte) site (P d B) E [] 0 0 := by
  refine Law.of_walk (plainFor_of_name (by decide +kernel)) (by decide +kernel) (by decide +kernel) (by decide) (fun _ _ h => by rw [h.1]; rfl) (fun _ U U' hal hh h => ⟨h.1, h.2.mv hal hh⟩) (fun r U U' V V' h1 hal h2 h => XT.PureE.mv r U U' V V' h1 hal h2 h) ?_
  intro p e s m args below meth c s₁ X0 hexec hbytes hml hret hlk hnm hown hh0 W hP
  obtain ⟨rfl, hB⟩ := hP
  have hB0 := hB.mv X0.warmed.alike hh0
  have c1 : Steps p.tables e below (s₁.setTop (entryFrame m #[.ref d, .int (Int32.ofNat B.slots.size)] 2)) (s₁.setTop (mkF m 0 #[.val (.ref d), .val (.int (Int32.ofNat B.slots.size))] [])) := entry rfl
  have c2 : Steps p.tables e below (s₁.setTop (entryFrame m #[.ref d, .int (Int32.ofNat B.slots.size)] 2)) (s₁.setTop (mkF m 2 #[.val (.ref d), .val (.int (Int32.ofNat B.slots.size))] [.ref d, .int (Int32.ofNat B.slots.size)])) := c1.trans (by
    refine XS.iloadN X0.here hexec rfl (hb hbytes d0) rfl ?_
    refine XS.aloadN X0.here hexec rfl (hb hbytes d1) rfl rfl ?_
    exact Steps.refl _)
  have c3 : Steps p.tables e below (s₁.setTop (entryFrame m #[.ref d, .int (Int32.ofNat B.slots.size)] 2)) (s₁.setTop (mkF m 8 #[.val (.ref d), .val (.int (Int32.ofNat B.slots.size))] [.int (lo8 (ushr (Int32.ofNat B.slots.size - Int32.ofNat B.slots.size) 31))])) := c2.trans (by
    refine X0.alen hexec hB0 rfl rfl (hb hbytes d2) ?_
    refine XS.isub X0.here hexec rfl (hb hbytes d3) rfl ?_
    refine bipushV X0.here hexec rfl 31 (hb hbytes d4) (by decide) ?_
    refine iushr X0.here hexec rfl (hb hbytes d6) rfl ?_
    refine i2b X0.here hexec rfl (hb hbytes d7) rfl ?_
    exact Steps.refl _)
  have e0 : lo8 (ushr (Int32.ofNat B.slots.size - Int32.ofNat B.slots.size) 31) = 0 := by rw [Int32.sub_self]; decide
  rw [e0] at c3
  exact ⟨s₁, some (.int 0), _, _, _, X0, rfl, rfl, rfl, (fun h => by cases h), ⟨rfl, hh0⟩, fun fs hl => c3.trans (X0.ireturnOut hexec hret rfl (Or.inr (Or.inr (Or.inl rfl))) (hb hbytes d8) hl)⟩
end CodL
/-- the String at a is Latin-1 over a new byte[] (the heap's one new cell): the low bytes of the len chars of A from o on; every cell but a is kept -/
def Got (a : Addr) (D : Cell) (fV fC : Field) (A : Cell) (o len : Nat) (r : Option Value) (s u : State) : Prop := r = none ∧ ∃ D' V : Cell, Blank "java/lang/String" a D' u ∧ Same D D' [fV.slot, fC.slot] ∧ D'.slots[fV.slot]? = some (.ref s.heap.size) ∧ D'.slots[fC.slot]? = some (.int 0) ∧ Arr .byte s.heap.size V u ∧ V.vm = .none ∧ u.vm.findClass "[B" = some V.cls ∧ V.slots.size = len ∧ (∀ j, j < len → V.slots[j]? = some (.int (lo8 (cv A (o + j))))) ∧ (∀ (y : Addr) (c : Cell), y ≠ a → s.heap[y]? = some c → u.heap[y]? = some c) ∧ u.heap.size = s.heap.size + 1
theorem Got.mv {a : Addr} {D A : Cell} {fV fC : Field} {o len : Nat} : ∀ r (U U' V V' : State), U'.heap = U.heap → V.vm.Alike V'.vm → V'.heap = V.heap → Got a D fV fC A o len r U V → Got a D fV fC A o len r U' V' :=
  fun r U U' V V' h1 hal h2 ⟨e0, D', X, a1, a2, a3, a4, a5, a6, a7, a8, a9, a10, a11⟩ => ⟨e0, D', X, a1.mv hal h2, a2, by rw [h1]; exact a3, a4, by rw [h1]; exact a5.mv hal h2, a6, by rw [hal.findClass]; exact a7, a8, a9, by rw [h1, h2]; exact a10, by rw [h1, h2]; exact a11⟩
namespace New4
def yN : MethodName := ⟨"java/lang/String", "<init>", "([CIILjava/lang/Void;)V"⟩
abbrev yB : ByteArray := jdk_42_method_149_code
theorem d0 : decode yB 0 = .ok (.aload_n 0, 1) := by decide +kernel
theorem d1 : decode yB 1 = .ok (.invokespecial 1, 3) := by decide +kernel
theorem d4 : decode yB 4 = .ok (.iload_n 3, 1) := by decide +kernel
theorem d5 : decode yB 5 = .ok (.ifCond (.ne) 22, 3) := by decide +kernel
theorem d27 : decode yB 27 = .ok (.getstatic 38, 3) := by decide +kernel
theorem d30 : decode yB 30 = .ok (.ifCond (.eq) 28, 3) := by decide +kernel
theorem d33 : decode yB 33 = .ok (.aload_n 1, 1) := by decide +kernel
theorem d34 : decode yB 34 = .ok (.iload_n 2, 1) := by decide +kernel
theorem d35 : decode yB 35 = .ok (.iload_n 3, 1) := by decide +kernel
theorem d36 : decode yB 36 = .ok (.invokestatic 177, 3) := by decide +kernel
theorem d39 : decode yB 39 = .ok (.astore 5, 2) := by decide +kernel
theorem d41 : decode yB 41 = .ok (.aload_n 0, 1) := by decide +kernel
theorem d42 : decode yB 42 = .ok (.aload 5, 2) := by decide +kernel
theorem d44 : decode yB 44 = .ok (.iload_n 3, 1) := by decide +kernel
theorem d45 : decode yB 45 = .ok (.invokestatic 47, 3) := by decide +kernel
theorem d48 : decode yB 48 = .ok (.putfield 15, 3) := by decide +kernel
theorem d51 : decode yB 51 = .ok (.aload_n 0, 1) := by decide +kernel
theorem d52 : decode yB 52 = .ok (.aload 5, 2) := by decide +kernel
theorem d54 : decode yB 54 = .ok (.putfield 9, 3) := by decide +kernel
theorem d57 : decode yB 57 = .ok (.return_, 1) := by decide +kernel
def site : List Cond := [.fieldLink "java/lang/String" 38 "java/lang/String" "COMPACT_STRINGS" "Z", Cmp3.tab, CodL.tab, .laysFinal "java/lang/String" "java/lang/String" "value" "[B", .fieldLink "java/lang/String" 9 "java/lang/String" "value" "[B", .laysFinal "java/lang/String" "java/lang/String" "coder" "B", .fieldLink "java/lang/String" 15 "java/lang/String" "coder" "B"] ++ objW "java/lang/String" 1 ++ staticW "java/lang/String" 177 Cmp3.yN ++ staticW "java/lang/String" 47 CodL.yN
def tab : Cond := tabOf yN yB 6 none site
def P (a : Addr) (D : Cell) (fV fC : Field) (b : Addr) (A : Cell) (z : Int32) (o len : Nat) (args : Array Value) (s : State) : Prop := args = #[.ref a, .ref b, .int (Int32.ofNat o), .int (Int32.ofNat len), .null] ∧ Blank "java/lang/String" a D s ∧ Found "java/lang/String" "value" "[B" fV s ∧ Found "java/lang/String" "coder" "B" fC s ∧ Ch b A s ∧ StaticIs s "java/lang/String" "COMPACT_STRINGS" "Z" (.int z) ∧ ¬ z = 0 ∧ 0 < len ∧ o + len ≤ A.slots.size ∧ len ≤ 536870912 ∧ ∀ i, i < len → ¬ 255 < cv A (o + i)
def E (a : Addr) (D : Cell) (fV fC : Field) (A : Cell) (o len : Nat) (r : Option Value) (s u : State) : Prop := Got a D fV fC A o len r s u
/-- len > 0, no char of the range above 255: a Latin-1 String of their low bytes -/
theorem law (l : Launch) (a : Addr) (D : Cell) (fV fC : Field) (b : Addr) (A : Cell) (z : Int32) (o len : Nat) : Law l yN 5 4 2 35 yB 6 none site (P a D fV fC b A z o len) (E a D fV fC A o len) [⟨a, fC.slot⟩, ⟨a, fV.slot⟩] 1 len := by
  refine Law.of_walk (plainFor_of_name (by decide +kernel)) (by decide +kernel) (by decide +kernel) (by decide) (fun _ _ h => by rw [h.1]; rfl) (fun _ U U' hal hh h => ⟨h.1, h.2.1.mv hal hh, h.2.2.1.al hal, h.2.2.2.1.al hal, h.2.2.2.2.1.mv hal hh, h.2.2.2.2.2.1.there hal hh, h.2.2.2.2.2.2⟩) (fun r U U' V V' h1 hal h2 h => Got.mv r U U' V V' h1 hal h2 h) ?_
  intro p e s m args below meth c s₁ X0 hexec hbytes hml hret hlk hnm hown hh0 W hP
  obtain ⟨rfl, hB, f1, f2, hA, s1, hz, l0, l1, l2, hp⟩ := hP
  have a31 := hA.1.2.2.2
  have c1 : Steps p.tables e below (s₁.setTop (entryFrame m #[.ref a, .ref b, .int (Int32.ofNat o), .int (Int32.ofNat len), .null] 6)) (s₁.setTop (mkF m 0 #[.val (.ref a), .val (.ref b), .val (.int (Int32.ofNat o)), .val (.int (Int32.ofNat len)), .val .null, .unset] [])) := entry rfl
  have c2 : Steps p.tables e below (s₁.setTop (entryFrame m #[.ref a, .ref b, .int (Int32.ofNat o), .int (Int32.ofNat len), .null] 6)) (s₁.setTop (mkF m 1 #[.val (.ref a), .val (.ref b), .val (.int (Int32.ofNat o)), .val (.int (Int32.ofNat len)), .val .null, .unset] [.ref a])) := c1.trans (by
    refine XS.aloadN X0.here hexec rfl (hb hbytes d0) rfl rfl ?_
    exact Steps.refl _)
  obtain ⟨T3, X3, q3, st3⟩ := X0.oinit hexec hown (wks W (objW "java/lang/String" 1)) (g := (mkF m 1 #[.val (.ref a), .val (.ref b), .val (.int (Int32.ofNat o)), .val (.int (Int32.ofNat len)), .val .null, .unset] [.ref a])) rfl (by rw [hml]; rfl) (rest := []) rfl (hb hbytes d1) (W := 0) (by show 2 * 0 + 0 ≤ _; decide) (Nat.le_of_ble_eq_true rfl) (Nat.le_of_ble_eq_true rfl)
  have hh3 := q3.trans hh0
  have c4 : Steps p.tables e below (s₁.setTop (entryFrame m #[.ref a, .ref b, .int (Int32.ofNat o), .int (Int32.ofNat len), .null] 6)) (T3.setTop (mkF m 27 #[.val (.ref a), .val (.ref b), .val (.int (Int32.ofNat o)), .val (.int (Int32.ofNat len)), .val .null, .unset] [])) := (c2.trans (st3 _ (Steps.refl _))).trans (by
    refine XS.iloadN X3.here hexec rfl (hb hbytes d4) rfl ?_
    refine XS.ifYes X3.here hexec rfl (pc0 := 5) rfl (hb hbytes d5) rfl (i0_ne_t (nz32 (by omega) l0)) (by decide) rfl ?_
    exact Steps.refl _)
  obtain ⟨T5, X5, q5, st5⟩ := X3.sget hexec hown (wk W (.fieldLink "java/lang/String" 38 "java/lang/String" "COMPACT_STRINGS" "Z")) s1 (fun _ _ h => by rw [hh3]; exact h) (g := (mkF m 27 #[.val (.ref a), .val (.ref b), .val (.int (Int32.ofNat o)), .val (.int (Int32.ofNat len)), .val .null, .unset] [])) rfl (hb hbytes d27)
  have hh5 := q5.trans hh3
  have c6 : Steps p.tables e below (s₁.setTop (entryFrame m #[.ref a, .ref b, .int (Int32.ofNat o), .int (Int32.ofNat len), .null] 6)) (T5.setTop (mkF m 30 #[.val (.ref a), .val (.ref b), .val (.int (Int32.ofNat o)), .val (.int (Int32.ofNat len)), .val .null, .unset] [.int z])) := c4.trans (st5 _ (Steps.refl _))
  have c7 : Steps p.tables e below (s₁.setTop (entryFrame m #[.ref a, .ref b, .int (Int32.ofNat o), .int (Int32.ofNat len), .null] 6)) (T5.setTop (mkF m 36 #[.val (.ref a), .val (.ref b), .val (.int (Int32.ofNat o)), .val (.int (Int32.ofNat len)), .val .null, .unset] [.int (Int32.ofNat len), .int (Int32.ofNat o), .ref b])) := c6.trans (by
    refine XS.ifNo X5.here hexec rfl (hb hbytes d30) rfl (i0_eq_f hz) ?_
    refine XS.aloadN X5.here hexec rfl (hb hbytes d33) rfl rfl ?_
    refine XS.iloadN X5.here hexec rfl (hb hbytes d34) rfl ?_
    refine XS.iloadN X5.here hexec rfl (hb hbytes d35) rfl ?_
    exact Steps.refl _)
  obtain ⟨v8, T8, X8, E8, g8⟩ := X5.callS hexec (Cmp3.law l b A o len) hown (wks W (staticW "java/lang/String" 177 Cmp3.yN)) (wk W Cmp3.tab) (W := 0) (Nat.le_of_ble_eq_true rfl) (Nat.le_of_ble_eq_true rfl) (Nat.le_refl _) (by show 0 + len ≤ len; omega) (g := (mkF m 36 #[.val (.ref a), .val (.ref b), .val (.int (Int32.ofNat o)), .val (.int (Int32.ofNat len)), .val .null, .unset] [.int (Int32.ofNat len), .int (Int32.ofNat o), .ref b])) rfl (by rw [hml]; rfl) c7 (argsL := [.ref b, .int (Int32.ofNat o), .int (Int32.ofNat len)]) (rest := []) rfl rfl (by show 2 * 0 + 0 ≤ _; decide) (hb hbytes d36) (⟨rfl, hA.mv X5.warmed.alike hh5, l1, l2, hp⟩)
  obtain ⟨e8, z8⟩ := E8
  obtain ⟨rfl, N, n1, n2, n3, n4, n5, n6⟩ := NewArr.mv _ T5 s _ _ hh5.symm (Vm.Alike.refl _) rfl e8
  rw [hh5] at z8
  have hB1 := hB.keep X8.warmed.alike (n6 _ _ hB.1)
  have hne : s.heap.size ≠ a := (Nat.ne_of_lt (Array.getElem?_eq_some_iff.mp hB.1).1).symm
  have c9 : Steps p.tables e below (s₁.setTop (entryFrame m #[.ref a, .ref b, .int (Int32.ofNat o), .int (Int32.ofNat len), .null] 6)) (T8.setTop (mkF m 39 #[.val (.ref a), .val (.ref b), .val (.int (Int32.ofNat o)), .val (.int (Int32.ofNat len)), .val .null, .unset] [.ref s.heap.size])) := g8
  have c10 : Steps p.tables e below (s₁.setTop (entryFrame m #[.ref a, .ref b, .int (Int32.ofNat o), .int (Int32.ofNat len), .null] 6)) (T8.setTop (mkF m 45 #[.val (.ref a), .val (.ref b), .val (.int (Int32.ofNat o)), .val (.int (Int32.ofNat len)), .val .null, .val (.ref s.heap.size)] [.int (Int32.ofNat N.slots.size), .ref s.heap.size, .ref a])) := by
    have hc : Steps p.tables e below (s₁.setTop (entryFrame m #[.ref a, .ref b, .int (Int32.ofNat o), .int (Int32.ofNat len), .null] 6)) (T8.setTop (mkF m 45 #[.val (.ref a), .val (.ref b), .val (.int (Int32.ofNat o)), .val (.int (Int32.ofNat len)), .val .null, .val (.ref s.heap.size)] [.int (Int32.ofNat len), .ref s.heap.size, .ref a])) := c9.trans (by
      refine XS.astore X8.here hexec rfl (hb hbytes d39) rfl rfl rfl ?_
      refine XS.aloadN X8.here hexec rfl (hb hbytes d41) rfl rfl ?_
      refine XS.aload X8.here hexec rfl (hb hbytes d42) rfl rfl ?_
      refine XS.iloadN X8.here hexec rfl (hb hbytes d44) rfl ?_
      exact Steps.refl _)
    rw [n4]; exact hc
  obtain ⟨v11, T11, X11, E11, g11⟩ := X8.callS hexec (CodL.law l s.heap.size N) hown (wks W (staticW "java/lang/String" 47 CodL.yN)) (wk W CodL.tab) (W := 1) (Nat.le_of_ble_eq_true rfl) (Nat.le_of_ble_eq_true rfl) (Nat.le_refl _) (by show 0 + len + 0 ≤ len; omega) (g := (mkF m 45 #[.val (.ref a), .val (.ref b), .val (.int (Int32.ofNat o)), .val (.int (Int32.ofNat len)), .val .null, .val (.ref s.heap.size)] [.int (Int32.ofNat N.slots.size), .ref s.heap.size, .ref a])) rfl (by rw [hml]; rfl) c10 (argsL := [.ref s.heap.size, .int (Int32.ofNat N.slots.size)]) (rest := [.ref a]) rfl rfl (by show 2 * 0 + (1 + 0) ≤ _; decide) (hb hbytes d45) (⟨rfl, n1⟩)
  obtain ⟨rfl, q11⟩ := E11
  have hB11 := hB1.mv (X8.warmed.alike.symm.trans X11.warmed.alike) q11
  have c12 : Steps p.tables e below (s₁.setTop (entryFrame m #[.ref a, .ref b, .int (Int32.ofNat o), .int (Int32.ofNat len), .null] 6)) (T11.setTop (mkF m 48 #[.val (.ref a), .val (.ref b), .val (.int (Int32.ofNat o)), .val (.int (Int32.ofNat len)), .val .null, .val (.ref s.heap.size)] [.int 0, .ref a])) := g11
  obtain ⟨T13, X13, p13, bl13, sl13, st13⟩ := X11.finit hexec hown (wk W (.fieldLink "java/lang/String" 15 "java/lang/String" "coder" "B")) (Or.inr ⟨_, (wk W (.laysFinal "java/lang/String" "java/lang/String" "coder" "B"))⟩) (Or.inl ⟨rfl, hnm⟩) f2 (Or.inl rfl) hB11 (t := .byte) (by decide +kernel) rfl (g := (mkF m 48 #[.val (.ref a), .val (.ref b), .val (.int (Int32.ofNat o)), .val (.int (Int32.ofNat len)), .val .null, .val (.ref s.heap.size)] [.int 0, .ref a])) rfl (rest := []) rfl (hb hbytes d48)
  have c14 : Steps p.tables e below (s₁.setTop (entryFrame m #[.ref a, .ref b, .int (Int32.ofNat o), .int (Int32.ofNat len), .null] 6)) (T13.setTop (mkF m 54 #[.val (.ref a), .val (.ref b), .val (.int (Int32.ofNat o)), .val (.int (Int32.ofNat len)), .val .null, .val (.ref s.heap.size)] [.ref s.heap.size, .ref a])) := (c12.trans (st13 _ (Steps.refl _))).trans (by
    refine XS.aloadN X13.here hexec rfl (hb hbytes d51) rfl rfl ?_
    refine XS.aload X13.here hexec rfl (hb hbytes d52) rfl rfl ?_
    exact Steps.refl _)
  obtain ⟨T15, X15, p15, bl15, sl15, st15⟩ := X13.finit hexec hown (wk W (.fieldLink "java/lang/String" 9 "java/lang/String" "value" "[B")) (Or.inr ⟨_, (wk W (.laysFinal "java/lang/String" "java/lang/String" "value" "[B"))⟩) (Or.inl ⟨rfl, hnm⟩) f1 (Or.inl rfl) bl13 (t := (.array .byte)) (by decide +kernel) rfl (g := (mkF m 54 #[.val (.ref a), .val (.ref b), .val (.int (Int32.ofNat o)), .val (.int (Int32.ofNat len)), .val .null, .val (.ref s.heap.size)] [.ref s.heap.size, .ref a])) rfl (rest := []) rfl (hb hbytes d54)
  have c16 : Steps p.tables e below (s₁.setTop (entryFrame m #[.ref a, .ref b, .int (Int32.ofNat o), .int (Int32.ofNat len), .null] 6)) (T15.setTop (mkF m 57 #[.val (.ref a), .val (.ref b), .val (.int (Int32.ofNat o)), .val (.int (Int32.ofNat len)), .val .null, .val (.ref s.heap.size)] [])) := c14.trans (st15 _ (Steps.refl _))
  have ap := apart (Or.inr ⟨_, (wk W (.laysFinal "java/lang/String" "java/lang/String" "value" "[B"))⟩) (Or.inr ⟨_, (wk W (.laysFinal "java/lang/String" "java/lang/String" "coder" "B"))⟩) f1 f2 (t₁ := .array .byte) (t₂ := .byte) (by decide +kernel) (by decide +kernel) (by decide)
  have al := X8.warmed.alike.symm.trans X15.warmed.alike
  have n7 : T11.heap[s.heap.size]? = some N := by rw [q11]; exact n1.1
  exact ⟨T15, none, _, _, _, X15, by simp, rfl, by omega, (fun _ => rfl), ⟨rfl, _, N, bl15, ((Same.refl D _).set _ (by simp)).set _ (by simp), sl15, (Cell.slots_setSlot_ne _ ap).trans sl13, n1.keep al (p15.other hne (p13.other hne n7)), n2, by rw [al.findClass]; exact n3, n4, n5, fun y c h1 h2 => p15.other h1 (p13.other h1 (by rw [q11]; exact n6 y c h2)), by rw [p15.2.2, p13.2.2, q11]; exact z8⟩, fun fs hl => c16.trans (X15.returnOut hexec hret (hb hbytes d57) hl)⟩
end New4
namespace New1
def yN : MethodName := ⟨"java/lang/String", "<init>", "([C)V"⟩
abbrev yB : ByteArray := jdk_42_method_3_code
theorem d0 : decode yB 0 = .ok (.aload_n 0, 1) := by decide +kernel
theorem d1 : decode yB 1 = .ok (.aload_n 1, 1) := by decide +kernel
theorem d2 : decode yB 2 = .ok (.iconst 0, 1) := by decide +kernel
theorem d3 : decode yB 3 = .ok (.aload_n 1, 1) := by decide +kernel
theorem d4 : decode yB 4 = .ok (.arraylength, 1) := by decide +kernel
theorem d5 : decode yB 5 = .ok (.aconst_null, 1) := by decide +kernel
theorem d6 : decode yB 6 = .ok (.invokespecial 27, 3) := by decide +kernel
theorem d9 : decode yB 9 = .ok (.return_, 1) := by decide +kernel
def site : List Cond := [New4.tab] ++ initW "java/lang/String" 27 New4.yN
def tab : Cond := tabOf yN yB 2 none site
def P (a : Addr) (D : Cell) (fV fC : Field) (b : Addr) (A : Cell) (z : Int32) (args : Array Value) (s : State) : Prop := args = #[.ref a, .ref b] ∧ Blank "java/lang/String" a D s ∧ Found "java/lang/String" "value" "[B" fV s ∧ Found "java/lang/String" "coder" "B" fC s ∧ Ch b A s ∧ StaticIs s "java/lang/String" "COMPACT_STRINGS" "Z" (.int z) ∧ ¬ z = 0 ∧ 0 < A.slots.size ∧ A.slots.size ≤ 536870912 ∧ ∀ i, i < A.slots.size → ¬ 255 < cv A i
def E (a : Addr) (D : Cell) (fV fC : Field) (A : Cell) (r : Option Value) (s u : State) : Prop := Got a D fV fC A 0 A.slots.size r s u
/-- new String(chars), not empty, no char above 255: a Latin-1 String of their low bytes -/
theorem law (l : Launch) (a : Addr) (D : Cell) (fV fC : Field) (b : Addr) (A : Cell) (z : Int32) : Law l yN 2 1 3 52 yB 2 none site (P a D fV fC b A z) (E a D fV fC A) [⟨a, fC.slot⟩, ⟨a, fV.slot⟩] 1 A.slots.size := by
  refine Law.of_walk (plainFor_of_name (by decide +kernel)) (by decide +kernel) (by decide +kernel) (by decide) (fun _ _ h => by rw [h.1]; rfl) (fun _ U U' hal hh h => ⟨h.1, h.2.1.mv hal hh, h.2.2.1.al hal, h.2.2.2.1.al hal, h.2.2.2.2.1.mv hal hh, h.2.2.2.2.2.1.there hal hh, h.2.2.2.2.2.2⟩) (fun r U U' V V' h1 hal h2 h => Got.mv r U U' V V' h1 hal h2 h) ?_
  intro p e s m args below meth c s₁ X0 hexec hbytes hml hret hlk hnm hown hh0 W hP
  obtain ⟨rfl, hB, f1, f2, hA, s1, hz, l0, l2, hp⟩ := hP
  have c1 : Steps p.tables e below (s₁.setTop (entryFrame m #[.ref a, .ref b] 2)) (s₁.setTop (mkF m 0 #[.val (.ref a), .val (.ref b)] [])) := entry rfl
  have c2 : Steps p.tables e below (s₁.setTop (entryFrame m #[.ref a, .ref b] 2)) (s₁.setTop (mkF m 6 #[.val (.ref a), .val (.ref b)] [.null, .int (Int32.ofNat A.slots.size), .int 0, .ref b, .ref a])) := c1.trans (by
    refine XS.aloadN X0.here hexec rfl (hb hbytes d0) rfl rfl ?_
    refine XS.aloadN X0.here hexec rfl (hb hbytes d1) rfl rfl ?_
    refine iconstV X0.here hexec rfl 0 (hb hbytes d2) (by decide) ?_
    refine XS.aloadN X0.here hexec rfl (hb hbytes d3) rfl rfl ?_
    refine X0.alen hexec (hA.1.mv X0.warmed.alike hh0) rfl rfl (hb hbytes d4) ?_
    refine XS.aconstNull X0.here hexec rfl (hb hbytes d5) ?_
    exact Steps.refl _)
  obtain ⟨v3, T3, X3, E3, g3⟩ := X0.callN hexec (New4.law l a D fV fC b A z 0 A.slots.size) rfl hown (wks W (initW "java/lang/String" 27 New4.yN)) (W New4.tab (by simp only [site, List.mem_cons, List.mem_append, true_or, or_true])) (W := 0) (Nat.le_of_ble_eq_true rfl) (Nat.le_of_ble_eq_true rfl) (Nat.le_refl _) (by show 0 + A.slots.size ≤ A.slots.size; omega) (g := (mkF m 6 #[.val (.ref a), .val (.ref b)] [.null, .int (Int32.ofNat A.slots.size), .int (Int32.ofNat 0), .ref b, .ref a])) rfl (by rw [hml]; rfl) c2 (argsL := [.ref b, .int (Int32.ofNat 0), .int (Int32.ofNat A.slots.size), .null]) (rest := []) rfl rfl (by show 2 * 0 + 0 ≤ _; decide) (hb hbytes d6) (⟨rfl, hB.mv X0.warmed.alike hh0, f1.al X0.warmed.alike, f2.al X0.warmed.alike, hA.mv X0.warmed.alike hh0, s1.there X0.warmed.alike hh0, hz, l0, by omega, l2, fun i hi => by rw [Nat.zero_add]; exact hp i hi⟩)
  have e0 := Got.mv _ s₁ s _ _ hh0.symm (Vm.Alike.refl _) rfl E3
  obtain rfl := e0.1
  have c4 : Steps p.tables e below (s₁.setTop (entryFrame m #[.ref a, .ref b] 2)) (T3.setTop (mkF m 9 #[.val (.ref a), .val (.ref b)] [])) := g3
  exact ⟨T3, none, _, _, _, X3, by simp, rfl, by omega, (fun _ => rfl), e0, fun fs hl => c4.trans (X3.returnOut hexec hret (hb hbytes d9) hl)⟩
theorem pays {l : Launch} {R : Room} {p : Program} {e : Env} {below : List Frame} {s : State} {sargs : Array Value} {len W : Nat} (a : Addr) (D : Cell) (fV fC : Field) (b : Addr) (A : Cell) (z : Int32) (htab : tab.before sargs s = true) (hfr : 4 ≤ R.frames) (hlo : W + 65 ≤ R.locals) :
    Back l R p e below s sargs yN len W (fun A₁ a₁ => A₁.cells + 1 ≤ R.cells ∧ A₁.slots + A.slots.size ≤ R.slots ∧ P a D fV fC b A z a₁ A₁.U) (fun A₁ _ v₁ B₁ => E a D fV fC A v₁ A₁.U B₁.U ∧ B₁.locs = A₁.locs ++ [⟨a, fC.slot⟩, ⟨a, fV.slot⟩] ∧ B₁.cells = A₁.cells + 1 ∧ B₁.slots = A₁.slots + A.slots.size) :=
  (law l a D fV fC b A z).pays htab hfr (by omega)
end New1
end StrChars
namespace StrChars.Road
open Jvm Sem ClassFile Op Lib Jvm.Stand Jvm.Free Jvm.Free.XT
open Jvm.Lib.Cold (StaticIs)
abbrev ST : String := "java/lang/String"
/-- every table word that New1's law asks, flat -/
abbrev words : List Jvm.Cond := [.code New1.yN New1.yB 2 none, .initialized ST, .methodLink ST 27 New4.yN, .instanceMethod New4.yN,
  .code New4.yN New4.yB 6 none, .fieldLink ST 38 ST "COMPACT_STRINGS" "Z", .laysFinal ST ST "value" "[B", .fieldLink ST 9 ST "value" "[B", .laysFinal ST ST "coder" "B", .fieldLink ST 15 ST "coder" "B",
  .methodLink ST 1 Lib.objectInit, .instanceMethod Lib.objectInit, .code Lib.objectInit ⟨#[0xb1]⟩ 1 none, .methodLink ST 177 Cmp3.yN, .static Cmp3.yN, .methodLink ST 47 CodL.yN, .static CodL.yN,
  .code Cmp3.yN Cmp3.yB 6 (some (.array .byte)), .initialized U16, .arrayClass .byte, .methodLink U16 115 Cmp5.yN, .static Cmp5.yN, .code Cmp5.yN Cmp5.yB 7 (some .int), .code CodL.yN CodL.yB 2 (some .byte)]
theorem tab_of {a : Array Value} {s : State} (h : ∀ w ∈ words, w.before a s = true) : New1.tab.before a s = true := by
  have h5 : Cmp5.tab.before a s = true := unparts (wk h (.code Cmp5.yN Cmp5.yB 7 (some .int))) (wks h (.initialized Cmp5.yN.cls :: Cmp5.site))
  have hc : CodL.tab.before a s = true := unparts (wk h (.code CodL.yN CodL.yB 2 (some .byte))) (wks h (.initialized CodL.yN.cls :: CodL.site))
  have q5 : ∀ w ∈ Cmp5.tab :: words, w.before a s = true := fun w hw => (List.mem_cons.mp hw).elim (fun e => e ▸ h5) (h w)
  have h3 : Cmp3.tab.before a s = true := unparts (wk q5 (.code Cmp3.yN Cmp3.yB 6 (some (.array .byte)))) (wks q5 (.initialized Cmp3.yN.cls :: Cmp3.site))
  have q3 : ∀ w ∈ Cmp3.tab :: CodL.tab :: words, w.before a s = true := fun w hw => (List.mem_cons.mp hw).elim (fun e => e ▸ h3) fun hw => (List.mem_cons.mp hw).elim (fun e => e ▸ hc) (h w)
  have h4 : New4.tab.before a s = true := unparts (wk q3 (.code New4.yN New4.yB 6 none)) (wks q3 (.initialized New4.yN.cls :: New4.site))
  have q4 : ∀ w ∈ New4.tab :: words, w.before a s = true := fun w hw => (List.mem_cons.mp hw).elim (fun e => e ▸ h4) (h w)
  exact unparts (wk q4 (.code New1.yN New1.yB 2 none)) (wks q4 (.initialized New1.yN.cls :: New1.site))
/-- the words ride from the start Z to the walk's own state -/
theorem moved {Z s : State} {a0 args : Array Value} (hZ : Z.Warmed39 s.vm) (hw : ∀ d ∈ words, d.before a0 Z = true) : ∀ d ∈ words, d.before args s = true := fun d hd => by
  have q := hw d hd
  have t : ∀ d ∈ words, d = .arrayClass .byte ∨ (d.onTables && d.keepsFace) = true := by decide +kernel
  rcases t d hd with rfl | t
  · exact RoadKit.mvA hZ q
  · exact RoadKit.mv hZ q t
/-- WHAT COMES BACK, over the tables of the start Z: h the heap at the call, h' behind it -/
def Q (Z : State) (x : Addr) (A : Cell) (h : Heap) (v : Option Value) (h' : Heap) (L : List Loc) : Prop := v = none ∧ (∀ y ∈ L, y.base = x) ∧ RoadKit.Keep h h' [x] ∧ h'.size = h.size + 1 ∧ RoadKit.Exa Z h' x ST ∧ RoadKit.Fld Z h' x ST "value" "[B" (.ref h.size) ∧ RoadKit.Fld Z h' x ST "coder" "B" (.int 0) ∧
  (∃ V : Cell, RoadKit.Arr Z h' h.size V .byte ∧ V.vm = .none ∧ Z.vm.findClass "[B" = some V.cls ∧ V.slots.size = A.slots.size ∧ ∀ j, j < A.slots.size → V.slots[j]? = some (.int (lo8 (cv A j)))) ∧
  ∀ (O n d : String) (w : Value), RoadKit.Fld Z h x O n d w → RoadKit.slotOf Z O n d ≠ RoadKit.slotOf Z ST "value" "[B" → RoadKit.slotOf Z O n d ≠ RoadKit.slotOf Z ST "coder" "B" → RoadKit.Fld Z h' x O n d w
/-- **new String(chars) AT A CALL, IN THE ROAD'S FORM**: for specialBack behind newO: x the fresh String, b the char[] with the cell A -/
theorem back {p : Program} {l : Launch} {e : Env} {R : Room} {s : State} {args : Array Value} {below : List Frame} {len W : Nat} {Z : State} {a0 : Array Value} {h : Heap} (hZ : Z.Warmed39 s.vm) (hw : ∀ d ∈ words, d.before a0 Z = true) {kI : Nat} (wi : (Jvm.Cond.instantiable ST kI).before a0 Z = true)
    {x b : Addr} {A : Cell} {z : Int32} {v0 c0 : Value} (E : RoadKit.Exa Z h x ST) (V : RoadKit.Fld Z h x ST "value" "[B" v0) (C : RoadKit.Fld Z h x ST "coder" "B" c0) (K : RoadKit.Arr Z h b A .char) (hty : Typed .char A) (S : RoadKit.Sta Z h ST "COMPACT_STRINGS" "Z" (.int z)) (hz : ¬ z = 0)
    (l0 : 0 < A.slots.size) (l2 : A.slots.size ≤ 536870912) (hp : ∀ i, i < A.slots.size → ¬ 255 < cv A i) (hfr : 4 ≤ R.frames) (hlo : W + 65 ≤ R.locals) :
    Back l R p e below s args New1.yN len W (fun P a => a = #[.ref x, .ref b] ∧ P.U.heap = h ∧ P.cells + 1 ≤ R.cells ∧ P.slots + A.slots.size ≤ R.slots)
      (fun P _ v B => ∃ L, Q Z x A h v B.U.heap L ∧ B.locs = P.locs ++ L ∧ B.cells = P.cells + 1 ∧ B.slots = P.slots + A.slots.size) := by
  intro m meth c P g ig mk a X hg hsize hdg hW hn hp'
  obtain ⟨rfl, rfl, r1, r2⟩ := hp'
  have al : Z.vm.Alike P.U.vm := hZ.alike.trans X.warmed.alike
  obtain ⟨D, cfV, kV, iV, fV, hD, gV, stV, knV, obV, asV, slV⟩ := id V
  obtain ⟨D', cfC, kC, iC, fC, hD', gC, stC, -, -, asC, slC⟩ := id C
  cases hD.symm.trans hD'
  obtain ⟨D2, kD, e1, e2, e3, e4, e5⟩ := id E
  cases hD.symm.trans e1
  obtain ⟨c2, k2, i1, i2, i3, -⟩ := Cond.instantiable_spec wi
  cases e2.symm.trans i1
  cases e3.symm.trans i2
  obtain ⟨kU, u1, u2⟩ := al.2.2 _ _ e3
  have hB : Blank ST x D P.U := ⟨hD, ⟨knV, fun q hq => by rw [hq] at obV; cases obV⟩, by rw [al.findClass]; exact e2, kU, u1, by rw [u2]; exact i3, by rw [u2]; exact e5 i3⟩
  have F1 : Found ST "value" "[B" fV P.U := ⟨SBG.found_only al ⟨cfV, kV, iV, gV⟩, stV⟩
  have F2 : Found ST "coder" "B" fC P.U := ⟨SBG.found_only al ⟨cfC, kC, iC, gC⟩, stC⟩
  have hA : Ch b A P.U := ⟨⟨K.1, State.isArrayOf_alike al K.2.1, K.2.2, by omega⟩, hty⟩
  have hS : StaticIs P.U ST "COMPACT_STRINGS" "Z" (.int z) := by
    obtain ⟨cfS, iS, kS, fS, st, cS, t1, t2, t3, t4, t5, t6, t7⟩ := S
    exact StaticIs.there (s := { Z with heap := P.U.heap }) ⟨cfS, iS, kS, fS, st, cS, t1, t2, t3, t4, t5, (fun q => by rw [q] at t6; cases t6), t7⟩ al rfl
  obtain ⟨v, B, X', ⟨⟨hv, E', V', q1, q2, q3, q4, q5, q6, q7, q8, q9, q10, q11⟩, hl, hc, hs⟩, st⟩ := New1.pays x D fV fC b A z (tab_of (moved hZ hw)) hfr hlo m meth c P g ig mk _ X hg hsize hdg hW hn ⟨r1, r2, rfl, hB, F1, F2, hA, hS, hz, l0, l2, hp⟩
  have al' : Z.vm.Alike B.U.vm := hZ.alike.trans X'.warmed.alike
  have hsz : E'.slots.size = D.slots.size := by
    obtain ⟨-, -, -, kB, w1, w2, w3⟩ := q1
    obtain ⟨kB', y1, y2⟩ := al'.2.2 _ _ e3
    rw [q2.2.1] at w1
    cases w1.symm.trans y1
    rw [w3, e5 i3, y2]
  refine ⟨v, B, X', ⟨_, ⟨hv, ?_, ⟨by omega, fun y cy hy hn' => q10 y cy (by simpa using hn') hy, fun y cy hy => ?_⟩, q11, ⟨E', _, q1.1, by rw [q2.2.1]; exact e2, by rw [q2.2.1]; exact e3, by rw [q2.1]; exact obV, fun _ => by rw [hsz]; exact e5 i3⟩,
    ⟨E', cfV, kV, iV, fV, q1.1, gV, stV, by rw [q2.1]; exact knV, by rw [q2.1]; exact obV, by rw [q2.2.1]; exact asV, q3⟩, ⟨E', cfC, kC, iC, fC, q1.1, gC, stC, by rw [q2.1]; exact knV, by rw [q2.1]; exact obV, by rw [q2.2.1]; exact asC, q4⟩,
    ⟨V', ⟨q5.1, State.isArrayOf_alike al'.symm q5.2.1, q5.2.2.1⟩, q6, by rw [← al'.findClass]; exact q7, q8, fun j hj => by have := q9 j hj; rwa [Nat.zero_add] at this⟩, fun O n d w F n1 n2 => ?_⟩, hl, hc, hs⟩, st⟩
  · intro y hy
    simp only [List.mem_cons, List.not_mem_nil, or_false] at hy
    rcases hy with rfl | rfl <;> rfl
  · by_cases q : y = x
    · subst q
      cases hD.symm.trans hy
      exact ⟨E', q1.1, q2.2.1, q2.1, hsz⟩
    · exact ⟨cy, q10 y cy q hy, rfl, rfl, rfl⟩
  · obtain ⟨D3, cf, k, i, f, g1, g2, g3, g4, g5, g6, g7⟩ := F
    cases hD.symm.trans g1
    simp only [RoadKit.slotOf, g2, gV, gC, Option.map_some, Option.getD_some] at n1 n2
    exact ⟨E', cf, k, i, f, q1.1, g2, g3, by rw [q2.1]; exact g4, by rw [q2.1]; exact g5, by rw [q2.2.1]; exact g6, by rw [q2.2.2 f.slot (by simp [n1, n2])]; exact g7⟩
end StrChars.Road
namespace StrChars.Road
open Jvm Sem ClassFile Op Lib Jvm.Stand Jvm.Free Jvm.Free.XT
/-- WHAT COMES BACK, the byte[] as a list of values -/
def QA (Z : State) (x : Addr) (zn : Int32) (cs : List Int32) (h : Heap) (v : Option Value) (h' : Heap) (L : List Loc) : Prop := v = none ∧ (∀ y ∈ L, y.base = x) ∧ RoadKit.Keep h h' [x] ∧ h'.size = h.size + 1 ∧ RoadKit.Exa Z h' x ST ∧ RoadKit.Fld Z h' x ST "value" "[B" (.ref h.size) ∧ RoadKit.Fld Z h' x ST "coder" "B" (.int 0) ∧
  (∃ kb, Z.vm.findClass "[B" = some kb ∧ RoadKit.Arv Z h' h.size kb .byte zn (cs.map fun c => .int (lo8 c)) (.int 0)) ∧
  ∀ (O n d : String) (w : Value), RoadKit.Fld Z h x O n d w → RoadKit.slotOf Z O n d ≠ RoadKit.slotOf Z ST "value" "[B" → RoadKit.slotOf Z O n d ≠ RoadKit.slotOf Z ST "coder" "B" → RoadKit.Fld Z h' x O n d w
/-- **new String(chars) AT A CALL, THE ARRAYS AS LISTS**: the char[] at b holds cs, not empty, no char above 255 -/
theorem backArv {p : Program} {l : Launch} {e : Env} {R : Room} {s : State} {args : Array Value} {below : List Frame} {len W : Nat} {Z : State} {a0 : Array Value} {h : Heap} (hZ : Z.Warmed39 s.vm) (hw : ∀ d ∈ words, d.before a0 Z = true) {kI : Nat} (wi : (Jvm.Cond.instantiable ST kI).before a0 Z = true)
    {x b : Addr} {k : ClassId} {zn z : Int32} {cs : List Int32} {dv v0 c0 : Value} (E : RoadKit.Exa Z h x ST) (V : RoadKit.Fld Z h x ST "value" "[B" v0) (C : RoadKit.Fld Z h x ST "coder" "B" c0) (K : RoadKit.Arv Z h b k .char zn (cs.map Value.int) dv) (S : RoadKit.Sta Z h ST "COMPACT_STRINGS" "Z" (.int z)) (hz : ¬ z = 0)
    (hlen : zn.toNatClampNeg = cs.length) (h0 : 0 < cs.length) (hbig : cs.length ≤ 536870912) (hall : ∀ c ∈ cs, ¬ 255 < c) (hfr : 4 ≤ R.frames) (hlo : W + 65 ≤ R.locals) :
    Back l R p e below s args New1.yN len W (fun P a => a = #[.ref x, .ref b] ∧ P.U.heap = h ∧ P.cells + 1 ≤ R.cells ∧ P.slots + cs.length ≤ R.slots)
      (fun P _ v B => ∃ L, QA Z x zn cs h v B.U.heap L ∧ B.locs = P.locs ++ L ∧ B.cells = P.cells + 1 ∧ B.slots = P.slots + cs.length) := by
  obtain ⟨A, K1, K2, K3, K4, K5, K6⟩ := K
  have e : A.slots.size = cs.length := K3.trans hlen
  have hat : ∀ (i : Nat) (hi : i < cs.length), A.slots[i]? = some (.int cs[i]) := fun i hi => by rw [K5 i (by omega)]; simp [List.getD_eq_getElem?_getD, hi]
  have hcv : ∀ (i : Nat) (hi : i < cs.length), cv A i = cs[i] := fun i hi => by unfold cv; rw [hat i hi]
  have hty : Typed .char A := fun i v hv => by
    have hi : i < A.slots.size := (Array.getElem?_eq_some_iff.mp hv).1
    have q := K5 i hi
    rw [hv] at q
    rw [Option.some.inj q]
    exact K6 i hi
  refine Back.mono (back hZ hw wi E V C K1 hty S hz (by omega) (by omega) (fun i hi => by rw [hcv i (by omega)]; exact hall _ (List.getElem_mem _)) hfr hlo) (fun P a hp => ⟨hp.1, hp.2.1, hp.2.2.1, by rw [e]; exact hp.2.2.2⟩) (fun P a v B hp hq => ?_)
  obtain ⟨L, ⟨q1, q2, q3, q4, q5, q6, q7, ⟨V', v1, v2, v3, v4, v5⟩, q9⟩, hl, hc, hs⟩ := hq
  refine ⟨L, ⟨q1, q2, q3, q4, q5, q6, q7, ⟨V'.cls, v3, V', v1, rfl, by rw [v4, e, hlen], K4, fun i hi => ?_, fun i hi => ?_⟩, q9⟩, hl, hc, by rw [hs, e]⟩
  · have hi' : i < cs.length := by omega
    rw [v5 i (by omega), hcv i hi']; simp [List.getD_eq_getElem?_getD, hi']
  · have hi' : i < cs.length := by omega
    simp only [List.getD_eq_getElem?_getD, List.getElem?_map, List.getElem?_eq_getElem hi', Option.map_some, Option.getD_some]
    exact fits_lo8 _
end StrChars.Road
namespace StrChars.Road
open Jvm Sem ClassFile Op Lib Jvm.Stand Jvm.Free Jvm.Free.XT
/-- WHAT COMES BACK, in the writer's own shape -/
def QV (Z : State) (x : Addr) (N : Int32) (bs : List Int32) (h : Heap) (n0 : Nat) (v : Option Value) (h' : Heap) (L : List Loc) : Prop := v = none ∧ RoadKit.Fr n0 L ∧ RoadKit.Keep h h' [x] ∧ RoadKit.Exa Z h' x ST ∧ RoadKit.Fld Z h' x ST "coder" "B" (.int 0) ∧
  ∃ (t : Addr) (kb : ClassId), n0 ≤ t ∧ h.size ≤ t ∧ ¬ t = x ∧ RoadKit.Fld Z h' x ST "value" "[B" (.ref t) ∧ RoadKit.Arv Z h' t kb .byte N (bs.map Value.int) (.int 0)
/-- **new String(chars) AT A CALL, FOR THE WRITER**: a char[] of n known ints, each 0 to 255 -/
theorem backV {p : Program} {l : Launch} {e : Env} {R : Room} {s : State} {args : Array Value} {below : List Frame} {len W : Nat} {Z : State} {a0 : Array Value} {h : Heap} (hZ : Z.Warmed39 s.vm) (hw : ∀ d ∈ words, d.before a0 Z = true) {kI : Nat} (wi : (Jvm.Cond.instantiable ST kI).before a0 Z = true)
    {x b : Addr} {kC : ClassId} {cs bs : List Int32} {d v0 c0 : Value} {z N : Int32} {n n0 : Nat} (hx0 : n0 ≤ x) (hh0 : n0 ≤ h.size) (E : RoadKit.Exa Z h x ST) (V : RoadKit.Fld Z h x ST "value" "[B" v0) (C : RoadKit.Fld Z h x ST "coder" "B" c0) (K : RoadKit.Arv Z h b kC .char N (cs.map Value.int) d) (S : RoadKit.Sta Z h ST "COMPACT_STRINGS" "Z" (.int z)) (hz : ¬ z = 0)
    (hn : cs.length = n) (hN : N = Int32.ofNat n) (l0 : 0 < n) (l2 : n ≤ 4000) (hp : ∀ c ∈ cs, ¬ c < 0 ∧ ¬ (255 : Int32) < c) (hb : bs = cs.map (fun c => c.toInt8.toInt32)) (hfr : 4 ≤ R.frames) (hlo : W + 65 ≤ R.locals) :
    Back l R p e below s args (⟨"java/lang/String", "<init>", "([C)V"⟩ : MethodName) len W (fun P a => a = #[.ref x, .ref b] ∧ P.U.heap = h ∧ P.cells + 1 ≤ R.cells ∧ P.slots + n ≤ R.slots)
      (fun P _ v B => ∃ L, QV Z x N bs h n0 v B.U.heap L ∧ B.locs = P.locs ++ L ∧ B.cells = P.cells + 1 ∧ B.slots = P.slots + n) := by
  subst hn hN hb
  refine Back.mono (backArv hZ hw wi E V C K S hz (n32 (by omega)) l0 (by omega) (fun c hc => (hp c hc).2) hfr hlo) (fun P a hp => hp) (fun P a v B hp hq => ?_)
  obtain ⟨L, ⟨q1, q2, q3, q4, q5, q6, q7, ⟨kb, v1, v2⟩, q9⟩, hl, hc, hs⟩ := hq
  exact ⟨L, ⟨q1, fun y hy => by rw [q2 y hy]; exact hx0, q3, q5, q7, h.size, kb, hh0, Nat.le_refl _, Nat.ne_of_gt E.lt, q6, by rw [List.map_map]; exact v2⟩, hl, hc, hs⟩
end StrChars.Road
end Jvm.Pilot.@@N@@
namespace Jvm.Pilot.@@N@@.OwnKit
open Jvm Jvm.ClassFile Sem Op Lib Jvm.Free Jvm.Stand Jvm.LawKit Jvm.RoadKit Bundle
variable {p : Program} {l : Launch} {e : Env} {R : Room} {s : State} {m : MethodId} {args : Array Value} {below : List Frame} {meth : Method} {c : Code} {T : State} {locs : List Loc} {cells slots : Nat} {Z : State} {a0 : Array Value} {h h' : Heap}
theorem own_nat {n : Nat} (hn : n < 2 ^ 31) : (Int32.ofNat n).toNatClampNeg = n := by show (Int32.ofNat n).toInt.toNat = n; rw [Int32.toInt_ofNat_small hn]; rfl
theorem own_frc {n0 : Nat} {L : List Loc} {d : Addr} {k n : Nat} (N : Fr n0 L) (q : n0 ≤ d) : Fr n0 (L ++ copyLocs d k n) := Fr.app N fun y hy => by
  obtain ⟨i, -, rfl⟩ := List.mem_map.mp hy; exact q
/-- System.arraycopy(src, 0, dst, 0, n) of byte[]s, all of the source's list -/
theorem own_acp (X : Stand p l e R s m args below meth c T locs cells slots) (hx : p.tables.exec = Jvm.exec) (hZ : Z.Warmed39 s.vm) {own : String} {index : Nat} (hown : s.vm.findClass own = some m.cls)
    (w1 : (Cond.methodLink own index acN).before a0 Z = true) (w2 : (Cond.native acN).before a0 Z = true) (w3 : (Cond.static acN).before a0 Z = true) (w4 : (Cond.initialized "java/lang/System").before a0 Z = true)
    (eT : T.heap = h) {src dst : Addr} {ks kd : ClassId} {zs zd : Int32} {vs : List Value} {n : Nat} (A : Arv Z h src ks .byte zs vs (.int 0)) (B : Arv Z h dst kd .byte zd [] (.int 0)) (hne : src ≠ dst) (hv : vs.length = n) (h31 : n < 2 ^ 31) (h1 : n ≤ zs.toNatClampNeg) (h2 : n ≤ zd.toNatClampNeg)
    {g : JFrame} (hg : g.method = m) (hsize : g.locals.size = c.maxLocals) {rest : List Value} (hstack : g.stack = .int (Int32.ofNat n) :: .int 0 :: .ref dst :: .int 0 :: .ref src :: rest) (hdg : decode c.code g.pc = .ok (.invokestatic index, 3))
    (hframes : 1 ≤ R.frames) (hlocals : 2 * g.monitorRoom + (rest.map fun v => v.category).sum + (nativeFrameWords "java/lang/System" "arraycopy" 5 + 11) ≤ R.locals) :
    ∃ T' h', Stand p l e R s m args below meth c T' (locs ++ copyLocs dst 0 n) cells slots ∧ T'.heap = h' ∧ Keep h h' [dst] ∧ Arv Z h' dst kd .byte zd vs (.int 0) ∧
      ∀ target, Steps p.tables e below (T'.setTop { g with pc := g.pc + 3, stack := rest }) target → Steps p.tables e below (T.setTop g) target := by
  obtain ⟨cs, As, qs, Ss, Ns, Hs, Gs⟩ := A
  obtain ⟨cd, Ad, qd, Sd, Nd, Hd, Gd⟩ := B
  subst eT
  have I1 := State.isArrayOf_alike hZ.alike As.2.1
  have I2 := State.isArrayOf_alike hZ.alike Ad.2.1
  obtain ⟨u1, k1, v1, c1, t1⟩ := I1
  obtain ⟨u2, k2, v2, c2, t2⟩ := I2
  have en : (Int32.ofNat n).toInt = n := Int32.toInt_ofNat_small h31
  have ez : (0 : Int32).toInt = 0 := by decide
  have eN : (Int32.ofNat n).toNatClampNeg = n := own_nat h31
  have e0 : (0 : Int32).toNatClampNeg = 0 := by decide
  obtain ⟨vm₁, hW, X', st⟩ := X.arraycopyK hx hown (mvT hZ w1) (mvT hZ w2) (mvT hZ w3) (mvT hZ w4) (src := src) (dst := dst) (srcPos := 0) (destPos := 0) (n := Int32.ofNat n) As.1 Ad.1 u1 u2 As.2.2 Ad.2.2 v1 v2 t1 t2 (by decide)
    (by decide) (by decide) (by rw [Int32.lt_iff_toInt_lt, en, ez]; omega) (by rw [en, ez, Ss]; omega) (by rw [en, ez, Sd]; omega)
    (fun vm1 _ i hi => by
      rw [eN] at hi
      have hi' : i < cs.slots.size := by rw [Ss]; omega
      have q := Hs i hi'
      have q2 := Gs i hi'
      rw [e0, Nat.zero_add]
      have q3 : cs.slots.getD i .null = vs.getD i (.int 0) := by
        rw [Array.getD_eq_getD_getElem?, q]; rfl
      rw [q3]
      refine ⟨q2, ?_⟩
      generalize vs.getD i (.int 0) = w at q2
      cases w <;> first | trivial | (simp [fits] at q2))
    hg hsize hstack hdg hframes hlocals
  rw [e0, eN] at X'
  refine ⟨_, _, X', rfl, ?_, ?_, st⟩
  · have hlt := (Array.getElem?_eq_some_iff.mp Ad.1).1
    obtain ⟨f1, f2, f3⟩ := Jvm.Free.SB.copied_facts cs cd 0 0 (Int32.ofNat n)
    refine ⟨by show T.heap.size ≤ (T.heap.setIfInBounds dst _).size; simp, fun x cl q r => ?_, fun x cl q => ?_⟩
    · show (T.heap.setIfInBounds dst _)[x]? = _
      rw [Array.getElem?_setIfInBounds_ne (fun z => r (by simp [z]))]; exact q
    · show ∃ c', (T.heap.setIfInBounds dst _)[x]? = some c' ∧ _
      by_cases z : dst = x
      · subst z; cases Ad.1.symm.trans q
        exact ⟨_, Array.getElem?_setIfInBounds_self_of_lt hlt, f1, f2, f3⟩
      · exact ⟨cl, by rw [Array.getElem?_setIfInBounds_ne z]; exact q, rfl, rfl, rfl⟩
  · have hlt := (Array.getElem?_eq_some_iff.mp Ad.1).1
    obtain ⟨f1, f2, f3⟩ := Jvm.Free.SB.copied_facts cs cd 0 0 (Int32.ofNat n)
    have hat : ∀ j, j < cd.slots.size → (copied cs cd 0 0 (Int32.ofNat n)).slots[j]? = some (vs.getD j (.int 0)) := fun j hj => by
      have q := Jvm.Free.SBG.copied_at (cs := cs) (cd := cd) (p := 0) (n := n) (by decide) h31 (by rw [Sd]; omega) j
      rw [show (Int32.ofNat 0) = 0 from rfl] at q
      rw [q]
      by_cases hn : j < n
      · rw [if_pos ⟨Nat.zero_le _, by omega⟩]
        have hj' : j < cs.slots.size := by rw [Ss]; omega
        rw [Nat.sub_zero, Array.getD_eq_getD_getElem?, Hs j hj']; rfl
      · rw [if_neg (by omega), Hd j hj]
        simp [List.getD_eq_getElem?_getD, List.getElem?_eq_none (show vs.length ≤ j by omega)]
    refine ⟨copied cs cd 0 0 (Int32.ofNat n), ⟨by show (T.heap.setIfInBounds dst _)[dst]? = _; exact Array.getElem?_setIfInBounds_self_of_lt hlt, ?_, by rw [f2]; exact Ad.2.2⟩, f1.trans qd, f3.trans Sd, Nd, fun j hj => hat j (by rw [← f3]; exact hj), fun j hj => ?_⟩
    · obtain ⟨z1, kk, z2, cc, z3⟩ := Ad.2.1
      exact ⟨fun k => by rw [f2]; exact z1 k, kk, by rw [f1]; exact z2, cc, z3⟩
    · by_cases hn : j < n
      · exact Gs j (by rw [Ss]; omega)
      · simp [List.getD_eq_getElem?_getD, List.getElem?_eq_none (show vs.length ≤ j by omega)]; decide
end Jvm.Pilot.@@N@@.OwnKit

namespace Jvm.Pilot.@@N@@.OwnKit
open Jvm Jvm.ClassFile Sem Op Lib Jvm.Free Jvm.Stand Jvm.LawKit Jvm.RoadKit Bundle
theorem own_same {Z : State} {a0 : Array Value} {C : String} {y z : MethodName} (w1 : (Cond.declares y).before a0 Z = true) (w2 : (Cond.selects C z z).before a0 Z = true) (w3 : (Cond.declares z).before a0 Z = true) (he : z.cls = y.cls) (hy : y.cls ≠ "java/lang/invoke/MethodHandle" ∧ y.cls ≠ "java/lang/invoke/VarHandle") :
    (Cond.sameMethod y.cls y.cls y.name y.desc).before a0 Z = true := by
  obtain ⟨r0, r, hn, hrm, -, -⟩ := Cond.declares_spec w1
  obtain ⟨r1, r', hn', hrm', -, -⟩ := Cond.declares_spec w3
  obtain ⟨kr, hkr, hni⟩ := notFace_of_selects w2 r1 hn'
  have c0 := findClass_of_methodNamed hn
  have c1 := findClass_of_methodNamed hn'
  rw [he] at c1
  have ec : r1.cls = r0.cls := Option.some.inj (c1.symm.trans c0)
  rw [ec] at hkr
  have hf := State.methodFound?_of_named hn hy
  have hn2 : Z.methodNamed? ⟨y.cls, y.name, y.desc⟩ = some r0 := hn
  simp [Cond.before, Cond.holds, Cond.value, c0, hf, hn2, hkr, hni]
theorem own_nf {s : State} {a0 : Array Value} {C : String} {y z : MethodName} (w2 : (Cond.selects C z z).before a0 s = true) (w3 : (Cond.declares z).before a0 s = true) (he : z.cls = y.cls) : NotFace s y := fun r0 hn => by
  obtain ⟨r1, r', hn', hrm', -, -⟩ := Cond.declares_spec w3
  obtain ⟨kr, hkr, hni⟩ := notFace_of_selects w2 r1 hn'
  have c0 := findClass_of_methodNamed hn
  have c1 := findClass_of_methodNamed hn'
  rw [he] at c1
  have ec : r1.cls = r0.cls := Option.some.inj (c1.symm.trans c0)
  rw [ec] at hkr
  exact ⟨kr, hkr, hni⟩
theorem own_decl {Z : State} {a0 : Array Value} {y : MethodName} {bytes : ByteArray} {mx : Nat} {rt : Option FieldType} (w1 : (Cond.instanceMethod y).before a0 Z = true) (w2 : (Cond.code y bytes mx rt).before a0 Z = true) : (Cond.declares y).before a0 Z = true := by
  obtain ⟨mk, meth, hn, hm, hs, -⟩ := Cond.instanceMethod_spec w1
  obtain ⟨m2, cM, q1, -, -, -, -, -, -, hsig⟩ := Cond.code_spec hn w2
  cases hm.symm.trans q1
  simp [Cond.before, Cond.holds, Cond.value, hn, hm, hs, hsig]
end Jvm.Pilot.@@N@@.OwnKit

namespace Jvm.Pilot.@@N@@.OwnKit
open Jvm Jvm.ClassFile Sem Op Lib Jvm.Free Jvm.Stand Jvm.LawKit Jvm.RoadKit Bundle
/-- a callee that may intern, the constants' invariant among its premises -/
theorem own_backW {p : Program} {l : Launch} {e : Env} {R : Room} {s : State} {args : Array Value} {below : List Frame} {Z : State} {a0 : Array Value} {h : Heap} {EL : List (String × Nat)} {vm0 : Vm} {y : MethodName} {bytes : ByteArray} {maxL : Nat} {ret : Option FieldType} {rm : Room} {len W : Nat} {as' : Array Value} {Q : Option Value → Heap → List Loc → Prop}
    (hM : MetFree l y (head1 [Cond.code y bytes maxL ret] rm) (fun a U => a = as' ∧ Z.Warmed39 U.vm ∧ U.heap = h ∧ CHv Z EL U.vm h) (fun _ _ _ _ _ => True) (fun _ U o U' => ∃ v L, o = .returned v ∧ Q v U'.heap L ∧ ReturnedEndW U o U' L rm.cells rm.slots))
    (hZ : Z.Warmed39 vm0) (wc : (Cond.code y bytes maxL ret).before a0 Z = true) (wz : (Cond.initialized y.cls).before a0 Z = true) (hf : rm.frames + 1 ≤ R.frames) (hl : W + (maxL + 11) + rm.locals ≤ R.locals) (hEL : EW Z a0 EL) (H : CHv Z EL vm0 h) :
    BackS l R p e below (s.setVm vm0) args y len W (fun A a => a = as' ∧ A.U.heap = h ∧ A.cells + rm.cells ≤ R.cells ∧ A.slots + rm.slots ≤ R.slots)
      (fun A _ v B => ∃ L, Q v B.U.heap L ∧ B.locs = A.locs ++ L ∧ B.cells = A.cells + rm.cells ∧ B.slots = A.slots + rm.slots) := by
  refine BackS.of_freeW (bytes := bytes) (maxL := maxL) (ret := ret) (E := fun _ _ o t L k n => (k = rm.cells ∧ n = rm.slots) ∧ ∃ v, o = .returned v ∧ Q v t.heap L) hM hf hl ?_ ?_ (fun _ _ _ _ _ _ _ _ _ => trivial) ?_ ?_
  · intro m meth c A a Y hp
    have hU : Z.Warmed39 A.U.vm := State.Warmed39.trans (t := s.setVm vm0) hZ Y.warmed.wide
    exact ⟨by show (Cond.and _ .tt).before a A.U = true; rw [Cond.before_and, mv hU wc]; rfl, mv hU wc, mv hU wz, hp.2.2.1, hp.2.2.2⟩
  · intro m meth c A a g mk Y hp
    exact ⟨hp.1, State.Warmed39.trans (t := s.setVm vm0) hZ Y.warmed.wide, hp.2.1, (CHv.at Y hZ hEL H).1⟩
  · rintro _ _ _ _ ⟨v, L, h1, h2, h3⟩
    exact ⟨L, _, _, h3, ⟨rfl, rfl⟩, v, h1, h2⟩
  · rintro m meth c A a g mk v t L k n Y hp _ _ ⟨⟨rfl, rfl⟩, v', e3, e4⟩
    cases e3
    exact ⟨L, e4, rfl, rfl, rfl⟩
theorem own_since (s : State) (n : Nat) : s.Since s.vm n := (State.WarmedH.refl s).since n
theorem own_fin {s : State} {o : Outcome} {t : State} {L : List Loc} {k n k' n' : Nat} (h : ReturnedEndW s o t L k n) (h1 : k ≤ k') (h2 : n ≤ n') : ReturnedEndW s o t L k' n' := ⟨h.1, h.2.1, h.2.2.1, h.2.2.2.mono h1 h2⟩
end Jvm.Pilot.@@N@@.OwnKit

namespace Jvm.Pilot.@@N@@
open Jvm Jvm.ClassFile Sem Op Lib Jvm.Free Jvm.Stand Jvm.LawKit Jvm.RoadKit Bundle Jvm.Pilot.@@N@@.Jvm.D
abbrev own_b (c : Int32) : Int32 := c.toInt8.toInt32
def own_ch (c : Int32) : Prop := 0 ≤ c.toInt ∧ c.toInt ≤ 255
theorem own_nat {n : Nat} (hn : n < 2147483648) : (Int32.ofNat n).toInt = n := Int32.toInt_ofNat_small hn
theorem own_clamp {n : Nat} (hn : n < 2147483648) : (Int32.ofNat n).toNatClampNeg = n := by show (Int32.ofNat n).toInt.toNat = n; rw [own_nat hn]; rfl
theorem own_lt {a b : Nat} (ha : a < 2147483648) (hb : b < 2147483648) : Int32.ofNat a < Int32.ofNat b ↔ a < b := by rw [Int32.lt_iff_toInt_lt, own_nat ha, own_nat hb]; omega
theorem own_inj {a b : Nat} (ha : a < 2147483648) (hb : b < 2147483648) : Int32.ofNat a = Int32.ofNat b ↔ a = b := by rw [← Int32.toInt_inj, own_nat ha, own_nat hb]; omega
theorem own_nn {a : Nat} (ha : a < 2147483648) : ¬ Int32.ofNat a < 0 := by rw [Int32.lt_iff_toInt_lt, own_nat ha, Int32.toInt_zero]; omega
theorem own_succ (n : Nat) : Int32.ofNat n + 1 = Int32.ofNat (n + 1) := by rw [Int32.ofNat_add]; rfl
theorem own_sub0 (x : Int32) : x - 0 = x := by simp
theorem own_fin {c : Int32} (h : own_ch c) : ∃ n : Fin 256, c = Int32.ofNat n := ⟨⟨c.toInt.toNat, by have := h.2; omega⟩, by rw [← Int32.toInt_inj]; show _ = (Int32.ofNat c.toInt.toNat).toInt; rw [own_nat (by have := h.2; omega)]; have := h.1; omega⟩
set_option maxRecDepth 65536 in
theorem own_and_fin : ∀ n : Fin 256, nar .char ((own_b (Int32.ofNat n) &&& (255 : Int32)).toUInt32.toUInt16.toUInt32.toInt32) = Int32.ofNat n := by decide +kernel
set_option maxRecDepth 65536 in
theorem own_and_fin2 : ∀ n : Fin 256, (own_b (Int32.ofNat n) &&& (255 : Int32)).toUInt32.toUInt16.toUInt32.toInt32 = Int32.ofNat n := by decide +kernel
set_option maxRecDepth 65536 in
theorem own_nar_fin : ∀ n : Fin 256, nar .char (Int32.ofNat n) = Int32.ofNat n := by decide +kernel
set_option maxRecDepth 65536 in
theorem own_nb_fin : ∀ n : Fin 256, nar .byte (own_b (Int32.ofNat n)) = own_b (Int32.ofNat n) := by decide +kernel
theorem own_and {c : Int32} (h : own_ch c) : nar .char ((own_b c &&& (255 : Int32)).toUInt32.toUInt16.toUInt32.toInt32) = c := by obtain ⟨n, rfl⟩ := own_fin h; exact own_and_fin n
theorem own_and2 {c : Int32} (h : own_ch c) : (own_b c &&& (255 : Int32)).toUInt32.toUInt16.toUInt32.toInt32 = c := by obtain ⟨n, rfl⟩ := own_fin h; exact own_and_fin2 n
theorem own_narc {c : Int32} (h : own_ch c) : nar .char c = c := by obtain ⟨n, rfl⟩ := own_fin h; exact own_nar_fin n
theorem own_nb {c : Int32} (h : own_ch c) : nar .byte (own_b c) = own_b c := by obtain ⟨n, rfl⟩ := own_fin h; exact own_nb_fin n
theorem own_shr0 (x : Int32) : x >>> ((0 : Int32) &&& 31) = x := by
  have h := Jvm.Kit.i32_shr x ((0 : Int32) &&& 31) (k := 0) (by decide)
  rw [← Int32.toInt_inj, h]; simp
theorem own_last {Z : State} {h : Heap} {a : Addr} {k : ClassId} {z x : Int32} {bs : List Int32} (V : Arv Z h a k .byte z ((bs.map Value.int ++ List.replicate 1 (Value.int 0)).set bs.length (Value.int x)) (.int 0)) : Arv Z h a k .byte z ((bs ++ [x]).map Value.int) (.int 0) := by
  have e : (bs.map Value.int ++ List.replicate 1 (Value.int 0)).set bs.length (Value.int x) = (bs ++ [x]).map Value.int := by
    have q : bs.length = (bs.map Value.int).length := by simp
    rw [q, List.set_append_right _ _ (Nat.le_refl _)]; simp
  rw [← e]; exact V
def Qn (h0 : Heap) (n0 : Nat) (v : Option Value) (h : Heap) (L : List Loc) : Prop := v = none ∧ Fr n0 L ∧ h = h0
def Qi (z : Int32) (h0 : Heap) (n0 : Nat) (v : Option Value) (h : Heap) (L : List Loc) : Prop := v = some (.int z) ∧ Fr n0 L ∧ h = h0
def Qr (a : Addr) (h0 : Heap) (n0 : Nat) (v : Option Value) (h : Heap) (L : List Loc) : Prop := v = some (.ref a) ∧ Fr n0 L ∧ h = h0
def SBd (Z : State) (h : Heap) (n0 : Nat) (a b : Addr) (k : ClassId) (N : Nat) (bs : List Int32) : Prop := Exa Z h a "java/lang/StringBuilder" ∧ Fld Z h a "java/lang/AbstractStringBuilder" "value" "[B" (.ref b) ∧ Fld Z h a "java/lang/AbstractStringBuilder" "count" "I" (.int (Int32.ofNat bs.length)) ∧ Fld Z h a "java/lang/AbstractStringBuilder" "coder" "B" (.int 0) ∧
  Arv Z h b k .byte (Int32.ofNat N) (bs.map Value.int) (.int 0) ∧ Exa Z h b "[B" ∧ a ≠ b ∧ n0 ≤ a ∧ n0 ≤ b
def StrF (Z : State) (h : Heap) (x b : Addr) (k : ClassId) (bs : List Int32) : Prop := Exa Z h x "java/lang/String" ∧ Fld Z h x "java/lang/String" "coder" "B" (.int 0) ∧ Fld Z h x "java/lang/String" "value" "[B" (.ref b) ∧ Arv Z h b k .byte (Int32.ofNat bs.length) (bs.map Value.int) (.int 0)

abbrev Rc (p : Program) (e : Env) (below : List Frame) (A B : State) : Prop := ∀ tgt, Steps p.tables e below B tgt → Steps p.tables e below A tgt
theorem Rc.st {p : Program} {e : Env} {below : List Frame} {A B C : State} (R : Rc p e below A B) (h : ∀ tgt, Steps p.tables e below C tgt → Steps p.tables e below B tgt) : Rc p e below A C := fun tgt g => R tgt (h tgt g)
theorem Rc.tr {p : Program} {e : Env} {below : List Frame} {A B C : State} (R : Rc p e below A B) (h : Steps p.tables e below B C) : Rc p e below A C := fun tgt g => R tgt (h.trans g)
abbrev yn0 : MethodName := ⟨"java/lang/String", "coder", "()B"⟩
theorem pn_java_lang_String : plainName "java/lang/String" = true := by first | (simp [plainName, overriddenIn]; done) | decide +kernel
theorem ef_rm_coder (m : MethodId) (a1 : Addr) : entryFrame m #[(.ref a1)] 1 = mkF m 0 #[.val (.ref a1)] [] := by first | (simp [entryFrame, mkF, argsToLocals, Value.category]; done) | rfl
theorem d0_0 : decode jdk_42_method_152_code 0 = .ok (.getstatic 38, 3) := by decide +kernel
theorem d0_3 : decode jdk_42_method_152_code 3 = .ok (.ifCond .eq 10, 3) := by decide +kernel
theorem d0_6 : decode jdk_42_method_152_code 6 = .ok (.aload_n 0, 1) := by decide +kernel
theorem d0_7 : decode jdk_42_method_152_code 7 = .ok (.getfield 15, 3) := by decide +kernel
theorem d0_10 : decode jdk_42_method_152_code 10 = .ok (.goto 4, 3) := by decide +kernel
theorem d0_14 : decode jdk_42_method_152_code 14 = .ok (.ireturn, 1) := by decide +kernel
set_option maxRecDepth 65536 in
set_option maxHeartbeats 40000000 in
theorem rm_coder (l : Launch) (Z : State) (a0 : Array Value) (hw : ∀ d ∈ tables_1, d.before a0 Z = true) (ws : List Jvm.Cond) (a1 : Addr) (zc : Int32) (h0 : Heap) (n0 : Nat) (Z0 : n0 ≤ h0.size) (X00 : Old Z n0 h0) (S_cs : Sta Z Z.heap "java/lang/String" "COMPACT_STRINGS" "Z" (.int zc)) (hz : ¬ zc = 0) (Fd : Fld Z h0 a1 "java/lang/String" "coder" "B" (.int 0)) :
    MetFree l yn0 (head1 (Jvm.Cond.code yn0 jdk_42_method_152_code 1 (some .byte) :: ws) ({ frames := 0, cells := 0, slots := 0, locals := 0 } : Room)) (fun a U => a = #[(.ref a1)] ∧ Z.Warmed39 U.vm ∧ U.heap = h0) (fun _ _ _ _ _ => True) (fun _ U o U' => ∃ v L, o = .returned v ∧ Qi 0 h0 n0 v U'.heap L ∧ FrameEnd U o U' L ({ frames := 0, cells := 0, slots := 0, locals := 0 } : Room).cells ({ frames := 0, cells := 0, slots := 0, locals := 0 } : Room).slots) := by
 refine MetFree.of_bodySF (plainFor_of_name pn_java_lang_String) hisR ?_
 intro p e s m args below meth c s₁ Bd hml0 hP hK
 obtain ⟨rfl, hZ, hh⟩ := hP
 have hx := Bd.exec
 have hby := Bd.bytes
 have hml : c.maxLocals = 1 := hml0
 have hown : s.vm.findClass "java/lang/String" = some m.cls := findClass_of_methodNamed Bd.named
 have hnm := (name_of_methodNamed Bd.named Bd.method).1
 have X0 : Stand p l e ({ frames := 0, cells := 0, slots := 0, locals := 0 } : Room) s m #[(.ref a1)] below meth c s₁ [] 0 0 := Stand.of_body Bd
 have e0 : s₁.heap = h0 := by rw [← hh, Bd.state]; rfl
 have N0 := Fr.nil n0
 obtain ⟨A0, hA0⟩ : ∃ A, A = s₁.setTop (entryFrame m #[(.ref a1)] 1) := ⟨_, rfl⟩
 have R0 : ∀ tgt, Steps p.tables e below (s₁.setTop (mkF m 0 #[.val (.ref a1)] [])) tgt → Steps p.tables e below A0 tgt := fun tgt hgo => by rw [hA0]; exact castTop (ef_rm_coder m a1) hgo
 have w : ∀ (i : Nat) {d : Jvm.Cond}, tables_1[i]? = some d → d.before a0 Z = true := fun i d h => hw d (List.mem_of_getElem? h)
 obtain ⟨T1, X1, e1, st1⟩ := getS2 X0 hx hZ hown (host := "") (Or.inl (w 39 rfl)) Via.refl e0 (S_cs.ext X00.2) (g := (mkF m 0 #[.val (.ref a1)] [])) rfl (hb hby d0_0)
 have R2 := Rc.st R0 st1
 have R3 : Rc p e below A0 (T1.setTop (mkF m 7 #[.val (.ref a1)] [(.ref a1)])) := by
   intro tgt hgo
   refine R2 tgt ?_
   show Steps p.tables e below (T1.setTop (mkF m 3 #[.val (.ref a1)] [(.int zc)])) _
   refine XS.ifNo X1.here hx rfl (hb hby d0_3) rfl ((if0 _ _).trans (feq (hz : ¬ (zc = (0 : Int32)))).1) ?_
   refine XS.aloadN X1.here hx rfl (hb hby d0_6) rfl rfl ?_
   exact hgo
 obtain ⟨T4, X4, e4, st4⟩ := getF X1 hx hZ hown (host := "") (Or.inl (w 21 rfl)) Via.refl e1 Fd (g := (mkF m 7 #[.val (.ref a1)] [(.ref a1)])) rfl rfl (hb hby d0_7)
 have R5 := Rc.st R3 st4
 have R6 : Rc p e below A0 (T4.setTop (mkF m 14 #[.val (.ref a1)] [(.int 0)])) := by
   intro tgt hgo
   refine R5 tgt ?_
   show Steps p.tables e below (T4.setTop (mkF m 10 #[.val (.ref a1)] [(.int 0)])) _
   refine XS.goto X4.here hx rfl (pc0 := 10) (pc' := 14) rfl (hb hby d0_10) (by decide) (by decide) ?_
   exact hgo
 subst hA0
 obtain ⟨fs, hr, hrun, hended, hW, hsame⟩ := X4.leave (v := some (.int 0)) (fun h => by rw [Bd.returns] at h; cases h)
 refine ⟨_, _, R6 _ ?_, hrun, hended, _, _, rfl, ?_, ⟨_, rfl⟩, hW, hsame.mono (by decide) (by decide)⟩
 ·show Steps p.tables e below (T4.setTop (mkF m 14 #[.val (.ref a1)] [(.int 0)])) _
  exact retN X4 hx (t := .byte) Bd.returns (by simp) (hb hby d0_14) hr
 ·show Qi 0 h0 n0 _ T4.heap _
  rw [e4]
  exact ⟨rfl, N0, rfl⟩
abbrev yn1 : MethodName := ⟨"java/lang/String", "length", "()I"⟩
theorem ef_rm_length (m : MethodId) (a1 : Addr) : entryFrame m #[(.ref a1)] 1 = mkF m 0 #[.val (.ref a1)] [] := by first | (simp [entryFrame, mkF, argsToLocals, Value.category]; done) | rfl
theorem d1_0 : decode jdk_42_method_54_code 0 = .ok (.aload_n 0, 1) := by decide +kernel
theorem d1_1 : decode jdk_42_method_54_code 1 = .ok (.getfield 9, 3) := by decide +kernel
theorem d1_4 : decode jdk_42_method_54_code 4 = .ok (.arraylength, 1) := by decide +kernel
theorem d1_5 : decode jdk_42_method_54_code 5 = .ok (.aload_n 0, 1) := by decide +kernel
theorem d1_6 : decode jdk_42_method_54_code 6 = .ok (.invokevirtual 335, 3) := by decide +kernel
theorem pd_0 : parseMethodDescriptor "()B" = some ⟨[], some .byte⟩ := by decide +kernel
theorem d1_9 : decode jdk_42_method_54_code 9 = .ok (.ishr, 1) := by decide +kernel
theorem d1_10 : decode jdk_42_method_54_code 10 = .ok (.ireturn, 1) := by decide +kernel
set_option maxRecDepth 65536 in
set_option maxHeartbeats 40000000 in
theorem rm_length (l : Launch) (Z : State) (a0 : Array Value) (hw : ∀ d ∈ tables_1, d.before a0 Z = true) (ws : List Jvm.Cond) (a1 : Addr) (zc : Int32) (b : Addr) (k : ClassId) (bs : List Int32) (h0 : Heap) (n0 : Nat) (Z0 : n0 ≤ h0.size) (X00 : Old Z n0 h0) (S_cs : Sta Z Z.heap "java/lang/String" "COMPACT_STRINGS" "Z" (.int zc)) (hz : ¬ zc = 0) (DS : StrF Z h0 a1 b k bs) :
    MetFree l yn1 (head1 (Jvm.Cond.code yn1 jdk_42_method_54_code 1 (some .int) :: ws) ({ frames := 1, cells := 0, slots := 0, locals := 13 } : Room)) (fun a U => a = #[(.ref a1)] ∧ Z.Warmed39 U.vm ∧ U.heap = h0) (fun _ _ _ _ _ => True) (fun _ U o U' => ∃ v L, o = .returned v ∧ Qi (Int32.ofNat bs.length) h0 n0 v U'.heap L ∧ FrameEnd U o U' L ({ frames := 1, cells := 0, slots := 0, locals := 13 } : Room).cells ({ frames := 1, cells := 0, slots := 0, locals := 13 } : Room).slots) := by
 refine MetFree.of_bodySF (plainFor_of_name pn_java_lang_String) hisR ?_
 intro p e s m args below meth c s₁ Bd hml0 hP hK
 obtain ⟨rfl, hZ, hh⟩ := hP
 have hx := Bd.exec
 have hby := Bd.bytes
 have hml : c.maxLocals = 1 := hml0
 have hown : s.vm.findClass "java/lang/String" = some m.cls := findClass_of_methodNamed Bd.named
 have hnm := (name_of_methodNamed Bd.named Bd.method).1
 have X0 : Stand p l e ({ frames := 1, cells := 0, slots := 0, locals := 13 } : Room) s m #[(.ref a1)] below meth c s₁ [] 0 0 := Stand.of_body Bd
 have e0 : s₁.heap = h0 := by rw [← hh, Bd.state]; rfl
 have N0 := Fr.nil n0
 obtain ⟨A0, hA0⟩ : ∃ A, A = s₁.setTop (entryFrame m #[(.ref a1)] 1) := ⟨_, rfl⟩
 have R0 : ∀ tgt, Steps p.tables e below (s₁.setTop (mkF m 0 #[.val (.ref a1)] [])) tgt → Steps p.tables e below A0 tgt := fun tgt hgo => by rw [hA0]; exact castTop (ef_rm_length m a1) hgo
 have w : ∀ (i : Nat) {d : Jvm.Cond}, tables_1[i]? = some d → d.before a0 Z = true := fun i d h => hw d (List.mem_of_getElem? h)
 obtain ⟨E1, Fd, Fv, V1⟩ := DS
 have R1 : Rc p e below A0 (s₁.setTop (mkF m 1 #[.val (.ref a1)] [(.ref a1)])) := by
   intro tgt hgo
   refine R0 tgt ?_
   show Steps p.tables e below (s₁.setTop (mkF m 0 #[.val (.ref a1)] [])) _
   refine XS.aloadN X0.here hx rfl (hb hby d1_0) rfl rfl ?_
   exact hgo
 obtain ⟨T2, X2, e2, st2⟩ := getF X0 hx hZ hown (host := "") (Or.inl (w 20 rfl)) Via.refl e0 Fv (g := (mkF m 1 #[.val (.ref a1)] [(.ref a1)])) rfl rfl (hb hby d1_1)
 have R3 := Rc.st R1 st2
 obtain ⟨cl4, Ar4, -, S4, Nn4, -, -⟩ := id V1
 have R5 : Rc p e below A0 (T2.setTop (mkF m 5 #[.val (.ref a1)] [(.int (Int32.ofNat bs.length))])) := by
   intro tgt hgo
   refine R3 tgt ?_
   refine X2.arraylength hx (by rw [e2]; exact Ar4.1) (State.isArrayOf_alike hZ.alike Ar4.2.1) (g := (mkF m 4 #[.val (.ref a1)] [(.ref b)])) rfl rfl (hb hby d1_4) _ ?_
   rw [len_of S4 Nn4]
   exact hgo
 have R6 : Rc p e below A0 (T2.setTop (mkF m 6 #[.val (.ref a1)] [(.ref a1), (.int (Int32.ofNat bs.length))])) := by
   intro tgt hgo
   refine R5 tgt ?_
   show Steps p.tables e below (T2.setTop (mkF m 5 #[.val (.ref a1)] [(.int (Int32.ofNat bs.length))])) _
   refine XS.aloadN X2.here hx rfl (hb hby d1_5) rfl rfl ?_
   exact hgo
 obtain ⟨cq7, kq7, q7a, q7b, q7c⟩ := isOf hZ e2 E1
 obtain ⟨_, _, ⟨T7, L7, k7, n7⟩, -, X7, ⟨Lc7, hQ7, l7, y7, z7⟩, st7⟩ := X2.virtualBack hx (y := yn0) (z := yn0) hown (mvT hZ (w 34 rfl)) (mvT hZ (w 35 rfl)) (notFace_of_selects (args := #[]) (mvT hZ (w 37 rfl))) (mvT hZ (w 37 rfl)) (mvT hZ (w 36 rfl)) (by decide) (backOf (W := 1) (rm_coder l Z a0 hw [] a1 zc h0 n0 Z0 X00 S_cs hz Fd) hZ (w 38 rfl) (w 3 rfl) (by decide) (by decide)) q7a q7c (g := (mkF m 6 #[.val (.ref a1)] [(.ref a1), (.int (Int32.ofNat bs.length))])) rfl (by rw [hml]; rfl) (Steps.refl _) (argsL := []) (rest := [(.int (Int32.ofNat bs.length))]) (lenOf pd_0 rfl) rfl (by show 2 * 0 + _ ≤ _; exact Nat.le_of_eq rfl) (hb hby d1_6) (fun _ _ => ⟨rfl, e2, (by decide : 0 + 0 ≤ _), (by decide : 0 + 0 ≤ _)⟩)
 dsimp only [Pt.U, Pt.locs, Pt.cells, Pt.slots] at X7 l7 y7 z7 st7 hQ7
 subst l7 y7 z7
 obtain ⟨rfl, N7q, e7⟩ := hQ7
 have N7 := Fr.app N0 N7q
 have R8 := Rc.tr R6 st7
 have R9 : Rc p e below A0 (T7.setTop (mkF m 10 #[.val (.ref a1)] [(.int ((Int32.ofNat bs.length) >>> ((0 : Int32) &&& 31)))])) := by
   intro tgt hgo
   refine R8 tgt ?_
   show Steps p.tables e below (T7.setTop (mkF m 9 #[.val (.ref a1)] [(.int 0), (.int (Int32.ofNat bs.length))])) _
   refine XS.ishr X7.here hx rfl (hb hby d1_9) rfl ?_
   exact hgo
 subst hA0
 obtain ⟨fs, hr, hrun, hended, hW, hsame⟩ := X7.leave (v := some (.int ((Int32.ofNat bs.length) >>> ((0 : Int32) &&& 31)))) (fun h => by rw [Bd.returns] at h; cases h)
 refine ⟨_, _, R9 _ ?_, hrun, hended, _, _, rfl, ?_, ⟨_, rfl⟩, hW, hsame.mono (by decide) (by decide)⟩
 ·show Steps p.tables e below (T7.setTop (mkF m 10 #[.val (.ref a1)] [(.int ((Int32.ofNat bs.length) >>> ((0 : Int32) &&& 31)))])) _
  exact retI X7 hx Bd.returns (hb hby d1_10) hr
 ·show Qi (Int32.ofNat bs.length) h0 n0 _ T7.heap _
  rw [e7]
  exact ⟨by rw [own_shr0], N7, rfl⟩
abbrev yn2 : MethodName := ⟨"java/lang/String", "isLatin1", "()Z"⟩
theorem ef_rm_isl (m : MethodId) (a1 : Addr) : entryFrame m #[(.ref a1)] 1 = mkF m 0 #[.val (.ref a1)] [] := by first | (simp [entryFrame, mkF, argsToLocals, Value.category]; done) | rfl
theorem d2_0 : decode jdk_42_method_154_code 0 = .ok (.getstatic 38, 3) := by decide +kernel
theorem d2_3 : decode jdk_42_method_154_code 3 = .ok (.ifCond .eq 14, 3) := by decide +kernel
theorem d2_6 : decode jdk_42_method_154_code 6 = .ok (.aload_n 0, 1) := by decide +kernel
theorem d2_7 : decode jdk_42_method_154_code 7 = .ok (.getfield 15, 3) := by decide +kernel
theorem d2_10 : decode jdk_42_method_154_code 10 = .ok (.ifCond .ne 7, 3) := by decide +kernel
theorem d2_13 : decode jdk_42_method_154_code 13 = .ok (.iconst 1, 1) := by decide +kernel
theorem d2_14 : decode jdk_42_method_154_code 14 = .ok (.goto 4, 3) := by decide +kernel
theorem d2_18 : decode jdk_42_method_154_code 18 = .ok (.ireturn, 1) := by decide +kernel
set_option maxRecDepth 65536 in
set_option maxHeartbeats 40000000 in
theorem rm_isl (l : Launch) (Z : State) (a0 : Array Value) (hw : ∀ d ∈ tables_1, d.before a0 Z = true) (ws : List Jvm.Cond) (a1 : Addr) (zc : Int32) (h0 : Heap) (n0 : Nat) (Z0 : n0 ≤ h0.size) (X00 : Old Z n0 h0) (S_cs : Sta Z Z.heap "java/lang/String" "COMPACT_STRINGS" "Z" (.int zc)) (hz : ¬ zc = 0) (Fd : Fld Z h0 a1 "java/lang/String" "coder" "B" (.int 0)) :
    MetFree l yn2 (head1 (Jvm.Cond.code yn2 jdk_42_method_154_code 1 (some .boolean) :: ws) ({ frames := 0, cells := 0, slots := 0, locals := 0 } : Room)) (fun a U => a = #[(.ref a1)] ∧ Z.Warmed39 U.vm ∧ U.heap = h0) (fun _ _ _ _ _ => True) (fun _ U o U' => ∃ v L, o = .returned v ∧ Qi 1 h0 n0 v U'.heap L ∧ FrameEnd U o U' L ({ frames := 0, cells := 0, slots := 0, locals := 0 } : Room).cells ({ frames := 0, cells := 0, slots := 0, locals := 0 } : Room).slots) := by
 refine MetFree.of_bodySF (plainFor_of_name pn_java_lang_String) hisR ?_
 intro p e s m args below meth c s₁ Bd hml0 hP hK
 obtain ⟨rfl, hZ, hh⟩ := hP
 have hx := Bd.exec
 have hby := Bd.bytes
 have hml : c.maxLocals = 1 := hml0
 have hown : s.vm.findClass "java/lang/String" = some m.cls := findClass_of_methodNamed Bd.named
 have hnm := (name_of_methodNamed Bd.named Bd.method).1
 have X0 : Stand p l e ({ frames := 0, cells := 0, slots := 0, locals := 0 } : Room) s m #[(.ref a1)] below meth c s₁ [] 0 0 := Stand.of_body Bd
 have e0 : s₁.heap = h0 := by rw [← hh, Bd.state]; rfl
 have N0 := Fr.nil n0
 obtain ⟨A0, hA0⟩ : ∃ A, A = s₁.setTop (entryFrame m #[(.ref a1)] 1) := ⟨_, rfl⟩
 have R0 : ∀ tgt, Steps p.tables e below (s₁.setTop (mkF m 0 #[.val (.ref a1)] [])) tgt → Steps p.tables e below A0 tgt := fun tgt hgo => by rw [hA0]; exact castTop (ef_rm_isl m a1) hgo
 have w : ∀ (i : Nat) {d : Jvm.Cond}, tables_1[i]? = some d → d.before a0 Z = true := fun i d h => hw d (List.mem_of_getElem? h)
 obtain ⟨T1, X1, e1, st1⟩ := getS2 X0 hx hZ hown (host := "") (Or.inl (w 39 rfl)) Via.refl e0 (S_cs.ext X00.2) (g := (mkF m 0 #[.val (.ref a1)] [])) rfl (hb hby d2_0)
 have R2 := Rc.st R0 st1
 have R3 : Rc p e below A0 (T1.setTop (mkF m 7 #[.val (.ref a1)] [(.ref a1)])) := by
   intro tgt hgo
   refine R2 tgt ?_
   show Steps p.tables e below (T1.setTop (mkF m 3 #[.val (.ref a1)] [(.int zc)])) _
   refine XS.ifNo X1.here hx rfl (hb hby d2_3) rfl ((if0 _ _).trans (feq (hz : ¬ (zc = (0 : Int32)))).1) ?_
   refine XS.aloadN X1.here hx rfl (hb hby d2_6) rfl rfl ?_
   exact hgo
 obtain ⟨T4, X4, e4, st4⟩ := getF X1 hx hZ hown (host := "") (Or.inl (w 21 rfl)) Via.refl e1 Fd (g := (mkF m 7 #[.val (.ref a1)] [(.ref a1)])) rfl rfl (hb hby d2_7)
 have R5 := Rc.st R3 st4
 have R6 : Rc p e below A0 (T4.setTop (mkF m 18 #[.val (.ref a1)] [(.int 1)])) := by
   intro tgt hgo
   refine R5 tgt ?_
   show Steps p.tables e below (T4.setTop (mkF m 10 #[.val (.ref a1)] [(.int 0)])) _
   refine XS.ifNo X4.here hx rfl (hb hby d2_10) rfl ((if0 _ _).trans (teq (by decide : (0 : Int32) = (0 : Int32))).2) ?_
   refine XS.iconst X4.here hx rfl (hb hby d2_13) ?_
   refine XS.goto X4.here hx rfl (pc0 := 14) (pc' := 18) rfl (hb hby d2_14) (by decide) (by decide) ?_
   exact hgo
 subst hA0
 obtain ⟨fs, hr, hrun, hended, hW, hsame⟩ := X4.leave (v := some (.int 1)) (fun h => by rw [Bd.returns] at h; cases h)
 refine ⟨_, _, R6 _ ?_, hrun, hended, _, _, rfl, ?_, ⟨_, rfl⟩, hW, hsame.mono (by decide) (by decide)⟩
 ·show Steps p.tables e below (T4.setTop (mkF m 18 #[.val (.ref a1)] [(.int 1)])) _
  exact retN X4 hx (t := .boolean) Bd.returns (by simp) (hb hby d2_18) hr
 ·show Qi 1 h0 n0 _ T4.heap _
  rw [e4]
  exact ⟨rfl, N0, rfl⟩
abbrev yn3 : MethodName := ⟨"jdk/internal/util/Preconditions", "checkIndex", "(IILjava/util/function/BiFunction;)I"⟩
theorem pn_jdk_internal_util_Preconditions : plainName "jdk/internal/util/Preconditions" = true := by first | (simp [plainName, overriddenIn]; done) | decide +kernel
theorem ef_rm_pci_r (m : MethodId) (p1 : Int32) (p2 : Int32) (a3 : Addr) : entryFrame m #[(.int p1), (.int p2), (.ref a3)] 3 = mkF m 0 #[.val (.int p1), .val (.int p2), .val (.ref a3)] [] := by first | (simp [entryFrame, mkF, argsToLocals, Value.category]; done) | rfl
theorem d3_0 : decode jdk_41_method_11_code 0 = .ok (.iload_n 0, 1) := by decide +kernel
theorem d3_1 : decode jdk_41_method_11_code 1 = .ok (.ifCond .lt 8, 3) := by decide +kernel
theorem d3_4 : decode jdk_41_method_11_code 4 = .ok (.iload_n 0, 1) := by decide +kernel
theorem d3_5 : decode jdk_41_method_11_code 5 = .ok (.iload_n 1, 1) := by decide +kernel
theorem d3_6 : decode jdk_41_method_11_code 6 = .ok (.if_icmp .lt 10, 3) := by decide +kernel
theorem d3_16 : decode jdk_41_method_11_code 16 = .ok (.iload_n 0, 1) := by decide +kernel
theorem d3_17 : decode jdk_41_method_11_code 17 = .ok (.ireturn, 1) := by decide +kernel
set_option maxRecDepth 65536 in
set_option maxHeartbeats 40000000 in
theorem rm_pci_r (l : Launch) (Z : State) (a0 : Array Value) (hw : ∀ d ∈ tables_1, d.before a0 Z = true) (ws : List Jvm.Cond) (p1 : Int32) (p2 : Int32) (a3 : Addr) (h0 : Heap) (n0 : Nat) (Z0 : n0 ≤ h0.size) (h1 : ¬ p1 < 0) (h2 : p1 < p2) :
    MetFree l yn3 (head1 (Jvm.Cond.code yn3 jdk_41_method_11_code 3 (some .int) :: ws) ({ frames := 0, cells := 0, slots := 0, locals := 0 } : Room)) (fun a U => a = #[(.int p1), (.int p2), (.ref a3)] ∧ Z.Warmed39 U.vm ∧ U.heap = h0) (fun _ _ _ _ _ => True) (fun _ U o U' => ∃ v L, o = .returned v ∧ Qi p1 h0 n0 v U'.heap L ∧ FrameEnd U o U' L ({ frames := 0, cells := 0, slots := 0, locals := 0 } : Room).cells ({ frames := 0, cells := 0, slots := 0, locals := 0 } : Room).slots) := by
 refine MetFree.of_bodySF (plainFor_of_name pn_jdk_internal_util_Preconditions) hisR ?_
 intro p e s m args below meth c s₁ Bd hml0 hP hK
 obtain ⟨rfl, hZ, hh⟩ := hP
 have hx := Bd.exec
 have hby := Bd.bytes
 have hml : c.maxLocals = 3 := hml0
 have hown : s.vm.findClass "jdk/internal/util/Preconditions" = some m.cls := findClass_of_methodNamed Bd.named
 have hnm := (name_of_methodNamed Bd.named Bd.method).1
 have X0 : Stand p l e ({ frames := 0, cells := 0, slots := 0, locals := 0 } : Room) s m #[(.int p1), (.int p2), (.ref a3)] below meth c s₁ [] 0 0 := Stand.of_body Bd
 have e0 : s₁.heap = h0 := by rw [← hh, Bd.state]; rfl
 have N0 := Fr.nil n0
 obtain ⟨A0, hA0⟩ : ∃ A, A = s₁.setTop (entryFrame m #[(.int p1), (.int p2), (.ref a3)] 3) := ⟨_, rfl⟩
 have R0 : ∀ tgt, Steps p.tables e below (s₁.setTop (mkF m 0 #[.val (.int p1), .val (.int p2), .val (.ref a3)] [])) tgt → Steps p.tables e below A0 tgt := fun tgt hgo => by rw [hA0]; exact castTop (ef_rm_pci_r m p1 p2 a3) hgo
 have w : ∀ (i : Nat) {d : Jvm.Cond}, tables_1[i]? = some d → d.before a0 Z = true := fun i d h => hw d (List.mem_of_getElem? h)
 have R1 : Rc p e below A0 (s₁.setTop (mkF m 17 #[.val (.int p1), .val (.int p2), .val (.ref a3)] [(.int p1)])) := by
   intro tgt hgo
   refine R0 tgt ?_
   show Steps p.tables e below (s₁.setTop (mkF m 0 #[.val (.int p1), .val (.int p2), .val (.ref a3)] [])) _
   refine XS.iloadN X0.here hx rfl (hb hby d3_0) rfl ?_
   refine XS.ifNo X0.here hx rfl (hb hby d3_1) rfl ((if0 _ _).trans (flt (h1 : ¬ (p1 < (0 : Int32)))).1) ?_
   refine XS.iloadN X0.here hx rfl (hb hby d3_4) rfl ?_
   refine XS.iloadN X0.here hx rfl (hb hby d3_5) rfl ?_
   refine XS.icmpYes X0.here hx rfl (pc0 := 6) (pc' := 16) rfl (hb hby d3_6) rfl (tlt (h2 : p1 < p2)).1 (by decide) (by decide) ?_
   refine XS.iloadN X0.here hx rfl (hb hby d3_16) rfl ?_
   exact hgo
 subst hA0
 obtain ⟨fs, hr, hrun, hended, hW, hsame⟩ := X0.leave (v := some (.int p1)) (fun h => by rw [Bd.returns] at h; cases h)
 refine ⟨_, _, R1 _ ?_, hrun, hended, _, _, rfl, ?_, ⟨_, rfl⟩, hW, hsame.mono (by decide) (by decide)⟩
 ·show Steps p.tables e below (s₁.setTop (mkF m 17 #[.val (.int p1), .val (.int p2), .val (.ref a3)] [(.int p1)])) _
  exact retI X0 hx Bd.returns (hb hby d3_17) hr
 ·show Qi p1 h0 n0 _ s₁.heap _
  rw [e0]
  exact ⟨rfl, N0, rfl⟩
theorem ef_rm_pci_n (m : MethodId) (p1 : Int32) (p2 : Int32) : entryFrame m #[(.int p1), (.int p2), .null] 3 = mkF m 0 #[.val (.int p1), .val (.int p2), .val .null] [] := by first | (simp [entryFrame, mkF, argsToLocals, Value.category]; done) | rfl
set_option maxRecDepth 65536 in
set_option maxHeartbeats 40000000 in
theorem rm_pci_n (l : Launch) (Z : State) (a0 : Array Value) (hw : ∀ d ∈ tables_1, d.before a0 Z = true) (ws : List Jvm.Cond) (p1 : Int32) (p2 : Int32) (h0 : Heap) (n0 : Nat) (Z0 : n0 ≤ h0.size) (h1 : ¬ p1 < 0) (h2 : p1 < p2) :
    MetFree l yn3 (head1 (Jvm.Cond.code yn3 jdk_41_method_11_code 3 (some .int) :: ws) ({ frames := 0, cells := 0, slots := 0, locals := 0 } : Room)) (fun a U => a = #[(.int p1), (.int p2), .null] ∧ Z.Warmed39 U.vm ∧ U.heap = h0) (fun _ _ _ _ _ => True) (fun _ U o U' => ∃ v L, o = .returned v ∧ Qi p1 h0 n0 v U'.heap L ∧ FrameEnd U o U' L ({ frames := 0, cells := 0, slots := 0, locals := 0 } : Room).cells ({ frames := 0, cells := 0, slots := 0, locals := 0 } : Room).slots) := by
 refine MetFree.of_bodySF (plainFor_of_name pn_jdk_internal_util_Preconditions) hisR ?_
 intro p e s m args below meth c s₁ Bd hml0 hP hK
 obtain ⟨rfl, hZ, hh⟩ := hP
 have hx := Bd.exec
 have hby := Bd.bytes
 have hml : c.maxLocals = 3 := hml0
 have hown : s.vm.findClass "jdk/internal/util/Preconditions" = some m.cls := findClass_of_methodNamed Bd.named
 have hnm := (name_of_methodNamed Bd.named Bd.method).1
 have X0 : Stand p l e ({ frames := 0, cells := 0, slots := 0, locals := 0 } : Room) s m #[(.int p1), (.int p2), .null] below meth c s₁ [] 0 0 := Stand.of_body Bd
 have e0 : s₁.heap = h0 := by rw [← hh, Bd.state]; rfl
 have N0 := Fr.nil n0
 obtain ⟨A0, hA0⟩ : ∃ A, A = s₁.setTop (entryFrame m #[(.int p1), (.int p2), .null] 3) := ⟨_, rfl⟩
 have R0 : ∀ tgt, Steps p.tables e below (s₁.setTop (mkF m 0 #[.val (.int p1), .val (.int p2), .val .null] [])) tgt → Steps p.tables e below A0 tgt := fun tgt hgo => by rw [hA0]; exact castTop (ef_rm_pci_n m p1 p2) hgo
 have w : ∀ (i : Nat) {d : Jvm.Cond}, tables_1[i]? = some d → d.before a0 Z = true := fun i d h => hw d (List.mem_of_getElem? h)
 have R1 : Rc p e below A0 (s₁.setTop (mkF m 17 #[.val (.int p1), .val (.int p2), .val .null] [(.int p1)])) := by
   intro tgt hgo
   refine R0 tgt ?_
   show Steps p.tables e below (s₁.setTop (mkF m 0 #[.val (.int p1), .val (.int p2), .val .null] [])) _
   refine XS.iloadN X0.here hx rfl (hb hby d3_0) rfl ?_
   refine XS.ifNo X0.here hx rfl (hb hby d3_1) rfl ((if0 _ _).trans (flt (h1 : ¬ (p1 < (0 : Int32)))).1) ?_
   refine XS.iloadN X0.here hx rfl (hb hby d3_4) rfl ?_
   refine XS.iloadN X0.here hx rfl (hb hby d3_5) rfl ?_
   refine XS.icmpYes X0.here hx rfl (pc0 := 6) (pc' := 16) rfl (hb hby d3_6) rfl (tlt (h2 : p1 < p2)).1 (by decide) (by decide) ?_
   refine XS.iloadN X0.here hx rfl (hb hby d3_16) rfl ?_
   exact hgo
 subst hA0
 obtain ⟨fs, hr, hrun, hended, hW, hsame⟩ := X0.leave (v := some (.int p1)) (fun h => by rw [Bd.returns] at h; cases h)
 refine ⟨_, _, R1 _ ?_, hrun, hended, _, _, rfl, ?_, ⟨_, rfl⟩, hW, hsame.mono (by decide) (by decide)⟩
 ·show Steps p.tables e below (s₁.setTop (mkF m 17 #[.val (.int p1), .val (.int p2), .val .null] [(.int p1)])) _
  exact retI X0 hx Bd.returns (hb hby d3_17) hr
 ·show Qi p1 h0 n0 _ s₁.heap _
  rw [e0]
  exact ⟨rfl, N0, rfl⟩
abbrev yn4 : MethodName := ⟨"java/lang/String", "checkIndex", "(II)V"⟩
theorem ef_rm_sci_r (m : MethodId) (p1 : Int32) (p2 : Int32) : entryFrame m #[(.int p1), (.int p2)] 2 = mkF m 0 #[.val (.int p1), .val (.int p2)] [] := by first | (simp [entryFrame, mkF, argsToLocals, Value.category]; done) | rfl
theorem d4_0 : decode jdk_42_method_155_code 0 = .ok (.iload_n 0, 1) := by decide +kernel
theorem d4_1 : decode jdk_42_method_155_code 1 = .ok (.iload_n 1, 1) := by decide +kernel
theorem d4_2 : decode jdk_42_method_155_code 2 = .ok (.getstatic 1053, 3) := by decide +kernel
theorem d4_5 : decode jdk_42_method_155_code 5 = .ok (.invokestatic 1059, 3) := by decide +kernel
theorem pd_1 : parseMethodDescriptor "(IILjava/util/function/BiFunction;)I" = some ⟨[.int, .int, (.object "java/util/function/BiFunction")], some .int⟩ := by decide +kernel
theorem d4_8 : decode jdk_42_method_155_code 8 = .ok (.pop, 1) := by decide +kernel
theorem d4_9 : decode jdk_42_method_155_code 9 = .ok (.return_, 1) := by decide +kernel
set_option maxRecDepth 65536 in
set_option maxHeartbeats 40000000 in
theorem rm_sci_r (l : Launch) (Z : State) (a0 : Array Value) (hw : ∀ d ∈ tables_1, d.before a0 Z = true) (ws : List Jvm.Cond) (p1 : Int32) (p2 : Int32) (af : Addr) (h0 : Heap) (n0 : Nat) (Z0 : n0 ≤ h0.size) (X00 : Old Z n0 h0) (S_f : Sta Z Z.heap "jdk/internal/util/Preconditions" "SIOOBE_FORMATTER" "Ljava/util/function/BiFunction;" (.ref af)) (h1 : ¬ p1 < 0) (h2 : p1 < p2) :
    MetFree l yn4 (head1 (Jvm.Cond.code yn4 jdk_42_method_155_code 2 none :: ws) ({ frames := 1, cells := 0, slots := 0, locals := 14 } : Room)) (fun a U => a = #[(.int p1), (.int p2)] ∧ Z.Warmed39 U.vm ∧ U.heap = h0) (fun _ _ _ _ _ => True) (fun _ U o U' => ∃ v L, o = .returned v ∧ Qn h0 n0 v U'.heap L ∧ FrameEnd U o U' L ({ frames := 1, cells := 0, slots := 0, locals := 14 } : Room).cells ({ frames := 1, cells := 0, slots := 0, locals := 14 } : Room).slots) := by
 refine MetFree.of_bodySF (plainFor_of_name pn_java_lang_String) hisR ?_
 intro p e s m args below meth c s₁ Bd hml0 hP hK
 obtain ⟨rfl, hZ, hh⟩ := hP
 have hx := Bd.exec
 have hby := Bd.bytes
 have hml : c.maxLocals = 2 := hml0
 have hown : s.vm.findClass "java/lang/String" = some m.cls := findClass_of_methodNamed Bd.named
 have hnm := (name_of_methodNamed Bd.named Bd.method).1
 have X0 : Stand p l e ({ frames := 1, cells := 0, slots := 0, locals := 14 } : Room) s m #[(.int p1), (.int p2)] below meth c s₁ [] 0 0 := Stand.of_body Bd
 have e0 : s₁.heap = h0 := by rw [← hh, Bd.state]; rfl
 have N0 := Fr.nil n0
 obtain ⟨A0, hA0⟩ : ∃ A, A = s₁.setTop (entryFrame m #[(.int p1), (.int p2)] 2) := ⟨_, rfl⟩
 have R0 : ∀ tgt, Steps p.tables e below (s₁.setTop (mkF m 0 #[.val (.int p1), .val (.int p2)] [])) tgt → Steps p.tables e below A0 tgt := fun tgt hgo => by rw [hA0]; exact castTop (ef_rm_sci_r m p1 p2) hgo
 have w : ∀ (i : Nat) {d : Jvm.Cond}, tables_1[i]? = some d → d.before a0 Z = true := fun i d h => hw d (List.mem_of_getElem? h)
 have R1 : Rc p e below A0 (s₁.setTop (mkF m 2 #[.val (.int p1), .val (.int p2)] [(.int p2), (.int p1)])) := by
   intro tgt hgo
   refine R0 tgt ?_
   show Steps p.tables e below (s₁.setTop (mkF m 0 #[.val (.int p1), .val (.int p2)] [])) _
   refine XS.iloadN X0.here hx rfl (hb hby d4_0) rfl ?_
   refine XS.iloadN X0.here hx rfl (hb hby d4_1) rfl ?_
   exact hgo
 obtain ⟨T2, X2, e2, st2⟩ := getS2 X0 hx hZ hown (host := "") (Or.inl (w 137 rfl)) Via.refl e0 (S_f.ext X00.2) (g := (mkF m 2 #[.val (.int p1), .val (.int p2)] [(.int p2), (.int p1)])) rfl (hb hby d4_2)
 have R3 := Rc.st R1 st2
 obtain ⟨_, _, ⟨T4, L4, k4, n4⟩, -, X4, ⟨Lc4, hQ4, l4, y4, z4⟩, st4⟩ := Jvm.LawKit.callS X2 hx (y := yn3) hown (mvT hZ (w 139 rfl)) (mvT hZ (w 140 rfl)) (mvT hZ (w 138 rfl)) (mvT hZ (w 141 rfl)) (by decide) (backOf (W := 0) (rm_pci_r l Z a0 hw [] p1 p2 af h0 n0 Z0 h1 h2) hZ (w 141 rfl) (w 138 rfl) (by decide) (by decide)) (g := (mkF m 5 #[.val (.int p1), .val (.int p2)] [(.ref af), (.int p2), (.int p1)])) rfl (by rw [hml]; rfl) (argsL := [(.int p1), (.int p2), (.ref af)]) (rest := []) (lenOf pd_1 rfl) rfl (by show 2 * 0 + _ ≤ _; exact Nat.le_of_eq rfl) (hb hby d4_5) (fun _ _ => ⟨rfl, e2, (by decide : 0 + 0 ≤ _), (by decide : 0 + 0 ≤ _)⟩)
 dsimp only [Pt.U, Pt.locs, Pt.cells, Pt.slots] at X4 l4 y4 z4 st4 hQ4
 subst l4 y4 z4
 obtain ⟨rfl, N4q, e4⟩ := hQ4
 have N4 := Fr.app N0 N4q
 have R5 := Rc.st R3 st4
 have R6 : Rc p e below A0 (T4.setTop (mkF m 9 #[.val (.int p1), .val (.int p2)] [])) := by
   intro tgt hgo
   refine R5 tgt ?_
   show Steps p.tables e below (T4.setTop (mkF m 8 #[.val (.int p1), .val (.int p2)] [(.int p1)])) _
   refine XS.pop X4.here hx rfl (hb hby d4_8) rfl rfl ?_
   exact hgo
 subst hA0
 obtain ⟨fs, hr, hrun, hended, hW, hsame⟩ := X4.leave (v := none) (fun _ => rfl)
 refine ⟨_, _, R6 _ ?_, hrun, hended, _, _, rfl, ?_, ⟨_, rfl⟩, hW, hsame.mono (by decide) (by decide)⟩
 ·show Steps p.tables e below (T4.setTop (mkF m 9 #[.val (.int p1), .val (.int p2)] [])) _
  exact X4.returnOut hx Bd.returns (hb hby d4_9) hr
 ·show Qn h0 n0 _ T4.heap _
  rw [e4]
  exact ⟨rfl, N4, rfl⟩
theorem ef_rm_sci_n (m : MethodId) (p1 : Int32) (p2 : Int32) : entryFrame m #[(.int p1), (.int p2)] 2 = mkF m 0 #[.val (.int p1), .val (.int p2)] [] := by first | (simp [entryFrame, mkF, argsToLocals, Value.category]; done) | rfl
set_option maxRecDepth 65536 in
set_option maxHeartbeats 40000000 in
theorem rm_sci_n (l : Launch) (Z : State) (a0 : Array Value) (hw : ∀ d ∈ tables_1, d.before a0 Z = true) (ws : List Jvm.Cond) (p1 : Int32) (p2 : Int32) (h0 : Heap) (n0 : Nat) (Z0 : n0 ≤ h0.size) (X00 : Old Z n0 h0) (S_f : Sta Z Z.heap "jdk/internal/util/Preconditions" "SIOOBE_FORMATTER" "Ljava/util/function/BiFunction;" .null) (h1 : ¬ p1 < 0) (h2 : p1 < p2) :
    MetFree l yn4 (head1 (Jvm.Cond.code yn4 jdk_42_method_155_code 2 none :: ws) ({ frames := 1, cells := 0, slots := 0, locals := 14 } : Room)) (fun a U => a = #[(.int p1), (.int p2)] ∧ Z.Warmed39 U.vm ∧ U.heap = h0) (fun _ _ _ _ _ => True) (fun _ U o U' => ∃ v L, o = .returned v ∧ Qn h0 n0 v U'.heap L ∧ FrameEnd U o U' L ({ frames := 1, cells := 0, slots := 0, locals := 14 } : Room).cells ({ frames := 1, cells := 0, slots := 0, locals := 14 } : Room).slots) := by
 refine MetFree.of_bodySF (plainFor_of_name pn_java_lang_String) hisR ?_
 intro p e s m args below meth c s₁ Bd hml0 hP hK
 obtain ⟨rfl, hZ, hh⟩ := hP
 have hx := Bd.exec
 have hby := Bd.bytes
 have hml : c.maxLocals = 2 := hml0
 have hown : s.vm.findClass "java/lang/String" = some m.cls := findClass_of_methodNamed Bd.named
 have hnm := (name_of_methodNamed Bd.named Bd.method).1
 have X0 : Stand p l e ({ frames := 1, cells := 0, slots := 0, locals := 14 } : Room) s m #[(.int p1), (.int p2)] below meth c s₁ [] 0 0 := Stand.of_body Bd
 have e0 : s₁.heap = h0 := by rw [← hh, Bd.state]; rfl
 have N0 := Fr.nil n0
 obtain ⟨A0, hA0⟩ : ∃ A, A = s₁.setTop (entryFrame m #[(.int p1), (.int p2)] 2) := ⟨_, rfl⟩
 have R0 : ∀ tgt, Steps p.tables e below (s₁.setTop (mkF m 0 #[.val (.int p1), .val (.int p2)] [])) tgt → Steps p.tables e below A0 tgt := fun tgt hgo => by rw [hA0]; exact castTop (ef_rm_sci_n m p1 p2) hgo
 have w : ∀ (i : Nat) {d : Jvm.Cond}, tables_1[i]? = some d → d.before a0 Z = true := fun i d h => hw d (List.mem_of_getElem? h)
 have R1 : Rc p e below A0 (s₁.setTop (mkF m 2 #[.val (.int p1), .val (.int p2)] [(.int p2), (.int p1)])) := by
   intro tgt hgo
   refine R0 tgt ?_
   show Steps p.tables e below (s₁.setTop (mkF m 0 #[.val (.int p1), .val (.int p2)] [])) _
   refine XS.iloadN X0.here hx rfl (hb hby d4_0) rfl ?_
   refine XS.iloadN X0.here hx rfl (hb hby d4_1) rfl ?_
   exact hgo
 obtain ⟨T2, X2, e2, st2⟩ := getS2 X0 hx hZ hown (host := "") (Or.inl (w 137 rfl)) Via.refl e0 (S_f.ext X00.2) (g := (mkF m 2 #[.val (.int p1), .val (.int p2)] [(.int p2), (.int p1)])) rfl (hb hby d4_2)
 have R3 := Rc.st R1 st2
 obtain ⟨_, _, ⟨T4, L4, k4, n4⟩, -, X4, ⟨Lc4, hQ4, l4, y4, z4⟩, st4⟩ := Jvm.LawKit.callS X2 hx (y := yn3) hown (mvT hZ (w 139 rfl)) (mvT hZ (w 140 rfl)) (mvT hZ (w 138 rfl)) (mvT hZ (w 141 rfl)) (by decide) (backOf (W := 0) (rm_pci_n l Z a0 hw [] p1 p2 h0 n0 Z0 h1 h2) hZ (w 141 rfl) (w 138 rfl) (by decide) (by decide)) (g := (mkF m 5 #[.val (.int p1), .val (.int p2)] [.null, (.int p2), (.int p1)])) rfl (by rw [hml]; rfl) (argsL := [(.int p1), (.int p2), .null]) (rest := []) (lenOf pd_1 rfl) rfl (by show 2 * 0 + _ ≤ _; exact Nat.le_of_eq rfl) (hb hby d4_5) (fun _ _ => ⟨rfl, e2, (by decide : 0 + 0 ≤ _), (by decide : 0 + 0 ≤ _)⟩)
 dsimp only [Pt.U, Pt.locs, Pt.cells, Pt.slots] at X4 l4 y4 z4 st4 hQ4
 subst l4 y4 z4
 obtain ⟨rfl, N4q, e4⟩ := hQ4
 have N4 := Fr.app N0 N4q
 have R5 := Rc.st R3 st4
 have R6 : Rc p e below A0 (T4.setTop (mkF m 9 #[.val (.int p1), .val (.int p2)] [])) := by
   intro tgt hgo
   refine R5 tgt ?_
   show Steps p.tables e below (T4.setTop (mkF m 8 #[.val (.int p1), .val (.int p2)] [(.int p1)])) _
   refine XS.pop X4.here hx rfl (hb hby d4_8) rfl rfl ?_
   exact hgo
 subst hA0
 obtain ⟨fs, hr, hrun, hended, hW, hsame⟩ := X4.leave (v := none) (fun _ => rfl)
 refine ⟨_, _, R6 _ ?_, hrun, hended, _, _, rfl, ?_, ⟨_, rfl⟩, hW, hsame.mono (by decide) (by decide)⟩
 ·show Steps p.tables e below (T4.setTop (mkF m 9 #[.val (.int p1), .val (.int p2)] [])) _
  exact X4.returnOut hx Bd.returns (hb hby d4_9) hr
 ·show Qn h0 n0 _ T4.heap _
  rw [e4]
  exact ⟨rfl, N4, rfl⟩
theorem rm_sci (l : Launch) (Z : State) (a0 : Array Value) (hw : ∀ d ∈ tables_1, d.before a0 Z = true) (ws : List Jvm.Cond) (p1 : Int32) (p2 : Int32) (vf : Value) (h0 : Heap) (n0 : Nat) (Z0 : n0 ≤ h0.size) (X00 : Old Z n0 h0) (S_f : Sta Z Z.heap "jdk/internal/util/Preconditions" "SIOOBE_FORMATTER" "Ljava/util/function/BiFunction;" vf) (hf : vf.isRef = true) (h1 : ¬ p1 < 0) (h2 : p1 < p2) :
    MetFree l yn4 (head1 (Jvm.Cond.code yn4 jdk_42_method_155_code 2 none :: ws) ({ frames := 1, cells := 0, slots := 0, locals := 14 } : Room)) (fun a U => a = #[(.int p1), (.int p2)] ∧ Z.Warmed39 U.vm ∧ U.heap = h0) (fun _ _ _ _ _ => True) (fun _ U o U' => ∃ v L, o = .returned v ∧ Qn h0 n0 v U'.heap L ∧ FrameEnd U o U' L ({ frames := 1, cells := 0, slots := 0, locals := 14 } : Room).cells ({ frames := 1, cells := 0, slots := 0, locals := 14 } : Room).slots) := by
  rcases ref_cases hf with rfl | ⟨af, rfl⟩
  · exact rm_sci_n l Z a0 hw ws p1 p2 h0 n0 Z0 X00 S_f h1 h2
  · exact rm_sci_r l Z a0 hw ws p1 p2 af h0 n0 Z0 X00 S_f h1 h2
abbrev yn5 : MethodName := ⟨"java/lang/StringLatin1", "charAt", "([BI)C"⟩
theorem pn_java_lang_StringLatin1 : plainName "java/lang/StringLatin1" = true := by first | (simp [plainName, overriddenIn]; done) | decide +kernel
theorem ef_rm_lca (m : MethodId) (b : Addr) (pi : Int32) : entryFrame m #[(.ref b), (.int pi)] 2 = mkF m 0 #[.val (.ref b), .val (.int pi)] [] := by first | (simp [entryFrame, mkF, argsToLocals, Value.category]; done) | rfl
theorem d5_0 : decode jdk_43_method_2_code 0 = .ok (.iload_n 1, 1) := by decide +kernel
theorem d5_1 : decode jdk_43_method_2_code 1 = .ok (.aload_n 0, 1) := by decide +kernel
theorem d5_2 : decode jdk_43_method_2_code 2 = .ok (.arraylength, 1) := by decide +kernel
theorem d5_3 : decode jdk_43_method_2_code 3 = .ok (.invokestatic 9, 3) := by decide +kernel
theorem pd_2 : parseMethodDescriptor "(II)V" = some ⟨[.int, .int], none⟩ := by decide +kernel
theorem d5_6 : decode jdk_43_method_2_code 6 = .ok (.aload_n 0, 1) := by decide +kernel
theorem d5_7 : decode jdk_43_method_2_code 7 = .ok (.iload_n 1, 1) := by decide +kernel
theorem d5_8 : decode jdk_43_method_2_code 8 = .ok (.baload, 1) := by decide +kernel
theorem d5_9 : decode jdk_43_method_2_code 9 = .ok (.sipush 255, 3) := by decide +kernel
theorem d5_12 : decode jdk_43_method_2_code 12 = .ok (.iand, 1) := by decide +kernel
theorem d5_13 : decode jdk_43_method_2_code 13 = .ok (.i2c, 1) := by decide +kernel
theorem d5_14 : decode jdk_43_method_2_code 14 = .ok (.ireturn, 1) := by decide +kernel
set_option maxRecDepth 65536 in
set_option maxHeartbeats 40000000 in
theorem rm_lca (l : Launch) (Z : State) (a0 : Array Value) (hw : ∀ d ∈ tables_1, d.before a0 Z = true) (ws : List Jvm.Cond) (b : Addr) (pi : Int32) (k : ClassId) (bs : List Int32) (i : Nat) (ch : Int32) (vf : Value) (h0 : Heap) (n0 : Nat) (Z0 : n0 ≤ h0.size) (hpi : pi = Int32.ofNat i) (X00 : Old Z n0 h0) (S_f : Sta Z Z.heap "jdk/internal/util/Preconditions" "SIOOBE_FORMATTER" "Ljava/util/function/BiFunction;" vf) (hf : vf.isRef = true) (h31 : i < 2147483648) (h2 : Int32.ofNat i < Int32.ofNat bs.length) (hel : (bs.map Value.int).getD i (.int 0) = .int (own_b ch)) (hch : own_ch ch) (V1 : Arv Z h0 b k .byte (Int32.ofNat bs.length) (bs.map Value.int) (.int 0)) :
    MetFree l yn5 (head1 (Jvm.Cond.code yn5 jdk_43_method_2_code 2 (some .char) :: ws) ({ frames := 2, cells := 0, slots := 0, locals := 27 } : Room)) (fun a U => a = #[(.ref b), (.int pi)] ∧ Z.Warmed39 U.vm ∧ U.heap = h0) (fun _ _ _ _ _ => True) (fun _ U o U' => ∃ v L, o = .returned v ∧ Qi ch h0 n0 v U'.heap L ∧ FrameEnd U o U' L ({ frames := 2, cells := 0, slots := 0, locals := 27 } : Room).cells ({ frames := 2, cells := 0, slots := 0, locals := 27 } : Room).slots) := by
 refine MetFree.of_bodySF (plainFor_of_name pn_java_lang_StringLatin1) hisR ?_
 intro p e s m args below meth c s₁ Bd hml0 hP hK
 obtain ⟨rfl, hZ, hh⟩ := hP
 have hx := Bd.exec
 have hby := Bd.bytes
 have hml : c.maxLocals = 2 := hml0
 have hown : s.vm.findClass "java/lang/StringLatin1" = some m.cls := findClass_of_methodNamed Bd.named
 have hnm := (name_of_methodNamed Bd.named Bd.method).1
 have X0 : Stand p l e ({ frames := 2, cells := 0, slots := 0, locals := 27 } : Room) s m #[(.ref b), (.int pi)] below meth c s₁ [] 0 0 := Stand.of_body Bd
 have e0 : s₁.heap = h0 := by rw [← hh, Bd.state]; rfl
 have N0 := Fr.nil n0
 obtain ⟨A0, hA0⟩ : ∃ A, A = s₁.setTop (entryFrame m #[(.ref b), (.int pi)] 2) := ⟨_, rfl⟩
 have R0 : ∀ tgt, Steps p.tables e below (s₁.setTop (mkF m 0 #[.val (.ref b), .val (.int pi)] [])) tgt → Steps p.tables e below A0 tgt := fun tgt hgo => by rw [hA0]; exact castTop (ef_rm_lca m b pi) hgo
 have w : ∀ (i : Nat) {d : Jvm.Cond}, tables_1[i]? = some d → d.before a0 Z = true := fun i d h => hw d (List.mem_of_getElem? h)
 have q1 : ¬ pi < 0 := by rw [hpi]; exact own_nn h31
 have q2 : pi < Int32.ofNat bs.length := by rw [hpi]; exact h2
 have q3 : pi.toNatClampNeg = i := by rw [hpi]; exact own_clamp h31
 have R1 : Rc p e below A0 (s₁.setTop (mkF m 2 #[.val (.ref b), .val (.int pi)] [(.ref b), (.int pi)])) := by
   intro tgt hgo
   refine R0 tgt ?_
   show Steps p.tables e below (s₁.setTop (mkF m 0 #[.val (.ref b), .val (.int pi)] [])) _
   refine XS.iloadN X0.here hx rfl (hb hby d5_0) rfl ?_
   refine XS.aloadN X0.here hx rfl (hb hby d5_1) rfl rfl ?_
   exact hgo
 obtain ⟨cl2, Ar2, -, S2, Nn2, -, -⟩ := id V1
 have R3 : Rc p e below A0 (s₁.setTop (mkF m 3 #[.val (.ref b), .val (.int pi)] [(.int (Int32.ofNat bs.length)), (.int pi)])) := by
   intro tgt hgo
   refine R1 tgt ?_
   refine X0.arraylength hx (by rw [e0]; exact Ar2.1) (State.isArrayOf_alike hZ.alike Ar2.2.1) (g := (mkF m 2 #[.val (.ref b), .val (.int pi)] [(.ref b), (.int pi)])) rfl rfl (hb hby d5_2) _ ?_
   rw [len_of S2 Nn2]
   exact hgo
 obtain ⟨_, _, ⟨T4, L4, k4, n4⟩, -, X4, ⟨Lc4, hQ4, l4, y4, z4⟩, st4⟩ := Jvm.LawKit.callS X0 hx (y := yn4) hown (mvT hZ (w 134 rfl)) (mvT hZ (w 135 rfl)) (mvT hZ (w 3 rfl)) (mvT hZ (w 136 rfl)) (by decide) (backOf (W := 0) (rm_sci l Z a0 hw [] pi (Int32.ofNat bs.length) vf h0 n0 Z0 X00 S_f hf q1 q2) hZ (w 136 rfl) (w 3 rfl) (by decide) (by decide)) (g := (mkF m 3 #[.val (.ref b), .val (.int pi)] [(.int (Int32.ofNat bs.length)), (.int pi)])) rfl (by rw [hml]; rfl) (argsL := [(.int pi), (.int (Int32.ofNat bs.length))]) (rest := []) (lenOf pd_2 rfl) rfl (by show 2 * 0 + _ ≤ _; exact Nat.le_of_eq rfl) (hb hby d5_3) (fun _ _ => ⟨rfl, e0, (by decide : 0 + 0 ≤ _), (by decide : 0 + 0 ≤ _)⟩)
 dsimp only [Pt.U, Pt.locs, Pt.cells, Pt.slots] at X4 l4 y4 z4 st4 hQ4
 subst l4 y4 z4
 obtain ⟨rfl, N4q, e4⟩ := hQ4
 have N4 := Fr.app N0 N4q
 have R5 := Rc.st R3 st4
 have R6 : Rc p e below A0 (T4.setTop (mkF m 8 #[.val (.ref b), .val (.int pi)] [(.int pi), (.ref b)])) := by
   intro tgt hgo
   refine R5 tgt ?_
   show Steps p.tables e below (T4.setTop (mkF m 6 #[.val (.ref b), .val (.int pi)] [])) _
   refine XS.aloadN X4.here hx rfl (hb hby d5_6) rfl rfl ?_
   refine XS.iloadN X4.here hx rfl (hb hby d5_7) rfl ?_
   exact hgo
 obtain ⟨cl7, Ar7, q7, S7, Nn7, H7, G7⟩ := id V1
 have hin7 : ¬ (pi < 0 ∨ cl7.slots.size ≤ (pi).toNatClampNeg) := inb_of S7 ⟨q1, q2⟩
 have hat7 : cl7.slots[(pi).toNatClampNeg]? = some (.int (own_b ch)) := Has.at H7 hin7 (by rw [q3]; exact hel)
 have R8 : Rc p e below A0 (T4.setTop (mkF m 9 #[.val (.ref b), .val (.int pi)] [(.int (own_b ch))])) := by
   intro tgt hgo
   refine R6 tgt ?_
   refine X4.baloadBytes hx (j := pi) (v := (.int (own_b ch))) (by rw [e4]; exact Ar7.1) (State.isArrayOf_alike hZ.alike Ar7.2.1) Ar7.2.2 hin7 hat7 (g := (mkF m 8 #[.val (.ref b), .val (.int pi)] [(.int pi), (.ref b)])) rfl rfl (hb hby d5_8) _ ?_
   exact hgo
 have R9 : Rc p e below A0 (T4.setTop (mkF m 14 #[.val (.ref b), .val (.int pi)] [(.int (((own_b ch) &&& (255 : Int32)).toUInt32.toUInt16.toUInt32.toInt32))])) := by
   intro tgt hgo
   refine R8 tgt ?_
   show Steps p.tables e below (T4.setTop (mkF m 9 #[.val (.ref b), .val (.int pi)] [(.int (own_b ch))])) _
   refine XS.sipush X4.here hx rfl (hb hby d5_9) ?_
   refine XS.iand X4.here hx rfl (hb hby d5_12) rfl ?_
   refine XS.i2c X4.here hx rfl (hb hby d5_13) rfl ?_
   exact hgo
 subst hA0
 obtain ⟨fs, hr, hrun, hended, hW, hsame⟩ := X4.leave (v := some (.int (nar .char (((own_b ch) &&& (255 : Int32)).toUInt32.toUInt16.toUInt32.toInt32)))) (fun h => by rw [Bd.returns] at h; cases h)
 refine ⟨_, _, R9 _ ?_, hrun, hended, _, _, rfl, ?_, ⟨_, rfl⟩, hW, hsame.mono (by decide) (by decide)⟩
 ·show Steps p.tables e below (T4.setTop (mkF m 14 #[.val (.ref b), .val (.int pi)] [(.int (((own_b ch) &&& (255 : Int32)).toUInt32.toUInt16.toUInt32.toInt32))])) _
  exact retN X4 hx (t := .char) Bd.returns (by simp) (hb hby d5_14) hr
 ·show Qi ch h0 n0 _ T4.heap _
  rw [e4]
  exact ⟨by rw [own_and hch], N4, rfl⟩
abbrev yn6 : MethodName := ⟨"java/lang/String", "charAt", "(I)C"⟩
theorem ef_rm_charAt (m : MethodId) (a1 : Addr) (pi : Int32) : entryFrame m #[(.ref a1), (.int pi)] 2 = mkF m 0 #[.val (.ref a1), .val (.int pi)] [] := by first | (simp [entryFrame, mkF, argsToLocals, Value.category]; done) | rfl
theorem d6_0 : decode jdk_42_method_56_code 0 = .ok (.aload_n 0, 1) := by decide +kernel
theorem d6_1 : decode jdk_42_method_56_code 1 = .ok (.invokevirtual 492, 3) := by decide +kernel
theorem pd_3 : parseMethodDescriptor "()Z" = some ⟨[], some .boolean⟩ := by decide +kernel
theorem d6_4 : decode jdk_42_method_56_code 4 = .ok (.ifCond .eq 12, 3) := by decide +kernel
theorem d6_7 : decode jdk_42_method_56_code 7 = .ok (.aload_n 0, 1) := by decide +kernel
theorem d6_8 : decode jdk_42_method_56_code 8 = .ok (.getfield 9, 3) := by decide +kernel
theorem d6_11 : decode jdk_42_method_56_code 11 = .ok (.iload_n 1, 1) := by decide +kernel
theorem d6_12 : decode jdk_42_method_56_code 12 = .ok (.invokestatic 495, 3) := by decide +kernel
theorem pd_4 : parseMethodDescriptor "([BI)C" = some ⟨[(.array .byte), .int], some .char⟩ := by decide +kernel
theorem d6_15 : decode jdk_42_method_56_code 15 = .ok (.ireturn, 1) := by decide +kernel
set_option maxRecDepth 65536 in
set_option maxHeartbeats 40000000 in
theorem rm_charAt (l : Launch) (Z : State) (a0 : Array Value) (hw : ∀ d ∈ tables_1, d.before a0 Z = true) (ws : List Jvm.Cond) (a1 : Addr) (pi : Int32) (zc : Int32) (b : Addr) (k : ClassId) (bs : List Int32) (i : Nat) (ch : Int32) (vf : Value) (h0 : Heap) (n0 : Nat) (Z0 : n0 ≤ h0.size) (hpi : pi = Int32.ofNat i) (X00 : Old Z n0 h0) (S_cs : Sta Z Z.heap "java/lang/String" "COMPACT_STRINGS" "Z" (.int zc)) (hz : ¬ zc = 0) (S_f : Sta Z Z.heap "jdk/internal/util/Preconditions" "SIOOBE_FORMATTER" "Ljava/util/function/BiFunction;" vf) (hf : vf.isRef = true) (h31 : i < 2147483648) (h2 : Int32.ofNat i < Int32.ofNat bs.length) (hel : (bs.map Value.int).getD i (.int 0) = .int (own_b ch)) (hch : own_ch ch) (DS : StrF Z h0 a1 b k bs) :
    MetFree l yn6 (head1 (Jvm.Cond.code yn6 jdk_42_method_56_code 2 (some .char) :: ws) ({ frames := 3, cells := 0, slots := 0, locals := 40 } : Room)) (fun a U => a = #[(.ref a1), (.int pi)] ∧ Z.Warmed39 U.vm ∧ U.heap = h0) (fun _ _ _ _ _ => True) (fun _ U o U' => ∃ v L, o = .returned v ∧ Qi ch h0 n0 v U'.heap L ∧ FrameEnd U o U' L ({ frames := 3, cells := 0, slots := 0, locals := 40 } : Room).cells ({ frames := 3, cells := 0, slots := 0, locals := 40 } : Room).slots) := by
 refine MetFree.of_bodySF (plainFor_of_name pn_java_lang_String) hisR ?_
 intro p e s m args below meth c s₁ Bd hml0 hP hK
 obtain ⟨rfl, hZ, hh⟩ := hP
 have hx := Bd.exec
 have hby := Bd.bytes
 have hml : c.maxLocals = 2 := hml0
 have hown : s.vm.findClass "java/lang/String" = some m.cls := findClass_of_methodNamed Bd.named
 have hnm := (name_of_methodNamed Bd.named Bd.method).1
 have X0 : Stand p l e ({ frames := 3, cells := 0, slots := 0, locals := 40 } : Room) s m #[(.ref a1), (.int pi)] below meth c s₁ [] 0 0 := Stand.of_body Bd
 have e0 : s₁.heap = h0 := by rw [← hh, Bd.state]; rfl
 have N0 := Fr.nil n0
 obtain ⟨A0, hA0⟩ : ∃ A, A = s₁.setTop (entryFrame m #[(.ref a1), (.int pi)] 2) := ⟨_, rfl⟩
 have R0 : ∀ tgt, Steps p.tables e below (s₁.setTop (mkF m 0 #[.val (.ref a1), .val (.int pi)] [])) tgt → Steps p.tables e below A0 tgt := fun tgt hgo => by rw [hA0]; exact castTop (ef_rm_charAt m a1 pi) hgo
 have w : ∀ (i : Nat) {d : Jvm.Cond}, tables_1[i]? = some d → d.before a0 Z = true := fun i d h => hw d (List.mem_of_getElem? h)
 obtain ⟨E1, Fd, Fv, V1⟩ := DS
 have R1 : Rc p e below A0 (s₁.setTop (mkF m 1 #[.val (.ref a1), .val (.int pi)] [(.ref a1)])) := by
   intro tgt hgo
   refine R0 tgt ?_
   show Steps p.tables e below (s₁.setTop (mkF m 0 #[.val (.ref a1), .val (.int pi)] [])) _
   refine XS.aloadN X0.here hx rfl (hb hby d6_0) rfl rfl ?_
   exact hgo
 obtain ⟨cq2, kq2, q2a, q2b, q2c⟩ := isOf hZ e0 E1
 obtain ⟨_, _, ⟨T2, L2, k2, n2⟩, -, X2, ⟨Lc2, hQ2, l2, y2, z2⟩, st2⟩ := X0.virtualBack hx (y := yn2) (z := yn2) hown (mvT hZ (w 126 rfl)) (mvT hZ (w 127 rfl)) (notFace_of_selects (args := #[]) (mvT hZ (w 129 rfl))) (mvT hZ (w 129 rfl)) (mvT hZ (w 128 rfl)) (by decide) (backOf (W := 0) (rm_isl l Z a0 hw [] a1 zc h0 n0 Z0 X00 S_cs hz Fd) hZ (w 130 rfl) (w 3 rfl) (by decide) (by decide)) q2a q2c (g := (mkF m 1 #[.val (.ref a1), .val (.int pi)] [(.ref a1)])) rfl (by rw [hml]; rfl) (Steps.refl _) (argsL := []) (rest := []) (lenOf pd_3 rfl) rfl (by show 2 * 0 + _ ≤ _; exact Nat.le_of_eq rfl) (hb hby d6_1) (fun _ _ => ⟨rfl, e0, (by decide : 0 + 0 ≤ _), (by decide : 0 + 0 ≤ _)⟩)
 dsimp only [Pt.U, Pt.locs, Pt.cells, Pt.slots] at X2 l2 y2 z2 st2 hQ2
 subst l2 y2 z2
 obtain ⟨rfl, N2q, e2⟩ := hQ2
 have N2 := Fr.app N0 N2q
 have R3 := Rc.tr R1 st2
 have R4 : Rc p e below A0 (T2.setTop (mkF m 8 #[.val (.ref a1), .val (.int pi)] [(.ref a1)])) := by
   intro tgt hgo
   refine R3 tgt ?_
   show Steps p.tables e below (T2.setTop (mkF m 4 #[.val (.ref a1), .val (.int pi)] [(.int 1)])) _
   refine XS.ifNo X2.here hx rfl (hb hby d6_4) rfl ((if0 _ _).trans (feq (by decide : ¬ ((1 : Int32) = (0 : Int32)))).1) ?_
   refine XS.aloadN X2.here hx rfl (hb hby d6_7) rfl rfl ?_
   exact hgo
 obtain ⟨T5, X5, e5, st5⟩ := getF X2 hx hZ hown (host := "") (Or.inl (w 20 rfl)) Via.refl e2 Fv (g := (mkF m 8 #[.val (.ref a1), .val (.int pi)] [(.ref a1)])) rfl rfl (hb hby d6_8)
 have R6 := Rc.st R4 st5
 have R7 : Rc p e below A0 (T5.setTop (mkF m 12 #[.val (.ref a1), .val (.int pi)] [(.int pi), (.ref b)])) := by
   intro tgt hgo
   refine R6 tgt ?_
   show Steps p.tables e below (T5.setTop (mkF m 11 #[.val (.ref a1), .val (.int pi)] [(.ref b)])) _
   refine XS.iloadN X5.here hx rfl (hb hby d6_11) rfl ?_
   exact hgo
 obtain ⟨_, _, ⟨T8, L8, k8, n8⟩, -, X8, ⟨Lc8, hQ8, l8, y8, z8⟩, st8⟩ := Jvm.LawKit.callS X5 hx (y := yn5) hown (mvT hZ (w 131 rfl)) (mvT hZ (w 132 rfl)) (mvT hZ (w 79 rfl)) (mvT hZ (w 133 rfl)) (by decide) (backOf (W := 0) (rm_lca l Z a0 hw [] b pi k bs i ch vf h0 n0 Z0 hpi X00 S_f hf h31 h2 hel hch V1) hZ (w 133 rfl) (w 79 rfl) (by decide) (by decide)) (g := (mkF m 12 #[.val (.ref a1), .val (.int pi)] [(.int pi), (.ref b)])) rfl (by rw [hml]; rfl) (argsL := [(.ref b), (.int pi)]) (rest := []) (lenOf pd_4 rfl) rfl (by show 2 * 0 + _ ≤ _; exact Nat.le_of_eq rfl) (hb hby d6_12) (fun _ _ => ⟨rfl, e5, (by decide : 0 + 0 ≤ _), (by decide : 0 + 0 ≤ _)⟩)
 dsimp only [Pt.U, Pt.locs, Pt.cells, Pt.slots] at X8 l8 y8 z8 st8 hQ8
 subst l8 y8 z8
 obtain ⟨rfl, N8q, e8⟩ := hQ8
 have N8 := Fr.app N2 N8q
 have R9 := Rc.st R7 st8
 subst hA0
 obtain ⟨fs, hr, hrun, hended, hW, hsame⟩ := X8.leave (v := some (.int (nar .char ch))) (fun h => by rw [Bd.returns] at h; cases h)
 refine ⟨_, _, R9 _ ?_, hrun, hended, _, _, rfl, ?_, ⟨_, rfl⟩, hW, hsame.mono (by decide) (by decide)⟩
 ·show Steps p.tables e below (T8.setTop (mkF m 15 #[.val (.ref a1), .val (.int pi)] [(.int ch)])) _
  exact retN X8 hx (t := .char) Bd.returns (by simp) (hb hby d6_15) hr
 ·show Qi ch h0 n0 _ T8.heap _
  rw [e8]
  exact ⟨by rw [own_narc hch], N8, rfl⟩
def own_imax (i j : Int32) : Int32 := if i < j then j else i
def own_imin (i j : Int32) : Int32 := if j < i then j else i
abbrev yn7 : MethodName := ⟨"java/lang/Math", "max", "(II)I"⟩
theorem ef_rm_max (m : MethodId) (p1 : Int32) (p2 : Int32) : entryFrame m #[(.int p1), (.int p2)] 2 = mkF m 0 #[.val (.int p1), .val (.int p2)] [] := by first | (simp [entryFrame, mkF, argsToLocals, Value.category]; done) | rfl
theorem d7_0 : decode jdk_29_method_65_code 0 = .ok (.iload_n 0, 1) := by decide +kernel
theorem d7_1 : decode jdk_29_method_65_code 1 = .ok (.iload_n 1, 1) := by decide +kernel
theorem d7_2 : decode jdk_29_method_65_code 2 = .ok (.if_icmp .lt 7, 3) := by decide +kernel
theorem d7_9 : decode jdk_29_method_65_code 9 = .ok (.iload_n 1, 1) := by decide +kernel
theorem d7_10 : decode jdk_29_method_65_code 10 = .ok (.ireturn, 1) := by decide +kernel
theorem d7_5 : decode jdk_29_method_65_code 5 = .ok (.iload_n 0, 1) := by decide +kernel
theorem d7_6 : decode jdk_29_method_65_code 6 = .ok (.goto 4, 3) := by decide +kernel
set_option maxRecDepth 65536 in
set_option maxHeartbeats 40000000 in
theorem rm_max (l : Launch) (Z : State) (a0 : Array Value) (hw : ∀ d ∈ tables_1, d.before a0 Z = true) (ws : List Jvm.Cond) (p1 : Int32) (p2 : Int32) (z : Int32) (h0 : Heap) (n0 : Nat) (Z0 : n0 ≤ h0.size) (hzz : own_imax p1 p2 = z) :
    MetFree l yn7 (head1 (Jvm.Cond.code yn7 jdk_29_method_65_code 2 (some .int) :: ws) ({ frames := 0, cells := 0, slots := 0, locals := 0 } : Room)) (fun a U => a = #[(.int p1), (.int p2)] ∧ Z.Warmed39 U.vm ∧ U.heap = h0) (fun _ _ _ _ _ => True) (fun _ U o U' => ∃ v L, o = .returned v ∧ Qi z h0 n0 v U'.heap L ∧ FrameEnd U o U' L ({ frames := 0, cells := 0, slots := 0, locals := 0 } : Room).cells ({ frames := 0, cells := 0, slots := 0, locals := 0 } : Room).slots) := by
 refine MetFree.of_bodySF (Jvm.Free.JP.mathPlain rfl (by decide +kernel)) hisR ?_
 intro p e s m args below meth c s₁ Bd hml0 hP hK
 obtain ⟨rfl, hZ, hh⟩ := hP
 have hx := Bd.exec
 have hby := Bd.bytes
 have hml : c.maxLocals = 2 := hml0
 have hown : s.vm.findClass "java/lang/Math" = some m.cls := findClass_of_methodNamed Bd.named
 have hnm := (name_of_methodNamed Bd.named Bd.method).1
 have X0 : Stand p l e ({ frames := 0, cells := 0, slots := 0, locals := 0 } : Room) s m #[(.int p1), (.int p2)] below meth c s₁ [] 0 0 := Stand.of_body Bd
 have e0 : s₁.heap = h0 := by rw [← hh, Bd.state]; rfl
 have N0 := Fr.nil n0
 obtain ⟨A0, hA0⟩ : ∃ A, A = s₁.setTop (entryFrame m #[(.int p1), (.int p2)] 2) := ⟨_, rfl⟩
 have R0 : ∀ tgt, Steps p.tables e below (s₁.setTop (mkF m 0 #[.val (.int p1), .val (.int p2)] [])) tgt → Steps p.tables e below A0 tgt := fun tgt hgo => by rw [hA0]; exact castTop (ef_rm_max m p1 p2) hgo
 have w : ∀ (i : Nat) {d : Jvm.Cond}, tables_1[i]? = some d → d.before a0 Z = true := fun i d h => hw d (List.mem_of_getElem? h)
 have R2 : Rc p e below A0 (s₁.setTop (mkF m 2 #[.val (.int p1), .val (.int p2)] [(.int p2), (.int p1)])) := by
   intro tgt hgo
   refine R0 tgt ?_
   show Steps p.tables e below (s₁.setTop (mkF m 0 #[.val (.int p1), .val (.int p2)] [])) _
   refine XS.iloadN X0.here hx rfl (hb hby d7_0) rfl ?_
   refine XS.iloadN X0.here hx rfl (hb hby d7_1) rfl ?_
   exact hgo
 by_cases hc2_1 : p1 < p2
 ·have R3 : Rc p e below A0 (s₁.setTop (mkF m 10 #[.val (.int p1), .val (.int p2)] [(.int p2)])) := by
    intro tgt hgo
    refine R2 tgt ?_
    show Steps p.tables e below (s₁.setTop (mkF m 2 #[.val (.int p1), .val (.int p2)] [(.int p2), (.int p1)])) _
    refine XS.icmpYes X0.here hx rfl (pc0 := 2) (pc' := 9) rfl (hb hby d7_2) rfl (tlt hc2_1).1 (by decide) (by decide) ?_
    refine XS.iloadN X0.here hx rfl (hb hby d7_9) rfl ?_
    exact hgo
  subst hA0
  obtain ⟨fs, hr, hrun, hended, hW, hsame⟩ := X0.leave (v := some (.int p2)) (fun h => by rw [Bd.returns] at h; cases h)
  refine ⟨_, _, R3 _ ?_, hrun, hended, _, _, rfl, ?_, ⟨_, rfl⟩, hW, hsame.mono (by decide) (by decide)⟩
  ·show Steps p.tables e below (s₁.setTop (mkF m 10 #[.val (.int p1), .val (.int p2)] [(.int p2)])) _
   exact retI X0 hx Bd.returns (hb hby d7_10) hr
  ·show Qi z h0 n0 _ s₁.heap _
   rw [e0]
   exact ⟨by rw [← hzz]; simp [own_imax, hc2_1], N0, rfl⟩
 ·have R4 : Rc p e below A0 (s₁.setTop (mkF m 10 #[.val (.int p1), .val (.int p2)] [(.int p1)])) := by
    intro tgt hgo
    refine R2 tgt ?_
    show Steps p.tables e below (s₁.setTop (mkF m 2 #[.val (.int p1), .val (.int p2)] [(.int p2), (.int p1)])) _
    refine XS.icmpNo X0.here hx rfl (hb hby d7_2) rfl (flt hc2_1).1 ?_
    refine XS.iloadN X0.here hx rfl (hb hby d7_5) rfl ?_
    refine XS.goto X0.here hx rfl (pc0 := 6) (pc' := 10) rfl (hb hby d7_6) (by decide) (by decide) ?_
    exact hgo
  subst hA0
  obtain ⟨fs, hr, hrun, hended, hW, hsame⟩ := X0.leave (v := some (.int p1)) (fun h => by rw [Bd.returns] at h; cases h)
  refine ⟨_, _, R4 _ ?_, hrun, hended, _, _, rfl, ?_, ⟨_, rfl⟩, hW, hsame.mono (by decide) (by decide)⟩
  ·show Steps p.tables e below (s₁.setTop (mkF m 10 #[.val (.int p1), .val (.int p2)] [(.int p1)])) _
   exact retI X0 hx Bd.returns (hb hby d7_10) hr
  ·show Qi z h0 n0 _ s₁.heap _
   rw [e0]
   exact ⟨by rw [← hzz]; simp [own_imax, hc2_1], N0, rfl⟩
abbrev yn8 : MethodName := ⟨"java/lang/Math", "min", "(II)I"⟩
theorem ef_rm_min (m : MethodId) (p1 : Int32) (p2 : Int32) : entryFrame m #[(.int p1), (.int p2)] 2 = mkF m 0 #[.val (.int p1), .val (.int p2)] [] := by first | (simp [entryFrame, mkF, argsToLocals, Value.category]; done) | rfl
theorem d8_0 : decode jdk_29_method_69_code 0 = .ok (.iload_n 0, 1) := by decide +kernel
theorem d8_1 : decode jdk_29_method_69_code 1 = .ok (.iload_n 1, 1) := by decide +kernel
theorem d8_2 : decode jdk_29_method_69_code 2 = .ok (.if_icmp .gt 7, 3) := by decide +kernel
theorem d8_9 : decode jdk_29_method_69_code 9 = .ok (.iload_n 1, 1) := by decide +kernel
theorem d8_10 : decode jdk_29_method_69_code 10 = .ok (.ireturn, 1) := by decide +kernel
theorem d8_5 : decode jdk_29_method_69_code 5 = .ok (.iload_n 0, 1) := by decide +kernel
theorem d8_6 : decode jdk_29_method_69_code 6 = .ok (.goto 4, 3) := by decide +kernel
set_option maxRecDepth 65536 in
set_option maxHeartbeats 40000000 in
theorem rm_min (l : Launch) (Z : State) (a0 : Array Value) (hw : ∀ d ∈ tables_1, d.before a0 Z = true) (ws : List Jvm.Cond) (p1 : Int32) (p2 : Int32) (z : Int32) (h0 : Heap) (n0 : Nat) (Z0 : n0 ≤ h0.size) (hzz : own_imin p1 p2 = z) :
    MetFree l yn8 (head1 (Jvm.Cond.code yn8 jdk_29_method_69_code 2 (some .int) :: ws) ({ frames := 0, cells := 0, slots := 0, locals := 0 } : Room)) (fun a U => a = #[(.int p1), (.int p2)] ∧ Z.Warmed39 U.vm ∧ U.heap = h0) (fun _ _ _ _ _ => True) (fun _ U o U' => ∃ v L, o = .returned v ∧ Qi z h0 n0 v U'.heap L ∧ FrameEnd U o U' L ({ frames := 0, cells := 0, slots := 0, locals := 0 } : Room).cells ({ frames := 0, cells := 0, slots := 0, locals := 0 } : Room).slots) := by
 refine MetFree.of_bodySF (Jvm.Free.JP.mathPlain rfl (by decide +kernel)) hisR ?_
 intro p e s m args below meth c s₁ Bd hml0 hP hK
 obtain ⟨rfl, hZ, hh⟩ := hP
 have hx := Bd.exec
 have hby := Bd.bytes
 have hml : c.maxLocals = 2 := hml0
 have hown : s.vm.findClass "java/lang/Math" = some m.cls := findClass_of_methodNamed Bd.named
 have hnm := (name_of_methodNamed Bd.named Bd.method).1
 have X0 : Stand p l e ({ frames := 0, cells := 0, slots := 0, locals := 0 } : Room) s m #[(.int p1), (.int p2)] below meth c s₁ [] 0 0 := Stand.of_body Bd
 have e0 : s₁.heap = h0 := by rw [← hh, Bd.state]; rfl
 have N0 := Fr.nil n0
 obtain ⟨A0, hA0⟩ : ∃ A, A = s₁.setTop (entryFrame m #[(.int p1), (.int p2)] 2) := ⟨_, rfl⟩
 have R0 : ∀ tgt, Steps p.tables e below (s₁.setTop (mkF m 0 #[.val (.int p1), .val (.int p2)] [])) tgt → Steps p.tables e below A0 tgt := fun tgt hgo => by rw [hA0]; exact castTop (ef_rm_min m p1 p2) hgo
 have w : ∀ (i : Nat) {d : Jvm.Cond}, tables_1[i]? = some d → d.before a0 Z = true := fun i d h => hw d (List.mem_of_getElem? h)
 have R2 : Rc p e below A0 (s₁.setTop (mkF m 2 #[.val (.int p1), .val (.int p2)] [(.int p2), (.int p1)])) := by
   intro tgt hgo
   refine R0 tgt ?_
   show Steps p.tables e below (s₁.setTop (mkF m 0 #[.val (.int p1), .val (.int p2)] [])) _
   refine XS.iloadN X0.here hx rfl (hb hby d8_0) rfl ?_
   refine XS.iloadN X0.here hx rfl (hb hby d8_1) rfl ?_
   exact hgo
 by_cases hc2_1 : p2 < p1
 ·have R3 : Rc p e below A0 (s₁.setTop (mkF m 10 #[.val (.int p1), .val (.int p2)] [(.int p2)])) := by
    intro tgt hgo
    refine R2 tgt ?_
    show Steps p.tables e below (s₁.setTop (mkF m 2 #[.val (.int p1), .val (.int p2)] [(.int p2), (.int p1)])) _
    refine XS.icmpYes X0.here hx rfl (pc0 := 2) (pc' := 9) rfl (hb hby d8_2) rfl (tlt hc2_1).2.2.1 (by decide) (by decide) ?_
    refine XS.iloadN X0.here hx rfl (hb hby d8_9) rfl ?_
    exact hgo
  subst hA0
  obtain ⟨fs, hr, hrun, hended, hW, hsame⟩ := X0.leave (v := some (.int p2)) (fun h => by rw [Bd.returns] at h; cases h)
  refine ⟨_, _, R3 _ ?_, hrun, hended, _, _, rfl, ?_, ⟨_, rfl⟩, hW, hsame.mono (by decide) (by decide)⟩
  ·show Steps p.tables e below (s₁.setTop (mkF m 10 #[.val (.int p1), .val (.int p2)] [(.int p2)])) _
   exact retI X0 hx Bd.returns (hb hby d8_10) hr
  ·show Qi z h0 n0 _ s₁.heap _
   rw [e0]
   exact ⟨by rw [← hzz]; simp [own_imin, hc2_1], N0, rfl⟩
 ·have R4 : Rc p e below A0 (s₁.setTop (mkF m 10 #[.val (.int p1), .val (.int p2)] [(.int p1)])) := by
    intro tgt hgo
    refine R2 tgt ?_
    show Steps p.tables e below (s₁.setTop (mkF m 2 #[.val (.int p1), .val (.int p2)] [(.int p2), (.int p1)])) _
    refine XS.icmpNo X0.here hx rfl (hb hby d8_2) rfl (flt hc2_1).2.2.1 ?_
    refine XS.iloadN X0.here hx rfl (hb hby d8_5) rfl ?_
    refine XS.goto X0.here hx rfl (pc0 := 6) (pc' := 10) rfl (hb hby d8_6) (by decide) (by decide) ?_
    exact hgo
  subst hA0
  obtain ⟨fs, hr, hrun, hended, hW, hsame⟩ := X0.leave (v := some (.int p1)) (fun h => by rw [Bd.returns] at h; cases h)
  refine ⟨_, _, R4 _ ?_, hrun, hended, _, _, rfl, ?_, ⟨_, rfl⟩, hW, hsame.mono (by decide) (by decide)⟩
  ·show Steps p.tables e below (s₁.setTop (mkF m 10 #[.val (.int p1), .val (.int p2)] [(.int p1)])) _
   exact retI X0 hx Bd.returns (hb hby d8_10) hr
  ·show Qi z h0 n0 _ s₁.heap _
   rw [e0]
   exact ⟨by rw [← hzz]; simp [own_imin, hc2_1], N0, rfl⟩
abbrev yn9 : MethodName := ⟨"java/lang/AbstractStringBuilder", "isLatin1", "()Z"⟩
theorem pn_java_lang_AbstractStringBuilder : plainName "java/lang/AbstractStringBuilder" = true := by first | (simp [plainName, overriddenIn]; done) | decide +kernel
theorem ef_rm_asl (m : MethodId) (a1 : Addr) : entryFrame m #[(.ref a1)] 1 = mkF m 0 #[.val (.ref a1)] [] := by first | (simp [entryFrame, mkF, argsToLocals, Value.category]; done) | rfl
theorem d9_0 : decode jdk_68_method_68_code 0 = .ok (.getstatic 18, 3) := by decide +kernel
theorem d9_3 : decode jdk_68_method_68_code 3 = .ok (.ifCond .eq 14, 3) := by decide +kernel
theorem d9_6 : decode jdk_68_method_68_code 6 = .ok (.aload_n 0, 1) := by decide +kernel
theorem d9_7 : decode jdk_68_method_68_code 7 = .ok (.getfield 22, 3) := by decide +kernel
theorem d9_10 : decode jdk_68_method_68_code 10 = .ok (.ifCond .ne 7, 3) := by decide +kernel
theorem d9_13 : decode jdk_68_method_68_code 13 = .ok (.iconst 1, 1) := by decide +kernel
theorem d9_14 : decode jdk_68_method_68_code 14 = .ok (.goto 4, 3) := by decide +kernel
theorem d9_18 : decode jdk_68_method_68_code 18 = .ok (.ireturn, 1) := by decide +kernel
set_option maxRecDepth 65536 in
set_option maxHeartbeats 40000000 in
theorem rm_asl (l : Launch) (Z : State) (a0 : Array Value) (hw : ∀ d ∈ tables_1, d.before a0 Z = true) (ws : List Jvm.Cond) (a1 : Addr) (zc : Int32) (h0 : Heap) (n0 : Nat) (Z0 : n0 ≤ h0.size) (X00 : Old Z n0 h0) (S_cs : Sta Z Z.heap "java/lang/String" "COMPACT_STRINGS" "Z" (.int zc)) (hz : ¬ zc = 0) (Fd : Fld Z h0 a1 "java/lang/AbstractStringBuilder" "coder" "B" (.int 0)) :
    MetFree l yn9 (head1 (Jvm.Cond.code yn9 jdk_68_method_68_code 1 (some .boolean) :: ws) ({ frames := 0, cells := 0, slots := 0, locals := 0 } : Room)) (fun a U => a = #[(.ref a1)] ∧ Z.Warmed39 U.vm ∧ U.heap = h0) (fun _ _ _ _ _ => True) (fun _ U o U' => ∃ v L, o = .returned v ∧ Qi 1 h0 n0 v U'.heap L ∧ FrameEnd U o U' L ({ frames := 0, cells := 0, slots := 0, locals := 0 } : Room).cells ({ frames := 0, cells := 0, slots := 0, locals := 0 } : Room).slots) := by
 refine MetFree.of_bodySF (plainFor_of_name pn_java_lang_AbstractStringBuilder) hisR ?_
 intro p e s m args below meth c s₁ Bd hml0 hP hK
 obtain ⟨rfl, hZ, hh⟩ := hP
 have hx := Bd.exec
 have hby := Bd.bytes
 have hml : c.maxLocals = 1 := hml0
 have hown : s.vm.findClass "java/lang/AbstractStringBuilder" = some m.cls := findClass_of_methodNamed Bd.named
 have hnm := (name_of_methodNamed Bd.named Bd.method).1
 have X0 : Stand p l e ({ frames := 0, cells := 0, slots := 0, locals := 0 } : Room) s m #[(.ref a1)] below meth c s₁ [] 0 0 := Stand.of_body Bd
 have e0 : s₁.heap = h0 := by rw [← hh, Bd.state]; rfl
 have N0 := Fr.nil n0
 obtain ⟨A0, hA0⟩ : ∃ A, A = s₁.setTop (entryFrame m #[(.ref a1)] 1) := ⟨_, rfl⟩
 have R0 : ∀ tgt, Steps p.tables e below (s₁.setTop (mkF m 0 #[.val (.ref a1)] [])) tgt → Steps p.tables e below A0 tgt := fun tgt hgo => by rw [hA0]; exact castTop (ef_rm_asl m a1) hgo
 have w : ∀ (i : Nat) {d : Jvm.Cond}, tables_1[i]? = some d → d.before a0 Z = true := fun i d h => hw d (List.mem_of_getElem? h)
 obtain ⟨T1, X1, e1, st1⟩ := getS2 X0 hx hZ hown (host := "") (Or.inl (w 50 rfl)) Via.refl e0 (S_cs.ext X00.2) (g := (mkF m 0 #[.val (.ref a1)] [])) rfl (hb hby d9_0)
 have R2 := Rc.st R0 st1
 have R3 : Rc p e below A0 (T1.setTop (mkF m 7 #[.val (.ref a1)] [(.ref a1)])) := by
   intro tgt hgo
   refine R2 tgt ?_
   show Steps p.tables e below (T1.setTop (mkF m 3 #[.val (.ref a1)] [(.int zc)])) _
   refine XS.ifNo X1.here hx rfl (hb hby d9_3) rfl ((if0 _ _).trans (feq (hz : ¬ (zc = (0 : Int32)))).1) ?_
   refine XS.aloadN X1.here hx rfl (hb hby d9_6) rfl rfl ?_
   exact hgo
 obtain ⟨T4, X4, e4, st4⟩ := getF X1 hx hZ hown (host := "") (Or.inl (w 53 rfl)) Via.refl e1 Fd (g := (mkF m 7 #[.val (.ref a1)] [(.ref a1)])) rfl rfl (hb hby d9_7)
 have R5 := Rc.st R3 st4
 have R6 : Rc p e below A0 (T4.setTop (mkF m 18 #[.val (.ref a1)] [(.int 1)])) := by
   intro tgt hgo
   refine R5 tgt ?_
   show Steps p.tables e below (T4.setTop (mkF m 10 #[.val (.ref a1)] [(.int 0)])) _
   refine XS.ifNo X4.here hx rfl (hb hby d9_10) rfl ((if0 _ _).trans (teq (by decide : (0 : Int32) = (0 : Int32))).2) ?_
   refine XS.iconst X4.here hx rfl (hb hby d9_13) ?_
   refine XS.goto X4.here hx rfl (pc0 := 14) (pc' := 18) rfl (hb hby d9_14) (by decide) (by decide) ?_
   exact hgo
 subst hA0
 obtain ⟨fs, hr, hrun, hended, hW, hsame⟩ := X4.leave (v := some (.int 1)) (fun h => by rw [Bd.returns] at h; cases h)
 refine ⟨_, _, R6 _ ?_, hrun, hended, _, _, rfl, ?_, ⟨_, rfl⟩, hW, hsame.mono (by decide) (by decide)⟩
 ·show Steps p.tables e below (T4.setTop (mkF m 18 #[.val (.ref a1)] [(.int 1)])) _
  exact retN X4 hx (t := .boolean) Bd.returns (by simp) (hb hby d9_18) hr
 ·show Qi 1 h0 n0 _ T4.heap _
  rw [e4]
  exact ⟨rfl, N0, rfl⟩
theorem own_ch255 {c : Int32} (h : own_ch c) : ¬ ((255 : Int32) < c) := by rw [Int32.lt_iff_toInt_lt, show (255 : Int32).toInt = 255 from by decide]; have := h.2; omega
abbrev yn10 : MethodName := ⟨"java/lang/StringLatin1", "canEncode", "(C)Z"⟩
theorem ef_rm_cen (m : MethodId) (p1 : Int32) : entryFrame m #[(.int p1)] 1 = mkF m 0 #[.val (.int p1)] [] := by first | (simp [entryFrame, mkF, argsToLocals, Value.category]; done) | rfl
theorem d10_0 : decode jdk_43_method_3_code 0 = .ok (.iload_n 0, 1) := by decide +kernel
theorem d10_1 : decode jdk_43_method_3_code 1 = .ok (.sipush 255, 3) := by decide +kernel
theorem d10_4 : decode jdk_43_method_3_code 4 = .ok (.if_icmp .gt 7, 3) := by decide +kernel
theorem d10_7 : decode jdk_43_method_3_code 7 = .ok (.iconst 1, 1) := by decide +kernel
theorem d10_8 : decode jdk_43_method_3_code 8 = .ok (.goto 4, 3) := by decide +kernel
theorem d10_12 : decode jdk_43_method_3_code 12 = .ok (.ireturn, 1) := by decide +kernel
set_option maxRecDepth 65536 in
set_option maxHeartbeats 40000000 in
theorem rm_cen (l : Launch) (Z : State) (a0 : Array Value) (hw : ∀ d ∈ tables_1, d.before a0 Z = true) (ws : List Jvm.Cond) (p1 : Int32) (h0 : Heap) (n0 : Nat) (Z0 : n0 ≤ h0.size) (hch : own_ch p1) :
    MetFree l yn10 (head1 (Jvm.Cond.code yn10 jdk_43_method_3_code 1 (some .boolean) :: ws) ({ frames := 0, cells := 0, slots := 0, locals := 0 } : Room)) (fun a U => a = #[(.int p1)] ∧ Z.Warmed39 U.vm ∧ U.heap = h0) (fun _ _ _ _ _ => True) (fun _ U o U' => ∃ v L, o = .returned v ∧ Qi 1 h0 n0 v U'.heap L ∧ FrameEnd U o U' L ({ frames := 0, cells := 0, slots := 0, locals := 0 } : Room).cells ({ frames := 0, cells := 0, slots := 0, locals := 0 } : Room).slots) := by
 refine MetFree.of_bodySF (plainFor_of_name pn_java_lang_StringLatin1) hisR ?_
 intro p e s m args below meth c s₁ Bd hml0 hP hK
 obtain ⟨rfl, hZ, hh⟩ := hP
 have hx := Bd.exec
 have hby := Bd.bytes
 have hml : c.maxLocals = 1 := hml0
 have hown : s.vm.findClass "java/lang/StringLatin1" = some m.cls := findClass_of_methodNamed Bd.named
 have hnm := (name_of_methodNamed Bd.named Bd.method).1
 have X0 : Stand p l e ({ frames := 0, cells := 0, slots := 0, locals := 0 } : Room) s m #[(.int p1)] below meth c s₁ [] 0 0 := Stand.of_body Bd
 have e0 : s₁.heap = h0 := by rw [← hh, Bd.state]; rfl
 have N0 := Fr.nil n0
 obtain ⟨A0, hA0⟩ : ∃ A, A = s₁.setTop (entryFrame m #[(.int p1)] 1) := ⟨_, rfl⟩
 have R0 : ∀ tgt, Steps p.tables e below (s₁.setTop (mkF m 0 #[.val (.int p1)] [])) tgt → Steps p.tables e below A0 tgt := fun tgt hgo => by rw [hA0]; exact castTop (ef_rm_cen m p1) hgo
 have w : ∀ (i : Nat) {d : Jvm.Cond}, tables_1[i]? = some d → d.before a0 Z = true := fun i d h => hw d (List.mem_of_getElem? h)
 have R1 : Rc p e below A0 (s₁.setTop (mkF m 12 #[.val (.int p1)] [(.int 1)])) := by
   intro tgt hgo
   refine R0 tgt ?_
   show Steps p.tables e below (s₁.setTop (mkF m 0 #[.val (.int p1)] [])) _
   refine XS.iloadN X0.here hx rfl (hb hby d10_0) rfl ?_
   refine XS.sipush X0.here hx rfl (hb hby d10_1) ?_
   refine XS.icmpNo X0.here hx rfl (hb hby d10_4) rfl (flt (own_ch255 hch : ¬ ((255 : Int32) < p1))).2.2.1 ?_
   refine XS.iconst X0.here hx rfl (hb hby d10_7) ?_
   refine XS.goto X0.here hx rfl (pc0 := 8) (pc' := 12) rfl (hb hby d10_8) (by decide) (by decide) ?_
   exact hgo
 subst hA0
 obtain ⟨fs, hr, hrun, hended, hW, hsame⟩ := X0.leave (v := some (.int 1)) (fun h => by rw [Bd.returns] at h; cases h)
 refine ⟨_, _, R1 _ ?_, hrun, hended, _, _, rfl, ?_, ⟨_, rfl⟩, hW, hsame.mono (by decide) (by decide)⟩
 ·show Steps p.tables e below (s₁.setTop (mkF m 12 #[.val (.int p1)] [(.int 1)])) _
  exact retN X0 hx (t := .boolean) Bd.returns (by simp) (hb hby d10_12) hr
 ·show Qi 1 h0 n0 _ s₁.heap _
  rw [e0]
  exact ⟨rfl, N0, rfl⟩
abbrev yn11 : MethodName := ⟨"jdk/internal/util/ArraysSupport", "newLength", "(III)I"⟩
theorem pn_jdk_internal_util_ArraysSupport : plainName "jdk/internal/util/ArraysSupport" = true := by first | (simp [plainName, overriddenIn]; done) | decide +kernel
theorem ef_rm_nl3 (m : MethodId)  : entryFrame m #[(.int (3 : Int32)), (.int (1 : Int32)), (.int (5 : Int32))] 4 = mkF m 0 #[.val (.int (3 : Int32)), .val (.int (1 : Int32)), .val (.int (5 : Int32)), .unset] [] := by first | (simp [entryFrame, mkF, argsToLocals, Value.category]; done) | rfl
theorem d11_0 : decode jdk_48_method_27_code 0 = .ok (.iload_n 0, 1) := by decide +kernel
theorem d11_1 : decode jdk_48_method_27_code 1 = .ok (.iload_n 1, 1) := by decide +kernel
theorem d11_2 : decode jdk_48_method_27_code 2 = .ok (.iload_n 2, 1) := by decide +kernel
theorem d11_3 : decode jdk_48_method_27_code 3 = .ok (.invokestatic 194, 3) := by decide +kernel
theorem pd_5 : parseMethodDescriptor "(II)I" = some ⟨[.int, .int], some .int⟩ := by decide +kernel
theorem d11_6 : decode jdk_48_method_27_code 6 = .ok (.iadd, 1) := by decide +kernel
theorem d11_7 : decode jdk_48_method_27_code 7 = .ok (.istore_n 3, 1) := by decide +kernel
theorem d11_8 : decode jdk_48_method_27_code 8 = .ok (.iconst 0, 1) := by decide +kernel
theorem d11_9 : decode jdk_48_method_27_code 9 = .ok (.iload_n 3, 1) := by decide +kernel
theorem d11_10 : decode jdk_48_method_27_code 10 = .ok (.if_icmp .ge 11, 3) := by decide +kernel
theorem d11_13 : decode jdk_48_method_27_code 13 = .ok (.iload_n 3, 1) := by decide +kernel
theorem d11_14 : decode jdk_48_method_27_code 14 = .ok (.ldc 200, 2) := by decide +kernel
theorem d11_16 : decode jdk_48_method_27_code 16 = .ok (.if_icmp .gt 5, 3) := by decide +kernel
theorem d11_19 : decode jdk_48_method_27_code 19 = .ok (.iload_n 3, 1) := by decide +kernel
theorem d11_20 : decode jdk_48_method_27_code 20 = .ok (.ireturn, 1) := by decide +kernel
set_option maxRecDepth 65536 in
set_option maxHeartbeats 40000000 in
theorem rm_nl3 (l : Launch) (Z : State) (a0 : Array Value) (hw : ∀ d ∈ tables_1, d.before a0 Z = true) (ws : List Jvm.Cond)  (h0 : Heap) (n0 : Nat) (Z0 : n0 ≤ h0.size) :
    MetFree l yn11 (head1 (Jvm.Cond.code yn11 jdk_48_method_27_code 4 (some .int) :: ws) ({ frames := 1, cells := 0, slots := 0, locals := 14 } : Room)) (fun a U => a = #[(.int (3 : Int32)), (.int (1 : Int32)), (.int (5 : Int32))] ∧ Z.Warmed39 U.vm ∧ U.heap = h0) (fun _ _ _ _ _ => True) (fun _ U o U' => ∃ v L, o = .returned v ∧ Qi (8 : Int32) h0 n0 v U'.heap L ∧ FrameEnd U o U' L ({ frames := 1, cells := 0, slots := 0, locals := 14 } : Room).cells ({ frames := 1, cells := 0, slots := 0, locals := 14 } : Room).slots) := by
 refine MetFree.of_bodySF (plainFor_of_name pn_jdk_internal_util_ArraysSupport) hisR ?_
 intro p e s m args below meth c s₁ Bd hml0 hP hK
 obtain ⟨rfl, hZ, hh⟩ := hP
 have hx := Bd.exec
 have hby := Bd.bytes
 have hml : c.maxLocals = 4 := hml0
 have hown : s.vm.findClass "jdk/internal/util/ArraysSupport" = some m.cls := findClass_of_methodNamed Bd.named
 have hnm := (name_of_methodNamed Bd.named Bd.method).1
 have X0 : Stand p l e ({ frames := 1, cells := 0, slots := 0, locals := 14 } : Room) s m #[(.int 3), (.int 1), (.int 5)] below meth c s₁ [] 0 0 := Stand.of_body Bd
 have e0 : s₁.heap = h0 := by rw [← hh, Bd.state]; rfl
 have N0 := Fr.nil n0
 obtain ⟨A0, hA0⟩ : ∃ A, A = s₁.setTop (entryFrame m #[(.int 3), (.int 1), (.int 5)] 4) := ⟨_, rfl⟩
 have R0 : ∀ tgt, Steps p.tables e below (s₁.setTop (mkF m 0 #[.val (.int 3), .val (.int 1), .val (.int 5), .unset] [])) tgt → Steps p.tables e below A0 tgt := fun tgt hgo => by rw [hA0]; exact castTop (ef_rm_nl3 m ) hgo
 have w : ∀ (i : Nat) {d : Jvm.Cond}, tables_1[i]? = some d → d.before a0 Z = true := fun i d h => hw d (List.mem_of_getElem? h)
 have R1 : Rc p e below A0 (s₁.setTop (mkF m 3 #[.val (.int 3), .val (.int 1), .val (.int 5), .unset] [(.int 5), (.int 1), (.int 3)])) := by
   intro tgt hgo
   refine R0 tgt ?_
   show Steps p.tables e below (s₁.setTop (mkF m 0 #[.val (.int 3), .val (.int 1), .val (.int 5), .unset] [])) _
   refine XS.iloadN X0.here hx rfl (hb hby d11_0) rfl ?_
   refine XS.iloadN X0.here hx rfl (hb hby d11_1) rfl ?_
   refine XS.iloadN X0.here hx rfl (hb hby d11_2) rfl ?_
   exact hgo
 obtain ⟨_, _, ⟨T2, L2, k2, n2⟩, -, X2, ⟨Lc2, hQ2, l2, y2, z2⟩, st2⟩ := Jvm.LawKit.callS X0 hx (y := yn7) hown (mvT hZ (w 169 rfl)) (mvT hZ (w 170 rfl)) (mvT hZ (w 171 rfl)) (mvT hZ (w 172 rfl)) (by decide) (backOf (W := 1) (rm_max l Z a0 hw [] (1 : Int32) (5 : Int32) (5 : Int32) h0 n0 Z0 (by decide)) hZ (w 172 rfl) (w 171 rfl) (by decide) (by decide)) (g := (mkF m 3 #[.val (.int 3), .val (.int 1), .val (.int 5), .unset] [(.int 5), (.int 1), (.int 3)])) rfl (by rw [hml]; rfl) (argsL := [(.int 1), (.int 5)]) (rest := [(.int 3)]) (lenOf pd_5 rfl) rfl (by show 2 * 0 + _ ≤ _; exact Nat.le_of_eq rfl) (hb hby d11_3) (fun _ _ => ⟨rfl, e0, (by decide : 0 + 0 ≤ _), (by decide : 0 + 0 ≤ _)⟩)
 dsimp only [Pt.U, Pt.locs, Pt.cells, Pt.slots] at X2 l2 y2 z2 st2 hQ2
 subst l2 y2 z2
 obtain ⟨rfl, N2q, e2⟩ := hQ2
 have N2 := Fr.app N0 N2q
 have R3 := Rc.st R1 st2
 have R4 : Rc p e below A0 (T2.setTop (mkF m 20 #[.val (.int 3), .val (.int 1), .val (.int 5), .val (.int 8)] [(.int 8)])) := by
   intro tgt hgo
   refine R3 tgt ?_
   show Steps p.tables e below (T2.setTop (mkF m 6 #[.val (.int 3), .val (.int 1), .val (.int 5), .unset] [(.int 5), (.int 3)])) _
   refine XS.iadd X2.here hx rfl (hb hby d11_6) rfl ?_
   refine XS.istoreN X2.here hx rfl (hb hby d11_7) rfl (l' := #[.val (.int 3), .val (.int 1), .val (.int 5), .val (.int 8)]) rfl ?_
   refine XS.iconst X2.here hx rfl (hb hby d11_8) ?_
   refine XS.iloadN X2.here hx rfl (hb hby d11_9) rfl ?_
   refine XS.icmpNo X2.here hx rfl (hb hby d11_10) rfl (tlt (by decide : (0 : Int32) < (8 : Int32))).2.1 ?_
   refine XS.iloadN X2.here hx rfl (hb hby d11_13) rfl ?_
   refine X2.ldcInt hx hown (mvT hZ (w 173 rfl)) (g := (mkF m 14 #[.val (.int 3), .val (.int 1), .val (.int 5), .val (.int 8)] [(.int 8)])) rfl (hb hby d11_14) _ ?_
   refine XS.icmpNo X2.here hx rfl (hb hby d11_16) rfl (flt (by decide : ¬ ((2147483639 : Int32) < (8 : Int32)))).2.2.1 ?_
   refine XS.iloadN X2.here hx rfl (hb hby d11_19) rfl ?_
   exact hgo
 subst hA0
 obtain ⟨fs, hr, hrun, hended, hW, hsame⟩ := X2.leave (v := some (.int 8)) (fun h => by rw [Bd.returns] at h; cases h)
 refine ⟨_, _, R4 _ ?_, hrun, hended, _, _, rfl, ?_, ⟨_, rfl⟩, hW, hsame.mono (by decide) (by decide)⟩
 ·show Steps p.tables e below (T2.setTop (mkF m 20 #[.val (.int 3), .val (.int 1), .val (.int 5), .val (.int 8)] [(.int 8)])) _
  exact retI X2 hx Bd.returns (hb hby d11_20) hr
 ·show Qi (8 : Int32) h0 n0 _ T2.heap _
  rw [e2]
  exact ⟨rfl, N2, rfl⟩
abbrev yn12 : MethodName := ⟨"java/lang/AbstractStringBuilder", "newCapacity", "(I)I"⟩
theorem ef_rm_nc3 (m : MethodId) (a1 : Addr) : entryFrame m #[(.ref a1), (.int (4 : Int32))] 6 = mkF m 0 #[.val (.ref a1), .val (.int (4 : Int32)), .unset, .unset, .unset, .unset] [] := by first | (simp [entryFrame, mkF, argsToLocals, Value.category]; done) | rfl
theorem d12_0 : decode jdk_68_method_10_code 0 = .ok (.aload_n 0, 1) := by decide +kernel
theorem d12_1 : decode jdk_68_method_10_code 1 = .ok (.getfield 15, 3) := by decide +kernel
theorem d12_4 : decode jdk_68_method_10_code 4 = .ok (.arraylength, 1) := by decide +kernel
theorem d12_5 : decode jdk_68_method_10_code 5 = .ok (.istore_n 2, 1) := by decide +kernel
theorem d12_6 : decode jdk_68_method_10_code 6 = .ok (.iload_n 1, 1) := by decide +kernel
theorem d12_7 : decode jdk_68_method_10_code 7 = .ok (.aload_n 0, 1) := by decide +kernel
theorem d12_8 : decode jdk_68_method_10_code 8 = .ok (.getfield 22, 3) := by decide +kernel
theorem d12_11 : decode jdk_68_method_10_code 11 = .ok (.ishl, 1) := by decide +kernel
theorem d12_12 : decode jdk_68_method_10_code 12 = .ok (.istore_n 3, 1) := by decide +kernel
theorem d12_13 : decode jdk_68_method_10_code 13 = .ok (.iload_n 3, 1) := by decide +kernel
theorem d12_14 : decode jdk_68_method_10_code 14 = .ok (.iload_n 2, 1) := by decide +kernel
theorem d12_15 : decode jdk_68_method_10_code 15 = .ok (.isub, 1) := by decide +kernel
theorem d12_16 : decode jdk_68_method_10_code 16 = .ok (.istore 4, 2) := by decide +kernel
theorem d12_18 : decode jdk_68_method_10_code 18 = .ok (.iload_n 2, 1) := by decide +kernel
theorem d12_19 : decode jdk_68_method_10_code 19 = .ok (.iload 4, 2) := by decide +kernel
theorem d12_21 : decode jdk_68_method_10_code 21 = .ok (.iload_n 2, 1) := by decide +kernel
theorem d12_22 : decode jdk_68_method_10_code 22 = .ok (.iconst 2, 1) := by decide +kernel
theorem d12_23 : decode jdk_68_method_10_code 23 = .ok (.aload_n 0, 1) := by decide +kernel
theorem d12_24 : decode jdk_68_method_10_code 24 = .ok (.getfield 22, 3) := by decide +kernel
theorem d12_27 : decode jdk_68_method_10_code 27 = .ok (.ishl, 1) := by decide +kernel
theorem d12_28 : decode jdk_68_method_10_code 28 = .ok (.iadd, 1) := by decide +kernel
theorem d12_29 : decode jdk_68_method_10_code 29 = .ok (.invokestatic 114, 3) := by decide +kernel
theorem pd_6 : parseMethodDescriptor "(III)I" = some ⟨[.int, .int, .int], some .int⟩ := by decide +kernel
theorem d12_32 : decode jdk_68_method_10_code 32 = .ok (.istore 5, 2) := by decide +kernel
theorem d12_34 : decode jdk_68_method_10_code 34 = .ok (.iload 5, 2) := by decide +kernel
theorem d12_36 : decode jdk_68_method_10_code 36 = .ok (.ldc 39, 2) := by decide +kernel
theorem d12_38 : decode jdk_68_method_10_code 38 = .ok (.if_icmp .ne 13, 3) := by decide +kernel
theorem d12_51 : decode jdk_68_method_10_code 51 = .ok (.iload 5, 2) := by decide +kernel
theorem d12_53 : decode jdk_68_method_10_code 53 = .ok (.aload_n 0, 1) := by decide +kernel
theorem d12_54 : decode jdk_68_method_10_code 54 = .ok (.getfield 22, 3) := by decide +kernel
theorem d12_57 : decode jdk_68_method_10_code 57 = .ok (.ishr, 1) := by decide +kernel
theorem d12_58 : decode jdk_68_method_10_code 58 = .ok (.ireturn, 1) := by decide +kernel
set_option maxRecDepth 65536 in
set_option maxHeartbeats 40000000 in
theorem rm_nc3 (l : Launch) (Z : State) (a0 : Array Value) (hw : ∀ d ∈ tables_1, d.before a0 Z = true) (ws : List Jvm.Cond) (a1 : Addr) (b : Addr) (k : ClassId) (bs : List Int32) (h0 : Heap) (n0 : Nat) (Z0 : n0 ≤ h0.size) (E1 : Exa Z h0 a1 "java/lang/StringBuilder") (Fv : Fld Z h0 a1 "java/lang/AbstractStringBuilder" "value" "[B" (.ref b)) (Fc : Fld Z h0 a1 "java/lang/AbstractStringBuilder" "count" "I" (.int (3 : Int32))) (Fd : Fld Z h0 a1 "java/lang/AbstractStringBuilder" "coder" "B" (.int 0)) (V1 : Arv Z h0 b k .byte (3 : Int32) (bs.map Value.int) (.int 0)) (Eb : Exa Z h0 b "[B") (hlen : bs.length = 3) :
    MetFree l yn12 (head1 (Jvm.Cond.code yn12 jdk_68_method_10_code 6 (some .int) :: ws) ({ frames := 2, cells := 0, slots := 0, locals := 29 } : Room)) (fun a U => a = #[(.ref a1), (.int (4 : Int32))] ∧ Z.Warmed39 U.vm ∧ U.heap = h0) (fun _ _ _ _ _ => True) (fun _ U o U' => ∃ v L, o = .returned v ∧ Qi (8 : Int32) h0 n0 v U'.heap L ∧ FrameEnd U o U' L ({ frames := 2, cells := 0, slots := 0, locals := 29 } : Room).cells ({ frames := 2, cells := 0, slots := 0, locals := 29 } : Room).slots) := by
 refine MetFree.of_bodySF (plainFor_of_name pn_java_lang_AbstractStringBuilder) hisR ?_
 intro p e s m args below meth c s₁ Bd hml0 hP hK
 obtain ⟨rfl, hZ, hh⟩ := hP
 have hx := Bd.exec
 have hby := Bd.bytes
 have hml : c.maxLocals = 6 := hml0
 have hown : s.vm.findClass "java/lang/AbstractStringBuilder" = some m.cls := findClass_of_methodNamed Bd.named
 have hnm := (name_of_methodNamed Bd.named Bd.method).1
 have X0 : Stand p l e ({ frames := 2, cells := 0, slots := 0, locals := 29 } : Room) s m #[(.ref a1), (.int 4)] below meth c s₁ [] 0 0 := Stand.of_body Bd
 have e0 : s₁.heap = h0 := by rw [← hh, Bd.state]; rfl
 have N0 := Fr.nil n0
 obtain ⟨A0, hA0⟩ : ∃ A, A = s₁.setTop (entryFrame m #[(.ref a1), (.int 4)] 6) := ⟨_, rfl⟩
 have R0 : ∀ tgt, Steps p.tables e below (s₁.setTop (mkF m 0 #[.val (.ref a1), .val (.int 4), .unset, .unset, .unset, .unset] [])) tgt → Steps p.tables e below A0 tgt := fun tgt hgo => by rw [hA0]; exact castTop (ef_rm_nc3 m a1) hgo
 have w : ∀ (i : Nat) {d : Jvm.Cond}, tables_1[i]? = some d → d.before a0 Z = true := fun i d h => hw d (List.mem_of_getElem? h)
 have R1 : Rc p e below A0 (s₁.setTop (mkF m 1 #[.val (.ref a1), .val (.int 4), .unset, .unset, .unset, .unset] [(.ref a1)])) := by
   intro tgt hgo
   refine R0 tgt ?_
   show Steps p.tables e below (s₁.setTop (mkF m 0 #[.val (.ref a1), .val (.int 4), .unset, .unset, .unset, .unset] [])) _
   refine XS.aloadN X0.here hx rfl (hb hby d12_0) rfl rfl ?_
   exact hgo
 obtain ⟨T2, X2, e2, st2⟩ := getF X0 hx hZ hown (host := "") (Or.inl (w 51 rfl)) Via.refl e0 Fv (g := (mkF m 1 #[.val (.ref a1), .val (.int 4), .unset, .unset, .unset, .unset] [(.ref a1)])) rfl rfl (hb hby d12_1)
 have R3 := Rc.st R1 st2
 obtain ⟨cl4, Ar4, -, S4, Nn4, -, -⟩ := id V1
 have R5 : Rc p e below A0 (T2.setTop (mkF m 5 #[.val (.ref a1), .val (.int 4), .unset, .unset, .unset, .unset] [(.int 3)])) := by
   intro tgt hgo
   refine R3 tgt ?_
   refine X2.arraylength hx (by rw [e2]; exact Ar4.1) (State.isArrayOf_alike hZ.alike Ar4.2.1) (g := (mkF m 4 #[.val (.ref a1), .val (.int 4), .unset, .unset, .unset, .unset] [(.ref b)])) rfl rfl (hb hby d12_4) _ ?_
   rw [len_of S4 Nn4]
   exact hgo
 have R6 : Rc p e below A0 (T2.setTop (mkF m 8 #[.val (.ref a1), .val (.int 4), .val (.int 3), .unset, .unset, .unset] [(.ref a1), (.int 4)])) := by
   intro tgt hgo
   refine R5 tgt ?_
   show Steps p.tables e below (T2.setTop (mkF m 5 #[.val (.ref a1), .val (.int 4), .unset, .unset, .unset, .unset] [(.int 3)])) _
   refine XS.istoreN X2.here hx rfl (hb hby d12_5) rfl (l' := #[.val (.ref a1), .val (.int 4), .val (.int 3), .unset, .unset, .unset]) rfl ?_
   refine XS.iloadN X2.here hx rfl (hb hby d12_6) rfl ?_
   refine XS.aloadN X2.here hx rfl (hb hby d12_7) rfl rfl ?_
   exact hgo
 obtain ⟨T7, X7, e7, st7⟩ := getF X2 hx hZ hown (host := "") (Or.inl (w 53 rfl)) Via.refl e2 Fd (g := (mkF m 8 #[.val (.ref a1), .val (.int 4), .val (.int 3), .unset, .unset, .unset] [(.ref a1), (.int 4)])) rfl rfl (hb hby d12_8)
 have R8 := Rc.st R6 st7
 have R9 : Rc p e below A0 (T7.setTop (mkF m 24 #[.val (.ref a1), .val (.int 4), .val (.int 3), .val (.int 4), .val (.int 1), .unset] [(.ref a1), (.int 2), (.int 3), (.int 1), (.int 3)])) := by
   intro tgt hgo
   refine R8 tgt ?_
   show Steps p.tables e below (T7.setTop (mkF m 11 #[.val (.ref a1), .val (.int 4), .val (.int 3), .unset, .unset, .unset] [(.int 0), (.int 4)])) _
   refine XS.ishl X7.here hx rfl (hb hby d12_11) rfl ?_
   refine XS.istoreN X7.here hx rfl (hb hby d12_12) rfl (l' := #[.val (.ref a1), .val (.int 4), .val (.int 3), .val (.int 4), .unset, .unset]) rfl ?_
   refine XS.iloadN X7.here hx rfl (hb hby d12_13) rfl ?_
   refine XS.iloadN X7.here hx rfl (hb hby d12_14) rfl ?_
   refine XS.isub X7.here hx rfl (hb hby d12_15) rfl ?_
   refine XS.istore X7.here hx rfl (hb hby d12_16) rfl (l' := #[.val (.ref a1), .val (.int 4), .val (.int 3), .val (.int 4), .val (.int 1), .unset]) rfl ?_
   refine XS.iloadN X7.here hx rfl (hb hby d12_18) rfl ?_
   refine XS.iload X7.here hx rfl (hb hby d12_19) rfl ?_
   refine XS.iloadN X7.here hx rfl (hb hby d12_21) rfl ?_
   refine XS.iconst X7.here hx rfl (hb hby d12_22) ?_
   refine XS.aloadN X7.here hx rfl (hb hby d12_23) rfl rfl ?_
   exact hgo
 obtain ⟨T10, X10, e10, st10⟩ := getF X7 hx hZ hown (host := "") (Or.inl (w 53 rfl)) Via.refl e7 Fd (g := (mkF m 24 #[.val (.ref a1), .val (.int 4), .val (.int 3), .val (.int 4), .val (.int 1), .unset] [(.ref a1), (.int 2), (.int 3), (.int 1), (.int 3)])) rfl rfl (hb hby d12_24)
 have R11 := Rc.st R9 st10
 have R12 : Rc p e below A0 (T10.setTop (mkF m 29 #[.val (.ref a1), .val (.int 4), .val (.int 3), .val (.int 4), .val (.int 1), .unset] [(.int 5), (.int 1), (.int 3)])) := by
   intro tgt hgo
   refine R11 tgt ?_
   show Steps p.tables e below (T10.setTop (mkF m 27 #[.val (.ref a1), .val (.int 4), .val (.int 3), .val (.int 4), .val (.int 1), .unset] [(.int 0), (.int 2), (.int 3), (.int 1), (.int 3)])) _
   refine XS.ishl X10.here hx rfl (hb hby d12_27) rfl ?_
   refine XS.iadd X10.here hx rfl (hb hby d12_28) rfl ?_
   exact hgo
 obtain ⟨_, _, ⟨T13, L13, k13, n13⟩, -, X13, ⟨Lc13, hQ13, l13, y13, z13⟩, st13⟩ := Jvm.LawKit.callS X10 hx (y := yn11) hown (mvT hZ (w 165 rfl)) (mvT hZ (w 166 rfl)) (mvT hZ (w 167 rfl)) (mvT hZ (w 168 rfl)) (by decide) (backOf (W := 0) (rm_nl3 l Z a0 hw [] h0 n0 Z0) hZ (w 168 rfl) (w 167 rfl) (by decide) (by decide)) (g := (mkF m 29 #[.val (.ref a1), .val (.int 4), .val (.int 3), .val (.int 4), .val (.int 1), .unset] [(.int 5), (.int 1), (.int 3)])) rfl (by rw [hml]; rfl) (argsL := [(.int 3), (.int 1), (.int 5)]) (rest := []) (lenOf pd_6 rfl) rfl (by show 2 * 0 + _ ≤ _; exact Nat.le_of_eq rfl) (hb hby d12_29) (fun _ _ => ⟨rfl, e10, (by decide : 0 + 0 ≤ _), (by decide : 0 + 0 ≤ _)⟩)
 dsimp only [Pt.U, Pt.locs, Pt.cells, Pt.slots] at X13 l13 y13 z13 st13 hQ13
 subst l13 y13 z13
 obtain ⟨rfl, N13q, e13⟩ := hQ13
 have N13 := Fr.app N0 N13q
 have R14 := Rc.st R12 st13
 have R15 : Rc p e below A0 (T13.setTop (mkF m 54 #[.val (.ref a1), .val (.int 4), .val (.int 3), .val (.int 4), .val (.int 1), .val (.int 8)] [(.ref a1), (.int 8)])) := by
   intro tgt hgo
   refine R14 tgt ?_
   show Steps p.tables e below (T13.setTop (mkF m 32 #[.val (.ref a1), .val (.int 4), .val (.int 3), .val (.int 4), .val (.int 1), .unset] [(.int 8)])) _
   refine XS.istore X13.here hx rfl (hb hby d12_32) rfl (l' := #[.val (.ref a1), .val (.int 4), .val (.int 3), .val (.int 4), .val (.int 1), .val (.int 8)]) rfl ?_
   refine XS.iload X13.here hx rfl (hb hby d12_34) rfl ?_
   refine X13.ldcInt hx hown (mvT hZ (w 174 rfl)) (g := (mkF m 36 #[.val (.ref a1), .val (.int 4), .val (.int 3), .val (.int 4), .val (.int 1), .val (.int 8)] [(.int 8)])) rfl (hb hby d12_36) _ ?_
   refine XS.icmpYes X13.here hx rfl (pc0 := 38) (pc' := 51) rfl (hb hby d12_38) rfl (feq (by decide : ¬ ((8 : Int32) = (2147483647 : Int32)))).2 (by decide) (by decide) ?_
   refine XS.iload X13.here hx rfl (hb hby d12_51) rfl ?_
   refine XS.aloadN X13.here hx rfl (hb hby d12_53) rfl rfl ?_
   exact hgo
 obtain ⟨T16, X16, e16, st16⟩ := getF X13 hx hZ hown (host := "") (Or.inl (w 53 rfl)) Via.refl e13 Fd (g := (mkF m 54 #[.val (.ref a1), .val (.int 4), .val (.int 3), .val (.int 4), .val (.int 1), .val (.int 8)] [(.ref a1), (.int 8)])) rfl rfl (hb hby d12_54)
 have R17 := Rc.st R15 st16
 have R18 : Rc p e below A0 (T16.setTop (mkF m 58 #[.val (.ref a1), .val (.int 4), .val (.int 3), .val (.int 4), .val (.int 1), .val (.int 8)] [(.int 8)])) := by
   intro tgt hgo
   refine R17 tgt ?_
   show Steps p.tables e below (T16.setTop (mkF m 57 #[.val (.ref a1), .val (.int 4), .val (.int 3), .val (.int 4), .val (.int 1), .val (.int 8)] [(.int 0), (.int 8)])) _
   refine XS.ishr X16.here hx rfl (hb hby d12_57) rfl ?_
   exact hgo
 subst hA0
 obtain ⟨fs, hr, hrun, hended, hW, hsame⟩ := X16.leave (v := some (.int 8)) (fun h => by rw [Bd.returns] at h; cases h)
 refine ⟨_, _, R18 _ ?_, hrun, hended, _, _, rfl, ?_, ⟨_, rfl⟩, hW, hsame.mono (by decide) (by decide)⟩
 ·show Steps p.tables e below (T16.setTop (mkF m 58 #[.val (.ref a1), .val (.int 4), .val (.int 3), .val (.int 4), .val (.int 1), .val (.int 8)] [(.int 8)])) _
  exact retI X16 hx Bd.returns (hb hby d12_58) hr
 ·show Qi (8 : Int32) h0 n0 _ T16.heap _
  rw [e16]
  exact ⟨rfl, N13, rfl⟩
def Qg3 (Z : State) (b : Addr) (bs : List Int32) (h0 : Heap) (n0 : Nat) (v : Option Value) (h : Heap) (L : List Loc) : Prop := (∃ t : Addr, v = some (.ref t) ∧ ∃ kt : ClassId, n0 ≤ t ∧ h0.size ≤ t ∧ Arv Z h t kt .byte (8 : Int32) (bs.map Value.int) (.int 0) ∧ Exa Z h t "[B") ∧ Fr n0 L ∧ Keep h0 h []
abbrev yn13 : MethodName := ⟨"java/util/Arrays", "copyOf", "([BI)[B"⟩
theorem pn_java_util_Arrays : plainName "java/util/Arrays" = true := by first | (simp [plainName, overriddenIn]; done) | decide +kernel
theorem ef_rm_co3 (m : MethodId) (b : Addr) : entryFrame m #[(.ref b), (.int (8 : Int32))] 3 = mkF m 0 #[.val (.ref b), .val (.int (8 : Int32)), .unset] [] := by first | (simp [entryFrame, mkF, argsToLocals, Value.category]; done) | rfl
theorem d13_0 : decode jdk_65_method_121_code 0 = .ok (.iload_n 1, 1) := by decide +kernel
theorem d13_1 : decode jdk_65_method_121_code 1 = .ok (.aload_n 0, 1) := by decide +kernel
theorem d13_2 : decode jdk_65_method_121_code 2 = .ok (.arraylength, 1) := by decide +kernel
theorem d13_3 : decode jdk_65_method_121_code 3 = .ok (.if_icmp .ne 11, 3) := by decide +kernel
theorem d13_14 : decode jdk_65_method_121_code 14 = .ok (.iload_n 1, 1) := by decide +kernel
theorem d13_15 : decode jdk_65_method_121_code 15 = .ok (.newarray .byte, 2) := by decide +kernel
theorem d13_17 : decode jdk_65_method_121_code 17 = .ok (.astore_n 2, 1) := by decide +kernel
theorem d13_18 : decode jdk_65_method_121_code 18 = .ok (.aload_n 0, 1) := by decide +kernel
theorem d13_19 : decode jdk_65_method_121_code 19 = .ok (.iconst 0, 1) := by decide +kernel
theorem d13_20 : decode jdk_65_method_121_code 20 = .ok (.aload_n 2, 1) := by decide +kernel
theorem d13_21 : decode jdk_65_method_121_code 21 = .ok (.iconst 0, 1) := by decide +kernel
theorem d13_22 : decode jdk_65_method_121_code 22 = .ok (.aload_n 0, 1) := by decide +kernel
theorem d13_23 : decode jdk_65_method_121_code 23 = .ok (.arraylength, 1) := by decide +kernel
theorem d13_24 : decode jdk_65_method_121_code 24 = .ok (.iload_n 1, 1) := by decide +kernel
theorem d13_25 : decode jdk_65_method_121_code 25 = .ok (.invokestatic 304, 3) := by decide +kernel
theorem d13_28 : decode jdk_65_method_121_code 28 = .ok (.invokestatic 150, 3) := by decide +kernel
theorem d13_31 : decode jdk_65_method_121_code 31 = .ok (.aload_n 2, 1) := by decide +kernel
theorem d13_32 : decode jdk_65_method_121_code 32 = .ok (.areturn, 1) := by decide +kernel
set_option maxRecDepth 65536 in
set_option maxHeartbeats 40000000 in
theorem rm_co3 (l : Launch) (Z : State) (a0 : Array Value) (hw : ∀ d ∈ tables_1, d.before a0 Z = true) (ws : List Jvm.Cond) (b : Addr) (k : ClassId) (bs : List Int32) (h0 : Heap) (n0 : Nat) (Z0 : n0 ≤ h0.size) (V1 : Arv Z h0 b k .byte (3 : Int32) (bs.map Value.int) (.int 0)) (Eb : Exa Z h0 b "[B") (hlen : bs.length = 3) :
    MetFree l yn13 (head1 (Jvm.Cond.code yn13 jdk_65_method_121_code 3 (some (.array .byte)) :: ws) ({ frames := 1, cells := 1, slots := 8, locals := 24 } : Room)) (fun a U => a = #[(.ref b), (.int (8 : Int32))] ∧ Z.Warmed39 U.vm ∧ U.heap = h0) (fun _ _ _ _ _ => True) (fun _ U o U' => ∃ v L, o = .returned v ∧ Qg3 Z b bs h0 n0 v U'.heap L ∧ FrameEnd U o U' L ({ frames := 1, cells := 1, slots := 8, locals := 24 } : Room).cells ({ frames := 1, cells := 1, slots := 8, locals := 24 } : Room).slots) := by
 refine MetFree.of_bodySF (plainFor_of_name pn_java_util_Arrays) hisR ?_
 intro p e s m args below meth c s₁ Bd hml0 hP hK
 obtain ⟨rfl, hZ, hh⟩ := hP
 have hx := Bd.exec
 have hby := Bd.bytes
 have hml : c.maxLocals = 3 := hml0
 have hown : s.vm.findClass "java/util/Arrays" = some m.cls := findClass_of_methodNamed Bd.named
 have hnm := (name_of_methodNamed Bd.named Bd.method).1
 have X0 : Stand p l e ({ frames := 1, cells := 1, slots := 8, locals := 24 } : Room) s m #[(.ref b), (.int 8)] below meth c s₁ [] 0 0 := Stand.of_body Bd
 have e0 : s₁.heap = h0 := by rw [← hh, Bd.state]; rfl
 have N0 := Fr.nil n0
 obtain ⟨A0, hA0⟩ : ∃ A, A = s₁.setTop (entryFrame m #[(.ref b), (.int 8)] 3) := ⟨_, rfl⟩
 have R0 : ∀ tgt, Steps p.tables e below (s₁.setTop (mkF m 0 #[.val (.ref b), .val (.int 8), .unset] [])) tgt → Steps p.tables e below A0 tgt := fun tgt hgo => by rw [hA0]; exact castTop (ef_rm_co3 m b) hgo
 have w : ∀ (i : Nat) {d : Jvm.Cond}, tables_1[i]? = some d → d.before a0 Z = true := fun i d h => hw d (List.mem_of_getElem? h)
 have hZn := Z0
 have hK : Keep h0 h0 [] := Keep.refl _ _
 have R1 : Rc p e below A0 (s₁.setTop (mkF m 2 #[.val (.ref b), .val (.int 8), .unset] [(.ref b), (.int 8)])) := by
   intro tgt hgo
   refine R0 tgt ?_
   show Steps p.tables e below (s₁.setTop (mkF m 0 #[.val (.ref b), .val (.int 8), .unset] [])) _
   refine XS.iloadN X0.here hx rfl (hb hby d13_0) rfl ?_
   refine XS.aloadN X0.here hx rfl (hb hby d13_1) rfl rfl ?_
   exact hgo
 obtain ⟨cl2, Ar2, -, S2, Nn2, -, -⟩ := id V1
 have R3 : Rc p e below A0 (s₁.setTop (mkF m 3 #[.val (.ref b), .val (.int 8), .unset] [(.int 3), (.int 8)])) := by
   intro tgt hgo
   refine R1 tgt ?_
   refine X0.arraylength hx (by rw [e0]; exact Ar2.1) (State.isArrayOf_alike hZ.alike Ar2.2.1) (g := (mkF m 2 #[.val (.ref b), .val (.int 8), .unset] [(.ref b), (.int 8)])) rfl rfl (hb hby d13_2) _ ?_
   rw [len_of S2 Nn2]
   exact hgo
 have R4 : Rc p e below A0 (s₁.setTop (mkF m 15 #[.val (.ref b), .val (.int 8), .unset] [(.int 8)])) := by
   intro tgt hgo
   refine R3 tgt ?_
   show Steps p.tables e below (s₁.setTop (mkF m 3 #[.val (.ref b), .val (.int 8), .unset] [(.int 3), (.int 8)])) _
   refine XS.icmpYes X0.here hx rfl (pc0 := 3) (pc' := 14) rfl (hb hby d13_3) rfl (feq (by decide : ¬ ((8 : Int32) = (3 : Int32)))).2 (by decide) (by decide) ?_
   refine XS.iloadN X0.here hx rfl (hb hby d13_14) rfl ?_
   exact hgo
 obtain ⟨T5, h5, k5, X5, e5, E5, A5, B5, st5⟩ := newPE X0 hx hZ (w 15 rfl) e0 (g := (mkF m 15 #[.val (.ref b), .val (.int 8), .unset] [(.int 8)])) rfl (hb hby d13_15) rfl (by decide) (cap := 8) (by decide) (by decide) (by decide) (by decide) (ad := "[B") rfl
 obtain ⟨nb, g5⟩ : ∃ z, z = h0.size := ⟨_, rfl⟩
 rw [← g5] at A5 B5 st5
 have ne_b_nb : b ≠ nb := Nat.ne_of_lt (Nat.lt_of_lt_of_le V1.lt (Nat.le_of_eq g5.symm))
 have ge_nb : n0 ≤ nb := Nat.le_trans hZn (Nat.le_of_eq g5.symm)
 have sz_nb : h0.size ≤ nb := Nat.le_trans hK.1 (Nat.le_of_eq g5.symm)
 replace hZn := Nat.le_trans hZn E5.1
 replace hK := hK.ext E5
 replace V1 := V1.ext E5
 replace Eb := Eb.ext E5
 have E_nb := B5
 have V_nb := Arv.new A5 (by decide)
 have R6 := Rc.st R4 st5
 have R7 : Rc p e below A0 (T5.setTop (mkF m 23 #[.val (.ref b), .val (.int 8), .val (.ref nb)] [(.ref b), (.int 0), (.ref nb), (.int 0), (.ref b)])) := by
   intro tgt hgo
   refine R6 tgt ?_
   show Steps p.tables e below (T5.setTop (mkF m 17 #[.val (.ref b), .val (.int 8), .unset] [(.ref nb)])) _
   refine XS.astoreN X5.here hx rfl (hb hby d13_17) rfl rfl (l' := #[.val (.ref b), .val (.int 8), .val (.ref nb)]) rfl ?_
   refine XS.aloadN X5.here hx rfl (hb hby d13_18) rfl rfl ?_
   refine XS.iconst X5.here hx rfl (hb hby d13_19) ?_
   refine XS.aloadN X5.here hx rfl (hb hby d13_20) rfl rfl ?_
   refine XS.iconst X5.here hx rfl (hb hby d13_21) ?_
   refine XS.aloadN X5.here hx rfl (hb hby d13_22) rfl rfl ?_
   exact hgo
 obtain ⟨cl8, Ar8, -, S8, Nn8, -, -⟩ := id V1
 have R9 : Rc p e below A0 (T5.setTop (mkF m 24 #[.val (.ref b), .val (.int 8), .val (.ref nb)] [(.int 3), (.int 0), (.ref nb), (.int 0), (.ref b)])) := by
   intro tgt hgo
   refine R7 tgt ?_
   refine X5.arraylength hx (by rw [e5]; exact Ar8.1) (State.isArrayOf_alike hZ.alike Ar8.2.1) (g := (mkF m 23 #[.val (.ref b), .val (.int 8), .val (.ref nb)] [(.ref b), (.int 0), (.ref nb), (.int 0), (.ref b)])) rfl rfl (hb hby d13_23) _ ?_
   rw [len_of S8 Nn8]
   exact hgo
 have R10 : Rc p e below A0 (T5.setTop (mkF m 25 #[.val (.ref b), .val (.int 8), .val (.ref nb)] [(.int 8), (.int 3), (.int 0), (.ref nb), (.int 0), (.ref b)])) := by
   intro tgt hgo
   refine R9 tgt ?_
   show Steps p.tables e below (T5.setTop (mkF m 24 #[.val (.ref b), .val (.int 8), .val (.ref nb)] [(.int 3), (.int 0), (.ref nb), (.int 0), (.ref b)])) _
   refine XS.iloadN X5.here hx rfl (hb hby d13_24) rfl ?_
   exact hgo
 obtain ⟨_, _, ⟨T11, L11, k11, n11⟩, -, X11, ⟨Lc11, hQ11, l11, y11, z11⟩, st11⟩ := Jvm.LawKit.callS X5 hx (y := yn8) hown (mvT hZ (w 178 rfl)) (mvT hZ (w 179 rfl)) (mvT hZ (w 171 rfl)) (mvT hZ (w 180 rfl)) (by decide) (backOf (W := 4) (rm_min l Z a0 hw [] (3 : Int32) (8 : Int32) (3 : Int32) h5 n0 hZn (by decide)) hZ (w 180 rfl) (w 171 rfl) (by decide) (by decide)) (g := (mkF m 25 #[.val (.ref b), .val (.int 8), .val (.ref nb)] [(.int 8), (.int 3), (.int 0), (.ref nb), (.int 0), (.ref b)])) rfl (by rw [hml]; rfl) (argsL := [(.int 3), (.int 8)]) (rest := [(.int 0), (.ref nb), (.int 0), (.ref b)]) (lenOf pd_5 rfl) rfl (by show 2 * 0 + _ ≤ _; exact Nat.le_of_eq rfl) (hb hby d13_25) (fun _ _ => ⟨rfl, e5, (by decide : 1 + 0 ≤ _), (by decide : 8 + 0 ≤ _)⟩)
 dsimp only [Pt.U, Pt.locs, Pt.cells, Pt.slots] at X11 l11 y11 z11 st11 hQ11
 subst l11 y11 z11
 obtain ⟨rfl, N11q, e11⟩ := hQ11
 have N11 := Fr.app N0 N11q
 have R12 := Rc.st R10 st11
 obtain ⟨T13, h13, X13, e13, K13, V13, st13⟩ := OwnKit.own_acp X11 hx hZ hown (w 181 rfl) (w 184 rfl) (w 182 rfl) (w 183 rfl) e11 V1 V_nb ne_b_nb (n := 3) (by simp [hlen]) (by decide) (by decide) (by decide) (g := (mkF m 28 #[.val (.ref b), .val (.int 8), .val (.ref nb)] [(.int 3), (.int 0), (.ref nb), (.int 0), (.ref b)])) rfl (by rw [hml]; rfl) (rest := []) rfl (hb hby d13_28) (by decide) (by show 2 * 0 + _ + _ ≤ _; decide +kernel)
 have N13 := OwnKit.own_frc (k := 0) (n := 3) N11 ge_nb
 replace hZn := Nat.le_trans hZn K13.1
 replace hK := hK.trans K13 (allS (Or.inr sz_nb) all0)
 replace V1 := V1.keep K13 (ninS ne_b_nb nin0)
 replace Eb := Eb.keep K13
 replace E_nb := E_nb.keep K13
 have V_nb := V13
 have R14 := Rc.st R12 st13
 have R15 : Rc p e below A0 (T13.setTop (mkF m 32 #[.val (.ref b), .val (.int 8), .val (.ref nb)] [(.ref nb)])) := by
   intro tgt hgo
   refine R14 tgt ?_
   show Steps p.tables e below (T13.setTop (mkF m 31 #[.val (.ref b), .val (.int 8), .val (.ref nb)] [])) _
   refine XS.aloadN X13.here hx rfl (hb hby d13_31) rfl rfl ?_
   exact hgo
 subst hA0
 obtain ⟨fs, hr, hrun, hended, hW, hsame⟩ := X13.leave (v := some (.ref nb)) (fun h => by rw [Bd.returns] at h; cases h)
 refine ⟨_, _, R15 _ ?_, hrun, hended, _, _, rfl, ?_, ⟨_, rfl⟩, hW, hsame.mono (by decide) (by decide)⟩
 ·show Steps p.tables e below (T13.setTop (mkF m 32 #[.val (.ref b), .val (.int 8), .val (.ref nb)] [(.ref nb)])) _
  jvm_step X13.here [X13.here.top, hx, (hb hby d13_32), X13.method', Bd.returns, Value.isRef, FieldType.isReference]
  first | (intro acts; rw [hr _ acts rfl rfl rfl]) | rw [hr _ _ rfl rfl rfl]
  exact Steps.refl _
 ·show Qg3 Z b bs h0 n0 _ T13.heap _
  rw [e13]
  exact ⟨⟨nb, rfl, _, ge_nb, sz_nb, V_nb, E_nb⟩, N13, hK⟩
theorem ef_rm_nl4 (m : MethodId)  : entryFrame m #[(.int (4 : Int32)), (.int (1 : Int32)), (.int (6 : Int32))] 4 = mkF m 0 #[.val (.int (4 : Int32)), .val (.int (1 : Int32)), .val (.int (6 : Int32)), .unset] [] := by first | (simp [entryFrame, mkF, argsToLocals, Value.category]; done) | rfl
set_option maxRecDepth 65536 in
set_option maxHeartbeats 40000000 in
theorem rm_nl4 (l : Launch) (Z : State) (a0 : Array Value) (hw : ∀ d ∈ tables_1, d.before a0 Z = true) (ws : List Jvm.Cond)  (h0 : Heap) (n0 : Nat) (Z0 : n0 ≤ h0.size) :
    MetFree l yn11 (head1 (Jvm.Cond.code yn11 jdk_48_method_27_code 4 (some .int) :: ws) ({ frames := 1, cells := 0, slots := 0, locals := 14 } : Room)) (fun a U => a = #[(.int (4 : Int32)), (.int (1 : Int32)), (.int (6 : Int32))] ∧ Z.Warmed39 U.vm ∧ U.heap = h0) (fun _ _ _ _ _ => True) (fun _ U o U' => ∃ v L, o = .returned v ∧ Qi (10 : Int32) h0 n0 v U'.heap L ∧ FrameEnd U o U' L ({ frames := 1, cells := 0, slots := 0, locals := 14 } : Room).cells ({ frames := 1, cells := 0, slots := 0, locals := 14 } : Room).slots) := by
 refine MetFree.of_bodySF (plainFor_of_name pn_jdk_internal_util_ArraysSupport) hisR ?_
 intro p e s m args below meth c s₁ Bd hml0 hP hK
 obtain ⟨rfl, hZ, hh⟩ := hP
 have hx := Bd.exec
 have hby := Bd.bytes
 have hml : c.maxLocals = 4 := hml0
 have hown : s.vm.findClass "jdk/internal/util/ArraysSupport" = some m.cls := findClass_of_methodNamed Bd.named
 have hnm := (name_of_methodNamed Bd.named Bd.method).1
 have X0 : Stand p l e ({ frames := 1, cells := 0, slots := 0, locals := 14 } : Room) s m #[(.int 4), (.int 1), (.int 6)] below meth c s₁ [] 0 0 := Stand.of_body Bd
 have e0 : s₁.heap = h0 := by rw [← hh, Bd.state]; rfl
 have N0 := Fr.nil n0
 obtain ⟨A0, hA0⟩ : ∃ A, A = s₁.setTop (entryFrame m #[(.int 4), (.int 1), (.int 6)] 4) := ⟨_, rfl⟩
 have R0 : ∀ tgt, Steps p.tables e below (s₁.setTop (mkF m 0 #[.val (.int 4), .val (.int 1), .val (.int 6), .unset] [])) tgt → Steps p.tables e below A0 tgt := fun tgt hgo => by rw [hA0]; exact castTop (ef_rm_nl4 m ) hgo
 have w : ∀ (i : Nat) {d : Jvm.Cond}, tables_1[i]? = some d → d.before a0 Z = true := fun i d h => hw d (List.mem_of_getElem? h)
 have R1 : Rc p e below A0 (s₁.setTop (mkF m 3 #[.val (.int 4), .val (.int 1), .val (.int 6), .unset] [(.int 6), (.int 1), (.int 4)])) := by
   intro tgt hgo
   refine R0 tgt ?_
   show Steps p.tables e below (s₁.setTop (mkF m 0 #[.val (.int 4), .val (.int 1), .val (.int 6), .unset] [])) _
   refine XS.iloadN X0.here hx rfl (hb hby d11_0) rfl ?_
   refine XS.iloadN X0.here hx rfl (hb hby d11_1) rfl ?_
   refine XS.iloadN X0.here hx rfl (hb hby d11_2) rfl ?_
   exact hgo
 obtain ⟨_, _, ⟨T2, L2, k2, n2⟩, -, X2, ⟨Lc2, hQ2, l2, y2, z2⟩, st2⟩ := Jvm.LawKit.callS X0 hx (y := yn7) hown (mvT hZ (w 169 rfl)) (mvT hZ (w 170 rfl)) (mvT hZ (w 171 rfl)) (mvT hZ (w 172 rfl)) (by decide) (backOf (W := 1) (rm_max l Z a0 hw [] (1 : Int32) (6 : Int32) (6 : Int32) h0 n0 Z0 (by decide)) hZ (w 172 rfl) (w 171 rfl) (by decide) (by decide)) (g := (mkF m 3 #[.val (.int 4), .val (.int 1), .val (.int 6), .unset] [(.int 6), (.int 1), (.int 4)])) rfl (by rw [hml]; rfl) (argsL := [(.int 1), (.int 6)]) (rest := [(.int 4)]) (lenOf pd_5 rfl) rfl (by show 2 * 0 + _ ≤ _; exact Nat.le_of_eq rfl) (hb hby d11_3) (fun _ _ => ⟨rfl, e0, (by decide : 0 + 0 ≤ _), (by decide : 0 + 0 ≤ _)⟩)
 dsimp only [Pt.U, Pt.locs, Pt.cells, Pt.slots] at X2 l2 y2 z2 st2 hQ2
 subst l2 y2 z2
 obtain ⟨rfl, N2q, e2⟩ := hQ2
 have N2 := Fr.app N0 N2q
 have R3 := Rc.st R1 st2
 have R4 : Rc p e below A0 (T2.setTop (mkF m 20 #[.val (.int 4), .val (.int 1), .val (.int 6), .val (.int 10)] [(.int 10)])) := by
   intro tgt hgo
   refine R3 tgt ?_
   show Steps p.tables e below (T2.setTop (mkF m 6 #[.val (.int 4), .val (.int 1), .val (.int 6), .unset] [(.int 6), (.int 4)])) _
   refine XS.iadd X2.here hx rfl (hb hby d11_6) rfl ?_
   refine XS.istoreN X2.here hx rfl (hb hby d11_7) rfl (l' := #[.val (.int 4), .val (.int 1), .val (.int 6), .val (.int 10)]) rfl ?_
   refine XS.iconst X2.here hx rfl (hb hby d11_8) ?_
   refine XS.iloadN X2.here hx rfl (hb hby d11_9) rfl ?_
   refine XS.icmpNo X2.here hx rfl (hb hby d11_10) rfl (tlt (by decide : (0 : Int32) < (10 : Int32))).2.1 ?_
   refine XS.iloadN X2.here hx rfl (hb hby d11_13) rfl ?_
   refine X2.ldcInt hx hown (mvT hZ (w 173 rfl)) (g := (mkF m 14 #[.val (.int 4), .val (.int 1), .val (.int 6), .val (.int 10)] [(.int 10)])) rfl (hb hby d11_14) _ ?_
   refine XS.icmpNo X2.here hx rfl (hb hby d11_16) rfl (flt (by decide : ¬ ((2147483639 : Int32) < (10 : Int32)))).2.2.1 ?_
   refine XS.iloadN X2.here hx rfl (hb hby d11_19) rfl ?_
   exact hgo
 subst hA0
 obtain ⟨fs, hr, hrun, hended, hW, hsame⟩ := X2.leave (v := some (.int 10)) (fun h => by rw [Bd.returns] at h; cases h)
 refine ⟨_, _, R4 _ ?_, hrun, hended, _, _, rfl, ?_, ⟨_, rfl⟩, hW, hsame.mono (by decide) (by decide)⟩
 ·show Steps p.tables e below (T2.setTop (mkF m 20 #[.val (.int 4), .val (.int 1), .val (.int 6), .val (.int 10)] [(.int 10)])) _
  exact retI X2 hx Bd.returns (hb hby d11_20) hr
 ·show Qi (10 : Int32) h0 n0 _ T2.heap _
  rw [e2]
  exact ⟨rfl, N2, rfl⟩
theorem ef_rm_nc4 (m : MethodId) (a1 : Addr) : entryFrame m #[(.ref a1), (.int (5 : Int32))] 6 = mkF m 0 #[.val (.ref a1), .val (.int (5 : Int32)), .unset, .unset, .unset, .unset] [] := by first | (simp [entryFrame, mkF, argsToLocals, Value.category]; done) | rfl
set_option maxRecDepth 65536 in
set_option maxHeartbeats 40000000 in
theorem rm_nc4 (l : Launch) (Z : State) (a0 : Array Value) (hw : ∀ d ∈ tables_1, d.before a0 Z = true) (ws : List Jvm.Cond) (a1 : Addr) (b : Addr) (k : ClassId) (bs : List Int32) (h0 : Heap) (n0 : Nat) (Z0 : n0 ≤ h0.size) (E1 : Exa Z h0 a1 "java/lang/StringBuilder") (Fv : Fld Z h0 a1 "java/lang/AbstractStringBuilder" "value" "[B" (.ref b)) (Fc : Fld Z h0 a1 "java/lang/AbstractStringBuilder" "count" "I" (.int (4 : Int32))) (Fd : Fld Z h0 a1 "java/lang/AbstractStringBuilder" "coder" "B" (.int 0)) (V1 : Arv Z h0 b k .byte (4 : Int32) (bs.map Value.int) (.int 0)) (Eb : Exa Z h0 b "[B") (hlen : bs.length = 4) :
    MetFree l yn12 (head1 (Jvm.Cond.code yn12 jdk_68_method_10_code 6 (some .int) :: ws) ({ frames := 2, cells := 0, slots := 0, locals := 29 } : Room)) (fun a U => a = #[(.ref a1), (.int (5 : Int32))] ∧ Z.Warmed39 U.vm ∧ U.heap = h0) (fun _ _ _ _ _ => True) (fun _ U o U' => ∃ v L, o = .returned v ∧ Qi (10 : Int32) h0 n0 v U'.heap L ∧ FrameEnd U o U' L ({ frames := 2, cells := 0, slots := 0, locals := 29 } : Room).cells ({ frames := 2, cells := 0, slots := 0, locals := 29 } : Room).slots) := by
 refine MetFree.of_bodySF (plainFor_of_name pn_java_lang_AbstractStringBuilder) hisR ?_
 intro p e s m args below meth c s₁ Bd hml0 hP hK
 obtain ⟨rfl, hZ, hh⟩ := hP
 have hx := Bd.exec
 have hby := Bd.bytes
 have hml : c.maxLocals = 6 := hml0
 have hown : s.vm.findClass "java/lang/AbstractStringBuilder" = some m.cls := findClass_of_methodNamed Bd.named
 have hnm := (name_of_methodNamed Bd.named Bd.method).1
 have X0 : Stand p l e ({ frames := 2, cells := 0, slots := 0, locals := 29 } : Room) s m #[(.ref a1), (.int 5)] below meth c s₁ [] 0 0 := Stand.of_body Bd
 have e0 : s₁.heap = h0 := by rw [← hh, Bd.state]; rfl
 have N0 := Fr.nil n0
 obtain ⟨A0, hA0⟩ : ∃ A, A = s₁.setTop (entryFrame m #[(.ref a1), (.int 5)] 6) := ⟨_, rfl⟩
 have R0 : ∀ tgt, Steps p.tables e below (s₁.setTop (mkF m 0 #[.val (.ref a1), .val (.int 5), .unset, .unset, .unset, .unset] [])) tgt → Steps p.tables e below A0 tgt := fun tgt hgo => by rw [hA0]; exact castTop (ef_rm_nc4 m a1) hgo
 have w : ∀ (i : Nat) {d : Jvm.Cond}, tables_1[i]? = some d → d.before a0 Z = true := fun i d h => hw d (List.mem_of_getElem? h)
 have R1 : Rc p e below A0 (s₁.setTop (mkF m 1 #[.val (.ref a1), .val (.int 5), .unset, .unset, .unset, .unset] [(.ref a1)])) := by
   intro tgt hgo
   refine R0 tgt ?_
   show Steps p.tables e below (s₁.setTop (mkF m 0 #[.val (.ref a1), .val (.int 5), .unset, .unset, .unset, .unset] [])) _
   refine XS.aloadN X0.here hx rfl (hb hby d12_0) rfl rfl ?_
   exact hgo
 obtain ⟨T2, X2, e2, st2⟩ := getF X0 hx hZ hown (host := "") (Or.inl (w 51 rfl)) Via.refl e0 Fv (g := (mkF m 1 #[.val (.ref a1), .val (.int 5), .unset, .unset, .unset, .unset] [(.ref a1)])) rfl rfl (hb hby d12_1)
 have R3 := Rc.st R1 st2
 obtain ⟨cl4, Ar4, -, S4, Nn4, -, -⟩ := id V1
 have R5 : Rc p e below A0 (T2.setTop (mkF m 5 #[.val (.ref a1), .val (.int 5), .unset, .unset, .unset, .unset] [(.int 4)])) := by
   intro tgt hgo
   refine R3 tgt ?_
   refine X2.arraylength hx (by rw [e2]; exact Ar4.1) (State.isArrayOf_alike hZ.alike Ar4.2.1) (g := (mkF m 4 #[.val (.ref a1), .val (.int 5), .unset, .unset, .unset, .unset] [(.ref b)])) rfl rfl (hb hby d12_4) _ ?_
   rw [len_of S4 Nn4]
   exact hgo
 have R6 : Rc p e below A0 (T2.setTop (mkF m 8 #[.val (.ref a1), .val (.int 5), .val (.int 4), .unset, .unset, .unset] [(.ref a1), (.int 5)])) := by
   intro tgt hgo
   refine R5 tgt ?_
   show Steps p.tables e below (T2.setTop (mkF m 5 #[.val (.ref a1), .val (.int 5), .unset, .unset, .unset, .unset] [(.int 4)])) _
   refine XS.istoreN X2.here hx rfl (hb hby d12_5) rfl (l' := #[.val (.ref a1), .val (.int 5), .val (.int 4), .unset, .unset, .unset]) rfl ?_
   refine XS.iloadN X2.here hx rfl (hb hby d12_6) rfl ?_
   refine XS.aloadN X2.here hx rfl (hb hby d12_7) rfl rfl ?_
   exact hgo
 obtain ⟨T7, X7, e7, st7⟩ := getF X2 hx hZ hown (host := "") (Or.inl (w 53 rfl)) Via.refl e2 Fd (g := (mkF m 8 #[.val (.ref a1), .val (.int 5), .val (.int 4), .unset, .unset, .unset] [(.ref a1), (.int 5)])) rfl rfl (hb hby d12_8)
 have R8 := Rc.st R6 st7
 have R9 : Rc p e below A0 (T7.setTop (mkF m 24 #[.val (.ref a1), .val (.int 5), .val (.int 4), .val (.int 5), .val (.int 1), .unset] [(.ref a1), (.int 2), (.int 4), (.int 1), (.int 4)])) := by
   intro tgt hgo
   refine R8 tgt ?_
   show Steps p.tables e below (T7.setTop (mkF m 11 #[.val (.ref a1), .val (.int 5), .val (.int 4), .unset, .unset, .unset] [(.int 0), (.int 5)])) _
   refine XS.ishl X7.here hx rfl (hb hby d12_11) rfl ?_
   refine XS.istoreN X7.here hx rfl (hb hby d12_12) rfl (l' := #[.val (.ref a1), .val (.int 5), .val (.int 4), .val (.int 5), .unset, .unset]) rfl ?_
   refine XS.iloadN X7.here hx rfl (hb hby d12_13) rfl ?_
   refine XS.iloadN X7.here hx rfl (hb hby d12_14) rfl ?_
   refine XS.isub X7.here hx rfl (hb hby d12_15) rfl ?_
   refine XS.istore X7.here hx rfl (hb hby d12_16) rfl (l' := #[.val (.ref a1), .val (.int 5), .val (.int 4), .val (.int 5), .val (.int 1), .unset]) rfl ?_
   refine XS.iloadN X7.here hx rfl (hb hby d12_18) rfl ?_
   refine XS.iload X7.here hx rfl (hb hby d12_19) rfl ?_
   refine XS.iloadN X7.here hx rfl (hb hby d12_21) rfl ?_
   refine XS.iconst X7.here hx rfl (hb hby d12_22) ?_
   refine XS.aloadN X7.here hx rfl (hb hby d12_23) rfl rfl ?_
   exact hgo
 obtain ⟨T10, X10, e10, st10⟩ := getF X7 hx hZ hown (host := "") (Or.inl (w 53 rfl)) Via.refl e7 Fd (g := (mkF m 24 #[.val (.ref a1), .val (.int 5), .val (.int 4), .val (.int 5), .val (.int 1), .unset] [(.ref a1), (.int 2), (.int 4), (.int 1), (.int 4)])) rfl rfl (hb hby d12_24)
 have R11 := Rc.st R9 st10
 have R12 : Rc p e below A0 (T10.setTop (mkF m 29 #[.val (.ref a1), .val (.int 5), .val (.int 4), .val (.int 5), .val (.int 1), .unset] [(.int 6), (.int 1), (.int 4)])) := by
   intro tgt hgo
   refine R11 tgt ?_
   show Steps p.tables e below (T10.setTop (mkF m 27 #[.val (.ref a1), .val (.int 5), .val (.int 4), .val (.int 5), .val (.int 1), .unset] [(.int 0), (.int 2), (.int 4), (.int 1), (.int 4)])) _
   refine XS.ishl X10.here hx rfl (hb hby d12_27) rfl ?_
   refine XS.iadd X10.here hx rfl (hb hby d12_28) rfl ?_
   exact hgo
 obtain ⟨_, _, ⟨T13, L13, k13, n13⟩, -, X13, ⟨Lc13, hQ13, l13, y13, z13⟩, st13⟩ := Jvm.LawKit.callS X10 hx (y := yn11) hown (mvT hZ (w 165 rfl)) (mvT hZ (w 166 rfl)) (mvT hZ (w 167 rfl)) (mvT hZ (w 168 rfl)) (by decide) (backOf (W := 0) (rm_nl4 l Z a0 hw [] h0 n0 Z0) hZ (w 168 rfl) (w 167 rfl) (by decide) (by decide)) (g := (mkF m 29 #[.val (.ref a1), .val (.int 5), .val (.int 4), .val (.int 5), .val (.int 1), .unset] [(.int 6), (.int 1), (.int 4)])) rfl (by rw [hml]; rfl) (argsL := [(.int 4), (.int 1), (.int 6)]) (rest := []) (lenOf pd_6 rfl) rfl (by show 2 * 0 + _ ≤ _; exact Nat.le_of_eq rfl) (hb hby d12_29) (fun _ _ => ⟨rfl, e10, (by decide : 0 + 0 ≤ _), (by decide : 0 + 0 ≤ _)⟩)
 dsimp only [Pt.U, Pt.locs, Pt.cells, Pt.slots] at X13 l13 y13 z13 st13 hQ13
 subst l13 y13 z13
 obtain ⟨rfl, N13q, e13⟩ := hQ13
 have N13 := Fr.app N0 N13q
 have R14 := Rc.st R12 st13
 have R15 : Rc p e below A0 (T13.setTop (mkF m 54 #[.val (.ref a1), .val (.int 5), .val (.int 4), .val (.int 5), .val (.int 1), .val (.int 10)] [(.ref a1), (.int 10)])) := by
   intro tgt hgo
   refine R14 tgt ?_
   show Steps p.tables e below (T13.setTop (mkF m 32 #[.val (.ref a1), .val (.int 5), .val (.int 4), .val (.int 5), .val (.int 1), .unset] [(.int 10)])) _
   refine XS.istore X13.here hx rfl (hb hby d12_32) rfl (l' := #[.val (.ref a1), .val (.int 5), .val (.int 4), .val (.int 5), .val (.int 1), .val (.int 10)]) rfl ?_
   refine XS.iload X13.here hx rfl (hb hby d12_34) rfl ?_
   refine X13.ldcInt hx hown (mvT hZ (w 174 rfl)) (g := (mkF m 36 #[.val (.ref a1), .val (.int 5), .val (.int 4), .val (.int 5), .val (.int 1), .val (.int 10)] [(.int 10)])) rfl (hb hby d12_36) _ ?_
   refine XS.icmpYes X13.here hx rfl (pc0 := 38) (pc' := 51) rfl (hb hby d12_38) rfl (feq (by decide : ¬ ((10 : Int32) = (2147483647 : Int32)))).2 (by decide) (by decide) ?_
   refine XS.iload X13.here hx rfl (hb hby d12_51) rfl ?_
   refine XS.aloadN X13.here hx rfl (hb hby d12_53) rfl rfl ?_
   exact hgo
 obtain ⟨T16, X16, e16, st16⟩ := getF X13 hx hZ hown (host := "") (Or.inl (w 53 rfl)) Via.refl e13 Fd (g := (mkF m 54 #[.val (.ref a1), .val (.int 5), .val (.int 4), .val (.int 5), .val (.int 1), .val (.int 10)] [(.ref a1), (.int 10)])) rfl rfl (hb hby d12_54)
 have R17 := Rc.st R15 st16
 have R18 : Rc p e below A0 (T16.setTop (mkF m 58 #[.val (.ref a1), .val (.int 5), .val (.int 4), .val (.int 5), .val (.int 1), .val (.int 10)] [(.int 10)])) := by
   intro tgt hgo
   refine R17 tgt ?_
   show Steps p.tables e below (T16.setTop (mkF m 57 #[.val (.ref a1), .val (.int 5), .val (.int 4), .val (.int 5), .val (.int 1), .val (.int 10)] [(.int 0), (.int 10)])) _
   refine XS.ishr X16.here hx rfl (hb hby d12_57) rfl ?_
   exact hgo
 subst hA0
 obtain ⟨fs, hr, hrun, hended, hW, hsame⟩ := X16.leave (v := some (.int 10)) (fun h => by rw [Bd.returns] at h; cases h)
 refine ⟨_, _, R18 _ ?_, hrun, hended, _, _, rfl, ?_, ⟨_, rfl⟩, hW, hsame.mono (by decide) (by decide)⟩
 ·show Steps p.tables e below (T16.setTop (mkF m 58 #[.val (.ref a1), .val (.int 5), .val (.int 4), .val (.int 5), .val (.int 1), .val (.int 10)] [(.int 10)])) _
  exact retI X16 hx Bd.returns (hb hby d12_58) hr
 ·show Qi (10 : Int32) h0 n0 _ T16.heap _
  rw [e16]
  exact ⟨rfl, N13, rfl⟩
def Qg4 (Z : State) (b : Addr) (bs : List Int32) (h0 : Heap) (n0 : Nat) (v : Option Value) (h : Heap) (L : List Loc) : Prop := (∃ t : Addr, v = some (.ref t) ∧ ∃ kt : ClassId, n0 ≤ t ∧ h0.size ≤ t ∧ Arv Z h t kt .byte (10 : Int32) (bs.map Value.int) (.int 0) ∧ Exa Z h t "[B") ∧ Fr n0 L ∧ Keep h0 h []
theorem ef_rm_co4 (m : MethodId) (b : Addr) : entryFrame m #[(.ref b), (.int (10 : Int32))] 3 = mkF m 0 #[.val (.ref b), .val (.int (10 : Int32)), .unset] [] := by first | (simp [entryFrame, mkF, argsToLocals, Value.category]; done) | rfl
set_option maxRecDepth 65536 in
set_option maxHeartbeats 40000000 in
theorem rm_co4 (l : Launch) (Z : State) (a0 : Array Value) (hw : ∀ d ∈ tables_1, d.before a0 Z = true) (ws : List Jvm.Cond) (b : Addr) (k : ClassId) (bs : List Int32) (h0 : Heap) (n0 : Nat) (Z0 : n0 ≤ h0.size) (V1 : Arv Z h0 b k .byte (4 : Int32) (bs.map Value.int) (.int 0)) (Eb : Exa Z h0 b "[B") (hlen : bs.length = 4) :
    MetFree l yn13 (head1 (Jvm.Cond.code yn13 jdk_65_method_121_code 3 (some (.array .byte)) :: ws) ({ frames := 1, cells := 1, slots := 10, locals := 24 } : Room)) (fun a U => a = #[(.ref b), (.int (10 : Int32))] ∧ Z.Warmed39 U.vm ∧ U.heap = h0) (fun _ _ _ _ _ => True) (fun _ U o U' => ∃ v L, o = .returned v ∧ Qg4 Z b bs h0 n0 v U'.heap L ∧ FrameEnd U o U' L ({ frames := 1, cells := 1, slots := 10, locals := 24 } : Room).cells ({ frames := 1, cells := 1, slots := 10, locals := 24 } : Room).slots) := by
 refine MetFree.of_bodySF (plainFor_of_name pn_java_util_Arrays) hisR ?_
 intro p e s m args below meth c s₁ Bd hml0 hP hK
 obtain ⟨rfl, hZ, hh⟩ := hP
 have hx := Bd.exec
 have hby := Bd.bytes
 have hml : c.maxLocals = 3 := hml0
 have hown : s.vm.findClass "java/util/Arrays" = some m.cls := findClass_of_methodNamed Bd.named
 have hnm := (name_of_methodNamed Bd.named Bd.method).1
 have X0 : Stand p l e ({ frames := 1, cells := 1, slots := 10, locals := 24 } : Room) s m #[(.ref b), (.int 10)] below meth c s₁ [] 0 0 := Stand.of_body Bd
 have e0 : s₁.heap = h0 := by rw [← hh, Bd.state]; rfl
 have N0 := Fr.nil n0
 obtain ⟨A0, hA0⟩ : ∃ A, A = s₁.setTop (entryFrame m #[(.ref b), (.int 10)] 3) := ⟨_, rfl⟩
 have R0 : ∀ tgt, Steps p.tables e below (s₁.setTop (mkF m 0 #[.val (.ref b), .val (.int 10), .unset] [])) tgt → Steps p.tables e below A0 tgt := fun tgt hgo => by rw [hA0]; exact castTop (ef_rm_co4 m b) hgo
 have w : ∀ (i : Nat) {d : Jvm.Cond}, tables_1[i]? = some d → d.before a0 Z = true := fun i d h => hw d (List.mem_of_getElem? h)
 have hZn := Z0
 have hK : Keep h0 h0 [] := Keep.refl _ _
 have R1 : Rc p e below A0 (s₁.setTop (mkF m 2 #[.val (.ref b), .val (.int 10), .unset] [(.ref b), (.int 10)])) := by
   intro tgt hgo
   refine R0 tgt ?_
   show Steps p.tables e below (s₁.setTop (mkF m 0 #[.val (.ref b), .val (.int 10), .unset] [])) _
   refine XS.iloadN X0.here hx rfl (hb hby d13_0) rfl ?_
   refine XS.aloadN X0.here hx rfl (hb hby d13_1) rfl rfl ?_
   exact hgo
 obtain ⟨cl2, Ar2, -, S2, Nn2, -, -⟩ := id V1
 have R3 : Rc p e below A0 (s₁.setTop (mkF m 3 #[.val (.ref b), .val (.int 10), .unset] [(.int 4), (.int 10)])) := by
   intro tgt hgo
   refine R1 tgt ?_
   refine X0.arraylength hx (by rw [e0]; exact Ar2.1) (State.isArrayOf_alike hZ.alike Ar2.2.1) (g := (mkF m 2 #[.val (.ref b), .val (.int 10), .unset] [(.ref b), (.int 10)])) rfl rfl (hb hby d13_2) _ ?_
   rw [len_of S2 Nn2]
   exact hgo
 have R4 : Rc p e below A0 (s₁.setTop (mkF m 15 #[.val (.ref b), .val (.int 10), .unset] [(.int 10)])) := by
   intro tgt hgo
   refine R3 tgt ?_
   show Steps p.tables e below (s₁.setTop (mkF m 3 #[.val (.ref b), .val (.int 10), .unset] [(.int 4), (.int 10)])) _
   refine XS.icmpYes X0.here hx rfl (pc0 := 3) (pc' := 14) rfl (hb hby d13_3) rfl (feq (by decide : ¬ ((10 : Int32) = (4 : Int32)))).2 (by decide) (by decide) ?_
   refine XS.iloadN X0.here hx rfl (hb hby d13_14) rfl ?_
   exact hgo
 obtain ⟨T5, h5, k5, X5, e5, E5, A5, B5, st5⟩ := newPE X0 hx hZ (w 15 rfl) e0 (g := (mkF m 15 #[.val (.ref b), .val (.int 10), .unset] [(.int 10)])) rfl (hb hby d13_15) rfl (by decide) (cap := 10) (by decide) (by decide) (by decide) (by decide) (ad := "[B") rfl
 obtain ⟨nb, g5⟩ : ∃ z, z = h0.size := ⟨_, rfl⟩
 rw [← g5] at A5 B5 st5
 have ne_b_nb : b ≠ nb := Nat.ne_of_lt (Nat.lt_of_lt_of_le V1.lt (Nat.le_of_eq g5.symm))
 have ge_nb : n0 ≤ nb := Nat.le_trans hZn (Nat.le_of_eq g5.symm)
 have sz_nb : h0.size ≤ nb := Nat.le_trans hK.1 (Nat.le_of_eq g5.symm)
 replace hZn := Nat.le_trans hZn E5.1
 replace hK := hK.ext E5
 replace V1 := V1.ext E5
 replace Eb := Eb.ext E5
 have E_nb := B5
 have V_nb := Arv.new A5 (by decide)
 have R6 := Rc.st R4 st5
 have R7 : Rc p e below A0 (T5.setTop (mkF m 23 #[.val (.ref b), .val (.int 10), .val (.ref nb)] [(.ref b), (.int 0), (.ref nb), (.int 0), (.ref b)])) := by
   intro tgt hgo
   refine R6 tgt ?_
   show Steps p.tables e below (T5.setTop (mkF m 17 #[.val (.ref b), .val (.int 10), .unset] [(.ref nb)])) _
   refine XS.astoreN X5.here hx rfl (hb hby d13_17) rfl rfl (l' := #[.val (.ref b), .val (.int 10), .val (.ref nb)]) rfl ?_
   refine XS.aloadN X5.here hx rfl (hb hby d13_18) rfl rfl ?_
   refine XS.iconst X5.here hx rfl (hb hby d13_19) ?_
   refine XS.aloadN X5.here hx rfl (hb hby d13_20) rfl rfl ?_
   refine XS.iconst X5.here hx rfl (hb hby d13_21) ?_
   refine XS.aloadN X5.here hx rfl (hb hby d13_22) rfl rfl ?_
   exact hgo
 obtain ⟨cl8, Ar8, -, S8, Nn8, -, -⟩ := id V1
 have R9 : Rc p e below A0 (T5.setTop (mkF m 24 #[.val (.ref b), .val (.int 10), .val (.ref nb)] [(.int 4), (.int 0), (.ref nb), (.int 0), (.ref b)])) := by
   intro tgt hgo
   refine R7 tgt ?_
   refine X5.arraylength hx (by rw [e5]; exact Ar8.1) (State.isArrayOf_alike hZ.alike Ar8.2.1) (g := (mkF m 23 #[.val (.ref b), .val (.int 10), .val (.ref nb)] [(.ref b), (.int 0), (.ref nb), (.int 0), (.ref b)])) rfl rfl (hb hby d13_23) _ ?_
   rw [len_of S8 Nn8]
   exact hgo
 have R10 : Rc p e below A0 (T5.setTop (mkF m 25 #[.val (.ref b), .val (.int 10), .val (.ref nb)] [(.int 10), (.int 4), (.int 0), (.ref nb), (.int 0), (.ref b)])) := by
   intro tgt hgo
   refine R9 tgt ?_
   show Steps p.tables e below (T5.setTop (mkF m 24 #[.val (.ref b), .val (.int 10), .val (.ref nb)] [(.int 4), (.int 0), (.ref nb), (.int 0), (.ref b)])) _
   refine XS.iloadN X5.here hx rfl (hb hby d13_24) rfl ?_
   exact hgo
 obtain ⟨_, _, ⟨T11, L11, k11, n11⟩, -, X11, ⟨Lc11, hQ11, l11, y11, z11⟩, st11⟩ := Jvm.LawKit.callS X5 hx (y := yn8) hown (mvT hZ (w 178 rfl)) (mvT hZ (w 179 rfl)) (mvT hZ (w 171 rfl)) (mvT hZ (w 180 rfl)) (by decide) (backOf (W := 4) (rm_min l Z a0 hw [] (4 : Int32) (10 : Int32) (4 : Int32) h5 n0 hZn (by decide)) hZ (w 180 rfl) (w 171 rfl) (by decide) (by decide)) (g := (mkF m 25 #[.val (.ref b), .val (.int 10), .val (.ref nb)] [(.int 10), (.int 4), (.int 0), (.ref nb), (.int 0), (.ref b)])) rfl (by rw [hml]; rfl) (argsL := [(.int 4), (.int 10)]) (rest := [(.int 0), (.ref nb), (.int 0), (.ref b)]) (lenOf pd_5 rfl) rfl (by show 2 * 0 + _ ≤ _; exact Nat.le_of_eq rfl) (hb hby d13_25) (fun _ _ => ⟨rfl, e5, (by decide : 1 + 0 ≤ _), (by decide : 10 + 0 ≤ _)⟩)
 dsimp only [Pt.U, Pt.locs, Pt.cells, Pt.slots] at X11 l11 y11 z11 st11 hQ11
 subst l11 y11 z11
 obtain ⟨rfl, N11q, e11⟩ := hQ11
 have N11 := Fr.app N0 N11q
 have R12 := Rc.st R10 st11
 obtain ⟨T13, h13, X13, e13, K13, V13, st13⟩ := OwnKit.own_acp X11 hx hZ hown (w 181 rfl) (w 184 rfl) (w 182 rfl) (w 183 rfl) e11 V1 V_nb ne_b_nb (n := 4) (by simp [hlen]) (by decide) (by decide) (by decide) (g := (mkF m 28 #[.val (.ref b), .val (.int 10), .val (.ref nb)] [(.int 4), (.int 0), (.ref nb), (.int 0), (.ref b)])) rfl (by rw [hml]; rfl) (rest := []) rfl (hb hby d13_28) (by decide) (by show 2 * 0 + _ + _ ≤ _; decide +kernel)
 have N13 := OwnKit.own_frc (k := 0) (n := 4) N11 ge_nb
 replace hZn := Nat.le_trans hZn K13.1
 replace hK := hK.trans K13 (allS (Or.inr sz_nb) all0)
 replace V1 := V1.keep K13 (ninS ne_b_nb nin0)
 replace Eb := Eb.keep K13
 replace E_nb := E_nb.keep K13
 have V_nb := V13
 have R14 := Rc.st R12 st13
 have R15 : Rc p e below A0 (T13.setTop (mkF m 32 #[.val (.ref b), .val (.int 10), .val (.ref nb)] [(.ref nb)])) := by
   intro tgt hgo
   refine R14 tgt ?_
   show Steps p.tables e below (T13.setTop (mkF m 31 #[.val (.ref b), .val (.int 10), .val (.ref nb)] [])) _
   refine XS.aloadN X13.here hx rfl (hb hby d13_31) rfl rfl ?_
   exact hgo
 subst hA0
 obtain ⟨fs, hr, hrun, hended, hW, hsame⟩ := X13.leave (v := some (.ref nb)) (fun h => by rw [Bd.returns] at h; cases h)
 refine ⟨_, _, R15 _ ?_, hrun, hended, _, _, rfl, ?_, ⟨_, rfl⟩, hW, hsame.mono (by decide) (by decide)⟩
 ·show Steps p.tables e below (T13.setTop (mkF m 32 #[.val (.ref b), .val (.int 10), .val (.ref nb)] [(.ref nb)])) _
  jvm_step X13.here [X13.here.top, hx, (hb hby d13_32), X13.method', Bd.returns, Value.isRef, FieldType.isReference]
  first | (intro acts; rw [hr _ acts rfl rfl rfl]) | rw [hr _ _ rfl rfl rfl]
  exact Steps.refl _
 ·show Qg4 Z b bs h0 n0 _ T13.heap _
  rw [e13]
  exact ⟨⟨nb, rfl, _, ge_nb, sz_nb, V_nb, E_nb⟩, N13, hK⟩
theorem ef_rm_nl5 (m : MethodId)  : entryFrame m #[(.int (5 : Int32)), (.int (1 : Int32)), (.int (7 : Int32))] 4 = mkF m 0 #[.val (.int (5 : Int32)), .val (.int (1 : Int32)), .val (.int (7 : Int32)), .unset] [] := by first | (simp [entryFrame, mkF, argsToLocals, Value.category]; done) | rfl
set_option maxRecDepth 65536 in
set_option maxHeartbeats 40000000 in
theorem rm_nl5 (l : Launch) (Z : State) (a0 : Array Value) (hw : ∀ d ∈ tables_1, d.before a0 Z = true) (ws : List Jvm.Cond)  (h0 : Heap) (n0 : Nat) (Z0 : n0 ≤ h0.size) :
    MetFree l yn11 (head1 (Jvm.Cond.code yn11 jdk_48_method_27_code 4 (some .int) :: ws) ({ frames := 1, cells := 0, slots := 0, locals := 14 } : Room)) (fun a U => a = #[(.int (5 : Int32)), (.int (1 : Int32)), (.int (7 : Int32))] ∧ Z.Warmed39 U.vm ∧ U.heap = h0) (fun _ _ _ _ _ => True) (fun _ U o U' => ∃ v L, o = .returned v ∧ Qi (12 : Int32) h0 n0 v U'.heap L ∧ FrameEnd U o U' L ({ frames := 1, cells := 0, slots := 0, locals := 14 } : Room).cells ({ frames := 1, cells := 0, slots := 0, locals := 14 } : Room).slots) := by
 refine MetFree.of_bodySF (plainFor_of_name pn_jdk_internal_util_ArraysSupport) hisR ?_
 intro p e s m args below meth c s₁ Bd hml0 hP hK
 obtain ⟨rfl, hZ, hh⟩ := hP
 have hx := Bd.exec
 have hby := Bd.bytes
 have hml : c.maxLocals = 4 := hml0
 have hown : s.vm.findClass "jdk/internal/util/ArraysSupport" = some m.cls := findClass_of_methodNamed Bd.named
 have hnm := (name_of_methodNamed Bd.named Bd.method).1
 have X0 : Stand p l e ({ frames := 1, cells := 0, slots := 0, locals := 14 } : Room) s m #[(.int 5), (.int 1), (.int 7)] below meth c s₁ [] 0 0 := Stand.of_body Bd
 have e0 : s₁.heap = h0 := by rw [← hh, Bd.state]; rfl
 have N0 := Fr.nil n0
 obtain ⟨A0, hA0⟩ : ∃ A, A = s₁.setTop (entryFrame m #[(.int 5), (.int 1), (.int 7)] 4) := ⟨_, rfl⟩
 have R0 : ∀ tgt, Steps p.tables e below (s₁.setTop (mkF m 0 #[.val (.int 5), .val (.int 1), .val (.int 7), .unset] [])) tgt → Steps p.tables e below A0 tgt := fun tgt hgo => by rw [hA0]; exact castTop (ef_rm_nl5 m ) hgo
 have w : ∀ (i : Nat) {d : Jvm.Cond}, tables_1[i]? = some d → d.before a0 Z = true := fun i d h => hw d (List.mem_of_getElem? h)
 have R1 : Rc p e below A0 (s₁.setTop (mkF m 3 #[.val (.int 5), .val (.int 1), .val (.int 7), .unset] [(.int 7), (.int 1), (.int 5)])) := by
   intro tgt hgo
   refine R0 tgt ?_
   show Steps p.tables e below (s₁.setTop (mkF m 0 #[.val (.int 5), .val (.int 1), .val (.int 7), .unset] [])) _
   refine XS.iloadN X0.here hx rfl (hb hby d11_0) rfl ?_
   refine XS.iloadN X0.here hx rfl (hb hby d11_1) rfl ?_
   refine XS.iloadN X0.here hx rfl (hb hby d11_2) rfl ?_
   exact hgo
 obtain ⟨_, _, ⟨T2, L2, k2, n2⟩, -, X2, ⟨Lc2, hQ2, l2, y2, z2⟩, st2⟩ := Jvm.LawKit.callS X0 hx (y := yn7) hown (mvT hZ (w 169 rfl)) (mvT hZ (w 170 rfl)) (mvT hZ (w 171 rfl)) (mvT hZ (w 172 rfl)) (by decide) (backOf (W := 1) (rm_max l Z a0 hw [] (1 : Int32) (7 : Int32) (7 : Int32) h0 n0 Z0 (by decide)) hZ (w 172 rfl) (w 171 rfl) (by decide) (by decide)) (g := (mkF m 3 #[.val (.int 5), .val (.int 1), .val (.int 7), .unset] [(.int 7), (.int 1), (.int 5)])) rfl (by rw [hml]; rfl) (argsL := [(.int 1), (.int 7)]) (rest := [(.int 5)]) (lenOf pd_5 rfl) rfl (by show 2 * 0 + _ ≤ _; exact Nat.le_of_eq rfl) (hb hby d11_3) (fun _ _ => ⟨rfl, e0, (by decide : 0 + 0 ≤ _), (by decide : 0 + 0 ≤ _)⟩)
 dsimp only [Pt.U, Pt.locs, Pt.cells, Pt.slots] at X2 l2 y2 z2 st2 hQ2
 subst l2 y2 z2
 obtain ⟨rfl, N2q, e2⟩ := hQ2
 have N2 := Fr.app N0 N2q
 have R3 := Rc.st R1 st2
 have R4 : Rc p e below A0 (T2.setTop (mkF m 20 #[.val (.int 5), .val (.int 1), .val (.int 7), .val (.int 12)] [(.int 12)])) := by
   intro tgt hgo
   refine R3 tgt ?_
   show Steps p.tables e below (T2.setTop (mkF m 6 #[.val (.int 5), .val (.int 1), .val (.int 7), .unset] [(.int 7), (.int 5)])) _
   refine XS.iadd X2.here hx rfl (hb hby d11_6) rfl ?_
   refine XS.istoreN X2.here hx rfl (hb hby d11_7) rfl (l' := #[.val (.int 5), .val (.int 1), .val (.int 7), .val (.int 12)]) rfl ?_
   refine XS.iconst X2.here hx rfl (hb hby d11_8) ?_
   refine XS.iloadN X2.here hx rfl (hb hby d11_9) rfl ?_
   refine XS.icmpNo X2.here hx rfl (hb hby d11_10) rfl (tlt (by decide : (0 : Int32) < (12 : Int32))).2.1 ?_
   refine XS.iloadN X2.here hx rfl (hb hby d11_13) rfl ?_
   refine X2.ldcInt hx hown (mvT hZ (w 173 rfl)) (g := (mkF m 14 #[.val (.int 5), .val (.int 1), .val (.int 7), .val (.int 12)] [(.int 12)])) rfl (hb hby d11_14) _ ?_
   refine XS.icmpNo X2.here hx rfl (hb hby d11_16) rfl (flt (by decide : ¬ ((2147483639 : Int32) < (12 : Int32)))).2.2.1 ?_
   refine XS.iloadN X2.here hx rfl (hb hby d11_19) rfl ?_
   exact hgo
 subst hA0
 obtain ⟨fs, hr, hrun, hended, hW, hsame⟩ := X2.leave (v := some (.int 12)) (fun h => by rw [Bd.returns] at h; cases h)
 refine ⟨_, _, R4 _ ?_, hrun, hended, _, _, rfl, ?_, ⟨_, rfl⟩, hW, hsame.mono (by decide) (by decide)⟩
 ·show Steps p.tables e below (T2.setTop (mkF m 20 #[.val (.int 5), .val (.int 1), .val (.int 7), .val (.int 12)] [(.int 12)])) _
  exact retI X2 hx Bd.returns (hb hby d11_20) hr
 ·show Qi (12 : Int32) h0 n0 _ T2.heap _
  rw [e2]
  exact ⟨rfl, N2, rfl⟩
theorem ef_rm_nc5 (m : MethodId) (a1 : Addr) : entryFrame m #[(.ref a1), (.int (6 : Int32))] 6 = mkF m 0 #[.val (.ref a1), .val (.int (6 : Int32)), .unset, .unset, .unset, .unset] [] := by first | (simp [entryFrame, mkF, argsToLocals, Value.category]; done) | rfl
set_option maxRecDepth 65536 in
set_option maxHeartbeats 40000000 in
theorem rm_nc5 (l : Launch) (Z : State) (a0 : Array Value) (hw : ∀ d ∈ tables_1, d.before a0 Z = true) (ws : List Jvm.Cond) (a1 : Addr) (b : Addr) (k : ClassId) (bs : List Int32) (h0 : Heap) (n0 : Nat) (Z0 : n0 ≤ h0.size) (E1 : Exa Z h0 a1 "java/lang/StringBuilder") (Fv : Fld Z h0 a1 "java/lang/AbstractStringBuilder" "value" "[B" (.ref b)) (Fc : Fld Z h0 a1 "java/lang/AbstractStringBuilder" "count" "I" (.int (5 : Int32))) (Fd : Fld Z h0 a1 "java/lang/AbstractStringBuilder" "coder" "B" (.int 0)) (V1 : Arv Z h0 b k .byte (5 : Int32) (bs.map Value.int) (.int 0)) (Eb : Exa Z h0 b "[B") (hlen : bs.length = 5) :
    MetFree l yn12 (head1 (Jvm.Cond.code yn12 jdk_68_method_10_code 6 (some .int) :: ws) ({ frames := 2, cells := 0, slots := 0, locals := 29 } : Room)) (fun a U => a = #[(.ref a1), (.int (6 : Int32))] ∧ Z.Warmed39 U.vm ∧ U.heap = h0) (fun _ _ _ _ _ => True) (fun _ U o U' => ∃ v L, o = .returned v ∧ Qi (12 : Int32) h0 n0 v U'.heap L ∧ FrameEnd U o U' L ({ frames := 2, cells := 0, slots := 0, locals := 29 } : Room).cells ({ frames := 2, cells := 0, slots := 0, locals := 29 } : Room).slots) := by
 refine MetFree.of_bodySF (plainFor_of_name pn_java_lang_AbstractStringBuilder) hisR ?_
 intro p e s m args below meth c s₁ Bd hml0 hP hK
 obtain ⟨rfl, hZ, hh⟩ := hP
 have hx := Bd.exec
 have hby := Bd.bytes
 have hml : c.maxLocals = 6 := hml0
 have hown : s.vm.findClass "java/lang/AbstractStringBuilder" = some m.cls := findClass_of_methodNamed Bd.named
 have hnm := (name_of_methodNamed Bd.named Bd.method).1
 have X0 : Stand p l e ({ frames := 2, cells := 0, slots := 0, locals := 29 } : Room) s m #[(.ref a1), (.int 6)] below meth c s₁ [] 0 0 := Stand.of_body Bd
 have e0 : s₁.heap = h0 := by rw [← hh, Bd.state]; rfl
 have N0 := Fr.nil n0
 obtain ⟨A0, hA0⟩ : ∃ A, A = s₁.setTop (entryFrame m #[(.ref a1), (.int 6)] 6) := ⟨_, rfl⟩
 have R0 : ∀ tgt, Steps p.tables e below (s₁.setTop (mkF m 0 #[.val (.ref a1), .val (.int 6), .unset, .unset, .unset, .unset] [])) tgt → Steps p.tables e below A0 tgt := fun tgt hgo => by rw [hA0]; exact castTop (ef_rm_nc5 m a1) hgo
 have w : ∀ (i : Nat) {d : Jvm.Cond}, tables_1[i]? = some d → d.before a0 Z = true := fun i d h => hw d (List.mem_of_getElem? h)
 have R1 : Rc p e below A0 (s₁.setTop (mkF m 1 #[.val (.ref a1), .val (.int 6), .unset, .unset, .unset, .unset] [(.ref a1)])) := by
   intro tgt hgo
   refine R0 tgt ?_
   show Steps p.tables e below (s₁.setTop (mkF m 0 #[.val (.ref a1), .val (.int 6), .unset, .unset, .unset, .unset] [])) _
   refine XS.aloadN X0.here hx rfl (hb hby d12_0) rfl rfl ?_
   exact hgo
 obtain ⟨T2, X2, e2, st2⟩ := getF X0 hx hZ hown (host := "") (Or.inl (w 51 rfl)) Via.refl e0 Fv (g := (mkF m 1 #[.val (.ref a1), .val (.int 6), .unset, .unset, .unset, .unset] [(.ref a1)])) rfl rfl (hb hby d12_1)
 have R3 := Rc.st R1 st2
 obtain ⟨cl4, Ar4, -, S4, Nn4, -, -⟩ := id V1
 have R5 : Rc p e below A0 (T2.setTop (mkF m 5 #[.val (.ref a1), .val (.int 6), .unset, .unset, .unset, .unset] [(.int 5)])) := by
   intro tgt hgo
   refine R3 tgt ?_
   refine X2.arraylength hx (by rw [e2]; exact Ar4.1) (State.isArrayOf_alike hZ.alike Ar4.2.1) (g := (mkF m 4 #[.val (.ref a1), .val (.int 6), .unset, .unset, .unset, .unset] [(.ref b)])) rfl rfl (hb hby d12_4) _ ?_
   rw [len_of S4 Nn4]
   exact hgo
 have R6 : Rc p e below A0 (T2.setTop (mkF m 8 #[.val (.ref a1), .val (.int 6), .val (.int 5), .unset, .unset, .unset] [(.ref a1), (.int 6)])) := by
   intro tgt hgo
   refine R5 tgt ?_
   show Steps p.tables e below (T2.setTop (mkF m 5 #[.val (.ref a1), .val (.int 6), .unset, .unset, .unset, .unset] [(.int 5)])) _
   refine XS.istoreN X2.here hx rfl (hb hby d12_5) rfl (l' := #[.val (.ref a1), .val (.int 6), .val (.int 5), .unset, .unset, .unset]) rfl ?_
   refine XS.iloadN X2.here hx rfl (hb hby d12_6) rfl ?_
   refine XS.aloadN X2.here hx rfl (hb hby d12_7) rfl rfl ?_
   exact hgo
 obtain ⟨T7, X7, e7, st7⟩ := getF X2 hx hZ hown (host := "") (Or.inl (w 53 rfl)) Via.refl e2 Fd (g := (mkF m 8 #[.val (.ref a1), .val (.int 6), .val (.int 5), .unset, .unset, .unset] [(.ref a1), (.int 6)])) rfl rfl (hb hby d12_8)
 have R8 := Rc.st R6 st7
 have R9 : Rc p e below A0 (T7.setTop (mkF m 24 #[.val (.ref a1), .val (.int 6), .val (.int 5), .val (.int 6), .val (.int 1), .unset] [(.ref a1), (.int 2), (.int 5), (.int 1), (.int 5)])) := by
   intro tgt hgo
   refine R8 tgt ?_
   show Steps p.tables e below (T7.setTop (mkF m 11 #[.val (.ref a1), .val (.int 6), .val (.int 5), .unset, .unset, .unset] [(.int 0), (.int 6)])) _
   refine XS.ishl X7.here hx rfl (hb hby d12_11) rfl ?_
   refine XS.istoreN X7.here hx rfl (hb hby d12_12) rfl (l' := #[.val (.ref a1), .val (.int 6), .val (.int 5), .val (.int 6), .unset, .unset]) rfl ?_
   refine XS.iloadN X7.here hx rfl (hb hby d12_13) rfl ?_
   refine XS.iloadN X7.here hx rfl (hb hby d12_14) rfl ?_
   refine XS.isub X7.here hx rfl (hb hby d12_15) rfl ?_
   refine XS.istore X7.here hx rfl (hb hby d12_16) rfl (l' := #[.val (.ref a1), .val (.int 6), .val (.int 5), .val (.int 6), .val (.int 1), .unset]) rfl ?_
   refine XS.iloadN X7.here hx rfl (hb hby d12_18) rfl ?_
   refine XS.iload X7.here hx rfl (hb hby d12_19) rfl ?_
   refine XS.iloadN X7.here hx rfl (hb hby d12_21) rfl ?_
   refine XS.iconst X7.here hx rfl (hb hby d12_22) ?_
   refine XS.aloadN X7.here hx rfl (hb hby d12_23) rfl rfl ?_
   exact hgo
 obtain ⟨T10, X10, e10, st10⟩ := getF X7 hx hZ hown (host := "") (Or.inl (w 53 rfl)) Via.refl e7 Fd (g := (mkF m 24 #[.val (.ref a1), .val (.int 6), .val (.int 5), .val (.int 6), .val (.int 1), .unset] [(.ref a1), (.int 2), (.int 5), (.int 1), (.int 5)])) rfl rfl (hb hby d12_24)
 have R11 := Rc.st R9 st10
 have R12 : Rc p e below A0 (T10.setTop (mkF m 29 #[.val (.ref a1), .val (.int 6), .val (.int 5), .val (.int 6), .val (.int 1), .unset] [(.int 7), (.int 1), (.int 5)])) := by
   intro tgt hgo
   refine R11 tgt ?_
   show Steps p.tables e below (T10.setTop (mkF m 27 #[.val (.ref a1), .val (.int 6), .val (.int 5), .val (.int 6), .val (.int 1), .unset] [(.int 0), (.int 2), (.int 5), (.int 1), (.int 5)])) _
   refine XS.ishl X10.here hx rfl (hb hby d12_27) rfl ?_
   refine XS.iadd X10.here hx rfl (hb hby d12_28) rfl ?_
   exact hgo
 obtain ⟨_, _, ⟨T13, L13, k13, n13⟩, -, X13, ⟨Lc13, hQ13, l13, y13, z13⟩, st13⟩ := Jvm.LawKit.callS X10 hx (y := yn11) hown (mvT hZ (w 165 rfl)) (mvT hZ (w 166 rfl)) (mvT hZ (w 167 rfl)) (mvT hZ (w 168 rfl)) (by decide) (backOf (W := 0) (rm_nl5 l Z a0 hw [] h0 n0 Z0) hZ (w 168 rfl) (w 167 rfl) (by decide) (by decide)) (g := (mkF m 29 #[.val (.ref a1), .val (.int 6), .val (.int 5), .val (.int 6), .val (.int 1), .unset] [(.int 7), (.int 1), (.int 5)])) rfl (by rw [hml]; rfl) (argsL := [(.int 5), (.int 1), (.int 7)]) (rest := []) (lenOf pd_6 rfl) rfl (by show 2 * 0 + _ ≤ _; exact Nat.le_of_eq rfl) (hb hby d12_29) (fun _ _ => ⟨rfl, e10, (by decide : 0 + 0 ≤ _), (by decide : 0 + 0 ≤ _)⟩)
 dsimp only [Pt.U, Pt.locs, Pt.cells, Pt.slots] at X13 l13 y13 z13 st13 hQ13
 subst l13 y13 z13
 obtain ⟨rfl, N13q, e13⟩ := hQ13
 have N13 := Fr.app N0 N13q
 have R14 := Rc.st R12 st13
 have R15 : Rc p e below A0 (T13.setTop (mkF m 54 #[.val (.ref a1), .val (.int 6), .val (.int 5), .val (.int 6), .val (.int 1), .val (.int 12)] [(.ref a1), (.int 12)])) := by
   intro tgt hgo
   refine R14 tgt ?_
   show Steps p.tables e below (T13.setTop (mkF m 32 #[.val (.ref a1), .val (.int 6), .val (.int 5), .val (.int 6), .val (.int 1), .unset] [(.int 12)])) _
   refine XS.istore X13.here hx rfl (hb hby d12_32) rfl (l' := #[.val (.ref a1), .val (.int 6), .val (.int 5), .val (.int 6), .val (.int 1), .val (.int 12)]) rfl ?_
   refine XS.iload X13.here hx rfl (hb hby d12_34) rfl ?_
   refine X13.ldcInt hx hown (mvT hZ (w 174 rfl)) (g := (mkF m 36 #[.val (.ref a1), .val (.int 6), .val (.int 5), .val (.int 6), .val (.int 1), .val (.int 12)] [(.int 12)])) rfl (hb hby d12_36) _ ?_
   refine XS.icmpYes X13.here hx rfl (pc0 := 38) (pc' := 51) rfl (hb hby d12_38) rfl (feq (by decide : ¬ ((12 : Int32) = (2147483647 : Int32)))).2 (by decide) (by decide) ?_
   refine XS.iload X13.here hx rfl (hb hby d12_51) rfl ?_
   refine XS.aloadN X13.here hx rfl (hb hby d12_53) rfl rfl ?_
   exact hgo
 obtain ⟨T16, X16, e16, st16⟩ := getF X13 hx hZ hown (host := "") (Or.inl (w 53 rfl)) Via.refl e13 Fd (g := (mkF m 54 #[.val (.ref a1), .val (.int 6), .val (.int 5), .val (.int 6), .val (.int 1), .val (.int 12)] [(.ref a1), (.int 12)])) rfl rfl (hb hby d12_54)
 have R17 := Rc.st R15 st16
 have R18 : Rc p e below A0 (T16.setTop (mkF m 58 #[.val (.ref a1), .val (.int 6), .val (.int 5), .val (.int 6), .val (.int 1), .val (.int 12)] [(.int 12)])) := by
   intro tgt hgo
   refine R17 tgt ?_
   show Steps p.tables e below (T16.setTop (mkF m 57 #[.val (.ref a1), .val (.int 6), .val (.int 5), .val (.int 6), .val (.int 1), .val (.int 12)] [(.int 0), (.int 12)])) _
   refine XS.ishr X16.here hx rfl (hb hby d12_57) rfl ?_
   exact hgo
 subst hA0
 obtain ⟨fs, hr, hrun, hended, hW, hsame⟩ := X16.leave (v := some (.int 12)) (fun h => by rw [Bd.returns] at h; cases h)
 refine ⟨_, _, R18 _ ?_, hrun, hended, _, _, rfl, ?_, ⟨_, rfl⟩, hW, hsame.mono (by decide) (by decide)⟩
 ·show Steps p.tables e below (T16.setTop (mkF m 58 #[.val (.ref a1), .val (.int 6), .val (.int 5), .val (.int 6), .val (.int 1), .val (.int 12)] [(.int 12)])) _
  exact retI X16 hx Bd.returns (hb hby d12_58) hr
 ·show Qi (12 : Int32) h0 n0 _ T16.heap _
  rw [e16]
  exact ⟨rfl, N13, rfl⟩
def Qg5 (Z : State) (b : Addr) (bs : List Int32) (h0 : Heap) (n0 : Nat) (v : Option Value) (h : Heap) (L : List Loc) : Prop := (∃ t : Addr, v = some (.ref t) ∧ ∃ kt : ClassId, n0 ≤ t ∧ h0.size ≤ t ∧ Arv Z h t kt .byte (12 : Int32) (bs.map Value.int) (.int 0) ∧ Exa Z h t "[B") ∧ Fr n0 L ∧ Keep h0 h []
theorem ef_rm_co5 (m : MethodId) (b : Addr) : entryFrame m #[(.ref b), (.int (12 : Int32))] 3 = mkF m 0 #[.val (.ref b), .val (.int (12 : Int32)), .unset] [] := by first | (simp [entryFrame, mkF, argsToLocals, Value.category]; done) | rfl
set_option maxRecDepth 65536 in
set_option maxHeartbeats 40000000 in
theorem rm_co5 (l : Launch) (Z : State) (a0 : Array Value) (hw : ∀ d ∈ tables_1, d.before a0 Z = true) (ws : List Jvm.Cond) (b : Addr) (k : ClassId) (bs : List Int32) (h0 : Heap) (n0 : Nat) (Z0 : n0 ≤ h0.size) (V1 : Arv Z h0 b k .byte (5 : Int32) (bs.map Value.int) (.int 0)) (Eb : Exa Z h0 b "[B") (hlen : bs.length = 5) :
    MetFree l yn13 (head1 (Jvm.Cond.code yn13 jdk_65_method_121_code 3 (some (.array .byte)) :: ws) ({ frames := 1, cells := 1, slots := 12, locals := 24 } : Room)) (fun a U => a = #[(.ref b), (.int (12 : Int32))] ∧ Z.Warmed39 U.vm ∧ U.heap = h0) (fun _ _ _ _ _ => True) (fun _ U o U' => ∃ v L, o = .returned v ∧ Qg5 Z b bs h0 n0 v U'.heap L ∧ FrameEnd U o U' L ({ frames := 1, cells := 1, slots := 12, locals := 24 } : Room).cells ({ frames := 1, cells := 1, slots := 12, locals := 24 } : Room).slots) := by
 refine MetFree.of_bodySF (plainFor_of_name pn_java_util_Arrays) hisR ?_
 intro p e s m args below meth c s₁ Bd hml0 hP hK
 obtain ⟨rfl, hZ, hh⟩ := hP
 have hx := Bd.exec
 have hby := Bd.bytes
 have hml : c.maxLocals = 3 := hml0
 have hown : s.vm.findClass "java/util/Arrays" = some m.cls := findClass_of_methodNamed Bd.named
 have hnm := (name_of_methodNamed Bd.named Bd.method).1
 have X0 : Stand p l e ({ frames := 1, cells := 1, slots := 12, locals := 24 } : Room) s m #[(.ref b), (.int 12)] below meth c s₁ [] 0 0 := Stand.of_body Bd
 have e0 : s₁.heap = h0 := by rw [← hh, Bd.state]; rfl
 have N0 := Fr.nil n0
 obtain ⟨A0, hA0⟩ : ∃ A, A = s₁.setTop (entryFrame m #[(.ref b), (.int 12)] 3) := ⟨_, rfl⟩
 have R0 : ∀ tgt, Steps p.tables e below (s₁.setTop (mkF m 0 #[.val (.ref b), .val (.int 12), .unset] [])) tgt → Steps p.tables e below A0 tgt := fun tgt hgo => by rw [hA0]; exact castTop (ef_rm_co5 m b) hgo
 have w : ∀ (i : Nat) {d : Jvm.Cond}, tables_1[i]? = some d → d.before a0 Z = true := fun i d h => hw d (List.mem_of_getElem? h)
 have hZn := Z0
 have hK : Keep h0 h0 [] := Keep.refl _ _
 have R1 : Rc p e below A0 (s₁.setTop (mkF m 2 #[.val (.ref b), .val (.int 12), .unset] [(.ref b), (.int 12)])) := by
   intro tgt hgo
   refine R0 tgt ?_
   show Steps p.tables e below (s₁.setTop (mkF m 0 #[.val (.ref b), .val (.int 12), .unset] [])) _
   refine XS.iloadN X0.here hx rfl (hb hby d13_0) rfl ?_
   refine XS.aloadN X0.here hx rfl (hb hby d13_1) rfl rfl ?_
   exact hgo
 obtain ⟨cl2, Ar2, -, S2, Nn2, -, -⟩ := id V1
 have R3 : Rc p e below A0 (s₁.setTop (mkF m 3 #[.val (.ref b), .val (.int 12), .unset] [(.int 5), (.int 12)])) := by
   intro tgt hgo
   refine R1 tgt ?_
   refine X0.arraylength hx (by rw [e0]; exact Ar2.1) (State.isArrayOf_alike hZ.alike Ar2.2.1) (g := (mkF m 2 #[.val (.ref b), .val (.int 12), .unset] [(.ref b), (.int 12)])) rfl rfl (hb hby d13_2) _ ?_
   rw [len_of S2 Nn2]
   exact hgo
 have R4 : Rc p e below A0 (s₁.setTop (mkF m 15 #[.val (.ref b), .val (.int 12), .unset] [(.int 12)])) := by
   intro tgt hgo
   refine R3 tgt ?_
   show Steps p.tables e below (s₁.setTop (mkF m 3 #[.val (.ref b), .val (.int 12), .unset] [(.int 5), (.int 12)])) _
   refine XS.icmpYes X0.here hx rfl (pc0 := 3) (pc' := 14) rfl (hb hby d13_3) rfl (feq (by decide : ¬ ((12 : Int32) = (5 : Int32)))).2 (by decide) (by decide) ?_
   refine XS.iloadN X0.here hx rfl (hb hby d13_14) rfl ?_
   exact hgo
 obtain ⟨T5, h5, k5, X5, e5, E5, A5, B5, st5⟩ := newPE X0 hx hZ (w 15 rfl) e0 (g := (mkF m 15 #[.val (.ref b), .val (.int 12), .unset] [(.int 12)])) rfl (hb hby d13_15) rfl (by decide) (cap := 12) (by decide) (by decide) (by decide) (by decide) (ad := "[B") rfl
 obtain ⟨nb, g5⟩ : ∃ z, z = h0.size := ⟨_, rfl⟩
 rw [← g5] at A5 B5 st5
 have ne_b_nb : b ≠ nb := Nat.ne_of_lt (Nat.lt_of_lt_of_le V1.lt (Nat.le_of_eq g5.symm))
 have ge_nb : n0 ≤ nb := Nat.le_trans hZn (Nat.le_of_eq g5.symm)
 have sz_nb : h0.size ≤ nb := Nat.le_trans hK.1 (Nat.le_of_eq g5.symm)
 replace hZn := Nat.le_trans hZn E5.1
 replace hK := hK.ext E5
 replace V1 := V1.ext E5
 replace Eb := Eb.ext E5
 have E_nb := B5
 have V_nb := Arv.new A5 (by decide)
 have R6 := Rc.st R4 st5
 have R7 : Rc p e below A0 (T5.setTop (mkF m 23 #[.val (.ref b), .val (.int 12), .val (.ref nb)] [(.ref b), (.int 0), (.ref nb), (.int 0), (.ref b)])) := by
   intro tgt hgo
   refine R6 tgt ?_
   show Steps p.tables e below (T5.setTop (mkF m 17 #[.val (.ref b), .val (.int 12), .unset] [(.ref nb)])) _
   refine XS.astoreN X5.here hx rfl (hb hby d13_17) rfl rfl (l' := #[.val (.ref b), .val (.int 12), .val (.ref nb)]) rfl ?_
   refine XS.aloadN X5.here hx rfl (hb hby d13_18) rfl rfl ?_
   refine XS.iconst X5.here hx rfl (hb hby d13_19) ?_
   refine XS.aloadN X5.here hx rfl (hb hby d13_20) rfl rfl ?_
   refine XS.iconst X5.here hx rfl (hb hby d13_21) ?_
   refine XS.aloadN X5.here hx rfl (hb hby d13_22) rfl rfl ?_
   exact hgo
 obtain ⟨cl8, Ar8, -, S8, Nn8, -, -⟩ := id V1
 have R9 : Rc p e below A0 (T5.setTop (mkF m 24 #[.val (.ref b), .val (.int 12), .val (.ref nb)] [(.int 5), (.int 0), (.ref nb), (.int 0), (.ref b)])) := by
   intro tgt hgo
   refine R7 tgt ?_
   refine X5.arraylength hx (by rw [e5]; exact Ar8.1) (State.isArrayOf_alike hZ.alike Ar8.2.1) (g := (mkF m 23 #[.val (.ref b), .val (.int 12), .val (.ref nb)] [(.ref b), (.int 0), (.ref nb), (.int 0), (.ref b)])) rfl rfl (hb hby d13_23) _ ?_
   rw [len_of S8 Nn8]
   exact hgo
 have R10 : Rc p e below A0 (T5.setTop (mkF m 25 #[.val (.ref b), .val (.int 12), .val (.ref nb)] [(.int 12), (.int 5), (.int 0), (.ref nb), (.int 0), (.ref b)])) := by
   intro tgt hgo
   refine R9 tgt ?_
   show Steps p.tables e below (T5.setTop (mkF m 24 #[.val (.ref b), .val (.int 12), .val (.ref nb)] [(.int 5), (.int 0), (.ref nb), (.int 0), (.ref b)])) _
   refine XS.iloadN X5.here hx rfl (hb hby d13_24) rfl ?_
   exact hgo
 obtain ⟨_, _, ⟨T11, L11, k11, n11⟩, -, X11, ⟨Lc11, hQ11, l11, y11, z11⟩, st11⟩ := Jvm.LawKit.callS X5 hx (y := yn8) hown (mvT hZ (w 178 rfl)) (mvT hZ (w 179 rfl)) (mvT hZ (w 171 rfl)) (mvT hZ (w 180 rfl)) (by decide) (backOf (W := 4) (rm_min l Z a0 hw [] (5 : Int32) (12 : Int32) (5 : Int32) h5 n0 hZn (by decide)) hZ (w 180 rfl) (w 171 rfl) (by decide) (by decide)) (g := (mkF m 25 #[.val (.ref b), .val (.int 12), .val (.ref nb)] [(.int 12), (.int 5), (.int 0), (.ref nb), (.int 0), (.ref b)])) rfl (by rw [hml]; rfl) (argsL := [(.int 5), (.int 12)]) (rest := [(.int 0), (.ref nb), (.int 0), (.ref b)]) (lenOf pd_5 rfl) rfl (by show 2 * 0 + _ ≤ _; exact Nat.le_of_eq rfl) (hb hby d13_25) (fun _ _ => ⟨rfl, e5, (by decide : 1 + 0 ≤ _), (by decide : 12 + 0 ≤ _)⟩)
 dsimp only [Pt.U, Pt.locs, Pt.cells, Pt.slots] at X11 l11 y11 z11 st11 hQ11
 subst l11 y11 z11
 obtain ⟨rfl, N11q, e11⟩ := hQ11
 have N11 := Fr.app N0 N11q
 have R12 := Rc.st R10 st11
 obtain ⟨T13, h13, X13, e13, K13, V13, st13⟩ := OwnKit.own_acp X11 hx hZ hown (w 181 rfl) (w 184 rfl) (w 182 rfl) (w 183 rfl) e11 V1 V_nb ne_b_nb (n := 5) (by simp [hlen]) (by decide) (by decide) (by decide) (g := (mkF m 28 #[.val (.ref b), .val (.int 12), .val (.ref nb)] [(.int 5), (.int 0), (.ref nb), (.int 0), (.ref b)])) rfl (by rw [hml]; rfl) (rest := []) rfl (hb hby d13_28) (by decide) (by show 2 * 0 + _ + _ ≤ _; decide +kernel)
 have N13 := OwnKit.own_frc (k := 0) (n := 5) N11 ge_nb
 replace hZn := Nat.le_trans hZn K13.1
 replace hK := hK.trans K13 (allS (Or.inr sz_nb) all0)
 replace V1 := V1.keep K13 (ninS ne_b_nb nin0)
 replace Eb := Eb.keep K13
 replace E_nb := E_nb.keep K13
 have V_nb := V13
 have R14 := Rc.st R12 st13
 have R15 : Rc p e below A0 (T13.setTop (mkF m 32 #[.val (.ref b), .val (.int 12), .val (.ref nb)] [(.ref nb)])) := by
   intro tgt hgo
   refine R14 tgt ?_
   show Steps p.tables e below (T13.setTop (mkF m 31 #[.val (.ref b), .val (.int 12), .val (.ref nb)] [])) _
   refine XS.aloadN X13.here hx rfl (hb hby d13_31) rfl rfl ?_
   exact hgo
 subst hA0
 obtain ⟨fs, hr, hrun, hended, hW, hsame⟩ := X13.leave (v := some (.ref nb)) (fun h => by rw [Bd.returns] at h; cases h)
 refine ⟨_, _, R15 _ ?_, hrun, hended, _, _, rfl, ?_, ⟨_, rfl⟩, hW, hsame.mono (by decide) (by decide)⟩
 ·show Steps p.tables e below (T13.setTop (mkF m 32 #[.val (.ref b), .val (.int 12), .val (.ref nb)] [(.ref nb)])) _
  jvm_step X13.here [X13.here.top, hx, (hb hby d13_32), X13.method', Bd.returns, Value.isRef, FieldType.isReference]
  first | (intro acts; rw [hr _ acts rfl rfl rfl]) | rw [hr _ _ rfl rfl rfl]
  exact Steps.refl _
 ·show Qg5 Z b bs h0 n0 _ T13.heap _
  rw [e13]
  exact ⟨⟨nb, rfl, _, ge_nb, sz_nb, V_nb, E_nb⟩, N13, hK⟩
abbrev yn14 : MethodName := ⟨"java/lang/AbstractStringBuilder", "ensureCapacityInternal", "(I)V"⟩
theorem ef_rm_ens0 (m : MethodId) (a1 : Addr) (p2 : Int32) : entryFrame m #[(.ref a1), (.int p2)] 3 = mkF m 0 #[.val (.ref a1), .val (.int p2), .unset] [] := by first | (simp [entryFrame, mkF, argsToLocals, Value.category]; done) | rfl
theorem d14_0 : decode jdk_68_method_9_code 0 = .ok (.aload_n 0, 1) := by decide +kernel
theorem d14_1 : decode jdk_68_method_9_code 1 = .ok (.getfield 15, 3) := by decide +kernel
theorem d14_4 : decode jdk_68_method_9_code 4 = .ok (.arraylength, 1) := by decide +kernel
theorem d14_5 : decode jdk_68_method_9_code 5 = .ok (.aload_n 0, 1) := by decide +kernel
theorem d14_6 : decode jdk_68_method_9_code 6 = .ok (.getfield 22, 3) := by decide +kernel
theorem d14_9 : decode jdk_68_method_9_code 9 = .ok (.ishr, 1) := by decide +kernel
theorem d14_10 : decode jdk_68_method_9_code 10 = .ok (.istore_n 2, 1) := by decide +kernel
theorem d14_11 : decode jdk_68_method_9_code 11 = .ok (.iload_n 1, 1) := by decide +kernel
theorem d14_12 : decode jdk_68_method_9_code 12 = .ok (.iload_n 2, 1) := by decide +kernel
theorem d14_13 : decode jdk_68_method_9_code 13 = .ok (.isub, 1) := by decide +kernel
theorem d14_14 : decode jdk_68_method_9_code 14 = .ok (.ifCond .le 24, 3) := by decide +kernel
theorem d14_38 : decode jdk_68_method_9_code 38 = .ok (.return_, 1) := by decide +kernel
set_option maxRecDepth 65536 in
set_option maxHeartbeats 40000000 in
theorem rm_ens0 (l : Launch) (Z : State) (a0 : Array Value) (hw : ∀ d ∈ tables_1, d.before a0 Z = true) (ws : List Jvm.Cond) (a1 : Addr) (p2 : Int32) (b : Addr) (k : ClassId) (N : Nat) (bs : List Int32) (h0 : Heap) (n0 : Nat) (Z0 : n0 ≤ h0.size) (Fv : Fld Z h0 a1 "java/lang/AbstractStringBuilder" "value" "[B" (.ref b)) (Fd : Fld Z h0 a1 "java/lang/AbstractStringBuilder" "coder" "B" (.int 0)) (V1 : Arv Z h0 b k .byte (Int32.ofNat N) (bs.map Value.int) (.int 0)) (hle : ¬ ((0 : Int32) < p2 - Int32.ofNat N)) :
    MetFree l yn14 (head1 (Jvm.Cond.code yn14 jdk_68_method_9_code 3 none :: ws) ({ frames := 0, cells := 0, slots := 0, locals := 0 } : Room)) (fun a U => a = #[(.ref a1), (.int p2)] ∧ Z.Warmed39 U.vm ∧ U.heap = h0) (fun _ _ _ _ _ => True) (fun _ U o U' => ∃ v L, o = .returned v ∧ Qn h0 n0 v U'.heap L ∧ FrameEnd U o U' L ({ frames := 0, cells := 0, slots := 0, locals := 0 } : Room).cells ({ frames := 0, cells := 0, slots := 0, locals := 0 } : Room).slots) := by
 refine MetFree.of_bodySF (plainFor_of_name pn_java_lang_AbstractStringBuilder) hisR ?_
 intro p e s m args below meth c s₁ Bd hml0 hP hK
 obtain ⟨rfl, hZ, hh⟩ := hP
 have hx := Bd.exec
 have hby := Bd.bytes
 have hml : c.maxLocals = 3 := hml0
 have hown : s.vm.findClass "java/lang/AbstractStringBuilder" = some m.cls := findClass_of_methodNamed Bd.named
 have hnm := (name_of_methodNamed Bd.named Bd.method).1
 have X0 : Stand p l e ({ frames := 0, cells := 0, slots := 0, locals := 0 } : Room) s m #[(.ref a1), (.int p2)] below meth c s₁ [] 0 0 := Stand.of_body Bd
 have e0 : s₁.heap = h0 := by rw [← hh, Bd.state]; rfl
 have N0 := Fr.nil n0
 obtain ⟨A0, hA0⟩ : ∃ A, A = s₁.setTop (entryFrame m #[(.ref a1), (.int p2)] 3) := ⟨_, rfl⟩
 have R0 : ∀ tgt, Steps p.tables e below (s₁.setTop (mkF m 0 #[.val (.ref a1), .val (.int p2), .unset] [])) tgt → Steps p.tables e below A0 tgt := fun tgt hgo => by rw [hA0]; exact castTop (ef_rm_ens0 m a1 p2) hgo
 have w : ∀ (i : Nat) {d : Jvm.Cond}, tables_1[i]? = some d → d.before a0 Z = true := fun i d h => hw d (List.mem_of_getElem? h)
 have R1 : Rc p e below A0 (s₁.setTop (mkF m 1 #[.val (.ref a1), .val (.int p2), .unset] [(.ref a1)])) := by
   intro tgt hgo
   refine R0 tgt ?_
   show Steps p.tables e below (s₁.setTop (mkF m 0 #[.val (.ref a1), .val (.int p2), .unset] [])) _
   refine XS.aloadN X0.here hx rfl (hb hby d14_0) rfl rfl ?_
   exact hgo
 obtain ⟨T2, X2, e2, st2⟩ := getF X0 hx hZ hown (host := "") (Or.inl (w 51 rfl)) Via.refl e0 Fv (g := (mkF m 1 #[.val (.ref a1), .val (.int p2), .unset] [(.ref a1)])) rfl rfl (hb hby d14_1)
 have R3 := Rc.st R1 st2
 obtain ⟨cl4, Ar4, -, S4, Nn4, -, -⟩ := id V1
 have R5 : Rc p e below A0 (T2.setTop (mkF m 5 #[.val (.ref a1), .val (.int p2), .unset] [(.int (Int32.ofNat N))])) := by
   intro tgt hgo
   refine R3 tgt ?_
   refine X2.arraylength hx (by rw [e2]; exact Ar4.1) (State.isArrayOf_alike hZ.alike Ar4.2.1) (g := (mkF m 4 #[.val (.ref a1), .val (.int p2), .unset] [(.ref b)])) rfl rfl (hb hby d14_4) _ ?_
   rw [len_of S4 Nn4]
   exact hgo
 have R6 : Rc p e below A0 (T2.setTop (mkF m 6 #[.val (.ref a1), .val (.int p2), .unset] [(.ref a1), (.int (Int32.ofNat N))])) := by
   intro tgt hgo
   refine R5 tgt ?_
   show Steps p.tables e below (T2.setTop (mkF m 5 #[.val (.ref a1), .val (.int p2), .unset] [(.int (Int32.ofNat N))])) _
   refine XS.aloadN X2.here hx rfl (hb hby d14_5) rfl rfl ?_
   exact hgo
 obtain ⟨T7, X7, e7, st7⟩ := getF X2 hx hZ hown (host := "") (Or.inl (w 53 rfl)) Via.refl e2 Fd (g := (mkF m 6 #[.val (.ref a1), .val (.int p2), .unset] [(.ref a1), (.int (Int32.ofNat N))])) rfl rfl (hb hby d14_6)
 have R8 := Rc.st R6 st7
 have R9 : Rc p e below A0 (T7.setTop (mkF m 38 #[.val (.ref a1), .val (.int p2), .val (.int ((Int32.ofNat N) >>> ((0 : Int32) &&& 31)))] [])) := by
   intro tgt hgo
   refine R8 tgt ?_
   show Steps p.tables e below (T7.setTop (mkF m 9 #[.val (.ref a1), .val (.int p2), .unset] [(.int 0), (.int (Int32.ofNat N))])) _
   refine XS.ishr X7.here hx rfl (hb hby d14_9) rfl ?_
   refine XS.istoreN X7.here hx rfl (hb hby d14_10) rfl (l' := #[.val (.ref a1), .val (.int p2), .val (.int ((Int32.ofNat N) >>> ((0 : Int32) &&& 31)))]) rfl ?_
   refine XS.iloadN X7.here hx rfl (hb hby d14_11) rfl ?_
   refine XS.iloadN X7.here hx rfl (hb hby d14_12) rfl ?_
   refine XS.isub X7.here hx rfl (hb hby d14_13) rfl ?_
   refine XS.ifYes X7.here hx rfl (pc0 := 14) (pc' := 38) rfl (hb hby d14_14) rfl ((if0 _ _).trans (flt (by rw [own_shr0]; exact hle : ¬ ((0 : Int32) < (p2 - ((Int32.ofNat N) >>> ((0 : Int32) &&& 31)))))).2.2.2) (by decide) (by decide) ?_
   exact hgo
 subst hA0
 obtain ⟨fs, hr, hrun, hended, hW, hsame⟩ := X7.leave (v := none) (fun _ => rfl)
 refine ⟨_, _, R9 _ ?_, hrun, hended, _, _, rfl, ?_, ⟨_, rfl⟩, hW, hsame.mono (by decide) (by decide)⟩
 ·show Steps p.tables e below (T7.setTop (mkF m 38 #[.val (.ref a1), .val (.int p2), .val (.int ((Int32.ofNat N) >>> ((0 : Int32) &&& 31)))] [])) _
  exact X7.returnOut hx Bd.returns (hb hby d14_38) hr
 ·show Qn h0 n0 _ T7.heap _
  rw [e7]
  exact ⟨rfl, N0, rfl⟩
theorem own_noGrow {n N : Nat} (h : n < N) (hN : N ≤ 12) : ¬ ((0 : Int32) < Int32.ofNat n + 1 - Int32.ofNat N) := by
  rw [own_succ, Int32.lt_iff_toInt_lt, Int32.toInt_zero, Jvm.Kit.i32_sub (by rw [own_nat (by omega), own_nat (by omega)]; omega) (by rw [own_nat (by omega), own_nat (by omega)]; omega), own_nat (by omega), own_nat (by omega)]; omega
def own_cap (n N : Nat) : Nat := if n < N then N else 2 * N + 2
def Qap (Z : State) (a1 b : Addr) (N : Nat) (ch : Int32) (bs : List Int32) (h0 : Heap) (n0 : Nat) (v : Option Value) (h : Heap) (L : List Loc) : Prop := v = some (.ref a1) ∧ Fr n0 L ∧ Keep h0 h [a1, b] ∧ ∃ (b' : Addr) (k' : ClassId), SBd Z h n0 a1 b' k' (own_cap bs.length N) (bs ++ [own_b ch]) ∧ (b' = b ∨ h0.size ≤ b')
def Qe3 (Z : State) (a1 : Addr) (bs : List Int32) (h0 : Heap) (n0 : Nat) (v : Option Value) (h : Heap) (L : List Loc) : Prop := v = none ∧ Fr n0 L ∧ Keep h0 h [a1] ∧ ∃ (t : Addr) (kt : ClassId), n0 ≤ t ∧ h0.size ≤ t ∧ a1 ≠ t ∧ Fld Z h a1 "java/lang/AbstractStringBuilder" "value" "[B" (.ref t) ∧ Fld Z h a1 "java/lang/AbstractStringBuilder" "count" "I" (.int (3 : Int32)) ∧ Fld Z h a1 "java/lang/AbstractStringBuilder" "coder" "B" (.int 0) ∧ Arv Z h t kt .byte (8 : Int32) (bs.map Value.int) (.int 0) ∧ Exa Z h t "[B"
theorem ef_rm_ens3 (m : MethodId) (a1 : Addr) : entryFrame m #[(.ref a1), (.int (4 : Int32))] 3 = mkF m 0 #[.val (.ref a1), .val (.int (4 : Int32)), .unset] [] := by first | (simp [entryFrame, mkF, argsToLocals, Value.category]; done) | rfl
theorem d14_17 : decode jdk_68_method_9_code 17 = .ok (.aload_n 0, 1) := by decide +kernel
theorem d14_18 : decode jdk_68_method_9_code 18 = .ok (.aload_n 0, 1) := by decide +kernel
theorem d14_19 : decode jdk_68_method_9_code 19 = .ok (.getfield 15, 3) := by decide +kernel
theorem d14_22 : decode jdk_68_method_9_code 22 = .ok (.aload_n 0, 1) := by decide +kernel
theorem d14_23 : decode jdk_68_method_9_code 23 = .ok (.iload_n 1, 1) := by decide +kernel
theorem d14_24 : decode jdk_68_method_9_code 24 = .ok (.invokevirtual 104, 3) := by decide +kernel
theorem pd_7 : parseMethodDescriptor "(I)I" = some ⟨[.int], some .int⟩ := by decide +kernel
theorem d14_27 : decode jdk_68_method_9_code 27 = .ok (.aload_n 0, 1) := by decide +kernel
theorem d14_28 : decode jdk_68_method_9_code 28 = .ok (.getfield 22, 3) := by decide +kernel
theorem d14_31 : decode jdk_68_method_9_code 31 = .ok (.ishl, 1) := by decide +kernel
theorem d14_32 : decode jdk_68_method_9_code 32 = .ok (.invokestatic 108, 3) := by decide +kernel
theorem pd_8 : parseMethodDescriptor "([BI)[B" = some ⟨[(.array .byte), .int], some (.array .byte)⟩ := by decide +kernel
theorem d14_35 : decode jdk_68_method_9_code 35 = .ok (.putfield 15, 3) := by decide +kernel
set_option maxRecDepth 65536 in
set_option maxHeartbeats 40000000 in
theorem rm_ens3 (l : Launch) (Z : State) (a0 : Array Value) (hw : ∀ d ∈ tables_1, d.before a0 Z = true) (ws : List Jvm.Cond) (a1 : Addr) (b : Addr) (k : ClassId) (bs : List Int32) (h0 : Heap) (n0 : Nat) (Z0 : n0 ≤ h0.size) (E1 : Exa Z h0 a1 "java/lang/StringBuilder") (Fv : Fld Z h0 a1 "java/lang/AbstractStringBuilder" "value" "[B" (.ref b)) (Fc : Fld Z h0 a1 "java/lang/AbstractStringBuilder" "count" "I" (.int (3 : Int32))) (Fd : Fld Z h0 a1 "java/lang/AbstractStringBuilder" "coder" "B" (.int 0)) (V1 : Arv Z h0 b k .byte (3 : Int32) (bs.map Value.int) (.int 0)) (Eb : Exa Z h0 b "[B") (hlen : bs.length = 3) (ge1 : n0 ≤ a1) (hne : a1 ≠ b) :
    MetFree l yn14 (head1 (Jvm.Cond.code yn14 jdk_68_method_9_code 3 none :: ws) ({ frames := 3, cells := 1, slots := 8, locals := 48 } : Room)) (fun a U => a = #[(.ref a1), (.int (4 : Int32))] ∧ Z.Warmed39 U.vm ∧ U.heap = h0) (fun _ _ _ _ _ => True) (fun _ U o U' => ∃ v L, o = .returned v ∧ Qe3 Z a1 bs h0 n0 v U'.heap L ∧ FrameEnd U o U' L ({ frames := 3, cells := 1, slots := 8, locals := 48 } : Room).cells ({ frames := 3, cells := 1, slots := 8, locals := 48 } : Room).slots) := by
 refine MetFree.of_bodySF (plainFor_of_name pn_java_lang_AbstractStringBuilder) hisR ?_
 intro p e s m args below meth c s₁ Bd hml0 hP hK
 obtain ⟨rfl, hZ, hh⟩ := hP
 have hx := Bd.exec
 have hby := Bd.bytes
 have hml : c.maxLocals = 3 := hml0
 have hown : s.vm.findClass "java/lang/AbstractStringBuilder" = some m.cls := findClass_of_methodNamed Bd.named
 have hnm := (name_of_methodNamed Bd.named Bd.method).1
 have X0 : Stand p l e ({ frames := 3, cells := 1, slots := 8, locals := 48 } : Room) s m #[(.ref a1), (.int 4)] below meth c s₁ [] 0 0 := Stand.of_body Bd
 have e0 : s₁.heap = h0 := by rw [← hh, Bd.state]; rfl
 have N0 := Fr.nil n0
 obtain ⟨A0, hA0⟩ : ∃ A, A = s₁.setTop (entryFrame m #[(.ref a1), (.int 4)] 3) := ⟨_, rfl⟩
 have R0 : ∀ tgt, Steps p.tables e below (s₁.setTop (mkF m 0 #[.val (.ref a1), .val (.int 4), .unset] [])) tgt → Steps p.tables e below A0 tgt := fun tgt hgo => by rw [hA0]; exact castTop (ef_rm_ens3 m a1) hgo
 have w : ∀ (i : Nat) {d : Jvm.Cond}, tables_1[i]? = some d → d.before a0 Z = true := fun i d h => hw d (List.mem_of_getElem? h)
 have hZn := Z0
 have hK : Keep h0 h0 [a1] := Keep.refl _ _
 have R1 : Rc p e below A0 (s₁.setTop (mkF m 1 #[.val (.ref a1), .val (.int 4), .unset] [(.ref a1)])) := by
   intro tgt hgo
   refine R0 tgt ?_
   show Steps p.tables e below (s₁.setTop (mkF m 0 #[.val (.ref a1), .val (.int 4), .unset] [])) _
   refine XS.aloadN X0.here hx rfl (hb hby d14_0) rfl rfl ?_
   exact hgo
 obtain ⟨T2, X2, e2, st2⟩ := getF X0 hx hZ hown (host := "") (Or.inl (w 51 rfl)) Via.refl e0 Fv (g := (mkF m 1 #[.val (.ref a1), .val (.int 4), .unset] [(.ref a1)])) rfl rfl (hb hby d14_1)
 have R3 := Rc.st R1 st2
 obtain ⟨cl4, Ar4, -, S4, Nn4, -, -⟩ := id V1
 have R5 : Rc p e below A0 (T2.setTop (mkF m 5 #[.val (.ref a1), .val (.int 4), .unset] [(.int 3)])) := by
   intro tgt hgo
   refine R3 tgt ?_
   refine X2.arraylength hx (by rw [e2]; exact Ar4.1) (State.isArrayOf_alike hZ.alike Ar4.2.1) (g := (mkF m 4 #[.val (.ref a1), .val (.int 4), .unset] [(.ref b)])) rfl rfl (hb hby d14_4) _ ?_
   rw [len_of S4 Nn4]
   exact hgo
 have R6 : Rc p e below A0 (T2.setTop (mkF m 6 #[.val (.ref a1), .val (.int 4), .unset] [(.ref a1), (.int 3)])) := by
   intro tgt hgo
   refine R5 tgt ?_
   show Steps p.tables e below (T2.setTop (mkF m 5 #[.val (.ref a1), .val (.int 4), .unset] [(.int 3)])) _
   refine XS.aloadN X2.here hx rfl (hb hby d14_5) rfl rfl ?_
   exact hgo
 obtain ⟨T7, X7, e7, st7⟩ := getF X2 hx hZ hown (host := "") (Or.inl (w 53 rfl)) Via.refl e2 Fd (g := (mkF m 6 #[.val (.ref a1), .val (.int 4), .unset] [(.ref a1), (.int 3)])) rfl rfl (hb hby d14_6)
 have R8 := Rc.st R6 st7
 have R9 : Rc p e below A0 (T7.setTop (mkF m 19 #[.val (.ref a1), .val (.int 4), .val (.int 3)] [(.ref a1), (.ref a1)])) := by
   intro tgt hgo
   refine R8 tgt ?_
   show Steps p.tables e below (T7.setTop (mkF m 9 #[.val (.ref a1), .val (.int 4), .unset] [(.int 0), (.int 3)])) _
   refine XS.ishr X7.here hx rfl (hb hby d14_9) rfl ?_
   refine XS.istoreN X7.here hx rfl (hb hby d14_10) rfl (l' := #[.val (.ref a1), .val (.int 4), .val (.int 3)]) rfl ?_
   refine XS.iloadN X7.here hx rfl (hb hby d14_11) rfl ?_
   refine XS.iloadN X7.here hx rfl (hb hby d14_12) rfl ?_
   refine XS.isub X7.here hx rfl (hb hby d14_13) rfl ?_
   refine XS.ifNo X7.here hx rfl (hb hby d14_14) rfl ((if0 _ _).trans (tlt (by decide : (0 : Int32) < (1 : Int32))).2.2.2) ?_
   refine XS.aloadN X7.here hx rfl (hb hby d14_17) rfl rfl ?_
   refine XS.aloadN X7.here hx rfl (hb hby d14_18) rfl rfl ?_
   exact hgo
 obtain ⟨T10, X10, e10, st10⟩ := getF X7 hx hZ hown (host := "") (Or.inl (w 51 rfl)) Via.refl e7 Fv (g := (mkF m 19 #[.val (.ref a1), .val (.int 4), .val (.int 3)] [(.ref a1), (.ref a1)])) rfl rfl (hb hby d14_19)
 have R11 := Rc.st R9 st10
 have R12 : Rc p e below A0 (T10.setTop (mkF m 24 #[.val (.ref a1), .val (.int 4), .val (.int 3)] [(.int 4), (.ref a1), (.ref b), (.ref a1)])) := by
   intro tgt hgo
   refine R11 tgt ?_
   show Steps p.tables e below (T10.setTop (mkF m 22 #[.val (.ref a1), .val (.int 4), .val (.int 3)] [(.ref b), (.ref a1)])) _
   refine XS.aloadN X10.here hx rfl (hb hby d14_22) rfl rfl ?_
   refine XS.iloadN X10.here hx rfl (hb hby d14_23) rfl ?_
   exact hgo
 obtain ⟨cq13, kq13, q13a, q13b, q13c⟩ := isOf hZ e10 E1
 obtain ⟨_, _, ⟨T13, L13, k13, n13⟩, -, X13, ⟨Lc13, hQ13, l13, y13, z13⟩, st13⟩ := X10.virtualBack hx (y := yn12) (z := yn12) hown (mvT hZ (w 160 rfl)) (mvT hZ (OwnKit.own_decl (w 161 rfl) (w 164 rfl))) (notFace_of_selects (args := #[]) (mvT hZ (w 163 rfl))) (mvT hZ (w 163 rfl)) (mvT hZ (w 161 rfl)) (by decide) (backOf (W := 2) (rm_nc3 l Z a0 hw [] a1 b k bs h0 n0 Z0 E1 Fv Fc Fd V1 Eb hlen) hZ (w 164 rfl) (w 47 rfl) (by decide) (by decide)) q13a q13c (g := (mkF m 24 #[.val (.ref a1), .val (.int 4), .val (.int 3)] [(.int 4), (.ref a1), (.ref b), (.ref a1)])) rfl (by rw [hml]; rfl) (Steps.refl _) (argsL := [(.int 4)]) (rest := [(.ref b), (.ref a1)]) (lenOf pd_7 rfl) rfl (by show 2 * 0 + _ ≤ _; exact Nat.le_of_eq rfl) (hb hby d14_24) (fun _ _ => ⟨rfl, e10, (by decide : 0 + 0 ≤ _), (by decide : 0 + 0 ≤ _)⟩)
 dsimp only [Pt.U, Pt.locs, Pt.cells, Pt.slots] at X13 l13 y13 z13 st13 hQ13
 subst l13 y13 z13
 obtain ⟨rfl, N13q, e13⟩ := hQ13
 have N13 := Fr.app N0 N13q
 have R14 := Rc.tr R12 st13
 have R15 : Rc p e below A0 (T13.setTop (mkF m 28 #[.val (.ref a1), .val (.int 4), .val (.int 3)] [(.ref a1), (.int 8), (.ref b), (.ref a1)])) := by
   intro tgt hgo
   refine R14 tgt ?_
   show Steps p.tables e below (T13.setTop (mkF m 27 #[.val (.ref a1), .val (.int 4), .val (.int 3)] [(.int 8), (.ref b), (.ref a1)])) _
   refine XS.aloadN X13.here hx rfl (hb hby d14_27) rfl rfl ?_
   exact hgo
 obtain ⟨T16, X16, e16, st16⟩ := getF X13 hx hZ hown (host := "") (Or.inl (w 53 rfl)) Via.refl e13 Fd (g := (mkF m 28 #[.val (.ref a1), .val (.int 4), .val (.int 3)] [(.ref a1), (.int 8), (.ref b), (.ref a1)])) rfl rfl (hb hby d14_28)
 have R17 := Rc.st R15 st16
 have R18 : Rc p e below A0 (T16.setTop (mkF m 32 #[.val (.ref a1), .val (.int 4), .val (.int 3)] [(.int 8), (.ref b), (.ref a1)])) := by
   intro tgt hgo
   refine R17 tgt ?_
   show Steps p.tables e below (T16.setTop (mkF m 31 #[.val (.ref a1), .val (.int 4), .val (.int 3)] [(.int 0), (.int 8), (.ref b), (.ref a1)])) _
   refine XS.ishl X16.here hx rfl (hb hby d14_31) rfl ?_
   exact hgo
 obtain ⟨_, _, ⟨T19, L19, k19, n19⟩, -, X19, ⟨Lc19, hQ19, l19, y19, z19⟩, st19⟩ := Jvm.LawKit.callS X16 hx (y := yn13) hown (mvT hZ (w 175 rfl)) (mvT hZ (w 176 rfl)) (mvT hZ (w 109 rfl)) (mvT hZ (w 177 rfl)) (by decide) (backOf (W := 1) (rm_co3 l Z a0 hw [] b k bs h0 n0 hZn V1 Eb hlen) hZ (w 177 rfl) (w 109 rfl) (by decide) (by decide)) (g := (mkF m 32 #[.val (.ref a1), .val (.int 4), .val (.int 3)] [(.int 8), (.ref b), (.ref a1)])) rfl (by rw [hml]; rfl) (argsL := [(.ref b), (.int 8)]) (rest := [(.ref a1)]) (lenOf pd_8 rfl) rfl (by show 2 * 0 + _ ≤ _; exact Nat.le_of_eq rfl) (hb hby d14_32) (fun _ _ => ⟨rfl, e16, (by decide : 0 + 1 ≤ _), (by decide : 0 + 8 ≤ _)⟩)
 dsimp only [Pt.U, Pt.locs, Pt.cells, Pt.slots] at X19 l19 y19 z19 st19 hQ19
 subst l19 y19 z19
 obtain ⟨⟨t19, rfl, kt19, ge_t19, sz_t19, v19, x19⟩, N19q, K19⟩ := hQ19
 have N19 := Fr.app N13 N19q
 have R20 := Rc.st R18 st19
 have ne_a1_t : a1 ≠ t19 := Nat.ne_of_lt (Nat.lt_of_lt_of_le E1.lt sz_t19)
 replace hZn := Nat.le_trans hZn K19.1
 replace hK := hK.trans K19 all0
 replace E1 := E1.keep K19
 replace Fv := Fv.keep K19 nin0
 replace Fc := Fc.keep K19 nin0
 replace Fd := Fd.keep K19 nin0
 replace V1 := V1.keep K19 nin0
 replace Eb := Eb.keep K19
 have Vt := v19
 have Et := x19
 obtain ⟨T21, h21, X21, e21, W21, st21⟩ := putF X19 hx hZ hown (host := "") (Or.inl (w 51 rfl)) Via.refl rfl Fv E1 (Or.inl (w 52 rfl)) (w 27 rfl) (ty := (.array .byte)) (by decide) rfl rfl (g := (mkF m 35 #[.val (.ref a1), .val (.int 4), .val (.int 3)] [(.ref t19), (.ref a1)])) rfl rfl (hb hby d14_35)
 have N21 := Fr.snoc X21 N19 ge1
 replace hZn := Nat.le_trans hZn (Keep.of_wr W21).1
 replace hK := hK.wr W21 (Or.inl (List.mem_of_getElem? (i := 0) rfl))
 replace E1 := E1.wr W21
 replace Fv := Fv.same W21
 replace Fc := Fc.other W21 (Or.inr (slot_ne (Or.inl (w 66 rfl)) (Or.inl (w 52 rfl)) (by decide) (t := .int) (t' := (.array .byte)) (by decide) (by decide)))
 replace Fd := Fd.other W21 (Or.inr (slot_ne (Or.inl (w 54 rfl)) (Or.inl (w 52 rfl)) (by decide) (t := .byte) (t' := (.array .byte)) (by decide) (by decide)))
 replace V1 := V1.other W21 (Ne.symm hne)
 replace Eb := Eb.wr W21
 replace Vt := Vt.other W21 (Ne.symm ne_a1_t)
 replace Et := Et.wr W21
 have R22 := Rc.st R20 st21
 subst hA0
 obtain ⟨fs, hr, hrun, hended, hW, hsame⟩ := X21.leave (v := none) (fun _ => rfl)
 refine ⟨_, _, R22 _ ?_, hrun, hended, _, _, rfl, ?_, ⟨_, rfl⟩, hW, hsame.mono (by decide) (by decide)⟩
 ·show Steps p.tables e below (T21.setTop (mkF m 38 #[.val (.ref a1), .val (.int 4), .val (.int 3)] [])) _
  exact X21.returnOut hx Bd.returns (hb hby d14_38) hr
 ·show Qe3 Z a1 bs h0 n0 _ T21.heap _
  rw [e21]
  exact ⟨rfl, N21, hK, t19, kt19, ge_t19, sz_t19, ne_a1_t, Fv, Fc, Fd, Vt, Et⟩
def Qe4 (Z : State) (a1 : Addr) (bs : List Int32) (h0 : Heap) (n0 : Nat) (v : Option Value) (h : Heap) (L : List Loc) : Prop := v = none ∧ Fr n0 L ∧ Keep h0 h [a1] ∧ ∃ (t : Addr) (kt : ClassId), n0 ≤ t ∧ h0.size ≤ t ∧ a1 ≠ t ∧ Fld Z h a1 "java/lang/AbstractStringBuilder" "value" "[B" (.ref t) ∧ Fld Z h a1 "java/lang/AbstractStringBuilder" "count" "I" (.int (4 : Int32)) ∧ Fld Z h a1 "java/lang/AbstractStringBuilder" "coder" "B" (.int 0) ∧ Arv Z h t kt .byte (10 : Int32) (bs.map Value.int) (.int 0) ∧ Exa Z h t "[B"
theorem ef_rm_ens4 (m : MethodId) (a1 : Addr) : entryFrame m #[(.ref a1), (.int (5 : Int32))] 3 = mkF m 0 #[.val (.ref a1), .val (.int (5 : Int32)), .unset] [] := by first | (simp [entryFrame, mkF, argsToLocals, Value.category]; done) | rfl
set_option maxRecDepth 65536 in
set_option maxHeartbeats 40000000 in
theorem rm_ens4 (l : Launch) (Z : State) (a0 : Array Value) (hw : ∀ d ∈ tables_1, d.before a0 Z = true) (ws : List Jvm.Cond) (a1 : Addr) (b : Addr) (k : ClassId) (bs : List Int32) (h0 : Heap) (n0 : Nat) (Z0 : n0 ≤ h0.size) (E1 : Exa Z h0 a1 "java/lang/StringBuilder") (Fv : Fld Z h0 a1 "java/lang/AbstractStringBuilder" "value" "[B" (.ref b)) (Fc : Fld Z h0 a1 "java/lang/AbstractStringBuilder" "count" "I" (.int (4 : Int32))) (Fd : Fld Z h0 a1 "java/lang/AbstractStringBuilder" "coder" "B" (.int 0)) (V1 : Arv Z h0 b k .byte (4 : Int32) (bs.map Value.int) (.int 0)) (Eb : Exa Z h0 b "[B") (hlen : bs.length = 4) (ge1 : n0 ≤ a1) (hne : a1 ≠ b) :
    MetFree l yn14 (head1 (Jvm.Cond.code yn14 jdk_68_method_9_code 3 none :: ws) ({ frames := 3, cells := 1, slots := 10, locals := 48 } : Room)) (fun a U => a = #[(.ref a1), (.int (5 : Int32))] ∧ Z.Warmed39 U.vm ∧ U.heap = h0) (fun _ _ _ _ _ => True) (fun _ U o U' => ∃ v L, o = .returned v ∧ Qe4 Z a1 bs h0 n0 v U'.heap L ∧ FrameEnd U o U' L ({ frames := 3, cells := 1, slots := 10, locals := 48 } : Room).cells ({ frames := 3, cells := 1, slots := 10, locals := 48 } : Room).slots) := by
 refine MetFree.of_bodySF (plainFor_of_name pn_java_lang_AbstractStringBuilder) hisR ?_
 intro p e s m args below meth c s₁ Bd hml0 hP hK
 obtain ⟨rfl, hZ, hh⟩ := hP
 have hx := Bd.exec
 have hby := Bd.bytes
 have hml : c.maxLocals = 3 := hml0
 have hown : s.vm.findClass "java/lang/AbstractStringBuilder" = some m.cls := findClass_of_methodNamed Bd.named
 have hnm := (name_of_methodNamed Bd.named Bd.method).1
 have X0 : Stand p l e ({ frames := 3, cells := 1, slots := 10, locals := 48 } : Room) s m #[(.ref a1), (.int 5)] below meth c s₁ [] 0 0 := Stand.of_body Bd
 have e0 : s₁.heap = h0 := by rw [← hh, Bd.state]; rfl
 have N0 := Fr.nil n0
 obtain ⟨A0, hA0⟩ : ∃ A, A = s₁.setTop (entryFrame m #[(.ref a1), (.int 5)] 3) := ⟨_, rfl⟩
 have R0 : ∀ tgt, Steps p.tables e below (s₁.setTop (mkF m 0 #[.val (.ref a1), .val (.int 5), .unset] [])) tgt → Steps p.tables e below A0 tgt := fun tgt hgo => by rw [hA0]; exact castTop (ef_rm_ens4 m a1) hgo
 have w : ∀ (i : Nat) {d : Jvm.Cond}, tables_1[i]? = some d → d.before a0 Z = true := fun i d h => hw d (List.mem_of_getElem? h)
 have hZn := Z0
 have hK : Keep h0 h0 [a1] := Keep.refl _ _
 have R1 : Rc p e below A0 (s₁.setTop (mkF m 1 #[.val (.ref a1), .val (.int 5), .unset] [(.ref a1)])) := by
   intro tgt hgo
   refine R0 tgt ?_
   show Steps p.tables e below (s₁.setTop (mkF m 0 #[.val (.ref a1), .val (.int 5), .unset] [])) _
   refine XS.aloadN X0.here hx rfl (hb hby d14_0) rfl rfl ?_
   exact hgo
 obtain ⟨T2, X2, e2, st2⟩ := getF X0 hx hZ hown (host := "") (Or.inl (w 51 rfl)) Via.refl e0 Fv (g := (mkF m 1 #[.val (.ref a1), .val (.int 5), .unset] [(.ref a1)])) rfl rfl (hb hby d14_1)
 have R3 := Rc.st R1 st2
 obtain ⟨cl4, Ar4, -, S4, Nn4, -, -⟩ := id V1
 have R5 : Rc p e below A0 (T2.setTop (mkF m 5 #[.val (.ref a1), .val (.int 5), .unset] [(.int 4)])) := by
   intro tgt hgo
   refine R3 tgt ?_
   refine X2.arraylength hx (by rw [e2]; exact Ar4.1) (State.isArrayOf_alike hZ.alike Ar4.2.1) (g := (mkF m 4 #[.val (.ref a1), .val (.int 5), .unset] [(.ref b)])) rfl rfl (hb hby d14_4) _ ?_
   rw [len_of S4 Nn4]
   exact hgo
 have R6 : Rc p e below A0 (T2.setTop (mkF m 6 #[.val (.ref a1), .val (.int 5), .unset] [(.ref a1), (.int 4)])) := by
   intro tgt hgo
   refine R5 tgt ?_
   show Steps p.tables e below (T2.setTop (mkF m 5 #[.val (.ref a1), .val (.int 5), .unset] [(.int 4)])) _
   refine XS.aloadN X2.here hx rfl (hb hby d14_5) rfl rfl ?_
   exact hgo
 obtain ⟨T7, X7, e7, st7⟩ := getF X2 hx hZ hown (host := "") (Or.inl (w 53 rfl)) Via.refl e2 Fd (g := (mkF m 6 #[.val (.ref a1), .val (.int 5), .unset] [(.ref a1), (.int 4)])) rfl rfl (hb hby d14_6)
 have R8 := Rc.st R6 st7
 have R9 : Rc p e below A0 (T7.setTop (mkF m 19 #[.val (.ref a1), .val (.int 5), .val (.int 4)] [(.ref a1), (.ref a1)])) := by
   intro tgt hgo
   refine R8 tgt ?_
   show Steps p.tables e below (T7.setTop (mkF m 9 #[.val (.ref a1), .val (.int 5), .unset] [(.int 0), (.int 4)])) _
   refine XS.ishr X7.here hx rfl (hb hby d14_9) rfl ?_
   refine XS.istoreN X7.here hx rfl (hb hby d14_10) rfl (l' := #[.val (.ref a1), .val (.int 5), .val (.int 4)]) rfl ?_
   refine XS.iloadN X7.here hx rfl (hb hby d14_11) rfl ?_
   refine XS.iloadN X7.here hx rfl (hb hby d14_12) rfl ?_
   refine XS.isub X7.here hx rfl (hb hby d14_13) rfl ?_
   refine XS.ifNo X7.here hx rfl (hb hby d14_14) rfl ((if0 _ _).trans (tlt (by decide : (0 : Int32) < (1 : Int32))).2.2.2) ?_
   refine XS.aloadN X7.here hx rfl (hb hby d14_17) rfl rfl ?_
   refine XS.aloadN X7.here hx rfl (hb hby d14_18) rfl rfl ?_
   exact hgo
 obtain ⟨T10, X10, e10, st10⟩ := getF X7 hx hZ hown (host := "") (Or.inl (w 51 rfl)) Via.refl e7 Fv (g := (mkF m 19 #[.val (.ref a1), .val (.int 5), .val (.int 4)] [(.ref a1), (.ref a1)])) rfl rfl (hb hby d14_19)
 have R11 := Rc.st R9 st10
 have R12 : Rc p e below A0 (T10.setTop (mkF m 24 #[.val (.ref a1), .val (.int 5), .val (.int 4)] [(.int 5), (.ref a1), (.ref b), (.ref a1)])) := by
   intro tgt hgo
   refine R11 tgt ?_
   show Steps p.tables e below (T10.setTop (mkF m 22 #[.val (.ref a1), .val (.int 5), .val (.int 4)] [(.ref b), (.ref a1)])) _
   refine XS.aloadN X10.here hx rfl (hb hby d14_22) rfl rfl ?_
   refine XS.iloadN X10.here hx rfl (hb hby d14_23) rfl ?_
   exact hgo
 obtain ⟨cq13, kq13, q13a, q13b, q13c⟩ := isOf hZ e10 E1
 obtain ⟨_, _, ⟨T13, L13, k13, n13⟩, -, X13, ⟨Lc13, hQ13, l13, y13, z13⟩, st13⟩ := X10.virtualBack hx (y := yn12) (z := yn12) hown (mvT hZ (w 160 rfl)) (mvT hZ (OwnKit.own_decl (w 161 rfl) (w 164 rfl))) (notFace_of_selects (args := #[]) (mvT hZ (w 163 rfl))) (mvT hZ (w 163 rfl)) (mvT hZ (w 161 rfl)) (by decide) (backOf (W := 2) (rm_nc4 l Z a0 hw [] a1 b k bs h0 n0 Z0 E1 Fv Fc Fd V1 Eb hlen) hZ (w 164 rfl) (w 47 rfl) (by decide) (by decide)) q13a q13c (g := (mkF m 24 #[.val (.ref a1), .val (.int 5), .val (.int 4)] [(.int 5), (.ref a1), (.ref b), (.ref a1)])) rfl (by rw [hml]; rfl) (Steps.refl _) (argsL := [(.int 5)]) (rest := [(.ref b), (.ref a1)]) (lenOf pd_7 rfl) rfl (by show 2 * 0 + _ ≤ _; exact Nat.le_of_eq rfl) (hb hby d14_24) (fun _ _ => ⟨rfl, e10, (by decide : 0 + 0 ≤ _), (by decide : 0 + 0 ≤ _)⟩)
 dsimp only [Pt.U, Pt.locs, Pt.cells, Pt.slots] at X13 l13 y13 z13 st13 hQ13
 subst l13 y13 z13
 obtain ⟨rfl, N13q, e13⟩ := hQ13
 have N13 := Fr.app N0 N13q
 have R14 := Rc.tr R12 st13
 have R15 : Rc p e below A0 (T13.setTop (mkF m 28 #[.val (.ref a1), .val (.int 5), .val (.int 4)] [(.ref a1), (.int 10), (.ref b), (.ref a1)])) := by
   intro tgt hgo
   refine R14 tgt ?_
   show Steps p.tables e below (T13.setTop (mkF m 27 #[.val (.ref a1), .val (.int 5), .val (.int 4)] [(.int 10), (.ref b), (.ref a1)])) _
   refine XS.aloadN X13.here hx rfl (hb hby d14_27) rfl rfl ?_
   exact hgo
 obtain ⟨T16, X16, e16, st16⟩ := getF X13 hx hZ hown (host := "") (Or.inl (w 53 rfl)) Via.refl e13 Fd (g := (mkF m 28 #[.val (.ref a1), .val (.int 5), .val (.int 4)] [(.ref a1), (.int 10), (.ref b), (.ref a1)])) rfl rfl (hb hby d14_28)
 have R17 := Rc.st R15 st16
 have R18 : Rc p e below A0 (T16.setTop (mkF m 32 #[.val (.ref a1), .val (.int 5), .val (.int 4)] [(.int 10), (.ref b), (.ref a1)])) := by
   intro tgt hgo
   refine R17 tgt ?_
   show Steps p.tables e below (T16.setTop (mkF m 31 #[.val (.ref a1), .val (.int 5), .val (.int 4)] [(.int 0), (.int 10), (.ref b), (.ref a1)])) _
   refine XS.ishl X16.here hx rfl (hb hby d14_31) rfl ?_
   exact hgo
 obtain ⟨_, _, ⟨T19, L19, k19, n19⟩, -, X19, ⟨Lc19, hQ19, l19, y19, z19⟩, st19⟩ := Jvm.LawKit.callS X16 hx (y := yn13) hown (mvT hZ (w 175 rfl)) (mvT hZ (w 176 rfl)) (mvT hZ (w 109 rfl)) (mvT hZ (w 177 rfl)) (by decide) (backOf (W := 1) (rm_co4 l Z a0 hw [] b k bs h0 n0 hZn V1 Eb hlen) hZ (w 177 rfl) (w 109 rfl) (by decide) (by decide)) (g := (mkF m 32 #[.val (.ref a1), .val (.int 5), .val (.int 4)] [(.int 10), (.ref b), (.ref a1)])) rfl (by rw [hml]; rfl) (argsL := [(.ref b), (.int 10)]) (rest := [(.ref a1)]) (lenOf pd_8 rfl) rfl (by show 2 * 0 + _ ≤ _; exact Nat.le_of_eq rfl) (hb hby d14_32) (fun _ _ => ⟨rfl, e16, (by decide : 0 + 1 ≤ _), (by decide : 0 + 10 ≤ _)⟩)
 dsimp only [Pt.U, Pt.locs, Pt.cells, Pt.slots] at X19 l19 y19 z19 st19 hQ19
 subst l19 y19 z19
 obtain ⟨⟨t19, rfl, kt19, ge_t19, sz_t19, v19, x19⟩, N19q, K19⟩ := hQ19
 have N19 := Fr.app N13 N19q
 have R20 := Rc.st R18 st19
 have ne_a1_t : a1 ≠ t19 := Nat.ne_of_lt (Nat.lt_of_lt_of_le E1.lt sz_t19)
 replace hZn := Nat.le_trans hZn K19.1
 replace hK := hK.trans K19 all0
 replace E1 := E1.keep K19
 replace Fv := Fv.keep K19 nin0
 replace Fc := Fc.keep K19 nin0
 replace Fd := Fd.keep K19 nin0
 replace V1 := V1.keep K19 nin0
 replace Eb := Eb.keep K19
 have Vt := v19
 have Et := x19
 obtain ⟨T21, h21, X21, e21, W21, st21⟩ := putF X19 hx hZ hown (host := "") (Or.inl (w 51 rfl)) Via.refl rfl Fv E1 (Or.inl (w 52 rfl)) (w 27 rfl) (ty := (.array .byte)) (by decide) rfl rfl (g := (mkF m 35 #[.val (.ref a1), .val (.int 5), .val (.int 4)] [(.ref t19), (.ref a1)])) rfl rfl (hb hby d14_35)
 have N21 := Fr.snoc X21 N19 ge1
 replace hZn := Nat.le_trans hZn (Keep.of_wr W21).1
 replace hK := hK.wr W21 (Or.inl (List.mem_of_getElem? (i := 0) rfl))
 replace E1 := E1.wr W21
 replace Fv := Fv.same W21
 replace Fc := Fc.other W21 (Or.inr (slot_ne (Or.inl (w 66 rfl)) (Or.inl (w 52 rfl)) (by decide) (t := .int) (t' := (.array .byte)) (by decide) (by decide)))
 replace Fd := Fd.other W21 (Or.inr (slot_ne (Or.inl (w 54 rfl)) (Or.inl (w 52 rfl)) (by decide) (t := .byte) (t' := (.array .byte)) (by decide) (by decide)))
 replace V1 := V1.other W21 (Ne.symm hne)
 replace Eb := Eb.wr W21
 replace Vt := Vt.other W21 (Ne.symm ne_a1_t)
 replace Et := Et.wr W21
 have R22 := Rc.st R20 st21
 subst hA0
 obtain ⟨fs, hr, hrun, hended, hW, hsame⟩ := X21.leave (v := none) (fun _ => rfl)
 refine ⟨_, _, R22 _ ?_, hrun, hended, _, _, rfl, ?_, ⟨_, rfl⟩, hW, hsame.mono (by decide) (by decide)⟩
 ·show Steps p.tables e below (T21.setTop (mkF m 38 #[.val (.ref a1), .val (.int 5), .val (.int 4)] [])) _
  exact X21.returnOut hx Bd.returns (hb hby d14_38) hr
 ·show Qe4 Z a1 bs h0 n0 _ T21.heap _
  rw [e21]
  exact ⟨rfl, N21, hK, t19, kt19, ge_t19, sz_t19, ne_a1_t, Fv, Fc, Fd, Vt, Et⟩
def Qe5 (Z : State) (a1 : Addr) (bs : List Int32) (h0 : Heap) (n0 : Nat) (v : Option Value) (h : Heap) (L : List Loc) : Prop := v = none ∧ Fr n0 L ∧ Keep h0 h [a1] ∧ ∃ (t : Addr) (kt : ClassId), n0 ≤ t ∧ h0.size ≤ t ∧ a1 ≠ t ∧ Fld Z h a1 "java/lang/AbstractStringBuilder" "value" "[B" (.ref t) ∧ Fld Z h a1 "java/lang/AbstractStringBuilder" "count" "I" (.int (5 : Int32)) ∧ Fld Z h a1 "java/lang/AbstractStringBuilder" "coder" "B" (.int 0) ∧ Arv Z h t kt .byte (12 : Int32) (bs.map Value.int) (.int 0) ∧ Exa Z h t "[B"
theorem ef_rm_ens5 (m : MethodId) (a1 : Addr) : entryFrame m #[(.ref a1), (.int (6 : Int32))] 3 = mkF m 0 #[.val (.ref a1), .val (.int (6 : Int32)), .unset] [] := by first | (simp [entryFrame, mkF, argsToLocals, Value.category]; done) | rfl
set_option maxRecDepth 65536 in
set_option maxHeartbeats 40000000 in
theorem rm_ens5 (l : Launch) (Z : State) (a0 : Array Value) (hw : ∀ d ∈ tables_1, d.before a0 Z = true) (ws : List Jvm.Cond) (a1 : Addr) (b : Addr) (k : ClassId) (bs : List Int32) (h0 : Heap) (n0 : Nat) (Z0 : n0 ≤ h0.size) (E1 : Exa Z h0 a1 "java/lang/StringBuilder") (Fv : Fld Z h0 a1 "java/lang/AbstractStringBuilder" "value" "[B" (.ref b)) (Fc : Fld Z h0 a1 "java/lang/AbstractStringBuilder" "count" "I" (.int (5 : Int32))) (Fd : Fld Z h0 a1 "java/lang/AbstractStringBuilder" "coder" "B" (.int 0)) (V1 : Arv Z h0 b k .byte (5 : Int32) (bs.map Value.int) (.int 0)) (Eb : Exa Z h0 b "[B") (hlen : bs.length = 5) (ge1 : n0 ≤ a1) (hne : a1 ≠ b) :
    MetFree l yn14 (head1 (Jvm.Cond.code yn14 jdk_68_method_9_code 3 none :: ws) ({ frames := 3, cells := 1, slots := 12, locals := 48 } : Room)) (fun a U => a = #[(.ref a1), (.int (6 : Int32))] ∧ Z.Warmed39 U.vm ∧ U.heap = h0) (fun _ _ _ _ _ => True) (fun _ U o U' => ∃ v L, o = .returned v ∧ Qe5 Z a1 bs h0 n0 v U'.heap L ∧ FrameEnd U o U' L ({ frames := 3, cells := 1, slots := 12, locals := 48 } : Room).cells ({ frames := 3, cells := 1, slots := 12, locals := 48 } : Room).slots) := by
 refine MetFree.of_bodySF (plainFor_of_name pn_java_lang_AbstractStringBuilder) hisR ?_
 intro p e s m args below meth c s₁ Bd hml0 hP hK
 obtain ⟨rfl, hZ, hh⟩ := hP
 have hx := Bd.exec
 have hby := Bd.bytes
 have hml : c.maxLocals = 3 := hml0
 have hown : s.vm.findClass "java/lang/AbstractStringBuilder" = some m.cls := findClass_of_methodNamed Bd.named
 have hnm := (name_of_methodNamed Bd.named Bd.method).1
 have X0 : Stand p l e ({ frames := 3, cells := 1, slots := 12, locals := 48 } : Room) s m #[(.ref a1), (.int 6)] below meth c s₁ [] 0 0 := Stand.of_body Bd
 have e0 : s₁.heap = h0 := by rw [← hh, Bd.state]; rfl
 have N0 := Fr.nil n0
 obtain ⟨A0, hA0⟩ : ∃ A, A = s₁.setTop (entryFrame m #[(.ref a1), (.int 6)] 3) := ⟨_, rfl⟩
 have R0 : ∀ tgt, Steps p.tables e below (s₁.setTop (mkF m 0 #[.val (.ref a1), .val (.int 6), .unset] [])) tgt → Steps p.tables e below A0 tgt := fun tgt hgo => by rw [hA0]; exact castTop (ef_rm_ens5 m a1) hgo
 have w : ∀ (i : Nat) {d : Jvm.Cond}, tables_1[i]? = some d → d.before a0 Z = true := fun i d h => hw d (List.mem_of_getElem? h)
 have hZn := Z0
 have hK : Keep h0 h0 [a1] := Keep.refl _ _
 have R1 : Rc p e below A0 (s₁.setTop (mkF m 1 #[.val (.ref a1), .val (.int 6), .unset] [(.ref a1)])) := by
   intro tgt hgo
   refine R0 tgt ?_
   show Steps p.tables e below (s₁.setTop (mkF m 0 #[.val (.ref a1), .val (.int 6), .unset] [])) _
   refine XS.aloadN X0.here hx rfl (hb hby d14_0) rfl rfl ?_
   exact hgo
 obtain ⟨T2, X2, e2, st2⟩ := getF X0 hx hZ hown (host := "") (Or.inl (w 51 rfl)) Via.refl e0 Fv (g := (mkF m 1 #[.val (.ref a1), .val (.int 6), .unset] [(.ref a1)])) rfl rfl (hb hby d14_1)
 have R3 := Rc.st R1 st2
 obtain ⟨cl4, Ar4, -, S4, Nn4, -, -⟩ := id V1
 have R5 : Rc p e below A0 (T2.setTop (mkF m 5 #[.val (.ref a1), .val (.int 6), .unset] [(.int 5)])) := by
   intro tgt hgo
   refine R3 tgt ?_
   refine X2.arraylength hx (by rw [e2]; exact Ar4.1) (State.isArrayOf_alike hZ.alike Ar4.2.1) (g := (mkF m 4 #[.val (.ref a1), .val (.int 6), .unset] [(.ref b)])) rfl rfl (hb hby d14_4) _ ?_
   rw [len_of S4 Nn4]
   exact hgo
 have R6 : Rc p e below A0 (T2.setTop (mkF m 6 #[.val (.ref a1), .val (.int 6), .unset] [(.ref a1), (.int 5)])) := by
   intro tgt hgo
   refine R5 tgt ?_
   show Steps p.tables e below (T2.setTop (mkF m 5 #[.val (.ref a1), .val (.int 6), .unset] [(.int 5)])) _
   refine XS.aloadN X2.here hx rfl (hb hby d14_5) rfl rfl ?_
   exact hgo
 obtain ⟨T7, X7, e7, st7⟩ := getF X2 hx hZ hown (host := "") (Or.inl (w 53 rfl)) Via.refl e2 Fd (g := (mkF m 6 #[.val (.ref a1), .val (.int 6), .unset] [(.ref a1), (.int 5)])) rfl rfl (hb hby d14_6)
 have R8 := Rc.st R6 st7
 have R9 : Rc p e below A0 (T7.setTop (mkF m 19 #[.val (.ref a1), .val (.int 6), .val (.int 5)] [(.ref a1), (.ref a1)])) := by
   intro tgt hgo
   refine R8 tgt ?_
   show Steps p.tables e below (T7.setTop (mkF m 9 #[.val (.ref a1), .val (.int 6), .unset] [(.int 0), (.int 5)])) _
   refine XS.ishr X7.here hx rfl (hb hby d14_9) rfl ?_
   refine XS.istoreN X7.here hx rfl (hb hby d14_10) rfl (l' := #[.val (.ref a1), .val (.int 6), .val (.int 5)]) rfl ?_
   refine XS.iloadN X7.here hx rfl (hb hby d14_11) rfl ?_
   refine XS.iloadN X7.here hx rfl (hb hby d14_12) rfl ?_
   refine XS.isub X7.here hx rfl (hb hby d14_13) rfl ?_
   refine XS.ifNo X7.here hx rfl (hb hby d14_14) rfl ((if0 _ _).trans (tlt (by decide : (0 : Int32) < (1 : Int32))).2.2.2) ?_
   refine XS.aloadN X7.here hx rfl (hb hby d14_17) rfl rfl ?_
   refine XS.aloadN X7.here hx rfl (hb hby d14_18) rfl rfl ?_
   exact hgo
 obtain ⟨T10, X10, e10, st10⟩ := getF X7 hx hZ hown (host := "") (Or.inl (w 51 rfl)) Via.refl e7 Fv (g := (mkF m 19 #[.val (.ref a1), .val (.int 6), .val (.int 5)] [(.ref a1), (.ref a1)])) rfl rfl (hb hby d14_19)
 have R11 := Rc.st R9 st10
 have R12 : Rc p e below A0 (T10.setTop (mkF m 24 #[.val (.ref a1), .val (.int 6), .val (.int 5)] [(.int 6), (.ref a1), (.ref b), (.ref a1)])) := by
   intro tgt hgo
   refine R11 tgt ?_
   show Steps p.tables e below (T10.setTop (mkF m 22 #[.val (.ref a1), .val (.int 6), .val (.int 5)] [(.ref b), (.ref a1)])) _
   refine XS.aloadN X10.here hx rfl (hb hby d14_22) rfl rfl ?_
   refine XS.iloadN X10.here hx rfl (hb hby d14_23) rfl ?_
   exact hgo
 obtain ⟨cq13, kq13, q13a, q13b, q13c⟩ := isOf hZ e10 E1
 obtain ⟨_, _, ⟨T13, L13, k13, n13⟩, -, X13, ⟨Lc13, hQ13, l13, y13, z13⟩, st13⟩ := X10.virtualBack hx (y := yn12) (z := yn12) hown (mvT hZ (w 160 rfl)) (mvT hZ (OwnKit.own_decl (w 161 rfl) (w 164 rfl))) (notFace_of_selects (args := #[]) (mvT hZ (w 163 rfl))) (mvT hZ (w 163 rfl)) (mvT hZ (w 161 rfl)) (by decide) (backOf (W := 2) (rm_nc5 l Z a0 hw [] a1 b k bs h0 n0 Z0 E1 Fv Fc Fd V1 Eb hlen) hZ (w 164 rfl) (w 47 rfl) (by decide) (by decide)) q13a q13c (g := (mkF m 24 #[.val (.ref a1), .val (.int 6), .val (.int 5)] [(.int 6), (.ref a1), (.ref b), (.ref a1)])) rfl (by rw [hml]; rfl) (Steps.refl _) (argsL := [(.int 6)]) (rest := [(.ref b), (.ref a1)]) (lenOf pd_7 rfl) rfl (by show 2 * 0 + _ ≤ _; exact Nat.le_of_eq rfl) (hb hby d14_24) (fun _ _ => ⟨rfl, e10, (by decide : 0 + 0 ≤ _), (by decide : 0 + 0 ≤ _)⟩)
 dsimp only [Pt.U, Pt.locs, Pt.cells, Pt.slots] at X13 l13 y13 z13 st13 hQ13
 subst l13 y13 z13
 obtain ⟨rfl, N13q, e13⟩ := hQ13
 have N13 := Fr.app N0 N13q
 have R14 := Rc.tr R12 st13
 have R15 : Rc p e below A0 (T13.setTop (mkF m 28 #[.val (.ref a1), .val (.int 6), .val (.int 5)] [(.ref a1), (.int 12), (.ref b), (.ref a1)])) := by
   intro tgt hgo
   refine R14 tgt ?_
   show Steps p.tables e below (T13.setTop (mkF m 27 #[.val (.ref a1), .val (.int 6), .val (.int 5)] [(.int 12), (.ref b), (.ref a1)])) _
   refine XS.aloadN X13.here hx rfl (hb hby d14_27) rfl rfl ?_
   exact hgo
 obtain ⟨T16, X16, e16, st16⟩ := getF X13 hx hZ hown (host := "") (Or.inl (w 53 rfl)) Via.refl e13 Fd (g := (mkF m 28 #[.val (.ref a1), .val (.int 6), .val (.int 5)] [(.ref a1), (.int 12), (.ref b), (.ref a1)])) rfl rfl (hb hby d14_28)
 have R17 := Rc.st R15 st16
 have R18 : Rc p e below A0 (T16.setTop (mkF m 32 #[.val (.ref a1), .val (.int 6), .val (.int 5)] [(.int 12), (.ref b), (.ref a1)])) := by
   intro tgt hgo
   refine R17 tgt ?_
   show Steps p.tables e below (T16.setTop (mkF m 31 #[.val (.ref a1), .val (.int 6), .val (.int 5)] [(.int 0), (.int 12), (.ref b), (.ref a1)])) _
   refine XS.ishl X16.here hx rfl (hb hby d14_31) rfl ?_
   exact hgo
 obtain ⟨_, _, ⟨T19, L19, k19, n19⟩, -, X19, ⟨Lc19, hQ19, l19, y19, z19⟩, st19⟩ := Jvm.LawKit.callS X16 hx (y := yn13) hown (mvT hZ (w 175 rfl)) (mvT hZ (w 176 rfl)) (mvT hZ (w 109 rfl)) (mvT hZ (w 177 rfl)) (by decide) (backOf (W := 1) (rm_co5 l Z a0 hw [] b k bs h0 n0 hZn V1 Eb hlen) hZ (w 177 rfl) (w 109 rfl) (by decide) (by decide)) (g := (mkF m 32 #[.val (.ref a1), .val (.int 6), .val (.int 5)] [(.int 12), (.ref b), (.ref a1)])) rfl (by rw [hml]; rfl) (argsL := [(.ref b), (.int 12)]) (rest := [(.ref a1)]) (lenOf pd_8 rfl) rfl (by show 2 * 0 + _ ≤ _; exact Nat.le_of_eq rfl) (hb hby d14_32) (fun _ _ => ⟨rfl, e16, (by decide : 0 + 1 ≤ _), (by decide : 0 + 12 ≤ _)⟩)
 dsimp only [Pt.U, Pt.locs, Pt.cells, Pt.slots] at X19 l19 y19 z19 st19 hQ19
 subst l19 y19 z19
 obtain ⟨⟨t19, rfl, kt19, ge_t19, sz_t19, v19, x19⟩, N19q, K19⟩ := hQ19
 have N19 := Fr.app N13 N19q
 have R20 := Rc.st R18 st19
 have ne_a1_t : a1 ≠ t19 := Nat.ne_of_lt (Nat.lt_of_lt_of_le E1.lt sz_t19)
 replace hZn := Nat.le_trans hZn K19.1
 replace hK := hK.trans K19 all0
 replace E1 := E1.keep K19
 replace Fv := Fv.keep K19 nin0
 replace Fc := Fc.keep K19 nin0
 replace Fd := Fd.keep K19 nin0
 replace V1 := V1.keep K19 nin0
 replace Eb := Eb.keep K19
 have Vt := v19
 have Et := x19
 obtain ⟨T21, h21, X21, e21, W21, st21⟩ := putF X19 hx hZ hown (host := "") (Or.inl (w 51 rfl)) Via.refl rfl Fv E1 (Or.inl (w 52 rfl)) (w 27 rfl) (ty := (.array .byte)) (by decide) rfl rfl (g := (mkF m 35 #[.val (.ref a1), .val (.int 6), .val (.int 5)] [(.ref t19), (.ref a1)])) rfl rfl (hb hby d14_35)
 have N21 := Fr.snoc X21 N19 ge1
 replace hZn := Nat.le_trans hZn (Keep.of_wr W21).1
 replace hK := hK.wr W21 (Or.inl (List.mem_of_getElem? (i := 0) rfl))
 replace E1 := E1.wr W21
 replace Fv := Fv.same W21
 replace Fc := Fc.other W21 (Or.inr (slot_ne (Or.inl (w 66 rfl)) (Or.inl (w 52 rfl)) (by decide) (t := .int) (t' := (.array .byte)) (by decide) (by decide)))
 replace Fd := Fd.other W21 (Or.inr (slot_ne (Or.inl (w 54 rfl)) (Or.inl (w 52 rfl)) (by decide) (t := .byte) (t' := (.array .byte)) (by decide) (by decide)))
 replace V1 := V1.other W21 (Ne.symm hne)
 replace Eb := Eb.wr W21
 replace Vt := Vt.other W21 (Ne.symm ne_a1_t)
 replace Et := Et.wr W21
 have R22 := Rc.st R20 st21
 subst hA0
 obtain ⟨fs, hr, hrun, hended, hW, hsame⟩ := X21.leave (v := none) (fun _ => rfl)
 refine ⟨_, _, R22 _ ?_, hrun, hended, _, _, rfl, ?_, ⟨_, rfl⟩, hW, hsame.mono (by decide) (by decide)⟩
 ·show Steps p.tables e below (T21.setTop (mkF m 38 #[.val (.ref a1), .val (.int 6), .val (.int 5)] [])) _
  exact X21.returnOut hx Bd.returns (hb hby d14_38) hr
 ·show Qe5 Z a1 bs h0 n0 _ T21.heap _
  rw [e21]
  exact ⟨rfl, N21, hK, t19, kt19, ge_t19, sz_t19, ne_a1_t, Fv, Fc, Fd, Vt, Et⟩
abbrev yn15 : MethodName := ⟨"java/lang/AbstractStringBuilder", "append", "(C)Ljava/lang/AbstractStringBuilder;"⟩
theorem ef_rm_apA0 (m : MethodId) (a1 : Addr) (p2 : Int32) : entryFrame m #[(.ref a1), (.int p2)] 2 = mkF m 0 #[.val (.ref a1), .val (.int p2)] [] := by first | (simp [entryFrame, mkF, argsToLocals, Value.category]; done) | rfl
theorem d15_0 : decode jdk_68_method_31_code 0 = .ok (.aload_n 0, 1) := by decide +kernel
theorem d15_1 : decode jdk_68_method_31_code 1 = .ok (.aload_n 0, 1) := by decide +kernel
theorem d15_2 : decode jdk_68_method_31_code 2 = .ok (.getfield 79, 3) := by decide +kernel
theorem d15_5 : decode jdk_68_method_31_code 5 = .ok (.iconst 1, 1) := by decide +kernel
theorem d15_6 : decode jdk_68_method_31_code 6 = .ok (.iadd, 1) := by decide +kernel
theorem d15_7 : decode jdk_68_method_31_code 7 = .ok (.invokevirtual 100, 3) := by decide +kernel
theorem pd_9 : parseMethodDescriptor "(I)V" = some ⟨[.int], none⟩ := by decide +kernel
theorem d15_10 : decode jdk_68_method_31_code 10 = .ok (.aload_n 0, 1) := by decide +kernel
theorem d15_11 : decode jdk_68_method_31_code 11 = .ok (.invokevirtual 83, 3) := by decide +kernel
theorem d15_14 : decode jdk_68_method_31_code 14 = .ok (.ifCond .eq 31, 3) := by decide +kernel
theorem d15_17 : decode jdk_68_method_31_code 17 = .ok (.iload_n 1, 1) := by decide +kernel
theorem d15_18 : decode jdk_68_method_31_code 18 = .ok (.invokestatic 191, 3) := by decide +kernel
theorem pd_10 : parseMethodDescriptor "(C)Z" = some ⟨[.char], some .boolean⟩ := by decide +kernel
theorem d15_21 : decode jdk_68_method_31_code 21 = .ok (.ifCond .eq 24, 3) := by decide +kernel
theorem d15_24 : decode jdk_68_method_31_code 24 = .ok (.aload_n 0, 1) := by decide +kernel
theorem d15_25 : decode jdk_68_method_31_code 25 = .ok (.getfield 15, 3) := by decide +kernel
theorem d15_28 : decode jdk_68_method_31_code 28 = .ok (.aload_n 0, 1) := by decide +kernel
theorem d15_29 : decode jdk_68_method_31_code 29 = .ok (.dup, 1) := by decide +kernel
theorem d15_30 : decode jdk_68_method_31_code 30 = .ok (.getfield 79, 3) := by decide +kernel
theorem d15_33 : decode jdk_68_method_31_code 33 = .ok (.dup_x1, 1) := by decide +kernel
theorem d15_34 : decode jdk_68_method_31_code 34 = .ok (.iconst 1, 1) := by decide +kernel
theorem d15_35 : decode jdk_68_method_31_code 35 = .ok (.iadd, 1) := by decide +kernel
theorem d15_36 : decode jdk_68_method_31_code 36 = .ok (.putfield 79, 3) := by decide +kernel
theorem d15_39 : decode jdk_68_method_31_code 39 = .ok (.iload_n 1, 1) := by decide +kernel
theorem d15_40 : decode jdk_68_method_31_code 40 = .ok (.i2b, 1) := by decide +kernel
theorem d15_41 : decode jdk_68_method_31_code 41 = .ok (.bastore, 1) := by decide +kernel
theorem d15_42 : decode jdk_68_method_31_code 42 = .ok (.goto 33, 3) := by decide +kernel
theorem d15_75 : decode jdk_68_method_31_code 75 = .ok (.aload_n 0, 1) := by decide +kernel
theorem d15_76 : decode jdk_68_method_31_code 76 = .ok (.areturn, 1) := by decide +kernel
set_option maxRecDepth 65536 in
set_option maxHeartbeats 40000000 in
theorem rm_apA0 (l : Launch) (Z : State) (a0 : Array Value) (hw : ∀ d ∈ tables_1, d.before a0 Z = true) (ws : List Jvm.Cond) (a1 : Addr) (p2 : Int32) (zc : Int32) (b : Addr) (k : ClassId) (N : Nat) (bs : List Int32) (h0 : Heap) (n0 : Nat) (Z0 : n0 ≤ h0.size) (X00 : Old Z n0 h0) (S_cs : Sta Z Z.heap "java/lang/String" "COMPACT_STRINGS" "Z" (.int zc)) (hz : ¬ zc = 0) (hch : own_ch p2) (D0 : SBd Z h0 n0 a1 b k N bs) (hN : bs.length < N) (hN2 : N ≤ 12) :
    MetFree l yn15 (head1 (Jvm.Cond.code yn15 jdk_68_method_31_code 2 (some (.object "java/lang/AbstractStringBuilder")) :: ws) ({ frames := 4, cells := 1, slots := 12, locals := 62 } : Room)) (fun a U => a = #[(.ref a1), (.int p2)] ∧ Z.Warmed39 U.vm ∧ U.heap = h0) (fun _ _ _ _ _ => True) (fun _ U o U' => ∃ v L, o = .returned v ∧ Qap Z a1 b N p2 bs h0 n0 v U'.heap L ∧ FrameEnd U o U' L ({ frames := 4, cells := 1, slots := 12, locals := 62 } : Room).cells ({ frames := 4, cells := 1, slots := 12, locals := 62 } : Room).slots) := by
 refine MetFree.of_bodySF (plainFor_of_name pn_java_lang_AbstractStringBuilder) hisR ?_
 intro p e s m args below meth c s₁ Bd hml0 hP hK
 obtain ⟨rfl, hZ, hh⟩ := hP
 have hx := Bd.exec
 have hby := Bd.bytes
 have hml : c.maxLocals = 2 := hml0
 have hown : s.vm.findClass "java/lang/AbstractStringBuilder" = some m.cls := findClass_of_methodNamed Bd.named
 have hnm := (name_of_methodNamed Bd.named Bd.method).1
 have X0 : Stand p l e ({ frames := 4, cells := 1, slots := 12, locals := 62 } : Room) s m #[(.ref a1), (.int p2)] below meth c s₁ [] 0 0 := Stand.of_body Bd
 have e0 : s₁.heap = h0 := by rw [← hh, Bd.state]; rfl
 have N0 := Fr.nil n0
 obtain ⟨A0, hA0⟩ : ∃ A, A = s₁.setTop (entryFrame m #[(.ref a1), (.int p2)] 2) := ⟨_, rfl⟩
 have R0 : ∀ tgt, Steps p.tables e below (s₁.setTop (mkF m 0 #[.val (.ref a1), .val (.int p2)] [])) tgt → Steps p.tables e below A0 tgt := fun tgt hgo => by rw [hA0]; exact castTop (ef_rm_apA0 m a1 p2) hgo
 have w : ∀ (i : Nat) {d : Jvm.Cond}, tables_1[i]? = some d → d.before a0 Z = true := fun i d h => hw d (List.mem_of_getElem? h)
 obtain ⟨E1, Fv, Fc, Fd, V1, Eb, hne, ge1, geb⟩ := D0
 have hZn := Z0
 have hK : Keep h0 h0 [a1, b] := Keep.refl _ _
 have R1 : Rc p e below A0 (s₁.setTop (mkF m 2 #[.val (.ref a1), .val (.int p2)] [(.ref a1), (.ref a1)])) := by
   intro tgt hgo
   refine R0 tgt ?_
   show Steps p.tables e below (s₁.setTop (mkF m 0 #[.val (.ref a1), .val (.int p2)] [])) _
   refine XS.aloadN X0.here hx rfl (hb hby d15_0) rfl rfl ?_
   refine XS.aloadN X0.here hx rfl (hb hby d15_1) rfl rfl ?_
   exact hgo
 obtain ⟨T2, X2, e2, st2⟩ := getF X0 hx hZ hown (host := "") (Or.inl (w 65 rfl)) Via.refl e0 Fc (g := (mkF m 2 #[.val (.ref a1), .val (.int p2)] [(.ref a1), (.ref a1)])) rfl rfl (hb hby d15_2)
 have R3 := Rc.st R1 st2
 have R4 : Rc p e below A0 (T2.setTop (mkF m 7 #[.val (.ref a1), .val (.int p2)] [(.int ((Int32.ofNat bs.length) + (1 : Int32))), (.ref a1)])) := by
   intro tgt hgo
   refine R3 tgt ?_
   show Steps p.tables e below (T2.setTop (mkF m 5 #[.val (.ref a1), .val (.int p2)] [(.int (Int32.ofNat bs.length)), (.ref a1)])) _
   refine XS.iconst X2.here hx rfl (hb hby d15_5) ?_
   refine XS.iadd X2.here hx rfl (hb hby d15_6) rfl ?_
   exact hgo
 obtain ⟨cq5, kq5, q5a, q5b, q5c⟩ := isOf hZ e2 E1
 obtain ⟨_, _, ⟨T5, L5, k5, n5⟩, -, X5, ⟨Lc5, hQ5, l5, y5, z5⟩, st5⟩ := X2.virtualBack hx (y := yn14) (z := yn14) hown (mvT hZ (w 67 rfl)) (mvT hZ (OwnKit.own_decl (w 68 rfl) (w 71 rfl))) (notFace_of_selects (args := #[]) (mvT hZ (w 70 rfl))) (mvT hZ (w 70 rfl)) (mvT hZ (w 68 rfl)) (by decide) (backOf (W := 0) (rm_ens0 l Z a0 hw [] a1 ((Int32.ofNat bs.length) + (1 : Int32)) b k N bs h0 n0 Z0 Fv Fd V1 (own_noGrow hN hN2)) hZ (w 71 rfl) (w 47 rfl) (by decide) (by decide)) q5a q5c (g := (mkF m 7 #[.val (.ref a1), .val (.int p2)] [(.int ((Int32.ofNat bs.length) + (1 : Int32))), (.ref a1)])) rfl (by rw [hml]; rfl) (Steps.refl _) (argsL := [(.int ((Int32.ofNat bs.length) + (1 : Int32)))]) (rest := []) (lenOf pd_9 rfl) rfl (by show 2 * 0 + _ ≤ _; exact Nat.le_of_eq rfl) (hb hby d15_7) (fun _ _ => ⟨rfl, e2, (by decide : 0 + 0 ≤ _), (by decide : 0 + 0 ≤ _)⟩)
 dsimp only [Pt.U, Pt.locs, Pt.cells, Pt.slots] at X5 l5 y5 z5 st5 hQ5
 subst l5 y5 z5
 obtain ⟨rfl, N5q, e5⟩ := hQ5
 have N5 := Fr.app N0 N5q
 have R6 := Rc.tr R4 st5
 have R7 : Rc p e below A0 (T5.setTop (mkF m 11 #[.val (.ref a1), .val (.int p2)] [(.ref a1)])) := by
   intro tgt hgo
   refine R6 tgt ?_
   show Steps p.tables e below (T5.setTop (mkF m 10 #[.val (.ref a1), .val (.int p2)] [])) _
   refine XS.aloadN X5.here hx rfl (hb hby d15_10) rfl rfl ?_
   exact hgo
 obtain ⟨cq8, kq8, q8a, q8b, q8c⟩ := isOf hZ e5 E1
 obtain ⟨_, _, ⟨T8, L8, k8, n8⟩, -, X8, ⟨Lc8, hQ8, l8, y8, z8⟩, st8⟩ := X5.virtualBack hx (y := yn9) (z := yn9) hown (mvT hZ (w 72 rfl)) (mvT hZ (w 73 rfl)) (notFace_of_selects (args := #[]) (mvT hZ (w 75 rfl))) (mvT hZ (w 75 rfl)) (mvT hZ (w 74 rfl)) (by decide) (backOf (W := 0) (rm_asl l Z a0 hw [] a1 zc h0 n0 hZn X00 S_cs hz Fd) hZ (w 76 rfl) (w 47 rfl) (by decide) (by decide)) q8a q8c (g := (mkF m 11 #[.val (.ref a1), .val (.int p2)] [(.ref a1)])) rfl (by rw [hml]; rfl) (Steps.refl _) (argsL := []) (rest := []) (lenOf pd_3 rfl) rfl (by show 2 * 0 + _ ≤ _; exact Nat.le_of_eq rfl) (hb hby d15_11) (fun _ _ => ⟨rfl, e5, (by decide : 0 + 0 ≤ _), (by decide : 0 + 0 ≤ _)⟩)
 dsimp only [Pt.U, Pt.locs, Pt.cells, Pt.slots] at X8 l8 y8 z8 st8 hQ8
 subst l8 y8 z8
 obtain ⟨rfl, N8q, e8⟩ := hQ8
 have N8 := Fr.app N5 N8q
 have R9 := Rc.tr R7 st8
 have R10 : Rc p e below A0 (T8.setTop (mkF m 18 #[.val (.ref a1), .val (.int p2)] [(.int p2)])) := by
   intro tgt hgo
   refine R9 tgt ?_
   show Steps p.tables e below (T8.setTop (mkF m 14 #[.val (.ref a1), .val (.int p2)] [(.int 1)])) _
   refine XS.ifNo X8.here hx rfl (hb hby d15_14) rfl ((if0 _ _).trans (feq (by decide : ¬ ((1 : Int32) = (0 : Int32)))).1) ?_
   refine XS.iloadN X8.here hx rfl (hb hby d15_17) rfl ?_
   exact hgo
 obtain ⟨_, _, ⟨T11, L11, k11, n11⟩, -, X11, ⟨Lc11, hQ11, l11, y11, z11⟩, st11⟩ := Jvm.LawKit.callS X8 hx (y := yn10) hown (mvT hZ (w 77 rfl)) (mvT hZ (w 78 rfl)) (mvT hZ (w 79 rfl)) (mvT hZ (w 80 rfl)) (by decide) (backOf (W := 0) (rm_cen l Z a0 hw [] p2 h0 n0 hZn hch) hZ (w 80 rfl) (w 79 rfl) (by decide) (by decide)) (g := (mkF m 18 #[.val (.ref a1), .val (.int p2)] [(.int p2)])) rfl (by rw [hml]; rfl) (argsL := [(.int p2)]) (rest := []) (lenOf pd_10 rfl) rfl (by show 2 * 0 + _ ≤ _; exact Nat.le_of_eq rfl) (hb hby d15_18) (fun _ _ => ⟨rfl, e8, (by decide : 0 + 0 ≤ _), (by decide : 0 + 0 ≤ _)⟩)
 dsimp only [Pt.U, Pt.locs, Pt.cells, Pt.slots] at X11 l11 y11 z11 st11 hQ11
 subst l11 y11 z11
 obtain ⟨rfl, N11q, e11⟩ := hQ11
 have N11 := Fr.app N8 N11q
 have R12 := Rc.st R10 st11
 have R13 : Rc p e below A0 (T11.setTop (mkF m 25 #[.val (.ref a1), .val (.int p2)] [(.ref a1)])) := by
   intro tgt hgo
   refine R12 tgt ?_
   show Steps p.tables e below (T11.setTop (mkF m 21 #[.val (.ref a1), .val (.int p2)] [(.int 1)])) _
   refine XS.ifNo X11.here hx rfl (hb hby d15_21) rfl ((if0 _ _).trans (feq (by decide : ¬ ((1 : Int32) = (0 : Int32)))).1) ?_
   refine XS.aloadN X11.here hx rfl (hb hby d15_24) rfl rfl ?_
   exact hgo
 obtain ⟨T14, X14, e14, st14⟩ := getF X11 hx hZ hown (host := "") (Or.inl (w 51 rfl)) Via.refl e11 Fv (g := (mkF m 25 #[.val (.ref a1), .val (.int p2)] [(.ref a1)])) rfl rfl (hb hby d15_25)
 have R15 := Rc.st R13 st14
 have R16 : Rc p e below A0 (T14.setTop (mkF m 30 #[.val (.ref a1), .val (.int p2)] [(.ref a1), (.ref a1), (.ref b)])) := by
   intro tgt hgo
   refine R15 tgt ?_
   show Steps p.tables e below (T14.setTop (mkF m 28 #[.val (.ref a1), .val (.int p2)] [(.ref b)])) _
   refine XS.aloadN X14.here hx rfl (hb hby d15_28) rfl rfl ?_
   refine XS.dup X14.here hx rfl (hb hby d15_29) rfl rfl ?_
   exact hgo
 obtain ⟨T17, X17, e17, st17⟩ := getF X14 hx hZ hown (host := "") (Or.inl (w 65 rfl)) Via.refl e14 Fc (g := (mkF m 30 #[.val (.ref a1), .val (.int p2)] [(.ref a1), (.ref a1), (.ref b)])) rfl rfl (hb hby d15_30)
 have R18 := Rc.st R16 st17
 have R19 : Rc p e below A0 (T17.setTop (mkF m 36 #[.val (.ref a1), .val (.int p2)] [(.int ((Int32.ofNat bs.length) + (1 : Int32))), (.ref a1), (.int (Int32.ofNat bs.length)), (.ref b)])) := by
   intro tgt hgo
   refine R18 tgt ?_
   show Steps p.tables e below (T17.setTop (mkF m 33 #[.val (.ref a1), .val (.int p2)] [(.int (Int32.ofNat bs.length)), (.ref a1), (.ref b)])) _
   refine XS.dupX1 X17.here hx rfl (hb hby d15_33) rfl rfl rfl ?_
   refine XS.iconst X17.here hx rfl (hb hby d15_34) ?_
   refine XS.iadd X17.here hx rfl (hb hby d15_35) rfl ?_
   exact hgo
 obtain ⟨T20, h20, X20, e20, W20, st20⟩ := putF X17 hx hZ hown (host := "") (Or.inl (w 65 rfl)) Via.refl e17 Fc E1 (Or.inl (w 66 rfl)) (w 27 rfl) (ty := .int) (by decide) rfl rfl (g := (mkF m 36 #[.val (.ref a1), .val (.int p2)] [(.int ((Int32.ofNat bs.length) + (1 : Int32))), (.ref a1), (.int (Int32.ofNat bs.length)), (.ref b)])) rfl rfl (hb hby d15_36)
 have N20 := Fr.snoc X20 N11 ge1
 replace hZn := Nat.le_trans hZn (Keep.of_wr W20).1
 replace hK := hK.wr W20 (Or.inl (List.mem_of_getElem? (i := 0) rfl))
 replace E1 := E1.wr W20
 replace Fv := Fv.other W20 (Or.inr (slot_ne (Or.inl (w 52 rfl)) (Or.inl (w 66 rfl)) (by decide) (t := (.array .byte)) (t' := .int) (by decide) (by decide)))
 replace Fc := Fc.same W20
 replace Fd := Fd.other W20 (Or.inr (slot_ne (Or.inl (w 54 rfl)) (Or.inl (w 66 rfl)) (by decide) (t := .byte) (t' := .int) (by decide) (by decide)))
 replace V1 := V1.other W20 (Ne.symm hne)
 replace Eb := Eb.wr W20
 have R21 := Rc.st R19 st20
 have R22 : Rc p e below A0 (T20.setTop (mkF m 41 #[.val (.ref a1), .val (.int p2)] [(.int (p2.toInt8.toInt32)), (.int (Int32.ofNat bs.length)), (.ref b)])) := by
   intro tgt hgo
   refine R21 tgt ?_
   show Steps p.tables e below (T20.setTop (mkF m 39 #[.val (.ref a1), .val (.int p2)] [(.int (Int32.ofNat bs.length)), (.ref b)])) _
   refine XS.iloadN X20.here hx rfl (hb hby d15_39) rfl ?_
   refine XS.i2b X20.here hx rfl (hb hby d15_40) rfl ?_
   exact hgo
 obtain ⟨cl23, Ar23, q23, S23, Nn23, H23, G23⟩ := V1.pad (pad_rep (bs.map Value.int) (.int 0) 1)
 have hin23 : ¬ ((Int32.ofNat bs.length) < 0 ∨ cl23.slots.size ≤ ((Int32.ofNat bs.length)).toNatClampNeg) := inb_of S23 ⟨own_nn (by omega), (own_lt (by omega) (by omega)).mpr hN⟩
 obtain ⟨T23, h23, X23, e23, W23, st23⟩ := stB X20 hx hZ e20 Ar23 (j := (Int32.ofNat bs.length)) hin23 (g := (mkF m 41 #[.val (.ref a1), .val (.int p2)] [(.int (p2.toInt8.toInt32)), (.int (Int32.ofNat bs.length)), (.ref b)])) rfl rfl (hb hby d15_41)
 replace hZn := Nat.le_trans hZn (Keep.of_wr W23).1
 replace hK := hK.wr W23 (Or.inl (List.mem_of_getElem? (i := 1) rfl))
 replace E1 := E1.wr W23
 replace Fv := Fv.other W23 (Or.inl hne)
 replace Fc := Fc.other W23 (Or.inl hne)
 replace Fd := Fd.other W23 (Or.inl hne)
 replace Eb := Eb.wr W23
 rw [own_nb hch] at W23
 have V1 : Arv Z h23 b k .byte (Int32.ofNat N) ((bs ++ [own_b p2]).map Value.int) (.int 0) := own_last (Arv.set Ar23 q23 S23 Nn23 H23 G23 (fits_nar_byte _) W23 bs.length (own_clamp (by omega)) (by simp))
 have N23 := Fr.snoc X23 N20 geb
 have R24 := Rc.st R22 st23
 have R25 : Rc p e below A0 (T23.setTop (mkF m 76 #[.val (.ref a1), .val (.int p2)] [(.ref a1)])) := by
   intro tgt hgo
   refine R24 tgt ?_
   show Steps p.tables e below (T23.setTop (mkF m 42 #[.val (.ref a1), .val (.int p2)] [])) _
   refine XS.goto X23.here hx rfl (pc0 := 42) (pc' := 75) rfl (hb hby d15_42) (by decide) (by decide) ?_
   refine XS.aloadN X23.here hx rfl (hb hby d15_75) rfl rfl ?_
   exact hgo
 subst hA0
 obtain ⟨fs, hr, hrun, hended, hW, hsame⟩ := X23.leave (v := some (.ref a1)) (fun h => by rw [Bd.returns] at h; cases h)
 refine ⟨_, _, R25 _ ?_, hrun, hended, _, _, rfl, ?_, ⟨_, rfl⟩, hW, hsame.mono (by decide) (by decide)⟩
 ·show Steps p.tables e below (T23.setTop (mkF m 76 #[.val (.ref a1), .val (.int p2)] [(.ref a1)])) _
  jvm_step X23.here [X23.here.top, hx, (hb hby d15_76), X23.method', Bd.returns, Value.isRef, FieldType.isReference]
  first | (intro acts; rw [hr _ acts rfl rfl rfl]) | rw [hr _ _ rfl rfl rfl]
  exact Steps.refl _
 ·show Qap Z a1 b N p2 bs h0 n0 _ T23.heap _
  rw [e23]
  refine ⟨rfl, N23, hK, b, k, ⟨E1, Fv, ?_, Fd, ?_, Eb, hne, ge1, geb⟩, Or.inl rfl⟩
  · rw [List.length_append]; show Fld Z _ a1 _ _ _ (.int (Int32.ofNat (bs.length + 1))); rw [← own_succ]; exact Fc
  · unfold own_cap; rw [if_pos hN]; exact V1
theorem ef_rm_apA3 (m : MethodId) (a1 : Addr) (p2 : Int32) : entryFrame m #[(.ref a1), (.int p2)] 2 = mkF m 0 #[.val (.ref a1), .val (.int p2)] [] := by first | (simp [entryFrame, mkF, argsToLocals, Value.category]; done) | rfl
set_option maxRecDepth 65536 in
set_option maxHeartbeats 40000000 in
theorem rm_apA3 (l : Launch) (Z : State) (a0 : Array Value) (hw : ∀ d ∈ tables_1, d.before a0 Z = true) (ws : List Jvm.Cond) (a1 : Addr) (p2 : Int32) (zc : Int32) (b : Addr) (k : ClassId) (bs : List Int32) (h0 : Heap) (n0 : Nat) (Z0 : n0 ≤ h0.size) (X00 : Old Z n0 h0) (S_cs : Sta Z Z.heap "java/lang/String" "COMPACT_STRINGS" "Z" (.int zc)) (hz : ¬ zc = 0) (hch : own_ch p2) (D0 : SBd Z h0 n0 a1 b k 3 bs) (hlen : bs.length = 3) :
    MetFree l yn15 (head1 (Jvm.Cond.code yn15 jdk_68_method_31_code 2 (some (.object "java/lang/AbstractStringBuilder")) :: ws) ({ frames := 4, cells := 1, slots := 12, locals := 62 } : Room)) (fun a U => a = #[(.ref a1), (.int p2)] ∧ Z.Warmed39 U.vm ∧ U.heap = h0) (fun _ _ _ _ _ => True) (fun _ U o U' => ∃ v L, o = .returned v ∧ Qap Z a1 b 3 p2 bs h0 n0 v U'.heap L ∧ FrameEnd U o U' L ({ frames := 4, cells := 1, slots := 12, locals := 62 } : Room).cells ({ frames := 4, cells := 1, slots := 12, locals := 62 } : Room).slots) := by
 refine MetFree.of_bodySF (plainFor_of_name pn_java_lang_AbstractStringBuilder) hisR ?_
 intro p e s m args below meth c s₁ Bd hml0 hP hK
 obtain ⟨rfl, hZ, hh⟩ := hP
 have hx := Bd.exec
 have hby := Bd.bytes
 have hml : c.maxLocals = 2 := hml0
 have hown : s.vm.findClass "java/lang/AbstractStringBuilder" = some m.cls := findClass_of_methodNamed Bd.named
 have hnm := (name_of_methodNamed Bd.named Bd.method).1
 have X0 : Stand p l e ({ frames := 4, cells := 1, slots := 12, locals := 62 } : Room) s m #[(.ref a1), (.int p2)] below meth c s₁ [] 0 0 := Stand.of_body Bd
 have e0 : s₁.heap = h0 := by rw [← hh, Bd.state]; rfl
 have N0 := Fr.nil n0
 obtain ⟨A0, hA0⟩ : ∃ A, A = s₁.setTop (entryFrame m #[(.ref a1), (.int p2)] 2) := ⟨_, rfl⟩
 have R0 : ∀ tgt, Steps p.tables e below (s₁.setTop (mkF m 0 #[.val (.ref a1), .val (.int p2)] [])) tgt → Steps p.tables e below A0 tgt := fun tgt hgo => by rw [hA0]; exact castTop (ef_rm_apA3 m a1 p2) hgo
 have w : ∀ (i : Nat) {d : Jvm.Cond}, tables_1[i]? = some d → d.before a0 Z = true := fun i d h => hw d (List.mem_of_getElem? h)
 obtain ⟨E1, Fv, Fc, Fd, V1, Eb, hne, ge1, geb⟩ := D0
 rw [hlen] at Fc
 have hZn := Z0
 have hK : Keep h0 h0 [a1, b] := Keep.refl _ _
 have R1 : Rc p e below A0 (s₁.setTop (mkF m 2 #[.val (.ref a1), .val (.int p2)] [(.ref a1), (.ref a1)])) := by
   intro tgt hgo
   refine R0 tgt ?_
   show Steps p.tables e below (s₁.setTop (mkF m 0 #[.val (.ref a1), .val (.int p2)] [])) _
   refine XS.aloadN X0.here hx rfl (hb hby d15_0) rfl rfl ?_
   refine XS.aloadN X0.here hx rfl (hb hby d15_1) rfl rfl ?_
   exact hgo
 obtain ⟨T2, X2, e2, st2⟩ := getF X0 hx hZ hown (host := "") (Or.inl (w 65 rfl)) Via.refl e0 Fc (g := (mkF m 2 #[.val (.ref a1), .val (.int p2)] [(.ref a1), (.ref a1)])) rfl rfl (hb hby d15_2)
 have R3 := Rc.st R1 st2
 have R4 : Rc p e below A0 (T2.setTop (mkF m 7 #[.val (.ref a1), .val (.int p2)] [(.int 4), (.ref a1)])) := by
   intro tgt hgo
   refine R3 tgt ?_
   show Steps p.tables e below (T2.setTop (mkF m 5 #[.val (.ref a1), .val (.int p2)] [(.int 3), (.ref a1)])) _
   refine XS.iconst X2.here hx rfl (hb hby d15_5) ?_
   refine XS.iadd X2.here hx rfl (hb hby d15_6) rfl ?_
   exact hgo
 obtain ⟨cq5, kq5, q5a, q5b, q5c⟩ := isOf hZ e2 E1
 obtain ⟨_, _, ⟨T5, L5, k5, n5⟩, -, X5, ⟨Lc5, hQ5, l5, y5, z5⟩, st5⟩ := X2.virtualBack hx (y := yn14) (z := yn14) hown (mvT hZ (w 67 rfl)) (mvT hZ (OwnKit.own_decl (w 68 rfl) (w 71 rfl))) (notFace_of_selects (args := #[]) (mvT hZ (w 70 rfl))) (mvT hZ (w 70 rfl)) (mvT hZ (w 68 rfl)) (by decide) (backOf (W := 0) (rm_ens3 l Z a0 hw [] a1 b k bs h0 n0 Z0 E1 Fv Fc Fd V1 Eb hlen ge1 hne) hZ (w 71 rfl) (w 47 rfl) (by decide) (by decide)) q5a q5c (g := (mkF m 7 #[.val (.ref a1), .val (.int p2)] [(.int 4), (.ref a1)])) rfl (by rw [hml]; rfl) (Steps.refl _) (argsL := [(.int 4)]) (rest := []) (lenOf pd_9 rfl) rfl (by show 2 * 0 + _ ≤ _; exact Nat.le_of_eq rfl) (hb hby d15_7) (fun _ _ => ⟨rfl, e2, (by decide : 0 + 1 ≤ _), (by decide : 0 + 8 ≤ _)⟩)
 dsimp only [Pt.U, Pt.locs, Pt.cells, Pt.slots] at X5 l5 y5 z5 st5 hQ5
 subst l5 y5 z5
 obtain ⟨rfl, N5q, K5, t, kt, ge_t, sz_t, ne_a1_t, f1, f2, f3, f4, f5⟩ := hQ5
 have N5 := Fr.app N0 N5q
 have R6 := Rc.tr R4 st5
 have ne_b_t : b ≠ t := Nat.ne_of_lt (Nat.lt_of_lt_of_le V1.lt sz_t)
 replace hZn := Nat.le_trans hZn K5.1
 replace hK := hK.trans K5 (allS (Or.inl (List.mem_of_getElem? (i := 0) rfl)) all0)
 replace E1 := E1.keep K5
 replace V1 := V1.keep K5 (ninS (Ne.symm hne) nin0)
 replace Eb := Eb.keep K5
 replace X00 := X00.keep K5 (allS ge1 all0)
 have Fv := f1
 have Fc := f2
 have Fd := f3
 have Vt := f4
 have Et := f5
 have R7 : Rc p e below A0 (T5.setTop (mkF m 11 #[.val (.ref a1), .val (.int p2)] [(.ref a1)])) := by
   intro tgt hgo
   refine R6 tgt ?_
   show Steps p.tables e below (T5.setTop (mkF m 10 #[.val (.ref a1), .val (.int p2)] [])) _
   refine XS.aloadN X5.here hx rfl (hb hby d15_10) rfl rfl ?_
   exact hgo
 obtain ⟨cq8, kq8, q8a, q8b, q8c⟩ := isOf hZ rfl E1
 obtain ⟨_, _, ⟨T8, L8, k8, n8⟩, -, X8, ⟨Lc8, hQ8, l8, y8, z8⟩, st8⟩ := X5.virtualBack hx (y := yn9) (z := yn9) hown (mvT hZ (w 72 rfl)) (mvT hZ (w 73 rfl)) (notFace_of_selects (args := #[]) (mvT hZ (w 75 rfl))) (mvT hZ (w 75 rfl)) (mvT hZ (w 74 rfl)) (by decide) (backOf (W := 0) (rm_asl l Z a0 hw [] a1 zc T5.heap n0 hZn X00 S_cs hz Fd) hZ (w 76 rfl) (w 47 rfl) (by decide) (by decide)) q8a q8c (g := (mkF m 11 #[.val (.ref a1), .val (.int p2)] [(.ref a1)])) rfl (by rw [hml]; rfl) (Steps.refl _) (argsL := []) (rest := []) (lenOf pd_3 rfl) rfl (by show 2 * 0 + _ ≤ _; exact Nat.le_of_eq rfl) (hb hby d15_11) (fun _ _ => ⟨rfl, rfl, (by decide : 1 + 0 ≤ _), (by decide : 8 + 0 ≤ _)⟩)
 dsimp only [Pt.U, Pt.locs, Pt.cells, Pt.slots] at X8 l8 y8 z8 st8 hQ8
 subst l8 y8 z8
 obtain ⟨rfl, N8q, e8⟩ := hQ8
 have N8 := Fr.app N5 N8q
 have R9 := Rc.tr R7 st8
 have R10 : Rc p e below A0 (T8.setTop (mkF m 18 #[.val (.ref a1), .val (.int p2)] [(.int p2)])) := by
   intro tgt hgo
   refine R9 tgt ?_
   show Steps p.tables e below (T8.setTop (mkF m 14 #[.val (.ref a1), .val (.int p2)] [(.int 1)])) _
   refine XS.ifNo X8.here hx rfl (hb hby d15_14) rfl ((if0 _ _).trans (feq (by decide : ¬ ((1 : Int32) = (0 : Int32)))).1) ?_
   refine XS.iloadN X8.here hx rfl (hb hby d15_17) rfl ?_
   exact hgo
 obtain ⟨_, _, ⟨T11, L11, k11, n11⟩, -, X11, ⟨Lc11, hQ11, l11, y11, z11⟩, st11⟩ := Jvm.LawKit.callS X8 hx (y := yn10) hown (mvT hZ (w 77 rfl)) (mvT hZ (w 78 rfl)) (mvT hZ (w 79 rfl)) (mvT hZ (w 80 rfl)) (by decide) (backOf (W := 0) (rm_cen l Z a0 hw [] p2 T5.heap n0 hZn hch) hZ (w 80 rfl) (w 79 rfl) (by decide) (by decide)) (g := (mkF m 18 #[.val (.ref a1), .val (.int p2)] [(.int p2)])) rfl (by rw [hml]; rfl) (argsL := [(.int p2)]) (rest := []) (lenOf pd_10 rfl) rfl (by show 2 * 0 + _ ≤ _; exact Nat.le_of_eq rfl) (hb hby d15_18) (fun _ _ => ⟨rfl, e8, (by decide : 1 + 0 ≤ _), (by decide : 8 + 0 ≤ _)⟩)
 dsimp only [Pt.U, Pt.locs, Pt.cells, Pt.slots] at X11 l11 y11 z11 st11 hQ11
 subst l11 y11 z11
 obtain ⟨rfl, N11q, e11⟩ := hQ11
 have N11 := Fr.app N8 N11q
 have R12 := Rc.st R10 st11
 have R13 : Rc p e below A0 (T11.setTop (mkF m 25 #[.val (.ref a1), .val (.int p2)] [(.ref a1)])) := by
   intro tgt hgo
   refine R12 tgt ?_
   show Steps p.tables e below (T11.setTop (mkF m 21 #[.val (.ref a1), .val (.int p2)] [(.int 1)])) _
   refine XS.ifNo X11.here hx rfl (hb hby d15_21) rfl ((if0 _ _).trans (feq (by decide : ¬ ((1 : Int32) = (0 : Int32)))).1) ?_
   refine XS.aloadN X11.here hx rfl (hb hby d15_24) rfl rfl ?_
   exact hgo
 obtain ⟨T14, X14, e14, st14⟩ := getF X11 hx hZ hown (host := "") (Or.inl (w 51 rfl)) Via.refl e11 Fv (g := (mkF m 25 #[.val (.ref a1), .val (.int p2)] [(.ref a1)])) rfl rfl (hb hby d15_25)
 have R15 := Rc.st R13 st14
 have R16 : Rc p e below A0 (T14.setTop (mkF m 30 #[.val (.ref a1), .val (.int p2)] [(.ref a1), (.ref a1), (.ref t)])) := by
   intro tgt hgo
   refine R15 tgt ?_
   show Steps p.tables e below (T14.setTop (mkF m 28 #[.val (.ref a1), .val (.int p2)] [(.ref t)])) _
   refine XS.aloadN X14.here hx rfl (hb hby d15_28) rfl rfl ?_
   refine XS.dup X14.here hx rfl (hb hby d15_29) rfl rfl ?_
   exact hgo
 obtain ⟨T17, X17, e17, st17⟩ := getF X14 hx hZ hown (host := "") (Or.inl (w 65 rfl)) Via.refl e14 Fc (g := (mkF m 30 #[.val (.ref a1), .val (.int p2)] [(.ref a1), (.ref a1), (.ref t)])) rfl rfl (hb hby d15_30)
 have R18 := Rc.st R16 st17
 have R19 : Rc p e below A0 (T17.setTop (mkF m 36 #[.val (.ref a1), .val (.int p2)] [(.int 4), (.ref a1), (.int 3), (.ref t)])) := by
   intro tgt hgo
   refine R18 tgt ?_
   show Steps p.tables e below (T17.setTop (mkF m 33 #[.val (.ref a1), .val (.int p2)] [(.int 3), (.ref a1), (.ref t)])) _
   refine XS.dupX1 X17.here hx rfl (hb hby d15_33) rfl rfl rfl ?_
   refine XS.iconst X17.here hx rfl (hb hby d15_34) ?_
   refine XS.iadd X17.here hx rfl (hb hby d15_35) rfl ?_
   exact hgo
 obtain ⟨T20, h20, X20, e20, W20, st20⟩ := putF X17 hx hZ hown (host := "") (Or.inl (w 65 rfl)) Via.refl e17 Fc E1 (Or.inl (w 66 rfl)) (w 27 rfl) (ty := .int) (by decide) rfl rfl (g := (mkF m 36 #[.val (.ref a1), .val (.int p2)] [(.int 4), (.ref a1), (.int 3), (.ref t)])) rfl rfl (hb hby d15_36)
 have N20 := Fr.snoc X20 N11 ge1
 replace hZn := Nat.le_trans hZn (Keep.of_wr W20).1
 replace hK := hK.wr W20 (Or.inl (List.mem_of_getElem? (i := 0) rfl))
 replace E1 := E1.wr W20
 replace V1 := V1.other W20 (Ne.symm hne)
 replace Eb := Eb.wr W20
 replace Fv := Fv.other W20 (Or.inr (slot_ne (Or.inl (w 52 rfl)) (Or.inl (w 66 rfl)) (by decide) (t := (.array .byte)) (t' := .int) (by decide) (by decide)))
 replace Fc := Fc.same W20
 replace Fd := Fd.other W20 (Or.inr (slot_ne (Or.inl (w 54 rfl)) (Or.inl (w 66 rfl)) (by decide) (t := .byte) (t' := .int) (by decide) (by decide)))
 replace Vt := Vt.other W20 (Ne.symm ne_a1_t)
 replace Et := Et.wr W20
 have R21 := Rc.st R19 st20
 have R22 : Rc p e below A0 (T20.setTop (mkF m 41 #[.val (.ref a1), .val (.int p2)] [(.int (p2.toInt8.toInt32)), (.int 3), (.ref t)])) := by
   intro tgt hgo
   refine R21 tgt ?_
   show Steps p.tables e below (T20.setTop (mkF m 39 #[.val (.ref a1), .val (.int p2)] [(.int 3), (.ref t)])) _
   refine XS.iloadN X20.here hx rfl (hb hby d15_39) rfl ?_
   refine XS.i2b X20.here hx rfl (hb hby d15_40) rfl ?_
   exact hgo
 obtain ⟨cl23, Ar23, q23, S23, Nn23, H23, G23⟩ := Vt.pad (pad_rep (bs.map Value.int) (.int 0) 1)
 have hin23 : ¬ ((3 : Int32) < 0 ∨ cl23.slots.size ≤ ((3 : Int32)).toNatClampNeg) := inb_of S23 ⟨by decide, by decide⟩
 obtain ⟨T23, h23, X23, e23, W23, st23⟩ := stB X20 hx hZ e20 Ar23 (j := (3 : Int32)) hin23 (g := (mkF m 41 #[.val (.ref a1), .val (.int p2)] [(.int (p2.toInt8.toInt32)), (.int 3), (.ref t)])) rfl rfl (hb hby d15_41)
 replace hZn := Nat.le_trans hZn (Keep.of_wr W23).1
 replace hK := hK.wr W23 (Or.inr sz_t)
 replace E1 := E1.wr W23
 replace V1 := V1.other W23 ne_b_t
 replace Eb := Eb.wr W23
 replace Fv := Fv.other W23 (Or.inl ne_a1_t)
 replace Fc := Fc.other W23 (Or.inl ne_a1_t)
 replace Fd := Fd.other W23 (Or.inl ne_a1_t)
 replace Et := Et.wr W23
 rw [own_nb hch] at W23
 have Vt : Arv Z h23 t kt .byte (8 : Int32) ((bs ++ [own_b p2]).map Value.int) (.int 0) := own_last (Arv.set Ar23 q23 S23 Nn23 H23 G23 (fits_nar_byte _) W23 bs.length (by rw [hlen]; rfl) (by simp))
 have N23 := Fr.snoc X23 N20 ge_t
 have R24 := Rc.st R22 st23
 have R25 : Rc p e below A0 (T23.setTop (mkF m 76 #[.val (.ref a1), .val (.int p2)] [(.ref a1)])) := by
   intro tgt hgo
   refine R24 tgt ?_
   show Steps p.tables e below (T23.setTop (mkF m 42 #[.val (.ref a1), .val (.int p2)] [])) _
   refine XS.goto X23.here hx rfl (pc0 := 42) (pc' := 75) rfl (hb hby d15_42) (by decide) (by decide) ?_
   refine XS.aloadN X23.here hx rfl (hb hby d15_75) rfl rfl ?_
   exact hgo
 subst hA0
 obtain ⟨fs, hr, hrun, hended, hW, hsame⟩ := X23.leave (v := some (.ref a1)) (fun h => by rw [Bd.returns] at h; cases h)
 refine ⟨_, _, R25 _ ?_, hrun, hended, _, _, rfl, ?_, ⟨_, rfl⟩, hW, hsame.mono (by decide) (by decide)⟩
 ·show Steps p.tables e below (T23.setTop (mkF m 76 #[.val (.ref a1), .val (.int p2)] [(.ref a1)])) _
  jvm_step X23.here [X23.here.top, hx, (hb hby d15_76), X23.method', Bd.returns, Value.isRef, FieldType.isReference]
  first | (intro acts; rw [hr _ acts rfl rfl rfl]) | rw [hr _ _ rfl rfl rfl]
  exact Steps.refl _
 ·show Qap Z a1 b 3 p2 bs h0 n0 _ T23.heap _
  rw [e23]
  refine ⟨rfl, N23, hK, t, kt, ⟨E1, Fv, ?_, Fd, ?_, Et, ne_a1_t, ge1, ge_t⟩, Or.inr sz_t⟩
  · rw [List.length_append, hlen]; exact Fc
  · unfold own_cap; rw [hlen, if_neg (by omega)]; exact Vt
theorem ef_rm_apA4 (m : MethodId) (a1 : Addr) (p2 : Int32) : entryFrame m #[(.ref a1), (.int p2)] 2 = mkF m 0 #[.val (.ref a1), .val (.int p2)] [] := by first | (simp [entryFrame, mkF, argsToLocals, Value.category]; done) | rfl
set_option maxRecDepth 65536 in
set_option maxHeartbeats 40000000 in
theorem rm_apA4 (l : Launch) (Z : State) (a0 : Array Value) (hw : ∀ d ∈ tables_1, d.before a0 Z = true) (ws : List Jvm.Cond) (a1 : Addr) (p2 : Int32) (zc : Int32) (b : Addr) (k : ClassId) (bs : List Int32) (h0 : Heap) (n0 : Nat) (Z0 : n0 ≤ h0.size) (X00 : Old Z n0 h0) (S_cs : Sta Z Z.heap "java/lang/String" "COMPACT_STRINGS" "Z" (.int zc)) (hz : ¬ zc = 0) (hch : own_ch p2) (D0 : SBd Z h0 n0 a1 b k 4 bs) (hlen : bs.length = 4) :
    MetFree l yn15 (head1 (Jvm.Cond.code yn15 jdk_68_method_31_code 2 (some (.object "java/lang/AbstractStringBuilder")) :: ws) ({ frames := 4, cells := 1, slots := 12, locals := 62 } : Room)) (fun a U => a = #[(.ref a1), (.int p2)] ∧ Z.Warmed39 U.vm ∧ U.heap = h0) (fun _ _ _ _ _ => True) (fun _ U o U' => ∃ v L, o = .returned v ∧ Qap Z a1 b 4 p2 bs h0 n0 v U'.heap L ∧ FrameEnd U o U' L ({ frames := 4, cells := 1, slots := 12, locals := 62 } : Room).cells ({ frames := 4, cells := 1, slots := 12, locals := 62 } : Room).slots) := by
 refine MetFree.of_bodySF (plainFor_of_name pn_java_lang_AbstractStringBuilder) hisR ?_
 intro p e s m args below meth c s₁ Bd hml0 hP hK
 obtain ⟨rfl, hZ, hh⟩ := hP
 have hx := Bd.exec
 have hby := Bd.bytes
 have hml : c.maxLocals = 2 := hml0
 have hown : s.vm.findClass "java/lang/AbstractStringBuilder" = some m.cls := findClass_of_methodNamed Bd.named
 have hnm := (name_of_methodNamed Bd.named Bd.method).1
 have X0 : Stand p l e ({ frames := 4, cells := 1, slots := 12, locals := 62 } : Room) s m #[(.ref a1), (.int p2)] below meth c s₁ [] 0 0 := Stand.of_body Bd
 have e0 : s₁.heap = h0 := by rw [← hh, Bd.state]; rfl
 have N0 := Fr.nil n0
 obtain ⟨A0, hA0⟩ : ∃ A, A = s₁.setTop (entryFrame m #[(.ref a1), (.int p2)] 2) := ⟨_, rfl⟩
 have R0 : ∀ tgt, Steps p.tables e below (s₁.setTop (mkF m 0 #[.val (.ref a1), .val (.int p2)] [])) tgt → Steps p.tables e below A0 tgt := fun tgt hgo => by rw [hA0]; exact castTop (ef_rm_apA4 m a1 p2) hgo
 have w : ∀ (i : Nat) {d : Jvm.Cond}, tables_1[i]? = some d → d.before a0 Z = true := fun i d h => hw d (List.mem_of_getElem? h)
 obtain ⟨E1, Fv, Fc, Fd, V1, Eb, hne, ge1, geb⟩ := D0
 rw [hlen] at Fc
 have hZn := Z0
 have hK : Keep h0 h0 [a1, b] := Keep.refl _ _
 have R1 : Rc p e below A0 (s₁.setTop (mkF m 2 #[.val (.ref a1), .val (.int p2)] [(.ref a1), (.ref a1)])) := by
   intro tgt hgo
   refine R0 tgt ?_
   show Steps p.tables e below (s₁.setTop (mkF m 0 #[.val (.ref a1), .val (.int p2)] [])) _
   refine XS.aloadN X0.here hx rfl (hb hby d15_0) rfl rfl ?_
   refine XS.aloadN X0.here hx rfl (hb hby d15_1) rfl rfl ?_
   exact hgo
 obtain ⟨T2, X2, e2, st2⟩ := getF X0 hx hZ hown (host := "") (Or.inl (w 65 rfl)) Via.refl e0 Fc (g := (mkF m 2 #[.val (.ref a1), .val (.int p2)] [(.ref a1), (.ref a1)])) rfl rfl (hb hby d15_2)
 have R3 := Rc.st R1 st2
 have R4 : Rc p e below A0 (T2.setTop (mkF m 7 #[.val (.ref a1), .val (.int p2)] [(.int 5), (.ref a1)])) := by
   intro tgt hgo
   refine R3 tgt ?_
   show Steps p.tables e below (T2.setTop (mkF m 5 #[.val (.ref a1), .val (.int p2)] [(.int 4), (.ref a1)])) _
   refine XS.iconst X2.here hx rfl (hb hby d15_5) ?_
   refine XS.iadd X2.here hx rfl (hb hby d15_6) rfl ?_
   exact hgo
 obtain ⟨cq5, kq5, q5a, q5b, q5c⟩ := isOf hZ e2 E1
 obtain ⟨_, _, ⟨T5, L5, k5, n5⟩, -, X5, ⟨Lc5, hQ5, l5, y5, z5⟩, st5⟩ := X2.virtualBack hx (y := yn14) (z := yn14) hown (mvT hZ (w 67 rfl)) (mvT hZ (OwnKit.own_decl (w 68 rfl) (w 71 rfl))) (notFace_of_selects (args := #[]) (mvT hZ (w 70 rfl))) (mvT hZ (w 70 rfl)) (mvT hZ (w 68 rfl)) (by decide) (backOf (W := 0) (rm_ens4 l Z a0 hw [] a1 b k bs h0 n0 Z0 E1 Fv Fc Fd V1 Eb hlen ge1 hne) hZ (w 71 rfl) (w 47 rfl) (by decide) (by decide)) q5a q5c (g := (mkF m 7 #[.val (.ref a1), .val (.int p2)] [(.int 5), (.ref a1)])) rfl (by rw [hml]; rfl) (Steps.refl _) (argsL := [(.int 5)]) (rest := []) (lenOf pd_9 rfl) rfl (by show 2 * 0 + _ ≤ _; exact Nat.le_of_eq rfl) (hb hby d15_7) (fun _ _ => ⟨rfl, e2, (by decide : 0 + 1 ≤ _), (by decide : 0 + 10 ≤ _)⟩)
 dsimp only [Pt.U, Pt.locs, Pt.cells, Pt.slots] at X5 l5 y5 z5 st5 hQ5
 subst l5 y5 z5
 obtain ⟨rfl, N5q, K5, t, kt, ge_t, sz_t, ne_a1_t, f1, f2, f3, f4, f5⟩ := hQ5
 have N5 := Fr.app N0 N5q
 have R6 := Rc.tr R4 st5
 have ne_b_t : b ≠ t := Nat.ne_of_lt (Nat.lt_of_lt_of_le V1.lt sz_t)
 replace hZn := Nat.le_trans hZn K5.1
 replace hK := hK.trans K5 (allS (Or.inl (List.mem_of_getElem? (i := 0) rfl)) all0)
 replace E1 := E1.keep K5
 replace V1 := V1.keep K5 (ninS (Ne.symm hne) nin0)
 replace Eb := Eb.keep K5
 replace X00 := X00.keep K5 (allS ge1 all0)
 have Fv := f1
 have Fc := f2
 have Fd := f3
 have Vt := f4
 have Et := f5
 have R7 : Rc p e below A0 (T5.setTop (mkF m 11 #[.val (.ref a1), .val (.int p2)] [(.ref a1)])) := by
   intro tgt hgo
   refine R6 tgt ?_
   show Steps p.tables e below (T5.setTop (mkF m 10 #[.val (.ref a1), .val (.int p2)] [])) _
   refine XS.aloadN X5.here hx rfl (hb hby d15_10) rfl rfl ?_
   exact hgo
 obtain ⟨cq8, kq8, q8a, q8b, q8c⟩ := isOf hZ rfl E1
 obtain ⟨_, _, ⟨T8, L8, k8, n8⟩, -, X8, ⟨Lc8, hQ8, l8, y8, z8⟩, st8⟩ := X5.virtualBack hx (y := yn9) (z := yn9) hown (mvT hZ (w 72 rfl)) (mvT hZ (w 73 rfl)) (notFace_of_selects (args := #[]) (mvT hZ (w 75 rfl))) (mvT hZ (w 75 rfl)) (mvT hZ (w 74 rfl)) (by decide) (backOf (W := 0) (rm_asl l Z a0 hw [] a1 zc T5.heap n0 hZn X00 S_cs hz Fd) hZ (w 76 rfl) (w 47 rfl) (by decide) (by decide)) q8a q8c (g := (mkF m 11 #[.val (.ref a1), .val (.int p2)] [(.ref a1)])) rfl (by rw [hml]; rfl) (Steps.refl _) (argsL := []) (rest := []) (lenOf pd_3 rfl) rfl (by show 2 * 0 + _ ≤ _; exact Nat.le_of_eq rfl) (hb hby d15_11) (fun _ _ => ⟨rfl, rfl, (by decide : 1 + 0 ≤ _), (by decide : 10 + 0 ≤ _)⟩)
 dsimp only [Pt.U, Pt.locs, Pt.cells, Pt.slots] at X8 l8 y8 z8 st8 hQ8
 subst l8 y8 z8
 obtain ⟨rfl, N8q, e8⟩ := hQ8
 have N8 := Fr.app N5 N8q
 have R9 := Rc.tr R7 st8
 have R10 : Rc p e below A0 (T8.setTop (mkF m 18 #[.val (.ref a1), .val (.int p2)] [(.int p2)])) := by
   intro tgt hgo
   refine R9 tgt ?_
   show Steps p.tables e below (T8.setTop (mkF m 14 #[.val (.ref a1), .val (.int p2)] [(.int 1)])) _
   refine XS.ifNo X8.here hx rfl (hb hby d15_14) rfl ((if0 _ _).trans (feq (by decide : ¬ ((1 : Int32) = (0 : Int32)))).1) ?_
   refine XS.iloadN X8.here hx rfl (hb hby d15_17) rfl ?_
   exact hgo
 obtain ⟨_, _, ⟨T11, L11, k11, n11⟩, -, X11, ⟨Lc11, hQ11, l11, y11, z11⟩, st11⟩ := Jvm.LawKit.callS X8 hx (y := yn10) hown (mvT hZ (w 77 rfl)) (mvT hZ (w 78 rfl)) (mvT hZ (w 79 rfl)) (mvT hZ (w 80 rfl)) (by decide) (backOf (W := 0) (rm_cen l Z a0 hw [] p2 T5.heap n0 hZn hch) hZ (w 80 rfl) (w 79 rfl) (by decide) (by decide)) (g := (mkF m 18 #[.val (.ref a1), .val (.int p2)] [(.int p2)])) rfl (by rw [hml]; rfl) (argsL := [(.int p2)]) (rest := []) (lenOf pd_10 rfl) rfl (by show 2 * 0 + _ ≤ _; exact Nat.le_of_eq rfl) (hb hby d15_18) (fun _ _ => ⟨rfl, e8, (by decide : 1 + 0 ≤ _), (by decide : 10 + 0 ≤ _)⟩)
 dsimp only [Pt.U, Pt.locs, Pt.cells, Pt.slots] at X11 l11 y11 z11 st11 hQ11
 subst l11 y11 z11
 obtain ⟨rfl, N11q, e11⟩ := hQ11
 have N11 := Fr.app N8 N11q
 have R12 := Rc.st R10 st11
 have R13 : Rc p e below A0 (T11.setTop (mkF m 25 #[.val (.ref a1), .val (.int p2)] [(.ref a1)])) := by
   intro tgt hgo
   refine R12 tgt ?_
   show Steps p.tables e below (T11.setTop (mkF m 21 #[.val (.ref a1), .val (.int p2)] [(.int 1)])) _
   refine XS.ifNo X11.here hx rfl (hb hby d15_21) rfl ((if0 _ _).trans (feq (by decide : ¬ ((1 : Int32) = (0 : Int32)))).1) ?_
   refine XS.aloadN X11.here hx rfl (hb hby d15_24) rfl rfl ?_
   exact hgo
 obtain ⟨T14, X14, e14, st14⟩ := getF X11 hx hZ hown (host := "") (Or.inl (w 51 rfl)) Via.refl e11 Fv (g := (mkF m 25 #[.val (.ref a1), .val (.int p2)] [(.ref a1)])) rfl rfl (hb hby d15_25)
 have R15 := Rc.st R13 st14
 have R16 : Rc p e below A0 (T14.setTop (mkF m 30 #[.val (.ref a1), .val (.int p2)] [(.ref a1), (.ref a1), (.ref t)])) := by
   intro tgt hgo
   refine R15 tgt ?_
   show Steps p.tables e below (T14.setTop (mkF m 28 #[.val (.ref a1), .val (.int p2)] [(.ref t)])) _
   refine XS.aloadN X14.here hx rfl (hb hby d15_28) rfl rfl ?_
   refine XS.dup X14.here hx rfl (hb hby d15_29) rfl rfl ?_
   exact hgo
 obtain ⟨T17, X17, e17, st17⟩ := getF X14 hx hZ hown (host := "") (Or.inl (w 65 rfl)) Via.refl e14 Fc (g := (mkF m 30 #[.val (.ref a1), .val (.int p2)] [(.ref a1), (.ref a1), (.ref t)])) rfl rfl (hb hby d15_30)
 have R18 := Rc.st R16 st17
 have R19 : Rc p e below A0 (T17.setTop (mkF m 36 #[.val (.ref a1), .val (.int p2)] [(.int 5), (.ref a1), (.int 4), (.ref t)])) := by
   intro tgt hgo
   refine R18 tgt ?_
   show Steps p.tables e below (T17.setTop (mkF m 33 #[.val (.ref a1), .val (.int p2)] [(.int 4), (.ref a1), (.ref t)])) _
   refine XS.dupX1 X17.here hx rfl (hb hby d15_33) rfl rfl rfl ?_
   refine XS.iconst X17.here hx rfl (hb hby d15_34) ?_
   refine XS.iadd X17.here hx rfl (hb hby d15_35) rfl ?_
   exact hgo
 obtain ⟨T20, h20, X20, e20, W20, st20⟩ := putF X17 hx hZ hown (host := "") (Or.inl (w 65 rfl)) Via.refl e17 Fc E1 (Or.inl (w 66 rfl)) (w 27 rfl) (ty := .int) (by decide) rfl rfl (g := (mkF m 36 #[.val (.ref a1), .val (.int p2)] [(.int 5), (.ref a1), (.int 4), (.ref t)])) rfl rfl (hb hby d15_36)
 have N20 := Fr.snoc X20 N11 ge1
 replace hZn := Nat.le_trans hZn (Keep.of_wr W20).1
 replace hK := hK.wr W20 (Or.inl (List.mem_of_getElem? (i := 0) rfl))
 replace E1 := E1.wr W20
 replace V1 := V1.other W20 (Ne.symm hne)
 replace Eb := Eb.wr W20
 replace Fv := Fv.other W20 (Or.inr (slot_ne (Or.inl (w 52 rfl)) (Or.inl (w 66 rfl)) (by decide) (t := (.array .byte)) (t' := .int) (by decide) (by decide)))
 replace Fc := Fc.same W20
 replace Fd := Fd.other W20 (Or.inr (slot_ne (Or.inl (w 54 rfl)) (Or.inl (w 66 rfl)) (by decide) (t := .byte) (t' := .int) (by decide) (by decide)))
 replace Vt := Vt.other W20 (Ne.symm ne_a1_t)
 replace Et := Et.wr W20
 have R21 := Rc.st R19 st20
 have R22 : Rc p e below A0 (T20.setTop (mkF m 41 #[.val (.ref a1), .val (.int p2)] [(.int (p2.toInt8.toInt32)), (.int 4), (.ref t)])) := by
   intro tgt hgo
   refine R21 tgt ?_
   show Steps p.tables e below (T20.setTop (mkF m 39 #[.val (.ref a1), .val (.int p2)] [(.int 4), (.ref t)])) _
   refine XS.iloadN X20.here hx rfl (hb hby d15_39) rfl ?_
   refine XS.i2b X20.here hx rfl (hb hby d15_40) rfl ?_
   exact hgo
 obtain ⟨cl23, Ar23, q23, S23, Nn23, H23, G23⟩ := Vt.pad (pad_rep (bs.map Value.int) (.int 0) 1)
 have hin23 : ¬ ((4 : Int32) < 0 ∨ cl23.slots.size ≤ ((4 : Int32)).toNatClampNeg) := inb_of S23 ⟨by decide, by decide⟩
 obtain ⟨T23, h23, X23, e23, W23, st23⟩ := stB X20 hx hZ e20 Ar23 (j := (4 : Int32)) hin23 (g := (mkF m 41 #[.val (.ref a1), .val (.int p2)] [(.int (p2.toInt8.toInt32)), (.int 4), (.ref t)])) rfl rfl (hb hby d15_41)
 replace hZn := Nat.le_trans hZn (Keep.of_wr W23).1
 replace hK := hK.wr W23 (Or.inr sz_t)
 replace E1 := E1.wr W23
 replace V1 := V1.other W23 ne_b_t
 replace Eb := Eb.wr W23
 replace Fv := Fv.other W23 (Or.inl ne_a1_t)
 replace Fc := Fc.other W23 (Or.inl ne_a1_t)
 replace Fd := Fd.other W23 (Or.inl ne_a1_t)
 replace Et := Et.wr W23
 rw [own_nb hch] at W23
 have Vt : Arv Z h23 t kt .byte (10 : Int32) ((bs ++ [own_b p2]).map Value.int) (.int 0) := own_last (Arv.set Ar23 q23 S23 Nn23 H23 G23 (fits_nar_byte _) W23 bs.length (by rw [hlen]; rfl) (by simp))
 have N23 := Fr.snoc X23 N20 ge_t
 have R24 := Rc.st R22 st23
 have R25 : Rc p e below A0 (T23.setTop (mkF m 76 #[.val (.ref a1), .val (.int p2)] [(.ref a1)])) := by
   intro tgt hgo
   refine R24 tgt ?_
   show Steps p.tables e below (T23.setTop (mkF m 42 #[.val (.ref a1), .val (.int p2)] [])) _
   refine XS.goto X23.here hx rfl (pc0 := 42) (pc' := 75) rfl (hb hby d15_42) (by decide) (by decide) ?_
   refine XS.aloadN X23.here hx rfl (hb hby d15_75) rfl rfl ?_
   exact hgo
 subst hA0
 obtain ⟨fs, hr, hrun, hended, hW, hsame⟩ := X23.leave (v := some (.ref a1)) (fun h => by rw [Bd.returns] at h; cases h)
 refine ⟨_, _, R25 _ ?_, hrun, hended, _, _, rfl, ?_, ⟨_, rfl⟩, hW, hsame.mono (by decide) (by decide)⟩
 ·show Steps p.tables e below (T23.setTop (mkF m 76 #[.val (.ref a1), .val (.int p2)] [(.ref a1)])) _
  jvm_step X23.here [X23.here.top, hx, (hb hby d15_76), X23.method', Bd.returns, Value.isRef, FieldType.isReference]
  first | (intro acts; rw [hr _ acts rfl rfl rfl]) | rw [hr _ _ rfl rfl rfl]
  exact Steps.refl _
 ·show Qap Z a1 b 4 p2 bs h0 n0 _ T23.heap _
  rw [e23]
  refine ⟨rfl, N23, hK, t, kt, ⟨E1, Fv, ?_, Fd, ?_, Et, ne_a1_t, ge1, ge_t⟩, Or.inr sz_t⟩
  · rw [List.length_append, hlen]; exact Fc
  · unfold own_cap; rw [hlen, if_neg (by omega)]; exact Vt
theorem ef_rm_apA5 (m : MethodId) (a1 : Addr) (p2 : Int32) : entryFrame m #[(.ref a1), (.int p2)] 2 = mkF m 0 #[.val (.ref a1), .val (.int p2)] [] := by first | (simp [entryFrame, mkF, argsToLocals, Value.category]; done) | rfl
set_option maxRecDepth 65536 in
set_option maxHeartbeats 40000000 in
theorem rm_apA5 (l : Launch) (Z : State) (a0 : Array Value) (hw : ∀ d ∈ tables_1, d.before a0 Z = true) (ws : List Jvm.Cond) (a1 : Addr) (p2 : Int32) (zc : Int32) (b : Addr) (k : ClassId) (bs : List Int32) (h0 : Heap) (n0 : Nat) (Z0 : n0 ≤ h0.size) (X00 : Old Z n0 h0) (S_cs : Sta Z Z.heap "java/lang/String" "COMPACT_STRINGS" "Z" (.int zc)) (hz : ¬ zc = 0) (hch : own_ch p2) (D0 : SBd Z h0 n0 a1 b k 5 bs) (hlen : bs.length = 5) :
    MetFree l yn15 (head1 (Jvm.Cond.code yn15 jdk_68_method_31_code 2 (some (.object "java/lang/AbstractStringBuilder")) :: ws) ({ frames := 4, cells := 1, slots := 12, locals := 62 } : Room)) (fun a U => a = #[(.ref a1), (.int p2)] ∧ Z.Warmed39 U.vm ∧ U.heap = h0) (fun _ _ _ _ _ => True) (fun _ U o U' => ∃ v L, o = .returned v ∧ Qap Z a1 b 5 p2 bs h0 n0 v U'.heap L ∧ FrameEnd U o U' L ({ frames := 4, cells := 1, slots := 12, locals := 62 } : Room).cells ({ frames := 4, cells := 1, slots := 12, locals := 62 } : Room).slots) := by
 refine MetFree.of_bodySF (plainFor_of_name pn_java_lang_AbstractStringBuilder) hisR ?_
 intro p e s m args below meth c s₁ Bd hml0 hP hK
 obtain ⟨rfl, hZ, hh⟩ := hP
 have hx := Bd.exec
 have hby := Bd.bytes
 have hml : c.maxLocals = 2 := hml0
 have hown : s.vm.findClass "java/lang/AbstractStringBuilder" = some m.cls := findClass_of_methodNamed Bd.named
 have hnm := (name_of_methodNamed Bd.named Bd.method).1
 have X0 : Stand p l e ({ frames := 4, cells := 1, slots := 12, locals := 62 } : Room) s m #[(.ref a1), (.int p2)] below meth c s₁ [] 0 0 := Stand.of_body Bd
 have e0 : s₁.heap = h0 := by rw [← hh, Bd.state]; rfl
 have N0 := Fr.nil n0
 obtain ⟨A0, hA0⟩ : ∃ A, A = s₁.setTop (entryFrame m #[(.ref a1), (.int p2)] 2) := ⟨_, rfl⟩
 have R0 : ∀ tgt, Steps p.tables e below (s₁.setTop (mkF m 0 #[.val (.ref a1), .val (.int p2)] [])) tgt → Steps p.tables e below A0 tgt := fun tgt hgo => by rw [hA0]; exact castTop (ef_rm_apA5 m a1 p2) hgo
 have w : ∀ (i : Nat) {d : Jvm.Cond}, tables_1[i]? = some d → d.before a0 Z = true := fun i d h => hw d (List.mem_of_getElem? h)
 obtain ⟨E1, Fv, Fc, Fd, V1, Eb, hne, ge1, geb⟩ := D0
 rw [hlen] at Fc
 have hZn := Z0
 have hK : Keep h0 h0 [a1, b] := Keep.refl _ _
 have R1 : Rc p e below A0 (s₁.setTop (mkF m 2 #[.val (.ref a1), .val (.int p2)] [(.ref a1), (.ref a1)])) := by
   intro tgt hgo
   refine R0 tgt ?_
   show Steps p.tables e below (s₁.setTop (mkF m 0 #[.val (.ref a1), .val (.int p2)] [])) _
   refine XS.aloadN X0.here hx rfl (hb hby d15_0) rfl rfl ?_
   refine XS.aloadN X0.here hx rfl (hb hby d15_1) rfl rfl ?_
   exact hgo
 obtain ⟨T2, X2, e2, st2⟩ := getF X0 hx hZ hown (host := "") (Or.inl (w 65 rfl)) Via.refl e0 Fc (g := (mkF m 2 #[.val (.ref a1), .val (.int p2)] [(.ref a1), (.ref a1)])) rfl rfl (hb hby d15_2)
 have R3 := Rc.st R1 st2
 have R4 : Rc p e below A0 (T2.setTop (mkF m 7 #[.val (.ref a1), .val (.int p2)] [(.int 6), (.ref a1)])) := by
   intro tgt hgo
   refine R3 tgt ?_
   show Steps p.tables e below (T2.setTop (mkF m 5 #[.val (.ref a1), .val (.int p2)] [(.int 5), (.ref a1)])) _
   refine XS.iconst X2.here hx rfl (hb hby d15_5) ?_
   refine XS.iadd X2.here hx rfl (hb hby d15_6) rfl ?_
   exact hgo
 obtain ⟨cq5, kq5, q5a, q5b, q5c⟩ := isOf hZ e2 E1
 obtain ⟨_, _, ⟨T5, L5, k5, n5⟩, -, X5, ⟨Lc5, hQ5, l5, y5, z5⟩, st5⟩ := X2.virtualBack hx (y := yn14) (z := yn14) hown (mvT hZ (w 67 rfl)) (mvT hZ (OwnKit.own_decl (w 68 rfl) (w 71 rfl))) (notFace_of_selects (args := #[]) (mvT hZ (w 70 rfl))) (mvT hZ (w 70 rfl)) (mvT hZ (w 68 rfl)) (by decide) (backOf (W := 0) (rm_ens5 l Z a0 hw [] a1 b k bs h0 n0 Z0 E1 Fv Fc Fd V1 Eb hlen ge1 hne) hZ (w 71 rfl) (w 47 rfl) (by decide) (by decide)) q5a q5c (g := (mkF m 7 #[.val (.ref a1), .val (.int p2)] [(.int 6), (.ref a1)])) rfl (by rw [hml]; rfl) (Steps.refl _) (argsL := [(.int 6)]) (rest := []) (lenOf pd_9 rfl) rfl (by show 2 * 0 + _ ≤ _; exact Nat.le_of_eq rfl) (hb hby d15_7) (fun _ _ => ⟨rfl, e2, (by decide : 0 + 1 ≤ _), (by decide : 0 + 12 ≤ _)⟩)
 dsimp only [Pt.U, Pt.locs, Pt.cells, Pt.slots] at X5 l5 y5 z5 st5 hQ5
 subst l5 y5 z5
 obtain ⟨rfl, N5q, K5, t, kt, ge_t, sz_t, ne_a1_t, f1, f2, f3, f4, f5⟩ := hQ5
 have N5 := Fr.app N0 N5q
 have R6 := Rc.tr R4 st5
 have ne_b_t : b ≠ t := Nat.ne_of_lt (Nat.lt_of_lt_of_le V1.lt sz_t)
 replace hZn := Nat.le_trans hZn K5.1
 replace hK := hK.trans K5 (allS (Or.inl (List.mem_of_getElem? (i := 0) rfl)) all0)
 replace E1 := E1.keep K5
 replace V1 := V1.keep K5 (ninS (Ne.symm hne) nin0)
 replace Eb := Eb.keep K5
 replace X00 := X00.keep K5 (allS ge1 all0)
 have Fv := f1
 have Fc := f2
 have Fd := f3
 have Vt := f4
 have Et := f5
 have R7 : Rc p e below A0 (T5.setTop (mkF m 11 #[.val (.ref a1), .val (.int p2)] [(.ref a1)])) := by
   intro tgt hgo
   refine R6 tgt ?_
   show Steps p.tables e below (T5.setTop (mkF m 10 #[.val (.ref a1), .val (.int p2)] [])) _
   refine XS.aloadN X5.here hx rfl (hb hby d15_10) rfl rfl ?_
   exact hgo
 obtain ⟨cq8, kq8, q8a, q8b, q8c⟩ := isOf hZ rfl E1
 obtain ⟨_, _, ⟨T8, L8, k8, n8⟩, -, X8, ⟨Lc8, hQ8, l8, y8, z8⟩, st8⟩ := X5.virtualBack hx (y := yn9) (z := yn9) hown (mvT hZ (w 72 rfl)) (mvT hZ (w 73 rfl)) (notFace_of_selects (args := #[]) (mvT hZ (w 75 rfl))) (mvT hZ (w 75 rfl)) (mvT hZ (w 74 rfl)) (by decide) (backOf (W := 0) (rm_asl l Z a0 hw [] a1 zc T5.heap n0 hZn X00 S_cs hz Fd) hZ (w 76 rfl) (w 47 rfl) (by decide) (by decide)) q8a q8c (g := (mkF m 11 #[.val (.ref a1), .val (.int p2)] [(.ref a1)])) rfl (by rw [hml]; rfl) (Steps.refl _) (argsL := []) (rest := []) (lenOf pd_3 rfl) rfl (by show 2 * 0 + _ ≤ _; exact Nat.le_of_eq rfl) (hb hby d15_11) (fun _ _ => ⟨rfl, rfl, (by decide : 1 + 0 ≤ _), (by decide : 12 + 0 ≤ _)⟩)
 dsimp only [Pt.U, Pt.locs, Pt.cells, Pt.slots] at X8 l8 y8 z8 st8 hQ8
 subst l8 y8 z8
 obtain ⟨rfl, N8q, e8⟩ := hQ8
 have N8 := Fr.app N5 N8q
 have R9 := Rc.tr R7 st8
 have R10 : Rc p e below A0 (T8.setTop (mkF m 18 #[.val (.ref a1), .val (.int p2)] [(.int p2)])) := by
   intro tgt hgo
   refine R9 tgt ?_
   show Steps p.tables e below (T8.setTop (mkF m 14 #[.val (.ref a1), .val (.int p2)] [(.int 1)])) _
   refine XS.ifNo X8.here hx rfl (hb hby d15_14) rfl ((if0 _ _).trans (feq (by decide : ¬ ((1 : Int32) = (0 : Int32)))).1) ?_
   refine XS.iloadN X8.here hx rfl (hb hby d15_17) rfl ?_
   exact hgo
 obtain ⟨_, _, ⟨T11, L11, k11, n11⟩, -, X11, ⟨Lc11, hQ11, l11, y11, z11⟩, st11⟩ := Jvm.LawKit.callS X8 hx (y := yn10) hown (mvT hZ (w 77 rfl)) (mvT hZ (w 78 rfl)) (mvT hZ (w 79 rfl)) (mvT hZ (w 80 rfl)) (by decide) (backOf (W := 0) (rm_cen l Z a0 hw [] p2 T5.heap n0 hZn hch) hZ (w 80 rfl) (w 79 rfl) (by decide) (by decide)) (g := (mkF m 18 #[.val (.ref a1), .val (.int p2)] [(.int p2)])) rfl (by rw [hml]; rfl) (argsL := [(.int p2)]) (rest := []) (lenOf pd_10 rfl) rfl (by show 2 * 0 + _ ≤ _; exact Nat.le_of_eq rfl) (hb hby d15_18) (fun _ _ => ⟨rfl, e8, (by decide : 1 + 0 ≤ _), (by decide : 12 + 0 ≤ _)⟩)
 dsimp only [Pt.U, Pt.locs, Pt.cells, Pt.slots] at X11 l11 y11 z11 st11 hQ11
 subst l11 y11 z11
 obtain ⟨rfl, N11q, e11⟩ := hQ11
 have N11 := Fr.app N8 N11q
 have R12 := Rc.st R10 st11
 have R13 : Rc p e below A0 (T11.setTop (mkF m 25 #[.val (.ref a1), .val (.int p2)] [(.ref a1)])) := by
   intro tgt hgo
   refine R12 tgt ?_
   show Steps p.tables e below (T11.setTop (mkF m 21 #[.val (.ref a1), .val (.int p2)] [(.int 1)])) _
   refine XS.ifNo X11.here hx rfl (hb hby d15_21) rfl ((if0 _ _).trans (feq (by decide : ¬ ((1 : Int32) = (0 : Int32)))).1) ?_
   refine XS.aloadN X11.here hx rfl (hb hby d15_24) rfl rfl ?_
   exact hgo
 obtain ⟨T14, X14, e14, st14⟩ := getF X11 hx hZ hown (host := "") (Or.inl (w 51 rfl)) Via.refl e11 Fv (g := (mkF m 25 #[.val (.ref a1), .val (.int p2)] [(.ref a1)])) rfl rfl (hb hby d15_25)
 have R15 := Rc.st R13 st14
 have R16 : Rc p e below A0 (T14.setTop (mkF m 30 #[.val (.ref a1), .val (.int p2)] [(.ref a1), (.ref a1), (.ref t)])) := by
   intro tgt hgo
   refine R15 tgt ?_
   show Steps p.tables e below (T14.setTop (mkF m 28 #[.val (.ref a1), .val (.int p2)] [(.ref t)])) _
   refine XS.aloadN X14.here hx rfl (hb hby d15_28) rfl rfl ?_
   refine XS.dup X14.here hx rfl (hb hby d15_29) rfl rfl ?_
   exact hgo
 obtain ⟨T17, X17, e17, st17⟩ := getF X14 hx hZ hown (host := "") (Or.inl (w 65 rfl)) Via.refl e14 Fc (g := (mkF m 30 #[.val (.ref a1), .val (.int p2)] [(.ref a1), (.ref a1), (.ref t)])) rfl rfl (hb hby d15_30)
 have R18 := Rc.st R16 st17
 have R19 : Rc p e below A0 (T17.setTop (mkF m 36 #[.val (.ref a1), .val (.int p2)] [(.int 6), (.ref a1), (.int 5), (.ref t)])) := by
   intro tgt hgo
   refine R18 tgt ?_
   show Steps p.tables e below (T17.setTop (mkF m 33 #[.val (.ref a1), .val (.int p2)] [(.int 5), (.ref a1), (.ref t)])) _
   refine XS.dupX1 X17.here hx rfl (hb hby d15_33) rfl rfl rfl ?_
   refine XS.iconst X17.here hx rfl (hb hby d15_34) ?_
   refine XS.iadd X17.here hx rfl (hb hby d15_35) rfl ?_
   exact hgo
 obtain ⟨T20, h20, X20, e20, W20, st20⟩ := putF X17 hx hZ hown (host := "") (Or.inl (w 65 rfl)) Via.refl e17 Fc E1 (Or.inl (w 66 rfl)) (w 27 rfl) (ty := .int) (by decide) rfl rfl (g := (mkF m 36 #[.val (.ref a1), .val (.int p2)] [(.int 6), (.ref a1), (.int 5), (.ref t)])) rfl rfl (hb hby d15_36)
 have N20 := Fr.snoc X20 N11 ge1
 replace hZn := Nat.le_trans hZn (Keep.of_wr W20).1
 replace hK := hK.wr W20 (Or.inl (List.mem_of_getElem? (i := 0) rfl))
 replace E1 := E1.wr W20
 replace V1 := V1.other W20 (Ne.symm hne)
 replace Eb := Eb.wr W20
 replace Fv := Fv.other W20 (Or.inr (slot_ne (Or.inl (w 52 rfl)) (Or.inl (w 66 rfl)) (by decide) (t := (.array .byte)) (t' := .int) (by decide) (by decide)))
 replace Fc := Fc.same W20
 replace Fd := Fd.other W20 (Or.inr (slot_ne (Or.inl (w 54 rfl)) (Or.inl (w 66 rfl)) (by decide) (t := .byte) (t' := .int) (by decide) (by decide)))
 replace Vt := Vt.other W20 (Ne.symm ne_a1_t)
 replace Et := Et.wr W20
 have R21 := Rc.st R19 st20
 have R22 : Rc p e below A0 (T20.setTop (mkF m 41 #[.val (.ref a1), .val (.int p2)] [(.int (p2.toInt8.toInt32)), (.int 5), (.ref t)])) := by
   intro tgt hgo
   refine R21 tgt ?_
   show Steps p.tables e below (T20.setTop (mkF m 39 #[.val (.ref a1), .val (.int p2)] [(.int 5), (.ref t)])) _
   refine XS.iloadN X20.here hx rfl (hb hby d15_39) rfl ?_
   refine XS.i2b X20.here hx rfl (hb hby d15_40) rfl ?_
   exact hgo
 obtain ⟨cl23, Ar23, q23, S23, Nn23, H23, G23⟩ := Vt.pad (pad_rep (bs.map Value.int) (.int 0) 1)
 have hin23 : ¬ ((5 : Int32) < 0 ∨ cl23.slots.size ≤ ((5 : Int32)).toNatClampNeg) := inb_of S23 ⟨by decide, by decide⟩
 obtain ⟨T23, h23, X23, e23, W23, st23⟩ := stB X20 hx hZ e20 Ar23 (j := (5 : Int32)) hin23 (g := (mkF m 41 #[.val (.ref a1), .val (.int p2)] [(.int (p2.toInt8.toInt32)), (.int 5), (.ref t)])) rfl rfl (hb hby d15_41)
 replace hZn := Nat.le_trans hZn (Keep.of_wr W23).1
 replace hK := hK.wr W23 (Or.inr sz_t)
 replace E1 := E1.wr W23
 replace V1 := V1.other W23 ne_b_t
 replace Eb := Eb.wr W23
 replace Fv := Fv.other W23 (Or.inl ne_a1_t)
 replace Fc := Fc.other W23 (Or.inl ne_a1_t)
 replace Fd := Fd.other W23 (Or.inl ne_a1_t)
 replace Et := Et.wr W23
 rw [own_nb hch] at W23
 have Vt : Arv Z h23 t kt .byte (12 : Int32) ((bs ++ [own_b p2]).map Value.int) (.int 0) := own_last (Arv.set Ar23 q23 S23 Nn23 H23 G23 (fits_nar_byte _) W23 bs.length (by rw [hlen]; rfl) (by simp))
 have N23 := Fr.snoc X23 N20 ge_t
 have R24 := Rc.st R22 st23
 have R25 : Rc p e below A0 (T23.setTop (mkF m 76 #[.val (.ref a1), .val (.int p2)] [(.ref a1)])) := by
   intro tgt hgo
   refine R24 tgt ?_
   show Steps p.tables e below (T23.setTop (mkF m 42 #[.val (.ref a1), .val (.int p2)] [])) _
   refine XS.goto X23.here hx rfl (pc0 := 42) (pc' := 75) rfl (hb hby d15_42) (by decide) (by decide) ?_
   refine XS.aloadN X23.here hx rfl (hb hby d15_75) rfl rfl ?_
   exact hgo
 subst hA0
 obtain ⟨fs, hr, hrun, hended, hW, hsame⟩ := X23.leave (v := some (.ref a1)) (fun h => by rw [Bd.returns] at h; cases h)
 refine ⟨_, _, R25 _ ?_, hrun, hended, _, _, rfl, ?_, ⟨_, rfl⟩, hW, hsame.mono (by decide) (by decide)⟩
 ·show Steps p.tables e below (T23.setTop (mkF m 76 #[.val (.ref a1), .val (.int p2)] [(.ref a1)])) _
  jvm_step X23.here [X23.here.top, hx, (hb hby d15_76), X23.method', Bd.returns, Value.isRef, FieldType.isReference]
  first | (intro acts; rw [hr _ acts rfl rfl rfl]) | rw [hr _ _ rfl rfl rfl]
  exact Steps.refl _
 ·show Qap Z a1 b 5 p2 bs h0 n0 _ T23.heap _
  rw [e23]
  refine ⟨rfl, N23, hK, t, kt, ⟨E1, Fv, ?_, Fd, ?_, Et, ne_a1_t, ge1, ge_t⟩, Or.inr sz_t⟩
  · rw [List.length_append, hlen]; exact Fc
  · unfold own_cap; rw [hlen, if_neg (by omega)]; exact Vt
theorem rm_apA (l : Launch) (Z : State) (a0 : Array Value) (hw : ∀ d ∈ tables_1, d.before a0 Z = true) (ws : List Jvm.Cond) (a1 : Addr) (p2 : Int32) (zc : Int32) (b : Addr) (k : ClassId) (N : Nat) (bs : List Int32) (h0 : Heap) (n0 : Nat) (Z0 : n0 ≤ h0.size) (X00 : Old Z n0 h0) (S_cs : Sta Z Z.heap "java/lang/String" "COMPACT_STRINGS" "Z" (.int zc)) (hz : ¬ zc = 0) (hch : own_ch p2) (D0 : SBd Z h0 n0 a1 b k N bs) (hcap : bs.length < N ∧ N ≤ 12 ∨ bs.length = N ∧ (N = 3 ∨ N = 4 ∨ N = 5)) :
    MetFree l yn15 (head1 (Jvm.Cond.code yn15 jdk_68_method_31_code 2 (some (.object "java/lang/AbstractStringBuilder")) :: ws) ({ frames := 4, cells := 1, slots := 12, locals := 62 } : Room)) (fun a U => a = #[(.ref a1), (.int p2)] ∧ Z.Warmed39 U.vm ∧ U.heap = h0) (fun _ _ _ _ _ => True) (fun _ U o U' => ∃ v L, o = .returned v ∧ Qap Z a1 b N p2 bs h0 n0 v U'.heap L ∧ FrameEnd U o U' L ({ frames := 4, cells := 1, slots := 12, locals := 62 } : Room).cells ({ frames := 4, cells := 1, slots := 12, locals := 62 } : Room).slots) := by
  rcases hcap with ⟨hN, hN2⟩ | ⟨hlen, rfl | rfl | rfl⟩
  · exact rm_apA0 l Z a0 hw ws a1 p2 zc b k N bs h0 n0 Z0 X00 S_cs hz hch D0 hN hN2
  · exact rm_apA3 l Z a0 hw ws a1 p2 zc b k bs h0 n0 Z0 X00 S_cs hz hch D0 hlen
  · exact rm_apA4 l Z a0 hw ws a1 p2 zc b k bs h0 n0 Z0 X00 S_cs hz hch D0 hlen
  · exact rm_apA5 l Z a0 hw ws a1 p2 zc b k bs h0 n0 Z0 X00 S_cs hz hch D0 hlen
abbrev yn16 : MethodName := ⟨"java/lang/StringBuilder", "append", "(C)Ljava/lang/StringBuilder;"⟩
theorem pn_java_lang_StringBuilder : plainName "java/lang/StringBuilder" = true := by first | (simp [plainName, overriddenIn]; done) | decide +kernel
theorem ef_rm_app (m : MethodId) (a1 : Addr) (p2 : Int32) : entryFrame m #[(.ref a1), (.int p2)] 2 = mkF m 0 #[.val (.ref a1), .val (.int p2)] [] := by first | (simp [entryFrame, mkF, argsToLocals, Value.category]; done) | rfl
theorem d16_0 : decode jdk_67_method_14_code 0 = .ok (.aload_n 0, 1) := by decide +kernel
theorem d16_1 : decode jdk_67_method_14_code 1 = .ok (.iload_n 1, 1) := by decide +kernel
theorem d16_2 : decode jdk_67_method_14_code 2 = .ok (.invokespecial 50, 3) := by decide +kernel
theorem pd_11 : parseMethodDescriptor "(C)Ljava/lang/AbstractStringBuilder;" = some ⟨[.char], some (.object "java/lang/AbstractStringBuilder")⟩ := by decide +kernel
theorem d16_5 : decode jdk_67_method_14_code 5 = .ok (.pop, 1) := by decide +kernel
theorem d16_6 : decode jdk_67_method_14_code 6 = .ok (.aload_n 0, 1) := by decide +kernel
theorem d16_7 : decode jdk_67_method_14_code 7 = .ok (.areturn, 1) := by decide +kernel
set_option maxRecDepth 65536 in
set_option maxHeartbeats 40000000 in
theorem rm_app (l : Launch) (Z : State) (a0 : Array Value) (hw : ∀ d ∈ tables_1, d.before a0 Z = true) (ws : List Jvm.Cond) (a1 : Addr) (p2 : Int32) (zc : Int32) (b : Addr) (k : ClassId) (N : Nat) (bs : List Int32) (h0 : Heap) (n0 : Nat) (Z0 : n0 ≤ h0.size) (X00 : Old Z n0 h0) (S_cs : Sta Z Z.heap "java/lang/String" "COMPACT_STRINGS" "Z" (.int zc)) (hz : ¬ zc = 0) (hch : own_ch p2) (D0 : SBd Z h0 n0 a1 b k N bs) (hcap : bs.length < N ∧ N ≤ 12 ∨ bs.length = N ∧ (N = 3 ∨ N = 4 ∨ N = 5)) :
    MetFree l yn16 (head1 (Jvm.Cond.code yn16 jdk_67_method_14_code 2 (some (.object "java/lang/StringBuilder")) :: ws) ({ frames := 5, cells := 1, slots := 12, locals := 75 } : Room)) (fun a U => a = #[(.ref a1), (.int p2)] ∧ Z.Warmed39 U.vm ∧ U.heap = h0) (fun _ _ _ _ _ => True) (fun _ U o U' => ∃ v L, o = .returned v ∧ Qap Z a1 b N p2 bs h0 n0 v U'.heap L ∧ FrameEnd U o U' L ({ frames := 5, cells := 1, slots := 12, locals := 75 } : Room).cells ({ frames := 5, cells := 1, slots := 12, locals := 75 } : Room).slots) := by
 refine MetFree.of_bodySF (plainFor_of_name pn_java_lang_StringBuilder) hisR ?_
 intro p e s m args below meth c s₁ Bd hml0 hP hK
 obtain ⟨rfl, hZ, hh⟩ := hP
 have hx := Bd.exec
 have hby := Bd.bytes
 have hml : c.maxLocals = 2 := hml0
 have hown : s.vm.findClass "java/lang/StringBuilder" = some m.cls := findClass_of_methodNamed Bd.named
 have hnm := (name_of_methodNamed Bd.named Bd.method).1
 have X0 : Stand p l e ({ frames := 5, cells := 1, slots := 12, locals := 75 } : Room) s m #[(.ref a1), (.int p2)] below meth c s₁ [] 0 0 := Stand.of_body Bd
 have e0 : s₁.heap = h0 := by rw [← hh, Bd.state]; rfl
 have N0 := Fr.nil n0
 obtain ⟨A0, hA0⟩ : ∃ A, A = s₁.setTop (entryFrame m #[(.ref a1), (.int p2)] 2) := ⟨_, rfl⟩
 have R0 : ∀ tgt, Steps p.tables e below (s₁.setTop (mkF m 0 #[.val (.ref a1), .val (.int p2)] [])) tgt → Steps p.tables e below A0 tgt := fun tgt hgo => by rw [hA0]; exact castTop (ef_rm_app m a1 p2) hgo
 have w : ∀ (i : Nat) {d : Jvm.Cond}, tables_1[i]? = some d → d.before a0 Z = true := fun i d h => hw d (List.mem_of_getElem? h)
 have E1 := D0.1
 have hZn := Z0
 have hK : Keep h0 h0 [a1, b] := Keep.refl _ _
 have R1 : Rc p e below A0 (s₁.setTop (mkF m 2 #[.val (.ref a1), .val (.int p2)] [(.int p2), (.ref a1)])) := by
   intro tgt hgo
   refine R0 tgt ?_
   show Steps p.tables e below (s₁.setTop (mkF m 0 #[.val (.ref a1), .val (.int p2)] [])) _
   refine XS.aloadN X0.here hx rfl (hb hby d16_0) rfl rfl ?_
   refine XS.iloadN X0.here hx rfl (hb hby d16_1) rfl ?_
   exact hgo
 obtain ⟨_, _, ⟨T2, L2, k2, n2⟩, -, X2, ⟨Lc2, hQ2, l2, y2, z2⟩, st2⟩ := superBack X0 hx hZ (y := yn15) hown (w 60 rfl) (OwnKit.own_same (z := (⟨"java/lang/AbstractStringBuilder", "isLatin1", "()Z"⟩ : MethodName)) (w 63 rfl) (w 75 rfl) (w 73 rfl) rfl (by decide)) (w 61 rfl) (w 62 rfl) (by decide) (backOf (W := 0) (rm_apA l Z a0 hw [] a1 p2 zc b k N bs h0 n0 Z0 X00 S_cs hz hch D0 hcap) hZ (w 64 rfl) (w 47 rfl) (by decide) (by decide)) e0 (Ins.self E1) (g := (mkF m 2 #[.val (.ref a1), .val (.int p2)] [(.int p2), (.ref a1)])) rfl (by rw [hml]; rfl) (w 64 rfl) (argsL := [(.int p2)]) (rest := []) (lenOf pd_11 rfl) rfl (by show 2 * 0 + _ ≤ _; exact Nat.le_of_eq rfl) (hb hby d16_2) (fun _ _ => ⟨rfl, e0, (by decide : 0 + 1 ≤ _), (by decide : 0 + 12 ≤ _)⟩)
 dsimp only [Pt.U, Pt.locs, Pt.cells, Pt.slots] at X2 l2 y2 z2 st2 hQ2
 subst l2 y2 z2
 obtain ⟨rfl, N2q, K2, b', k', D', hb'⟩ := hQ2
 have N2 := Fr.app N0 N2q
 have R3 := Rc.tr R1 st2
 replace hZn := Nat.le_trans hZn K2.1
 replace hK := hK.trans K2 (allS (Or.inl (List.mem_of_getElem? (i := 0) rfl)) (allS (Or.inl (List.mem_of_getElem? (i := 1) rfl)) all0))
 replace E1 := E1.keep K2
 have R4 : Rc p e below A0 (T2.setTop (mkF m 7 #[.val (.ref a1), .val (.int p2)] [(.ref a1)])) := by
   intro tgt hgo
   refine R3 tgt ?_
   show Steps p.tables e below (T2.setTop (mkF m 5 #[.val (.ref a1), .val (.int p2)] [(.ref a1)])) _
   refine XS.pop X2.here hx rfl (hb hby d16_5) rfl rfl ?_
   refine XS.aloadN X2.here hx rfl (hb hby d16_6) rfl rfl ?_
   exact hgo
 subst hA0
 obtain ⟨fs, hr, hrun, hended, hW, hsame⟩ := X2.leave (v := some (.ref a1)) (fun h => by rw [Bd.returns] at h; cases h)
 refine ⟨_, _, R4 _ ?_, hrun, hended, _, _, rfl, ?_, ⟨_, rfl⟩, hW, hsame.mono (by decide) (by decide)⟩
 ·show Steps p.tables e below (T2.setTop (mkF m 7 #[.val (.ref a1), .val (.int p2)] [(.ref a1)])) _
  jvm_step X2.here [X2.here.top, hx, (hb hby d16_7), X2.method', Bd.returns, Value.isRef, FieldType.isReference]
  first | (intro acts; rw [hr _ acts rfl rfl rfl]) | rw [hr _ _ rfl rfl rfl]
  exact Steps.refl _
 ·show Qap Z a1 b N p2 bs h0 n0 _ T2.heap _
  exact ⟨rfl, N2, hK, b', k', D', hb'⟩
def Qsi (Z : State) (a1 : Addr) (N : Nat) (h0 : Heap) (n0 : Nat) (v : Option Value) (h : Heap) (L : List Loc) : Prop := v = none ∧ Fr n0 L ∧ Keep h0 h [a1] ∧ ∃ (b : Addr) (k : ClassId), SBd Z h n0 a1 b k N [] ∧ h0.size ≤ b
abbrev yn17 : MethodName := ⟨"java/lang/AbstractStringBuilder", "<init>", "(I)V"⟩
theorem ef_rm_asbi (m : MethodId) (a1 : Addr) (pi : Int32) : entryFrame m #[(.ref a1), (.int pi)] 2 = mkF m 0 #[.val (.ref a1), .val (.int pi)] [] := by first | (simp [entryFrame, mkF, argsToLocals, Value.category]; done) | rfl
theorem d17_0 : decode jdk_68_method_2_code 0 = .ok (.aload_n 0, 1) := by decide +kernel
theorem d17_1 : decode jdk_68_method_2_code 1 = .ok (.invokespecial 3, 3) := by decide +kernel
theorem d17_4 : decode jdk_68_method_2_code 4 = .ok (.getstatic 18, 3) := by decide +kernel
theorem d17_7 : decode jdk_68_method_2_code 7 = .ok (.ifCond .eq 18, 3) := by decide +kernel
theorem d17_10 : decode jdk_68_method_2_code 10 = .ok (.aload_n 0, 1) := by decide +kernel
theorem d17_11 : decode jdk_68_method_2_code 11 = .ok (.iload_n 1, 1) := by decide +kernel
theorem d17_12 : decode jdk_68_method_2_code 12 = .ok (.newarray .byte, 2) := by decide +kernel
theorem d17_14 : decode jdk_68_method_2_code 14 = .ok (.putfield 15, 3) := by decide +kernel
theorem d17_17 : decode jdk_68_method_2_code 17 = .ok (.aload_n 0, 1) := by decide +kernel
theorem d17_18 : decode jdk_68_method_2_code 18 = .ok (.iconst 0, 1) := by decide +kernel
theorem d17_19 : decode jdk_68_method_2_code 19 = .ok (.putfield 22, 3) := by decide +kernel
theorem d17_22 : decode jdk_68_method_2_code 22 = .ok (.goto 16, 3) := by decide +kernel
theorem d17_38 : decode jdk_68_method_2_code 38 = .ok (.return_, 1) := by decide +kernel
set_option maxRecDepth 65536 in
set_option maxHeartbeats 40000000 in
theorem rm_asbi (l : Launch) (Z : State) (a0 : Array Value) (hw : ∀ d ∈ tables_1, d.before a0 Z = true) (ws : List Jvm.Cond) (a1 : Addr) (pi : Int32) (zc : Int32) (N : Nat) (h0 : Heap) (n0 : Nat) (Z0 : n0 ≤ h0.size) (hpi : pi = Int32.ofNat N) (hN5 : N ≤ 5) (X00 : Old Z n0 h0) (S_cs : Sta Z Z.heap "java/lang/String" "COMPACT_STRINGS" "Z" (.int zc)) (hz : ¬ zc = 0) (ge1 : n0 ≤ a1) (E1 : Exa Z h0 a1 "java/lang/StringBuilder") (Fv : Fld Z h0 a1 "java/lang/AbstractStringBuilder" "value" "[B" .null) (Fd : Fld Z h0 a1 "java/lang/AbstractStringBuilder" "coder" "B" (.int 0)) (Fc : Fld Z h0 a1 "java/lang/AbstractStringBuilder" "count" "I" (.int 0)) :
    MetFree l yn17 (head1 (Jvm.Cond.code yn17 jdk_68_method_2_code 2 none :: ws) ({ frames := 1, cells := 1, slots := 5, locals := 12 } : Room)) (fun a U => a = #[(.ref a1), (.int pi)] ∧ Z.Warmed39 U.vm ∧ U.heap = h0) (fun _ _ _ _ _ => True) (fun _ U o U' => ∃ v L, o = .returned v ∧ Qsi Z a1 N h0 n0 v U'.heap L ∧ FrameEnd U o U' L ({ frames := 1, cells := 1, slots := 5, locals := 12 } : Room).cells ({ frames := 1, cells := 1, slots := 5, locals := 12 } : Room).slots) := by
 refine MetFree.of_bodySF (plainFor_of_name pn_java_lang_AbstractStringBuilder) hisR ?_
 intro p e s m args below meth c s₁ Bd hml0 hP hK
 obtain ⟨rfl, hZ, hh⟩ := hP
 have hx := Bd.exec
 have hby := Bd.bytes
 have hml : c.maxLocals = 2 := hml0
 have hown : s.vm.findClass "java/lang/AbstractStringBuilder" = some m.cls := findClass_of_methodNamed Bd.named
 have hnm := (name_of_methodNamed Bd.named Bd.method).1
 have X0 : Stand p l e ({ frames := 1, cells := 1, slots := 5, locals := 12 } : Room) s m #[(.ref a1), (.int pi)] below meth c s₁ [] 0 0 := Stand.of_body Bd
 have e0 : s₁.heap = h0 := by rw [← hh, Bd.state]; rfl
 have N0 := Fr.nil n0
 obtain ⟨A0, hA0⟩ : ∃ A, A = s₁.setTop (entryFrame m #[(.ref a1), (.int pi)] 2) := ⟨_, rfl⟩
 have R0 : ∀ tgt, Steps p.tables e below (s₁.setTop (mkF m 0 #[.val (.ref a1), .val (.int pi)] [])) tgt → Steps p.tables e below A0 tgt := fun tgt hgo => by rw [hA0]; exact castTop (ef_rm_asbi m a1 pi) hgo
 have w : ∀ (i : Nat) {d : Jvm.Cond}, tables_1[i]? = some d → d.before a0 Z = true := fun i d h => hw d (List.mem_of_getElem? h)
 have hZn := Z0
 have hK : Keep h0 h0 [a1] := Keep.refl _ _
 have R1 : Rc p e below A0 (s₁.setTop (mkF m 1 #[.val (.ref a1), .val (.int pi)] [(.ref a1)])) := by
   intro tgt hgo
   refine R0 tgt ?_
   show Steps p.tables e below (s₁.setTop (mkF m 0 #[.val (.ref a1), .val (.int pi)] [])) _
   refine XS.aloadN X0.here hx rfl (hb hby d17_0) rfl rfl ?_
   exact hgo
 obtain ⟨T2, X2, e2, st2⟩ := initO X0 hx hZ hown (w 49 rfl) (w 12 rfl) (w 13 rfl) e0 (g := (mkF m 1 #[.val (.ref a1), .val (.int pi)] [(.ref a1)])) rfl (by rw [hml]; rfl) rfl (hb hby d17_1) (by decide) (W := 0) (by show 2 * 0 + _ ≤ _; exact Nat.le_of_eq rfl) (by decide)
 have R3 := Rc.st R1 st2
 obtain ⟨T4, X4, e4, st4⟩ := getS2 X2 hx hZ hown (host := "") (Or.inl (w 50 rfl)) Via.refl e2 (S_cs.ext X00.2) (g := (mkF m 4 #[.val (.ref a1), .val (.int pi)] [])) rfl (hb hby d17_4)
 have R5 := Rc.st R3 st4
 have R6 : Rc p e below A0 (T4.setTop (mkF m 12 #[.val (.ref a1), .val (.int pi)] [(.int pi), (.ref a1)])) := by
   intro tgt hgo
   refine R5 tgt ?_
   show Steps p.tables e below (T4.setTop (mkF m 7 #[.val (.ref a1), .val (.int pi)] [(.int zc)])) _
   refine XS.ifNo X4.here hx rfl (hb hby d17_7) rfl ((if0 _ _).trans (feq (hz : ¬ (zc = (0 : Int32)))).1) ?_
   refine XS.aloadN X4.here hx rfl (hb hby d17_10) rfl rfl ?_
   refine XS.iloadN X4.here hx rfl (hb hby d17_11) rfl ?_
   exact hgo
 obtain ⟨T7, h7, k7, X7, e7, E7, A7, B7, st7⟩ := newPE X4 hx hZ (w 15 rfl) e4 (g := (mkF m 12 #[.val (.ref a1), .val (.int pi)] [(.int pi), (.ref a1)])) rfl (hb hby d17_12) rfl (by rw [hpi]; exact own_nn (by omega)) (cap := 5) (by rw [hpi, own_clamp (by omega)]; exact hN5) (by decide) (by decide) (by decide) (ad := "[B") rfl
 obtain ⟨nb, g7⟩ : ∃ z, z = h0.size := ⟨_, rfl⟩
 rw [← g7] at A7 B7 st7
 have ne_a1_nb : a1 ≠ nb := Nat.ne_of_lt (Nat.lt_of_lt_of_le E1.lt (Nat.le_of_eq g7.symm))
 have ge_nb : n0 ≤ nb := Nat.le_trans hZn (Nat.le_of_eq g7.symm)
 have sz_nb : h0.size ≤ nb := Nat.le_trans hK.1 (Nat.le_of_eq g7.symm)
 replace hZn := Nat.le_trans hZn E7.1
 replace hK := hK.ext E7
 replace E1 := E1.ext E7
 replace Fv := Fv.ext E7
 replace Fd := Fd.ext E7
 replace Fc := Fc.ext E7
 have E_nb := B7
 have V_nb := Arv.new A7 (by rw [hpi]; exact own_nn (by omega))
 have R8 := Rc.st R6 st7
 obtain ⟨T9, h9, X9, e9, W9, st9⟩ := putF X7 hx hZ hown (host := "") (Or.inl (w 51 rfl)) Via.refl e7 Fv E1 (Or.inl (w 52 rfl)) (w 27 rfl) (ty := (.array .byte)) (by decide) rfl rfl (g := (mkF m 14 #[.val (.ref a1), .val (.int pi)] [(.ref nb), (.ref a1)])) rfl rfl (hb hby d17_14)
 have N9 := Fr.snoc X9 N0 ge1
 replace hZn := Nat.le_trans hZn (Keep.of_wr W9).1
 replace hK := hK.wr W9 (Or.inl (List.mem_of_getElem? (i := 0) rfl))
 replace E1 := E1.wr W9
 replace Fv := Fv.same W9
 replace Fd := Fd.other W9 (Or.inr (slot_ne (Or.inl (w 54 rfl)) (Or.inl (w 52 rfl)) (by decide) (t := .byte) (t' := (.array .byte)) (by decide) (by decide)))
 replace Fc := Fc.other W9 (Or.inr (slot_ne (Or.inl (w 66 rfl)) (Or.inl (w 52 rfl)) (by decide) (t := .int) (t' := (.array .byte)) (by decide) (by decide)))
 replace E_nb := E_nb.wr W9
 replace V_nb := V_nb.other W9 (Ne.symm ne_a1_nb)
 have R10 := Rc.st R8 st9
 have R11 : Rc p e below A0 (T9.setTop (mkF m 19 #[.val (.ref a1), .val (.int pi)] [(.int 0), (.ref a1)])) := by
   intro tgt hgo
   refine R10 tgt ?_
   show Steps p.tables e below (T9.setTop (mkF m 17 #[.val (.ref a1), .val (.int pi)] [])) _
   refine XS.aloadN X9.here hx rfl (hb hby d17_17) rfl rfl ?_
   refine XS.iconst X9.here hx rfl (hb hby d17_18) ?_
   exact hgo
 obtain ⟨T12, h12, X12, e12, W12, st12⟩ := putFN X9 hx hZ hown (w 53 rfl) Via.refl e9 Fd E1 (Or.inl (w 54 rfl)) (w 27 rfl) (ty := .byte) (v' := (.int 0)) (by decide) rfl (by decide) (g := (mkF m 19 #[.val (.ref a1), .val (.int pi)] [(.int 0), (.ref a1)])) rfl rfl (hb hby d17_19)
 have N12 := Fr.snoc X12 N9 ge1
 replace hZn := Nat.le_trans hZn (Keep.of_wr W12).1
 replace hK := hK.wr W12 (Or.inl (List.mem_of_getElem? (i := 0) rfl))
 replace E1 := E1.wr W12
 replace Fv := Fv.other W12 (Or.inr (slot_ne (Or.inl (w 52 rfl)) (Or.inl (w 54 rfl)) (by decide) (t := (.array .byte)) (t' := .byte) (by decide) (by decide)))
 replace Fd := Fd.same W12
 replace Fc := Fc.other W12 (Or.inr (slot_ne (Or.inl (w 66 rfl)) (Or.inl (w 54 rfl)) (by decide) (t := .int) (t' := .byte) (by decide) (by decide)))
 replace E_nb := E_nb.wr W12
 replace V_nb := V_nb.other W12 (Ne.symm ne_a1_nb)
 have R13 := Rc.st R11 st12
 have R14 : Rc p e below A0 (T12.setTop (mkF m 38 #[.val (.ref a1), .val (.int pi)] [])) := by
   intro tgt hgo
   refine R13 tgt ?_
   show Steps p.tables e below (T12.setTop (mkF m 22 #[.val (.ref a1), .val (.int pi)] [])) _
   refine XS.goto X12.here hx rfl (pc0 := 22) (pc' := 38) rfl (hb hby d17_22) (by decide) (by decide) ?_
   exact hgo
 subst hA0
 obtain ⟨fs, hr, hrun, hended, hW, hsame⟩ := X12.leave (v := none) (fun _ => rfl)
 refine ⟨_, _, R14 _ ?_, hrun, hended, _, _, rfl, ?_, ⟨_, rfl⟩, hW, hsame.mono (by decide) (by decide)⟩
 ·show Steps p.tables e below (T12.setTop (mkF m 38 #[.val (.ref a1), .val (.int pi)] [])) _
  exact X12.returnOut hx Bd.returns (hb hby d17_38) hr
 ·show Qsi Z a1 N h0 n0 _ T12.heap _
  rw [e12]
  exact ⟨rfl, N12, hK, nb, _, ⟨E1, Fv, Fc, Fd, hpi ▸ V_nb, E_nb, ne_a1_nb, ge1, ge_nb⟩, sz_nb⟩
abbrev yn18 : MethodName := ⟨"java/lang/StringBuilder", "<init>", "(I)V"⟩
theorem ef_rm_sbi (m : MethodId) (a1 : Addr) (pi : Int32) : entryFrame m #[(.ref a1), (.int pi)] 2 = mkF m 0 #[.val (.ref a1), .val (.int pi)] [] := by first | (simp [entryFrame, mkF, argsToLocals, Value.category]; done) | rfl
theorem d18_0 : decode jdk_67_method_2_code 0 = .ok (.aload_n 0, 1) := by decide +kernel
theorem d18_1 : decode jdk_67_method_2_code 1 = .ok (.iload_n 1, 1) := by decide +kernel
theorem d18_2 : decode jdk_67_method_2_code 2 = .ok (.invokespecial 1, 3) := by decide +kernel
theorem d18_5 : decode jdk_67_method_2_code 5 = .ok (.return_, 1) := by decide +kernel
set_option maxRecDepth 65536 in
set_option maxHeartbeats 40000000 in
theorem rm_sbi (l : Launch) (Z : State) (a0 : Array Value) (hw : ∀ d ∈ tables_1, d.before a0 Z = true) (ws : List Jvm.Cond) (a1 : Addr) (pi : Int32) (zc : Int32) (N : Nat) (h0 : Heap) (n0 : Nat) (Z0 : n0 ≤ h0.size) (hpi : pi = Int32.ofNat N) (hN5 : N ≤ 5) (X00 : Old Z n0 h0) (S_cs : Sta Z Z.heap "java/lang/String" "COMPACT_STRINGS" "Z" (.int zc)) (hz : ¬ zc = 0) (ge1 : n0 ≤ a1) (E1 : Exa Z h0 a1 "java/lang/StringBuilder") (Fv : Fld Z h0 a1 "java/lang/AbstractStringBuilder" "value" "[B" .null) (Fd : Fld Z h0 a1 "java/lang/AbstractStringBuilder" "coder" "B" (.int 0)) (Fc : Fld Z h0 a1 "java/lang/AbstractStringBuilder" "count" "I" (.int 0)) :
    MetFree l yn18 (head1 (Jvm.Cond.code yn18 jdk_67_method_2_code 2 none :: ws) ({ frames := 2, cells := 1, slots := 5, locals := 25 } : Room)) (fun a U => a = #[(.ref a1), (.int pi)] ∧ Z.Warmed39 U.vm ∧ U.heap = h0) (fun _ _ _ _ _ => True) (fun _ U o U' => ∃ v L, o = .returned v ∧ Qsi Z a1 N h0 n0 v U'.heap L ∧ FrameEnd U o U' L ({ frames := 2, cells := 1, slots := 5, locals := 25 } : Room).cells ({ frames := 2, cells := 1, slots := 5, locals := 25 } : Room).slots) := by
 refine MetFree.of_bodySF (plainFor_of_name pn_java_lang_StringBuilder) hisR ?_
 intro p e s m args below meth c s₁ Bd hml0 hP hK
 obtain ⟨rfl, hZ, hh⟩ := hP
 have hx := Bd.exec
 have hby := Bd.bytes
 have hml : c.maxLocals = 2 := hml0
 have hown : s.vm.findClass "java/lang/StringBuilder" = some m.cls := findClass_of_methodNamed Bd.named
 have hnm := (name_of_methodNamed Bd.named Bd.method).1
 have X0 : Stand p l e ({ frames := 2, cells := 1, slots := 5, locals := 25 } : Room) s m #[(.ref a1), (.int pi)] below meth c s₁ [] 0 0 := Stand.of_body Bd
 have e0 : s₁.heap = h0 := by rw [← hh, Bd.state]; rfl
 have N0 := Fr.nil n0
 obtain ⟨A0, hA0⟩ : ∃ A, A = s₁.setTop (entryFrame m #[(.ref a1), (.int pi)] 2) := ⟨_, rfl⟩
 have R0 : ∀ tgt, Steps p.tables e below (s₁.setTop (mkF m 0 #[.val (.ref a1), .val (.int pi)] [])) tgt → Steps p.tables e below A0 tgt := fun tgt hgo => by rw [hA0]; exact castTop (ef_rm_sbi m a1 pi) hgo
 have w : ∀ (i : Nat) {d : Jvm.Cond}, tables_1[i]? = some d → d.before a0 Z = true := fun i d h => hw d (List.mem_of_getElem? h)
 have hZn := Z0
 have hK : Keep h0 h0 [a1] := Keep.refl _ _
 have R1 : Rc p e below A0 (s₁.setTop (mkF m 2 #[.val (.ref a1), .val (.int pi)] [(.int pi), (.ref a1)])) := by
   intro tgt hgo
   refine R0 tgt ?_
   show Steps p.tables e below (s₁.setTop (mkF m 0 #[.val (.ref a1), .val (.int pi)] [])) _
   refine XS.aloadN X0.here hx rfl (hb hby d18_0) rfl rfl ?_
   refine XS.iloadN X0.here hx rfl (hb hby d18_1) rfl ?_
   exact hgo
 obtain ⟨_, _, ⟨T2, L2, k2, n2⟩, -, X2, ⟨Lc2, hQ2, l2, y2, z2⟩, st2⟩ := X0.specialBack hx (y := yn17) rfl hown (mvT hZ (w 43 rfl)) (mvT hZ (w 44 rfl)) (mvT hZ (w 48 rfl)) (by decide) (backOf (W := 0) (rm_asbi l Z a0 hw [] a1 pi zc N h0 n0 Z0 hpi hN5 X00 S_cs hz ge1 E1 Fv Fd Fc) hZ (w 48 rfl) (w 47 rfl) (by decide) (by decide)) (g := (mkF m 2 #[.val (.ref a1), .val (.int pi)] [(.int pi), (.ref a1)])) rfl (by rw [hml]; rfl) (Steps.refl _) (a := a1) (argsL := [(.int pi)]) (rest := []) (lenOf pd_9 rfl) rfl (by show 2 * 0 + _ ≤ _; exact Nat.le_of_eq rfl) (hb hby d18_2) (fun _ _ => ⟨rfl, e0, (by decide : 0 + 1 ≤ _), (by decide : 0 + 5 ≤ _)⟩)
 dsimp only [Pt.U, Pt.locs, Pt.cells, Pt.slots] at X2 l2 y2 z2 st2 hQ2
 subst l2 y2 z2
 obtain ⟨rfl, N2q, K2, b', k', D', hb'⟩ := hQ2
 have N2 := Fr.app N0 N2q
 have R3 := Rc.tr R1 st2
 replace hZn := Nat.le_trans hZn K2.1
 replace hK := hK.trans K2 (allS (Or.inl (List.mem_of_getElem? (i := 0) rfl)) all0)
 replace E1 := E1.keep K2
 subst hA0
 obtain ⟨fs, hr, hrun, hended, hW, hsame⟩ := X2.leave (v := none) (fun _ => rfl)
 refine ⟨_, _, R3 _ ?_, hrun, hended, _, _, rfl, ?_, ⟨_, rfl⟩, hW, hsame.mono (by decide) (by decide)⟩
 ·show Steps p.tables e below (T2.setTop (mkF m 5 #[.val (.ref a1), .val (.int pi)] [])) _
  exact X2.returnOut hx Bd.returns (hb hby d18_5) hr
 ·show Qsi Z a1 N h0 n0 _ T2.heap _
  exact ⟨rfl, N2, hK, b', k', D', hb'⟩
abbrev yn19 : MethodName := ⟨"java/util/Arrays", "checkLength", "(II)V"⟩
theorem ef_rm_cl (m : MethodId) (pn : Int32) : entryFrame m #[(.int (0 : Int32)), (.int pn)] 2 = mkF m 0 #[.val (.int (0 : Int32)), .val (.int pn)] [] := by first | (simp [entryFrame, mkF, argsToLocals, Value.category]; done) | rfl
theorem d19_0 : decode jdk_65_method_131_code 0 = .ok (.iload_n 1, 1) := by decide +kernel
theorem d19_1 : decode jdk_65_method_131_code 1 = .ok (.iload_n 0, 1) := by decide +kernel
theorem d19_2 : decode jdk_65_method_131_code 2 = .ok (.if_icmp .ge 35, 3) := by decide +kernel
theorem d19_37 : decode jdk_65_method_131_code 37 = .ok (.return_, 1) := by decide +kernel
set_option maxRecDepth 65536 in
set_option maxHeartbeats 40000000 in
theorem rm_cl (l : Launch) (Z : State) (a0 : Array Value) (hw : ∀ d ∈ tables_1, d.before a0 Z = true) (ws : List Jvm.Cond) (pn : Int32) (h0 : Heap) (n0 : Nat) (Z0 : n0 ≤ h0.size) (h1 : ¬ pn < 0) :
    MetFree l yn19 (head1 (Jvm.Cond.code yn19 jdk_65_method_131_code 2 none :: ws) ({ frames := 0, cells := 0, slots := 0, locals := 0 } : Room)) (fun a U => a = #[(.int (0 : Int32)), (.int pn)] ∧ Z.Warmed39 U.vm ∧ U.heap = h0) (fun _ _ _ _ _ => True) (fun _ U o U' => ∃ v L, o = .returned v ∧ Qn h0 n0 v U'.heap L ∧ FrameEnd U o U' L ({ frames := 0, cells := 0, slots := 0, locals := 0 } : Room).cells ({ frames := 0, cells := 0, slots := 0, locals := 0 } : Room).slots) := by
 refine MetFree.of_bodySF (plainFor_of_name pn_java_util_Arrays) hisR ?_
 intro p e s m args below meth c s₁ Bd hml0 hP hK
 obtain ⟨rfl, hZ, hh⟩ := hP
 have hx := Bd.exec
 have hby := Bd.bytes
 have hml : c.maxLocals = 2 := hml0
 have hown : s.vm.findClass "java/util/Arrays" = some m.cls := findClass_of_methodNamed Bd.named
 have hnm := (name_of_methodNamed Bd.named Bd.method).1
 have X0 : Stand p l e ({ frames := 0, cells := 0, slots := 0, locals := 0 } : Room) s m #[(.int 0), (.int pn)] below meth c s₁ [] 0 0 := Stand.of_body Bd
 have e0 : s₁.heap = h0 := by rw [← hh, Bd.state]; rfl
 have N0 := Fr.nil n0
 obtain ⟨A0, hA0⟩ : ∃ A, A = s₁.setTop (entryFrame m #[(.int 0), (.int pn)] 2) := ⟨_, rfl⟩
 have R0 : ∀ tgt, Steps p.tables e below (s₁.setTop (mkF m 0 #[.val (.int 0), .val (.int pn)] [])) tgt → Steps p.tables e below A0 tgt := fun tgt hgo => by rw [hA0]; exact castTop (ef_rm_cl m pn) hgo
 have w : ∀ (i : Nat) {d : Jvm.Cond}, tables_1[i]? = some d → d.before a0 Z = true := fun i d h => hw d (List.mem_of_getElem? h)
 have R1 : Rc p e below A0 (s₁.setTop (mkF m 37 #[.val (.int 0), .val (.int pn)] [])) := by
   intro tgt hgo
   refine R0 tgt ?_
   show Steps p.tables e below (s₁.setTop (mkF m 0 #[.val (.int 0), .val (.int pn)] [])) _
   refine XS.iloadN X0.here hx rfl (hb hby d19_0) rfl ?_
   refine XS.iloadN X0.here hx rfl (hb hby d19_1) rfl ?_
   refine XS.icmpYes X0.here hx rfl (pc0 := 2) (pc' := 37) rfl (hb hby d19_2) rfl (flt (h1 : ¬ (pn < (0 : Int32)))).2.1 (by decide) (by decide) ?_
   exact hgo
 subst hA0
 obtain ⟨fs, hr, hrun, hended, hW, hsame⟩ := X0.leave (v := none) (fun _ => rfl)
 refine ⟨_, _, R1 _ ?_, hrun, hended, _, _, rfl, ?_, ⟨_, rfl⟩, hW, hsame.mono (by decide) (by decide)⟩
 ·show Steps p.tables e below (s₁.setTop (mkF m 37 #[.val (.int 0), .val (.int pn)] [])) _
  exact X0.returnOut hx Bd.returns (hb hby d19_37) hr
 ·show Qn h0 n0 _ s₁.heap _
  rw [e0]
  exact ⟨rfl, N0, rfl⟩
def Qcr (Z : State) (bs : List Int32) (h0 : Heap) (n0 : Nat) (v : Option Value) (h : Heap) (L : List Loc) : Prop := (∃ t : Addr, v = some (.ref t) ∧ ∃ kt : ClassId, n0 ≤ t ∧ h0.size ≤ t ∧ Arv Z h t kt .byte (Int32.ofNat bs.length) (bs.map Value.int) (.int 0)) ∧ Fr n0 L ∧ Keep h0 h []
theorem own_min_le {n N : Nat} (h : n ≤ N) (hN : N ≤ 12) : own_imin (Int32.ofNat N) (Int32.ofNat n) = Int32.ofNat n := by
  unfold own_imin
  by_cases q : Int32.ofNat n < Int32.ofNat N
  · rw [if_pos q]
  · rw [if_neg q]; rw [own_lt (by omega) (by omega)] at q; congr 1; omega
abbrev yn20 : MethodName := ⟨"java/util/Arrays", "copyOfRangeByte", "([BII)[B"⟩
theorem ef_rm_cb (m : MethodId) (b : Addr) (pn : Int32) : entryFrame m #[(.ref b), (.int (0 : Int32)), (.int pn)] 5 = mkF m 0 #[.val (.ref b), .val (.int (0 : Int32)), .val (.int pn), .unset, .unset] [] := by first | (simp [entryFrame, mkF, argsToLocals, Value.category]; done) | rfl
theorem d20_0 : decode jdk_65_method_133_code 0 = .ok (.iload_n 1, 1) := by decide +kernel
theorem d20_1 : decode jdk_65_method_133_code 1 = .ok (.iload_n 2, 1) := by decide +kernel
theorem d20_2 : decode jdk_65_method_133_code 2 = .ok (.invokestatic 343, 3) := by decide +kernel
theorem d20_5 : decode jdk_65_method_133_code 5 = .ok (.iload_n 2, 1) := by decide +kernel
theorem d20_6 : decode jdk_65_method_133_code 6 = .ok (.iload_n 1, 1) := by decide +kernel
theorem d20_7 : decode jdk_65_method_133_code 7 = .ok (.isub, 1) := by decide +kernel
theorem d20_8 : decode jdk_65_method_133_code 8 = .ok (.istore_n 3, 1) := by decide +kernel
theorem d20_9 : decode jdk_65_method_133_code 9 = .ok (.iload_n 3, 1) := by decide +kernel
theorem d20_10 : decode jdk_65_method_133_code 10 = .ok (.newarray .byte, 2) := by decide +kernel
theorem d20_12 : decode jdk_65_method_133_code 12 = .ok (.astore 4, 2) := by decide +kernel
theorem d20_14 : decode jdk_65_method_133_code 14 = .ok (.aload_n 0, 1) := by decide +kernel
theorem d20_15 : decode jdk_65_method_133_code 15 = .ok (.iload_n 1, 1) := by decide +kernel
theorem d20_16 : decode jdk_65_method_133_code 16 = .ok (.aload 4, 2) := by decide +kernel
theorem d20_18 : decode jdk_65_method_133_code 18 = .ok (.iconst 0, 1) := by decide +kernel
theorem d20_19 : decode jdk_65_method_133_code 19 = .ok (.aload_n 0, 1) := by decide +kernel
theorem d20_20 : decode jdk_65_method_133_code 20 = .ok (.arraylength, 1) := by decide +kernel
theorem d20_21 : decode jdk_65_method_133_code 21 = .ok (.iload_n 1, 1) := by decide +kernel
theorem d20_22 : decode jdk_65_method_133_code 22 = .ok (.isub, 1) := by decide +kernel
theorem d20_23 : decode jdk_65_method_133_code 23 = .ok (.iload_n 3, 1) := by decide +kernel
theorem d20_24 : decode jdk_65_method_133_code 24 = .ok (.invokestatic 304, 3) := by decide +kernel
theorem d20_27 : decode jdk_65_method_133_code 27 = .ok (.invokestatic 150, 3) := by decide +kernel
theorem d20_30 : decode jdk_65_method_133_code 30 = .ok (.aload 4, 2) := by decide +kernel
theorem d20_32 : decode jdk_65_method_133_code 32 = .ok (.areturn, 1) := by decide +kernel
set_option maxRecDepth 65536 in
set_option maxHeartbeats 40000000 in
theorem rm_cb (l : Launch) (Z : State) (a0 : Array Value) (hw : ∀ d ∈ tables_1, d.before a0 Z = true) (ws : List Jvm.Cond) (b : Addr) (pn : Int32) (k : ClassId) (N : Nat) (bs : List Int32) (h0 : Heap) (n0 : Nat) (Z0 : n0 ≤ h0.size) (hpn : pn = Int32.ofNat bs.length) (hle : bs.length ≤ N) (hN : N ≤ 12) (V1 : Arv Z h0 b k .byte (Int32.ofNat N) (bs.map Value.int) (.int 0)) (Eb : Exa Z h0 b "[B") :
    MetFree l yn20 (head1 (Jvm.Cond.code yn20 jdk_65_method_133_code 5 (some (.array .byte)) :: ws) ({ frames := 1, cells := 1, slots := 12, locals := 24 } : Room)) (fun a U => a = #[(.ref b), (.int (0 : Int32)), (.int pn)] ∧ Z.Warmed39 U.vm ∧ U.heap = h0) (fun _ _ _ _ _ => True) (fun _ U o U' => ∃ v L, o = .returned v ∧ Qcr Z bs h0 n0 v U'.heap L ∧ FrameEnd U o U' L ({ frames := 1, cells := 1, slots := 12, locals := 24 } : Room).cells ({ frames := 1, cells := 1, slots := 12, locals := 24 } : Room).slots) := by
 refine MetFree.of_bodySF (plainFor_of_name pn_java_util_Arrays) hisR ?_
 intro p e s m args below meth c s₁ Bd hml0 hP hK
 obtain ⟨rfl, hZ, hh⟩ := hP
 have hx := Bd.exec
 have hby := Bd.bytes
 have hml : c.maxLocals = 5 := hml0
 have hown : s.vm.findClass "java/util/Arrays" = some m.cls := findClass_of_methodNamed Bd.named
 have hnm := (name_of_methodNamed Bd.named Bd.method).1
 have X0 : Stand p l e ({ frames := 1, cells := 1, slots := 12, locals := 24 } : Room) s m #[(.ref b), (.int 0), (.int pn)] below meth c s₁ [] 0 0 := Stand.of_body Bd
 have e0 : s₁.heap = h0 := by rw [← hh, Bd.state]; rfl
 have N0 := Fr.nil n0
 obtain ⟨A0, hA0⟩ : ∃ A, A = s₁.setTop (entryFrame m #[(.ref b), (.int 0), (.int pn)] 5) := ⟨_, rfl⟩
 have R0 : ∀ tgt, Steps p.tables e below (s₁.setTop (mkF m 0 #[.val (.ref b), .val (.int 0), .val (.int pn), .unset, .unset] [])) tgt → Steps p.tables e below A0 tgt := fun tgt hgo => by rw [hA0]; exact castTop (ef_rm_cb m b pn) hgo
 have w : ∀ (i : Nat) {d : Jvm.Cond}, tables_1[i]? = some d → d.before a0 Z = true := fun i d h => hw d (List.mem_of_getElem? h)
 have hZn := Z0
 have hK : Keep h0 h0 [] := Keep.refl _ _
 have R1 : Rc p e below A0 (s₁.setTop (mkF m 2 #[.val (.ref b), .val (.int 0), .val (.int pn), .unset, .unset] [(.int pn), (.int 0)])) := by
   intro tgt hgo
   refine R0 tgt ?_
   show Steps p.tables e below (s₁.setTop (mkF m 0 #[.val (.ref b), .val (.int 0), .val (.int pn), .unset, .unset] [])) _
   refine XS.iloadN X0.here hx rfl (hb hby d20_0) rfl ?_
   refine XS.iloadN X0.here hx rfl (hb hby d20_1) rfl ?_
   exact hgo
 obtain ⟨_, _, ⟨T2, L2, k2, n2⟩, -, X2, ⟨Lc2, hQ2, l2, y2, z2⟩, st2⟩ := Jvm.LawKit.callS X0 hx (y := yn19) hown (mvT hZ (w 188 rfl)) (mvT hZ (w 189 rfl)) (mvT hZ (w 109 rfl)) (mvT hZ (w 190 rfl)) (by decide) (backOf (W := 0) (rm_cl l Z a0 hw [] pn h0 n0 Z0 (by rw [hpn]; exact own_nn (by omega))) hZ (w 190 rfl) (w 109 rfl) (by decide) (by decide)) (g := (mkF m 2 #[.val (.ref b), .val (.int 0), .val (.int pn), .unset, .unset] [(.int pn), (.int 0)])) rfl (by rw [hml]; rfl) (argsL := [(.int 0), (.int pn)]) (rest := []) (lenOf pd_2 rfl) rfl (by show 2 * 0 + _ ≤ _; exact Nat.le_of_eq rfl) (hb hby d20_2) (fun _ _ => ⟨rfl, e0, (by decide : 0 + 0 ≤ _), (by decide : 0 + 0 ≤ _)⟩)
 dsimp only [Pt.U, Pt.locs, Pt.cells, Pt.slots] at X2 l2 y2 z2 st2 hQ2
 subst l2 y2 z2
 obtain ⟨rfl, N2q, e2⟩ := hQ2
 have N2 := Fr.app N0 N2q
 have R3 := Rc.st R1 st2
 have R4 : Rc p e below A0 (T2.setTop (mkF m 8 #[.val (.ref b), .val (.int 0), .val (.int pn), .unset, .unset] [(.int (pn - (0 : Int32)))])) := by
   intro tgt hgo
   refine R3 tgt ?_
   show Steps p.tables e below (T2.setTop (mkF m 5 #[.val (.ref b), .val (.int 0), .val (.int pn), .unset, .unset] [])) _
   refine XS.iloadN X2.here hx rfl (hb hby d20_5) rfl ?_
   refine XS.iloadN X2.here hx rfl (hb hby d20_6) rfl ?_
   refine XS.isub X2.here hx rfl (hb hby d20_7) rfl ?_
   exact hgo
 rw [(own_sub0 pn : (pn - (0 : Int32)) = pn)] at R4
 have R5 : Rc p e below A0 (T2.setTop (mkF m 10 #[.val (.ref b), .val (.int 0), .val (.int pn), .val (.int pn), .unset] [(.int pn)])) := by
   intro tgt hgo
   refine R4 tgt ?_
   show Steps p.tables e below (T2.setTop (mkF m 8 #[.val (.ref b), .val (.int 0), .val (.int pn), .unset, .unset] [(.int pn)])) _
   refine XS.istoreN X2.here hx rfl (hb hby d20_8) rfl (l' := #[.val (.ref b), .val (.int 0), .val (.int pn), .val (.int pn), .unset]) rfl ?_
   refine XS.iloadN X2.here hx rfl (hb hby d20_9) rfl ?_
   exact hgo
 obtain ⟨T6, h6, k6, X6, e6, E6, A6, B6, st6⟩ := newPE X2 hx hZ (w 15 rfl) e2 (g := (mkF m 10 #[.val (.ref b), .val (.int 0), .val (.int pn), .val (.int pn), .unset] [(.int pn)])) rfl (hb hby d20_10) rfl (by rw [hpn]; exact own_nn (by omega)) (cap := 12) (by rw [hpn, own_clamp (by omega)]; omega) (by decide) (by decide) (by decide) (ad := "[B") rfl
 obtain ⟨nb, g6⟩ : ∃ z, z = h0.size := ⟨_, rfl⟩
 rw [← g6] at A6 B6 st6
 have ne_b_nb : b ≠ nb := Nat.ne_of_lt (Nat.lt_of_lt_of_le V1.lt (Nat.le_of_eq g6.symm))
 have ge_nb : n0 ≤ nb := Nat.le_trans hZn (Nat.le_of_eq g6.symm)
 have sz_nb : h0.size ≤ nb := Nat.le_trans hK.1 (Nat.le_of_eq g6.symm)
 replace hZn := Nat.le_trans hZn E6.1
 replace hK := hK.ext E6
 replace V1 := V1.ext E6
 replace Eb := Eb.ext E6
 have E_nb := B6
 have V_nb := Arv.new A6 (by rw [hpn]; exact own_nn (by omega))
 have R7 := Rc.st R5 st6
 have R8 : Rc p e below A0 (T6.setTop (mkF m 20 #[.val (.ref b), .val (.int 0), .val (.int pn), .val (.int pn), .val (.ref nb)] [(.ref b), (.int 0), (.ref nb), (.int 0), (.ref b)])) := by
   intro tgt hgo
   refine R7 tgt ?_
   show Steps p.tables e below (T6.setTop (mkF m 12 #[.val (.ref b), .val (.int 0), .val (.int pn), .val (.int pn), .unset] [(.ref nb)])) _
   refine XS.astore X6.here hx rfl (hb hby d20_12) rfl rfl (l' := #[.val (.ref b), .val (.int 0), .val (.int pn), .val (.int pn), .val (.ref nb)]) rfl ?_
   refine XS.aloadN X6.here hx rfl (hb hby d20_14) rfl rfl ?_
   refine XS.iloadN X6.here hx rfl (hb hby d20_15) rfl ?_
   refine XS.aload X6.here hx rfl (hb hby d20_16) rfl rfl ?_
   refine XS.iconst X6.here hx rfl (hb hby d20_18) ?_
   refine XS.aloadN X6.here hx rfl (hb hby d20_19) rfl rfl ?_
   exact hgo
 obtain ⟨cl9, Ar9, -, S9, Nn9, -, -⟩ := id V1
 have R10 : Rc p e below A0 (T6.setTop (mkF m 21 #[.val (.ref b), .val (.int 0), .val (.int pn), .val (.int pn), .val (.ref nb)] [(.int (Int32.ofNat N)), (.int 0), (.ref nb), (.int 0), (.ref b)])) := by
   intro tgt hgo
   refine R8 tgt ?_
   refine X6.arraylength hx (by rw [e6]; exact Ar9.1) (State.isArrayOf_alike hZ.alike Ar9.2.1) (g := (mkF m 20 #[.val (.ref b), .val (.int 0), .val (.int pn), .val (.int pn), .val (.ref nb)] [(.ref b), (.int 0), (.ref nb), (.int 0), (.ref b)])) rfl rfl (hb hby d20_20) _ ?_
   rw [len_of S9 Nn9]
   exact hgo
 have R11 : Rc p e below A0 (T6.setTop (mkF m 23 #[.val (.ref b), .val (.int 0), .val (.int pn), .val (.int pn), .val (.ref nb)] [(.int ((Int32.ofNat N) - (0 : Int32))), (.int 0), (.ref nb), (.int 0), (.ref b)])) := by
   intro tgt hgo
   refine R10 tgt ?_
   show Steps p.tables e below (T6.setTop (mkF m 21 #[.val (.ref b), .val (.int 0), .val (.int pn), .val (.int pn), .val (.ref nb)] [(.int (Int32.ofNat N)), (.int 0), (.ref nb), (.int 0), (.ref b)])) _
   refine XS.iloadN X6.here hx rfl (hb hby d20_21) rfl ?_
   refine XS.isub X6.here hx rfl (hb hby d20_22) rfl ?_
   exact hgo
 rw [(own_sub0 _ : ((Int32.ofNat N) - (0 : Int32)) = (Int32.ofNat N))] at R11
 have R12 : Rc p e below A0 (T6.setTop (mkF m 24 #[.val (.ref b), .val (.int 0), .val (.int pn), .val (.int pn), .val (.ref nb)] [(.int pn), (.int (Int32.ofNat N)), (.int 0), (.ref nb), (.int 0), (.ref b)])) := by
   intro tgt hgo
   refine R11 tgt ?_
   show Steps p.tables e below (T6.setTop (mkF m 23 #[.val (.ref b), .val (.int 0), .val (.int pn), .val (.int pn), .val (.ref nb)] [(.int (Int32.ofNat N)), (.int 0), (.ref nb), (.int 0), (.ref b)])) _
   refine XS.iloadN X6.here hx rfl (hb hby d20_23) rfl ?_
   exact hgo
 obtain ⟨_, _, ⟨T13, L13, k13, n13⟩, -, X13, ⟨Lc13, hQ13, l13, y13, z13⟩, st13⟩ := Jvm.LawKit.callS X6 hx (y := yn8) hown (mvT hZ (w 178 rfl)) (mvT hZ (w 179 rfl)) (mvT hZ (w 171 rfl)) (mvT hZ (w 180 rfl)) (by decide) (backOf (W := 4) (rm_min l Z a0 hw [] (Int32.ofNat N) pn (Int32.ofNat bs.length) h6 n0 hZn (by rw [hpn]; exact own_min_le hle hN)) hZ (w 180 rfl) (w 171 rfl) (by decide) (by decide)) (g := (mkF m 24 #[.val (.ref b), .val (.int 0), .val (.int pn), .val (.int pn), .val (.ref nb)] [(.int pn), (.int (Int32.ofNat N)), (.int 0), (.ref nb), (.int 0), (.ref b)])) rfl (by rw [hml]; rfl) (argsL := [(.int (Int32.ofNat N)), (.int pn)]) (rest := [(.int 0), (.ref nb), (.int 0), (.ref b)]) (lenOf pd_5 rfl) rfl (by show 2 * 0 + _ ≤ _; exact Nat.le_of_eq rfl) (hb hby d20_24) (fun _ _ => ⟨rfl, e6, (by decide : 1 + 0 ≤ _), (by decide : 12 + 0 ≤ _)⟩)
 dsimp only [Pt.U, Pt.locs, Pt.cells, Pt.slots] at X13 l13 y13 z13 st13 hQ13
 subst l13 y13 z13
 obtain ⟨rfl, N13q, e13⟩ := hQ13
 have N13 := Fr.app N2 N13q
 have R14 := Rc.st R12 st13
 obtain ⟨T15, h15, X15, e15, K15, V15, st15⟩ := OwnKit.own_acp X13 hx hZ hown (w 181 rfl) (w 184 rfl) (w 182 rfl) (w 183 rfl) e13 V1 V_nb ne_b_nb (n := bs.length) (by simp) (by omega) (by rw [own_clamp (by omega)]; exact hle) (by rw [hpn, own_clamp (by omega)]; exact Nat.le_refl _) (g := (mkF m 27 #[.val (.ref b), .val (.int 0), .val (.int pn), .val (.int pn), .val (.ref nb)] [(.int (Int32.ofNat bs.length)), (.int 0), (.ref nb), (.int 0), (.ref b)])) rfl (by rw [hml]; rfl) (rest := []) rfl (hb hby d20_27) (by decide) (by show 2 * 0 + _ + _ ≤ _; decide +kernel)
 have N15 := OwnKit.own_frc (k := 0) (n := bs.length) N13 ge_nb
 replace hZn := Nat.le_trans hZn K15.1
 replace hK := hK.trans K15 (allS (Or.inr sz_nb) all0)
 replace V1 := V1.keep K15 (ninS ne_b_nb nin0)
 replace Eb := Eb.keep K15
 replace E_nb := E_nb.keep K15
 have V_nb := V15
 have R16 := Rc.st R14 st15
 have R17 : Rc p e below A0 (T15.setTop (mkF m 32 #[.val (.ref b), .val (.int 0), .val (.int pn), .val (.int pn), .val (.ref nb)] [(.ref nb)])) := by
   intro tgt hgo
   refine R16 tgt ?_
   show Steps p.tables e below (T15.setTop (mkF m 30 #[.val (.ref b), .val (.int 0), .val (.int pn), .val (.int pn), .val (.ref nb)] [])) _
   refine XS.aload X15.here hx rfl (hb hby d20_30) rfl rfl ?_
   exact hgo
 subst hA0
 obtain ⟨fs, hr, hrun, hended, hW, hsame⟩ := X15.leave (v := some (.ref nb)) (fun h => by rw [Bd.returns] at h; cases h)
 refine ⟨_, _, R17 _ ?_, hrun, hended, _, _, rfl, ?_, ⟨_, rfl⟩, hW, hsame.mono (by decide) (by decide)⟩
 ·show Steps p.tables e below (T15.setTop (mkF m 32 #[.val (.ref b), .val (.int 0), .val (.int pn), .val (.int pn), .val (.ref nb)] [(.ref nb)])) _
  jvm_step X15.here [X15.here.top, hx, (hb hby d20_32), X15.method', Bd.returns, Value.isRef, FieldType.isReference]
  first | (intro acts; rw [hr _ acts rfl rfl rfl]) | rw [hr _ _ rfl rfl rfl]
  exact Steps.refl _
 ·show Qcr Z bs h0 n0 _ T15.heap _
  rw [e15]
  exact ⟨⟨nb, rfl, _, ge_nb, sz_nb, hpn ▸ V_nb⟩, N15, hK⟩
abbrev yn21 : MethodName := ⟨"java/util/Arrays", "copyOfRange", "([BII)[B"⟩
theorem ef_rm_cr (m : MethodId) (b : Addr) (pn : Int32) : entryFrame m #[(.ref b), (.int (0 : Int32)), (.int pn)] 3 = mkF m 0 #[.val (.ref b), .val (.int (0 : Int32)), .val (.int pn)] [] := by first | (simp [entryFrame, mkF, argsToLocals, Value.category]; done) | rfl
theorem d21_0 : decode jdk_65_method_132_code 0 = .ok (.iload_n 1, 1) := by decide +kernel
theorem d21_1 : decode jdk_65_method_132_code 1 = .ok (.ifCond .ne 9, 3) := by decide +kernel
theorem d21_4 : decode jdk_65_method_132_code 4 = .ok (.iload_n 2, 1) := by decide +kernel
theorem d21_5 : decode jdk_65_method_132_code 5 = .ok (.aload_n 0, 1) := by decide +kernel
theorem d21_6 : decode jdk_65_method_132_code 6 = .ok (.arraylength, 1) := by decide +kernel
theorem d21_7 : decode jdk_65_method_132_code 7 = .ok (.if_icmp .eq 10, 3) := by decide +kernel
theorem d21_17 : decode jdk_65_method_132_code 17 = .ok (.aload_n 0, 1) := by decide +kernel
theorem d21_18 : decode jdk_65_method_132_code 18 = .ok (.invokevirtual 310, 3) := by decide +kernel
theorem d21_21 : decode jdk_65_method_132_code 21 = .ok (.checkcast 311, 3) := by decide +kernel
theorem d21_24 : decode jdk_65_method_132_code 24 = .ok (.areturn, 1) := by decide +kernel
theorem d21_10 : decode jdk_65_method_132_code 10 = .ok (.aload_n 0, 1) := by decide +kernel
theorem d21_11 : decode jdk_65_method_132_code 11 = .ok (.iload_n 1, 1) := by decide +kernel
theorem d21_12 : decode jdk_65_method_132_code 12 = .ok (.iload_n 2, 1) := by decide +kernel
theorem d21_13 : decode jdk_65_method_132_code 13 = .ok (.invokestatic 339, 3) := by decide +kernel
theorem pd_12 : parseMethodDescriptor "([BII)[B" = some ⟨[(.array .byte), .int, .int], some (.array .byte)⟩ := by decide +kernel
theorem d21_16 : decode jdk_65_method_132_code 16 = .ok (.areturn, 1) := by decide +kernel
set_option maxRecDepth 65536 in
set_option maxHeartbeats 40000000 in
theorem rm_cr (l : Launch) (Z : State) (a0 : Array Value) (hw : ∀ d ∈ tables_1, d.before a0 Z = true) (ws : List Jvm.Cond) (b : Addr) (pn : Int32) (k : ClassId) (N : Nat) (bs : List Int32) (h0 : Heap) (n0 : Nat) (Z0 : n0 ≤ h0.size) (hpn : pn = Int32.ofNat bs.length) (hle : bs.length ≤ N) (hN : N ≤ 12) (V1 : Arv Z h0 b k .byte (Int32.ofNat N) (bs.map Value.int) (.int 0)) (Eb : Exa Z h0 b "[B") :
    MetFree l yn21 (head1 (Jvm.Cond.code yn21 jdk_65_method_132_code 3 (some (.array .byte)) :: ws) ({ frames := 2, cells := 1, slots := 12, locals := 40 } : Room)) (fun a U => a = #[(.ref b), (.int (0 : Int32)), (.int pn)] ∧ Z.Warmed39 U.vm ∧ U.heap = h0) (fun _ _ _ _ _ => True) (fun _ U o U' => ∃ v L, o = .returned v ∧ Qcr Z bs h0 n0 v U'.heap L ∧ FrameEnd U o U' L ({ frames := 2, cells := 1, slots := 12, locals := 40 } : Room).cells ({ frames := 2, cells := 1, slots := 12, locals := 40 } : Room).slots) := by
 refine MetFree.of_bodySF (plainFor_of_name pn_java_util_Arrays) hisR ?_
 intro p e s m args below meth c s₁ Bd hml0 hP hK
 obtain ⟨rfl, hZ, hh⟩ := hP
 have hx := Bd.exec
 have hby := Bd.bytes
 have hml : c.maxLocals = 3 := hml0
 have hown : s.vm.findClass "java/util/Arrays" = some m.cls := findClass_of_methodNamed Bd.named
 have hnm := (name_of_methodNamed Bd.named Bd.method).1
 have X0 : Stand p l e ({ frames := 2, cells := 1, slots := 12, locals := 40 } : Room) s m #[(.ref b), (.int 0), (.int pn)] below meth c s₁ [] 0 0 := Stand.of_body Bd
 have e0 : s₁.heap = h0 := by rw [← hh, Bd.state]; rfl
 have N0 := Fr.nil n0
 obtain ⟨A0, hA0⟩ : ∃ A, A = s₁.setTop (entryFrame m #[(.ref b), (.int 0), (.int pn)] 3) := ⟨_, rfl⟩
 have R0 : ∀ tgt, Steps p.tables e below (s₁.setTop (mkF m 0 #[.val (.ref b), .val (.int 0), .val (.int pn)] [])) tgt → Steps p.tables e below A0 tgt := fun tgt hgo => by rw [hA0]; exact castTop (ef_rm_cr m b pn) hgo
 have w : ∀ (i : Nat) {d : Jvm.Cond}, tables_1[i]? = some d → d.before a0 Z = true := fun i d h => hw d (List.mem_of_getElem? h)
 have hZn := Z0
 have hK : Keep h0 h0 [] := Keep.refl _ _
 have R1 : Rc p e below A0 (s₁.setTop (mkF m 6 #[.val (.ref b), .val (.int 0), .val (.int pn)] [(.ref b), (.int pn)])) := by
   intro tgt hgo
   refine R0 tgt ?_
   show Steps p.tables e below (s₁.setTop (mkF m 0 #[.val (.ref b), .val (.int 0), .val (.int pn)] [])) _
   refine XS.iloadN X0.here hx rfl (hb hby d21_0) rfl ?_
   refine XS.ifNo X0.here hx rfl (hb hby d21_1) rfl ((if0 _ _).trans (teq (by decide : (0 : Int32) = (0 : Int32))).2) ?_
   refine XS.iloadN X0.here hx rfl (hb hby d21_4) rfl ?_
   refine XS.aloadN X0.here hx rfl (hb hby d21_5) rfl rfl ?_
   exact hgo
 obtain ⟨cl2, Ar2, -, S2, Nn2, -, -⟩ := id V1
 have R3 : Rc p e below A0 (s₁.setTop (mkF m 7 #[.val (.ref b), .val (.int 0), .val (.int pn)] [(.int (Int32.ofNat N)), (.int pn)])) := by
   intro tgt hgo
   refine R1 tgt ?_
   refine X0.arraylength hx (by rw [e0]; exact Ar2.1) (State.isArrayOf_alike hZ.alike Ar2.2.1) (g := (mkF m 6 #[.val (.ref b), .val (.int 0), .val (.int pn)] [(.ref b), (.int pn)])) rfl rfl (hb hby d21_6) _ ?_
   rw [len_of S2 Nn2]
   exact hgo
 by_cases hc7_4 : pn = (Int32.ofNat N)
 ·have R5 : Rc p e below A0 (s₁.setTop (mkF m 18 #[.val (.ref b), .val (.int 0), .val (.int pn)] [(.ref b)])) := by
    intro tgt hgo
    refine R3 tgt ?_
    show Steps p.tables e below (s₁.setTop (mkF m 7 #[.val (.ref b), .val (.int 0), .val (.int pn)] [(.int (Int32.ofNat N)), (.int pn)])) _
    refine XS.icmpYes X0.here hx rfl (pc0 := 7) (pc' := 17) rfl (hb hby d21_7) rfl (teq hc7_4).1 (by decide) (by decide) ?_
    refine XS.aloadN X0.here hx rfl (hb hby d21_17) rfl rfl ?_
    exact hgo
  obtain ⟨cl6, Ar6, q6, S6, Nn6, H6, G6⟩ := id V1
  obtain ⟨T6, h6, X6, e6, E6, A6, B6, st6⟩ := cloneA X0 hx hZ hown (w 111 rfl) (w 112 rfl) (w 116 rfl) (w 114 rfl) (w 115 rfl) (w 117 rfl) e0 Ar6 Eb (fitC_of Ar6 fun i hi v hv => by rw [H6 i hi] at hv; cases hv; exact G6 i hi) (g := (mkF m 18 #[.val (.ref b), .val (.int 0), .val (.int pn)] [(.ref b)])) rfl (by rw [hml]; rfl) (rest := []) rfl (hb hby d21_18) (by decide) (W := 0) (cap := 12) (by show 2 * 0 + _ ≤ _; exact Nat.le_of_eq rfl) (by decide) (by rw [S6]; exact (by rw [own_clamp (by omega)]; exact hN)) (by decide) (by decide)
  obtain ⟨nb, g6⟩ : ∃ z, z = h0.size := ⟨_, rfl⟩
  rw [← g6] at A6 B6 st6
  have ne_b_nb : b ≠ nb := Nat.ne_of_lt (Nat.lt_of_lt_of_le V1.lt (Nat.le_of_eq g6.symm))
  have ge_nb : n0 ≤ nb := Nat.le_trans hZn (Nat.le_of_eq g6.symm)
  have sz_nb : h0.size ≤ nb := Nat.le_trans hK.1 (Nat.le_of_eq g6.symm)
  replace hZn := Nat.le_trans hZn E6.1
  replace hK := hK.ext E6
  replace V1 := V1.ext E6
  replace Eb := Eb.ext E6
  have V_nb : Arv Z h6 nb k .byte (Int32.ofNat N) _ (.int 0) := ⟨_, A6, q6, S6, Nn6, H6, G6⟩
  have E_nb := B6
  have R7 := Rc.st R5 st6
  obtain ⟨T8, X8, e8, st8⟩ := castY X6 hx hZ hown (w 118 rfl) e6 (Ins.self E_nb) (g := (mkF m 21 #[.val (.ref b), .val (.int 0), .val (.int pn)] [(.ref nb)])) rfl rfl (hb hby d21_21)
  have R9 := Rc.st R7 st8
  subst hA0
  obtain ⟨fs, hr, hrun, hended, hW, hsame⟩ := X8.leave (v := some (.ref nb)) (fun h => by rw [Bd.returns] at h; cases h)
  refine ⟨_, _, R9 _ ?_, hrun, hended, _, _, rfl, ?_, ⟨_, rfl⟩, hW, hsame.mono (by decide) (by decide)⟩
  ·show Steps p.tables e below (T8.setTop (mkF m 24 #[.val (.ref b), .val (.int 0), .val (.int pn)] [(.ref nb)])) _
   jvm_step X8.here [X8.here.top, hx, (hb hby d21_24), X8.method', Bd.returns, Value.isRef, FieldType.isReference]
   first | (intro acts; rw [hr _ acts rfl rfl rfl]) | rw [hr _ _ rfl rfl rfl]
   exact Steps.refl _
  ·show Qcr Z bs h0 n0 _ T8.heap _
   rw [e8]
   exact ⟨⟨nb, rfl, _, ge_nb, sz_nb, by rw [hpn.symm.trans hc7_4]; exact V_nb⟩, N0, hK⟩
 ·have R10 : Rc p e below A0 (s₁.setTop (mkF m 13 #[.val (.ref b), .val (.int 0), .val (.int pn)] [(.int pn), (.int 0), (.ref b)])) := by
    intro tgt hgo
    refine R3 tgt ?_
    show Steps p.tables e below (s₁.setTop (mkF m 7 #[.val (.ref b), .val (.int 0), .val (.int pn)] [(.int (Int32.ofNat N)), (.int pn)])) _
    refine XS.icmpNo X0.here hx rfl (hb hby d21_7) rfl (feq hc7_4).1 ?_
    refine XS.aloadN X0.here hx rfl (hb hby d21_10) rfl rfl ?_
    refine XS.iloadN X0.here hx rfl (hb hby d21_11) rfl ?_
    refine XS.iloadN X0.here hx rfl (hb hby d21_12) rfl ?_
    exact hgo
  obtain ⟨_, _, ⟨T11, L11, k11, n11⟩, -, X11, ⟨Lc11, hQ11, l11, y11, z11⟩, st11⟩ := Jvm.LawKit.callS X0 hx (y := yn20) hown (mvT hZ (w 185 rfl)) (mvT hZ (w 186 rfl)) (mvT hZ (w 109 rfl)) (mvT hZ (w 187 rfl)) (by decide) (backOf (W := 0) (rm_cb l Z a0 hw [] b pn k N bs h0 n0 Z0 hpn hle hN V1 Eb) hZ (w 187 rfl) (w 109 rfl) (by decide) (by decide)) (g := (mkF m 13 #[.val (.ref b), .val (.int 0), .val (.int pn)] [(.int pn), (.int 0), (.ref b)])) rfl (by rw [hml]; rfl) (argsL := [(.ref b), (.int 0), (.int pn)]) (rest := []) (lenOf pd_12 rfl) rfl (by show 2 * 0 + _ ≤ _; exact Nat.le_of_eq rfl) (hb hby d21_13) (fun _ _ => ⟨rfl, e0, (by decide : 0 + 1 ≤ _), (by decide : 0 + 12 ≤ _)⟩)
  dsimp only [Pt.U, Pt.locs, Pt.cells, Pt.slots] at X11 l11 y11 z11 st11 hQ11
  subst l11 y11 z11
  obtain ⟨⟨t11, rfl, kt, ge_nb, sz_nb, v11⟩, N11q, K11⟩ := hQ11
  have N11 := Fr.app N0 N11q
  have R12 := Rc.st R10 st11
  replace hZn := Nat.le_trans hZn K11.1
  replace hK := hK.trans K11 all0
  replace V1 := V1.keep K11 nin0
  replace Eb := Eb.keep K11
  have V_nb := v11
  subst hA0
  obtain ⟨fs, hr, hrun, hended, hW, hsame⟩ := X11.leave (v := some (.ref t11)) (fun h => by rw [Bd.returns] at h; cases h)
  refine ⟨_, _, R12 _ ?_, hrun, hended, _, _, rfl, ?_, ⟨_, rfl⟩, hW, hsame.mono (by decide) (by decide)⟩
  ·show Steps p.tables e below (T11.setTop (mkF m 16 #[.val (.ref b), .val (.int 0), .val (.int pn)] [(.ref t11)])) _
   jvm_step X11.here [X11.here.top, hx, (hb hby d21_16), X11.method', Bd.returns, Value.isRef, FieldType.isReference]
   first | (intro acts; rw [hr _ acts rfl rfl rfl]) | rw [hr _ _ rfl rfl rfl]
   exact Steps.refl _
  ·show Qcr Z bs h0 n0 _ T11.heap _
   exact ⟨⟨t11, rfl, kt, ge_nb, sz_nb, V_nb⟩, N11, hK⟩
abbrev yn22 : MethodName := ⟨"java/lang/AbstractStringBuilder", "getValue", "()[B"⟩
theorem ef_rm_gv (m : MethodId) (a1 : Addr) : entryFrame m #[(.ref a1)] 1 = mkF m 0 #[.val (.ref a1)] [] := by first | (simp [entryFrame, mkF, argsToLocals, Value.category]; done) | rfl
theorem d22_0 : decode jdk_68_method_64_code 0 = .ok (.aload_n 0, 1) := by decide +kernel
theorem d22_1 : decode jdk_68_method_64_code 1 = .ok (.getfield 15, 3) := by decide +kernel
theorem d22_4 : decode jdk_68_method_64_code 4 = .ok (.areturn, 1) := by decide +kernel
set_option maxRecDepth 65536 in
set_option maxHeartbeats 40000000 in
theorem rm_gv (l : Launch) (Z : State) (a0 : Array Value) (hw : ∀ d ∈ tables_1, d.before a0 Z = true) (ws : List Jvm.Cond) (a1 : Addr) (b : Addr) (h0 : Heap) (n0 : Nat) (Z0 : n0 ≤ h0.size) (Fv : Fld Z h0 a1 "java/lang/AbstractStringBuilder" "value" "[B" (.ref b)) :
    MetFree l yn22 (head1 (Jvm.Cond.code yn22 jdk_68_method_64_code 1 (some (.array .byte)) :: ws) ({ frames := 0, cells := 0, slots := 0, locals := 0 } : Room)) (fun a U => a = #[(.ref a1)] ∧ Z.Warmed39 U.vm ∧ U.heap = h0) (fun _ _ _ _ _ => True) (fun _ U o U' => ∃ v L, o = .returned v ∧ Qr b h0 n0 v U'.heap L ∧ FrameEnd U o U' L ({ frames := 0, cells := 0, slots := 0, locals := 0 } : Room).cells ({ frames := 0, cells := 0, slots := 0, locals := 0 } : Room).slots) := by
 refine MetFree.of_bodySF (plainFor_of_name pn_java_lang_AbstractStringBuilder) hisR ?_
 intro p e s m args below meth c s₁ Bd hml0 hP hK
 obtain ⟨rfl, hZ, hh⟩ := hP
 have hx := Bd.exec
 have hby := Bd.bytes
 have hml : c.maxLocals = 1 := hml0
 have hown : s.vm.findClass "java/lang/AbstractStringBuilder" = some m.cls := findClass_of_methodNamed Bd.named
 have hnm := (name_of_methodNamed Bd.named Bd.method).1
 have X0 : Stand p l e ({ frames := 0, cells := 0, slots := 0, locals := 0 } : Room) s m #[(.ref a1)] below meth c s₁ [] 0 0 := Stand.of_body Bd
 have e0 : s₁.heap = h0 := by rw [← hh, Bd.state]; rfl
 have N0 := Fr.nil n0
 obtain ⟨A0, hA0⟩ : ∃ A, A = s₁.setTop (entryFrame m #[(.ref a1)] 1) := ⟨_, rfl⟩
 have R0 : ∀ tgt, Steps p.tables e below (s₁.setTop (mkF m 0 #[.val (.ref a1)] [])) tgt → Steps p.tables e below A0 tgt := fun tgt hgo => by rw [hA0]; exact castTop (ef_rm_gv m a1) hgo
 have w : ∀ (i : Nat) {d : Jvm.Cond}, tables_1[i]? = some d → d.before a0 Z = true := fun i d h => hw d (List.mem_of_getElem? h)
 have R1 : Rc p e below A0 (s₁.setTop (mkF m 1 #[.val (.ref a1)] [(.ref a1)])) := by
   intro tgt hgo
   refine R0 tgt ?_
   show Steps p.tables e below (s₁.setTop (mkF m 0 #[.val (.ref a1)] [])) _
   refine XS.aloadN X0.here hx rfl (hb hby d22_0) rfl rfl ?_
   exact hgo
 obtain ⟨T2, X2, e2, st2⟩ := getF X0 hx hZ hown (host := "") (Or.inl (w 51 rfl)) Via.refl e0 Fv (g := (mkF m 1 #[.val (.ref a1)] [(.ref a1)])) rfl rfl (hb hby d22_1)
 have R3 := Rc.st R1 st2
 subst hA0
 obtain ⟨fs, hr, hrun, hended, hW, hsame⟩ := X2.leave (v := some (.ref b)) (fun h => by rw [Bd.returns] at h; cases h)
 refine ⟨_, _, R3 _ ?_, hrun, hended, _, _, rfl, ?_, ⟨_, rfl⟩, hW, hsame.mono (by decide) (by decide)⟩
 ·show Steps p.tables e below (T2.setTop (mkF m 4 #[.val (.ref a1)] [(.ref b)])) _
  jvm_step X2.here [X2.here.top, hx, (hb hby d22_4), X2.method', Bd.returns, Value.isRef, FieldType.isReference]
  first | (intro acts; rw [hr _ acts rfl rfl rfl]) | rw [hr _ _ rfl rfl rfl]
  exact Steps.refl _
 ·show Qr b h0 n0 _ T2.heap _
  rw [e2]
  exact ⟨rfl, N0, rfl⟩
abbrev yn23 : MethodName := ⟨"java/lang/AbstractStringBuilder", "length", "()I"⟩
theorem ef_rm_al (m : MethodId) (a1 : Addr) : entryFrame m #[(.ref a1)] 1 = mkF m 0 #[.val (.ref a1)] [] := by first | (simp [entryFrame, mkF, argsToLocals, Value.category]; done) | rfl
theorem d23_0 : decode jdk_68_method_6_code 0 = .ok (.aload_n 0, 1) := by decide +kernel
theorem d23_1 : decode jdk_68_method_6_code 1 = .ok (.getfield 79, 3) := by decide +kernel
theorem d23_4 : decode jdk_68_method_6_code 4 = .ok (.ireturn, 1) := by decide +kernel
set_option maxRecDepth 65536 in
set_option maxHeartbeats 40000000 in
theorem rm_al (l : Launch) (Z : State) (a0 : Array Value) (hw : ∀ d ∈ tables_1, d.before a0 Z = true) (ws : List Jvm.Cond) (a1 : Addr) (z : Int32) (h0 : Heap) (n0 : Nat) (Z0 : n0 ≤ h0.size) (Fc : Fld Z h0 a1 "java/lang/AbstractStringBuilder" "count" "I" (.int z)) :
    MetFree l yn23 (head1 (Jvm.Cond.code yn23 jdk_68_method_6_code 1 (some .int) :: ws) ({ frames := 0, cells := 0, slots := 0, locals := 0 } : Room)) (fun a U => a = #[(.ref a1)] ∧ Z.Warmed39 U.vm ∧ U.heap = h0) (fun _ _ _ _ _ => True) (fun _ U o U' => ∃ v L, o = .returned v ∧ Qi z h0 n0 v U'.heap L ∧ FrameEnd U o U' L ({ frames := 0, cells := 0, slots := 0, locals := 0 } : Room).cells ({ frames := 0, cells := 0, slots := 0, locals := 0 } : Room).slots) := by
 refine MetFree.of_bodySF (plainFor_of_name pn_java_lang_AbstractStringBuilder) hisR ?_
 intro p e s m args below meth c s₁ Bd hml0 hP hK
 obtain ⟨rfl, hZ, hh⟩ := hP
 have hx := Bd.exec
 have hby := Bd.bytes
 have hml : c.maxLocals = 1 := hml0
 have hown : s.vm.findClass "java/lang/AbstractStringBuilder" = some m.cls := findClass_of_methodNamed Bd.named
 have hnm := (name_of_methodNamed Bd.named Bd.method).1
 have X0 : Stand p l e ({ frames := 0, cells := 0, slots := 0, locals := 0 } : Room) s m #[(.ref a1)] below meth c s₁ [] 0 0 := Stand.of_body Bd
 have e0 : s₁.heap = h0 := by rw [← hh, Bd.state]; rfl
 have N0 := Fr.nil n0
 obtain ⟨A0, hA0⟩ : ∃ A, A = s₁.setTop (entryFrame m #[(.ref a1)] 1) := ⟨_, rfl⟩
 have R0 : ∀ tgt, Steps p.tables e below (s₁.setTop (mkF m 0 #[.val (.ref a1)] [])) tgt → Steps p.tables e below A0 tgt := fun tgt hgo => by rw [hA0]; exact castTop (ef_rm_al m a1) hgo
 have w : ∀ (i : Nat) {d : Jvm.Cond}, tables_1[i]? = some d → d.before a0 Z = true := fun i d h => hw d (List.mem_of_getElem? h)
 have R1 : Rc p e below A0 (s₁.setTop (mkF m 1 #[.val (.ref a1)] [(.ref a1)])) := by
   intro tgt hgo
   refine R0 tgt ?_
   show Steps p.tables e below (s₁.setTop (mkF m 0 #[.val (.ref a1)] [])) _
   refine XS.aloadN X0.here hx rfl (hb hby d23_0) rfl rfl ?_
   exact hgo
 obtain ⟨T2, X2, e2, st2⟩ := getF X0 hx hZ hown (host := "") (Or.inl (w 65 rfl)) Via.refl e0 Fc (g := (mkF m 1 #[.val (.ref a1)] [(.ref a1)])) rfl rfl (hb hby d23_1)
 have R3 := Rc.st R1 st2
 subst hA0
 obtain ⟨fs, hr, hrun, hended, hW, hsame⟩ := X2.leave (v := some (.int z)) (fun h => by rw [Bd.returns] at h; cases h)
 refine ⟨_, _, R3 _ ?_, hrun, hended, _, _, rfl, ?_, ⟨_, rfl⟩, hW, hsame.mono (by decide) (by decide)⟩
 ·show Steps p.tables e below (T2.setTop (mkF m 4 #[.val (.ref a1)] [(.int z)])) _
  exact retI X2 hx Bd.returns (hb hby d23_4) hr
 ·show Qi z h0 n0 _ T2.heap _
  rw [e2]
  exact ⟨rfl, N0, rfl⟩
abbrev yn24 : MethodName := ⟨"java/lang/StringBuilder", "length", "()I"⟩
theorem ef_rm_sl (m : MethodId) (a1 : Addr) : entryFrame m #[(.ref a1)] 1 = mkF m 0 #[.val (.ref a1)] [] := by first | (simp [entryFrame, mkF, argsToLocals, Value.category]; done) | rfl
theorem d24_0 : decode jdk_67_method_93_code 0 = .ok (.aload_n 0, 1) := by decide +kernel
theorem d24_1 : decode jdk_67_method_93_code 1 = .ok (.invokespecial 343, 3) := by decide +kernel
theorem pd_13 : parseMethodDescriptor "()I" = some ⟨[], some .int⟩ := by decide +kernel
theorem d24_4 : decode jdk_67_method_93_code 4 = .ok (.ireturn, 1) := by decide +kernel
set_option maxRecDepth 65536 in
set_option maxHeartbeats 40000000 in
theorem rm_sl (l : Launch) (Z : State) (a0 : Array Value) (hw : ∀ d ∈ tables_1, d.before a0 Z = true) (ws : List Jvm.Cond) (a1 : Addr) (z : Int32) (h0 : Heap) (n0 : Nat) (Z0 : n0 ≤ h0.size) (E1 : Exa Z h0 a1 "java/lang/StringBuilder") (Fc : Fld Z h0 a1 "java/lang/AbstractStringBuilder" "count" "I" (.int z)) :
    MetFree l yn24 (head1 (Jvm.Cond.code yn24 jdk_67_method_93_code 1 (some .int) :: ws) ({ frames := 1, cells := 0, slots := 0, locals := 12 } : Room)) (fun a U => a = #[(.ref a1)] ∧ Z.Warmed39 U.vm ∧ U.heap = h0) (fun _ _ _ _ _ => True) (fun _ U o U' => ∃ v L, o = .returned v ∧ Qi z h0 n0 v U'.heap L ∧ FrameEnd U o U' L ({ frames := 1, cells := 0, slots := 0, locals := 12 } : Room).cells ({ frames := 1, cells := 0, slots := 0, locals := 12 } : Room).slots) := by
 refine MetFree.of_bodySF (plainFor_of_name pn_java_lang_StringBuilder) hisR ?_
 intro p e s m args below meth c s₁ Bd hml0 hP hK
 obtain ⟨rfl, hZ, hh⟩ := hP
 have hx := Bd.exec
 have hby := Bd.bytes
 have hml : c.maxLocals = 1 := hml0
 have hown : s.vm.findClass "java/lang/StringBuilder" = some m.cls := findClass_of_methodNamed Bd.named
 have hnm := (name_of_methodNamed Bd.named Bd.method).1
 have X0 : Stand p l e ({ frames := 1, cells := 0, slots := 0, locals := 12 } : Room) s m #[(.ref a1)] below meth c s₁ [] 0 0 := Stand.of_body Bd
 have e0 : s₁.heap = h0 := by rw [← hh, Bd.state]; rfl
 have N0 := Fr.nil n0
 obtain ⟨A0, hA0⟩ : ∃ A, A = s₁.setTop (entryFrame m #[(.ref a1)] 1) := ⟨_, rfl⟩
 have R0 : ∀ tgt, Steps p.tables e below (s₁.setTop (mkF m 0 #[.val (.ref a1)] [])) tgt → Steps p.tables e below A0 tgt := fun tgt hgo => by rw [hA0]; exact castTop (ef_rm_sl m a1) hgo
 have w : ∀ (i : Nat) {d : Jvm.Cond}, tables_1[i]? = some d → d.before a0 Z = true := fun i d h => hw d (List.mem_of_getElem? h)
 have R1 : Rc p e below A0 (s₁.setTop (mkF m 1 #[.val (.ref a1)] [(.ref a1)])) := by
   intro tgt hgo
   refine R0 tgt ?_
   show Steps p.tables e below (s₁.setTop (mkF m 0 #[.val (.ref a1)] [])) _
   refine XS.aloadN X0.here hx rfl (hb hby d24_0) rfl rfl ?_
   exact hgo
 obtain ⟨_, _, ⟨T2, L2, k2, n2⟩, -, X2, ⟨Lc2, hQ2, l2, y2, z2⟩, st2⟩ := superBack X0 hx hZ (y := yn23) hown (w 104 rfl) (OwnKit.own_same (z := (⟨"java/lang/AbstractStringBuilder", "isLatin1", "()Z"⟩ : MethodName)) (w 99 rfl) (w 75 rfl) (w 73 rfl) rfl (by decide)) (w 100 rfl) (w 62 rfl) (by decide) (backOf (W := 0) (rm_al l Z a0 hw [] a1 z h0 n0 Z0 Fc) hZ (w 105 rfl) (w 47 rfl) (by decide) (by decide)) e0 (Ins.self E1) (g := (mkF m 1 #[.val (.ref a1)] [(.ref a1)])) rfl (by rw [hml]; rfl) (w 105 rfl) (argsL := []) (rest := []) (lenOf pd_13 rfl) rfl (by show 2 * 0 + _ ≤ _; exact Nat.le_of_eq rfl) (hb hby d24_1) (fun _ _ => ⟨rfl, e0, (by decide : 0 + 0 ≤ _), (by decide : 0 + 0 ≤ _)⟩)
 dsimp only [Pt.U, Pt.locs, Pt.cells, Pt.slots] at X2 l2 y2 z2 st2 hQ2
 subst l2 y2 z2
 obtain ⟨rfl, N2q, e2⟩ := hQ2
 have N2 := Fr.app N0 N2q
 have R3 := Rc.tr R1 st2
 subst hA0
 obtain ⟨fs, hr, hrun, hended, hW, hsame⟩ := X2.leave (v := some (.int z)) (fun h => by rw [Bd.returns] at h; cases h)
 refine ⟨_, _, R3 _ ?_, hrun, hended, _, _, rfl, ?_, ⟨_, rfl⟩, hW, hsame.mono (by decide) (by decide)⟩
 ·show Steps p.tables e below (T2.setTop (mkF m 4 #[.val (.ref a1)] [(.int z)])) _
  exact retI X2 hx Bd.returns (hb hby d24_4) hr
 ·show Qi z h0 n0 _ T2.heap _
  rw [e2]
  exact ⟨rfl, N2, rfl⟩
def Qst (Z : State) (a1 : Addr) (bs : List Int32) (h0 : Heap) (n0 : Nat) (v : Option Value) (h : Heap) (L : List Loc) : Prop := v = none ∧ Fr n0 L ∧ Keep h0 h [a1] ∧ ∃ (t : Addr) (kt : ClassId), StrF Z h a1 t kt bs ∧ n0 ≤ t ∧ h0.size ≤ t
abbrev yn25 : MethodName := ⟨"java/lang/String", "<init>", "(Ljava/lang/AbstractStringBuilder;Ljava/lang/Void;)V"⟩
theorem ef_rm_ia (m : MethodId) (a1 : Addr) (a2 : Addr) : entryFrame m #[(.ref a1), (.ref a2), .null] 5 = mkF m 0 #[.val (.ref a1), .val (.ref a2), .val .null, .unset, .unset] [] := by first | (simp [entryFrame, mkF, argsToLocals, Value.category]; done) | rfl
theorem d25_0 : decode jdk_42_method_150_code 0 = .ok (.aload_n 0, 1) := by decide +kernel
theorem d25_1 : decode jdk_42_method_150_code 1 = .ok (.invokespecial 1, 3) := by decide +kernel
theorem d25_4 : decode jdk_42_method_150_code 4 = .ok (.aload_n 1, 1) := by decide +kernel
theorem d25_5 : decode jdk_42_method_150_code 5 = .ok (.invokevirtual 552, 3) := by decide +kernel
theorem pd_14 : parseMethodDescriptor "()[B" = some ⟨[], some (.array .byte)⟩ := by decide +kernel
theorem d25_8 : decode jdk_42_method_150_code 8 = .ok (.astore_n 3, 1) := by decide +kernel
theorem d25_9 : decode jdk_42_method_150_code 9 = .ok (.aload_n 1, 1) := by decide +kernel
theorem d25_10 : decode jdk_42_method_150_code 10 = .ok (.invokevirtual 549, 3) := by decide +kernel
theorem d25_13 : decode jdk_42_method_150_code 13 = .ok (.istore 4, 2) := by decide +kernel
theorem d25_15 : decode jdk_42_method_150_code 15 = .ok (.aload_n 1, 1) := by decide +kernel
theorem d25_16 : decode jdk_42_method_150_code 16 = .ok (.invokevirtual 1047, 3) := by decide +kernel
theorem d25_19 : decode jdk_42_method_150_code 19 = .ok (.ifCond .eq 22, 3) := by decide +kernel
theorem d25_22 : decode jdk_42_method_150_code 22 = .ok (.aload_n 0, 1) := by decide +kernel
theorem d25_23 : decode jdk_42_method_150_code 23 = .ok (.iconst 0, 1) := by decide +kernel
theorem d25_24 : decode jdk_42_method_150_code 24 = .ok (.putfield 15, 3) := by decide +kernel
theorem d25_27 : decode jdk_42_method_150_code 27 = .ok (.aload_n 0, 1) := by decide +kernel
theorem d25_28 : decode jdk_42_method_150_code 28 = .ok (.aload_n 3, 1) := by decide +kernel
theorem d25_29 : decode jdk_42_method_150_code 29 = .ok (.iconst 0, 1) := by decide +kernel
theorem d25_30 : decode jdk_42_method_150_code 30 = .ok (.iload 4, 2) := by decide +kernel
theorem d25_32 : decode jdk_42_method_150_code 32 = .ok (.invokestatic 54, 3) := by decide +kernel
theorem d25_35 : decode jdk_42_method_150_code 35 = .ok (.putfield 9, 3) := by decide +kernel
theorem d25_38 : decode jdk_42_method_150_code 38 = .ok (.goto 59, 3) := by decide +kernel
theorem d25_97 : decode jdk_42_method_150_code 97 = .ok (.return_, 1) := by decide +kernel
set_option maxRecDepth 65536 in
set_option maxHeartbeats 40000000 in
theorem rm_ia (l : Launch) (Z : State) (a0 : Array Value) (hw : ∀ d ∈ tables_1, d.before a0 Z = true) (ws : List Jvm.Cond) (a1 : Addr) (a2 : Addr) (zc : Int32) (b : Addr) (k : ClassId) (N : Nat) (bs : List Int32) (h0 : Heap) (n0 : Nat) (Z0 : n0 ≤ h0.size) (X00 : Old Z n0 h0) (S_cs : Sta Z Z.heap "java/lang/String" "COMPACT_STRINGS" "Z" (.int zc)) (hz : ¬ zc = 0) (ge1 : n0 ≤ a1) (E1 : Exa Z h0 a1 "java/lang/String") (Fv : Fld Z h0 a1 "java/lang/String" "value" "[B" .null) (Fd : Fld Z h0 a1 "java/lang/String" "coder" "B" (.int 0)) (D0 : SBd Z h0 n0 a2 b k N bs) (hn1 : a1 ≠ a2) (hn2 : a1 ≠ b) (hle : bs.length ≤ N) (hN : N ≤ 12) :
    MetFree l yn25 (head1 (Jvm.Cond.code yn25 jdk_42_method_150_code 5 none :: ws) ({ frames := 3, cells := 1, slots := 12, locals := 55 } : Room)) (fun a U => a = #[(.ref a1), (.ref a2), .null] ∧ Z.Warmed39 U.vm ∧ U.heap = h0) (fun _ _ _ _ _ => True) (fun _ U o U' => ∃ v L, o = .returned v ∧ Qst Z a1 bs h0 n0 v U'.heap L ∧ FrameEnd U o U' L ({ frames := 3, cells := 1, slots := 12, locals := 55 } : Room).cells ({ frames := 3, cells := 1, slots := 12, locals := 55 } : Room).slots) := by
 refine MetFree.of_bodySF (plainFor_of_name pn_java_lang_String) hisR ?_
 intro p e s m args below meth c s₁ Bd hml0 hP hK
 obtain ⟨rfl, hZ, hh⟩ := hP
 have hx := Bd.exec
 have hby := Bd.bytes
 have hml : c.maxLocals = 5 := hml0
 have hown : s.vm.findClass "java/lang/String" = some m.cls := findClass_of_methodNamed Bd.named
 have hnm := (name_of_methodNamed Bd.named Bd.method).1
 have X0 : Stand p l e ({ frames := 3, cells := 1, slots := 12, locals := 55 } : Room) s m #[(.ref a1), (.ref a2), .null] below meth c s₁ [] 0 0 := Stand.of_body Bd
 have e0 : s₁.heap = h0 := by rw [← hh, Bd.state]; rfl
 have N0 := Fr.nil n0
 obtain ⟨A0, hA0⟩ : ∃ A, A = s₁.setTop (entryFrame m #[(.ref a1), (.ref a2), .null] 5) := ⟨_, rfl⟩
 have R0 : ∀ tgt, Steps p.tables e below (s₁.setTop (mkF m 0 #[.val (.ref a1), .val (.ref a2), .val .null, .unset, .unset] [])) tgt → Steps p.tables e below A0 tgt := fun tgt hgo => by rw [hA0]; exact castTop (ef_rm_ia m a1 a2) hgo
 have w : ∀ (i : Nat) {d : Jvm.Cond}, tables_1[i]? = some d → d.before a0 Z = true := fun i d h => hw d (List.mem_of_getElem? h)
 obtain ⟨Es, Gv, Gc, Gd, V1, Eb, -, -, -⟩ := D0
 have hZn := Z0
 have hK : Keep h0 h0 [a1] := Keep.refl _ _
 have R1 : Rc p e below A0 (s₁.setTop (mkF m 1 #[.val (.ref a1), .val (.ref a2), .val .null, .unset, .unset] [(.ref a1)])) := by
   intro tgt hgo
   refine R0 tgt ?_
   show Steps p.tables e below (s₁.setTop (mkF m 0 #[.val (.ref a1), .val (.ref a2), .val .null, .unset, .unset] [])) _
   refine XS.aloadN X0.here hx rfl (hb hby d25_0) rfl rfl ?_
   exact hgo
 obtain ⟨T2, X2, e2, st2⟩ := initO X0 hx hZ hown (w 11 rfl) (w 12 rfl) (w 13 rfl) e0 (g := (mkF m 1 #[.val (.ref a1), .val (.ref a2), .val .null, .unset, .unset] [(.ref a1)])) rfl (by rw [hml]; rfl) rfl (hb hby d25_1) (by decide) (W := 0) (by show 2 * 0 + _ ≤ _; exact Nat.le_of_eq rfl) (by decide)
 have R3 := Rc.st R1 st2
 have R4 : Rc p e below A0 (T2.setTop (mkF m 5 #[.val (.ref a1), .val (.ref a2), .val .null, .unset, .unset] [(.ref a2)])) := by
   intro tgt hgo
   refine R3 tgt ?_
   show Steps p.tables e below (T2.setTop (mkF m 4 #[.val (.ref a1), .val (.ref a2), .val .null, .unset, .unset] [])) _
   refine XS.aloadN X2.here hx rfl (hb hby d25_4) rfl rfl ?_
   exact hgo
 obtain ⟨cq5, kq5, q5a, q5b, q5c⟩ := isOf hZ e2 Es
 obtain ⟨_, _, ⟨T5, L5, k5, n5⟩, -, X5, ⟨Lc5, hQ5, l5, y5, z5⟩, st5⟩ := X2.virtualBack hx (y := yn22) (z := yn22) hown (mvT hZ (w 93 rfl)) (mvT hZ (w 94 rfl)) (notFace_of_selects (args := #[]) (mvT hZ (w 96 rfl))) (mvT hZ (w 96 rfl)) (mvT hZ (w 95 rfl)) (by decide) (backOf (W := 0) (rm_gv l Z a0 hw [] a2 b h0 n0 Z0 Gv) hZ (w 97 rfl) (w 47 rfl) (by decide) (by decide)) q5a q5c (g := (mkF m 5 #[.val (.ref a1), .val (.ref a2), .val .null, .unset, .unset] [(.ref a2)])) rfl (by rw [hml]; rfl) (Steps.refl _) (argsL := []) (rest := []) (lenOf pd_14 rfl) rfl (by show 2 * 0 + _ ≤ _; exact Nat.le_of_eq rfl) (hb hby d25_5) (fun _ _ => ⟨rfl, e2, (by decide : 0 + 0 ≤ _), (by decide : 0 + 0 ≤ _)⟩)
 dsimp only [Pt.U, Pt.locs, Pt.cells, Pt.slots] at X5 l5 y5 z5 st5 hQ5
 subst l5 y5 z5
 obtain ⟨rfl, N5q, e5⟩ := hQ5
 have N5 := Fr.app N0 N5q
 have R6 := Rc.tr R4 st5
 have R7 : Rc p e below A0 (T5.setTop (mkF m 10 #[.val (.ref a1), .val (.ref a2), .val .null, .val (.ref b), .unset] [(.ref a2)])) := by
   intro tgt hgo
   refine R6 tgt ?_
   show Steps p.tables e below (T5.setTop (mkF m 8 #[.val (.ref a1), .val (.ref a2), .val .null, .unset, .unset] [(.ref b)])) _
   refine XS.astoreN X5.here hx rfl (hb hby d25_8) rfl rfl (l' := #[.val (.ref a1), .val (.ref a2), .val .null, .val (.ref b), .unset]) rfl ?_
   refine XS.aloadN X5.here hx rfl (hb hby d25_9) rfl rfl ?_
   exact hgo
 obtain ⟨cq8, kq8, q8a, q8b, q8c⟩ := isOf hZ e5 Es
 obtain ⟨_, _, ⟨T8, L8, k8, n8⟩, -, X8, ⟨Lc8, hQ8, l8, y8, z8⟩, st8⟩ := X5.virtualBack hx (y := yn23) (z := yn24) hown (mvT hZ (w 98 rfl)) (mvT hZ (w 99 rfl)) (OwnKit.own_nf (a0 := #[]) (z := (⟨"java/lang/AbstractStringBuilder", "isLatin1", "()Z"⟩ : MethodName)) (mvT hZ (hw _ (List.mem_of_getElem? (i := 75) rfl))) (mvT hZ (hw _ (List.mem_of_getElem? (i := 73) rfl))) rfl) (mvT hZ (w 101 rfl)) (mvT hZ (w 102 rfl)) (by decide) (backOf (W := 0) (rm_sl l Z a0 hw [] a2 (Int32.ofNat bs.length) h0 n0 Z0 Es Gc) hZ (w 103 rfl) (w 28 rfl) (by decide) (by decide)) q8a q8c (g := (mkF m 10 #[.val (.ref a1), .val (.ref a2), .val .null, .val (.ref b), .unset] [(.ref a2)])) rfl (by rw [hml]; rfl) (Steps.refl _) (argsL := []) (rest := []) (lenOf pd_13 rfl) rfl (by show 2 * 0 + _ ≤ _; exact Nat.le_of_eq rfl) (hb hby d25_10) (fun _ _ => ⟨rfl, e5, (by decide : 0 + 0 ≤ _), (by decide : 0 + 0 ≤ _)⟩)
 dsimp only [Pt.U, Pt.locs, Pt.cells, Pt.slots] at X8 l8 y8 z8 st8 hQ8
 subst l8 y8 z8
 obtain ⟨rfl, N8q, e8⟩ := hQ8
 have N8 := Fr.app N5 N8q
 have R9 := Rc.tr R7 st8
 have R10 : Rc p e below A0 (T8.setTop (mkF m 16 #[.val (.ref a1), .val (.ref a2), .val .null, .val (.ref b), .val (.int (Int32.ofNat bs.length))] [(.ref a2)])) := by
   intro tgt hgo
   refine R9 tgt ?_
   show Steps p.tables e below (T8.setTop (mkF m 13 #[.val (.ref a1), .val (.ref a2), .val .null, .val (.ref b), .unset] [(.int (Int32.ofNat bs.length))])) _
   refine XS.istore X8.here hx rfl (hb hby d25_13) rfl (l' := #[.val (.ref a1), .val (.ref a2), .val .null, .val (.ref b), .val (.int (Int32.ofNat bs.length))]) rfl ?_
   refine XS.aloadN X8.here hx rfl (hb hby d25_15) rfl rfl ?_
   exact hgo
 obtain ⟨cq11, kq11, q11a, q11b, q11c⟩ := isOf hZ e8 Es
 obtain ⟨_, _, ⟨T11, L11, k11, n11⟩, -, X11, ⟨Lc11, hQ11, l11, y11, z11⟩, st11⟩ := X8.virtualBack hx (y := yn9) (z := yn9) hown (mvT hZ (w 106 rfl)) (mvT hZ (w 73 rfl)) (notFace_of_selects (args := #[]) (mvT hZ (w 75 rfl))) (mvT hZ (w 75 rfl)) (mvT hZ (w 74 rfl)) (by decide) (backOf (W := 0) (rm_asl l Z a0 hw [] a2 zc h0 n0 Z0 X00 S_cs hz Gd) hZ (w 76 rfl) (w 47 rfl) (by decide) (by decide)) q11a q11c (g := (mkF m 16 #[.val (.ref a1), .val (.ref a2), .val .null, .val (.ref b), .val (.int (Int32.ofNat bs.length))] [(.ref a2)])) rfl (by rw [hml]; rfl) (Steps.refl _) (argsL := []) (rest := []) (lenOf pd_3 rfl) rfl (by show 2 * 0 + _ ≤ _; exact Nat.le_of_eq rfl) (hb hby d25_16) (fun _ _ => ⟨rfl, e8, (by decide : 0 + 0 ≤ _), (by decide : 0 + 0 ≤ _)⟩)
 dsimp only [Pt.U, Pt.locs, Pt.cells, Pt.slots] at X11 l11 y11 z11 st11 hQ11
 subst l11 y11 z11
 obtain ⟨rfl, N11q, e11⟩ := hQ11
 have N11 := Fr.app N8 N11q
 have R12 := Rc.tr R10 st11
 have R13 : Rc p e below A0 (T11.setTop (mkF m 24 #[.val (.ref a1), .val (.ref a2), .val .null, .val (.ref b), .val (.int (Int32.ofNat bs.length))] [(.int 0), (.ref a1)])) := by
   intro tgt hgo
   refine R12 tgt ?_
   show Steps p.tables e below (T11.setTop (mkF m 19 #[.val (.ref a1), .val (.ref a2), .val .null, .val (.ref b), .val (.int (Int32.ofNat bs.length))] [(.int 1)])) _
   refine XS.ifNo X11.here hx rfl (hb hby d25_19) rfl ((if0 _ _).trans (feq (by decide : ¬ ((1 : Int32) = (0 : Int32)))).1) ?_
   refine XS.aloadN X11.here hx rfl (hb hby d25_22) rfl rfl ?_
   refine XS.iconst X11.here hx rfl (hb hby d25_23) ?_
   exact hgo
 obtain ⟨T14, h14, X14, e14, W14, st14⟩ := putFN X11 hx hZ hown (w 21 rfl) Via.refl e11 Fd E1 (Or.inr ⟨(w 17 rfl), rfl, hnm⟩) (w 2 rfl) (ty := .byte) (v' := (.int 0)) (by decide) rfl (by decide) (g := (mkF m 24 #[.val (.ref a1), .val (.ref a2), .val .null, .val (.ref b), .val (.int (Int32.ofNat bs.length))] [(.int 0), (.ref a1)])) rfl rfl (hb hby d25_24)
 have N14 := Fr.snoc X14 N11 ge1
 replace hZn := Nat.le_trans hZn (Keep.of_wr W14).1
 replace hK := hK.wr W14 (Or.inl (List.mem_of_getElem? (i := 0) rfl))
 replace E1 := E1.wr W14
 replace Fv := Fv.other W14 (Or.inr (slot_ne (Or.inr (w 16 rfl)) (Or.inr (w 17 rfl)) (by decide) (t := (.array .byte)) (t' := .byte) (by decide) (by decide)))
 replace Fd := Fd.same W14
 replace Es := Es.wr W14
 replace V1 := V1.other W14 (Ne.symm hn2)
 replace Eb := Eb.wr W14
 have R15 := Rc.st R13 st14
 have R16 : Rc p e below A0 (T14.setTop (mkF m 32 #[.val (.ref a1), .val (.ref a2), .val .null, .val (.ref b), .val (.int (Int32.ofNat bs.length))] [(.int (Int32.ofNat bs.length)), (.int 0), (.ref b), (.ref a1)])) := by
   intro tgt hgo
   refine R15 tgt ?_
   show Steps p.tables e below (T14.setTop (mkF m 27 #[.val (.ref a1), .val (.ref a2), .val .null, .val (.ref b), .val (.int (Int32.ofNat bs.length))] [])) _
   refine XS.aloadN X14.here hx rfl (hb hby d25_27) rfl rfl ?_
   refine XS.aloadN X14.here hx rfl (hb hby d25_28) rfl rfl ?_
   refine XS.iconst X14.here hx rfl (hb hby d25_29) ?_
   refine XS.iload X14.here hx rfl (hb hby d25_30) rfl ?_
   exact hgo
 have hsz0 := hK.1
 obtain ⟨_, _, ⟨T17, L17, k17, n17⟩, -, X17, ⟨Lc17, hQ17, l17, y17, z17⟩, st17⟩ := Jvm.LawKit.callS X14 hx (y := yn21) hown (mvT hZ (w 107 rfl)) (mvT hZ (w 108 rfl)) (mvT hZ (w 109 rfl)) (mvT hZ (w 110 rfl)) (by decide) (backOf (W := 1) (rm_cr l Z a0 hw [] b (Int32.ofNat bs.length) k N bs h14 n0 hZn rfl hle hN V1 Eb) hZ (w 110 rfl) (w 109 rfl) (by decide) (by decide)) (g := (mkF m 32 #[.val (.ref a1), .val (.ref a2), .val .null, .val (.ref b), .val (.int (Int32.ofNat bs.length))] [(.int (Int32.ofNat bs.length)), (.int 0), (.ref b), (.ref a1)])) rfl (by rw [hml]; rfl) (argsL := [(.ref b), (.int 0), (.int (Int32.ofNat bs.length))]) (rest := [(.ref a1)]) (lenOf pd_12 rfl) rfl (by show 2 * 0 + _ ≤ _; exact Nat.le_of_eq rfl) (hb hby d25_32) (fun _ _ => ⟨rfl, e14, (by decide : 0 + 1 ≤ _), (by decide : 0 + 12 ≤ _)⟩)
 dsimp only [Pt.U, Pt.locs, Pt.cells, Pt.slots] at X17 l17 y17 z17 st17 hQ17
 subst l17 y17 z17
 obtain ⟨⟨t17, rfl, kt, get, szt, v17⟩, N17q, K17⟩ := hQ17
 have N17 := Fr.app N14 N17q
 have R18 := Rc.st R16 st17
 have ne_a1_t : a1 ≠ t17 := Nat.ne_of_lt (Nat.lt_of_lt_of_le E1.lt szt)
 replace hZn := Nat.le_trans hZn K17.1
 replace hK := hK.trans K17 all0
 replace E1 := E1.keep K17
 replace Fv := Fv.keep K17 nin0
 replace Fd := Fd.keep K17 nin0
 replace Es := Es.keep K17
 replace V1 := V1.keep K17 nin0
 replace Eb := Eb.keep K17
 replace szt := Nat.le_trans hsz0 szt
 have Vt := v17
 obtain ⟨T19, h19, X19, e19, W19, st19⟩ := putF X17 hx hZ hown (host := "") (Or.inl (w 20 rfl)) Via.refl rfl Fv E1 (Or.inr ⟨(w 16 rfl), rfl, hnm⟩) (w 2 rfl) (ty := (.array .byte)) (by decide) rfl rfl (g := (mkF m 35 #[.val (.ref a1), .val (.ref a2), .val .null, .val (.ref b), .val (.int (Int32.ofNat bs.length))] [(.ref t17), (.ref a1)])) rfl rfl (hb hby d25_35)
 have N19 := Fr.snoc X19 N17 ge1
 replace hZn := Nat.le_trans hZn (Keep.of_wr W19).1
 replace hK := hK.wr W19 (Or.inl (List.mem_of_getElem? (i := 0) rfl))
 replace E1 := E1.wr W19
 replace Fv := Fv.same W19
 replace Fd := Fd.other W19 (Or.inr (slot_ne (Or.inr (w 17 rfl)) (Or.inr (w 16 rfl)) (by decide) (t := .byte) (t' := (.array .byte)) (by decide) (by decide)))
 replace Es := Es.wr W19
 replace V1 := V1.other W19 (Ne.symm hn2)
 replace Eb := Eb.wr W19
 replace Vt := Vt.other W19 (Ne.symm ne_a1_t)
 have R20 := Rc.st R18 st19
 have R21 : Rc p e below A0 (T19.setTop (mkF m 97 #[.val (.ref a1), .val (.ref a2), .val .null, .val (.ref b), .val (.int (Int32.ofNat bs.length))] [])) := by
   intro tgt hgo
   refine R20 tgt ?_
   show Steps p.tables e below (T19.setTop (mkF m 38 #[.val (.ref a1), .val (.ref a2), .val .null, .val (.ref b), .val (.int (Int32.ofNat bs.length))] [])) _
   refine XS.goto X19.here hx rfl (pc0 := 38) (pc' := 97) rfl (hb hby d25_38) (by decide) (by decide) ?_
   exact hgo
 subst hA0
 obtain ⟨fs, hr, hrun, hended, hW, hsame⟩ := X19.leave (v := none) (fun _ => rfl)
 refine ⟨_, _, R21 _ ?_, hrun, hended, _, _, rfl, ?_, ⟨_, rfl⟩, hW, hsame.mono (by decide) (by decide)⟩
 ·show Steps p.tables e below (T19.setTop (mkF m 97 #[.val (.ref a1), .val (.ref a2), .val .null, .val (.ref b), .val (.int (Int32.ofNat bs.length))] [])) _
  exact X19.returnOut hx Bd.returns (hb hby d25_97) hr
 ·show Qst Z a1 bs h0 n0 _ T19.heap _
  rw [e19]
  exact ⟨rfl, N19, hK, t17, kt, ⟨E1, Fd, Fv, Vt⟩, get, szt⟩
abbrev yn26 : MethodName := ⟨"java/lang/String", "<init>", "(Ljava/lang/StringBuilder;)V"⟩
theorem ef_rm_ib (m : MethodId) (a1 : Addr) (a2 : Addr) : entryFrame m #[(.ref a1), (.ref a2)] 2 = mkF m 0 #[.val (.ref a1), .val (.ref a2)] [] := by first | (simp [entryFrame, mkF, argsToLocals, Value.category]; done) | rfl
theorem d26_0 : decode jdk_42_method_53_code 0 = .ok (.aload_n 0, 1) := by decide +kernel
theorem d26_1 : decode jdk_42_method_53_code 1 = .ok (.aload_n 1, 1) := by decide +kernel
theorem d26_2 : decode jdk_42_method_53_code 2 = .ok (.aconst_null, 1) := by decide +kernel
theorem d26_3 : decode jdk_42_method_53_code 3 = .ok (.invokespecial 489, 3) := by decide +kernel
theorem pd_15 : parseMethodDescriptor "(Ljava/lang/AbstractStringBuilder;Ljava/lang/Void;)V" = some ⟨[(.object "java/lang/AbstractStringBuilder"), (.object "java/lang/Void")], none⟩ := by decide +kernel
theorem d26_6 : decode jdk_42_method_53_code 6 = .ok (.return_, 1) := by decide +kernel
set_option maxRecDepth 65536 in
set_option maxHeartbeats 40000000 in
theorem rm_ib (l : Launch) (Z : State) (a0 : Array Value) (hw : ∀ d ∈ tables_1, d.before a0 Z = true) (ws : List Jvm.Cond) (a1 : Addr) (a2 : Addr) (zc : Int32) (b : Addr) (k : ClassId) (N : Nat) (bs : List Int32) (h0 : Heap) (n0 : Nat) (Z0 : n0 ≤ h0.size) (X00 : Old Z n0 h0) (S_cs : Sta Z Z.heap "java/lang/String" "COMPACT_STRINGS" "Z" (.int zc)) (hz : ¬ zc = 0) (ge1 : n0 ≤ a1) (E1 : Exa Z h0 a1 "java/lang/String") (Fv : Fld Z h0 a1 "java/lang/String" "value" "[B" .null) (Fd : Fld Z h0 a1 "java/lang/String" "coder" "B" (.int 0)) (D0 : SBd Z h0 n0 a2 b k N bs) (hn1 : a1 ≠ a2) (hn2 : a1 ≠ b) (hle : bs.length ≤ N) (hN : N ≤ 12) :
    MetFree l yn26 (head1 (Jvm.Cond.code yn26 jdk_42_method_53_code 2 none :: ws) ({ frames := 4, cells := 1, slots := 12, locals := 71 } : Room)) (fun a U => a = #[(.ref a1), (.ref a2)] ∧ Z.Warmed39 U.vm ∧ U.heap = h0) (fun _ _ _ _ _ => True) (fun _ U o U' => ∃ v L, o = .returned v ∧ Qst Z a1 bs h0 n0 v U'.heap L ∧ FrameEnd U o U' L ({ frames := 4, cells := 1, slots := 12, locals := 71 } : Room).cells ({ frames := 4, cells := 1, slots := 12, locals := 71 } : Room).slots) := by
 refine MetFree.of_bodySF (plainFor_of_name pn_java_lang_String) hisR ?_
 intro p e s m args below meth c s₁ Bd hml0 hP hK
 obtain ⟨rfl, hZ, hh⟩ := hP
 have hx := Bd.exec
 have hby := Bd.bytes
 have hml : c.maxLocals = 2 := hml0
 have hown : s.vm.findClass "java/lang/String" = some m.cls := findClass_of_methodNamed Bd.named
 have hnm := (name_of_methodNamed Bd.named Bd.method).1
 have X0 : Stand p l e ({ frames := 4, cells := 1, slots := 12, locals := 71 } : Room) s m #[(.ref a1), (.ref a2)] below meth c s₁ [] 0 0 := Stand.of_body Bd
 have e0 : s₁.heap = h0 := by rw [← hh, Bd.state]; rfl
 have N0 := Fr.nil n0
 obtain ⟨A0, hA0⟩ : ∃ A, A = s₁.setTop (entryFrame m #[(.ref a1), (.ref a2)] 2) := ⟨_, rfl⟩
 have R0 : ∀ tgt, Steps p.tables e below (s₁.setTop (mkF m 0 #[.val (.ref a1), .val (.ref a2)] [])) tgt → Steps p.tables e below A0 tgt := fun tgt hgo => by rw [hA0]; exact castTop (ef_rm_ib m a1 a2) hgo
 have w : ∀ (i : Nat) {d : Jvm.Cond}, tables_1[i]? = some d → d.before a0 Z = true := fun i d h => hw d (List.mem_of_getElem? h)
 have hZn := Z0
 have hK : Keep h0 h0 [a1] := Keep.refl _ _
 have R1 : Rc p e below A0 (s₁.setTop (mkF m 3 #[.val (.ref a1), .val (.ref a2)] [.null, (.ref a2), (.ref a1)])) := by
   intro tgt hgo
   refine R0 tgt ?_
   show Steps p.tables e below (s₁.setTop (mkF m 0 #[.val (.ref a1), .val (.ref a2)] [])) _
   refine XS.aloadN X0.here hx rfl (hb hby d26_0) rfl rfl ?_
   refine XS.aloadN X0.here hx rfl (hb hby d26_1) rfl rfl ?_
   refine XS.aconstNull X0.here hx rfl (hb hby d26_2) ?_
   exact hgo
 obtain ⟨_, _, ⟨T2, L2, k2, n2⟩, -, X2, ⟨Lc2, hQ2, l2, y2, z2⟩, st2⟩ := X0.specialBack hx (y := yn25) rfl hown (mvT hZ (w 90 rfl)) (mvT hZ (w 91 rfl)) (mvT hZ (w 92 rfl)) (by decide) (backOf (W := 0) (rm_ia l Z a0 hw [] a1 a2 zc b k N bs h0 n0 Z0 X00 S_cs hz ge1 E1 Fv Fd D0 hn1 hn2 hle hN) hZ (w 92 rfl) (w 3 rfl) (by decide) (by decide)) (g := (mkF m 3 #[.val (.ref a1), .val (.ref a2)] [.null, (.ref a2), (.ref a1)])) rfl (by rw [hml]; rfl) (Steps.refl _) (a := a1) (argsL := [(.ref a2), .null]) (rest := []) (lenOf pd_15 rfl) rfl (by show 2 * 0 + _ ≤ _; exact Nat.le_of_eq rfl) (hb hby d26_3) (fun _ _ => ⟨rfl, e0, (by decide : 0 + 1 ≤ _), (by decide : 0 + 12 ≤ _)⟩)
 dsimp only [Pt.U, Pt.locs, Pt.cells, Pt.slots] at X2 l2 y2 z2 st2 hQ2
 subst l2 y2 z2
 obtain ⟨rfl, N2q, K2, t, kt, SF, get, szt⟩ := hQ2
 have N2 := Fr.app N0 N2q
 have R3 := Rc.tr R1 st2
 replace hZn := Nat.le_trans hZn K2.1
 replace hK := hK.trans K2 (allS (Or.inl (List.mem_of_getElem? (i := 0) rfl)) all0)
 replace E1 := E1.keep K2
 subst hA0
 obtain ⟨fs, hr, hrun, hended, hW, hsame⟩ := X2.leave (v := none) (fun _ => rfl)
 refine ⟨_, _, R3 _ ?_, hrun, hended, _, _, rfl, ?_, ⟨_, rfl⟩, hW, hsame.mono (by decide) (by decide)⟩
 ·show Steps p.tables e below (T2.setTop (mkF m 6 #[.val (.ref a1), .val (.ref a2)] [])) _
  exact X2.returnOut hx Bd.returns (hb hby d26_6) hr
 ·show Qst Z a1 bs h0 n0 _ T2.heap _
  exact ⟨rfl, N2, hK, t, kt, SF, get, szt⟩
def Qts (Z : State) (bs : List Int32) (h0 : Heap) (n0 : Nat) (v : Option Value) (h : Heap) (L : List Loc) : Prop := (∃ x : Addr, v = some (.ref x) ∧ ∃ (t : Addr) (kt : ClassId), h0.size ≤ x ∧ StrF Z h x t kt bs) ∧ Fr n0 L ∧ Keep h0 h []
abbrev yn27 : MethodName := ⟨"java/lang/StringBuilder", "toString", "()Ljava/lang/String;"⟩
theorem ef_rm_ts (m : MethodId) (a2 : Addr) : entryFrame m #[(.ref a2)] 1 = mkF m 0 #[.val (.ref a2)] [] := by first | (simp [entryFrame, mkF, argsToLocals, Value.category]; done) | rfl
theorem d27_0 : decode jdk_67_method_42_code 0 = .ok (.new 18, 3) := by decide +kernel
theorem d27_3 : decode jdk_67_method_42_code 3 = .ok (.dup, 1) := by decide +kernel
theorem d27_4 : decode jdk_67_method_42_code 4 = .ok (.aload_n 0, 1) := by decide +kernel
theorem d27_5 : decode jdk_67_method_42_code 5 = .ok (.invokespecial 137, 3) := by decide +kernel
theorem pd_16 : parseMethodDescriptor "(Ljava/lang/StringBuilder;)V" = some ⟨[(.object "java/lang/StringBuilder")], none⟩ := by decide +kernel
theorem d27_8 : decode jdk_67_method_42_code 8 = .ok (.areturn, 1) := by decide +kernel
set_option maxRecDepth 65536 in
set_option maxHeartbeats 40000000 in
theorem rm_ts (l : Launch) (Z : State) (a0 : Array Value) (hw : ∀ d ∈ tables_1, d.before a0 Z = true) (ws : List Jvm.Cond) (a2 : Addr) (zc : Int32) (b : Addr) (k : ClassId) (N : Nat) (bs : List Int32) (h0 : Heap) (n0 : Nat) (Z0 : n0 ≤ h0.size) (X00 : Old Z n0 h0) (S_cs : Sta Z Z.heap "java/lang/String" "COMPACT_STRINGS" "Z" (.int zc)) (hz : ¬ zc = 0) (D0 : SBd Z h0 n0 a2 b k N bs) (hle : bs.length ≤ N) (hN : N ≤ 12) :
    MetFree l yn27 (head1 (Jvm.Cond.code yn27 jdk_67_method_42_code 1 (some (.object "java/lang/String")) :: ws) ({ frames := 5, cells := 2, slots := 16, locals := 85 } : Room)) (fun a U => a = #[(.ref a2)] ∧ Z.Warmed39 U.vm ∧ U.heap = h0) (fun _ _ _ _ _ => True) (fun _ U o U' => ∃ v L, o = .returned v ∧ Qts Z bs h0 n0 v U'.heap L ∧ FrameEnd U o U' L ({ frames := 5, cells := 2, slots := 16, locals := 85 } : Room).cells ({ frames := 5, cells := 2, slots := 16, locals := 85 } : Room).slots) := by
 refine MetFree.of_bodySF (plainFor_of_name pn_java_lang_StringBuilder) hisR ?_
 intro p e s m args below meth c s₁ Bd hml0 hP hK
 obtain ⟨rfl, hZ, hh⟩ := hP
 have hx := Bd.exec
 have hby := Bd.bytes
 have hml : c.maxLocals = 1 := hml0
 have hown : s.vm.findClass "java/lang/StringBuilder" = some m.cls := findClass_of_methodNamed Bd.named
 have hnm := (name_of_methodNamed Bd.named Bd.method).1
 have X0 : Stand p l e ({ frames := 5, cells := 2, slots := 16, locals := 85 } : Room) s m #[(.ref a2)] below meth c s₁ [] 0 0 := Stand.of_body Bd
 have e0 : s₁.heap = h0 := by rw [← hh, Bd.state]; rfl
 have N0 := Fr.nil n0
 obtain ⟨A0, hA0⟩ : ∃ A, A = s₁.setTop (entryFrame m #[(.ref a2)] 1) := ⟨_, rfl⟩
 have R0 : ∀ tgt, Steps p.tables e below (s₁.setTop (mkF m 0 #[.val (.ref a2)] [])) tgt → Steps p.tables e below A0 tgt := fun tgt hgo => by rw [hA0]; exact castTop (ef_rm_ts m a2) hgo
 have w : ∀ (i : Nat) {d : Jvm.Cond}, tables_1[i]? = some d → d.before a0 Z = true := fun i d h => hw d (List.mem_of_getElem? h)
 obtain ⟨Es, Gv, Gc, Gd, V1, Eb, gn, gea, geb⟩ := D0
 have hZn := Z0
 have hK : Keep h0 h0 [] := Keep.refl _ _
 have hOld := X00
 obtain ⟨T1, h1, X1, e1, E1, A1, D1, -, st1⟩ := newO X0 hx hZ hown (w 86 rfl) (w 2 rfl) (w 3 rfl) e0 (g := (mkF m 0 #[.val (.ref a2)] [])) rfl (hb hby d27_0) (by decide) (by decide)
 obtain ⟨sx, g1⟩ : ∃ z, z = h0.size := ⟨_, rfl⟩
 rw [← g1] at A1 D1 st1
 have ne_a2_sx : a2 ≠ sx := Nat.ne_of_lt (Nat.lt_of_lt_of_le Es.lt (Nat.le_of_eq g1.symm))
 have ne_b_sx : b ≠ sx := Nat.ne_of_lt (Nat.lt_of_lt_of_le V1.lt (Nat.le_of_eq g1.symm))
 have ge_sx : n0 ≤ sx := Nat.le_trans hZn (Nat.le_of_eq g1.symm)
 have sz_sx : h0.size ≤ sx := Nat.le_trans hK.1 (Nat.le_of_eq g1.symm)
 replace hZn := Nat.le_trans hZn E1.1
 replace hK := hK.ext E1
 replace Es := Es.ext E1
 replace Gv := Gv.ext E1
 replace Gc := Gc.ext E1
 replace Gd := Gd.ext E1
 replace V1 := V1.ext E1
 replace Eb := Eb.ext E1
 replace hOld := hOld.ext E1
 have E_sx := A1
 have F_value_sx : Fld Z h1 sx "java/lang/String" "value" "[B" .null := D1 (Or.inr (w 16 rfl)) (ty := (.array .byte)) (by decide)
 have F_coder_sx : Fld Z h1 sx "java/lang/String" "coder" "B" (.int 0) := D1 (Or.inr (w 17 rfl)) (ty := .byte) (by decide)
 have R2 := Rc.st R0 st1
 have R3 : Rc p e below A0 (T1.setTop (mkF m 5 #[.val (.ref a2)] [(.ref a2), (.ref sx), (.ref sx)])) := by
   intro tgt hgo
   refine R2 tgt ?_
   show Steps p.tables e below (T1.setTop (mkF m 3 #[.val (.ref a2)] [(.ref sx)])) _
   refine XS.dup X1.here hx rfl (hb hby d27_3) rfl rfl ?_
   refine XS.aloadN X1.here hx rfl (hb hby d27_4) rfl rfl ?_
   exact hgo
 obtain ⟨_, _, ⟨T4, L4, k4, n4⟩, -, X4, ⟨Lc4, hQ4, l4, y4, z4⟩, st4⟩ := X1.specialBack hx (y := yn26) rfl hown (mvT hZ (w 87 rfl)) (mvT hZ (w 88 rfl)) (mvT hZ (w 89 rfl)) (by decide) (backOf (W := 1) (rm_ib l Z a0 hw [] sx a2 zc b k N bs h1 n0 hZn hOld S_cs hz ge_sx E_sx F_value_sx F_coder_sx ⟨Es, Gv, Gc, Gd, V1, Eb, gn, gea, geb⟩ (Ne.symm ne_a2_sx) (Ne.symm ne_b_sx) hle hN) hZ (w 89 rfl) (w 3 rfl) (by decide) (by decide)) (g := (mkF m 5 #[.val (.ref a2)] [(.ref a2), (.ref sx), (.ref sx)])) rfl (by rw [hml]; rfl) (Steps.refl _) (a := sx) (argsL := [(.ref a2)]) (rest := [(.ref sx)]) (lenOf pd_16 rfl) rfl (by show 2 * 0 + _ ≤ _; exact Nat.le_of_eq rfl) (hb hby d27_5) (fun _ _ => ⟨rfl, e1, (by decide : 1 + 1 ≤ _), (by decide : 4 + 12 ≤ _)⟩)
 dsimp only [Pt.U, Pt.locs, Pt.cells, Pt.slots] at X4 l4 y4 z4 st4 hQ4
 subst l4 y4 z4
 obtain ⟨rfl, N4q, K4, t, kt, SF, get, szt⟩ := hQ4
 have N4 := Fr.app N0 N4q
 have R5 := Rc.tr R3 st4
 replace hZn := Nat.le_trans hZn K4.1
 replace hK := hK.trans K4 (allS (Or.inr sz_sx) all0)
 replace Es := Es.keep K4
 replace Gv := Gv.keep K4 (ninS ne_a2_sx nin0)
 replace Gc := Gc.keep K4 (ninS ne_a2_sx nin0)
 replace Gd := Gd.keep K4 (ninS ne_a2_sx nin0)
 replace V1 := V1.keep K4 (ninS ne_b_sx nin0)
 replace Eb := Eb.keep K4
 replace hOld := hOld.keep K4 (allS ge_sx all0)
 replace E_sx := E_sx.keep K4
 subst hA0
 obtain ⟨fs, hr, hrun, hended, hW, hsame⟩ := X4.leave (v := some (.ref sx)) (fun h => by rw [Bd.returns] at h; cases h)
 refine ⟨_, _, R5 _ ?_, hrun, hended, _, _, rfl, ?_, ⟨_, rfl⟩, hW, hsame.mono (by decide) (by decide)⟩
 ·show Steps p.tables e below (T4.setTop (mkF m 8 #[.val (.ref a2)] [(.ref sx)])) _
  jvm_step X4.here [X4.here.top, hx, (hb hby d27_8), X4.method', Bd.returns, Value.isRef, FieldType.isReference]
  first | (intro acts; rw [hr _ acts rfl rfl rfl]) | rw [hr _ _ rfl rfl rfl]
  exact Steps.refl _
 ·show Qts Z bs h0 n0 _ T4.heap _
  exact ⟨⟨sx, rfl, t, kt, sz_sx, SF⟩, N4, hK⟩
def own_sp (c : Int32) : Int32 := if c = 34 then 1 else if c = 92 then 1 else 0
def own_esc (c : Int32) : List Int32 := if own_sp c = 1 then [own_b 92, own_b c] else [own_b c]
theorem own_sp_cases (c : Int32) : own_sp c = 1 ∧ (c = 34 ∨ c = 92) ∨ own_sp c = 0 ∧ ¬ c = 34 ∧ ¬ c = 92 := by
  unfold own_sp
  by_cases h : c = 34
  · simp [h]
  · by_cases h2 : c = 92
    · simp [h2]
    · simp [h, h2]
theorem own_c34 : own_ch 34 := ⟨by decide, by decide⟩
theorem own_c92 : own_ch 92 := ⟨by decide, by decide⟩
abbrev yn28 : MethodName := ⟨"com/example/stack_check_trimmer/stackchecktrimmer/io/LineTokenizerQuotePinLaw", "special", "(C)Z"⟩
theorem pn_com_example_stack_check_trimmer_stackchecktrimmer_io_LineTokenizerQuotePinLaw : plainName "com/example/stack_check_trimmer/stackchecktrimmer/io/LineTokenizerQuotePinLaw" = true := by first | (simp [plainName, overriddenIn]; done) | decide +kernel
theorem ef_rm_sp (m : MethodId) (p1 : Int32) : entryFrame m #[(.int p1)] 1 = mkF m 0 #[.val (.int p1)] [] := by first | (simp [entryFrame, mkF, argsToLocals, Value.category]; done) | rfl
theorem d28_0 : decode method_2_code 0 = .ok (.iload_n 0, 1) := by decide +kernel
theorem d28_1 : decode method_2_code 1 = .ok (.bipush 34, 2) := by decide +kernel
theorem d28_3 : decode method_2_code 3 = .ok (.if_icmp .eq 9, 3) := by decide +kernel
theorem d28_12 : decode method_2_code 12 = .ok (.iconst 1, 1) := by decide +kernel
theorem d28_13 : decode method_2_code 13 = .ok (.goto 4, 3) := by decide +kernel
theorem d28_17 : decode method_2_code 17 = .ok (.ireturn, 1) := by decide +kernel
theorem d28_6 : decode method_2_code 6 = .ok (.iload_n 0, 1) := by decide +kernel
theorem d28_7 : decode method_2_code 7 = .ok (.bipush 92, 2) := by decide +kernel
theorem d28_9 : decode method_2_code 9 = .ok (.if_icmp .ne 7, 3) := by decide +kernel
theorem d28_16 : decode method_2_code 16 = .ok (.iconst 0, 1) := by decide +kernel
set_option maxRecDepth 65536 in
set_option maxHeartbeats 40000000 in
theorem rm_sp (l : Launch) (Z : State) (a0 : Array Value) (hw : ∀ d ∈ tables_1, d.before a0 Z = true) (ws : List Jvm.Cond) (p1 : Int32) (z : Int32) (h0 : Heap) (n0 : Nat) (Z0 : n0 ≤ h0.size) (hzz : own_sp p1 = z) :
    MetFree l yn28 (head1 (Jvm.Cond.code yn28 method_2_code 1 (some .boolean) :: ws) ({ frames := 0, cells := 0, slots := 0, locals := 0 } : Room)) (fun a U => a = #[(.int p1)] ∧ Z.Warmed39 U.vm ∧ U.heap = h0) (fun _ _ _ _ _ => True) (fun _ U o U' => ∃ v L, o = .returned v ∧ Qi z h0 n0 v U'.heap L ∧ FrameEnd U o U' L ({ frames := 0, cells := 0, slots := 0, locals := 0 } : Room).cells ({ frames := 0, cells := 0, slots := 0, locals := 0 } : Room).slots) := by
 refine MetFree.of_bodySF (plainFor_of_name pn_com_example_stack_check_trimmer_stackchecktrimmer_io_LineTokenizerQuotePinLaw) hisR ?_
 intro p e s m args below meth c s₁ Bd hml0 hP hK
 obtain ⟨rfl, hZ, hh⟩ := hP
 have hx := Bd.exec
 have hby := Bd.bytes
 have hml : c.maxLocals = 1 := hml0
 have hown : s.vm.findClass "com/example/stack_check_trimmer/stackchecktrimmer/io/LineTokenizerQuotePinLaw" = some m.cls := findClass_of_methodNamed Bd.named
 have hnm := (name_of_methodNamed Bd.named Bd.method).1
 have X0 : Stand p l e ({ frames := 0, cells := 0, slots := 0, locals := 0 } : Room) s m #[(.int p1)] below meth c s₁ [] 0 0 := Stand.of_body Bd
 have e0 : s₁.heap = h0 := by rw [← hh, Bd.state]; rfl
 have N0 := Fr.nil n0
 obtain ⟨A0, hA0⟩ : ∃ A, A = s₁.setTop (entryFrame m #[(.int p1)] 1) := ⟨_, rfl⟩
 have R0 : ∀ tgt, Steps p.tables e below (s₁.setTop (mkF m 0 #[.val (.int p1)] [])) tgt → Steps p.tables e below A0 tgt := fun tgt hgo => by rw [hA0]; exact castTop (ef_rm_sp m p1) hgo
 have w : ∀ (i : Nat) {d : Jvm.Cond}, tables_1[i]? = some d → d.before a0 Z = true := fun i d h => hw d (List.mem_of_getElem? h)
 have R2 : Rc p e below A0 (s₁.setTop (mkF m 3 #[.val (.int p1)] [(.int 34), (.int p1)])) := by
   intro tgt hgo
   refine R0 tgt ?_
   show Steps p.tables e below (s₁.setTop (mkF m 0 #[.val (.int p1)] [])) _
   refine XS.iloadN X0.here hx rfl (hb hby d28_0) rfl ?_
   refine XS.bipush X0.here hx rfl (hb hby d28_1) ?_
   exact hgo
 by_cases hc3_1 : p1 = (34 : Int32)
 ·have R3 : Rc p e below A0 (s₁.setTop (mkF m 17 #[.val (.int p1)] [(.int 1)])) := by
    intro tgt hgo
    refine R2 tgt ?_
    show Steps p.tables e below (s₁.setTop (mkF m 3 #[.val (.int p1)] [(.int 34), (.int p1)])) _
    refine XS.icmpYes X0.here hx rfl (pc0 := 3) (pc' := 12) rfl (hb hby d28_3) rfl (teq hc3_1).1 (by decide) (by decide) ?_
    refine XS.iconst X0.here hx rfl (hb hby d28_12) ?_
    refine XS.goto X0.here hx rfl (pc0 := 13) (pc' := 17) rfl (hb hby d28_13) (by decide) (by decide) ?_
    exact hgo
  subst hA0
  obtain ⟨fs, hr, hrun, hended, hW, hsame⟩ := X0.leave (v := some (.int 1)) (fun h => by rw [Bd.returns] at h; cases h)
  refine ⟨_, _, R3 _ ?_, hrun, hended, _, _, rfl, ?_, ⟨_, rfl⟩, hW, hsame.mono (by decide) (by decide)⟩
  ·show Steps p.tables e below (s₁.setTop (mkF m 17 #[.val (.int p1)] [(.int 1)])) _
   exact retN X0 hx (t := .boolean) Bd.returns (by simp) (hb hby d28_17) hr
  ·show Qi z h0 n0 _ s₁.heap _
   rw [e0]
   exact ⟨by rw [← hzz]; simp [own_sp, hc3_1], N0, rfl⟩
 ·have R5 : Rc p e below A0 (s₁.setTop (mkF m 9 #[.val (.int p1)] [(.int 92), (.int p1)])) := by
    intro tgt hgo
    refine R2 tgt ?_
    show Steps p.tables e below (s₁.setTop (mkF m 3 #[.val (.int p1)] [(.int 34), (.int p1)])) _
    refine XS.icmpNo X0.here hx rfl (hb hby d28_3) rfl (feq hc3_1).1 ?_
    refine XS.iloadN X0.here hx rfl (hb hby d28_6) rfl ?_
    refine XS.bipush X0.here hx rfl (hb hby d28_7) ?_
    exact hgo
  by_cases hc9_4 : p1 = (92 : Int32)
  ·have R6 : Rc p e below A0 (s₁.setTop (mkF m 17 #[.val (.int p1)] [(.int 1)])) := by
     intro tgt hgo
     refine R5 tgt ?_
     show Steps p.tables e below (s₁.setTop (mkF m 9 #[.val (.int p1)] [(.int 92), (.int p1)])) _
     refine XS.icmpNo X0.here hx rfl (hb hby d28_9) rfl (teq hc9_4).2 ?_
     refine XS.iconst X0.here hx rfl (hb hby d28_12) ?_
     refine XS.goto X0.here hx rfl (pc0 := 13) (pc' := 17) rfl (hb hby d28_13) (by decide) (by decide) ?_
     exact hgo
   subst hA0
   obtain ⟨fs, hr, hrun, hended, hW, hsame⟩ := X0.leave (v := some (.int 1)) (fun h => by rw [Bd.returns] at h; cases h)
   refine ⟨_, _, R6 _ ?_, hrun, hended, _, _, rfl, ?_, ⟨_, rfl⟩, hW, hsame.mono (by decide) (by decide)⟩
   ·show Steps p.tables e below (s₁.setTop (mkF m 17 #[.val (.int p1)] [(.int 1)])) _
    exact retN X0 hx (t := .boolean) Bd.returns (by simp) (hb hby d28_17) hr
   ·show Qi z h0 n0 _ s₁.heap _
    rw [e0]
    exact ⟨by rw [← hzz]; simp [own_sp, hc3_1, hc9_4], N0, rfl⟩
  ·have R7 : Rc p e below A0 (s₁.setTop (mkF m 17 #[.val (.int p1)] [(.int 0)])) := by
     intro tgt hgo
     refine R5 tgt ?_
     show Steps p.tables e below (s₁.setTop (mkF m 9 #[.val (.int p1)] [(.int 92), (.int p1)])) _
     refine XS.icmpYes X0.here hx rfl (pc0 := 9) (pc' := 16) rfl (hb hby d28_9) rfl (feq hc9_4).2 (by decide) (by decide) ?_
     refine XS.iconst X0.here hx rfl (hb hby d28_16) ?_
     exact hgo
   subst hA0
   obtain ⟨fs, hr, hrun, hended, hW, hsame⟩ := X0.leave (v := some (.int 0)) (fun h => by rw [Bd.returns] at h; cases h)
   refine ⟨_, _, R7 _ ?_, hrun, hended, _, _, rfl, ?_, ⟨_, rfl⟩, hW, hsame.mono (by decide) (by decide)⟩
   ·show Steps p.tables e below (s₁.setTop (mkF m 17 #[.val (.int p1)] [(.int 0)])) _
    exact retN X0 hx (t := .boolean) Bd.returns (by simp) (hb hby d28_17) hr
   ·show Qi z h0 n0 _ s₁.heap _
    rw [e0]
    exact ⟨by rw [← hzz]; simp [own_sp, hc3_1, hc9_4], N0, rfl⟩
abbrev yn29 : MethodName := ⟨"com/example/stack_check_trimmer/stackchecktrimmer/io/LineTokenizerQuotePinLaw", "step", "(Ljava/lang/String;IC)I"⟩
theorem ef_rm_step0 (m : MethodId) (a1 : Addr) (pi : Int32) (p3 : Int32) : entryFrame m #[(.ref a1), (.int pi), (.int p3)] 4 = mkF m 0 #[.val (.ref a1), .val (.int pi), .val (.int p3), .unset] [] := by first | (simp [entryFrame, mkF, argsToLocals, Value.category]; done) | rfl
theorem d29_0 : decode method_3_code 0 = .ok (.iload_n 1, 1) := by decide +kernel
theorem d29_1 : decode method_3_code 1 = .ok (.ifCond .ge 5, 3) := by decide +kernel
theorem d29_6 : decode method_3_code 6 = .ok (.iload_n 1, 1) := by decide +kernel
theorem d29_7 : decode method_3_code 7 = .ok (.istore_n 3, 1) := by decide +kernel
theorem d29_8 : decode method_3_code 8 = .ok (.iload_n 2, 1) := by decide +kernel
theorem d29_9 : decode method_3_code 9 = .ok (.invokestatic 7, 3) := by decide +kernel
theorem d29_12 : decode method_3_code 12 = .ok (.ifCond .eq 19, 3) := by decide +kernel
theorem d29_31 : decode method_3_code 31 = .ok (.aload_n 0, 1) := by decide +kernel
theorem d29_32 : decode method_3_code 32 = .ok (.iload_n 3, 1) := by decide +kernel
theorem d29_33 : decode method_3_code 33 = .ok (.invokevirtual 13, 3) := by decide +kernel
theorem pd_17 : parseMethodDescriptor "(I)C" = some ⟨[.int], some .char⟩ := by decide +kernel
theorem d29_36 : decode method_3_code 36 = .ok (.iload_n 2, 1) := by decide +kernel
theorem d29_37 : decode method_3_code 37 = .ok (.if_icmp .eq 5, 3) := by decide +kernel
theorem d29_42 : decode method_3_code 42 = .ok (.iload_n 3, 1) := by decide +kernel
theorem d29_43 : decode method_3_code 43 = .ok (.iconst 1, 1) := by decide +kernel
theorem d29_44 : decode method_3_code 44 = .ok (.iadd, 1) := by decide +kernel
theorem d29_45 : decode method_3_code 45 = .ok (.ireturn, 1) := by decide +kernel
set_option maxRecDepth 65536 in
set_option maxHeartbeats 40000000 in
theorem rm_step0 (l : Launch) (Z : State) (a0 : Array Value) (hw : ∀ d ∈ tables_1, d.before a0 Z = true) (ws : List Jvm.Cond) (a1 : Addr) (pi : Int32) (p3 : Int32) (zc : Int32) (b : Addr) (k : ClassId) (bs : List Int32) (i : Nat) (vf : Value) (h0 : Heap) (n0 : Nat) (Z0 : n0 ≤ h0.size) (hpi : pi = Int32.ofNat i) (hch : own_ch p3) (hsp : own_sp p3 = 0) (X00 : Old Z n0 h0) (S_cs : Sta Z Z.heap "java/lang/String" "COMPACT_STRINGS" "Z" (.int zc)) (hz : ¬ zc = 0) (S_f : Sta Z Z.heap "jdk/internal/util/Preconditions" "SIOOBE_FORMATTER" "Ljava/util/function/BiFunction;" vf) (hf : vf.isRef = true) (hb31 : bs.length < 2147483647) (hl0 : i < bs.length) (hel : (bs.map Value.int).getD i (.int 0) = .int (own_b p3)) (DS : StrF Z h0 a1 b k bs) :
    MetFree l yn29 (head1 (Jvm.Cond.code yn29 method_3_code 4 (some .int) :: ws) ({ frames := 4, cells := 0, slots := 0, locals := 53 } : Room)) (fun a U => a = #[(.ref a1), (.int pi), (.int p3)] ∧ Z.Warmed39 U.vm ∧ U.heap = h0) (fun _ _ _ _ _ => True) (fun _ U o U' => ∃ v L, o = .returned v ∧ Qi (Int32.ofNat (i + 1)) h0 n0 v U'.heap L ∧ FrameEnd U o U' L ({ frames := 4, cells := 0, slots := 0, locals := 53 } : Room).cells ({ frames := 4, cells := 0, slots := 0, locals := 53 } : Room).slots) := by
 refine MetFree.of_bodySF (plainFor_of_name pn_com_example_stack_check_trimmer_stackchecktrimmer_io_LineTokenizerQuotePinLaw) hisR ?_
 intro p e s m args below meth c s₁ Bd hml0 hP hK
 obtain ⟨rfl, hZ, hh⟩ := hP
 have hx := Bd.exec
 have hby := Bd.bytes
 have hml : c.maxLocals = 4 := hml0
 have hown : s.vm.findClass "com/example/stack_check_trimmer/stackchecktrimmer/io/LineTokenizerQuotePinLaw" = some m.cls := findClass_of_methodNamed Bd.named
 have hnm := (name_of_methodNamed Bd.named Bd.method).1
 have X0 : Stand p l e ({ frames := 4, cells := 0, slots := 0, locals := 53 } : Room) s m #[(.ref a1), (.int pi), (.int p3)] below meth c s₁ [] 0 0 := Stand.of_body Bd
 have e0 : s₁.heap = h0 := by rw [← hh, Bd.state]; rfl
 have N0 := Fr.nil n0
 obtain ⟨A0, hA0⟩ : ∃ A, A = s₁.setTop (entryFrame m #[(.ref a1), (.int pi), (.int p3)] 4) := ⟨_, rfl⟩
 have R0 : ∀ tgt, Steps p.tables e below (s₁.setTop (mkF m 0 #[.val (.ref a1), .val (.int pi), .val (.int p3), .unset] [])) tgt → Steps p.tables e below A0 tgt := fun tgt hgo => by rw [hA0]; exact castTop (ef_rm_step0 m a1 pi p3) hgo
 have w : ∀ (i : Nat) {d : Jvm.Cond}, tables_1[i]? = some d → d.before a0 Z = true := fun i d h => hw d (List.mem_of_getElem? h)
 have E1 := DS.1
 have R1 : Rc p e below A0 (s₁.setTop (mkF m 9 #[.val (.ref a1), .val (.int pi), .val (.int p3), .val (.int pi)] [(.int p3)])) := by
   intro tgt hgo
   refine R0 tgt ?_
   show Steps p.tables e below (s₁.setTop (mkF m 0 #[.val (.ref a1), .val (.int pi), .val (.int p3), .unset] [])) _
   refine XS.iloadN X0.here hx rfl (hb hby d29_0) rfl ?_
   refine XS.ifYes X0.here hx rfl (pc0 := 1) (pc' := 6) rfl (hb hby d29_1) rfl ((if0 _ _).trans (flt (by rw [hpi]; exact own_nn (by omega) : ¬ (pi < (0 : Int32)))).2.1) (by decide) (by decide) ?_
   refine XS.iloadN X0.here hx rfl (hb hby d29_6) rfl ?_
   refine XS.istoreN X0.here hx rfl (hb hby d29_7) rfl (l' := #[.val (.ref a1), .val (.int pi), .val (.int p3), .val (.int pi)]) rfl ?_
   refine XS.iloadN X0.here hx rfl (hb hby d29_8) rfl ?_
   exact hgo
 obtain ⟨_, _, ⟨T2, L2, k2, n2⟩, -, X2, ⟨Lc2, hQ2, l2, y2, z2⟩, st2⟩ := Jvm.LawKit.callS X0 hx (y := yn28) hown (mvT hZ (w 153 rfl)) (mvT hZ (w 154 rfl)) (mvT hZ (w 155 rfl)) (mvT hZ (w 156 rfl)) (by decide) (backOf (W := 0) (rm_sp l Z a0 hw [] p3 0 h0 n0 Z0 hsp) hZ (w 156 rfl) (w 155 rfl) (by decide) (by decide)) (g := (mkF m 9 #[.val (.ref a1), .val (.int pi), .val (.int p3), .val (.int pi)] [(.int p3)])) rfl (by rw [hml]; rfl) (argsL := [(.int p3)]) (rest := []) (lenOf pd_10 rfl) rfl (by show 2 * 0 + _ ≤ _; exact Nat.le_of_eq rfl) (hb hby d29_9) (fun _ _ => ⟨rfl, e0, (by decide : 0 + 0 ≤ _), (by decide : 0 + 0 ≤ _)⟩)
 dsimp only [Pt.U, Pt.locs, Pt.cells, Pt.slots] at X2 l2 y2 z2 st2 hQ2
 subst l2 y2 z2
 obtain ⟨rfl, N2q, e2⟩ := hQ2
 have N2 := Fr.app N0 N2q
 have R3 := Rc.st R1 st2
 have R4 : Rc p e below A0 (T2.setTop (mkF m 33 #[.val (.ref a1), .val (.int pi), .val (.int p3), .val (.int pi)] [(.int pi), (.ref a1)])) := by
   intro tgt hgo
   refine R3 tgt ?_
   show Steps p.tables e below (T2.setTop (mkF m 12 #[.val (.ref a1), .val (.int pi), .val (.int p3), .val (.int pi)] [(.int 0)])) _
   refine XS.ifYes X2.here hx rfl (pc0 := 12) (pc' := 31) rfl (hb hby d29_12) rfl ((if0 _ _).trans (teq (by decide : (0 : Int32) = (0 : Int32))).1) (by decide) (by decide) ?_
   refine XS.aloadN X2.here hx rfl (hb hby d29_31) rfl rfl ?_
   refine XS.iloadN X2.here hx rfl (hb hby d29_32) rfl ?_
   exact hgo
 obtain ⟨cq5, kq5, q5a, q5b, q5c⟩ := isOf hZ e2 E1
 obtain ⟨_, _, ⟨T5, L5, k5, n5⟩, -, X5, ⟨Lc5, hQ5, l5, y5, z5⟩, st5⟩ := X2.virtualBack hx (y := yn6) (z := yn6) hown (mvT hZ (w 121 rfl)) (mvT hZ (w 122 rfl)) (notFace_of_selects (args := #[]) (mvT hZ (w 124 rfl))) (mvT hZ (w 124 rfl)) (mvT hZ (w 123 rfl)) (by decide) (backOf (W := 0) (rm_charAt l Z a0 hw [] a1 pi zc b k bs i p3 vf h0 n0 Z0 hpi X00 S_cs hz S_f hf (by omega) ((own_lt (by omega) (by omega)).mpr hl0) hel hch DS) hZ (w 125 rfl) (w 3 rfl) (by decide) (by decide)) q5a q5c (g := (mkF m 33 #[.val (.ref a1), .val (.int pi), .val (.int p3), .val (.int pi)] [(.int pi), (.ref a1)])) rfl (by rw [hml]; rfl) (Steps.refl _) (argsL := [(.int pi)]) (rest := []) (lenOf pd_17 rfl) rfl (by show 2 * 0 + _ ≤ _; exact Nat.le_of_eq rfl) (hb hby d29_33) (fun _ _ => ⟨rfl, e2, (by decide : 0 + 0 ≤ _), (by decide : 0 + 0 ≤ _)⟩)
 dsimp only [Pt.U, Pt.locs, Pt.cells, Pt.slots] at X5 l5 y5 z5 st5 hQ5
 subst l5 y5 z5
 obtain ⟨rfl, N5q, e5⟩ := hQ5
 have N5 := Fr.app N2 N5q
 have R6 := Rc.tr R4 st5
 have R7 : Rc p e below A0 (T5.setTop (mkF m 45 #[.val (.ref a1), .val (.int pi), .val (.int p3), .val (.int pi)] [(.int (pi + (1 : Int32)))])) := by
   intro tgt hgo
   refine R6 tgt ?_
   show Steps p.tables e below (T5.setTop (mkF m 36 #[.val (.ref a1), .val (.int pi), .val (.int p3), .val (.int pi)] [(.int p3)])) _
   refine XS.iloadN X5.here hx rfl (hb hby d29_36) rfl ?_
   refine XS.icmpYes X5.here hx rfl (pc0 := 37) (pc' := 42) rfl (hb hby d29_37) rfl (teq (rfl : p3 = p3)).1 (by decide) (by decide) ?_
   refine XS.iloadN X5.here hx rfl (hb hby d29_42) rfl ?_
   refine XS.iconst X5.here hx rfl (hb hby d29_43) ?_
   refine XS.iadd X5.here hx rfl (hb hby d29_44) rfl ?_
   exact hgo
 subst hA0
 obtain ⟨fs, hr, hrun, hended, hW, hsame⟩ := X5.leave (v := some (.int (pi + (1 : Int32)))) (fun h => by rw [Bd.returns] at h; cases h)
 refine ⟨_, _, R7 _ ?_, hrun, hended, _, _, rfl, ?_, ⟨_, rfl⟩, hW, hsame.mono (by decide) (by decide)⟩
 ·show Steps p.tables e below (T5.setTop (mkF m 45 #[.val (.ref a1), .val (.int pi), .val (.int p3), .val (.int pi)] [(.int (pi + (1 : Int32)))])) _
  exact retI X5 hx Bd.returns (hb hby d29_45) hr
 ·show Qi (Int32.ofNat (i + 1)) h0 n0 _ T5.heap _
  rw [e5]
  exact ⟨by rw [hpi]; simp only [own_succ], N5, rfl⟩
theorem ef_rm_step1 (m : MethodId) (a1 : Addr) (pi : Int32) (p3 : Int32) : entryFrame m #[(.ref a1), (.int pi), (.int p3)] 4 = mkF m 0 #[.val (.ref a1), .val (.int pi), .val (.int p3), .unset] [] := by first | (simp [entryFrame, mkF, argsToLocals, Value.category]; done) | rfl
theorem d29_15 : decode method_3_code 15 = .ok (.aload_n 0, 1) := by decide +kernel
theorem d29_16 : decode method_3_code 16 = .ok (.iload_n 3, 1) := by decide +kernel
theorem d29_17 : decode method_3_code 17 = .ok (.invokevirtual 13, 3) := by decide +kernel
theorem d29_20 : decode method_3_code 20 = .ok (.bipush 92, 2) := by decide +kernel
theorem d29_22 : decode method_3_code 22 = .ok (.if_icmp .eq 5, 3) := by decide +kernel
theorem d29_27 : decode method_3_code 27 = .ok (.iload_n 3, 1) := by decide +kernel
theorem d29_28 : decode method_3_code 28 = .ok (.iconst 1, 1) := by decide +kernel
theorem d29_29 : decode method_3_code 29 = .ok (.iadd, 1) := by decide +kernel
theorem d29_30 : decode method_3_code 30 = .ok (.istore_n 3, 1) := by decide +kernel
set_option maxRecDepth 65536 in
set_option maxHeartbeats 40000000 in
theorem rm_step1 (l : Launch) (Z : State) (a0 : Array Value) (hw : ∀ d ∈ tables_1, d.before a0 Z = true) (ws : List Jvm.Cond) (a1 : Addr) (pi : Int32) (p3 : Int32) (zc : Int32) (b : Addr) (k : ClassId) (bs : List Int32) (i : Nat) (vf : Value) (h0 : Heap) (n0 : Nat) (Z0 : n0 ≤ h0.size) (hpi : pi = Int32.ofNat i) (hch : own_ch p3) (hsp : own_sp p3 = 1) (X00 : Old Z n0 h0) (S_cs : Sta Z Z.heap "java/lang/String" "COMPACT_STRINGS" "Z" (.int zc)) (hz : ¬ zc = 0) (S_f : Sta Z Z.heap "jdk/internal/util/Preconditions" "SIOOBE_FORMATTER" "Ljava/util/function/BiFunction;" vf) (hf : vf.isRef = true) (hb31 : bs.length < 2147483647) (hl0 : i < bs.length) (hel : (bs.map Value.int).getD i (.int 0) = .int (own_b 92)) (hl1 : i + 1 < bs.length) (hel2 : (bs.map Value.int).getD (i + 1) (.int 0) = .int (own_b p3)) (DS : StrF Z h0 a1 b k bs) :
    MetFree l yn29 (head1 (Jvm.Cond.code yn29 method_3_code 4 (some .int) :: ws) ({ frames := 4, cells := 0, slots := 0, locals := 53 } : Room)) (fun a U => a = #[(.ref a1), (.int pi), (.int p3)] ∧ Z.Warmed39 U.vm ∧ U.heap = h0) (fun _ _ _ _ _ => True) (fun _ U o U' => ∃ v L, o = .returned v ∧ Qi (Int32.ofNat (i + 2)) h0 n0 v U'.heap L ∧ FrameEnd U o U' L ({ frames := 4, cells := 0, slots := 0, locals := 53 } : Room).cells ({ frames := 4, cells := 0, slots := 0, locals := 53 } : Room).slots) := by
 refine MetFree.of_bodySF (plainFor_of_name pn_com_example_stack_check_trimmer_stackchecktrimmer_io_LineTokenizerQuotePinLaw) hisR ?_
 intro p e s m args below meth c s₁ Bd hml0 hP hK
 obtain ⟨rfl, hZ, hh⟩ := hP
 have hx := Bd.exec
 have hby := Bd.bytes
 have hml : c.maxLocals = 4 := hml0
 have hown : s.vm.findClass "com/example/stack_check_trimmer/stackchecktrimmer/io/LineTokenizerQuotePinLaw" = some m.cls := findClass_of_methodNamed Bd.named
 have hnm := (name_of_methodNamed Bd.named Bd.method).1
 have X0 : Stand p l e ({ frames := 4, cells := 0, slots := 0, locals := 53 } : Room) s m #[(.ref a1), (.int pi), (.int p3)] below meth c s₁ [] 0 0 := Stand.of_body Bd
 have e0 : s₁.heap = h0 := by rw [← hh, Bd.state]; rfl
 have N0 := Fr.nil n0
 obtain ⟨A0, hA0⟩ : ∃ A, A = s₁.setTop (entryFrame m #[(.ref a1), (.int pi), (.int p3)] 4) := ⟨_, rfl⟩
 have R0 : ∀ tgt, Steps p.tables e below (s₁.setTop (mkF m 0 #[.val (.ref a1), .val (.int pi), .val (.int p3), .unset] [])) tgt → Steps p.tables e below A0 tgt := fun tgt hgo => by rw [hA0]; exact castTop (ef_rm_step1 m a1 pi p3) hgo
 have w : ∀ (i : Nat) {d : Jvm.Cond}, tables_1[i]? = some d → d.before a0 Z = true := fun i d h => hw d (List.mem_of_getElem? h)
 have E1 := DS.1
 have R1 : Rc p e below A0 (s₁.setTop (mkF m 9 #[.val (.ref a1), .val (.int pi), .val (.int p3), .val (.int pi)] [(.int p3)])) := by
   intro tgt hgo
   refine R0 tgt ?_
   show Steps p.tables e below (s₁.setTop (mkF m 0 #[.val (.ref a1), .val (.int pi), .val (.int p3), .unset] [])) _
   refine XS.iloadN X0.here hx rfl (hb hby d29_0) rfl ?_
   refine XS.ifYes X0.here hx rfl (pc0 := 1) (pc' := 6) rfl (hb hby d29_1) rfl ((if0 _ _).trans (flt (by rw [hpi]; exact own_nn (by omega) : ¬ (pi < (0 : Int32)))).2.1) (by decide) (by decide) ?_
   refine XS.iloadN X0.here hx rfl (hb hby d29_6) rfl ?_
   refine XS.istoreN X0.here hx rfl (hb hby d29_7) rfl (l' := #[.val (.ref a1), .val (.int pi), .val (.int p3), .val (.int pi)]) rfl ?_
   refine XS.iloadN X0.here hx rfl (hb hby d29_8) rfl ?_
   exact hgo
 obtain ⟨_, _, ⟨T2, L2, k2, n2⟩, -, X2, ⟨Lc2, hQ2, l2, y2, z2⟩, st2⟩ := Jvm.LawKit.callS X0 hx (y := yn28) hown (mvT hZ (w 153 rfl)) (mvT hZ (w 154 rfl)) (mvT hZ (w 155 rfl)) (mvT hZ (w 156 rfl)) (by decide) (backOf (W := 0) (rm_sp l Z a0 hw [] p3 1 h0 n0 Z0 hsp) hZ (w 156 rfl) (w 155 rfl) (by decide) (by decide)) (g := (mkF m 9 #[.val (.ref a1), .val (.int pi), .val (.int p3), .val (.int pi)] [(.int p3)])) rfl (by rw [hml]; rfl) (argsL := [(.int p3)]) (rest := []) (lenOf pd_10 rfl) rfl (by show 2 * 0 + _ ≤ _; exact Nat.le_of_eq rfl) (hb hby d29_9) (fun _ _ => ⟨rfl, e0, (by decide : 0 + 0 ≤ _), (by decide : 0 + 0 ≤ _)⟩)
 dsimp only [Pt.U, Pt.locs, Pt.cells, Pt.slots] at X2 l2 y2 z2 st2 hQ2
 subst l2 y2 z2
 obtain ⟨rfl, N2q, e2⟩ := hQ2
 have N2 := Fr.app N0 N2q
 have R3 := Rc.st R1 st2
 have R4 : Rc p e below A0 (T2.setTop (mkF m 17 #[.val (.ref a1), .val (.int pi), .val (.int p3), .val (.int pi)] [(.int pi), (.ref a1)])) := by
   intro tgt hgo
   refine R3 tgt ?_
   show Steps p.tables e below (T2.setTop (mkF m 12 #[.val (.ref a1), .val (.int pi), .val (.int p3), .val (.int pi)] [(.int 1)])) _
   refine XS.ifNo X2.here hx rfl (hb hby d29_12) rfl ((if0 _ _).trans (feq (by decide : ¬ ((1 : Int32) = (0 : Int32)))).1) ?_
   refine XS.aloadN X2.here hx rfl (hb hby d29_15) rfl rfl ?_
   refine XS.iloadN X2.here hx rfl (hb hby d29_16) rfl ?_
   exact hgo
 obtain ⟨cq5, kq5, q5a, q5b, q5c⟩ := isOf hZ e2 E1
 obtain ⟨_, _, ⟨T5, L5, k5, n5⟩, -, X5, ⟨Lc5, hQ5, l5, y5, z5⟩, st5⟩ := X2.virtualBack hx (y := yn6) (z := yn6) hown (mvT hZ (w 121 rfl)) (mvT hZ (w 122 rfl)) (notFace_of_selects (args := #[]) (mvT hZ (w 124 rfl))) (mvT hZ (w 124 rfl)) (mvT hZ (w 123 rfl)) (by decide) (backOf (W := 0) (rm_charAt l Z a0 hw [] a1 pi zc b k bs i 92 vf h0 n0 Z0 hpi X00 S_cs hz S_f hf (by omega) ((own_lt (by omega) (by omega)).mpr hl0) hel own_c92 DS) hZ (w 125 rfl) (w 3 rfl) (by decide) (by decide)) q5a q5c (g := (mkF m 17 #[.val (.ref a1), .val (.int pi), .val (.int p3), .val (.int pi)] [(.int pi), (.ref a1)])) rfl (by rw [hml]; rfl) (Steps.refl _) (argsL := [(.int pi)]) (rest := []) (lenOf pd_17 rfl) rfl (by show 2 * 0 + _ ≤ _; exact Nat.le_of_eq rfl) (hb hby d29_17) (fun _ _ => ⟨rfl, e2, (by decide : 0 + 0 ≤ _), (by decide : 0 + 0 ≤ _)⟩)
 dsimp only [Pt.U, Pt.locs, Pt.cells, Pt.slots] at X5 l5 y5 z5 st5 hQ5
 subst l5 y5 z5
 obtain ⟨rfl, N5q, e5⟩ := hQ5
 have N5 := Fr.app N2 N5q
 have R6 := Rc.tr R4 st5
 have R7 : Rc p e below A0 (T5.setTop (mkF m 33 #[.val (.ref a1), .val (.int pi), .val (.int p3), .val (.int (pi + (1 : Int32)))] [(.int (pi + (1 : Int32))), (.ref a1)])) := by
   intro tgt hgo
   refine R6 tgt ?_
   show Steps p.tables e below (T5.setTop (mkF m 20 #[.val (.ref a1), .val (.int pi), .val (.int p3), .val (.int pi)] [(.int 92)])) _
   refine XS.bipush X5.here hx rfl (hb hby d29_20) ?_
   refine XS.icmpYes X5.here hx rfl (pc0 := 22) (pc' := 27) rfl (hb hby d29_22) rfl (teq (by decide : (92 : Int32) = (92 : Int32))).1 (by decide) (by decide) ?_
   refine XS.iloadN X5.here hx rfl (hb hby d29_27) rfl ?_
   refine XS.iconst X5.here hx rfl (hb hby d29_28) ?_
   refine XS.iadd X5.here hx rfl (hb hby d29_29) rfl ?_
   refine XS.istoreN X5.here hx rfl (hb hby d29_30) rfl (l' := #[.val (.ref a1), .val (.int pi), .val (.int p3), .val (.int (pi + (1 : Int32)))]) rfl ?_
   refine XS.aloadN X5.here hx rfl (hb hby d29_31) rfl rfl ?_
   refine XS.iloadN X5.here hx rfl (hb hby d29_32) rfl ?_
   exact hgo
 obtain ⟨cq8, kq8, q8a, q8b, q8c⟩ := isOf hZ e5 E1
 obtain ⟨_, _, ⟨T8, L8, k8, n8⟩, -, X8, ⟨Lc8, hQ8, l8, y8, z8⟩, st8⟩ := X5.virtualBack hx (y := yn6) (z := yn6) hown (mvT hZ (w 121 rfl)) (mvT hZ (w 122 rfl)) (notFace_of_selects (args := #[]) (mvT hZ (w 124 rfl))) (mvT hZ (w 124 rfl)) (mvT hZ (w 123 rfl)) (by decide) (backOf (W := 0) (rm_charAt l Z a0 hw [] a1 (pi + (1 : Int32)) zc b k bs (i + 1) p3 vf h0 n0 Z0 (by rw [hpi]; exact own_succ i) X00 S_cs hz S_f hf (by omega) ((own_lt (by omega) (by omega)).mpr hl1) hel2 hch DS) hZ (w 125 rfl) (w 3 rfl) (by decide) (by decide)) q8a q8c (g := (mkF m 33 #[.val (.ref a1), .val (.int pi), .val (.int p3), .val (.int (pi + (1 : Int32)))] [(.int (pi + (1 : Int32))), (.ref a1)])) rfl (by rw [hml]; rfl) (Steps.refl _) (argsL := [(.int (pi + (1 : Int32)))]) (rest := []) (lenOf pd_17 rfl) rfl (by show 2 * 0 + _ ≤ _; exact Nat.le_of_eq rfl) (hb hby d29_33) (fun _ _ => ⟨rfl, e5, (by decide : 0 + 0 ≤ _), (by decide : 0 + 0 ≤ _)⟩)
 dsimp only [Pt.U, Pt.locs, Pt.cells, Pt.slots] at X8 l8 y8 z8 st8 hQ8
 subst l8 y8 z8
 obtain ⟨rfl, N8q, e8⟩ := hQ8
 have N8 := Fr.app N5 N8q
 have R9 := Rc.tr R7 st8
 have R10 : Rc p e below A0 (T8.setTop (mkF m 45 #[.val (.ref a1), .val (.int pi), .val (.int p3), .val (.int (pi + (1 : Int32)))] [(.int ((pi + (1 : Int32)) + (1 : Int32)))])) := by
   intro tgt hgo
   refine R9 tgt ?_
   show Steps p.tables e below (T8.setTop (mkF m 36 #[.val (.ref a1), .val (.int pi), .val (.int p3), .val (.int (pi + (1 : Int32)))] [(.int p3)])) _
   refine XS.iloadN X8.here hx rfl (hb hby d29_36) rfl ?_
   refine XS.icmpYes X8.here hx rfl (pc0 := 37) (pc' := 42) rfl (hb hby d29_37) rfl (teq (rfl : p3 = p3)).1 (by decide) (by decide) ?_
   refine XS.iloadN X8.here hx rfl (hb hby d29_42) rfl ?_
   refine XS.iconst X8.here hx rfl (hb hby d29_43) ?_
   refine XS.iadd X8.here hx rfl (hb hby d29_44) rfl ?_
   exact hgo
 subst hA0
 obtain ⟨fs, hr, hrun, hended, hW, hsame⟩ := X8.leave (v := some (.int ((pi + (1 : Int32)) + (1 : Int32)))) (fun h => by rw [Bd.returns] at h; cases h)
 refine ⟨_, _, R10 _ ?_, hrun, hended, _, _, rfl, ?_, ⟨_, rfl⟩, hW, hsame.mono (by decide) (by decide)⟩
 ·show Steps p.tables e below (T8.setTop (mkF m 45 #[.val (.ref a1), .val (.int pi), .val (.int p3), .val (.int (pi + (1 : Int32)))] [(.int ((pi + (1 : Int32)) + (1 : Int32)))])) _
  exact retI X8 hx Bd.returns (hb hby d29_45) hr
 ·show Qi (Int32.ofNat (i + 2)) h0 n0 _ T8.heap _
  rw [e8]
  exact ⟨by rw [hpi]; simp only [own_succ], N8, rfl⟩
theorem own_capinv {n N M0 : Nat} (hM : 3 ≤ M0 ∧ M0 ≤ 5) (hN : N = M0 ∨ N = 2 * M0 + 2) (hn : n ≤ N) (h2 : n ≤ 2 * M0) : (n < N ∧ N ≤ 12 ∨ n = N ∧ (N = 3 ∨ N = 4 ∨ N = 5)) ∧ (own_cap n N = M0 ∨ own_cap n N = 2 * M0 + 2) ∧ n + 1 ≤ own_cap n N := by
  unfold own_cap
  by_cases h : n < N
  · rw [if_pos h]; refine ⟨Or.inl ⟨h, by omega⟩, hN, by omega⟩
  · rw [if_neg h]; refine ⟨Or.inr ⟨by omega, by omega⟩, by omega, by omega⟩
theorem d30_35 : decode prog_16_method_4_code 35 = .ok (.iload_n 3, 1) := by decide +kernel
theorem d30_36 : decode prog_16_method_4_code 36 = .ok (.bipush 34, 2) := by decide +kernel
theorem d30_38 : decode prog_16_method_4_code 38 = .ok (.if_icmp .eq 9, 3) := by decide +kernel
theorem d30_41 : decode prog_16_method_4_code 41 = .ok (.iload_n 3, 1) := by decide +kernel
theorem d30_42 : decode prog_16_method_4_code 42 = .ok (.bipush 92, 2) := by decide +kernel
theorem d30_44 : decode prog_16_method_4_code 44 = .ok (.if_icmp .ne 10, 3) := by decide +kernel
theorem d30_47 : decode prog_16_method_4_code 47 = .ok (.aload_n 1, 1) := by decide +kernel
theorem d30_48 : decode prog_16_method_4_code 48 = .ok (.bipush 92, 2) := by decide +kernel
theorem d30_50 : decode prog_16_method_4_code 50 = .ok (.invokevirtual 85, 3) := by decide +kernel
theorem pd_18 : parseMethodDescriptor "(C)Ljava/lang/StringBuilder;" = some ⟨[.char], some (.object "java/lang/StringBuilder")⟩ := by decide +kernel
theorem d30_53 : decode prog_16_method_4_code 53 = .ok (.pop, 1) := by decide +kernel
theorem d30_54 : decode prog_16_method_4_code 54 = .ok (.aload_n 1, 1) := by decide +kernel
theorem d30_55 : decode prog_16_method_4_code 55 = .ok (.iload_n 3, 1) := by decide +kernel
theorem d30_56 : decode prog_16_method_4_code 56 = .ok (.invokevirtual 85, 3) := by decide +kernel
theorem d30_59 : decode prog_16_method_4_code 59 = .ok (.pop, 1) := by decide +kernel
set_option maxRecDepth 65536 in
set_option maxHeartbeats 40000000 in
theorem seg_q {p : Program} {l : Launch} {e : Env} {s : State} {m : MethodId} {args : Array Value} {below : List Frame} {meth : Method} {c : Code} {T0 : State} {locs : List Loc} {cells slots : Nat} {Z : State} {a0 : Array Value} {h0 : Heap} {n0 : Nat} (a1 sb : Addr) (pI ch zc : Int32) (b : Addr) (k : ClassId) (N M0 : Nat) (bs : List Int32)
    (X0 : Stand p l e ({ frames := 6, cells := 12, slots := 128, locals := 100 } : Room) s m args below meth c T0 locs cells slots) (hx : p.tables.exec = Jvm.exec) (hZ : Z.Warmed39 s.vm) (hw : ∀ d ∈ tables_1, d.before a0 Z = true) (hby : c.code = prog_16_method_4_code) (hml : c.maxLocals = 4) (hown : s.vm.findClass "com/example/stack_check_trimmer/stackchecktrimmer/io/LineTokenizer" = some m.cls) (e0 : T0.heap = h0) (Z0 : n0 ≤ h0.size) (N0 : Fr n0 locs) (X00 : Old Z n0 h0) (S_cs : Sta Z Z.heap "java/lang/String" "COMPACT_STRINGS" "Z" (.int zc)) (hz : ¬ zc = 0) (hch : own_ch ch) (D0 : SBd Z h0 n0 sb b k N bs) (hM : 3 ≤ M0 ∧ M0 ≤ 5) (hNn : N = M0 ∨ N = 2 * M0 + 2) (hl : bs.length ≤ N) (hl2 : bs.length + 1 ≤ 2 * M0) (hcs : cells + 2 ≤ 12 ∧ slots + 24 ≤ 128) :
    ∃ (T' : State) (h' : Heap) (locs' : List Loc) (b' : Addr) (k' : ClassId) (N' : Nat), Stand p l e ({ frames := 6, cells := 12, slots := 128, locals := 100 } : Room) s m args below meth c T' locs' (cells + 2) (slots + 24) ∧ T'.heap = h' ∧ Fr n0 locs' ∧ (SBd Z h' n0 sb b' k' N' (bs ++ own_esc ch) ∧ (N' = M0 ∨ N' = 2 * M0 + 2) ∧ (bs ++ own_esc ch).length ≤ N' ∧ Keep h0 h' [sb, b] ∧ (b' = b ∨ h0.size ≤ b')) ∧
      ∀ target, Steps p.tables e below (T'.setTop (mkF m 60 #[.val (.ref a1), .val (.ref sb), .val (.int pI), .val (.int ch)] [])) target → Steps p.tables e below (T0.setTop (mkF m 35 #[.val (.ref a1), .val (.ref sb), .val (.int pI), .val (.int ch)] [])) target := by
 obtain ⟨A0, hA0⟩ : ∃ A, A = T0.setTop (mkF m 35 #[.val (.ref a1), .val (.ref sb), .val (.int pI), .val (.int ch)] []) := ⟨_, rfl⟩
 have R0 : ∀ tgt, Steps p.tables e below (T0.setTop (mkF m 35 #[.val (.ref a1), .val (.ref sb), .val (.int pI), .val (.int ch)] [])) tgt → Steps p.tables e below A0 tgt := fun tgt hgo => by rw [hA0]; exact hgo
 have w : ∀ (i : Nat) {d : Jvm.Cond}, tables_1[i]? = some d → d.before a0 Z = true := fun i d h => hw d (List.mem_of_getElem? h)
 have hZn := Z0
 have hK : Keep h0 h0 [sb, b] := Keep.refl _ _
 have hOld := X00
 have Es := D0.1
 rcases own_sp_cases ch with ⟨hsp, hq⟩ | ⟨hsp, hq1, hq2⟩
 ·have R47 : ∀ tgt, Steps p.tables e below (T0.setTop (mkF m 47 #[.val (.ref a1), .val (.ref sb), .val (.int pI), .val (.int ch)] [])) tgt → Steps p.tables e below A0 tgt := by
    intro tgt hgo
    rcases hq with q | q
    ·have R1 : Rc p e below A0 (T0.setTop (mkF m 47 #[.val (.ref a1), .val (.ref sb), .val (.int pI), .val (.int ch)] [])) := by
       intro tgt hgo
       refine R0 tgt ?_
       show Steps p.tables e below (T0.setTop (mkF m 35 #[.val (.ref a1), .val (.ref sb), .val (.int pI), .val (.int ch)] [])) _
       refine XS.iloadN X0.here hx rfl (hb hby d30_35) rfl ?_
       refine XS.bipush X0.here hx rfl (hb hby d30_36) ?_
       refine XS.icmpYes X0.here hx rfl (pc0 := 38) (pc' := 47) rfl (hb hby d30_38) rfl (teq q).1 (by decide) (by decide) ?_
       exact hgo
     exact R1 tgt hgo
    ·have R2 : Rc p e below A0 (T0.setTop (mkF m 47 #[.val (.ref a1), .val (.ref sb), .val (.int pI), .val (.int ch)] [])) := by
       intro tgt hgo
       refine R0 tgt ?_
       show Steps p.tables e below (T0.setTop (mkF m 35 #[.val (.ref a1), .val (.ref sb), .val (.int pI), .val (.int ch)] [])) _
       refine XS.iloadN X0.here hx rfl (hb hby d30_35) rfl ?_
       refine XS.bipush X0.here hx rfl (hb hby d30_36) ?_
       refine XS.icmpNo X0.here hx rfl (hb hby d30_38) rfl (feq (by rw [q]; decide : ¬ ch = (34 : Int32))).1 ?_
       refine XS.iloadN X0.here hx rfl (hb hby d30_41) rfl ?_
       refine XS.bipush X0.here hx rfl (hb hby d30_42) ?_
       refine XS.icmpNo X0.here hx rfl (hb hby d30_44) rfl (teq q).2 ?_
       exact hgo
     exact R2 tgt hgo
  have R3 : Rc p e below A0 (T0.setTop (mkF m 50 #[.val (.ref a1), .val (.ref sb), .val (.int pI), .val (.int ch)] [(.int 92), (.ref sb)])) := by
    intro tgt hgo
    refine R47 tgt ?_
    show Steps p.tables e below (T0.setTop (mkF m 47 #[.val (.ref a1), .val (.ref sb), .val (.int pI), .val (.int ch)] [])) _
    refine XS.aloadN X0.here hx rfl (hb hby d30_47) rfl rfl ?_
    refine XS.bipush X0.here hx rfl (hb hby d30_48) ?_
    exact hgo
  have sz0_b1 := hK.1
  obtain ⟨cq4, kq4, q4a, q4b, q4c⟩ := isOf hZ e0 Es
  obtain ⟨_, _, ⟨T4, L4, k4, n4⟩, -, X4, ⟨Lc4, hQ4, l4, y4, z4⟩, st4⟩ := X0.virtualBack hx (y := yn16) (z := yn16) hown (mvT hZ (w 55 rfl)) (mvT hZ (w 56 rfl)) (notFace_of_selects (args := #[]) (mvT hZ (w 58 rfl))) (mvT hZ (w 58 rfl)) (mvT hZ (w 57 rfl)) (by decide) (backOf (W := 0) (rm_app l Z a0 hw [] sb 92 zc b k N bs h0 n0 hZn hOld S_cs hz own_c92 D0 (own_capinv hM hNn hl (by omega)).1) hZ (w 59 rfl) (w 28 rfl) (by decide) (by decide)) q4a q4c (g := (mkF m 50 #[.val (.ref a1), .val (.ref sb), .val (.int pI), .val (.int ch)] [(.int 92), (.ref sb)])) rfl (by rw [hml]; rfl) (Steps.refl _) (argsL := [(.int 92)]) (rest := []) (lenOf pd_18 rfl) rfl (by show 2 * 0 + _ ≤ _; exact Nat.le_of_eq rfl) (hb hby d30_50) (fun _ _ => ⟨rfl, e0, (by show cells + 0 + 1 ≤ 12; omega), (by show slots + 0 + 12 ≤ 128; omega)⟩)
  dsimp only [Pt.U, Pt.locs, Pt.cells, Pt.slots] at X4 l4 y4 z4 st4 hQ4
  subst l4 y4 z4
  obtain ⟨rfl, N4q, K4, b1, k1, D1, hb1⟩ := hQ4
  have N4 := Fr.app N0 N4q
  have R5 := Rc.tr R3 st4
  replace hZn := Nat.le_trans hZn K4.1
  replace hK := hK.trans K4 (allS (Or.inl (List.mem_of_getElem? (i := 0) rfl)) (allS (Or.inl (List.mem_of_getElem? (i := 1) rfl)) all0))
  replace hOld := hOld.keep K4 (allS D0.2.2.2.2.2.2.2.1 (allS D0.2.2.2.2.2.2.2.2 all0))
  replace Es := Es.keep K4
  have R6 : Rc p e below A0 (T4.setTop (mkF m 56 #[.val (.ref a1), .val (.ref sb), .val (.int pI), .val (.int ch)] [(.int ch), (.ref sb)])) := by
    intro tgt hgo
    refine R5 tgt ?_
    show Steps p.tables e below (T4.setTop (mkF m 53 #[.val (.ref a1), .val (.ref sb), .val (.int pI), .val (.int ch)] [(.ref sb)])) _
    refine XS.pop X4.here hx rfl (hb hby d30_53) rfl rfl ?_
    refine XS.aloadN X4.here hx rfl (hb hby d30_54) rfl rfl ?_
    refine XS.iloadN X4.here hx rfl (hb hby d30_55) rfl ?_
    exact hgo
  have sz0_b2 := hK.1
  obtain ⟨cq7, kq7, q7a, q7b, q7c⟩ := isOf hZ rfl Es
  obtain ⟨_, _, ⟨T7, L7, k7, n7⟩, -, X7, ⟨Lc7, hQ7, l7, y7, z7⟩, st7⟩ := X4.virtualBack hx (y := yn16) (z := yn16) hown (mvT hZ (w 55 rfl)) (mvT hZ (w 56 rfl)) (notFace_of_selects (args := #[]) (mvT hZ (w 58 rfl))) (mvT hZ (w 58 rfl)) (mvT hZ (w 57 rfl)) (by decide) (backOf (W := 0) (rm_app l Z a0 hw [] sb ch zc b1 k1 _ _ T4.heap n0 hZn hOld S_cs hz hch D1 (by have q := own_capinv hM hNn hl (by omega); have q2 := own_capinv hM q.2.1 q.2.2 (by omega); simpa using q2.1)) hZ (w 59 rfl) (w 28 rfl) (by decide) (by decide)) q7a q7c (g := (mkF m 56 #[.val (.ref a1), .val (.ref sb), .val (.int pI), .val (.int ch)] [(.int ch), (.ref sb)])) rfl (by rw [hml]; rfl) (Steps.refl _) (argsL := [(.int ch)]) (rest := []) (lenOf pd_18 rfl) rfl (by show 2 * 0 + _ ≤ _; exact Nat.le_of_eq rfl) (hb hby d30_56) (fun _ _ => ⟨rfl, rfl, (by show cells + 1 + 1 ≤ 12; omega), (by show slots + 12 + 12 ≤ 128; omega)⟩)
  dsimp only [Pt.U, Pt.locs, Pt.cells, Pt.slots] at X7 l7 y7 z7 st7 hQ7
  subst l7 y7 z7
  obtain ⟨rfl, N7q, K7, b2, k2, D2, hb2⟩ := hQ7
  have N7 := Fr.app N4 N7q
  have R8 := Rc.tr R6 st7
  replace hZn := Nat.le_trans hZn K7.1
  replace hK := hK.trans K7 (allS (Or.inl (List.mem_of_getElem? (i := 0) rfl)) (allS (hb1.elim (fun q => by rw [q]; exact (Or.inl (List.mem_of_getElem? (i := 1) rfl))) fun q => Or.inr (Nat.le_trans sz0_b1 q)) all0))
  replace hOld := hOld.keep K7 (allS D1.2.2.2.2.2.2.2.1 (allS D1.2.2.2.2.2.2.2.2 all0))
  replace Es := Es.keep K7
  have R9 : Rc p e below A0 (T7.setTop (mkF m 60 #[.val (.ref a1), .val (.ref sb), .val (.int pI), .val (.int ch)] [])) := by
    intro tgt hgo
    refine R8 tgt ?_
    show Steps p.tables e below (T7.setTop (mkF m 59 #[.val (.ref a1), .val (.ref sb), .val (.int pI), .val (.int ch)] [(.ref sb)])) _
    refine XS.pop X7.here hx rfl (hb hby d30_59) rfl rfl ?_
    exact hgo
  subst hA0
  have q := own_capinv hM hNn hl (by omega)
  have q2 := own_capinv hM q.2.1 q.2.2 (by omega)
  have el : (bs ++ [own_b 92]) ++ [own_b ch] = bs ++ own_esc ch := by simp [own_esc, hsp]
  rw [el] at D2
  exact ⟨_, _, _, b2, k2, _, X7.more (by omega) (by omega), rfl, N7, ⟨D2, by simpa using q2.2.1, by rw [← el]; simpa using q2.2.2, hK, hb2.elim (fun z => z ▸ hb1) fun z => Or.inr (Nat.le_trans sz0_b2 z)⟩, R9⟩
 ·have R10 : Rc p e below A0 (T0.setTop (mkF m 56 #[.val (.ref a1), .val (.ref sb), .val (.int pI), .val (.int ch)] [(.int ch), (.ref sb)])) := by
    intro tgt hgo
    refine R0 tgt ?_
    show Steps p.tables e below (T0.setTop (mkF m 35 #[.val (.ref a1), .val (.ref sb), .val (.int pI), .val (.int ch)] [])) _
    refine XS.iloadN X0.here hx rfl (hb hby d30_35) rfl ?_
    refine XS.bipush X0.here hx rfl (hb hby d30_36) ?_
    refine XS.icmpNo X0.here hx rfl (hb hby d30_38) rfl (feq hq1).1 ?_
    refine XS.iloadN X0.here hx rfl (hb hby d30_41) rfl ?_
    refine XS.bipush X0.here hx rfl (hb hby d30_42) ?_
    refine XS.icmpYes X0.here hx rfl (pc0 := 44) (pc' := 54) rfl (hb hby d30_44) rfl (feq hq2).2 (by decide) (by decide) ?_
    refine XS.aloadN X0.here hx rfl (hb hby d30_54) rfl rfl ?_
    refine XS.iloadN X0.here hx rfl (hb hby d30_55) rfl ?_
    exact hgo
  have sz0_b1 := hK.1
  obtain ⟨cq11, kq11, q11a, q11b, q11c⟩ := isOf hZ e0 Es
  obtain ⟨_, _, ⟨T11, L11, k11, n11⟩, -, X11, ⟨Lc11, hQ11, l11, y11, z11⟩, st11⟩ := X0.virtualBack hx (y := yn16) (z := yn16) hown (mvT hZ (w 55 rfl)) (mvT hZ (w 56 rfl)) (notFace_of_selects (args := #[]) (mvT hZ (w 58 rfl))) (mvT hZ (w 58 rfl)) (mvT hZ (w 57 rfl)) (by decide) (backOf (W := 0) (rm_app l Z a0 hw [] sb ch zc b k N bs h0 n0 hZn hOld S_cs hz hch D0 (own_capinv hM hNn hl (by omega)).1) hZ (w 59 rfl) (w 28 rfl) (by decide) (by decide)) q11a q11c (g := (mkF m 56 #[.val (.ref a1), .val (.ref sb), .val (.int pI), .val (.int ch)] [(.int ch), (.ref sb)])) rfl (by rw [hml]; rfl) (Steps.refl _) (argsL := [(.int ch)]) (rest := []) (lenOf pd_18 rfl) rfl (by show 2 * 0 + _ ≤ _; exact Nat.le_of_eq rfl) (hb hby d30_56) (fun _ _ => ⟨rfl, e0, (by show cells + 0 + 1 ≤ 12; omega), (by show slots + 0 + 12 ≤ 128; omega)⟩)
  dsimp only [Pt.U, Pt.locs, Pt.cells, Pt.slots] at X11 l11 y11 z11 st11 hQ11
  subst l11 y11 z11
  obtain ⟨rfl, N11q, K11, b1, k1, D1, hb1⟩ := hQ11
  have N11 := Fr.app N0 N11q
  have R12 := Rc.tr R10 st11
  replace hZn := Nat.le_trans hZn K11.1
  replace hK := hK.trans K11 (allS (Or.inl (List.mem_of_getElem? (i := 0) rfl)) (allS (Or.inl (List.mem_of_getElem? (i := 1) rfl)) all0))
  replace hOld := hOld.keep K11 (allS D0.2.2.2.2.2.2.2.1 (allS D0.2.2.2.2.2.2.2.2 all0))
  replace Es := Es.keep K11
  have R13 : Rc p e below A0 (T11.setTop (mkF m 60 #[.val (.ref a1), .val (.ref sb), .val (.int pI), .val (.int ch)] [])) := by
    intro tgt hgo
    refine R12 tgt ?_
    show Steps p.tables e below (T11.setTop (mkF m 59 #[.val (.ref a1), .val (.ref sb), .val (.int pI), .val (.int ch)] [(.ref sb)])) _
    refine XS.pop X11.here hx rfl (hb hby d30_59) rfl rfl ?_
    exact hgo
  subst hA0
  have q := own_capinv hM hNn hl (by omega)
  have el : bs ++ [own_b ch] = bs ++ own_esc ch := by simp [own_esc, hsp]
  rw [el] at D1
  exact ⟨_, _, _, b1, k1, _, X11.more (by omega) (by omega), rfl, N11, ⟨D1, q.2.1, by rw [← el]; simpa using q.2.2, hK, hb1⟩, R13⟩
def Qq (Z : State) (bs : List Int32) (h0 : Heap) (n0 : Nat) (v : Option Value) (h : Heap) (L : List Loc) : Prop := (∃ x : Addr, v = some (.ref x) ∧ ∃ (t : Addr) (kt : ClassId), h0.size ≤ x ∧ StrF Z h x t kt bs) ∧ Fr n0 L ∧ Keep h0 h []
theorem own_esc_len (c : Int32) : (own_esc c).length ≤ 2 := by unfold own_esc; split <;> simp
abbrev yn30 : MethodName := ⟨"com/example/stack_check_trimmer/stackchecktrimmer/io/LineTokenizer", "quote", "(Ljava/lang/String;)Ljava/lang/String;"⟩
theorem pn_com_example_stack_check_trimmer_stackchecktrimmer_io_LineTokenizer : plainName "com/example/stack_check_trimmer/stackchecktrimmer/io/LineTokenizer" = true := by first | (simp [plainName, overriddenIn]; done) | decide +kernel
theorem ef_rm_quote0 (m : MethodId) (a1 : Addr) : entryFrame m #[(.ref a1)] 4 = mkF m 0 #[.val (.ref a1), .unset, .unset, .unset] [] := by first | (simp [entryFrame, mkF, argsToLocals, Value.category]; done) | rfl
theorem d30_0 : decode prog_16_method_4_code 0 = .ok (.new 26, 3) := by decide +kernel
theorem d30_3 : decode prog_16_method_4_code 3 = .ok (.dup, 1) := by decide +kernel
theorem d30_4 : decode prog_16_method_4_code 4 = .ok (.aload_n 0, 1) := by decide +kernel
theorem d30_5 : decode prog_16_method_4_code 5 = .ok (.invokevirtual 16, 3) := by decide +kernel
theorem d30_8 : decode prog_16_method_4_code 8 = .ok (.iconst 2, 1) := by decide +kernel
theorem d30_9 : decode prog_16_method_4_code 9 = .ok (.iadd, 1) := by decide +kernel
theorem d30_10 : decode prog_16_method_4_code 10 = .ok (.invokespecial 82, 3) := by decide +kernel
theorem d30_13 : decode prog_16_method_4_code 13 = .ok (.bipush 34, 2) := by decide +kernel
theorem d30_15 : decode prog_16_method_4_code 15 = .ok (.invokevirtual 85, 3) := by decide +kernel
theorem d30_18 : decode prog_16_method_4_code 18 = .ok (.astore_n 1, 1) := by decide +kernel
theorem d30_19 : decode prog_16_method_4_code 19 = .ok (.iconst 0, 1) := by decide +kernel
theorem d30_20 : decode prog_16_method_4_code 20 = .ok (.istore_n 2, 1) := by decide +kernel
theorem d30_21 : decode prog_16_method_4_code 21 = .ok (.iload_n 2, 1) := by decide +kernel
theorem d30_22 : decode prog_16_method_4_code 22 = .ok (.aload_n 0, 1) := by decide +kernel
theorem d30_23 : decode prog_16_method_4_code 23 = .ok (.invokevirtual 16, 3) := by decide +kernel
theorem d30_26 : decode prog_16_method_4_code 26 = .ok (.if_icmp .ge 40, 3) := by decide +kernel
theorem d30_66 : decode prog_16_method_4_code 66 = .ok (.aload_n 1, 1) := by decide +kernel
theorem d30_67 : decode prog_16_method_4_code 67 = .ok (.bipush 34, 2) := by decide +kernel
theorem d30_69 : decode prog_16_method_4_code 69 = .ok (.invokevirtual 85, 3) := by decide +kernel
theorem d30_72 : decode prog_16_method_4_code 72 = .ok (.invokevirtual 50, 3) := by decide +kernel
theorem pd_19 : parseMethodDescriptor "()Ljava/lang/String;" = some ⟨[], some (.object "java/lang/String")⟩ := by decide +kernel
theorem d30_75 : decode prog_16_method_4_code 75 = .ok (.areturn, 1) := by decide +kernel
set_option maxRecDepth 65536 in
set_option maxHeartbeats 40000000 in
theorem rm_quote0 (l : Launch) (Z : State) (a0 : Array Value) (hw : ∀ d ∈ tables_1, d.before a0 Z = true) (ws : List Jvm.Cond) (a1 : Addr) (zc : Int32) (b : Addr) (k : ClassId) (vf : Value) (h0 : Heap) (n0 : Nat) (Z0 : n0 ≤ h0.size) (X00 : Old Z n0 h0) (S_cs : Sta Z Z.heap "java/lang/String" "COMPACT_STRINGS" "Z" (.int zc)) (hz : ¬ zc = 0) (S_f : Sta Z Z.heap "jdk/internal/util/Preconditions" "SIOOBE_FORMATTER" "Ljava/util/function/BiFunction;" vf) (hf : vf.isRef = true) (DS : StrF Z h0 a1 b k ([] : List Int32)) :
    MetFree l yn30 (head1 (Jvm.Cond.code yn30 prog_16_method_4_code 4 (some (.object "java/lang/String")) :: ws) ({ frames := 6, cells := 12, slots := 128, locals := 100 } : Room)) (fun a U => a = #[(.ref a1)] ∧ Z.Warmed39 U.vm ∧ U.heap = h0) (fun _ _ _ _ _ => True) (fun _ U o U' => ∃ v L, o = .returned v ∧ Qq Z (([] ++ [own_b 34]) ++ [own_b 34]) h0 n0 v U'.heap L ∧ FrameEnd U o U' L ({ frames := 6, cells := 12, slots := 128, locals := 100 } : Room).cells ({ frames := 6, cells := 12, slots := 128, locals := 100 } : Room).slots) := by
 refine MetFree.of_bodySF (plainFor_of_name pn_com_example_stack_check_trimmer_stackchecktrimmer_io_LineTokenizer) hisR ?_
 intro p e s m args below meth c s₁ Bd hml0 hP hK
 obtain ⟨rfl, hZ, hh⟩ := hP
 have hx := Bd.exec
 have hby := Bd.bytes
 have hml : c.maxLocals = 4 := hml0
 have hown : s.vm.findClass "com/example/stack_check_trimmer/stackchecktrimmer/io/LineTokenizer" = some m.cls := findClass_of_methodNamed Bd.named
 have hnm := (name_of_methodNamed Bd.named Bd.method).1
 have X0 : Stand p l e ({ frames := 6, cells := 12, slots := 128, locals := 100 } : Room) s m #[(.ref a1)] below meth c s₁ [] 0 0 := Stand.of_body Bd
 have e0 : s₁.heap = h0 := by rw [← hh, Bd.state]; rfl
 have N0 := Fr.nil n0
 obtain ⟨A0, hA0⟩ : ∃ A, A = s₁.setTop (entryFrame m #[(.ref a1)] 4) := ⟨_, rfl⟩
 have R0 : ∀ tgt, Steps p.tables e below (s₁.setTop (mkF m 0 #[.val (.ref a1), .unset, .unset, .unset] [])) tgt → Steps p.tables e below A0 tgt := fun tgt hgo => by rw [hA0]; exact castTop (ef_rm_quote0 m a1) hgo
 have w : ∀ (i : Nat) {d : Jvm.Cond}, tables_1[i]? = some d → d.before a0 Z = true := fun i d h => hw d (List.mem_of_getElem? h)
 obtain ⟨Ea, Fa_c, Fa_v, Va⟩ := DS
 have hZn := Z0
 have hK : Keep h0 h0 [] := Keep.refl _ _
 have hOld := X00
 obtain ⟨T1, h1, X1, e1, E1, A1, D1, -, st1⟩ := newO X0 hx hZ hown (w 26 rfl) (w 27 rfl) (w 28 rfl) e0 (g := (mkF m 0 #[.val (.ref a1), .unset, .unset, .unset] [])) rfl (hb hby d30_0) (by decide) (by decide)
 obtain ⟨sb, g1⟩ : ∃ z, z = h0.size := ⟨_, rfl⟩
 rw [← g1] at A1 D1 st1
 have ne_a1_sb : a1 ≠ sb := Nat.ne_of_lt (Nat.lt_of_lt_of_le Ea.lt (Nat.le_of_eq g1.symm))
 have ne_b_sb : b ≠ sb := Nat.ne_of_lt (Nat.lt_of_lt_of_le Va.lt (Nat.le_of_eq g1.symm))
 have ge_sb : n0 ≤ sb := Nat.le_trans hZn (Nat.le_of_eq g1.symm)
 have sz_sb : h0.size ≤ sb := Nat.le_trans hK.1 (Nat.le_of_eq g1.symm)
 replace hZn := Nat.le_trans hZn E1.1
 replace hK := hK.ext E1
 replace Ea := Ea.ext E1
 replace Fa_c := Fa_c.ext E1
 replace Fa_v := Fa_v.ext E1
 replace Va := Va.ext E1
 replace hOld := hOld.ext E1
 have E_sb := A1
 have F_value_sb : Fld Z h1 sb "java/lang/AbstractStringBuilder" "value" "[B" .null := D1 (Or.inl (w 52 rfl)) (ty := (.array .byte)) (by decide)
 have F_coder_sb : Fld Z h1 sb "java/lang/AbstractStringBuilder" "coder" "B" (.int 0) := D1 (Or.inl (w 54 rfl)) (ty := .byte) (by decide)
 have F_count_sb : Fld Z h1 sb "java/lang/AbstractStringBuilder" "count" "I" (.int 0) := D1 (Or.inl (w 66 rfl)) (ty := .int) (by decide)
 have R2 := Rc.st R0 st1
 have R3 : Rc p e below A0 (T1.setTop (mkF m 5 #[.val (.ref a1), .unset, .unset, .unset] [(.ref a1), (.ref sb), (.ref sb)])) := by
   intro tgt hgo
   refine R2 tgt ?_
   show Steps p.tables e below (T1.setTop (mkF m 3 #[.val (.ref a1), .unset, .unset, .unset] [(.ref sb)])) _
   refine XS.dup X1.here hx rfl (hb hby d30_3) rfl rfl ?_
   refine XS.aloadN X1.here hx rfl (hb hby d30_4) rfl rfl ?_
   exact hgo
 obtain ⟨cq4, kq4, q4a, q4b, q4c⟩ := isOf hZ e1 Ea
 obtain ⟨_, _, ⟨T4, L4, k4, n4⟩, -, X4, ⟨Lc4, hQ4, l4, y4, z4⟩, st4⟩ := X1.virtualBack hx (y := yn1) (z := yn1) hown (mvT hZ (w 29 rfl)) (mvT hZ (w 30 rfl)) (notFace_of_selects (args := #[]) (mvT hZ (w 32 rfl))) (mvT hZ (w 32 rfl)) (mvT hZ (w 31 rfl)) (by decide) (backOf (W := 2) (rm_length l Z a0 hw [] a1 zc b k [] h1 n0 hZn hOld S_cs hz ⟨Ea, Fa_c, Fa_v, Va⟩) hZ (w 33 rfl) (w 3 rfl) (by decide) (by decide)) q4a q4c (g := (mkF m 5 #[.val (.ref a1), .unset, .unset, .unset] [(.ref a1), (.ref sb), (.ref sb)])) rfl (by rw [hml]; rfl) (Steps.refl _) (argsL := []) (rest := [(.ref sb), (.ref sb)]) (lenOf pd_13 rfl) rfl (by show 2 * 0 + _ ≤ _; exact Nat.le_of_eq rfl) (hb hby d30_5) (fun _ _ => ⟨rfl, e1, (by decide : 1 + 0 ≤ _), (by decide : 4 + 0 ≤ _)⟩)
 dsimp only [Pt.U, Pt.locs, Pt.cells, Pt.slots] at X4 l4 y4 z4 st4 hQ4
 subst l4 y4 z4
 obtain ⟨rfl, N4q, e4⟩ := hQ4
 have N4 := Fr.app N0 N4q
 have R5 := Rc.tr R3 st4
 have R6 : Rc p e below A0 (T4.setTop (mkF m 10 #[.val (.ref a1), .unset, .unset, .unset] [(.int 2), (.ref sb), (.ref sb)])) := by
   intro tgt hgo
   refine R5 tgt ?_
   show Steps p.tables e below (T4.setTop (mkF m 8 #[.val (.ref a1), .unset, .unset, .unset] [(.int 0), (.ref sb), (.ref sb)])) _
   refine XS.iconst X4.here hx rfl (hb hby d30_8) ?_
   refine XS.iadd X4.here hx rfl (hb hby d30_9) rfl ?_
   exact hgo
 have lt_a1_i := Ea.lt
 have lt_b_i := Va.lt
 have sz0_i := hK.1
 obtain ⟨_, _, ⟨T7, L7, k7, n7⟩, -, X7, ⟨Lc7, hQ7, l7, y7, z7⟩, st7⟩ := X4.specialBack hx (y := yn18) rfl hown (mvT hZ (w 40 rfl)) (mvT hZ (w 41 rfl)) (mvT hZ (w 42 rfl)) (by decide) (backOf (W := 1) (rm_sbi l Z a0 hw [] sb (2 : Int32) zc 2 h1 n0 hZn rfl (by decide) hOld S_cs hz ge_sb E_sb F_value_sb F_coder_sb F_count_sb) hZ (w 42 rfl) (w 28 rfl) (by decide) (by decide)) (g := (mkF m 10 #[.val (.ref a1), .unset, .unset, .unset] [(.int 2), (.ref sb), (.ref sb)])) rfl (by rw [hml]; rfl) (Steps.refl _) (a := sb) (argsL := [(.int 2)]) (rest := [(.ref sb)]) (lenOf pd_9 rfl) rfl (by show 2 * 0 + _ ≤ _; exact Nat.le_of_eq rfl) (hb hby d30_10) (fun _ _ => ⟨rfl, e4, (by decide : 1 + 1 ≤ _), (by decide : 4 + 5 ≤ _)⟩)
 dsimp only [Pt.U, Pt.locs, Pt.cells, Pt.slots] at X7 l7 y7 z7 st7 hQ7
 subst l7 y7 z7
 obtain ⟨rfl, N7q, K7, b0, k0, D0, hb0⟩ := hQ7
 have N7 := Fr.app N4 N7q
 have R8 := Rc.tr R6 st7
 have ne_a1_b0 : a1 ≠ b0 := Nat.ne_of_lt (Nat.lt_of_lt_of_le lt_a1_i hb0)
 have ne_b_b0 : b ≠ b0 := Nat.ne_of_lt (Nat.lt_of_lt_of_le lt_b_i hb0)
 replace hZn := Nat.le_trans hZn K7.1
 replace hK := hK.trans K7 (allS (Or.inr sz_sb) all0)
 replace Ea := Ea.keep K7
 replace Fa_c := Fa_c.keep K7 (ninS ne_a1_sb nin0)
 replace Fa_v := Fa_v.keep K7 (ninS ne_a1_sb nin0)
 replace Va := Va.keep K7 (ninS ne_b_sb nin0)
 replace hOld := hOld.keep K7 (allS ge_sb all0)
 replace E_sb := E_sb.keep K7
 have R9 : Rc p e below A0 (T7.setTop (mkF m 15 #[.val (.ref a1), .unset, .unset, .unset] [(.int 34), (.ref sb)])) := by
   intro tgt hgo
   refine R8 tgt ?_
   show Steps p.tables e below (T7.setTop (mkF m 13 #[.val (.ref a1), .unset, .unset, .unset] [(.ref sb)])) _
   refine XS.bipush X7.here hx rfl (hb hby d30_13) ?_
   exact hgo
 have lt_a1_b1 := Ea.lt
 have lt_b_b1 := Va.lt
 have sz0_b1 := hK.1
 obtain ⟨cq10, kq10, q10a, q10b, q10c⟩ := isOf hZ rfl E_sb
 obtain ⟨_, _, ⟨T10, L10, k10, n10⟩, -, X10, ⟨Lc10, hQ10, l10, y10, z10⟩, st10⟩ := X7.virtualBack hx (y := yn16) (z := yn16) hown (mvT hZ (w 55 rfl)) (mvT hZ (w 56 rfl)) (notFace_of_selects (args := #[]) (mvT hZ (w 58 rfl))) (mvT hZ (w 58 rfl)) (mvT hZ (w 57 rfl)) (by decide) (backOf (W := 0) (rm_app l Z a0 hw [] sb 34 zc b0 k0 2 [] T7.heap n0 hZn hOld S_cs hz own_c34 D0 (Or.inl ⟨by decide, by decide⟩)) hZ (w 59 rfl) (w 28 rfl) (by decide) (by decide)) q10a q10c (g := (mkF m 15 #[.val (.ref a1), .unset, .unset, .unset] [(.int 34), (.ref sb)])) rfl (by rw [hml]; rfl) (Steps.refl _) (argsL := [(.int 34)]) (rest := []) (lenOf pd_18 rfl) rfl (by show 2 * 0 + _ ≤ _; exact Nat.le_of_eq rfl) (hb hby d30_15) (fun _ _ => ⟨rfl, rfl, (by decide : 2 + 1 ≤ _), (by decide : 9 + 12 ≤ _)⟩)
 dsimp only [Pt.U, Pt.locs, Pt.cells, Pt.slots] at X10 l10 y10 z10 st10 hQ10
 subst l10 y10 z10
 obtain ⟨rfl, N10q, K10, b1, k1, D1, hb1⟩ := hQ10
 have N10 := Fr.app N7 N10q
 have R11 := Rc.tr R9 st10
 have ne_a1_b1 : a1 ≠ b1 := hb1.elim (fun q => by rw [q]; exact ne_a1_b0) fun q => Nat.ne_of_lt (Nat.lt_of_lt_of_le lt_a1_b1 q)
 have ne_b_b1 : b ≠ b1 := hb1.elim (fun q => by rw [q]; exact ne_b_b0) fun q => Nat.ne_of_lt (Nat.lt_of_lt_of_le lt_b_b1 q)
 replace hZn := Nat.le_trans hZn K10.1
 replace hK := hK.trans K10 (allS (Or.inr sz_sb) (allS (Or.inr (Nat.le_trans sz0_i hb0)) all0))
 replace Ea := Ea.keep K10
 replace Fa_c := Fa_c.keep K10 (ninS ne_a1_sb (ninS ne_a1_b0 nin0))
 replace Fa_v := Fa_v.keep K10 (ninS ne_a1_sb (ninS ne_a1_b0 nin0))
 replace Va := Va.keep K10 (ninS ne_b_sb (ninS ne_b_b0 nin0))
 replace hOld := hOld.keep K10 (allS D0.2.2.2.2.2.2.2.1 (allS D0.2.2.2.2.2.2.2.2 all0))
 replace E_sb := E_sb.keep K10
 have R12 : Rc p e below A0 (T10.setTop (mkF m 23 #[.val (.ref a1), .val (.ref sb), .val (.int 0), .unset] [(.ref a1), (.int 0)])) := by
   intro tgt hgo
   refine R11 tgt ?_
   show Steps p.tables e below (T10.setTop (mkF m 18 #[.val (.ref a1), .unset, .unset, .unset] [(.ref sb)])) _
   refine XS.astoreN X10.here hx rfl (hb hby d30_18) rfl rfl (l' := #[.val (.ref a1), .val (.ref sb), .unset, .unset]) rfl ?_
   refine XS.iconst X10.here hx rfl (hb hby d30_19) ?_
   refine XS.istoreN X10.here hx rfl (hb hby d30_20) rfl (l' := #[.val (.ref a1), .val (.ref sb), .val (.int 0), .unset]) rfl ?_
   refine XS.iloadN X10.here hx rfl (hb hby d30_21) rfl ?_
   refine XS.aloadN X10.here hx rfl (hb hby d30_22) rfl rfl ?_
   exact hgo
 obtain ⟨cq13, kq13, q13a, q13b, q13c⟩ := isOf hZ rfl Ea
 obtain ⟨_, _, ⟨T13, L13, k13, n13⟩, -, X13, ⟨Lc13, hQ13, l13, y13, z13⟩, st13⟩ := X10.virtualBack hx (y := yn1) (z := yn1) hown (mvT hZ (w 29 rfl)) (mvT hZ (w 30 rfl)) (notFace_of_selects (args := #[]) (mvT hZ (w 32 rfl))) (mvT hZ (w 32 rfl)) (mvT hZ (w 31 rfl)) (by decide) (backOf (W := 1) (rm_length l Z a0 hw [] a1 zc b k [] T10.heap n0 hZn hOld S_cs hz ⟨Ea, Fa_c, Fa_v, Va⟩) hZ (w 33 rfl) (w 3 rfl) (by decide) (by decide)) q13a q13c (g := (mkF m 23 #[.val (.ref a1), .val (.ref sb), .val (.int 0), .unset] [(.ref a1), (.int 0)])) rfl (by rw [hml]; rfl) (Steps.refl _) (argsL := []) (rest := [(.int 0)]) (lenOf pd_13 rfl) rfl (by show 2 * 0 + _ ≤ _; exact Nat.le_of_eq rfl) (hb hby d30_23) (fun _ _ => ⟨rfl, rfl, (by decide : 3 + 0 ≤ _), (by decide : 21 + 0 ≤ _)⟩)
 dsimp only [Pt.U, Pt.locs, Pt.cells, Pt.slots] at X13 l13 y13 z13 st13 hQ13
 subst l13 y13 z13
 obtain ⟨rfl, N13q, e13⟩ := hQ13
 have N13 := Fr.app N10 N13q
 have R14 := Rc.tr R12 st13
 have R15 : Rc p e below A0 (T13.setTop (mkF m 69 #[.val (.ref a1), .val (.ref sb), .val (.int 0), .unset] [(.int 34), (.ref sb)])) := by
   intro tgt hgo
   refine R14 tgt ?_
   show Steps p.tables e below (T13.setTop (mkF m 26 #[.val (.ref a1), .val (.ref sb), .val (.int 0), .unset] [(.int 0), (.int 0)])) _
   refine XS.icmpYes X13.here hx rfl (pc0 := 26) (pc' := 66) rfl (hb hby d30_26) rfl (flt (by decide : ¬ ((0 : Int32) < (0 : Int32)))).2.1 (by decide) (by decide) ?_
   refine XS.aloadN X13.here hx rfl (hb hby d30_66) rfl rfl ?_
   refine XS.bipush X13.here hx rfl (hb hby d30_67) ?_
   exact hgo
 have lt_a1_bz := Ea.lt
 have lt_b_bz := Va.lt
 have sz0_bz := hK.1
 obtain ⟨cq16, kq16, q16a, q16b, q16c⟩ := isOf hZ e13 E_sb
 obtain ⟨_, _, ⟨T16, L16, k16, n16⟩, -, X16, ⟨Lc16, hQ16, l16, y16, z16⟩, st16⟩ := X13.virtualBack hx (y := yn16) (z := yn16) hown (mvT hZ (w 55 rfl)) (mvT hZ (w 56 rfl)) (notFace_of_selects (args := #[]) (mvT hZ (w 58 rfl))) (mvT hZ (w 58 rfl)) (mvT hZ (w 57 rfl)) (by decide) (backOf (W := 0) (rm_app l Z a0 hw [] sb 34 zc b1 k1 _ ([] ++ [own_b 34]) T10.heap n0 hZn hOld S_cs hz own_c34 D1 (Or.inl ⟨by decide, by decide⟩)) hZ (w 59 rfl) (w 28 rfl) (by decide) (by decide)) q16a q16c (g := (mkF m 69 #[.val (.ref a1), .val (.ref sb), .val (.int 0), .unset] [(.int 34), (.ref sb)])) rfl (by rw [hml]; rfl) (Steps.refl _) (argsL := [(.int 34)]) (rest := []) (lenOf pd_18 rfl) rfl (by show 2 * 0 + _ ≤ _; exact Nat.le_of_eq rfl) (hb hby d30_69) (fun _ _ => ⟨rfl, e13, (by decide : 3 + 1 ≤ _), (by decide : 21 + 12 ≤ _)⟩)
 dsimp only [Pt.U, Pt.locs, Pt.cells, Pt.slots] at X16 l16 y16 z16 st16 hQ16
 subst l16 y16 z16
 obtain ⟨rfl, N16q, K16, bz, kz, Dz, hbz⟩ := hQ16
 have N16 := Fr.app N13 N16q
 have R17 := Rc.tr R15 st16
 have ne_a1_bz : a1 ≠ bz := hbz.elim (fun q => by rw [q]; exact ne_a1_b1) fun q => Nat.ne_of_lt (Nat.lt_of_lt_of_le lt_a1_bz q)
 have ne_b_bz : b ≠ bz := hbz.elim (fun q => by rw [q]; exact ne_b_b1) fun q => Nat.ne_of_lt (Nat.lt_of_lt_of_le lt_b_bz q)
 replace hZn := Nat.le_trans hZn K16.1
 replace hK := hK.trans K16 (allS (Or.inr sz_sb) (allS (hb1.elim (fun q => by rw [q]; exact (Or.inr (Nat.le_trans sz0_i hb0))) fun q => Or.inr (Nat.le_trans sz0_b1 q)) all0))
 replace Ea := Ea.keep K16
 replace Fa_c := Fa_c.keep K16 (ninS ne_a1_sb (ninS ne_a1_b1 nin0))
 replace Fa_v := Fa_v.keep K16 (ninS ne_a1_sb (ninS ne_a1_b1 nin0))
 replace Va := Va.keep K16 (ninS ne_b_sb (ninS ne_b_b1 nin0))
 replace hOld := hOld.keep K16 (allS D1.2.2.2.2.2.2.2.1 (allS D1.2.2.2.2.2.2.2.2 all0))
 replace E_sb := E_sb.keep K16
 have sz0_z := hK.1
 obtain ⟨cq18, kq18, q18a, q18b, q18c⟩ := isOf hZ rfl E_sb
 obtain ⟨_, _, ⟨T18, L18, k18, n18⟩, -, X18, ⟨Lc18, hQ18, l18, y18, z18⟩, st18⟩ := X16.virtualBack hx (y := yn27) (z := yn27) hown (mvT hZ (w 81 rfl)) (mvT hZ (w 82 rfl)) (notFace_of_selects (args := #[]) (mvT hZ (w 84 rfl))) (mvT hZ (w 84 rfl)) (mvT hZ (w 83 rfl)) (by decide) (backOf (W := 0) (rm_ts l Z a0 hw [] sb zc bz kz _ (([] ++ [own_b 34]) ++ [own_b 34]) T16.heap n0 hZn hOld S_cs hz Dz (by decide) (by decide)) hZ (w 85 rfl) (w 28 rfl) (by decide) (by decide)) q18a q18c (g := (mkF m 72 #[.val (.ref a1), .val (.ref sb), .val (.int 0), .unset] [(.ref sb)])) rfl (by rw [hml]; rfl) (Steps.refl _) (argsL := []) (rest := []) (lenOf pd_19 rfl) rfl (by show 2 * 0 + _ ≤ _; exact Nat.le_of_eq rfl) (hb hby d30_72) (fun _ _ => ⟨rfl, rfl, (by decide : 4 + 2 ≤ _), (by decide : 33 + 16 ≤ _)⟩)
 dsimp only [Pt.U, Pt.locs, Pt.cells, Pt.slots] at X18 l18 y18 z18 st18 hQ18
 subst l18 y18 z18
 obtain ⟨⟨x18, rfl, tt, ktt, szx, SFx⟩, N18q, K18⟩ := hQ18
 have N18 := Fr.app N16 N18q
 have R19 := Rc.tr R17 st18
 replace hZn := Nat.le_trans hZn K18.1
 replace hK := hK.trans K18 all0
 replace Ea := Ea.keep K18
 replace Fa_c := Fa_c.keep K18 nin0
 replace Fa_v := Fa_v.keep K18 nin0
 replace Va := Va.keep K18 nin0
 replace hOld := hOld.keep K18 all0
 replace E_sb := E_sb.keep K18
 subst hA0
 obtain ⟨fs, hr, hrun, hended, hW, hsame⟩ := X18.leave (v := some (.ref x18)) (fun h => by rw [Bd.returns] at h; cases h)
 refine ⟨_, _, R19 _ ?_, hrun, hended, _, _, rfl, ?_, ⟨_, rfl⟩, hW, hsame.mono (by decide) (by decide)⟩
 ·show Steps p.tables e below (T18.setTop (mkF m 75 #[.val (.ref a1), .val (.ref sb), .val (.int 0), .unset] [(.ref x18)])) _
  jvm_step X18.here [X18.here.top, hx, (hb hby d30_75), X18.method', Bd.returns, Value.isRef, FieldType.isReference]
  first | (intro acts; rw [hr _ acts rfl rfl rfl]) | rw [hr _ _ rfl rfl rfl]
  exact Steps.refl _
 ·show Qq Z (([] ++ [own_b 34]) ++ [own_b 34]) h0 n0 _ T18.heap _
  exact ⟨⟨x18, rfl, tt, ktt, Nat.le_trans sz0_z szx, SFx⟩, N18, hK⟩
theorem ef_rm_quote1 (m : MethodId) (a1 : Addr) : entryFrame m #[(.ref a1)] 4 = mkF m 0 #[.val (.ref a1), .unset, .unset, .unset] [] := by first | (simp [entryFrame, mkF, argsToLocals, Value.category]; done) | rfl
theorem d30_29 : decode prog_16_method_4_code 29 = .ok (.aload_n 0, 1) := by decide +kernel
theorem d30_30 : decode prog_16_method_4_code 30 = .ok (.iload_n 2, 1) := by decide +kernel
theorem d30_31 : decode prog_16_method_4_code 31 = .ok (.invokevirtual 22, 3) := by decide +kernel
theorem d30_34 : decode prog_16_method_4_code 34 = .ok (.istore_n 3, 1) := by decide +kernel
theorem d30_60 : decode prog_16_method_4_code 60 = .ok (.iinc 2 1, 3) := by decide +kernel
theorem d30_63 : decode prog_16_method_4_code 63 = .ok (.goto (-42), 3) := by decide +kernel
set_option maxRecDepth 65536 in
set_option maxHeartbeats 40000000 in
theorem rm_quote1 (l : Launch) (Z : State) (a0 : Array Value) (hw : ∀ d ∈ tables_1, d.before a0 Z = true) (ws : List Jvm.Cond) (a1 : Addr) (c0 : Int32) (zc : Int32) (b : Addr) (k : ClassId) (vf : Value) (h0 : Heap) (n0 : Nat) (Z0 : n0 ≤ h0.size) (X00 : Old Z n0 h0) (S_cs : Sta Z Z.heap "java/lang/String" "COMPACT_STRINGS" "Z" (.int zc)) (hz : ¬ zc = 0) (S_f : Sta Z Z.heap "jdk/internal/util/Preconditions" "SIOOBE_FORMATTER" "Ljava/util/function/BiFunction;" vf) (hf : vf.isRef = true) (hc0 : own_ch c0) (DS : StrF Z h0 a1 b k [own_b c0]) :
    MetFree l yn30 (head1 (Jvm.Cond.code yn30 prog_16_method_4_code 4 (some (.object "java/lang/String")) :: ws) ({ frames := 6, cells := 12, slots := 128, locals := 100 } : Room)) (fun a U => a = #[(.ref a1)] ∧ Z.Warmed39 U.vm ∧ U.heap = h0) (fun _ _ _ _ _ => True) (fun _ U o U' => ∃ v L, o = .returned v ∧ Qq Z ((([] ++ [own_b 34]) ++ own_esc c0) ++ [own_b 34]) h0 n0 v U'.heap L ∧ FrameEnd U o U' L ({ frames := 6, cells := 12, slots := 128, locals := 100 } : Room).cells ({ frames := 6, cells := 12, slots := 128, locals := 100 } : Room).slots) := by
 refine MetFree.of_bodySF (plainFor_of_name pn_com_example_stack_check_trimmer_stackchecktrimmer_io_LineTokenizer) hisR ?_
 intro p e s m args below meth c s₁ Bd hml0 hP hK
 obtain ⟨rfl, hZ, hh⟩ := hP
 have hx := Bd.exec
 have hby := Bd.bytes
 have hml : c.maxLocals = 4 := hml0
 have hown : s.vm.findClass "com/example/stack_check_trimmer/stackchecktrimmer/io/LineTokenizer" = some m.cls := findClass_of_methodNamed Bd.named
 have hnm := (name_of_methodNamed Bd.named Bd.method).1
 have X0 : Stand p l e ({ frames := 6, cells := 12, slots := 128, locals := 100 } : Room) s m #[(.ref a1)] below meth c s₁ [] 0 0 := Stand.of_body Bd
 have e0 : s₁.heap = h0 := by rw [← hh, Bd.state]; rfl
 have N0 := Fr.nil n0
 obtain ⟨A0, hA0⟩ : ∃ A, A = s₁.setTop (entryFrame m #[(.ref a1)] 4) := ⟨_, rfl⟩
 have R0 : ∀ tgt, Steps p.tables e below (s₁.setTop (mkF m 0 #[.val (.ref a1), .unset, .unset, .unset] [])) tgt → Steps p.tables e below A0 tgt := fun tgt hgo => by rw [hA0]; exact castTop (ef_rm_quote1 m a1) hgo
 have w : ∀ (i : Nat) {d : Jvm.Cond}, tables_1[i]? = some d → d.before a0 Z = true := fun i d h => hw d (List.mem_of_getElem? h)
 obtain ⟨Ea, Fa_c, Fa_v, Va⟩ := DS
 have hZn := Z0
 have hK : Keep h0 h0 [] := Keep.refl _ _
 have hOld := X00
 obtain ⟨T1, h1, X1, e1, E1, A1, D1, -, st1⟩ := newO X0 hx hZ hown (w 26 rfl) (w 27 rfl) (w 28 rfl) e0 (g := (mkF m 0 #[.val (.ref a1), .unset, .unset, .unset] [])) rfl (hb hby d30_0) (by decide) (by decide)
 obtain ⟨sb, g1⟩ : ∃ z, z = h0.size := ⟨_, rfl⟩
 rw [← g1] at A1 D1 st1
 have ne_a1_sb : a1 ≠ sb := Nat.ne_of_lt (Nat.lt_of_lt_of_le Ea.lt (Nat.le_of_eq g1.symm))
 have ne_b_sb : b ≠ sb := Nat.ne_of_lt (Nat.lt_of_lt_of_le Va.lt (Nat.le_of_eq g1.symm))
 have ge_sb : n0 ≤ sb := Nat.le_trans hZn (Nat.le_of_eq g1.symm)
 have sz_sb : h0.size ≤ sb := Nat.le_trans hK.1 (Nat.le_of_eq g1.symm)
 replace hZn := Nat.le_trans hZn E1.1
 replace hK := hK.ext E1
 replace Ea := Ea.ext E1
 replace Fa_c := Fa_c.ext E1
 replace Fa_v := Fa_v.ext E1
 replace Va := Va.ext E1
 replace hOld := hOld.ext E1
 have E_sb := A1
 have F_value_sb : Fld Z h1 sb "java/lang/AbstractStringBuilder" "value" "[B" .null := D1 (Or.inl (w 52 rfl)) (ty := (.array .byte)) (by decide)
 have F_coder_sb : Fld Z h1 sb "java/lang/AbstractStringBuilder" "coder" "B" (.int 0) := D1 (Or.inl (w 54 rfl)) (ty := .byte) (by decide)
 have F_count_sb : Fld Z h1 sb "java/lang/AbstractStringBuilder" "count" "I" (.int 0) := D1 (Or.inl (w 66 rfl)) (ty := .int) (by decide)
 have R2 := Rc.st R0 st1
 have R3 : Rc p e below A0 (T1.setTop (mkF m 5 #[.val (.ref a1), .unset, .unset, .unset] [(.ref a1), (.ref sb), (.ref sb)])) := by
   intro tgt hgo
   refine R2 tgt ?_
   show Steps p.tables e below (T1.setTop (mkF m 3 #[.val (.ref a1), .unset, .unset, .unset] [(.ref sb)])) _
   refine XS.dup X1.here hx rfl (hb hby d30_3) rfl rfl ?_
   refine XS.aloadN X1.here hx rfl (hb hby d30_4) rfl rfl ?_
   exact hgo
 obtain ⟨cq4, kq4, q4a, q4b, q4c⟩ := isOf hZ e1 Ea
 obtain ⟨_, _, ⟨T4, L4, k4, n4⟩, -, X4, ⟨Lc4, hQ4, l4, y4, z4⟩, st4⟩ := X1.virtualBack hx (y := yn1) (z := yn1) hown (mvT hZ (w 29 rfl)) (mvT hZ (w 30 rfl)) (notFace_of_selects (args := #[]) (mvT hZ (w 32 rfl))) (mvT hZ (w 32 rfl)) (mvT hZ (w 31 rfl)) (by decide) (backOf (W := 2) (rm_length l Z a0 hw [] a1 zc b k [own_b c0] h1 n0 hZn hOld S_cs hz ⟨Ea, Fa_c, Fa_v, Va⟩) hZ (w 33 rfl) (w 3 rfl) (by decide) (by decide)) q4a q4c (g := (mkF m 5 #[.val (.ref a1), .unset, .unset, .unset] [(.ref a1), (.ref sb), (.ref sb)])) rfl (by rw [hml]; rfl) (Steps.refl _) (argsL := []) (rest := [(.ref sb), (.ref sb)]) (lenOf pd_13 rfl) rfl (by show 2 * 0 + _ ≤ _; exact Nat.le_of_eq rfl) (hb hby d30_5) (fun _ _ => ⟨rfl, e1, (by decide : 1 + 0 ≤ _), (by decide : 4 + 0 ≤ _)⟩)
 dsimp only [Pt.U, Pt.locs, Pt.cells, Pt.slots] at X4 l4 y4 z4 st4 hQ4
 subst l4 y4 z4
 obtain ⟨rfl, N4q, e4⟩ := hQ4
 have N4 := Fr.app N0 N4q
 have R5 := Rc.tr R3 st4
 have R6 : Rc p e below A0 (T4.setTop (mkF m 10 #[.val (.ref a1), .unset, .unset, .unset] [(.int 3), (.ref sb), (.ref sb)])) := by
   intro tgt hgo
   refine R5 tgt ?_
   show Steps p.tables e below (T4.setTop (mkF m 8 #[.val (.ref a1), .unset, .unset, .unset] [(.int 1), (.ref sb), (.ref sb)])) _
   refine XS.iconst X4.here hx rfl (hb hby d30_8) ?_
   refine XS.iadd X4.here hx rfl (hb hby d30_9) rfl ?_
   exact hgo
 have lt_a1_i := Ea.lt
 have lt_b_i := Va.lt
 have sz0_i := hK.1
 obtain ⟨_, _, ⟨T7, L7, k7, n7⟩, -, X7, ⟨Lc7, hQ7, l7, y7, z7⟩, st7⟩ := X4.specialBack hx (y := yn18) rfl hown (mvT hZ (w 40 rfl)) (mvT hZ (w 41 rfl)) (mvT hZ (w 42 rfl)) (by decide) (backOf (W := 1) (rm_sbi l Z a0 hw [] sb (3 : Int32) zc 3 h1 n0 hZn rfl (by decide) hOld S_cs hz ge_sb E_sb F_value_sb F_coder_sb F_count_sb) hZ (w 42 rfl) (w 28 rfl) (by decide) (by decide)) (g := (mkF m 10 #[.val (.ref a1), .unset, .unset, .unset] [(.int 3), (.ref sb), (.ref sb)])) rfl (by rw [hml]; rfl) (Steps.refl _) (a := sb) (argsL := [(.int 3)]) (rest := [(.ref sb)]) (lenOf pd_9 rfl) rfl (by show 2 * 0 + _ ≤ _; exact Nat.le_of_eq rfl) (hb hby d30_10) (fun _ _ => ⟨rfl, e4, (by decide : 1 + 1 ≤ _), (by decide : 4 + 5 ≤ _)⟩)
 dsimp only [Pt.U, Pt.locs, Pt.cells, Pt.slots] at X7 l7 y7 z7 st7 hQ7
 subst l7 y7 z7
 obtain ⟨rfl, N7q, K7, b0, k0, D0, hb0⟩ := hQ7
 have N7 := Fr.app N4 N7q
 have R8 := Rc.tr R6 st7
 have ne_a1_b0 : a1 ≠ b0 := Nat.ne_of_lt (Nat.lt_of_lt_of_le lt_a1_i hb0)
 have ne_b_b0 : b ≠ b0 := Nat.ne_of_lt (Nat.lt_of_lt_of_le lt_b_i hb0)
 replace hZn := Nat.le_trans hZn K7.1
 replace hK := hK.trans K7 (allS (Or.inr sz_sb) all0)
 replace Ea := Ea.keep K7
 replace Fa_c := Fa_c.keep K7 (ninS ne_a1_sb nin0)
 replace Fa_v := Fa_v.keep K7 (ninS ne_a1_sb nin0)
 replace Va := Va.keep K7 (ninS ne_b_sb nin0)
 replace hOld := hOld.keep K7 (allS ge_sb all0)
 replace E_sb := E_sb.keep K7
 have R9 : Rc p e below A0 (T7.setTop (mkF m 15 #[.val (.ref a1), .unset, .unset, .unset] [(.int 34), (.ref sb)])) := by
   intro tgt hgo
   refine R8 tgt ?_
   show Steps p.tables e below (T7.setTop (mkF m 13 #[.val (.ref a1), .unset, .unset, .unset] [(.ref sb)])) _
   refine XS.bipush X7.here hx rfl (hb hby d30_13) ?_
   exact hgo
 have lt_a1_b1 := Ea.lt
 have lt_b_b1 := Va.lt
 have sz0_b1 := hK.1
 obtain ⟨cq10, kq10, q10a, q10b, q10c⟩ := isOf hZ rfl E_sb
 obtain ⟨_, _, ⟨T10, L10, k10, n10⟩, -, X10, ⟨Lc10, hQ10, l10, y10, z10⟩, st10⟩ := X7.virtualBack hx (y := yn16) (z := yn16) hown (mvT hZ (w 55 rfl)) (mvT hZ (w 56 rfl)) (notFace_of_selects (args := #[]) (mvT hZ (w 58 rfl))) (mvT hZ (w 58 rfl)) (mvT hZ (w 57 rfl)) (by decide) (backOf (W := 0) (rm_app l Z a0 hw [] sb 34 zc b0 k0 3 [] T7.heap n0 hZn hOld S_cs hz own_c34 D0 (Or.inl ⟨by decide, by decide⟩)) hZ (w 59 rfl) (w 28 rfl) (by decide) (by decide)) q10a q10c (g := (mkF m 15 #[.val (.ref a1), .unset, .unset, .unset] [(.int 34), (.ref sb)])) rfl (by rw [hml]; rfl) (Steps.refl _) (argsL := [(.int 34)]) (rest := []) (lenOf pd_18 rfl) rfl (by show 2 * 0 + _ ≤ _; exact Nat.le_of_eq rfl) (hb hby d30_15) (fun _ _ => ⟨rfl, rfl, (by decide : 2 + 1 ≤ _), (by decide : 9 + 12 ≤ _)⟩)
 dsimp only [Pt.U, Pt.locs, Pt.cells, Pt.slots] at X10 l10 y10 z10 st10 hQ10
 subst l10 y10 z10
 obtain ⟨rfl, N10q, K10, b1, k1, D1, hb1⟩ := hQ10
 have N10 := Fr.app N7 N10q
 have R11 := Rc.tr R9 st10
 have ne_a1_b1 : a1 ≠ b1 := hb1.elim (fun q => by rw [q]; exact ne_a1_b0) fun q => Nat.ne_of_lt (Nat.lt_of_lt_of_le lt_a1_b1 q)
 have ne_b_b1 : b ≠ b1 := hb1.elim (fun q => by rw [q]; exact ne_b_b0) fun q => Nat.ne_of_lt (Nat.lt_of_lt_of_le lt_b_b1 q)
 replace hZn := Nat.le_trans hZn K10.1
 replace hK := hK.trans K10 (allS (Or.inr sz_sb) (allS (Or.inr (Nat.le_trans sz0_i hb0)) all0))
 replace Ea := Ea.keep K10
 replace Fa_c := Fa_c.keep K10 (ninS ne_a1_sb (ninS ne_a1_b0 nin0))
 replace Fa_v := Fa_v.keep K10 (ninS ne_a1_sb (ninS ne_a1_b0 nin0))
 replace Va := Va.keep K10 (ninS ne_b_sb (ninS ne_b_b0 nin0))
 replace hOld := hOld.keep K10 (allS D0.2.2.2.2.2.2.2.1 (allS D0.2.2.2.2.2.2.2.2 all0))
 replace E_sb := E_sb.keep K10
 have R12 : Rc p e below A0 (T10.setTop (mkF m 23 #[.val (.ref a1), .val (.ref sb), .val (.int 0), .unset] [(.ref a1), (.int 0)])) := by
   intro tgt hgo
   refine R11 tgt ?_
   show Steps p.tables e below (T10.setTop (mkF m 18 #[.val (.ref a1), .unset, .unset, .unset] [(.ref sb)])) _
   refine XS.astoreN X10.here hx rfl (hb hby d30_18) rfl rfl (l' := #[.val (.ref a1), .val (.ref sb), .unset, .unset]) rfl ?_
   refine XS.iconst X10.here hx rfl (hb hby d30_19) ?_
   refine XS.istoreN X10.here hx rfl (hb hby d30_20) rfl (l' := #[.val (.ref a1), .val (.ref sb), .val (.int 0), .unset]) rfl ?_
   refine XS.iloadN X10.here hx rfl (hb hby d30_21) rfl ?_
   refine XS.aloadN X10.here hx rfl (hb hby d30_22) rfl rfl ?_
   exact hgo
 obtain ⟨cq13, kq13, q13a, q13b, q13c⟩ := isOf hZ rfl Ea
 obtain ⟨_, _, ⟨T13, L13, k13, n13⟩, -, X13, ⟨Lc13, hQ13, l13, y13, z13⟩, st13⟩ := X10.virtualBack hx (y := yn1) (z := yn1) hown (mvT hZ (w 29 rfl)) (mvT hZ (w 30 rfl)) (notFace_of_selects (args := #[]) (mvT hZ (w 32 rfl))) (mvT hZ (w 32 rfl)) (mvT hZ (w 31 rfl)) (by decide) (backOf (W := 1) (rm_length l Z a0 hw [] a1 zc b k [own_b c0] T10.heap n0 hZn hOld S_cs hz ⟨Ea, Fa_c, Fa_v, Va⟩) hZ (w 33 rfl) (w 3 rfl) (by decide) (by decide)) q13a q13c (g := (mkF m 23 #[.val (.ref a1), .val (.ref sb), .val (.int 0), .unset] [(.ref a1), (.int 0)])) rfl (by rw [hml]; rfl) (Steps.refl _) (argsL := []) (rest := [(.int 0)]) (lenOf pd_13 rfl) rfl (by show 2 * 0 + _ ≤ _; exact Nat.le_of_eq rfl) (hb hby d30_23) (fun _ _ => ⟨rfl, rfl, (by decide : 3 + 0 ≤ _), (by decide : 21 + 0 ≤ _)⟩)
 dsimp only [Pt.U, Pt.locs, Pt.cells, Pt.slots] at X13 l13 y13 z13 st13 hQ13
 subst l13 y13 z13
 obtain ⟨rfl, N13q, e13⟩ := hQ13
 have N13 := Fr.app N10 N13q
 have R14 := Rc.tr R12 st13
 have R15 : Rc p e below A0 (T13.setTop (mkF m 31 #[.val (.ref a1), .val (.ref sb), .val (.int 0), .unset] [(.int 0), (.ref a1)])) := by
   intro tgt hgo
   refine R14 tgt ?_
   show Steps p.tables e below (T13.setTop (mkF m 26 #[.val (.ref a1), .val (.ref sb), .val (.int 0), .unset] [(.int 1), (.int 0)])) _
   refine XS.icmpNo X13.here hx rfl (hb hby d30_26) rfl (tlt (by decide : (0 : Int32) < (1 : Int32))).2.1 ?_
   refine XS.aloadN X13.here hx rfl (hb hby d30_29) rfl rfl ?_
   refine XS.iloadN X13.here hx rfl (hb hby d30_30) rfl ?_
   exact hgo
 obtain ⟨cq16, kq16, q16a, q16b, q16c⟩ := isOf hZ e13 Ea
 obtain ⟨_, _, ⟨T16, L16, k16, n16⟩, -, X16, ⟨Lc16, hQ16, l16, y16, z16⟩, st16⟩ := X13.virtualBack hx (y := yn6) (z := yn6) hown (mvT hZ (w 152 rfl)) (mvT hZ (w 122 rfl)) (notFace_of_selects (args := #[]) (mvT hZ (w 124 rfl))) (mvT hZ (w 124 rfl)) (mvT hZ (w 123 rfl)) (by decide) (backOf (W := 0) (rm_charAt l Z a0 hw [] a1 (0 : Int32) zc b k [own_b c0] 0 c0 vf T10.heap n0 hZn rfl hOld S_cs hz S_f hf (by decide) (by show Int32.ofNat 0 < Int32.ofNat 1; decide) rfl hc0 ⟨Ea, Fa_c, Fa_v, Va⟩) hZ (w 125 rfl) (w 3 rfl) (by decide) (by decide)) q16a q16c (g := (mkF m 31 #[.val (.ref a1), .val (.ref sb), .val (.int 0), .unset] [(.int 0), (.ref a1)])) rfl (by rw [hml]; rfl) (Steps.refl _) (argsL := [(.int 0)]) (rest := []) (lenOf pd_17 rfl) rfl (by show 2 * 0 + _ ≤ _; exact Nat.le_of_eq rfl) (hb hby d30_31) (fun _ _ => ⟨rfl, e13, (by decide : 3 + 0 ≤ _), (by decide : 21 + 0 ≤ _)⟩)
 dsimp only [Pt.U, Pt.locs, Pt.cells, Pt.slots] at X16 l16 y16 z16 st16 hQ16
 subst l16 y16 z16
 obtain ⟨rfl, N16q, e16⟩ := hQ16
 have N16 := Fr.app N13 N16q
 have R17 := Rc.tr R15 st16
 have R18 : Rc p e below A0 (T16.setTop (mkF m 35 #[.val (.ref a1), .val (.ref sb), .val (.int 0), .val (.int c0)] [])) := by
   intro tgt hgo
   refine R17 tgt ?_
   show Steps p.tables e below (T16.setTop (mkF m 34 #[.val (.ref a1), .val (.ref sb), .val (.int 0), .unset] [(.int c0)])) _
   refine XS.istoreN X16.here hx rfl (hb hby d30_34) rfl (l' := #[.val (.ref a1), .val (.ref sb), .val (.int 0), .val (.int c0)]) rfl ?_
   exact hgo
 have hM : 3 ≤ 3 ∧ 3 ≤ 5 := by decide
 have hNn : own_cap 0 3 = 3 ∨ own_cap 0 3 = 2 * 3 + 2 := Or.inl rfl
 have hl : (([] ++ [own_b 34])).length ≤ own_cap 0 3 := by decide
 have hlb : (([] ++ [own_b 34])).length ≤ 1 := by decide
 have lt_a1_b2 := Ea.lt
 have lt_b_b2 := Va.lt
 have sz0_b2 := hK.1
 obtain ⟨T19, h19, L19, b2, k19, N19', X19, e19, N19, ⟨D19, hNn19, hl19, K19, hb19⟩, st19⟩ := seg_q a1 sb (0 : Int32) c0 zc b1 k1 _ 3 ([] ++ [own_b 34]) X16 hx hZ hw hby hml hown e16 hZn N16 hOld S_cs hz hc0 D1 hM hNn hl (by have := hlb; omega) (by decide)
 replace hNn := hNn19
 replace hl := hl19
 replace hlb : ((([] ++ [own_b 34]) ++ own_esc c0)).length ≤ 3 := by rw [List.length_append]; have := own_esc_len c0; omega
 have ne_a1_b2 : a1 ≠ b2 := hb19.elim (fun q => by rw [q]; exact ne_a1_b1) fun q => Nat.ne_of_lt (Nat.lt_of_lt_of_le lt_a1_b2 q)
 have ne_b_b2 : b ≠ b2 := hb19.elim (fun q => by rw [q]; exact ne_b_b1) fun q => Nat.ne_of_lt (Nat.lt_of_lt_of_le lt_b_b2 q)
 replace hZn := Nat.le_trans hZn K19.1
 replace hK := hK.trans K19 (allS (Or.inr sz_sb) (allS (hb1.elim (fun q => by rw [q]; exact (Or.inr (Nat.le_trans sz0_i hb0))) fun q => Or.inr (Nat.le_trans sz0_b1 q)) all0))
 replace Ea := Ea.keep K19
 replace Fa_c := Fa_c.keep K19 (ninS ne_a1_sb (ninS ne_a1_b1 nin0))
 replace Fa_v := Fa_v.keep K19 (ninS ne_a1_sb (ninS ne_a1_b1 nin0))
 replace Va := Va.keep K19 (ninS ne_b_sb (ninS ne_b_b1 nin0))
 replace hOld := hOld.keep K19 (allS D1.2.2.2.2.2.2.2.1 (allS D1.2.2.2.2.2.2.2.2 all0))
 replace E_sb := E_sb.keep K19
 have R20 := Rc.st R18 st19
 have R21 : Rc p e below A0 (T19.setTop (mkF m 23 #[.val (.ref a1), .val (.ref sb), .val (.int 1), .val (.int c0)] [(.ref a1), (.int 1)])) := by
   intro tgt hgo
   refine R20 tgt ?_
   show Steps p.tables e below (T19.setTop (mkF m 60 #[.val (.ref a1), .val (.ref sb), .val (.int 0), .val (.int c0)] [])) _
   refine XS.iinc X19.here hx rfl (hb hby d30_60) rfl (l' := #[.val (.ref a1), .val (.ref sb), .val (.int 1), .val (.int c0)]) rfl ?_
   refine XS.goto X19.here hx rfl (pc0 := 63) (pc' := 21) rfl (hb hby d30_63) (by decide) (by decide) ?_
   refine XS.iloadN X19.here hx rfl (hb hby d30_21) rfl ?_
   refine XS.aloadN X19.here hx rfl (hb hby d30_22) rfl rfl ?_
   exact hgo
 obtain ⟨cq22, kq22, q22a, q22b, q22c⟩ := isOf hZ e19 Ea
 obtain ⟨_, _, ⟨T22, L22, k22, n22⟩, -, X22, ⟨Lc22, hQ22, l22, y22, z22⟩, st22⟩ := X19.virtualBack hx (y := yn1) (z := yn1) hown (mvT hZ (w 29 rfl)) (mvT hZ (w 30 rfl)) (notFace_of_selects (args := #[]) (mvT hZ (w 32 rfl))) (mvT hZ (w 32 rfl)) (mvT hZ (w 31 rfl)) (by decide) (backOf (W := 1) (rm_length l Z a0 hw [] a1 zc b k [own_b c0] h19 n0 hZn hOld S_cs hz ⟨Ea, Fa_c, Fa_v, Va⟩) hZ (w 33 rfl) (w 3 rfl) (by decide) (by decide)) q22a q22c (g := (mkF m 23 #[.val (.ref a1), .val (.ref sb), .val (.int 1), .val (.int c0)] [(.ref a1), (.int 1)])) rfl (by rw [hml]; rfl) (Steps.refl _) (argsL := []) (rest := [(.int 1)]) (lenOf pd_13 rfl) rfl (by show 2 * 0 + _ ≤ _; exact Nat.le_of_eq rfl) (hb hby d30_23) (fun _ _ => ⟨rfl, e19, (by decide : 5 + 0 ≤ _), (by decide : 45 + 0 ≤ _)⟩)
 dsimp only [Pt.U, Pt.locs, Pt.cells, Pt.slots] at X22 l22 y22 z22 st22 hQ22
 subst l22 y22 z22
 obtain ⟨rfl, N22q, e22⟩ := hQ22
 have N22 := Fr.app N19 N22q
 have R23 := Rc.tr R21 st22
 have R24 : Rc p e below A0 (T22.setTop (mkF m 69 #[.val (.ref a1), .val (.ref sb), .val (.int 1), .val (.int c0)] [(.int 34), (.ref sb)])) := by
   intro tgt hgo
   refine R23 tgt ?_
   show Steps p.tables e below (T22.setTop (mkF m 26 #[.val (.ref a1), .val (.ref sb), .val (.int 1), .val (.int c0)] [(.int 1), (.int 1)])) _
   refine XS.icmpYes X22.here hx rfl (pc0 := 26) (pc' := 66) rfl (hb hby d30_26) rfl (flt (by decide : ¬ ((1 : Int32) < (1 : Int32)))).2.1 (by decide) (by decide) ?_
   refine XS.aloadN X22.here hx rfl (hb hby d30_66) rfl rfl ?_
   refine XS.bipush X22.here hx rfl (hb hby d30_67) ?_
   exact hgo
 have lt_a1_bz := Ea.lt
 have lt_b_bz := Va.lt
 have sz0_bz := hK.1
 obtain ⟨cq25, kq25, q25a, q25b, q25c⟩ := isOf hZ e22 E_sb
 obtain ⟨_, _, ⟨T25, L25, k25, n25⟩, -, X25, ⟨Lc25, hQ25, l25, y25, z25⟩, st25⟩ := X22.virtualBack hx (y := yn16) (z := yn16) hown (mvT hZ (w 55 rfl)) (mvT hZ (w 56 rfl)) (notFace_of_selects (args := #[]) (mvT hZ (w 58 rfl))) (mvT hZ (w 58 rfl)) (mvT hZ (w 57 rfl)) (by decide) (backOf (W := 0) (rm_app l Z a0 hw [] sb 34 zc b2 k19 _ (([] ++ [own_b 34]) ++ own_esc c0) h19 n0 hZn hOld S_cs hz own_c34 D19 (own_capinv hM hNn hl (by have := hlb; omega)).1) hZ (w 59 rfl) (w 28 rfl) (by decide) (by decide)) q25a q25c (g := (mkF m 69 #[.val (.ref a1), .val (.ref sb), .val (.int 1), .val (.int c0)] [(.int 34), (.ref sb)])) rfl (by rw [hml]; rfl) (Steps.refl _) (argsL := [(.int 34)]) (rest := []) (lenOf pd_18 rfl) rfl (by show 2 * 0 + _ ≤ _; exact Nat.le_of_eq rfl) (hb hby d30_69) (fun _ _ => ⟨rfl, e22, (by decide : 5 + 1 ≤ _), (by decide : 45 + 12 ≤ _)⟩)
 dsimp only [Pt.U, Pt.locs, Pt.cells, Pt.slots] at X25 l25 y25 z25 st25 hQ25
 subst l25 y25 z25
 obtain ⟨rfl, N25q, K25, bz, kz, Dz, hbz⟩ := hQ25
 have N25 := Fr.app N22 N25q
 have R26 := Rc.tr R24 st25
 have ne_a1_bz : a1 ≠ bz := hbz.elim (fun q => by rw [q]; exact ne_a1_b2) fun q => Nat.ne_of_lt (Nat.lt_of_lt_of_le lt_a1_bz q)
 have ne_b_bz : b ≠ bz := hbz.elim (fun q => by rw [q]; exact ne_b_b2) fun q => Nat.ne_of_lt (Nat.lt_of_lt_of_le lt_b_bz q)
 replace hZn := Nat.le_trans hZn K25.1
 replace hK := hK.trans K25 (allS (Or.inr sz_sb) (allS (hb19.elim (fun q => by rw [q]; exact (hb1.elim (fun q => by rw [q]; exact (Or.inr (Nat.le_trans sz0_i hb0))) fun q => Or.inr (Nat.le_trans sz0_b1 q))) fun q => Or.inr (Nat.le_trans sz0_b2 q)) all0))
 replace Ea := Ea.keep K25
 replace Fa_c := Fa_c.keep K25 (ninS ne_a1_sb (ninS ne_a1_b2 nin0))
 replace Fa_v := Fa_v.keep K25 (ninS ne_a1_sb (ninS ne_a1_b2 nin0))
 replace Va := Va.keep K25 (ninS ne_b_sb (ninS ne_b_b2 nin0))
 replace hOld := hOld.keep K25 (allS D19.2.2.2.2.2.2.2.1 (allS D19.2.2.2.2.2.2.2.2 all0))
 replace E_sb := E_sb.keep K25
 have sz0_z := hK.1
 obtain ⟨cq27, kq27, q27a, q27b, q27c⟩ := isOf hZ rfl E_sb
 obtain ⟨_, _, ⟨T27, L27, k27, n27⟩, -, X27, ⟨Lc27, hQ27, l27, y27, z27⟩, st27⟩ := X25.virtualBack hx (y := yn27) (z := yn27) hown (mvT hZ (w 81 rfl)) (mvT hZ (w 82 rfl)) (notFace_of_selects (args := #[]) (mvT hZ (w 84 rfl))) (mvT hZ (w 84 rfl)) (mvT hZ (w 83 rfl)) (by decide) (backOf (W := 0) (rm_ts l Z a0 hw [] sb zc bz kz _ ((([] ++ [own_b 34]) ++ own_esc c0) ++ [own_b 34]) T25.heap n0 hZn hOld S_cs hz Dz (Nat.le_trans (Nat.le_of_eq List.length_append) (own_capinv hM hNn hl (by have := hlb; omega)).2.2) (by rcases (own_capinv hM hNn hl (by have := hlb; omega)).2.1 with q | q <;> (rw [q]; decide))) hZ (w 85 rfl) (w 28 rfl) (by decide) (by decide)) q27a q27c (g := (mkF m 72 #[.val (.ref a1), .val (.ref sb), .val (.int 1), .val (.int c0)] [(.ref sb)])) rfl (by rw [hml]; rfl) (Steps.refl _) (argsL := []) (rest := []) (lenOf pd_19 rfl) rfl (by show 2 * 0 + _ ≤ _; exact Nat.le_of_eq rfl) (hb hby d30_72) (fun _ _ => ⟨rfl, rfl, (by decide : 6 + 2 ≤ _), (by decide : 57 + 16 ≤ _)⟩)
 dsimp only [Pt.U, Pt.locs, Pt.cells, Pt.slots] at X27 l27 y27 z27 st27 hQ27
 subst l27 y27 z27
 obtain ⟨⟨x27, rfl, tt, ktt, szx, SFx⟩, N27q, K27⟩ := hQ27
 have N27 := Fr.app N25 N27q
 have R28 := Rc.tr R26 st27
 replace hZn := Nat.le_trans hZn K27.1
 replace hK := hK.trans K27 all0
 replace Ea := Ea.keep K27
 replace Fa_c := Fa_c.keep K27 nin0
 replace Fa_v := Fa_v.keep K27 nin0
 replace Va := Va.keep K27 nin0
 replace hOld := hOld.keep K27 all0
 replace E_sb := E_sb.keep K27
 subst hA0
 obtain ⟨fs, hr, hrun, hended, hW, hsame⟩ := X27.leave (v := some (.ref x27)) (fun h => by rw [Bd.returns] at h; cases h)
 refine ⟨_, _, R28 _ ?_, hrun, hended, _, _, rfl, ?_, ⟨_, rfl⟩, hW, hsame.mono (by decide) (by decide)⟩
 ·show Steps p.tables e below (T27.setTop (mkF m 75 #[.val (.ref a1), .val (.ref sb), .val (.int 1), .val (.int c0)] [(.ref x27)])) _
  jvm_step X27.here [X27.here.top, hx, (hb hby d30_75), X27.method', Bd.returns, Value.isRef, FieldType.isReference]
  first | (intro acts; rw [hr _ acts rfl rfl rfl]) | rw [hr _ _ rfl rfl rfl]
  exact Steps.refl _
 ·show Qq Z ((([] ++ [own_b 34]) ++ own_esc c0) ++ [own_b 34]) h0 n0 _ T27.heap _
  exact ⟨⟨x27, rfl, tt, ktt, Nat.le_trans sz0_z szx, SFx⟩, N27, hK⟩
theorem ef_rm_quote2 (m : MethodId) (a1 : Addr) : entryFrame m #[(.ref a1)] 4 = mkF m 0 #[.val (.ref a1), .unset, .unset, .unset] [] := by first | (simp [entryFrame, mkF, argsToLocals, Value.category]; done) | rfl
set_option maxRecDepth 65536 in
set_option maxHeartbeats 40000000 in
theorem rm_quote2 (l : Launch) (Z : State) (a0 : Array Value) (hw : ∀ d ∈ tables_1, d.before a0 Z = true) (ws : List Jvm.Cond) (a1 : Addr) (c0 c1 : Int32) (zc : Int32) (b : Addr) (k : ClassId) (vf : Value) (h0 : Heap) (n0 : Nat) (Z0 : n0 ≤ h0.size) (X00 : Old Z n0 h0) (S_cs : Sta Z Z.heap "java/lang/String" "COMPACT_STRINGS" "Z" (.int zc)) (hz : ¬ zc = 0) (S_f : Sta Z Z.heap "jdk/internal/util/Preconditions" "SIOOBE_FORMATTER" "Ljava/util/function/BiFunction;" vf) (hf : vf.isRef = true) (hc0 : own_ch c0) (hc1 : own_ch c1) (DS : StrF Z h0 a1 b k [own_b c0, own_b c1]) :
    MetFree l yn30 (head1 (Jvm.Cond.code yn30 prog_16_method_4_code 4 (some (.object "java/lang/String")) :: ws) ({ frames := 6, cells := 12, slots := 128, locals := 100 } : Room)) (fun a U => a = #[(.ref a1)] ∧ Z.Warmed39 U.vm ∧ U.heap = h0) (fun _ _ _ _ _ => True) (fun _ U o U' => ∃ v L, o = .returned v ∧ Qq Z (((([] ++ [own_b 34]) ++ own_esc c0) ++ own_esc c1) ++ [own_b 34]) h0 n0 v U'.heap L ∧ FrameEnd U o U' L ({ frames := 6, cells := 12, slots := 128, locals := 100 } : Room).cells ({ frames := 6, cells := 12, slots := 128, locals := 100 } : Room).slots) := by
 refine MetFree.of_bodySF (plainFor_of_name pn_com_example_stack_check_trimmer_stackchecktrimmer_io_LineTokenizer) hisR ?_
 intro p e s m args below meth c s₁ Bd hml0 hP hK
 obtain ⟨rfl, hZ, hh⟩ := hP
 have hx := Bd.exec
 have hby := Bd.bytes
 have hml : c.maxLocals = 4 := hml0
 have hown : s.vm.findClass "com/example/stack_check_trimmer/stackchecktrimmer/io/LineTokenizer" = some m.cls := findClass_of_methodNamed Bd.named
 have hnm := (name_of_methodNamed Bd.named Bd.method).1
 have X0 : Stand p l e ({ frames := 6, cells := 12, slots := 128, locals := 100 } : Room) s m #[(.ref a1)] below meth c s₁ [] 0 0 := Stand.of_body Bd
 have e0 : s₁.heap = h0 := by rw [← hh, Bd.state]; rfl
 have N0 := Fr.nil n0
 obtain ⟨A0, hA0⟩ : ∃ A, A = s₁.setTop (entryFrame m #[(.ref a1)] 4) := ⟨_, rfl⟩
 have R0 : ∀ tgt, Steps p.tables e below (s₁.setTop (mkF m 0 #[.val (.ref a1), .unset, .unset, .unset] [])) tgt → Steps p.tables e below A0 tgt := fun tgt hgo => by rw [hA0]; exact castTop (ef_rm_quote2 m a1) hgo
 have w : ∀ (i : Nat) {d : Jvm.Cond}, tables_1[i]? = some d → d.before a0 Z = true := fun i d h => hw d (List.mem_of_getElem? h)
 obtain ⟨Ea, Fa_c, Fa_v, Va⟩ := DS
 have hZn := Z0
 have hK : Keep h0 h0 [] := Keep.refl _ _
 have hOld := X00
 obtain ⟨T1, h1, X1, e1, E1, A1, D1, -, st1⟩ := newO X0 hx hZ hown (w 26 rfl) (w 27 rfl) (w 28 rfl) e0 (g := (mkF m 0 #[.val (.ref a1), .unset, .unset, .unset] [])) rfl (hb hby d30_0) (by decide) (by decide)
 obtain ⟨sb, g1⟩ : ∃ z, z = h0.size := ⟨_, rfl⟩
 rw [← g1] at A1 D1 st1
 have ne_a1_sb : a1 ≠ sb := Nat.ne_of_lt (Nat.lt_of_lt_of_le Ea.lt (Nat.le_of_eq g1.symm))
 have ne_b_sb : b ≠ sb := Nat.ne_of_lt (Nat.lt_of_lt_of_le Va.lt (Nat.le_of_eq g1.symm))
 have ge_sb : n0 ≤ sb := Nat.le_trans hZn (Nat.le_of_eq g1.symm)
 have sz_sb : h0.size ≤ sb := Nat.le_trans hK.1 (Nat.le_of_eq g1.symm)
 replace hZn := Nat.le_trans hZn E1.1
 replace hK := hK.ext E1
 replace Ea := Ea.ext E1
 replace Fa_c := Fa_c.ext E1
 replace Fa_v := Fa_v.ext E1
 replace Va := Va.ext E1
 replace hOld := hOld.ext E1
 have E_sb := A1
 have F_value_sb : Fld Z h1 sb "java/lang/AbstractStringBuilder" "value" "[B" .null := D1 (Or.inl (w 52 rfl)) (ty := (.array .byte)) (by decide)
 have F_coder_sb : Fld Z h1 sb "java/lang/AbstractStringBuilder" "coder" "B" (.int 0) := D1 (Or.inl (w 54 rfl)) (ty := .byte) (by decide)
 have F_count_sb : Fld Z h1 sb "java/lang/AbstractStringBuilder" "count" "I" (.int 0) := D1 (Or.inl (w 66 rfl)) (ty := .int) (by decide)
 have R2 := Rc.st R0 st1
 have R3 : Rc p e below A0 (T1.setTop (mkF m 5 #[.val (.ref a1), .unset, .unset, .unset] [(.ref a1), (.ref sb), (.ref sb)])) := by
   intro tgt hgo
   refine R2 tgt ?_
   show Steps p.tables e below (T1.setTop (mkF m 3 #[.val (.ref a1), .unset, .unset, .unset] [(.ref sb)])) _
   refine XS.dup X1.here hx rfl (hb hby d30_3) rfl rfl ?_
   refine XS.aloadN X1.here hx rfl (hb hby d30_4) rfl rfl ?_
   exact hgo
 obtain ⟨cq4, kq4, q4a, q4b, q4c⟩ := isOf hZ e1 Ea
 obtain ⟨_, _, ⟨T4, L4, k4, n4⟩, -, X4, ⟨Lc4, hQ4, l4, y4, z4⟩, st4⟩ := X1.virtualBack hx (y := yn1) (z := yn1) hown (mvT hZ (w 29 rfl)) (mvT hZ (w 30 rfl)) (notFace_of_selects (args := #[]) (mvT hZ (w 32 rfl))) (mvT hZ (w 32 rfl)) (mvT hZ (w 31 rfl)) (by decide) (backOf (W := 2) (rm_length l Z a0 hw [] a1 zc b k [own_b c0, own_b c1] h1 n0 hZn hOld S_cs hz ⟨Ea, Fa_c, Fa_v, Va⟩) hZ (w 33 rfl) (w 3 rfl) (by decide) (by decide)) q4a q4c (g := (mkF m 5 #[.val (.ref a1), .unset, .unset, .unset] [(.ref a1), (.ref sb), (.ref sb)])) rfl (by rw [hml]; rfl) (Steps.refl _) (argsL := []) (rest := [(.ref sb), (.ref sb)]) (lenOf pd_13 rfl) rfl (by show 2 * 0 + _ ≤ _; exact Nat.le_of_eq rfl) (hb hby d30_5) (fun _ _ => ⟨rfl, e1, (by decide : 1 + 0 ≤ _), (by decide : 4 + 0 ≤ _)⟩)
 dsimp only [Pt.U, Pt.locs, Pt.cells, Pt.slots] at X4 l4 y4 z4 st4 hQ4
 subst l4 y4 z4
 obtain ⟨rfl, N4q, e4⟩ := hQ4
 have N4 := Fr.app N0 N4q
 have R5 := Rc.tr R3 st4
 have R6 : Rc p e below A0 (T4.setTop (mkF m 10 #[.val (.ref a1), .unset, .unset, .unset] [(.int 4), (.ref sb), (.ref sb)])) := by
   intro tgt hgo
   refine R5 tgt ?_
   show Steps p.tables e below (T4.setTop (mkF m 8 #[.val (.ref a1), .unset, .unset, .unset] [(.int 2), (.ref sb), (.ref sb)])) _
   refine XS.iconst X4.here hx rfl (hb hby d30_8) ?_
   refine XS.iadd X4.here hx rfl (hb hby d30_9) rfl ?_
   exact hgo
 have lt_a1_i := Ea.lt
 have lt_b_i := Va.lt
 have sz0_i := hK.1
 obtain ⟨_, _, ⟨T7, L7, k7, n7⟩, -, X7, ⟨Lc7, hQ7, l7, y7, z7⟩, st7⟩ := X4.specialBack hx (y := yn18) rfl hown (mvT hZ (w 40 rfl)) (mvT hZ (w 41 rfl)) (mvT hZ (w 42 rfl)) (by decide) (backOf (W := 1) (rm_sbi l Z a0 hw [] sb (4 : Int32) zc 4 h1 n0 hZn rfl (by decide) hOld S_cs hz ge_sb E_sb F_value_sb F_coder_sb F_count_sb) hZ (w 42 rfl) (w 28 rfl) (by decide) (by decide)) (g := (mkF m 10 #[.val (.ref a1), .unset, .unset, .unset] [(.int 4), (.ref sb), (.ref sb)])) rfl (by rw [hml]; rfl) (Steps.refl _) (a := sb) (argsL := [(.int 4)]) (rest := [(.ref sb)]) (lenOf pd_9 rfl) rfl (by show 2 * 0 + _ ≤ _; exact Nat.le_of_eq rfl) (hb hby d30_10) (fun _ _ => ⟨rfl, e4, (by decide : 1 + 1 ≤ _), (by decide : 4 + 5 ≤ _)⟩)
 dsimp only [Pt.U, Pt.locs, Pt.cells, Pt.slots] at X7 l7 y7 z7 st7 hQ7
 subst l7 y7 z7
 obtain ⟨rfl, N7q, K7, b0, k0, D0, hb0⟩ := hQ7
 have N7 := Fr.app N4 N7q
 have R8 := Rc.tr R6 st7
 have ne_a1_b0 : a1 ≠ b0 := Nat.ne_of_lt (Nat.lt_of_lt_of_le lt_a1_i hb0)
 have ne_b_b0 : b ≠ b0 := Nat.ne_of_lt (Nat.lt_of_lt_of_le lt_b_i hb0)
 replace hZn := Nat.le_trans hZn K7.1
 replace hK := hK.trans K7 (allS (Or.inr sz_sb) all0)
 replace Ea := Ea.keep K7
 replace Fa_c := Fa_c.keep K7 (ninS ne_a1_sb nin0)
 replace Fa_v := Fa_v.keep K7 (ninS ne_a1_sb nin0)
 replace Va := Va.keep K7 (ninS ne_b_sb nin0)
 replace hOld := hOld.keep K7 (allS ge_sb all0)
 replace E_sb := E_sb.keep K7
 have R9 : Rc p e below A0 (T7.setTop (mkF m 15 #[.val (.ref a1), .unset, .unset, .unset] [(.int 34), (.ref sb)])) := by
   intro tgt hgo
   refine R8 tgt ?_
   show Steps p.tables e below (T7.setTop (mkF m 13 #[.val (.ref a1), .unset, .unset, .unset] [(.ref sb)])) _
   refine XS.bipush X7.here hx rfl (hb hby d30_13) ?_
   exact hgo
 have lt_a1_b1 := Ea.lt
 have lt_b_b1 := Va.lt
 have sz0_b1 := hK.1
 obtain ⟨cq10, kq10, q10a, q10b, q10c⟩ := isOf hZ rfl E_sb
 obtain ⟨_, _, ⟨T10, L10, k10, n10⟩, -, X10, ⟨Lc10, hQ10, l10, y10, z10⟩, st10⟩ := X7.virtualBack hx (y := yn16) (z := yn16) hown (mvT hZ (w 55 rfl)) (mvT hZ (w 56 rfl)) (notFace_of_selects (args := #[]) (mvT hZ (w 58 rfl))) (mvT hZ (w 58 rfl)) (mvT hZ (w 57 rfl)) (by decide) (backOf (W := 0) (rm_app l Z a0 hw [] sb 34 zc b0 k0 4 [] T7.heap n0 hZn hOld S_cs hz own_c34 D0 (Or.inl ⟨by decide, by decide⟩)) hZ (w 59 rfl) (w 28 rfl) (by decide) (by decide)) q10a q10c (g := (mkF m 15 #[.val (.ref a1), .unset, .unset, .unset] [(.int 34), (.ref sb)])) rfl (by rw [hml]; rfl) (Steps.refl _) (argsL := [(.int 34)]) (rest := []) (lenOf pd_18 rfl) rfl (by show 2 * 0 + _ ≤ _; exact Nat.le_of_eq rfl) (hb hby d30_15) (fun _ _ => ⟨rfl, rfl, (by decide : 2 + 1 ≤ _), (by decide : 9 + 12 ≤ _)⟩)
 dsimp only [Pt.U, Pt.locs, Pt.cells, Pt.slots] at X10 l10 y10 z10 st10 hQ10
 subst l10 y10 z10
 obtain ⟨rfl, N10q, K10, b1, k1, D1, hb1⟩ := hQ10
 have N10 := Fr.app N7 N10q
 have R11 := Rc.tr R9 st10
 have ne_a1_b1 : a1 ≠ b1 := hb1.elim (fun q => by rw [q]; exact ne_a1_b0) fun q => Nat.ne_of_lt (Nat.lt_of_lt_of_le lt_a1_b1 q)
 have ne_b_b1 : b ≠ b1 := hb1.elim (fun q => by rw [q]; exact ne_b_b0) fun q => Nat.ne_of_lt (Nat.lt_of_lt_of_le lt_b_b1 q)
 replace hZn := Nat.le_trans hZn K10.1
 replace hK := hK.trans K10 (allS (Or.inr sz_sb) (allS (Or.inr (Nat.le_trans sz0_i hb0)) all0))
 replace Ea := Ea.keep K10
 replace Fa_c := Fa_c.keep K10 (ninS ne_a1_sb (ninS ne_a1_b0 nin0))
 replace Fa_v := Fa_v.keep K10 (ninS ne_a1_sb (ninS ne_a1_b0 nin0))
 replace Va := Va.keep K10 (ninS ne_b_sb (ninS ne_b_b0 nin0))
 replace hOld := hOld.keep K10 (allS D0.2.2.2.2.2.2.2.1 (allS D0.2.2.2.2.2.2.2.2 all0))
 replace E_sb := E_sb.keep K10
 have R12 : Rc p e below A0 (T10.setTop (mkF m 23 #[.val (.ref a1), .val (.ref sb), .val (.int 0), .unset] [(.ref a1), (.int 0)])) := by
   intro tgt hgo
   refine R11 tgt ?_
   show Steps p.tables e below (T10.setTop (mkF m 18 #[.val (.ref a1), .unset, .unset, .unset] [(.ref sb)])) _
   refine XS.astoreN X10.here hx rfl (hb hby d30_18) rfl rfl (l' := #[.val (.ref a1), .val (.ref sb), .unset, .unset]) rfl ?_
   refine XS.iconst X10.here hx rfl (hb hby d30_19) ?_
   refine XS.istoreN X10.here hx rfl (hb hby d30_20) rfl (l' := #[.val (.ref a1), .val (.ref sb), .val (.int 0), .unset]) rfl ?_
   refine XS.iloadN X10.here hx rfl (hb hby d30_21) rfl ?_
   refine XS.aloadN X10.here hx rfl (hb hby d30_22) rfl rfl ?_
   exact hgo
 obtain ⟨cq13, kq13, q13a, q13b, q13c⟩ := isOf hZ rfl Ea
 obtain ⟨_, _, ⟨T13, L13, k13, n13⟩, -, X13, ⟨Lc13, hQ13, l13, y13, z13⟩, st13⟩ := X10.virtualBack hx (y := yn1) (z := yn1) hown (mvT hZ (w 29 rfl)) (mvT hZ (w 30 rfl)) (notFace_of_selects (args := #[]) (mvT hZ (w 32 rfl))) (mvT hZ (w 32 rfl)) (mvT hZ (w 31 rfl)) (by decide) (backOf (W := 1) (rm_length l Z a0 hw [] a1 zc b k [own_b c0, own_b c1] T10.heap n0 hZn hOld S_cs hz ⟨Ea, Fa_c, Fa_v, Va⟩) hZ (w 33 rfl) (w 3 rfl) (by decide) (by decide)) q13a q13c (g := (mkF m 23 #[.val (.ref a1), .val (.ref sb), .val (.int 0), .unset] [(.ref a1), (.int 0)])) rfl (by rw [hml]; rfl) (Steps.refl _) (argsL := []) (rest := [(.int 0)]) (lenOf pd_13 rfl) rfl (by show 2 * 0 + _ ≤ _; exact Nat.le_of_eq rfl) (hb hby d30_23) (fun _ _ => ⟨rfl, rfl, (by decide : 3 + 0 ≤ _), (by decide : 21 + 0 ≤ _)⟩)
 dsimp only [Pt.U, Pt.locs, Pt.cells, Pt.slots] at X13 l13 y13 z13 st13 hQ13
 subst l13 y13 z13
 obtain ⟨rfl, N13q, e13⟩ := hQ13
 have N13 := Fr.app N10 N13q
 have R14 := Rc.tr R12 st13
 have R15 : Rc p e below A0 (T13.setTop (mkF m 31 #[.val (.ref a1), .val (.ref sb), .val (.int 0), .unset] [(.int 0), (.ref a1)])) := by
   intro tgt hgo
   refine R14 tgt ?_
   show Steps p.tables e below (T13.setTop (mkF m 26 #[.val (.ref a1), .val (.ref sb), .val (.int 0), .unset] [(.int 2), (.int 0)])) _
   refine XS.icmpNo X13.here hx rfl (hb hby d30_26) rfl (tlt (by decide : (0 : Int32) < (2 : Int32))).2.1 ?_
   refine XS.aloadN X13.here hx rfl (hb hby d30_29) rfl rfl ?_
   refine XS.iloadN X13.here hx rfl (hb hby d30_30) rfl ?_
   exact hgo
 obtain ⟨cq16, kq16, q16a, q16b, q16c⟩ := isOf hZ e13 Ea
 obtain ⟨_, _, ⟨T16, L16, k16, n16⟩, -, X16, ⟨Lc16, hQ16, l16, y16, z16⟩, st16⟩ := X13.virtualBack hx (y := yn6) (z := yn6) hown (mvT hZ (w 152 rfl)) (mvT hZ (w 122 rfl)) (notFace_of_selects (args := #[]) (mvT hZ (w 124 rfl))) (mvT hZ (w 124 rfl)) (mvT hZ (w 123 rfl)) (by decide) (backOf (W := 0) (rm_charAt l Z a0 hw [] a1 (0 : Int32) zc b k [own_b c0, own_b c1] 0 c0 vf T10.heap n0 hZn rfl hOld S_cs hz S_f hf (by decide) (by show Int32.ofNat 0 < Int32.ofNat 2; decide) rfl hc0 ⟨Ea, Fa_c, Fa_v, Va⟩) hZ (w 125 rfl) (w 3 rfl) (by decide) (by decide)) q16a q16c (g := (mkF m 31 #[.val (.ref a1), .val (.ref sb), .val (.int 0), .unset] [(.int 0), (.ref a1)])) rfl (by rw [hml]; rfl) (Steps.refl _) (argsL := [(.int 0)]) (rest := []) (lenOf pd_17 rfl) rfl (by show 2 * 0 + _ ≤ _; exact Nat.le_of_eq rfl) (hb hby d30_31) (fun _ _ => ⟨rfl, e13, (by decide : 3 + 0 ≤ _), (by decide : 21 + 0 ≤ _)⟩)
 dsimp only [Pt.U, Pt.locs, Pt.cells, Pt.slots] at X16 l16 y16 z16 st16 hQ16
 subst l16 y16 z16
 obtain ⟨rfl, N16q, e16⟩ := hQ16
 have N16 := Fr.app N13 N16q
 have R17 := Rc.tr R15 st16
 have R18 : Rc p e below A0 (T16.setTop (mkF m 35 #[.val (.ref a1), .val (.ref sb), .val (.int 0), .val (.int c0)] [])) := by
   intro tgt hgo
   refine R17 tgt ?_
   show Steps p.tables e below (T16.setTop (mkF m 34 #[.val (.ref a1), .val (.ref sb), .val (.int 0), .unset] [(.int c0)])) _
   refine XS.istoreN X16.here hx rfl (hb hby d30_34) rfl (l' := #[.val (.ref a1), .val (.ref sb), .val (.int 0), .val (.int c0)]) rfl ?_
   exact hgo
 have hM : 3 ≤ 4 ∧ 4 ≤ 5 := by decide
 have hNn : own_cap 0 4 = 4 ∨ own_cap 0 4 = 2 * 4 + 2 := Or.inl rfl
 have hl : (([] ++ [own_b 34])).length ≤ own_cap 0 4 := by decide
 have hlb : (([] ++ [own_b 34])).length ≤ 1 := by decide
 have lt_a1_b2 := Ea.lt
 have lt_b_b2 := Va.lt
 have sz0_b2 := hK.1
 obtain ⟨T19, h19, L19, b2, k19, N19', X19, e19, N19, ⟨D19, hNn19, hl19, K19, hb19⟩, st19⟩ := seg_q a1 sb (0 : Int32) c0 zc b1 k1 _ 4 ([] ++ [own_b 34]) X16 hx hZ hw hby hml hown e16 hZn N16 hOld S_cs hz hc0 D1 hM hNn hl (by have := hlb; omega) (by decide)
 replace hNn := hNn19
 replace hl := hl19
 replace hlb : ((([] ++ [own_b 34]) ++ own_esc c0)).length ≤ 3 := by rw [List.length_append]; have := own_esc_len c0; omega
 have ne_a1_b2 : a1 ≠ b2 := hb19.elim (fun q => by rw [q]; exact ne_a1_b1) fun q => Nat.ne_of_lt (Nat.lt_of_lt_of_le lt_a1_b2 q)
 have ne_b_b2 : b ≠ b2 := hb19.elim (fun q => by rw [q]; exact ne_b_b1) fun q => Nat.ne_of_lt (Nat.lt_of_lt_of_le lt_b_b2 q)
 replace hZn := Nat.le_trans hZn K19.1
 replace hK := hK.trans K19 (allS (Or.inr sz_sb) (allS (hb1.elim (fun q => by rw [q]; exact (Or.inr (Nat.le_trans sz0_i hb0))) fun q => Or.inr (Nat.le_trans sz0_b1 q)) all0))
 replace Ea := Ea.keep K19
 replace Fa_c := Fa_c.keep K19 (ninS ne_a1_sb (ninS ne_a1_b1 nin0))
 replace Fa_v := Fa_v.keep K19 (ninS ne_a1_sb (ninS ne_a1_b1 nin0))
 replace Va := Va.keep K19 (ninS ne_b_sb (ninS ne_b_b1 nin0))
 replace hOld := hOld.keep K19 (allS D1.2.2.2.2.2.2.2.1 (allS D1.2.2.2.2.2.2.2.2 all0))
 replace E_sb := E_sb.keep K19
 have R20 := Rc.st R18 st19
 have R21 : Rc p e below A0 (T19.setTop (mkF m 23 #[.val (.ref a1), .val (.ref sb), .val (.int 1), .val (.int c0)] [(.ref a1), (.int 1)])) := by
   intro tgt hgo
   refine R20 tgt ?_
   show Steps p.tables e below (T19.setTop (mkF m 60 #[.val (.ref a1), .val (.ref sb), .val (.int 0), .val (.int c0)] [])) _
   refine XS.iinc X19.here hx rfl (hb hby d30_60) rfl (l' := #[.val (.ref a1), .val (.ref sb), .val (.int 1), .val (.int c0)]) rfl ?_
   refine XS.goto X19.here hx rfl (pc0 := 63) (pc' := 21) rfl (hb hby d30_63) (by decide) (by decide) ?_
   refine XS.iloadN X19.here hx rfl (hb hby d30_21) rfl ?_
   refine XS.aloadN X19.here hx rfl (hb hby d30_22) rfl rfl ?_
   exact hgo
 obtain ⟨cq22, kq22, q22a, q22b, q22c⟩ := isOf hZ e19 Ea
 obtain ⟨_, _, ⟨T22, L22, k22, n22⟩, -, X22, ⟨Lc22, hQ22, l22, y22, z22⟩, st22⟩ := X19.virtualBack hx (y := yn1) (z := yn1) hown (mvT hZ (w 29 rfl)) (mvT hZ (w 30 rfl)) (notFace_of_selects (args := #[]) (mvT hZ (w 32 rfl))) (mvT hZ (w 32 rfl)) (mvT hZ (w 31 rfl)) (by decide) (backOf (W := 1) (rm_length l Z a0 hw [] a1 zc b k [own_b c0, own_b c1] h19 n0 hZn hOld S_cs hz ⟨Ea, Fa_c, Fa_v, Va⟩) hZ (w 33 rfl) (w 3 rfl) (by decide) (by decide)) q22a q22c (g := (mkF m 23 #[.val (.ref a1), .val (.ref sb), .val (.int 1), .val (.int c0)] [(.ref a1), (.int 1)])) rfl (by rw [hml]; rfl) (Steps.refl _) (argsL := []) (rest := [(.int 1)]) (lenOf pd_13 rfl) rfl (by show 2 * 0 + _ ≤ _; exact Nat.le_of_eq rfl) (hb hby d30_23) (fun _ _ => ⟨rfl, e19, (by decide : 5 + 0 ≤ _), (by decide : 45 + 0 ≤ _)⟩)
 dsimp only [Pt.U, Pt.locs, Pt.cells, Pt.slots] at X22 l22 y22 z22 st22 hQ22
 subst l22 y22 z22
 obtain ⟨rfl, N22q, e22⟩ := hQ22
 have N22 := Fr.app N19 N22q
 have R23 := Rc.tr R21 st22
 have R24 : Rc p e below A0 (T22.setTop (mkF m 31 #[.val (.ref a1), .val (.ref sb), .val (.int 1), .val (.int c0)] [(.int 1), (.ref a1)])) := by
   intro tgt hgo
   refine R23 tgt ?_
   show Steps p.tables e below (T22.setTop (mkF m 26 #[.val (.ref a1), .val (.ref sb), .val (.int 1), .val (.int c0)] [(.int 2), (.int 1)])) _
   refine XS.icmpNo X22.here hx rfl (hb hby d30_26) rfl (tlt (by decide : (1 : Int32) < (2 : Int32))).2.1 ?_
   refine XS.aloadN X22.here hx rfl (hb hby d30_29) rfl rfl ?_
   refine XS.iloadN X22.here hx rfl (hb hby d30_30) rfl ?_
   exact hgo
 obtain ⟨cq25, kq25, q25a, q25b, q25c⟩ := isOf hZ e22 Ea
 obtain ⟨_, _, ⟨T25, L25, k25, n25⟩, -, X25, ⟨Lc25, hQ25, l25, y25, z25⟩, st25⟩ := X22.virtualBack hx (y := yn6) (z := yn6) hown (mvT hZ (w 152 rfl)) (mvT hZ (w 122 rfl)) (notFace_of_selects (args := #[]) (mvT hZ (w 124 rfl))) (mvT hZ (w 124 rfl)) (mvT hZ (w 123 rfl)) (by decide) (backOf (W := 0) (rm_charAt l Z a0 hw [] a1 (1 : Int32) zc b k [own_b c0, own_b c1] 1 c1 vf h19 n0 hZn rfl hOld S_cs hz S_f hf (by decide) (by show Int32.ofNat 1 < Int32.ofNat 2; decide) rfl hc1 ⟨Ea, Fa_c, Fa_v, Va⟩) hZ (w 125 rfl) (w 3 rfl) (by decide) (by decide)) q25a q25c (g := (mkF m 31 #[.val (.ref a1), .val (.ref sb), .val (.int 1), .val (.int c0)] [(.int 1), (.ref a1)])) rfl (by rw [hml]; rfl) (Steps.refl _) (argsL := [(.int 1)]) (rest := []) (lenOf pd_17 rfl) rfl (by show 2 * 0 + _ ≤ _; exact Nat.le_of_eq rfl) (hb hby d30_31) (fun _ _ => ⟨rfl, e22, (by decide : 5 + 0 ≤ _), (by decide : 45 + 0 ≤ _)⟩)
 dsimp only [Pt.U, Pt.locs, Pt.cells, Pt.slots] at X25 l25 y25 z25 st25 hQ25
 subst l25 y25 z25
 obtain ⟨rfl, N25q, e25⟩ := hQ25
 have N25 := Fr.app N22 N25q
 have R26 := Rc.tr R24 st25
 have R27 : Rc p e below A0 (T25.setTop (mkF m 35 #[.val (.ref a1), .val (.ref sb), .val (.int 1), .val (.int c1)] [])) := by
   intro tgt hgo
   refine R26 tgt ?_
   show Steps p.tables e below (T25.setTop (mkF m 34 #[.val (.ref a1), .val (.ref sb), .val (.int 1), .val (.int c0)] [(.int c1)])) _
   refine XS.istoreN X25.here hx rfl (hb hby d30_34) rfl (l' := #[.val (.ref a1), .val (.ref sb), .val (.int 1), .val (.int c1)]) rfl ?_
   exact hgo
 have lt_a1_b3 := Ea.lt
 have lt_b_b3 := Va.lt
 have sz0_b3 := hK.1
 obtain ⟨T28, h28, L28, b3, k28, N28', X28, e28, N28, ⟨D28, hNn28, hl28, K28, hb28⟩, st28⟩ := seg_q a1 sb (1 : Int32) c1 zc b2 k19 _ 4 (([] ++ [own_b 34]) ++ own_esc c0) X25 hx hZ hw hby hml hown e25 hZn N25 hOld S_cs hz hc1 D19 hM hNn hl (by have := hlb; omega) (by decide)
 replace hNn := hNn28
 replace hl := hl28
 replace hlb : (((([] ++ [own_b 34]) ++ own_esc c0) ++ own_esc c1)).length ≤ 5 := by rw [List.length_append]; have := own_esc_len c1; omega
 have ne_a1_b3 : a1 ≠ b3 := hb28.elim (fun q => by rw [q]; exact ne_a1_b2) fun q => Nat.ne_of_lt (Nat.lt_of_lt_of_le lt_a1_b3 q)
 have ne_b_b3 : b ≠ b3 := hb28.elim (fun q => by rw [q]; exact ne_b_b2) fun q => Nat.ne_of_lt (Nat.lt_of_lt_of_le lt_b_b3 q)
 replace hZn := Nat.le_trans hZn K28.1
 replace hK := hK.trans K28 (allS (Or.inr sz_sb) (allS (hb19.elim (fun q => by rw [q]; exact (hb1.elim (fun q => by rw [q]; exact (Or.inr (Nat.le_trans sz0_i hb0))) fun q => Or.inr (Nat.le_trans sz0_b1 q))) fun q => Or.inr (Nat.le_trans sz0_b2 q)) all0))
 replace Ea := Ea.keep K28
 replace Fa_c := Fa_c.keep K28 (ninS ne_a1_sb (ninS ne_a1_b2 nin0))
 replace Fa_v := Fa_v.keep K28 (ninS ne_a1_sb (ninS ne_a1_b2 nin0))
 replace Va := Va.keep K28 (ninS ne_b_sb (ninS ne_b_b2 nin0))
 replace hOld := hOld.keep K28 (allS D19.2.2.2.2.2.2.2.1 (allS D19.2.2.2.2.2.2.2.2 all0))
 replace E_sb := E_sb.keep K28
 have R29 := Rc.st R27 st28
 have R30 : Rc p e below A0 (T28.setTop (mkF m 23 #[.val (.ref a1), .val (.ref sb), .val (.int 2), .val (.int c1)] [(.ref a1), (.int 2)])) := by
   intro tgt hgo
   refine R29 tgt ?_
   show Steps p.tables e below (T28.setTop (mkF m 60 #[.val (.ref a1), .val (.ref sb), .val (.int 1), .val (.int c1)] [])) _
   refine XS.iinc X28.here hx rfl (hb hby d30_60) rfl (l' := #[.val (.ref a1), .val (.ref sb), .val (.int 2), .val (.int c1)]) rfl ?_
   refine XS.goto X28.here hx rfl (pc0 := 63) (pc' := 21) rfl (hb hby d30_63) (by decide) (by decide) ?_
   refine XS.iloadN X28.here hx rfl (hb hby d30_21) rfl ?_
   refine XS.aloadN X28.here hx rfl (hb hby d30_22) rfl rfl ?_
   exact hgo
 obtain ⟨cq31, kq31, q31a, q31b, q31c⟩ := isOf hZ e28 Ea
 obtain ⟨_, _, ⟨T31, L31, k31, n31⟩, -, X31, ⟨Lc31, hQ31, l31, y31, z31⟩, st31⟩ := X28.virtualBack hx (y := yn1) (z := yn1) hown (mvT hZ (w 29 rfl)) (mvT hZ (w 30 rfl)) (notFace_of_selects (args := #[]) (mvT hZ (w 32 rfl))) (mvT hZ (w 32 rfl)) (mvT hZ (w 31 rfl)) (by decide) (backOf (W := 1) (rm_length l Z a0 hw [] a1 zc b k [own_b c0, own_b c1] h28 n0 hZn hOld S_cs hz ⟨Ea, Fa_c, Fa_v, Va⟩) hZ (w 33 rfl) (w 3 rfl) (by decide) (by decide)) q31a q31c (g := (mkF m 23 #[.val (.ref a1), .val (.ref sb), .val (.int 2), .val (.int c1)] [(.ref a1), (.int 2)])) rfl (by rw [hml]; rfl) (Steps.refl _) (argsL := []) (rest := [(.int 2)]) (lenOf pd_13 rfl) rfl (by show 2 * 0 + _ ≤ _; exact Nat.le_of_eq rfl) (hb hby d30_23) (fun _ _ => ⟨rfl, e28, (by decide : 7 + 0 ≤ _), (by decide : 69 + 0 ≤ _)⟩)
 dsimp only [Pt.U, Pt.locs, Pt.cells, Pt.slots] at X31 l31 y31 z31 st31 hQ31
 subst l31 y31 z31
 obtain ⟨rfl, N31q, e31⟩ := hQ31
 have N31 := Fr.app N28 N31q
 have R32 := Rc.tr R30 st31
 have R33 : Rc p e below A0 (T31.setTop (mkF m 69 #[.val (.ref a1), .val (.ref sb), .val (.int 2), .val (.int c1)] [(.int 34), (.ref sb)])) := by
   intro tgt hgo
   refine R32 tgt ?_
   show Steps p.tables e below (T31.setTop (mkF m 26 #[.val (.ref a1), .val (.ref sb), .val (.int 2), .val (.int c1)] [(.int 2), (.int 2)])) _
   refine XS.icmpYes X31.here hx rfl (pc0 := 26) (pc' := 66) rfl (hb hby d30_26) rfl (flt (by decide : ¬ ((2 : Int32) < (2 : Int32)))).2.1 (by decide) (by decide) ?_
   refine XS.aloadN X31.here hx rfl (hb hby d30_66) rfl rfl ?_
   refine XS.bipush X31.here hx rfl (hb hby d30_67) ?_
   exact hgo
 have lt_a1_bz := Ea.lt
 have lt_b_bz := Va.lt
 have sz0_bz := hK.1
 obtain ⟨cq34, kq34, q34a, q34b, q34c⟩ := isOf hZ e31 E_sb
 obtain ⟨_, _, ⟨T34, L34, k34, n34⟩, -, X34, ⟨Lc34, hQ34, l34, y34, z34⟩, st34⟩ := X31.virtualBack hx (y := yn16) (z := yn16) hown (mvT hZ (w 55 rfl)) (mvT hZ (w 56 rfl)) (notFace_of_selects (args := #[]) (mvT hZ (w 58 rfl))) (mvT hZ (w 58 rfl)) (mvT hZ (w 57 rfl)) (by decide) (backOf (W := 0) (rm_app l Z a0 hw [] sb 34 zc b3 k28 _ ((([] ++ [own_b 34]) ++ own_esc c0) ++ own_esc c1) h28 n0 hZn hOld S_cs hz own_c34 D28 (own_capinv hM hNn hl (by have := hlb; omega)).1) hZ (w 59 rfl) (w 28 rfl) (by decide) (by decide)) q34a q34c (g := (mkF m 69 #[.val (.ref a1), .val (.ref sb), .val (.int 2), .val (.int c1)] [(.int 34), (.ref sb)])) rfl (by rw [hml]; rfl) (Steps.refl _) (argsL := [(.int 34)]) (rest := []) (lenOf pd_18 rfl) rfl (by show 2 * 0 + _ ≤ _; exact Nat.le_of_eq rfl) (hb hby d30_69) (fun _ _ => ⟨rfl, e31, (by decide : 7 + 1 ≤ _), (by decide : 69 + 12 ≤ _)⟩)
 dsimp only [Pt.U, Pt.locs, Pt.cells, Pt.slots] at X34 l34 y34 z34 st34 hQ34
 subst l34 y34 z34
 obtain ⟨rfl, N34q, K34, bz, kz, Dz, hbz⟩ := hQ34
 have N34 := Fr.app N31 N34q
 have R35 := Rc.tr R33 st34
 have ne_a1_bz : a1 ≠ bz := hbz.elim (fun q => by rw [q]; exact ne_a1_b3) fun q => Nat.ne_of_lt (Nat.lt_of_lt_of_le lt_a1_bz q)
 have ne_b_bz : b ≠ bz := hbz.elim (fun q => by rw [q]; exact ne_b_b3) fun q => Nat.ne_of_lt (Nat.lt_of_lt_of_le lt_b_bz q)
 replace hZn := Nat.le_trans hZn K34.1
 replace hK := hK.trans K34 (allS (Or.inr sz_sb) (allS (hb28.elim (fun q => by rw [q]; exact (hb19.elim (fun q => by rw [q]; exact (hb1.elim (fun q => by rw [q]; exact (Or.inr (Nat.le_trans sz0_i hb0))) fun q => Or.inr (Nat.le_trans sz0_b1 q))) fun q => Or.inr (Nat.le_trans sz0_b2 q))) fun q => Or.inr (Nat.le_trans sz0_b3 q)) all0))
 replace Ea := Ea.keep K34
 replace Fa_c := Fa_c.keep K34 (ninS ne_a1_sb (ninS ne_a1_b3 nin0))
 replace Fa_v := Fa_v.keep K34 (ninS ne_a1_sb (ninS ne_a1_b3 nin0))
 replace Va := Va.keep K34 (ninS ne_b_sb (ninS ne_b_b3 nin0))
 replace hOld := hOld.keep K34 (allS D28.2.2.2.2.2.2.2.1 (allS D28.2.2.2.2.2.2.2.2 all0))
 replace E_sb := E_sb.keep K34
 have sz0_z := hK.1
 obtain ⟨cq36, kq36, q36a, q36b, q36c⟩ := isOf hZ rfl E_sb
 obtain ⟨_, _, ⟨T36, L36, k36, n36⟩, -, X36, ⟨Lc36, hQ36, l36, y36, z36⟩, st36⟩ := X34.virtualBack hx (y := yn27) (z := yn27) hown (mvT hZ (w 81 rfl)) (mvT hZ (w 82 rfl)) (notFace_of_selects (args := #[]) (mvT hZ (w 84 rfl))) (mvT hZ (w 84 rfl)) (mvT hZ (w 83 rfl)) (by decide) (backOf (W := 0) (rm_ts l Z a0 hw [] sb zc bz kz _ (((([] ++ [own_b 34]) ++ own_esc c0) ++ own_esc c1) ++ [own_b 34]) T34.heap n0 hZn hOld S_cs hz Dz (Nat.le_trans (Nat.le_of_eq List.length_append) (own_capinv hM hNn hl (by have := hlb; omega)).2.2) (by rcases (own_capinv hM hNn hl (by have := hlb; omega)).2.1 with q | q <;> (rw [q]; decide))) hZ (w 85 rfl) (w 28 rfl) (by decide) (by decide)) q36a q36c (g := (mkF m 72 #[.val (.ref a1), .val (.ref sb), .val (.int 2), .val (.int c1)] [(.ref sb)])) rfl (by rw [hml]; rfl) (Steps.refl _) (argsL := []) (rest := []) (lenOf pd_19 rfl) rfl (by show 2 * 0 + _ ≤ _; exact Nat.le_of_eq rfl) (hb hby d30_72) (fun _ _ => ⟨rfl, rfl, (by decide : 8 + 2 ≤ _), (by decide : 81 + 16 ≤ _)⟩)
 dsimp only [Pt.U, Pt.locs, Pt.cells, Pt.slots] at X36 l36 y36 z36 st36 hQ36
 subst l36 y36 z36
 obtain ⟨⟨x36, rfl, tt, ktt, szx, SFx⟩, N36q, K36⟩ := hQ36
 have N36 := Fr.app N34 N36q
 have R37 := Rc.tr R35 st36
 replace hZn := Nat.le_trans hZn K36.1
 replace hK := hK.trans K36 all0
 replace Ea := Ea.keep K36
 replace Fa_c := Fa_c.keep K36 nin0
 replace Fa_v := Fa_v.keep K36 nin0
 replace Va := Va.keep K36 nin0
 replace hOld := hOld.keep K36 all0
 replace E_sb := E_sb.keep K36
 subst hA0
 obtain ⟨fs, hr, hrun, hended, hW, hsame⟩ := X36.leave (v := some (.ref x36)) (fun h => by rw [Bd.returns] at h; cases h)
 refine ⟨_, _, R37 _ ?_, hrun, hended, _, _, rfl, ?_, ⟨_, rfl⟩, hW, hsame.mono (by decide) (by decide)⟩
 ·show Steps p.tables e below (T36.setTop (mkF m 75 #[.val (.ref a1), .val (.ref sb), .val (.int 2), .val (.int c1)] [(.ref x36)])) _
  jvm_step X36.here [X36.here.top, hx, (hb hby d30_75), X36.method', Bd.returns, Value.isRef, FieldType.isReference]
  first | (intro acts; rw [hr _ acts rfl rfl rfl]) | rw [hr _ _ rfl rfl rfl]
  exact Steps.refl _
 ·show Qq Z (((([] ++ [own_b 34]) ++ own_esc c0) ++ own_esc c1) ++ [own_b 34]) h0 n0 _ T36.heap _
  exact ⟨⟨x36, rfl, tt, ktt, Nat.le_trans sz0_z szx, SFx⟩, N36, hK⟩
theorem ef_rm_quote3 (m : MethodId) (a1 : Addr) : entryFrame m #[(.ref a1)] 4 = mkF m 0 #[.val (.ref a1), .unset, .unset, .unset] [] := by first | (simp [entryFrame, mkF, argsToLocals, Value.category]; done) | rfl
set_option maxRecDepth 65536 in
set_option maxHeartbeats 40000000 in
theorem rm_quote3 (l : Launch) (Z : State) (a0 : Array Value) (hw : ∀ d ∈ tables_1, d.before a0 Z = true) (ws : List Jvm.Cond) (a1 : Addr) (c0 c1 c2 : Int32) (zc : Int32) (b : Addr) (k : ClassId) (vf : Value) (h0 : Heap) (n0 : Nat) (Z0 : n0 ≤ h0.size) (X00 : Old Z n0 h0) (S_cs : Sta Z Z.heap "java/lang/String" "COMPACT_STRINGS" "Z" (.int zc)) (hz : ¬ zc = 0) (S_f : Sta Z Z.heap "jdk/internal/util/Preconditions" "SIOOBE_FORMATTER" "Ljava/util/function/BiFunction;" vf) (hf : vf.isRef = true) (hc0 : own_ch c0) (hc1 : own_ch c1) (hc2 : own_ch c2) (DS : StrF Z h0 a1 b k [own_b c0, own_b c1, own_b c2]) :
    MetFree l yn30 (head1 (Jvm.Cond.code yn30 prog_16_method_4_code 4 (some (.object "java/lang/String")) :: ws) ({ frames := 6, cells := 12, slots := 128, locals := 100 } : Room)) (fun a U => a = #[(.ref a1)] ∧ Z.Warmed39 U.vm ∧ U.heap = h0) (fun _ _ _ _ _ => True) (fun _ U o U' => ∃ v L, o = .returned v ∧ Qq Z ((((([] ++ [own_b 34]) ++ own_esc c0) ++ own_esc c1) ++ own_esc c2) ++ [own_b 34]) h0 n0 v U'.heap L ∧ FrameEnd U o U' L ({ frames := 6, cells := 12, slots := 128, locals := 100 } : Room).cells ({ frames := 6, cells := 12, slots := 128, locals := 100 } : Room).slots) := by
 refine MetFree.of_bodySF (plainFor_of_name pn_com_example_stack_check_trimmer_stackchecktrimmer_io_LineTokenizer) hisR ?_
 intro p e s m args below meth c s₁ Bd hml0 hP hK
 obtain ⟨rfl, hZ, hh⟩ := hP
 have hx := Bd.exec
 have hby := Bd.bytes
 have hml : c.maxLocals = 4 := hml0
 have hown : s.vm.findClass "com/example/stack_check_trimmer/stackchecktrimmer/io/LineTokenizer" = some m.cls := findClass_of_methodNamed Bd.named
 have hnm := (name_of_methodNamed Bd.named Bd.method).1
 have X0 : Stand p l e ({ frames := 6, cells := 12, slots := 128, locals := 100 } : Room) s m #[(.ref a1)] below meth c s₁ [] 0 0 := Stand.of_body Bd
 have e0 : s₁.heap = h0 := by rw [← hh, Bd.state]; rfl
 have N0 := Fr.nil n0
 obtain ⟨A0, hA0⟩ : ∃ A, A = s₁.setTop (entryFrame m #[(.ref a1)] 4) := ⟨_, rfl⟩
 have R0 : ∀ tgt, Steps p.tables e below (s₁.setTop (mkF m 0 #[.val (.ref a1), .unset, .unset, .unset] [])) tgt → Steps p.tables e below A0 tgt := fun tgt hgo => by rw [hA0]; exact castTop (ef_rm_quote3 m a1) hgo
 have w : ∀ (i : Nat) {d : Jvm.Cond}, tables_1[i]? = some d → d.before a0 Z = true := fun i d h => hw d (List.mem_of_getElem? h)
 obtain ⟨Ea, Fa_c, Fa_v, Va⟩ := DS
 have hZn := Z0
 have hK : Keep h0 h0 [] := Keep.refl _ _
 have hOld := X00
 obtain ⟨T1, h1, X1, e1, E1, A1, D1, -, st1⟩ := newO X0 hx hZ hown (w 26 rfl) (w 27 rfl) (w 28 rfl) e0 (g := (mkF m 0 #[.val (.ref a1), .unset, .unset, .unset] [])) rfl (hb hby d30_0) (by decide) (by decide)
 obtain ⟨sb, g1⟩ : ∃ z, z = h0.size := ⟨_, rfl⟩
 rw [← g1] at A1 D1 st1
 have ne_a1_sb : a1 ≠ sb := Nat.ne_of_lt (Nat.lt_of_lt_of_le Ea.lt (Nat.le_of_eq g1.symm))
 have ne_b_sb : b ≠ sb := Nat.ne_of_lt (Nat.lt_of_lt_of_le Va.lt (Nat.le_of_eq g1.symm))
 have ge_sb : n0 ≤ sb := Nat.le_trans hZn (Nat.le_of_eq g1.symm)
 have sz_sb : h0.size ≤ sb := Nat.le_trans hK.1 (Nat.le_of_eq g1.symm)
 replace hZn := Nat.le_trans hZn E1.1
 replace hK := hK.ext E1
 replace Ea := Ea.ext E1
 replace Fa_c := Fa_c.ext E1
 replace Fa_v := Fa_v.ext E1
 replace Va := Va.ext E1
 replace hOld := hOld.ext E1
 have E_sb := A1
 have F_value_sb : Fld Z h1 sb "java/lang/AbstractStringBuilder" "value" "[B" .null := D1 (Or.inl (w 52 rfl)) (ty := (.array .byte)) (by decide)
 have F_coder_sb : Fld Z h1 sb "java/lang/AbstractStringBuilder" "coder" "B" (.int 0) := D1 (Or.inl (w 54 rfl)) (ty := .byte) (by decide)
 have F_count_sb : Fld Z h1 sb "java/lang/AbstractStringBuilder" "count" "I" (.int 0) := D1 (Or.inl (w 66 rfl)) (ty := .int) (by decide)
 have R2 := Rc.st R0 st1
 have R3 : Rc p e below A0 (T1.setTop (mkF m 5 #[.val (.ref a1), .unset, .unset, .unset] [(.ref a1), (.ref sb), (.ref sb)])) := by
   intro tgt hgo
   refine R2 tgt ?_
   show Steps p.tables e below (T1.setTop (mkF m 3 #[.val (.ref a1), .unset, .unset, .unset] [(.ref sb)])) _
   refine XS.dup X1.here hx rfl (hb hby d30_3) rfl rfl ?_
   refine XS.aloadN X1.here hx rfl (hb hby d30_4) rfl rfl ?_
   exact hgo
 obtain ⟨cq4, kq4, q4a, q4b, q4c⟩ := isOf hZ e1 Ea
 obtain ⟨_, _, ⟨T4, L4, k4, n4⟩, -, X4, ⟨Lc4, hQ4, l4, y4, z4⟩, st4⟩ := X1.virtualBack hx (y := yn1) (z := yn1) hown (mvT hZ (w 29 rfl)) (mvT hZ (w 30 rfl)) (notFace_of_selects (args := #[]) (mvT hZ (w 32 rfl))) (mvT hZ (w 32 rfl)) (mvT hZ (w 31 rfl)) (by decide) (backOf (W := 2) (rm_length l Z a0 hw [] a1 zc b k [own_b c0, own_b c1, own_b c2] h1 n0 hZn hOld S_cs hz ⟨Ea, Fa_c, Fa_v, Va⟩) hZ (w 33 rfl) (w 3 rfl) (by decide) (by decide)) q4a q4c (g := (mkF m 5 #[.val (.ref a1), .unset, .unset, .unset] [(.ref a1), (.ref sb), (.ref sb)])) rfl (by rw [hml]; rfl) (Steps.refl _) (argsL := []) (rest := [(.ref sb), (.ref sb)]) (lenOf pd_13 rfl) rfl (by show 2 * 0 + _ ≤ _; exact Nat.le_of_eq rfl) (hb hby d30_5) (fun _ _ => ⟨rfl, e1, (by decide : 1 + 0 ≤ _), (by decide : 4 + 0 ≤ _)⟩)
 dsimp only [Pt.U, Pt.locs, Pt.cells, Pt.slots] at X4 l4 y4 z4 st4 hQ4
 subst l4 y4 z4
 obtain ⟨rfl, N4q, e4⟩ := hQ4
 have N4 := Fr.app N0 N4q
 have R5 := Rc.tr R3 st4
 have R6 : Rc p e below A0 (T4.setTop (mkF m 10 #[.val (.ref a1), .unset, .unset, .unset] [(.int 5), (.ref sb), (.ref sb)])) := by
   intro tgt hgo
   refine R5 tgt ?_
   show Steps p.tables e below (T4.setTop (mkF m 8 #[.val (.ref a1), .unset, .unset, .unset] [(.int 3), (.ref sb), (.ref sb)])) _
   refine XS.iconst X4.here hx rfl (hb hby d30_8) ?_
   refine XS.iadd X4.here hx rfl (hb hby d30_9) rfl ?_
   exact hgo
 have lt_a1_i := Ea.lt
 have lt_b_i := Va.lt
 have sz0_i := hK.1
 obtain ⟨_, _, ⟨T7, L7, k7, n7⟩, -, X7, ⟨Lc7, hQ7, l7, y7, z7⟩, st7⟩ := X4.specialBack hx (y := yn18) rfl hown (mvT hZ (w 40 rfl)) (mvT hZ (w 41 rfl)) (mvT hZ (w 42 rfl)) (by decide) (backOf (W := 1) (rm_sbi l Z a0 hw [] sb (5 : Int32) zc 5 h1 n0 hZn rfl (by decide) hOld S_cs hz ge_sb E_sb F_value_sb F_coder_sb F_count_sb) hZ (w 42 rfl) (w 28 rfl) (by decide) (by decide)) (g := (mkF m 10 #[.val (.ref a1), .unset, .unset, .unset] [(.int 5), (.ref sb), (.ref sb)])) rfl (by rw [hml]; rfl) (Steps.refl _) (a := sb) (argsL := [(.int 5)]) (rest := [(.ref sb)]) (lenOf pd_9 rfl) rfl (by show 2 * 0 + _ ≤ _; exact Nat.le_of_eq rfl) (hb hby d30_10) (fun _ _ => ⟨rfl, e4, (by decide : 1 + 1 ≤ _), (by decide : 4 + 5 ≤ _)⟩)
 dsimp only [Pt.U, Pt.locs, Pt.cells, Pt.slots] at X7 l7 y7 z7 st7 hQ7
 subst l7 y7 z7
 obtain ⟨rfl, N7q, K7, b0, k0, D0, hb0⟩ := hQ7
 have N7 := Fr.app N4 N7q
 have R8 := Rc.tr R6 st7
 have ne_a1_b0 : a1 ≠ b0 := Nat.ne_of_lt (Nat.lt_of_lt_of_le lt_a1_i hb0)
 have ne_b_b0 : b ≠ b0 := Nat.ne_of_lt (Nat.lt_of_lt_of_le lt_b_i hb0)
 replace hZn := Nat.le_trans hZn K7.1
 replace hK := hK.trans K7 (allS (Or.inr sz_sb) all0)
 replace Ea := Ea.keep K7
 replace Fa_c := Fa_c.keep K7 (ninS ne_a1_sb nin0)
 replace Fa_v := Fa_v.keep K7 (ninS ne_a1_sb nin0)
 replace Va := Va.keep K7 (ninS ne_b_sb nin0)
 replace hOld := hOld.keep K7 (allS ge_sb all0)
 replace E_sb := E_sb.keep K7
 have R9 : Rc p e below A0 (T7.setTop (mkF m 15 #[.val (.ref a1), .unset, .unset, .unset] [(.int 34), (.ref sb)])) := by
   intro tgt hgo
   refine R8 tgt ?_
   show Steps p.tables e below (T7.setTop (mkF m 13 #[.val (.ref a1), .unset, .unset, .unset] [(.ref sb)])) _
   refine XS.bipush X7.here hx rfl (hb hby d30_13) ?_
   exact hgo
 have lt_a1_b1 := Ea.lt
 have lt_b_b1 := Va.lt
 have sz0_b1 := hK.1
 obtain ⟨cq10, kq10, q10a, q10b, q10c⟩ := isOf hZ rfl E_sb
 obtain ⟨_, _, ⟨T10, L10, k10, n10⟩, -, X10, ⟨Lc10, hQ10, l10, y10, z10⟩, st10⟩ := X7.virtualBack hx (y := yn16) (z := yn16) hown (mvT hZ (w 55 rfl)) (mvT hZ (w 56 rfl)) (notFace_of_selects (args := #[]) (mvT hZ (w 58 rfl))) (mvT hZ (w 58 rfl)) (mvT hZ (w 57 rfl)) (by decide) (backOf (W := 0) (rm_app l Z a0 hw [] sb 34 zc b0 k0 5 [] T7.heap n0 hZn hOld S_cs hz own_c34 D0 (Or.inl ⟨by decide, by decide⟩)) hZ (w 59 rfl) (w 28 rfl) (by decide) (by decide)) q10a q10c (g := (mkF m 15 #[.val (.ref a1), .unset, .unset, .unset] [(.int 34), (.ref sb)])) rfl (by rw [hml]; rfl) (Steps.refl _) (argsL := [(.int 34)]) (rest := []) (lenOf pd_18 rfl) rfl (by show 2 * 0 + _ ≤ _; exact Nat.le_of_eq rfl) (hb hby d30_15) (fun _ _ => ⟨rfl, rfl, (by decide : 2 + 1 ≤ _), (by decide : 9 + 12 ≤ _)⟩)
 dsimp only [Pt.U, Pt.locs, Pt.cells, Pt.slots] at X10 l10 y10 z10 st10 hQ10
 subst l10 y10 z10
 obtain ⟨rfl, N10q, K10, b1, k1, D1, hb1⟩ := hQ10
 have N10 := Fr.app N7 N10q
 have R11 := Rc.tr R9 st10
 have ne_a1_b1 : a1 ≠ b1 := hb1.elim (fun q => by rw [q]; exact ne_a1_b0) fun q => Nat.ne_of_lt (Nat.lt_of_lt_of_le lt_a1_b1 q)
 have ne_b_b1 : b ≠ b1 := hb1.elim (fun q => by rw [q]; exact ne_b_b0) fun q => Nat.ne_of_lt (Nat.lt_of_lt_of_le lt_b_b1 q)
 replace hZn := Nat.le_trans hZn K10.1
 replace hK := hK.trans K10 (allS (Or.inr sz_sb) (allS (Or.inr (Nat.le_trans sz0_i hb0)) all0))
 replace Ea := Ea.keep K10
 replace Fa_c := Fa_c.keep K10 (ninS ne_a1_sb (ninS ne_a1_b0 nin0))
 replace Fa_v := Fa_v.keep K10 (ninS ne_a1_sb (ninS ne_a1_b0 nin0))
 replace Va := Va.keep K10 (ninS ne_b_sb (ninS ne_b_b0 nin0))
 replace hOld := hOld.keep K10 (allS D0.2.2.2.2.2.2.2.1 (allS D0.2.2.2.2.2.2.2.2 all0))
 replace E_sb := E_sb.keep K10
 have R12 : Rc p e below A0 (T10.setTop (mkF m 23 #[.val (.ref a1), .val (.ref sb), .val (.int 0), .unset] [(.ref a1), (.int 0)])) := by
   intro tgt hgo
   refine R11 tgt ?_
   show Steps p.tables e below (T10.setTop (mkF m 18 #[.val (.ref a1), .unset, .unset, .unset] [(.ref sb)])) _
   refine XS.astoreN X10.here hx rfl (hb hby d30_18) rfl rfl (l' := #[.val (.ref a1), .val (.ref sb), .unset, .unset]) rfl ?_
   refine XS.iconst X10.here hx rfl (hb hby d30_19) ?_
   refine XS.istoreN X10.here hx rfl (hb hby d30_20) rfl (l' := #[.val (.ref a1), .val (.ref sb), .val (.int 0), .unset]) rfl ?_
   refine XS.iloadN X10.here hx rfl (hb hby d30_21) rfl ?_
   refine XS.aloadN X10.here hx rfl (hb hby d30_22) rfl rfl ?_
   exact hgo
 obtain ⟨cq13, kq13, q13a, q13b, q13c⟩ := isOf hZ rfl Ea
 obtain ⟨_, _, ⟨T13, L13, k13, n13⟩, -, X13, ⟨Lc13, hQ13, l13, y13, z13⟩, st13⟩ := X10.virtualBack hx (y := yn1) (z := yn1) hown (mvT hZ (w 29 rfl)) (mvT hZ (w 30 rfl)) (notFace_of_selects (args := #[]) (mvT hZ (w 32 rfl))) (mvT hZ (w 32 rfl)) (mvT hZ (w 31 rfl)) (by decide) (backOf (W := 1) (rm_length l Z a0 hw [] a1 zc b k [own_b c0, own_b c1, own_b c2] T10.heap n0 hZn hOld S_cs hz ⟨Ea, Fa_c, Fa_v, Va⟩) hZ (w 33 rfl) (w 3 rfl) (by decide) (by decide)) q13a q13c (g := (mkF m 23 #[.val (.ref a1), .val (.ref sb), .val (.int 0), .unset] [(.ref a1), (.int 0)])) rfl (by rw [hml]; rfl) (Steps.refl _) (argsL := []) (rest := [(.int 0)]) (lenOf pd_13 rfl) rfl (by show 2 * 0 + _ ≤ _; exact Nat.le_of_eq rfl) (hb hby d30_23) (fun _ _ => ⟨rfl, rfl, (by decide : 3 + 0 ≤ _), (by decide : 21 + 0 ≤ _)⟩)
 dsimp only [Pt.U, Pt.locs, Pt.cells, Pt.slots] at X13 l13 y13 z13 st13 hQ13
 subst l13 y13 z13
 obtain ⟨rfl, N13q, e13⟩ := hQ13
 have N13 := Fr.app N10 N13q
 have R14 := Rc.tr R12 st13
 have R15 : Rc p e below A0 (T13.setTop (mkF m 31 #[.val (.ref a1), .val (.ref sb), .val (.int 0), .unset] [(.int 0), (.ref a1)])) := by
   intro tgt hgo
   refine R14 tgt ?_
   show Steps p.tables e below (T13.setTop (mkF m 26 #[.val (.ref a1), .val (.ref sb), .val (.int 0), .unset] [(.int 3), (.int 0)])) _
   refine XS.icmpNo X13.here hx rfl (hb hby d30_26) rfl (tlt (by decide : (0 : Int32) < (3 : Int32))).2.1 ?_
   refine XS.aloadN X13.here hx rfl (hb hby d30_29) rfl rfl ?_
   refine XS.iloadN X13.here hx rfl (hb hby d30_30) rfl ?_
   exact hgo
 obtain ⟨cq16, kq16, q16a, q16b, q16c⟩ := isOf hZ e13 Ea
 obtain ⟨_, _, ⟨T16, L16, k16, n16⟩, -, X16, ⟨Lc16, hQ16, l16, y16, z16⟩, st16⟩ := X13.virtualBack hx (y := yn6) (z := yn6) hown (mvT hZ (w 152 rfl)) (mvT hZ (w 122 rfl)) (notFace_of_selects (args := #[]) (mvT hZ (w 124 rfl))) (mvT hZ (w 124 rfl)) (mvT hZ (w 123 rfl)) (by decide) (backOf (W := 0) (rm_charAt l Z a0 hw [] a1 (0 : Int32) zc b k [own_b c0, own_b c1, own_b c2] 0 c0 vf T10.heap n0 hZn rfl hOld S_cs hz S_f hf (by decide) (by show Int32.ofNat 0 < Int32.ofNat 3; decide) rfl hc0 ⟨Ea, Fa_c, Fa_v, Va⟩) hZ (w 125 rfl) (w 3 rfl) (by decide) (by decide)) q16a q16c (g := (mkF m 31 #[.val (.ref a1), .val (.ref sb), .val (.int 0), .unset] [(.int 0), (.ref a1)])) rfl (by rw [hml]; rfl) (Steps.refl _) (argsL := [(.int 0)]) (rest := []) (lenOf pd_17 rfl) rfl (by show 2 * 0 + _ ≤ _; exact Nat.le_of_eq rfl) (hb hby d30_31) (fun _ _ => ⟨rfl, e13, (by decide : 3 + 0 ≤ _), (by decide : 21 + 0 ≤ _)⟩)
 dsimp only [Pt.U, Pt.locs, Pt.cells, Pt.slots] at X16 l16 y16 z16 st16 hQ16
 subst l16 y16 z16
 obtain ⟨rfl, N16q, e16⟩ := hQ16
 have N16 := Fr.app N13 N16q
 have R17 := Rc.tr R15 st16
 have R18 : Rc p e below A0 (T16.setTop (mkF m 35 #[.val (.ref a1), .val (.ref sb), .val (.int 0), .val (.int c0)] [])) := by
   intro tgt hgo
   refine R17 tgt ?_
   show Steps p.tables e below (T16.setTop (mkF m 34 #[.val (.ref a1), .val (.ref sb), .val (.int 0), .unset] [(.int c0)])) _
   refine XS.istoreN X16.here hx rfl (hb hby d30_34) rfl (l' := #[.val (.ref a1), .val (.ref sb), .val (.int 0), .val (.int c0)]) rfl ?_
   exact hgo
 have hM : 3 ≤ 5 ∧ 5 ≤ 5 := by decide
 have hNn : own_cap 0 5 = 5 ∨ own_cap 0 5 = 2 * 5 + 2 := Or.inl rfl
 have hl : (([] ++ [own_b 34])).length ≤ own_cap 0 5 := by decide
 have hlb : (([] ++ [own_b 34])).length ≤ 1 := by decide
 have lt_a1_b2 := Ea.lt
 have lt_b_b2 := Va.lt
 have sz0_b2 := hK.1
 obtain ⟨T19, h19, L19, b2, k19, N19', X19, e19, N19, ⟨D19, hNn19, hl19, K19, hb19⟩, st19⟩ := seg_q a1 sb (0 : Int32) c0 zc b1 k1 _ 5 ([] ++ [own_b 34]) X16 hx hZ hw hby hml hown e16 hZn N16 hOld S_cs hz hc0 D1 hM hNn hl (by have := hlb; omega) (by decide)
 replace hNn := hNn19
 replace hl := hl19
 replace hlb : ((([] ++ [own_b 34]) ++ own_esc c0)).length ≤ 3 := by rw [List.length_append]; have := own_esc_len c0; omega
 have ne_a1_b2 : a1 ≠ b2 := hb19.elim (fun q => by rw [q]; exact ne_a1_b1) fun q => Nat.ne_of_lt (Nat.lt_of_lt_of_le lt_a1_b2 q)
 have ne_b_b2 : b ≠ b2 := hb19.elim (fun q => by rw [q]; exact ne_b_b1) fun q => Nat.ne_of_lt (Nat.lt_of_lt_of_le lt_b_b2 q)
 replace hZn := Nat.le_trans hZn K19.1
 replace hK := hK.trans K19 (allS (Or.inr sz_sb) (allS (hb1.elim (fun q => by rw [q]; exact (Or.inr (Nat.le_trans sz0_i hb0))) fun q => Or.inr (Nat.le_trans sz0_b1 q)) all0))
 replace Ea := Ea.keep K19
 replace Fa_c := Fa_c.keep K19 (ninS ne_a1_sb (ninS ne_a1_b1 nin0))
 replace Fa_v := Fa_v.keep K19 (ninS ne_a1_sb (ninS ne_a1_b1 nin0))
 replace Va := Va.keep K19 (ninS ne_b_sb (ninS ne_b_b1 nin0))
 replace hOld := hOld.keep K19 (allS D1.2.2.2.2.2.2.2.1 (allS D1.2.2.2.2.2.2.2.2 all0))
 replace E_sb := E_sb.keep K19
 have R20 := Rc.st R18 st19
 have R21 : Rc p e below A0 (T19.setTop (mkF m 23 #[.val (.ref a1), .val (.ref sb), .val (.int 1), .val (.int c0)] [(.ref a1), (.int 1)])) := by
   intro tgt hgo
   refine R20 tgt ?_
   show Steps p.tables e below (T19.setTop (mkF m 60 #[.val (.ref a1), .val (.ref sb), .val (.int 0), .val (.int c0)] [])) _
   refine XS.iinc X19.here hx rfl (hb hby d30_60) rfl (l' := #[.val (.ref a1), .val (.ref sb), .val (.int 1), .val (.int c0)]) rfl ?_
   refine XS.goto X19.here hx rfl (pc0 := 63) (pc' := 21) rfl (hb hby d30_63) (by decide) (by decide) ?_
   refine XS.iloadN X19.here hx rfl (hb hby d30_21) rfl ?_
   refine XS.aloadN X19.here hx rfl (hb hby d30_22) rfl rfl ?_
   exact hgo
 obtain ⟨cq22, kq22, q22a, q22b, q22c⟩ := isOf hZ e19 Ea
 obtain ⟨_, _, ⟨T22, L22, k22, n22⟩, -, X22, ⟨Lc22, hQ22, l22, y22, z22⟩, st22⟩ := X19.virtualBack hx (y := yn1) (z := yn1) hown (mvT hZ (w 29 rfl)) (mvT hZ (w 30 rfl)) (notFace_of_selects (args := #[]) (mvT hZ (w 32 rfl))) (mvT hZ (w 32 rfl)) (mvT hZ (w 31 rfl)) (by decide) (backOf (W := 1) (rm_length l Z a0 hw [] a1 zc b k [own_b c0, own_b c1, own_b c2] h19 n0 hZn hOld S_cs hz ⟨Ea, Fa_c, Fa_v, Va⟩) hZ (w 33 rfl) (w 3 rfl) (by decide) (by decide)) q22a q22c (g := (mkF m 23 #[.val (.ref a1), .val (.ref sb), .val (.int 1), .val (.int c0)] [(.ref a1), (.int 1)])) rfl (by rw [hml]; rfl) (Steps.refl _) (argsL := []) (rest := [(.int 1)]) (lenOf pd_13 rfl) rfl (by show 2 * 0 + _ ≤ _; exact Nat.le_of_eq rfl) (hb hby d30_23) (fun _ _ => ⟨rfl, e19, (by decide : 5 + 0 ≤ _), (by decide : 45 + 0 ≤ _)⟩)
 dsimp only [Pt.U, Pt.locs, Pt.cells, Pt.slots] at X22 l22 y22 z22 st22 hQ22
 subst l22 y22 z22
 obtain ⟨rfl, N22q, e22⟩ := hQ22
 have N22 := Fr.app N19 N22q
 have R23 := Rc.tr R21 st22
 have R24 : Rc p e below A0 (T22.setTop (mkF m 31 #[.val (.ref a1), .val (.ref sb), .val (.int 1), .val (.int c0)] [(.int 1), (.ref a1)])) := by
   intro tgt hgo
   refine R23 tgt ?_
   show Steps p.tables e below (T22.setTop (mkF m 26 #[.val (.ref a1), .val (.ref sb), .val (.int 1), .val (.int c0)] [(.int 3), (.int 1)])) _
   refine XS.icmpNo X22.here hx rfl (hb hby d30_26) rfl (tlt (by decide : (1 : Int32) < (3 : Int32))).2.1 ?_
   refine XS.aloadN X22.here hx rfl (hb hby d30_29) rfl rfl ?_
   refine XS.iloadN X22.here hx rfl (hb hby d30_30) rfl ?_
   exact hgo
 obtain ⟨cq25, kq25, q25a, q25b, q25c⟩ := isOf hZ e22 Ea
 obtain ⟨_, _, ⟨T25, L25, k25, n25⟩, -, X25, ⟨Lc25, hQ25, l25, y25, z25⟩, st25⟩ := X22.virtualBack hx (y := yn6) (z := yn6) hown (mvT hZ (w 152 rfl)) (mvT hZ (w 122 rfl)) (notFace_of_selects (args := #[]) (mvT hZ (w 124 rfl))) (mvT hZ (w 124 rfl)) (mvT hZ (w 123 rfl)) (by decide) (backOf (W := 0) (rm_charAt l Z a0 hw [] a1 (1 : Int32) zc b k [own_b c0, own_b c1, own_b c2] 1 c1 vf h19 n0 hZn rfl hOld S_cs hz S_f hf (by decide) (by show Int32.ofNat 1 < Int32.ofNat 3; decide) rfl hc1 ⟨Ea, Fa_c, Fa_v, Va⟩) hZ (w 125 rfl) (w 3 rfl) (by decide) (by decide)) q25a q25c (g := (mkF m 31 #[.val (.ref a1), .val (.ref sb), .val (.int 1), .val (.int c0)] [(.int 1), (.ref a1)])) rfl (by rw [hml]; rfl) (Steps.refl _) (argsL := [(.int 1)]) (rest := []) (lenOf pd_17 rfl) rfl (by show 2 * 0 + _ ≤ _; exact Nat.le_of_eq rfl) (hb hby d30_31) (fun _ _ => ⟨rfl, e22, (by decide : 5 + 0 ≤ _), (by decide : 45 + 0 ≤ _)⟩)
 dsimp only [Pt.U, Pt.locs, Pt.cells, Pt.slots] at X25 l25 y25 z25 st25 hQ25
 subst l25 y25 z25
 obtain ⟨rfl, N25q, e25⟩ := hQ25
 have N25 := Fr.app N22 N25q
 have R26 := Rc.tr R24 st25
 have R27 : Rc p e below A0 (T25.setTop (mkF m 35 #[.val (.ref a1), .val (.ref sb), .val (.int 1), .val (.int c1)] [])) := by
   intro tgt hgo
   refine R26 tgt ?_
   show Steps p.tables e below (T25.setTop (mkF m 34 #[.val (.ref a1), .val (.ref sb), .val (.int 1), .val (.int c0)] [(.int c1)])) _
   refine XS.istoreN X25.here hx rfl (hb hby d30_34) rfl (l' := #[.val (.ref a1), .val (.ref sb), .val (.int 1), .val (.int c1)]) rfl ?_
   exact hgo
 have lt_a1_b3 := Ea.lt
 have lt_b_b3 := Va.lt
 have sz0_b3 := hK.1
 obtain ⟨T28, h28, L28, b3, k28, N28', X28, e28, N28, ⟨D28, hNn28, hl28, K28, hb28⟩, st28⟩ := seg_q a1 sb (1 : Int32) c1 zc b2 k19 _ 5 (([] ++ [own_b 34]) ++ own_esc c0) X25 hx hZ hw hby hml hown e25 hZn N25 hOld S_cs hz hc1 D19 hM hNn hl (by have := hlb; omega) (by decide)
 replace hNn := hNn28
 replace hl := hl28
 replace hlb : (((([] ++ [own_b 34]) ++ own_esc c0) ++ own_esc c1)).length ≤ 5 := by rw [List.length_append]; have := own_esc_len c1; omega
 have ne_a1_b3 : a1 ≠ b3 := hb28.elim (fun q => by rw [q]; exact ne_a1_b2) fun q => Nat.ne_of_lt (Nat.lt_of_lt_of_le lt_a1_b3 q)
 have ne_b_b3 : b ≠ b3 := hb28.elim (fun q => by rw [q]; exact ne_b_b2) fun q => Nat.ne_of_lt (Nat.lt_of_lt_of_le lt_b_b3 q)
 replace hZn := Nat.le_trans hZn K28.1
 replace hK := hK.trans K28 (allS (Or.inr sz_sb) (allS (hb19.elim (fun q => by rw [q]; exact (hb1.elim (fun q => by rw [q]; exact (Or.inr (Nat.le_trans sz0_i hb0))) fun q => Or.inr (Nat.le_trans sz0_b1 q))) fun q => Or.inr (Nat.le_trans sz0_b2 q)) all0))
 replace Ea := Ea.keep K28
 replace Fa_c := Fa_c.keep K28 (ninS ne_a1_sb (ninS ne_a1_b2 nin0))
 replace Fa_v := Fa_v.keep K28 (ninS ne_a1_sb (ninS ne_a1_b2 nin0))
 replace Va := Va.keep K28 (ninS ne_b_sb (ninS ne_b_b2 nin0))
 replace hOld := hOld.keep K28 (allS D19.2.2.2.2.2.2.2.1 (allS D19.2.2.2.2.2.2.2.2 all0))
 replace E_sb := E_sb.keep K28
 have R29 := Rc.st R27 st28
 have R30 : Rc p e below A0 (T28.setTop (mkF m 23 #[.val (.ref a1), .val (.ref sb), .val (.int 2), .val (.int c1)] [(.ref a1), (.int 2)])) := by
   intro tgt hgo
   refine R29 tgt ?_
   show Steps p.tables e below (T28.setTop (mkF m 60 #[.val (.ref a1), .val (.ref sb), .val (.int 1), .val (.int c1)] [])) _
   refine XS.iinc X28.here hx rfl (hb hby d30_60) rfl (l' := #[.val (.ref a1), .val (.ref sb), .val (.int 2), .val (.int c1)]) rfl ?_
   refine XS.goto X28.here hx rfl (pc0 := 63) (pc' := 21) rfl (hb hby d30_63) (by decide) (by decide) ?_
   refine XS.iloadN X28.here hx rfl (hb hby d30_21) rfl ?_
   refine XS.aloadN X28.here hx rfl (hb hby d30_22) rfl rfl ?_
   exact hgo
 obtain ⟨cq31, kq31, q31a, q31b, q31c⟩ := isOf hZ e28 Ea
 obtain ⟨_, _, ⟨T31, L31, k31, n31⟩, -, X31, ⟨Lc31, hQ31, l31, y31, z31⟩, st31⟩ := X28.virtualBack hx (y := yn1) (z := yn1) hown (mvT hZ (w 29 rfl)) (mvT hZ (w 30 rfl)) (notFace_of_selects (args := #[]) (mvT hZ (w 32 rfl))) (mvT hZ (w 32 rfl)) (mvT hZ (w 31 rfl)) (by decide) (backOf (W := 1) (rm_length l Z a0 hw [] a1 zc b k [own_b c0, own_b c1, own_b c2] h28 n0 hZn hOld S_cs hz ⟨Ea, Fa_c, Fa_v, Va⟩) hZ (w 33 rfl) (w 3 rfl) (by decide) (by decide)) q31a q31c (g := (mkF m 23 #[.val (.ref a1), .val (.ref sb), .val (.int 2), .val (.int c1)] [(.ref a1), (.int 2)])) rfl (by rw [hml]; rfl) (Steps.refl _) (argsL := []) (rest := [(.int 2)]) (lenOf pd_13 rfl) rfl (by show 2 * 0 + _ ≤ _; exact Nat.le_of_eq rfl) (hb hby d30_23) (fun _ _ => ⟨rfl, e28, (by decide : 7 + 0 ≤ _), (by decide : 69 + 0 ≤ _)⟩)
 dsimp only [Pt.U, Pt.locs, Pt.cells, Pt.slots] at X31 l31 y31 z31 st31 hQ31
 subst l31 y31 z31
 obtain ⟨rfl, N31q, e31⟩ := hQ31
 have N31 := Fr.app N28 N31q
 have R32 := Rc.tr R30 st31
 have R33 : Rc p e below A0 (T31.setTop (mkF m 31 #[.val (.ref a1), .val (.ref sb), .val (.int 2), .val (.int c1)] [(.int 2), (.ref a1)])) := by
   intro tgt hgo
   refine R32 tgt ?_
   show Steps p.tables e below (T31.setTop (mkF m 26 #[.val (.ref a1), .val (.ref sb), .val (.int 2), .val (.int c1)] [(.int 3), (.int 2)])) _
   refine XS.icmpNo X31.here hx rfl (hb hby d30_26) rfl (tlt (by decide : (2 : Int32) < (3 : Int32))).2.1 ?_
   refine XS.aloadN X31.here hx rfl (hb hby d30_29) rfl rfl ?_
   refine XS.iloadN X31.here hx rfl (hb hby d30_30) rfl ?_
   exact hgo
 obtain ⟨cq34, kq34, q34a, q34b, q34c⟩ := isOf hZ e31 Ea
 obtain ⟨_, _, ⟨T34, L34, k34, n34⟩, -, X34, ⟨Lc34, hQ34, l34, y34, z34⟩, st34⟩ := X31.virtualBack hx (y := yn6) (z := yn6) hown (mvT hZ (w 152 rfl)) (mvT hZ (w 122 rfl)) (notFace_of_selects (args := #[]) (mvT hZ (w 124 rfl))) (mvT hZ (w 124 rfl)) (mvT hZ (w 123 rfl)) (by decide) (backOf (W := 0) (rm_charAt l Z a0 hw [] a1 (2 : Int32) zc b k [own_b c0, own_b c1, own_b c2] 2 c2 vf h28 n0 hZn rfl hOld S_cs hz S_f hf (by decide) (by show Int32.ofNat 2 < Int32.ofNat 3; decide) rfl hc2 ⟨Ea, Fa_c, Fa_v, Va⟩) hZ (w 125 rfl) (w 3 rfl) (by decide) (by decide)) q34a q34c (g := (mkF m 31 #[.val (.ref a1), .val (.ref sb), .val (.int 2), .val (.int c1)] [(.int 2), (.ref a1)])) rfl (by rw [hml]; rfl) (Steps.refl _) (argsL := [(.int 2)]) (rest := []) (lenOf pd_17 rfl) rfl (by show 2 * 0 + _ ≤ _; exact Nat.le_of_eq rfl) (hb hby d30_31) (fun _ _ => ⟨rfl, e31, (by decide : 7 + 0 ≤ _), (by decide : 69 + 0 ≤ _)⟩)
 dsimp only [Pt.U, Pt.locs, Pt.cells, Pt.slots] at X34 l34 y34 z34 st34 hQ34
 subst l34 y34 z34
 obtain ⟨rfl, N34q, e34⟩ := hQ34
 have N34 := Fr.app N31 N34q
 have R35 := Rc.tr R33 st34
 have R36 : Rc p e below A0 (T34.setTop (mkF m 35 #[.val (.ref a1), .val (.ref sb), .val (.int 2), .val (.int c2)] [])) := by
   intro tgt hgo
   refine R35 tgt ?_
   show Steps p.tables e below (T34.setTop (mkF m 34 #[.val (.ref a1), .val (.ref sb), .val (.int 2), .val (.int c1)] [(.int c2)])) _
   refine XS.istoreN X34.here hx rfl (hb hby d30_34) rfl (l' := #[.val (.ref a1), .val (.ref sb), .val (.int 2), .val (.int c2)]) rfl ?_
   exact hgo
 have lt_a1_b4 := Ea.lt
 have lt_b_b4 := Va.lt
 have sz0_b4 := hK.1
 obtain ⟨T37, h37, L37, b4, k37, N37', X37, e37, N37, ⟨D37, hNn37, hl37, K37, hb37⟩, st37⟩ := seg_q a1 sb (2 : Int32) c2 zc b3 k28 _ 5 ((([] ++ [own_b 34]) ++ own_esc c0) ++ own_esc c1) X34 hx hZ hw hby hml hown e34 hZn N34 hOld S_cs hz hc2 D28 hM hNn hl (by have := hlb; omega) (by decide)
 replace hNn := hNn37
 replace hl := hl37
 replace hlb : ((((([] ++ [own_b 34]) ++ own_esc c0) ++ own_esc c1) ++ own_esc c2)).length ≤ 7 := by rw [List.length_append]; have := own_esc_len c2; omega
 have ne_a1_b4 : a1 ≠ b4 := hb37.elim (fun q => by rw [q]; exact ne_a1_b3) fun q => Nat.ne_of_lt (Nat.lt_of_lt_of_le lt_a1_b4 q)
 have ne_b_b4 : b ≠ b4 := hb37.elim (fun q => by rw [q]; exact ne_b_b3) fun q => Nat.ne_of_lt (Nat.lt_of_lt_of_le lt_b_b4 q)
 replace hZn := Nat.le_trans hZn K37.1
 replace hK := hK.trans K37 (allS (Or.inr sz_sb) (allS (hb28.elim (fun q => by rw [q]; exact (hb19.elim (fun q => by rw [q]; exact (hb1.elim (fun q => by rw [q]; exact (Or.inr (Nat.le_trans sz0_i hb0))) fun q => Or.inr (Nat.le_trans sz0_b1 q))) fun q => Or.inr (Nat.le_trans sz0_b2 q))) fun q => Or.inr (Nat.le_trans sz0_b3 q)) all0))
 replace Ea := Ea.keep K37
 replace Fa_c := Fa_c.keep K37 (ninS ne_a1_sb (ninS ne_a1_b3 nin0))
 replace Fa_v := Fa_v.keep K37 (ninS ne_a1_sb (ninS ne_a1_b3 nin0))
 replace Va := Va.keep K37 (ninS ne_b_sb (ninS ne_b_b3 nin0))
 replace hOld := hOld.keep K37 (allS D28.2.2.2.2.2.2.2.1 (allS D28.2.2.2.2.2.2.2.2 all0))
 replace E_sb := E_sb.keep K37
 have R38 := Rc.st R36 st37
 have R39 : Rc p e below A0 (T37.setTop (mkF m 23 #[.val (.ref a1), .val (.ref sb), .val (.int 3), .val (.int c2)] [(.ref a1), (.int 3)])) := by
   intro tgt hgo
   refine R38 tgt ?_
   show Steps p.tables e below (T37.setTop (mkF m 60 #[.val (.ref a1), .val (.ref sb), .val (.int 2), .val (.int c2)] [])) _
   refine XS.iinc X37.here hx rfl (hb hby d30_60) rfl (l' := #[.val (.ref a1), .val (.ref sb), .val (.int 3), .val (.int c2)]) rfl ?_
   refine XS.goto X37.here hx rfl (pc0 := 63) (pc' := 21) rfl (hb hby d30_63) (by decide) (by decide) ?_
   refine XS.iloadN X37.here hx rfl (hb hby d30_21) rfl ?_
   refine XS.aloadN X37.here hx rfl (hb hby d30_22) rfl rfl ?_
   exact hgo
 obtain ⟨cq40, kq40, q40a, q40b, q40c⟩ := isOf hZ e37 Ea
 obtain ⟨_, _, ⟨T40, L40, k40, n40⟩, -, X40, ⟨Lc40, hQ40, l40, y40, z40⟩, st40⟩ := X37.virtualBack hx (y := yn1) (z := yn1) hown (mvT hZ (w 29 rfl)) (mvT hZ (w 30 rfl)) (notFace_of_selects (args := #[]) (mvT hZ (w 32 rfl))) (mvT hZ (w 32 rfl)) (mvT hZ (w 31 rfl)) (by decide) (backOf (W := 1) (rm_length l Z a0 hw [] a1 zc b k [own_b c0, own_b c1, own_b c2] h37 n0 hZn hOld S_cs hz ⟨Ea, Fa_c, Fa_v, Va⟩) hZ (w 33 rfl) (w 3 rfl) (by decide) (by decide)) q40a q40c (g := (mkF m 23 #[.val (.ref a1), .val (.ref sb), .val (.int 3), .val (.int c2)] [(.ref a1), (.int 3)])) rfl (by rw [hml]; rfl) (Steps.refl _) (argsL := []) (rest := [(.int 3)]) (lenOf pd_13 rfl) rfl (by show 2 * 0 + _ ≤ _; exact Nat.le_of_eq rfl) (hb hby d30_23) (fun _ _ => ⟨rfl, e37, (by decide : 9 + 0 ≤ _), (by decide : 93 + 0 ≤ _)⟩)
 dsimp only [Pt.U, Pt.locs, Pt.cells, Pt.slots] at X40 l40 y40 z40 st40 hQ40
 subst l40 y40 z40
 obtain ⟨rfl, N40q, e40⟩ := hQ40
 have N40 := Fr.app N37 N40q
 have R41 := Rc.tr R39 st40
 have R42 : Rc p e below A0 (T40.setTop (mkF m 69 #[.val (.ref a1), .val (.ref sb), .val (.int 3), .val (.int c2)] [(.int 34), (.ref sb)])) := by
   intro tgt hgo
   refine R41 tgt ?_
   show Steps p.tables e below (T40.setTop (mkF m 26 #[.val (.ref a1), .val (.ref sb), .val (.int 3), .val (.int c2)] [(.int 3), (.int 3)])) _
   refine XS.icmpYes X40.here hx rfl (pc0 := 26) (pc' := 66) rfl (hb hby d30_26) rfl (flt (by decide : ¬ ((3 : Int32) < (3 : Int32)))).2.1 (by decide) (by decide) ?_
   refine XS.aloadN X40.here hx rfl (hb hby d30_66) rfl rfl ?_
   refine XS.bipush X40.here hx rfl (hb hby d30_67) ?_
   exact hgo
 have lt_a1_bz := Ea.lt
 have lt_b_bz := Va.lt
 have sz0_bz := hK.1
 obtain ⟨cq43, kq43, q43a, q43b, q43c⟩ := isOf hZ e40 E_sb
 obtain ⟨_, _, ⟨T43, L43, k43, n43⟩, -, X43, ⟨Lc43, hQ43, l43, y43, z43⟩, st43⟩ := X40.virtualBack hx (y := yn16) (z := yn16) hown (mvT hZ (w 55 rfl)) (mvT hZ (w 56 rfl)) (notFace_of_selects (args := #[]) (mvT hZ (w 58 rfl))) (mvT hZ (w 58 rfl)) (mvT hZ (w 57 rfl)) (by decide) (backOf (W := 0) (rm_app l Z a0 hw [] sb 34 zc b4 k37 _ (((([] ++ [own_b 34]) ++ own_esc c0) ++ own_esc c1) ++ own_esc c2) h37 n0 hZn hOld S_cs hz own_c34 D37 (own_capinv hM hNn hl (by have := hlb; omega)).1) hZ (w 59 rfl) (w 28 rfl) (by decide) (by decide)) q43a q43c (g := (mkF m 69 #[.val (.ref a1), .val (.ref sb), .val (.int 3), .val (.int c2)] [(.int 34), (.ref sb)])) rfl (by rw [hml]; rfl) (Steps.refl _) (argsL := [(.int 34)]) (rest := []) (lenOf pd_18 rfl) rfl (by show 2 * 0 + _ ≤ _; exact Nat.le_of_eq rfl) (hb hby d30_69) (fun _ _ => ⟨rfl, e40, (by decide : 9 + 1 ≤ _), (by decide : 93 + 12 ≤ _)⟩)
 dsimp only [Pt.U, Pt.locs, Pt.cells, Pt.slots] at X43 l43 y43 z43 st43 hQ43
 subst l43 y43 z43
 obtain ⟨rfl, N43q, K43, bz, kz, Dz, hbz⟩ := hQ43
 have N43 := Fr.app N40 N43q
 have R44 := Rc.tr R42 st43
 have ne_a1_bz : a1 ≠ bz := hbz.elim (fun q => by rw [q]; exact ne_a1_b4) fun q => Nat.ne_of_lt (Nat.lt_of_lt_of_le lt_a1_bz q)
 have ne_b_bz : b ≠ bz := hbz.elim (fun q => by rw [q]; exact ne_b_b4) fun q => Nat.ne_of_lt (Nat.lt_of_lt_of_le lt_b_bz q)
 replace hZn := Nat.le_trans hZn K43.1
 replace hK := hK.trans K43 (allS (Or.inr sz_sb) (allS (hb37.elim (fun q => by rw [q]; exact (hb28.elim (fun q => by rw [q]; exact (hb19.elim (fun q => by rw [q]; exact (hb1.elim (fun q => by rw [q]; exact (Or.inr (Nat.le_trans sz0_i hb0))) fun q => Or.inr (Nat.le_trans sz0_b1 q))) fun q => Or.inr (Nat.le_trans sz0_b2 q))) fun q => Or.inr (Nat.le_trans sz0_b3 q))) fun q => Or.inr (Nat.le_trans sz0_b4 q)) all0))
 replace Ea := Ea.keep K43
 replace Fa_c := Fa_c.keep K43 (ninS ne_a1_sb (ninS ne_a1_b4 nin0))
 replace Fa_v := Fa_v.keep K43 (ninS ne_a1_sb (ninS ne_a1_b4 nin0))
 replace Va := Va.keep K43 (ninS ne_b_sb (ninS ne_b_b4 nin0))
 replace hOld := hOld.keep K43 (allS D37.2.2.2.2.2.2.2.1 (allS D37.2.2.2.2.2.2.2.2 all0))
 replace E_sb := E_sb.keep K43
 have sz0_z := hK.1
 obtain ⟨cq45, kq45, q45a, q45b, q45c⟩ := isOf hZ rfl E_sb
 obtain ⟨_, _, ⟨T45, L45, k45, n45⟩, -, X45, ⟨Lc45, hQ45, l45, y45, z45⟩, st45⟩ := X43.virtualBack hx (y := yn27) (z := yn27) hown (mvT hZ (w 81 rfl)) (mvT hZ (w 82 rfl)) (notFace_of_selects (args := #[]) (mvT hZ (w 84 rfl))) (mvT hZ (w 84 rfl)) (mvT hZ (w 83 rfl)) (by decide) (backOf (W := 0) (rm_ts l Z a0 hw [] sb zc bz kz _ ((((([] ++ [own_b 34]) ++ own_esc c0) ++ own_esc c1) ++ own_esc c2) ++ [own_b 34]) T43.heap n0 hZn hOld S_cs hz Dz (Nat.le_trans (Nat.le_of_eq List.length_append) (own_capinv hM hNn hl (by have := hlb; omega)).2.2) (by rcases (own_capinv hM hNn hl (by have := hlb; omega)).2.1 with q | q <;> (rw [q]; decide))) hZ (w 85 rfl) (w 28 rfl) (by decide) (by decide)) q45a q45c (g := (mkF m 72 #[.val (.ref a1), .val (.ref sb), .val (.int 3), .val (.int c2)] [(.ref sb)])) rfl (by rw [hml]; rfl) (Steps.refl _) (argsL := []) (rest := []) (lenOf pd_19 rfl) rfl (by show 2 * 0 + _ ≤ _; exact Nat.le_of_eq rfl) (hb hby d30_72) (fun _ _ => ⟨rfl, rfl, (by decide : 10 + 2 ≤ _), (by decide : 105 + 16 ≤ _)⟩)
 dsimp only [Pt.U, Pt.locs, Pt.cells, Pt.slots] at X45 l45 y45 z45 st45 hQ45
 subst l45 y45 z45
 obtain ⟨⟨x45, rfl, tt, ktt, szx, SFx⟩, N45q, K45⟩ := hQ45
 have N45 := Fr.app N43 N45q
 have R46 := Rc.tr R44 st45
 replace hZn := Nat.le_trans hZn K45.1
 replace hK := hK.trans K45 all0
 replace Ea := Ea.keep K45
 replace Fa_c := Fa_c.keep K45 nin0
 replace Fa_v := Fa_v.keep K45 nin0
 replace Va := Va.keep K45 nin0
 replace hOld := hOld.keep K45 all0
 replace E_sb := E_sb.keep K45
 subst hA0
 obtain ⟨fs, hr, hrun, hended, hW, hsame⟩ := X45.leave (v := some (.ref x45)) (fun h => by rw [Bd.returns] at h; cases h)
 refine ⟨_, _, R46 _ ?_, hrun, hended, _, _, rfl, ?_, ⟨_, rfl⟩, hW, hsame.mono (by decide) (by decide)⟩
 ·show Steps p.tables e below (T45.setTop (mkF m 75 #[.val (.ref a1), .val (.ref sb), .val (.int 3), .val (.int c2)] [(.ref x45)])) _
  jvm_step X45.here [X45.here.top, hx, (hb hby d30_75), X45.method', Bd.returns, Value.isRef, FieldType.isReference]
  first | (intro acts; rw [hr _ acts rfl rfl rfl]) | rw [hr _ _ rfl rfl rfl]
  exact Steps.refl _
 ·show Qq Z ((((([] ++ [own_b 34]) ++ own_esc c0) ++ own_esc c1) ++ own_esc c2) ++ [own_b 34]) h0 n0 _ T45.heap _
  exact ⟨⟨x45, rfl, tt, ktt, Nat.le_trans sz0_z szx, SFx⟩, N45, hK⟩
theorem own_EL {Z : State} {a0 : Array Value} (hw : ∀ d ∈ tables_1, d.before a0 Z = true) : EW Z a0 consts_1 := EW.cons (hw _ (List.mem_of_getElem? (i := 14) rfl)) (by decide) EW.nil
def Qem (Z : State) (a1 : Addr) (h0 : Heap) (n0 : Nat) (v : Option Value) (h : Heap) (L : List Loc) : Prop := v = none ∧ Fr n0 L ∧ Keep h0 h [a1] ∧ ∃ (t : Addr) (kt : ClassId), StrF Z h a1 t kt [] ∧ a1 ≠ t
abbrev yn31 : MethodName := ⟨"java/lang/String", "<init>", "([CIILjava/lang/Void;)V"⟩
theorem ef_rm_i4 (m : MethodId) (a1 : Addr) (a2 : Addr) : entryFrame m #[(.ref a1), (.ref a2), (.int (0 : Int32)), (.int (0 : Int32)), .null] 6 = mkF m 0 #[.val (.ref a1), .val (.ref a2), .val (.int (0 : Int32)), .val (.int (0 : Int32)), .val .null, .unset] [] := by first | (simp [entryFrame, mkF, argsToLocals, Value.category]; done) | rfl
theorem d31_0 : decode jdk_42_method_149_code 0 = .ok (.aload_n 0, 1) := by decide +kernel
theorem d31_1 : decode jdk_42_method_149_code 1 = .ok (.invokespecial 1, 3) := by decide +kernel
theorem d31_4 : decode jdk_42_method_149_code 4 = .ok (.iload_n 3, 1) := by decide +kernel
theorem d31_5 : decode jdk_42_method_149_code 5 = .ok (.ifCond .ne 22, 3) := by decide +kernel
theorem d31_8 : decode jdk_42_method_149_code 8 = .ok (.aload_n 0, 1) := by decide +kernel
theorem d31_9 : decode jdk_42_method_149_code 9 = .ok (.ldc 7, 2) := by decide +kernel
theorem d31_11 : decode jdk_42_method_149_code 11 = .ok (.getfield 9, 3) := by decide +kernel
theorem d31_14 : decode jdk_42_method_149_code 14 = .ok (.putfield 9, 3) := by decide +kernel
theorem d31_17 : decode jdk_42_method_149_code 17 = .ok (.aload_n 0, 1) := by decide +kernel
theorem d31_18 : decode jdk_42_method_149_code 18 = .ok (.ldc 7, 2) := by decide +kernel
theorem d31_20 : decode jdk_42_method_149_code 20 = .ok (.getfield 15, 3) := by decide +kernel
theorem d31_23 : decode jdk_42_method_149_code 23 = .ok (.putfield 15, 3) := by decide +kernel
theorem d31_26 : decode jdk_42_method_149_code 26 = .ok (.return_, 1) := by decide +kernel
set_option maxRecDepth 65536 in
set_option maxHeartbeats 40000000 in
theorem rm_i4 (l : Launch) (Z : State) (a0 : Array Value) (hw : ∀ d ∈ tables_1, d.before a0 Z = true) (ws : List Jvm.Cond) (a1 : Addr) (a2 : Addr) (h0 : Heap) (n0 : Nat) (Z0 : n0 ≤ h0.size) (ge1 : n0 ≤ a1) (E1 : Exa Z h0 a1 "java/lang/String") (Fv : Fld Z h0 a1 "java/lang/String" "value" "[B" .null) (Fd : Fld Z h0 a1 "java/lang/String" "coder" "B" (.int 0)) :
    MetFree l yn31 (head1 (Jvm.Cond.code yn31 jdk_42_method_149_code 6 none :: ws) ({ frames := 1, cells := 2, slots := 4, locals := 12 } : Room)) (fun a U => a = #[(.ref a1), (.ref a2), (.int (0 : Int32)), (.int (0 : Int32)), .null] ∧ Z.Warmed39 U.vm ∧ U.heap = h0 ∧ CHv Z consts_1 U.vm h0) (fun _ _ _ _ _ => True) (fun _ U o U' => ∃ v L, o = .returned v ∧ Qem Z a1 h0 n0 v U'.heap L ∧ ReturnedEndW U o U' L ({ frames := 1, cells := 2, slots := 4, locals := 12 } : Room).cells ({ frames := 1, cells := 2, slots := 4, locals := 12 } : Room).slots) := by
 refine MetFree.of_bodySF (plainFor_of_name pn_java_lang_String) hisR ?_
 intro p e s m args below meth c s₁ Bd hml0 hP hK
 obtain ⟨rfl, hZ, hh, hCH⟩ := hP
 have hx := Bd.exec
 have hby := Bd.bytes
 have hml : c.maxLocals = 6 := hml0
 have hown : (s.setVm s.vm).vm.findClass "java/lang/String" = some m.cls := findClass_of_methodNamed Bd.named
 have hnm := (name_of_methodNamed Bd.named Bd.method).1
 replace hZ : Z.Warmed39 (s.setVm s.vm).vm := hZ
 have X0 : Stand p l e ({ frames := 1, cells := 2, slots := 4, locals := 12 } : Room) (s.setVm s.vm) m #[(.ref a1), (.ref a2), (.int 0), (.int 0), .null] below meth c s₁ [] 0 0 := Stand.of_body Bd
 have e0 : s₁.heap = h0 := by rw [← hh, Bd.state]; rfl
 have N0 := Fr.nil n0
 have hS := OwnKit.own_since s h0.size
 have hk : h0.size ≤ h0.size := Nat.le_refl _
 have hEL : EW Z a0 consts_1 := own_EL hw
 have wS : ∀ a ∈ Bundle.stringAtoms, a.before a0 Z = true := fun d hd => hw d ((by decide +kernel : ∀ d ∈ Bundle.stringAtoms, d ∈ tables_1) d hd)
 obtain ⟨A0, hA0⟩ : ∃ A, A = s₁.setTop (entryFrame m #[(.ref a1), (.ref a2), (.int 0), (.int 0), .null] 6) := ⟨_, rfl⟩
 have R0 : ∀ tgt, Steps p.tables e below (s₁.setTop (mkF m 0 #[.val (.ref a1), .val (.ref a2), .val (.int 0), .val (.int 0), .val .null, .unset] [])) tgt → Steps p.tables e below A0 tgt := fun tgt hgo => by rw [hA0]; exact castTop (ef_rm_i4 m a1 a2) hgo
 have w : ∀ (i : Nat) {d : Jvm.Cond}, tables_1[i]? = some d → d.before a0 Z = true := fun i d h => hw d (List.mem_of_getElem? h)
 have hZn := Z0
 have hK : Keep h0 h0 [a1] := Keep.refl _ _
 have R1 : Rc p e below A0 (s₁.setTop (mkF m 1 #[.val (.ref a1), .val (.ref a2), .val (.int 0), .val (.int 0), .val .null, .unset] [(.ref a1)])) := by
   intro tgt hgo
   refine R0 tgt ?_
   show Steps p.tables e below (s₁.setTop (mkF m 0 #[.val (.ref a1), .val (.ref a2), .val (.int 0), .val (.int 0), .val .null, .unset] [])) _
   refine XS.aloadN X0.here hx rfl (hb hby d31_0) rfl rfl ?_
   exact hgo
 obtain ⟨T2, X2, e2, st2⟩ := initO X0 hx hZ hown (w 11 rfl) (w 12 rfl) (w 13 rfl) e0 (g := (mkF m 1 #[.val (.ref a1), .val (.ref a2), .val (.int 0), .val (.int 0), .val .null, .unset] [(.ref a1)])) rfl (by rw [hml]; rfl) rfl (hb hby d31_1) (by decide) (W := 0) (by show 2 * 0 + _ ≤ _; exact Nat.le_of_eq rfl) (by decide)
 have R3 := Rc.st R1 st2
 have R4 : Rc p e below A0 (T2.setTop (mkF m 9 #[.val (.ref a1), .val (.ref a2), .val (.int 0), .val (.int 0), .val .null, .unset] [(.ref a1)])) := by
   intro tgt hgo
   refine R3 tgt ?_
   show Steps p.tables e below (T2.setTop (mkF m 4 #[.val (.ref a1), .val (.ref a2), .val (.int 0), .val (.int 0), .val .null, .unset] [])) _
   refine XS.iloadN X2.here hx rfl (hb hby d31_4) rfl ?_
   refine XS.ifNo X2.here hx rfl (hb hby d31_5) rfl ((if0 _ _).trans (teq (by decide : (0 : Int32) = (0 : Int32))).2) ?_
   refine XS.aloadN X2.here hx rfl (hb hby d31_8) rfl rfl ?_
   exact hgo
 obtain ⟨lt, T5, h5, k1_5, b_lt, kb_lt, X5, e5, E5, hS5, hk5, hZ5, hown5, E_lt, Fc_lt, Fv_lt, V_lt, lta5, ltb5, CR5, LT5, sf5, st5⟩ := ldcCH X2 hx hZ hown (w 14 rfl) wS e2 hS hk hEL (List.mem_of_getElem? (i := 0) rfl) hCH (vs := []) (z := (0 : Int32)) ⟨by decide, by decide⟩ (by decide) rfl (g := (mkF m 9 #[.val (.ref a1), .val (.ref a2), .val (.int 0), .val (.int 0), .val .null, .unset] [(.ref a1)])) rfl (hb hby d31_9) (n := 0) (by decide) (by decide) (by decide) (by decide)
 replace hZn := Nat.le_trans hZn E5.1
 replace hK := hK.ext E5
 replace E1 := E1.ext E5
 replace Fv := Fv.ext E5
 replace Fd := Fd.ext E5
 replace hS := hS5
 replace hZ := hZ5
 replace hown := hown5
 replace hk := hk5
 have hCH := CR5.1
 have R6 := Rc.st R4 st5
 have ne_a1_b : a1 ≠ b_lt := E1.neArv V_lt (w 2 rfl)
 obtain ⟨T7, X7, e7, st7⟩ := getF X5 hx hZ hown (host := "") (Or.inl (w 20 rfl)) Via.refl e5 Fv_lt (g := (mkF m 11 #[.val (.ref a1), .val (.ref a2), .val (.int 0), .val (.int 0), .val .null, .unset] [(.ref lt), (.ref a1)])) rfl rfl (hb hby d31_11)
 have R8 := Rc.st R6 st7
 obtain ⟨T9, h9, X9, e9, W9, st9⟩ := putF X7 hx hZ hown (host := "") (Or.inl (w 20 rfl)) Via.refl e7 Fv E1 (Or.inr ⟨(w 16 rfl), rfl, hnm⟩) (w 2 rfl) (ty := (.array .byte)) (by decide) rfl rfl (g := (mkF m 14 #[.val (.ref a1), .val (.ref a2), .val (.int 0), .val (.int 0), .val .null, .unset] [(.ref b_lt), (.ref a1)])) rfl rfl (hb hby d31_14)
 have N9 := Fr.snoc X9 N0 ge1
 replace Fc_lt := Fc_lt.other W9 (Or.inr (slot_ne (Or.inr (w 17 rfl)) (Or.inr (w 16 rfl)) (by decide) (t := .byte) (t' := .array .byte) (by decide) (by decide)))
 replace hZn := Nat.le_trans hZn (Keep.of_wr W9).1
 replace hK := hK.wr W9 (Or.inl (List.mem_of_getElem? (i := 0) rfl))
 replace E1 := E1.wr W9
 replace Fv := Fv.same W9
 replace Fd := Fd.other W9 (Or.inr (slot_ne (Or.inr (w 17 rfl)) (Or.inr (w 16 rfl)) (by decide) (t := .byte) (t' := (.array .byte)) (by decide) (by decide)))
 replace hk := Nat.le_trans hk (Keep.of_wr W9).1
 replace E_lt := E_lt.wr W9
 replace V_lt := V_lt.other W9 (Ne.symm ne_a1_b)
 have R10 := Rc.st R8 st9
 have R11 : Rc p e below A0 (T9.setTop (mkF m 18 #[.val (.ref a1), .val (.ref a2), .val (.int 0), .val (.int 0), .val .null, .unset] [(.ref a1)])) := by
   intro tgt hgo
   refine R10 tgt ?_
   show Steps p.tables e below (T9.setTop (mkF m 17 #[.val (.ref a1), .val (.ref a2), .val (.int 0), .val (.int 0), .val .null, .unset] [])) _
   refine XS.aloadN X9.here hx rfl (hb hby d31_17) rfl rfl ?_
   exact hgo
 have R13 : ∀ tgt, Steps p.tables e below (T9.setTop (mkF m 20 #[.val (.ref a1), .val (.ref a2), .val (.int 0), .val (.int 0), .val .null, .unset] [(.ref lt), (.ref a1)])) tgt → Steps p.tables e below A0 tgt := fun tgt hgo => R11 tgt (ldcAgain X9 hx hZ hown (w 14 rfl) LT5 (g := (mkF m 18 #[.val (.ref a1), .val (.ref a2), .val (.int 0), .val (.int 0), .val .null, .unset] [(.ref a1)])) rfl (hb hby d31_18) tgt hgo)
 obtain ⟨T14, X14, e14, st14⟩ := getF X9 hx hZ hown (host := "") (Or.inl (w 21 rfl)) Via.refl e9 Fc_lt (g := (mkF m 20 #[.val (.ref a1), .val (.ref a2), .val (.int 0), .val (.int 0), .val .null, .unset] [(.ref lt), (.ref a1)])) rfl rfl (hb hby d31_20)
 have R15 := Rc.st R13 st14
 obtain ⟨T16, h16, X16, e16, W16, st16⟩ := putFN X14 hx hZ hown (w 21 rfl) Via.refl e14 Fd E1 (Or.inr ⟨(w 17 rfl), rfl, hnm⟩) (w 2 rfl) (ty := .byte) (v' := (.int 0)) (by decide) rfl (by decide) (g := (mkF m 23 #[.val (.ref a1), .val (.ref a2), .val (.int 0), .val (.int 0), .val .null, .unset] [(.int 0), (.ref a1)])) rfl rfl (hb hby d31_23)
 have N16 := Fr.snoc X16 N9 ge1
 replace hZn := Nat.le_trans hZn (Keep.of_wr W16).1
 replace hK := hK.wr W16 (Or.inl (List.mem_of_getElem? (i := 0) rfl))
 replace E1 := E1.wr W16
 replace Fv := Fv.other W16 (Or.inr (slot_ne (Or.inr (w 16 rfl)) (Or.inr (w 17 rfl)) (by decide) (t := (.array .byte)) (t' := .byte) (by decide) (by decide)))
 replace Fd := Fd.same W16
 replace hk := Nat.le_trans hk (Keep.of_wr W16).1
 replace E_lt := E_lt.wr W16
 replace V_lt := V_lt.other W16 (Ne.symm ne_a1_b)
 have R17 := Rc.st R15 st16
 subst hA0
 obtain ⟨fs, hr, hrun, hended, hRW⟩ := X16.leaveW hS (by rw [e16]; exact hk) (v := none) (fun _ => rfl) Bd.notSynchronized
 refine ⟨_, _, R17 _ ?_, hrun, hended, _, _, rfl, ?_, OwnKit.own_fin hRW (by decide) (by decide)⟩
 ·show Steps p.tables e below (T16.setTop (mkF m 26 #[.val (.ref a1), .val (.ref a2), .val (.int 0), .val (.int 0), .val .null, .unset] [])) _
  exact X16.returnOut hx Bd.returns (hb hby d31_26) hr
 ·show Qem Z a1 h0 n0 _ T16.heap _
  rw [e16]
  exact ⟨rfl, N16, hK, b_lt, kb_lt, ⟨E1, Fd, Fv, V_lt⟩, ne_a1_b⟩
abbrev yn32 : MethodName := ⟨"java/lang/String", "<init>", "([C)V"⟩
theorem ef_rm_i1 (m : MethodId) (a1 : Addr) (a2 : Addr) : entryFrame m #[(.ref a1), (.ref a2)] 2 = mkF m 0 #[.val (.ref a1), .val (.ref a2)] [] := by first | (simp [entryFrame, mkF, argsToLocals, Value.category]; done) | rfl
theorem d32_0 : decode jdk_42_method_3_code 0 = .ok (.aload_n 0, 1) := by decide +kernel
theorem d32_1 : decode jdk_42_method_3_code 1 = .ok (.aload_n 1, 1) := by decide +kernel
theorem d32_2 : decode jdk_42_method_3_code 2 = .ok (.iconst 0, 1) := by decide +kernel
theorem d32_3 : decode jdk_42_method_3_code 3 = .ok (.aload_n 1, 1) := by decide +kernel
theorem d32_4 : decode jdk_42_method_3_code 4 = .ok (.arraylength, 1) := by decide +kernel
theorem d32_5 : decode jdk_42_method_3_code 5 = .ok (.aconst_null, 1) := by decide +kernel
theorem d32_6 : decode jdk_42_method_3_code 6 = .ok (.invokespecial 27, 3) := by decide +kernel
theorem pd_20 : parseMethodDescriptor "([CIILjava/lang/Void;)V" = some ⟨[(.array .char), .int, .int, (.object "java/lang/Void")], none⟩ := by decide +kernel
theorem d32_9 : decode jdk_42_method_3_code 9 = .ok (.return_, 1) := by decide +kernel
set_option maxRecDepth 65536 in
set_option maxHeartbeats 40000000 in
theorem rm_i1 (l : Launch) (Z : State) (a0 : Array Value) (hw : ∀ d ∈ tables_1, d.before a0 Z = true) (ws : List Jvm.Cond) (a1 : Addr) (a2 : Addr) (kC : ClassId) (h0 : Heap) (n0 : Nat) (Z0 : n0 ≤ h0.size) (ge1 : n0 ≤ a1) (E1 : Exa Z h0 a1 "java/lang/String") (Fv : Fld Z h0 a1 "java/lang/String" "value" "[B" .null) (Fd : Fld Z h0 a1 "java/lang/String" "coder" "B" (.int 0)) (Vc : Arv Z h0 a2 kC .char 0 [] (.int 0)) (hn : a1 ≠ a2) :
    MetFree l yn32 (head1 (Jvm.Cond.code yn32 jdk_42_method_3_code 2 none :: ws) ({ frames := 2, cells := 2, slots := 4, locals := 29 } : Room)) (fun a U => a = #[(.ref a1), (.ref a2)] ∧ Z.Warmed39 U.vm ∧ U.heap = h0 ∧ CHv Z consts_1 U.vm h0) (fun _ _ _ _ _ => True) (fun _ U o U' => ∃ v L, o = .returned v ∧ Qem Z a1 h0 n0 v U'.heap L ∧ ReturnedEndW U o U' L ({ frames := 2, cells := 2, slots := 4, locals := 29 } : Room).cells ({ frames := 2, cells := 2, slots := 4, locals := 29 } : Room).slots) := by
 refine MetFree.of_bodySF (plainFor_of_name pn_java_lang_String) hisR ?_
 intro p e s m args below meth c s₁ Bd hml0 hP hK
 obtain ⟨rfl, hZ, hh, hCH⟩ := hP
 have hx := Bd.exec
 have hby := Bd.bytes
 have hml : c.maxLocals = 2 := hml0
 have hown : (s.setVm s.vm).vm.findClass "java/lang/String" = some m.cls := findClass_of_methodNamed Bd.named
 have hnm := (name_of_methodNamed Bd.named Bd.method).1
 replace hZ : Z.Warmed39 (s.setVm s.vm).vm := hZ
 have X0 : Stand p l e ({ frames := 2, cells := 2, slots := 4, locals := 29 } : Room) (s.setVm s.vm) m #[(.ref a1), (.ref a2)] below meth c s₁ [] 0 0 := Stand.of_body Bd
 have e0 : s₁.heap = h0 := by rw [← hh, Bd.state]; rfl
 have N0 := Fr.nil n0
 have hS := OwnKit.own_since s h0.size
 have hk : h0.size ≤ h0.size := Nat.le_refl _
 have hEL : EW Z a0 consts_1 := own_EL hw
 have wS : ∀ a ∈ Bundle.stringAtoms, a.before a0 Z = true := fun d hd => hw d ((by decide +kernel : ∀ d ∈ Bundle.stringAtoms, d ∈ tables_1) d hd)
 obtain ⟨A0, hA0⟩ : ∃ A, A = s₁.setTop (entryFrame m #[(.ref a1), (.ref a2)] 2) := ⟨_, rfl⟩
 have R0 : ∀ tgt, Steps p.tables e below (s₁.setTop (mkF m 0 #[.val (.ref a1), .val (.ref a2)] [])) tgt → Steps p.tables e below A0 tgt := fun tgt hgo => by rw [hA0]; exact castTop (ef_rm_i1 m a1 a2) hgo
 have w : ∀ (i : Nat) {d : Jvm.Cond}, tables_1[i]? = some d → d.before a0 Z = true := fun i d h => hw d (List.mem_of_getElem? h)
 have hZn := Z0
 have hK : Keep h0 h0 [a1] := Keep.refl _ _
 have R1 : Rc p e below A0 (s₁.setTop (mkF m 4 #[.val (.ref a1), .val (.ref a2)] [(.ref a2), (.int 0), (.ref a2), (.ref a1)])) := by
   intro tgt hgo
   refine R0 tgt ?_
   show Steps p.tables e below (s₁.setTop (mkF m 0 #[.val (.ref a1), .val (.ref a2)] [])) _
   refine XS.aloadN X0.here hx rfl (hb hby d32_0) rfl rfl ?_
   refine XS.aloadN X0.here hx rfl (hb hby d32_1) rfl rfl ?_
   refine XS.iconst X0.here hx rfl (hb hby d32_2) ?_
   refine XS.aloadN X0.here hx rfl (hb hby d32_3) rfl rfl ?_
   exact hgo
 obtain ⟨cl2, Ar2, -, S2, Nn2, -, -⟩ := id Vc
 have R3 : Rc p e below A0 (s₁.setTop (mkF m 5 #[.val (.ref a1), .val (.ref a2)] [(.int 0), (.int 0), (.ref a2), (.ref a1)])) := by
   intro tgt hgo
   refine R1 tgt ?_
   refine X0.arraylength hx (by rw [e0]; exact Ar2.1) (State.isArrayOf_alike hZ.alike Ar2.2.1) (g := (mkF m 4 #[.val (.ref a1), .val (.ref a2)] [(.ref a2), (.int 0), (.ref a2), (.ref a1)])) rfl rfl (hb hby d32_4) _ ?_
   rw [len_of S2 Nn2]
   exact hgo
 have R4 : Rc p e below A0 (s₁.setTop (mkF m 6 #[.val (.ref a1), .val (.ref a2)] [.null, (.int 0), (.int 0), (.ref a2), (.ref a1)])) := by
   intro tgt hgo
   refine R3 tgt ?_
   show Steps p.tables e below (s₁.setTop (mkF m 5 #[.val (.ref a1), .val (.ref a2)] [(.int 0), (.int 0), (.ref a2), (.ref a1)])) _
   refine XS.aconstNull X0.here hx rfl (hb hby d32_5) ?_
   exact hgo
 obtain ⟨_, _, ⟨T5, L5, k5, n5⟩, -, X5, hS5, hg5, ⟨Lc5, hQ5, l5, y5, z5⟩, st5⟩ := X0.specialBackS hx (y := yn31) rfl hown (mvT hZ (w 7 rfl)) (mvT hZ (w 8 rfl)) (mvT hZ (w 10 rfl)) (by decide) (OwnKit.own_backW (W := 0) (rm_i4 l Z a0 hw [] a1 a2 h0 n0 hZn ge1 E1 Fv Fd) hZ (w 10 rfl) (w 3 rfl) (by decide) (by decide) hEL hCH) (g := (mkF m 6 #[.val (.ref a1), .val (.ref a2)] [.null, (.int 0), (.int 0), (.ref a2), (.ref a1)])) rfl (by rw [hml]; rfl) (Steps.refl _) (a := a1) (argsL := [(.ref a2), (.int 0), (.int 0), .null]) (rest := []) (lenOf pd_20 rfl) rfl (by show 2 * 0 + _ ≤ _; exact Nat.le_of_eq rfl) (hb hby d32_6) (fun _ _ => ⟨rfl, e0, (by decide : 0 + 2 ≤ _), (by decide : 0 + 4 ≤ _)⟩)
 dsimp only [Pt.U, Pt.locs, Pt.cells, Pt.slots] at X5 hS5 hg5 l5 y5 z5 st5 hQ5
 subst l5 y5 z5
 obtain ⟨X5r, hS5r, hZ5r, hown5r⟩ := rebS hS (by rw [e0]; exact hk) X5 hS5 hg5 hZ hown
 replace X5 := X5r
 replace hS := hS5r
 replace hZ := hZ5r
 replace hown := hown5r
 obtain ⟨rfl, N5q, K5, t, kt, SF, net⟩ := hQ5
 have N5 := Fr.app N0 N5q
 have R6 := Rc.tr R4 st5
 replace hZn := Nat.le_trans hZn K5.1
 replace hK := hK.trans K5 (allS (Or.inl (List.mem_of_getElem? (i := 0) rfl)) all0)
 replace E1 := E1.keep K5
 replace Vc := Vc.keep K5 (ninS (Ne.symm hn) nin0)
 replace hk : T5.heap.size ≤ T5.heap.size := Nat.le_refl _
 subst hA0
 obtain ⟨fs, hr, hrun, hended, hRW⟩ := X5.leaveW hS hk (v := none) (fun _ => rfl) Bd.notSynchronized
 refine ⟨_, _, R6 _ ?_, hrun, hended, _, _, rfl, ?_, OwnKit.own_fin hRW (by decide) (by decide)⟩
 ·show Steps p.tables e below (T5.setTop (mkF m 9 #[.val (.ref a1), .val (.ref a2)] [])) _
  exact X5.returnOut hx Bd.returns (hb hby d32_9) hr
 ·show Qem Z a1 h0 n0 _ T5.heap _
  exact ⟨rfl, N5, hK, t, kt, SF, net⟩
def Q0 (n0 : Nat) (v : Option Value) (h : Heap) (L : List Loc) : Prop := v = some (.int 1) ∧ Fr n0 L
theorem own_rngc (x c : Int32) (e : c = ((x &&& (255 : Int32)).toUInt32.toUInt16.toUInt32.toInt32)) : own_ch c := by
  have h1 := Jvm.Kit.i32_mask x (255 : Int32) (k := 8) (by decide) (by decide)
  rw [show ((x &&& (255 : Int32)).toUInt32.toUInt16.toUInt32.toInt32) = x &&& 255 from by simp only [i2c_mask]] at e
  unfold own_ch; rw [e, h1]; omega
theorem own_lat {c : Int32} (h : own_ch c) : ¬ c < 0 ∧ ¬ (255 : Int32) < c := ⟨by rw [Int32.lt_iff_toInt_lt, Int32.toInt_zero]; have := h.1; omega, own_ch255 h⟩
theorem own_ln3 (x n : Int32) (e : n = (x &&& (3 : Int32))) (h0 : ¬ n = 0) (h1 : ¬ n = 1) (h2 : ¬ n = 2) : n = 3 := by
  have q := Jvm.Kit.i32_mask x (3 : Int32) (k := 2) (by decide) (by decide)
  rw [← e] at q
  have g0 : n.toInt ≠ 0 := fun z => h0 (Int32.toInt_inj.mp z)
  have g1 : n.toInt ≠ 1 := fun z => h1 (Int32.toInt_inj.mp z)
  have g2 : n.toInt ≠ 2 := fun z => h2 (Int32.toInt_inj.mp z)
  refine Int32.toInt_inj.mp ?_
  show n.toInt = 3
  omega
abbrev fl (m : MethodId) (p1 p2 p3 p4 c0 c1 c2 : Int32) (s0 s1 s2 s3 : Addr) (x4 x12 x13 x14 x15 : Slot) (pc : Nat) (S : List Value) : JFrame := mkF m pc #[.val (.int p1), .val (.int p2), .val (.int p3), .val (.int p4), x4, .val (.int c0), .val (.int c1), .val (.int c2), .val (.ref s0), .val (.ref s1), .val (.ref s2), .val (.ref s3), x12, x13, x14, x15] S
theorem ef_rm_law (m : MethodId) (p1 : Int32) (p2 : Int32) (p3 : Int32) (p4 : Int32) : entryFrame m #[(.int p1), (.int p2), (.int p3), (.int p4)] maxLocals = mkF m 0 #[.val (.int p1), .val (.int p2), .val (.int p3), .val (.int p4), .unset, .unset, .unset, .unset, .unset, .unset, .unset, .unset, .unset, .unset, .unset, .unset] [] := by first | (simp [entryFrame, mkF, argsToLocals, Value.category, maxLocals]; done) | rfl
theorem pd_21 : parseMethodDescriptor "([C)V" = some ⟨[(.array .char)], none⟩ := by decide +kernel
theorem pd_22 : parseMethodDescriptor "(Ljava/lang/String;)Ljava/lang/String;" = some ⟨[(.object "java/lang/String")], some (.object "java/lang/String")⟩ := by decide +kernel
theorem pd_23 : parseMethodDescriptor "(Ljava/lang/String;IC)I" = some ⟨[(.object "java/lang/String"), .int, .char], some .int⟩ := by decide +kernel
set_option maxRecDepth 65536 in
set_option maxHeartbeats 40000000 in
theorem rm_law (l : Launch) (Z : State) (a0 : Array Value) (hw : ∀ d ∈ tables_1, d.before a0 Z = true) (ws : List Jvm.Cond) (p1 : Int32) (p2 : Int32) (p3 : Int32) (p4 : Int32) (zc : Int32) (vf : Value) (h0 : Heap) (n0 : Nat) (Z0 : n0 ≤ h0.size) (X00 : Old Z n0 h0) (S_cs : Sta Z Z.heap "java/lang/String" "COMPACT_STRINGS" "Z" (.int zc)) (hz : ¬ zc = 0) (S_f : Sta Z Z.heap "jdk/internal/util/Preconditions" "SIOOBE_FORMATTER" "Ljava/util/function/BiFunction;" vf) (hf : vf.isRef = true) :
    MetFree l x (head1 (Jvm.Cond.code x code maxLocals ret :: ws) room_1) (fun a U => a = #[(.int p1), (.int p2), (.int p3), (.int p4)] ∧ Z.Warmed39 U.vm ∧ U.heap = h0 ∧ CHv Z consts_1 U.vm h0) (fun _ _ _ _ _ => True) (fun _ U o U' => ∃ v L, o = .returned v ∧ Q0 n0 v U'.heap L ∧ ReturnedEndW U o U' L room_1.cells room_1.slots) := by
 refine MetFree.of_bodySF (plainFor_of_name pn_com_example_stack_check_trimmer_stackchecktrimmer_io_LineTokenizerQuotePinLaw) hisR ?_
 intro p e s m args below meth c s₁ Bd hml0 hP hK
 obtain ⟨rfl, hZ, hh, hCH⟩ := hP
 have hx := Bd.exec
 have hby := Bd.bytes
 have hml : c.maxLocals = 16 := hml0
 have hown : (s.setVm s.vm).vm.findClass "com/example/stack_check_trimmer/stackchecktrimmer/io/LineTokenizerQuotePinLaw" = some m.cls := findClass_of_methodNamed Bd.named
 have hnm := (name_of_methodNamed Bd.named Bd.method).1
 replace hZ : Z.Warmed39 (s.setVm s.vm).vm := hZ
 have X0 : Stand p l e room_1 (s.setVm s.vm) m #[(.int p1), (.int p2), (.int p3), (.int p4)] below meth c s₁ [] 0 0 := Stand.of_body Bd
 have e0 : s₁.heap = h0 := by rw [← hh, Bd.state]; rfl
 have N0 := Fr.nil n0
 have hS := OwnKit.own_since s h0.size
 have hk : h0.size ≤ h0.size := Nat.le_refl _
 have hEL : EW Z a0 consts_1 := own_EL hw
 have wS : ∀ a ∈ Bundle.stringAtoms, a.before a0 Z = true := fun d hd => hw d ((by decide +kernel : ∀ d ∈ Bundle.stringAtoms, d ∈ tables_1) d hd)
 obtain ⟨A0, hA0⟩ : ∃ A, A = s₁.setTop (entryFrame m #[(.int p1), (.int p2), (.int p3), (.int p4)] maxLocals) := ⟨_, rfl⟩
 have R0 : ∀ tgt, Steps p.tables e below (s₁.setTop (mkF m 0 #[.val (.int p1), .val (.int p2), .val (.int p3), .val (.int p4), .unset, .unset, .unset, .unset, .unset, .unset, .unset, .unset, .unset, .unset, .unset, .unset] [])) tgt → Steps p.tables e below A0 tgt := fun tgt hgo => by rw [hA0]; exact castTop (ef_rm_law m p1 p2 p3 p4) hgo
 have w : ∀ (i : Nat) {d : Jvm.Cond}, tables_1[i]? = some d → d.before a0 Z = true := fun i d h => hw d (List.mem_of_getElem? h)
 have hZn := Z0
 have hK : Keep h0 h0 [] := Keep.refl _ _
 have hOld := X00
 have hws : ∀ d ∈ StrChars.Road.words, d.before a0 Z = true := fun d hd => hw d ((by decide +kernel : ∀ d ∈ StrChars.Road.words, d ∈ tables_1) d hd)
 have R1 : Rc p e below A0 (s₁.setTop (mkF m 3 #[.val (.int p1), .val (.int p2), .val (.int p3), .val (.int p4), .unset, .unset, .unset, .unset, .unset, .unset, .unset, .unset, .unset, .unset, .unset, .unset] [(.int (p1 &&& (3 : Int32)))])) := by
   intro tgt hgo
   refine R0 tgt ?_
   show Steps p.tables e below (s₁.setTop (mkF m 0 #[.val (.int p1), .val (.int p2), .val (.int p3), .val (.int p4), .unset, .unset, .unset, .unset, .unset, .unset, .unset, .unset, .unset, .unset, .unset, .unset] [])) _
   refine XS.iloadN X0.here hx rfl (hb hby at_0) rfl ?_
   refine XS.iconst X0.here hx rfl (hb hby at_1) ?_
   refine XS.iand X0.here hx rfl (hb hby at_2) rfl ?_
   exact hgo
 obtain ⟨ln, e_ln⟩ : ∃ z : Int32, z = (p1 &&& (3 : Int32)) := ⟨_, rfl⟩
 rw [← e_ln] at R1
 have R2 : Rc p e below A0 (s₁.setTop (mkF m 11 #[.val (.int p1), .val (.int p2), .val (.int p3), .val (.int p4), .val (.int ln), .unset, .unset, .unset, .unset, .unset, .unset, .unset, .unset, .unset, .unset, .unset] [(.int ((p2 &&& (255 : Int32)).toUInt32.toUInt16.toUInt32.toInt32))])) := by
   intro tgt hgo
   refine R1 tgt ?_
   show Steps p.tables e below (s₁.setTop (mkF m 3 #[.val (.int p1), .val (.int p2), .val (.int p3), .val (.int p4), .unset, .unset, .unset, .unset, .unset, .unset, .unset, .unset, .unset, .unset, .unset, .unset] [(.int ln)])) _
   refine XS.istore X0.here hx rfl (hb hby at_3) rfl (l' := #[.val (.int p1), .val (.int p2), .val (.int p3), .val (.int p4), .val (.int ln), .unset, .unset, .unset, .unset, .unset, .unset, .unset, .unset, .unset, .unset, .unset]) rfl ?_
   refine XS.iloadN X0.here hx rfl (hb hby at_5) rfl ?_
   refine XS.sipush X0.here hx rfl (hb hby at_6) ?_
   refine XS.iand X0.here hx rfl (hb hby at_9) rfl ?_
   refine XS.i2c X0.here hx rfl (hb hby at_10) rfl ?_
   exact hgo
 obtain ⟨c0, e_c0⟩ : ∃ z : Int32, z = ((p2 &&& (255 : Int32)).toUInt32.toUInt16.toUInt32.toInt32) := ⟨_, rfl⟩
 rw [← e_c0] at R2
 have hc0 := own_rngc p2 c0 e_c0
 have R3 : Rc p e below A0 (s₁.setTop (mkF m 19 #[.val (.int p1), .val (.int p2), .val (.int p3), .val (.int p4), .val (.int ln), .val (.int c0), .unset, .unset, .unset, .unset, .unset, .unset, .unset, .unset, .unset, .unset] [(.int ((p3 &&& (255 : Int32)).toUInt32.toUInt16.toUInt32.toInt32))])) := by
   intro tgt hgo
   refine R2 tgt ?_
   show Steps p.tables e below (s₁.setTop (mkF m 11 #[.val (.int p1), .val (.int p2), .val (.int p3), .val (.int p4), .val (.int ln), .unset, .unset, .unset, .unset, .unset, .unset, .unset, .unset, .unset, .unset, .unset] [(.int c0)])) _
   refine XS.istore X0.here hx rfl (hb hby at_11) rfl (l' := #[.val (.int p1), .val (.int p2), .val (.int p3), .val (.int p4), .val (.int ln), .val (.int c0), .unset, .unset, .unset, .unset, .unset, .unset, .unset, .unset, .unset, .unset]) rfl ?_
   refine XS.iloadN X0.here hx rfl (hb hby at_13) rfl ?_
   refine XS.sipush X0.here hx rfl (hb hby at_14) ?_
   refine XS.iand X0.here hx rfl (hb hby at_17) rfl ?_
   refine XS.i2c X0.here hx rfl (hb hby at_18) rfl ?_
   exact hgo
 obtain ⟨c1, e_c1⟩ : ∃ z : Int32, z = ((p3 &&& (255 : Int32)).toUInt32.toUInt16.toUInt32.toInt32) := ⟨_, rfl⟩
 rw [← e_c1] at R3
 have hc1 := own_rngc p3 c1 e_c1
 have R4 : Rc p e below A0 (s₁.setTop (mkF m 27 #[.val (.int p1), .val (.int p2), .val (.int p3), .val (.int p4), .val (.int ln), .val (.int c0), .val (.int c1), .unset, .unset, .unset, .unset, .unset, .unset, .unset, .unset, .unset] [(.int ((p4 &&& (255 : Int32)).toUInt32.toUInt16.toUInt32.toInt32))])) := by
   intro tgt hgo
   refine R3 tgt ?_
   show Steps p.tables e below (s₁.setTop (mkF m 19 #[.val (.int p1), .val (.int p2), .val (.int p3), .val (.int p4), .val (.int ln), .val (.int c0), .unset, .unset, .unset, .unset, .unset, .unset, .unset, .unset, .unset, .unset] [(.int c1)])) _
   refine XS.istore X0.here hx rfl (hb hby at_19) rfl (l' := #[.val (.int p1), .val (.int p2), .val (.int p3), .val (.int p4), .val (.int ln), .val (.int c0), .val (.int c1), .unset, .unset, .unset, .unset, .unset, .unset, .unset, .unset, .unset]) rfl ?_
   refine XS.iloadN X0.here hx rfl (hb hby at_21) rfl ?_
   refine XS.sipush X0.here hx rfl (hb hby at_22) ?_
   refine XS.iand X0.here hx rfl (hb hby at_25) rfl ?_
   refine XS.i2c X0.here hx rfl (hb hby at_26) rfl ?_
   exact hgo
 obtain ⟨c2, e_c2⟩ : ∃ z : Int32, z = ((p4 &&& (255 : Int32)).toUInt32.toUInt16.toUInt32.toInt32) := ⟨_, rfl⟩
 rw [← e_c2] at R4
 have hc2 := own_rngc p4 c2 e_c2
 have R5 : Rc p e below A0 (s₁.setTop (mkF m 30 #[.val (.int p1), .val (.int p2), .val (.int p3), .val (.int p4), .val (.int ln), .val (.int c0), .val (.int c1), .val (.int c2), .unset, .unset, .unset, .unset, .unset, .unset, .unset, .unset] [(.int 0)])) := by
   intro tgt hgo
   refine R4 tgt ?_
   show Steps p.tables e below (s₁.setTop (mkF m 27 #[.val (.int p1), .val (.int p2), .val (.int p3), .val (.int p4), .val (.int ln), .val (.int c0), .val (.int c1), .unset, .unset, .unset, .unset, .unset, .unset, .unset, .unset, .unset] [(.int c2)])) _
   refine XS.istore X0.here hx rfl (hb hby at_27) rfl (l' := #[.val (.int p1), .val (.int p2), .val (.int p3), .val (.int p4), .val (.int ln), .val (.int c0), .val (.int c1), .val (.int c2), .unset, .unset, .unset, .unset, .unset, .unset, .unset, .unset]) rfl ?_
   refine XS.iconst X0.here hx rfl (hb hby at_29) ?_
   exact hgo
 obtain ⟨T6, h6, k6, X6, e6, E6, A6, st6⟩ := newP X0 hx hZ (w 0 rfl) e0 (g := (mkF m 30 #[.val (.int p1), .val (.int p2), .val (.int p3), .val (.int p4), .val (.int ln), .val (.int c0), .val (.int c1), .val (.int c2), .unset, .unset, .unset, .unset, .unset, .unset, .unset, .unset] [(.int 0)])) rfl (hb hby at_30) rfl (by decide) (cap := 0) (by decide) (by decide) (by decide) (by decide)
 obtain ⟨s0, g6⟩ : ∃ z, z = h0.size := ⟨_, rfl⟩
 rw [← g6] at A6 st6
 have ge_s0 : n0 ≤ s0 := Nat.le_trans hZn (Nat.le_of_eq g6.symm)
 have sz_s0 : h0.size ≤ s0 := Nat.le_trans hK.1 (Nat.le_of_eq g6.symm)
 replace hCH := hCH.ext E6
 replace hk := Nat.le_trans hk E6.1
 replace hZn := Nat.le_trans hZn E6.1
 replace hK := hK.ext E6
 replace hOld := hOld.ext E6
 have V_s0 := Arv.new A6 (by decide)
 have R7 := Rc.st R5 st6
 have R8 : Rc p e below A0 (T6.setTop (mkF m 35 #[.val (.int p1), .val (.int p2), .val (.int p3), .val (.int p4), .val (.int ln), .val (.int c0), .val (.int c1), .val (.int c2), .val (.ref s0), .unset, .unset, .unset, .unset, .unset, .unset, .unset] [(.int 1)])) := by
   intro tgt hgo
   refine R7 tgt ?_
   show Steps p.tables e below (T6.setTop (mkF m 32 #[.val (.int p1), .val (.int p2), .val (.int p3), .val (.int p4), .val (.int ln), .val (.int c0), .val (.int c1), .val (.int c2), .unset, .unset, .unset, .unset, .unset, .unset, .unset, .unset] [(.ref s0)])) _
   refine XS.astore X6.here hx rfl (hb hby at_32) rfl rfl (l' := #[.val (.int p1), .val (.int p2), .val (.int p3), .val (.int p4), .val (.int ln), .val (.int c0), .val (.int c1), .val (.int c2), .val (.ref s0), .unset, .unset, .unset, .unset, .unset, .unset, .unset]) rfl ?_
   refine XS.iconst X6.here hx rfl (hb hby at_34) ?_
   exact hgo
 obtain ⟨T9, h9, k9, X9, e9, E9, A9, st9⟩ := newP X6 hx hZ (w 0 rfl) e6 (g := (mkF m 35 #[.val (.int p1), .val (.int p2), .val (.int p3), .val (.int p4), .val (.int ln), .val (.int c0), .val (.int c1), .val (.int c2), .val (.ref s0), .unset, .unset, .unset, .unset, .unset, .unset, .unset] [(.int 1)])) rfl (hb hby at_35) rfl (by decide) (cap := 1) (by decide) (by decide) (by decide) (by decide)
 obtain ⟨s1, g9⟩ : ∃ z, z = h6.size := ⟨_, rfl⟩
 rw [← g9] at A9 st9
 have ne_s0_s1 : s0 ≠ s1 := Nat.ne_of_lt (Nat.lt_of_lt_of_le V_s0.lt (Nat.le_of_eq g9.symm))
 have ge_s1 : n0 ≤ s1 := Nat.le_trans hZn (Nat.le_of_eq g9.symm)
 have sz_s1 : h0.size ≤ s1 := Nat.le_trans hK.1 (Nat.le_of_eq g9.symm)
 replace hCH := hCH.ext E9
 replace hk := Nat.le_trans hk E9.1
 replace hZn := Nat.le_trans hZn E9.1
 replace hK := hK.ext E9
 replace hOld := hOld.ext E9
 replace V_s0 := V_s0.ext E9
 have V_s1 : Arv Z h9 s1 k9 .char (1 : Int32) [(.int 0)] (.int 0) := (Arv.new A9 (by decide)).pad (pad_rep [] (.int 0) 1)
 have R10 := Rc.st R8 st9
 have R11 : Rc p e below A0 (T9.setTop (mkF m 41 #[.val (.int p1), .val (.int p2), .val (.int p3), .val (.int p4), .val (.int ln), .val (.int c0), .val (.int c1), .val (.int c2), .val (.ref s0), .unset, .unset, .unset, .unset, .unset, .unset, .unset] [(.int c0), (.int 0), (.ref s1), (.ref s1)])) := by
   intro tgt hgo
   refine R10 tgt ?_
   show Steps p.tables e below (T9.setTop (mkF m 37 #[.val (.int p1), .val (.int p2), .val (.int p3), .val (.int p4), .val (.int ln), .val (.int c0), .val (.int c1), .val (.int c2), .val (.ref s0), .unset, .unset, .unset, .unset, .unset, .unset, .unset] [(.ref s1)])) _
   refine XS.dup X9.here hx rfl (hb hby at_37) rfl rfl ?_
   refine XS.iconst X9.here hx rfl (hb hby at_38) ?_
   refine XS.iload X9.here hx rfl (hb hby at_39) rfl ?_
   exact hgo
 obtain ⟨cl12, Ar12, q12, S12, Nn12, H12, G12⟩ := V_s1
 have hin12 : ¬ ((0 : Int32) < 0 ∨ cl12.slots.size ≤ ((0 : Int32)).toNatClampNeg) := inb_of S12 ⟨by decide, by decide⟩
 obtain ⟨T12, h12, X12, e12, W12, st12⟩ := stC X9 hx hZ e9 Ar12 (j := (0 : Int32)) hin12 (g := (mkF m 41 #[.val (.int p1), .val (.int p2), .val (.int p3), .val (.int p4), .val (.int ln), .val (.int c0), .val (.int c1), .val (.int c2), .val (.ref s0), .unset, .unset, .unset, .unset, .unset, .unset, .unset] [(.int c0), (.int 0), (.ref s1), (.ref s1)])) rfl rfl (hb hby at_41)
 replace hCH := hCH.wr W12 (Safe.arr hZ.alike Ar12 (by decide))
 replace hk := Nat.le_trans hk (Keep.of_wr W12).1
 replace hZn := Nat.le_trans hZn (Keep.of_wr W12).1
 replace hK := hK.wr W12 (Or.inr sz_s1)
 replace hOld := hOld.wr W12 ge_s1
 replace V_s0 := V_s0.other W12 ne_s0_s1
 have V_s1 : Arv Z h12 s1 k9 .char (1 : Int32) [(.int (nar .char c0))] (.int 0) := Arv.set Ar12 q12 S12 Nn12 H12 G12 (fits_nar_char _) W12 0 rfl (Nat.le_of_ble_eq_true rfl)
 have N12 := Fr.snoc X12 N0 ge_s1
 have R13 := Rc.st R11 st12
 rw [own_narc hc0] at V_s1
 have R14 : Rc p e below A0 (T12.setTop (mkF m 45 #[.val (.int p1), .val (.int p2), .val (.int p3), .val (.int p4), .val (.int ln), .val (.int c0), .val (.int c1), .val (.int c2), .val (.ref s0), .val (.ref s1), .unset, .unset, .unset, .unset, .unset, .unset] [(.int 2)])) := by
   intro tgt hgo
   refine R13 tgt ?_
   show Steps p.tables e below (T12.setTop (mkF m 42 #[.val (.int p1), .val (.int p2), .val (.int p3), .val (.int p4), .val (.int ln), .val (.int c0), .val (.int c1), .val (.int c2), .val (.ref s0), .unset, .unset, .unset, .unset, .unset, .unset, .unset] [(.ref s1)])) _
   refine XS.astore X12.here hx rfl (hb hby at_42) rfl rfl (l' := #[.val (.int p1), .val (.int p2), .val (.int p3), .val (.int p4), .val (.int ln), .val (.int c0), .val (.int c1), .val (.int c2), .val (.ref s0), .val (.ref s1), .unset, .unset, .unset, .unset, .unset, .unset]) rfl ?_
   refine XS.iconst X12.here hx rfl (hb hby at_44) ?_
   exact hgo
 obtain ⟨T15, h15, k15, X15, e15, E15, A15, st15⟩ := newP X12 hx hZ (w 0 rfl) e12 (g := (mkF m 45 #[.val (.int p1), .val (.int p2), .val (.int p3), .val (.int p4), .val (.int ln), .val (.int c0), .val (.int c1), .val (.int c2), .val (.ref s0), .val (.ref s1), .unset, .unset, .unset, .unset, .unset, .unset] [(.int 2)])) rfl (hb hby at_45) rfl (by decide) (cap := 2) (by decide) (by decide) (by decide) (by decide)
 obtain ⟨s2, g15⟩ : ∃ z, z = h12.size := ⟨_, rfl⟩
 rw [← g15] at A15 st15
 have ne_s0_s2 : s0 ≠ s2 := Nat.ne_of_lt (Nat.lt_of_lt_of_le V_s0.lt (Nat.le_of_eq g15.symm))
 have ne_s1_s2 : s1 ≠ s2 := Nat.ne_of_lt (Nat.lt_of_lt_of_le V_s1.lt (Nat.le_of_eq g15.symm))
 have ge_s2 : n0 ≤ s2 := Nat.le_trans hZn (Nat.le_of_eq g15.symm)
 have sz_s2 : h0.size ≤ s2 := Nat.le_trans hK.1 (Nat.le_of_eq g15.symm)
 replace hCH := hCH.ext E15
 replace hk := Nat.le_trans hk E15.1
 replace hZn := Nat.le_trans hZn E15.1
 replace hK := hK.ext E15
 replace hOld := hOld.ext E15
 replace V_s0 := V_s0.ext E15
 replace V_s1 := V_s1.ext E15
 have V_s2 : Arv Z h15 s2 k15 .char (2 : Int32) [(.int 0), (.int 0)] (.int 0) := (Arv.new A15 (by decide)).pad (pad_rep [] (.int 0) 2)
 have R16 := Rc.st R14 st15
 have R17 : Rc p e below A0 (T15.setTop (mkF m 51 #[.val (.int p1), .val (.int p2), .val (.int p3), .val (.int p4), .val (.int ln), .val (.int c0), .val (.int c1), .val (.int c2), .val (.ref s0), .val (.ref s1), .unset, .unset, .unset, .unset, .unset, .unset] [(.int c0), (.int 0), (.ref s2), (.ref s2)])) := by
   intro tgt hgo
   refine R16 tgt ?_
   show Steps p.tables e below (T15.setTop (mkF m 47 #[.val (.int p1), .val (.int p2), .val (.int p3), .val (.int p4), .val (.int ln), .val (.int c0), .val (.int c1), .val (.int c2), .val (.ref s0), .val (.ref s1), .unset, .unset, .unset, .unset, .unset, .unset] [(.ref s2)])) _
   refine XS.dup X15.here hx rfl (hb hby at_47) rfl rfl ?_
   refine XS.iconst X15.here hx rfl (hb hby at_48) ?_
   refine XS.iload X15.here hx rfl (hb hby at_49) rfl ?_
   exact hgo
 obtain ⟨cl18, Ar18, q18, S18, Nn18, H18, G18⟩ := V_s2
 have hin18 : ¬ ((0 : Int32) < 0 ∨ cl18.slots.size ≤ ((0 : Int32)).toNatClampNeg) := inb_of S18 ⟨by decide, by decide⟩
 obtain ⟨T18, h18, X18, e18, W18, st18⟩ := stC X15 hx hZ e15 Ar18 (j := (0 : Int32)) hin18 (g := (mkF m 51 #[.val (.int p1), .val (.int p2), .val (.int p3), .val (.int p4), .val (.int ln), .val (.int c0), .val (.int c1), .val (.int c2), .val (.ref s0), .val (.ref s1), .unset, .unset, .unset, .unset, .unset, .unset] [(.int c0), (.int 0), (.ref s2), (.ref s2)])) rfl rfl (hb hby at_51)
 replace hCH := hCH.wr W18 (Safe.arr hZ.alike Ar18 (by decide))
 replace hk := Nat.le_trans hk (Keep.of_wr W18).1
 replace hZn := Nat.le_trans hZn (Keep.of_wr W18).1
 replace hK := hK.wr W18 (Or.inr sz_s2)
 replace hOld := hOld.wr W18 ge_s2
 replace V_s0 := V_s0.other W18 ne_s0_s2
 replace V_s1 := V_s1.other W18 ne_s1_s2
 have V_s2 : Arv Z h18 s2 k15 .char (2 : Int32) [(.int (nar .char c0)), (.int 0)] (.int 0) := Arv.set Ar18 q18 S18 Nn18 H18 G18 (fits_nar_char _) W18 0 rfl (Nat.le_of_ble_eq_true rfl)
 have N18 := Fr.snoc X18 N12 ge_s2
 have R19 := Rc.st R17 st18
 rw [own_narc hc0] at V_s2
 have R20 : Rc p e below A0 (T18.setTop (mkF m 56 #[.val (.int p1), .val (.int p2), .val (.int p3), .val (.int p4), .val (.int ln), .val (.int c0), .val (.int c1), .val (.int c2), .val (.ref s0), .val (.ref s1), .unset, .unset, .unset, .unset, .unset, .unset] [(.int c1), (.int 1), (.ref s2), (.ref s2)])) := by
   intro tgt hgo
   refine R19 tgt ?_
   show Steps p.tables e below (T18.setTop (mkF m 52 #[.val (.int p1), .val (.int p2), .val (.int p3), .val (.int p4), .val (.int ln), .val (.int c0), .val (.int c1), .val (.int c2), .val (.ref s0), .val (.ref s1), .unset, .unset, .unset, .unset, .unset, .unset] [(.ref s2)])) _
   refine XS.dup X18.here hx rfl (hb hby at_52) rfl rfl ?_
   refine XS.iconst X18.here hx rfl (hb hby at_53) ?_
   refine XS.iload X18.here hx rfl (hb hby at_54) rfl ?_
   exact hgo
 obtain ⟨cl21, Ar21, q21, S21, Nn21, H21, G21⟩ := V_s2
 have hin21 : ¬ ((1 : Int32) < 0 ∨ cl21.slots.size ≤ ((1 : Int32)).toNatClampNeg) := inb_of S21 ⟨by decide, by decide⟩
 obtain ⟨T21, h21, X21, e21, W21, st21⟩ := stC X18 hx hZ e18 Ar21 (j := (1 : Int32)) hin21 (g := (mkF m 56 #[.val (.int p1), .val (.int p2), .val (.int p3), .val (.int p4), .val (.int ln), .val (.int c0), .val (.int c1), .val (.int c2), .val (.ref s0), .val (.ref s1), .unset, .unset, .unset, .unset, .unset, .unset] [(.int c1), (.int 1), (.ref s2), (.ref s2)])) rfl rfl (hb hby at_56)
 replace hCH := hCH.wr W21 (Safe.arr hZ.alike Ar21 (by decide))
 replace hk := Nat.le_trans hk (Keep.of_wr W21).1
 replace hZn := Nat.le_trans hZn (Keep.of_wr W21).1
 replace hK := hK.wr W21 (Or.inr sz_s2)
 replace hOld := hOld.wr W21 ge_s2
 replace V_s0 := V_s0.other W21 ne_s0_s2
 replace V_s1 := V_s1.other W21 ne_s1_s2
 have V_s2 : Arv Z h21 s2 k15 .char (2 : Int32) [(.int c0), (.int (nar .char c1))] (.int 0) := Arv.set Ar21 q21 S21 Nn21 H21 G21 (fits_nar_char _) W21 1 rfl (Nat.le_of_ble_eq_true rfl)
 have N21 := Fr.snoc X21 N18 ge_s2
 have R22 := Rc.st R20 st21
 rw [own_narc hc1] at V_s2
 have R23 : Rc p e below A0 (T21.setTop (mkF m 60 #[.val (.int p1), .val (.int p2), .val (.int p3), .val (.int p4), .val (.int ln), .val (.int c0), .val (.int c1), .val (.int c2), .val (.ref s0), .val (.ref s1), .val (.ref s2), .unset, .unset, .unset, .unset, .unset] [(.int 3)])) := by
   intro tgt hgo
   refine R22 tgt ?_
   show Steps p.tables e below (T21.setTop (mkF m 57 #[.val (.int p1), .val (.int p2), .val (.int p3), .val (.int p4), .val (.int ln), .val (.int c0), .val (.int c1), .val (.int c2), .val (.ref s0), .val (.ref s1), .unset, .unset, .unset, .unset, .unset, .unset] [(.ref s2)])) _
   refine XS.astore X21.here hx rfl (hb hby at_57) rfl rfl (l' := #[.val (.int p1), .val (.int p2), .val (.int p3), .val (.int p4), .val (.int ln), .val (.int c0), .val (.int c1), .val (.int c2), .val (.ref s0), .val (.ref s1), .val (.ref s2), .unset, .unset, .unset, .unset, .unset]) rfl ?_
   refine XS.iconst X21.here hx rfl (hb hby at_59) ?_
   exact hgo
 obtain ⟨T24, h24, k24, X24, e24, E24, A24, st24⟩ := newP X21 hx hZ (w 0 rfl) e21 (g := (mkF m 60 #[.val (.int p1), .val (.int p2), .val (.int p3), .val (.int p4), .val (.int ln), .val (.int c0), .val (.int c1), .val (.int c2), .val (.ref s0), .val (.ref s1), .val (.ref s2), .unset, .unset, .unset, .unset, .unset] [(.int 3)])) rfl (hb hby at_60) rfl (by decide) (cap := 3) (by decide) (by decide) (by decide) (by decide)
 obtain ⟨s3, g24⟩ : ∃ z, z = h21.size := ⟨_, rfl⟩
 rw [← g24] at A24 st24
 have ne_s0_s3 : s0 ≠ s3 := Nat.ne_of_lt (Nat.lt_of_lt_of_le V_s0.lt (Nat.le_of_eq g24.symm))
 have ne_s1_s3 : s1 ≠ s3 := Nat.ne_of_lt (Nat.lt_of_lt_of_le V_s1.lt (Nat.le_of_eq g24.symm))
 have ne_s2_s3 : s2 ≠ s3 := Nat.ne_of_lt (Nat.lt_of_lt_of_le V_s2.lt (Nat.le_of_eq g24.symm))
 have ge_s3 : n0 ≤ s3 := Nat.le_trans hZn (Nat.le_of_eq g24.symm)
 have sz_s3 : h0.size ≤ s3 := Nat.le_trans hK.1 (Nat.le_of_eq g24.symm)
 replace hCH := hCH.ext E24
 replace hk := Nat.le_trans hk E24.1
 replace hZn := Nat.le_trans hZn E24.1
 replace hK := hK.ext E24
 replace hOld := hOld.ext E24
 replace V_s0 := V_s0.ext E24
 replace V_s1 := V_s1.ext E24
 replace V_s2 := V_s2.ext E24
 have V_s3 : Arv Z h24 s3 k24 .char (3 : Int32) [(.int 0), (.int 0), (.int 0)] (.int 0) := (Arv.new A24 (by decide)).pad (pad_rep [] (.int 0) 3)
 have R25 := Rc.st R23 st24
 have R26 : Rc p e below A0 (T24.setTop (mkF m 66 #[.val (.int p1), .val (.int p2), .val (.int p3), .val (.int p4), .val (.int ln), .val (.int c0), .val (.int c1), .val (.int c2), .val (.ref s0), .val (.ref s1), .val (.ref s2), .unset, .unset, .unset, .unset, .unset] [(.int c0), (.int 0), (.ref s3), (.ref s3)])) := by
   intro tgt hgo
   refine R25 tgt ?_
   show Steps p.tables e below (T24.setTop (mkF m 62 #[.val (.int p1), .val (.int p2), .val (.int p3), .val (.int p4), .val (.int ln), .val (.int c0), .val (.int c1), .val (.int c2), .val (.ref s0), .val (.ref s1), .val (.ref s2), .unset, .unset, .unset, .unset, .unset] [(.ref s3)])) _
   refine XS.dup X24.here hx rfl (hb hby at_62) rfl rfl ?_
   refine XS.iconst X24.here hx rfl (hb hby at_63) ?_
   refine XS.iload X24.here hx rfl (hb hby at_64) rfl ?_
   exact hgo
 obtain ⟨cl27, Ar27, q27, S27, Nn27, H27, G27⟩ := V_s3
 have hin27 : ¬ ((0 : Int32) < 0 ∨ cl27.slots.size ≤ ((0 : Int32)).toNatClampNeg) := inb_of S27 ⟨by decide, by decide⟩
 obtain ⟨T27, h27, X27, e27, W27, st27⟩ := stC X24 hx hZ e24 Ar27 (j := (0 : Int32)) hin27 (g := (mkF m 66 #[.val (.int p1), .val (.int p2), .val (.int p3), .val (.int p4), .val (.int ln), .val (.int c0), .val (.int c1), .val (.int c2), .val (.ref s0), .val (.ref s1), .val (.ref s2), .unset, .unset, .unset, .unset, .unset] [(.int c0), (.int 0), (.ref s3), (.ref s3)])) rfl rfl (hb hby at_66)
 replace hCH := hCH.wr W27 (Safe.arr hZ.alike Ar27 (by decide))
 replace hk := Nat.le_trans hk (Keep.of_wr W27).1
 replace hZn := Nat.le_trans hZn (Keep.of_wr W27).1
 replace hK := hK.wr W27 (Or.inr sz_s3)
 replace hOld := hOld.wr W27 ge_s3
 replace V_s0 := V_s0.other W27 ne_s0_s3
 replace V_s1 := V_s1.other W27 ne_s1_s3
 replace V_s2 := V_s2.other W27 ne_s2_s3
 have V_s3 : Arv Z h27 s3 k24 .char (3 : Int32) [(.int (nar .char c0)), (.int 0), (.int 0)] (.int 0) := Arv.set Ar27 q27 S27 Nn27 H27 G27 (fits_nar_char _) W27 0 rfl (Nat.le_of_ble_eq_true rfl)
 have N27 := Fr.snoc X27 N21 ge_s3
 have R28 := Rc.st R26 st27
 rw [own_narc hc0] at V_s3
 have R29 : Rc p e below A0 (T27.setTop (mkF m 71 #[.val (.int p1), .val (.int p2), .val (.int p3), .val (.int p4), .val (.int ln), .val (.int c0), .val (.int c1), .val (.int c2), .val (.ref s0), .val (.ref s1), .val (.ref s2), .unset, .unset, .unset, .unset, .unset] [(.int c1), (.int 1), (.ref s3), (.ref s3)])) := by
   intro tgt hgo
   refine R28 tgt ?_
   show Steps p.tables e below (T27.setTop (mkF m 67 #[.val (.int p1), .val (.int p2), .val (.int p3), .val (.int p4), .val (.int ln), .val (.int c0), .val (.int c1), .val (.int c2), .val (.ref s0), .val (.ref s1), .val (.ref s2), .unset, .unset, .unset, .unset, .unset] [(.ref s3)])) _
   refine XS.dup X27.here hx rfl (hb hby at_67) rfl rfl ?_
   refine XS.iconst X27.here hx rfl (hb hby at_68) ?_
   refine XS.iload X27.here hx rfl (hb hby at_69) rfl ?_
   exact hgo
 obtain ⟨cl30, Ar30, q30, S30, Nn30, H30, G30⟩ := V_s3
 have hin30 : ¬ ((1 : Int32) < 0 ∨ cl30.slots.size ≤ ((1 : Int32)).toNatClampNeg) := inb_of S30 ⟨by decide, by decide⟩
 obtain ⟨T30, h30, X30, e30, W30, st30⟩ := stC X27 hx hZ e27 Ar30 (j := (1 : Int32)) hin30 (g := (mkF m 71 #[.val (.int p1), .val (.int p2), .val (.int p3), .val (.int p4), .val (.int ln), .val (.int c0), .val (.int c1), .val (.int c2), .val (.ref s0), .val (.ref s1), .val (.ref s2), .unset, .unset, .unset, .unset, .unset] [(.int c1), (.int 1), (.ref s3), (.ref s3)])) rfl rfl (hb hby at_71)
 replace hCH := hCH.wr W30 (Safe.arr hZ.alike Ar30 (by decide))
 replace hk := Nat.le_trans hk (Keep.of_wr W30).1
 replace hZn := Nat.le_trans hZn (Keep.of_wr W30).1
 replace hK := hK.wr W30 (Or.inr sz_s3)
 replace hOld := hOld.wr W30 ge_s3
 replace V_s0 := V_s0.other W30 ne_s0_s3
 replace V_s1 := V_s1.other W30 ne_s1_s3
 replace V_s2 := V_s2.other W30 ne_s2_s3
 have V_s3 : Arv Z h30 s3 k24 .char (3 : Int32) [(.int c0), (.int (nar .char c1)), (.int 0)] (.int 0) := Arv.set Ar30 q30 S30 Nn30 H30 G30 (fits_nar_char _) W30 1 rfl (Nat.le_of_ble_eq_true rfl)
 have N30 := Fr.snoc X30 N27 ge_s3
 have R31 := Rc.st R29 st30
 rw [own_narc hc1] at V_s3
 have R32 : Rc p e below A0 (T30.setTop (mkF m 76 #[.val (.int p1), .val (.int p2), .val (.int p3), .val (.int p4), .val (.int ln), .val (.int c0), .val (.int c1), .val (.int c2), .val (.ref s0), .val (.ref s1), .val (.ref s2), .unset, .unset, .unset, .unset, .unset] [(.int c2), (.int 2), (.ref s3), (.ref s3)])) := by
   intro tgt hgo
   refine R31 tgt ?_
   show Steps p.tables e below (T30.setTop (mkF m 72 #[.val (.int p1), .val (.int p2), .val (.int p3), .val (.int p4), .val (.int ln), .val (.int c0), .val (.int c1), .val (.int c2), .val (.ref s0), .val (.ref s1), .val (.ref s2), .unset, .unset, .unset, .unset, .unset] [(.ref s3)])) _
   refine XS.dup X30.here hx rfl (hb hby at_72) rfl rfl ?_
   refine XS.iconst X30.here hx rfl (hb hby at_73) ?_
   refine XS.iload X30.here hx rfl (hb hby at_74) rfl ?_
   exact hgo
 obtain ⟨cl33, Ar33, q33, S33, Nn33, H33, G33⟩ := V_s3
 have hin33 : ¬ ((2 : Int32) < 0 ∨ cl33.slots.size ≤ ((2 : Int32)).toNatClampNeg) := inb_of S33 ⟨by decide, by decide⟩
 obtain ⟨T33, h33, X33, e33, W33, st33⟩ := stC X30 hx hZ e30 Ar33 (j := (2 : Int32)) hin33 (g := (mkF m 76 #[.val (.int p1), .val (.int p2), .val (.int p3), .val (.int p4), .val (.int ln), .val (.int c0), .val (.int c1), .val (.int c2), .val (.ref s0), .val (.ref s1), .val (.ref s2), .unset, .unset, .unset, .unset, .unset] [(.int c2), (.int 2), (.ref s3), (.ref s3)])) rfl rfl (hb hby at_76)
 replace hCH := hCH.wr W33 (Safe.arr hZ.alike Ar33 (by decide))
 replace hk := Nat.le_trans hk (Keep.of_wr W33).1
 replace hZn := Nat.le_trans hZn (Keep.of_wr W33).1
 replace hK := hK.wr W33 (Or.inr sz_s3)
 replace hOld := hOld.wr W33 ge_s3
 replace V_s0 := V_s0.other W33 ne_s0_s3
 replace V_s1 := V_s1.other W33 ne_s1_s3
 replace V_s2 := V_s2.other W33 ne_s2_s3
 have V_s3 : Arv Z h33 s3 k24 .char (3 : Int32) [(.int c0), (.int c1), (.int (nar .char c2))] (.int 0) := Arv.set Ar33 q33 S33 Nn33 H33 G33 (fits_nar_char _) W33 2 rfl (Nat.le_of_ble_eq_true rfl)
 have N33 := Fr.snoc X33 N30 ge_s3
 have R34 := Rc.st R32 st33
 rw [own_narc hc2] at V_s3
 have R36 : Rc p e below A0 (T33.setTop (fl m p1 p2 p3 p4 c0 c1 c2 s0 s1 s2 s3 (.val (.int ln)) (.unset) (.unset) (.unset) (.unset) 81 [(.int ln)])) := by
   intro tgt hgo
   refine R34 tgt ?_
   show Steps p.tables e below (T33.setTop (mkF m 77 #[.val (.int p1), .val (.int p2), .val (.int p3), .val (.int p4), .val (.int ln), .val (.int c0), .val (.int c1), .val (.int c2), .val (.ref s0), .val (.ref s1), .val (.ref s2), .unset, .unset, .unset, .unset, .unset] [(.ref s3)])) _
   refine XS.astore X33.here hx rfl (hb hby at_77) rfl rfl (l' := #[.val (.int p1), .val (.int p2), .val (.int p3), .val (.int p4), .val (.int ln), .val (.int c0), .val (.int c1), .val (.int c2), .val (.ref s0), .val (.ref s1), .val (.ref s2), .val (.ref s3), .unset, .unset, .unset, .unset]) rfl ?_
   refine XS.iload X33.here hx rfl (hb hby at_79) rfl ?_
   exact hgo
 by_cases hc81_35 : ln = (0 : Int32)
 ·have R37 : Rc p e below A0 (T33.setTop (fl m p1 p2 p3 p4 c0 c1 c2 s0 s1 s2 s3 (.val (.int ln)) (.unset) (.unset) (.unset) (.unset) 84 [])) := by
    intro tgt hgo
    refine R36 tgt ?_
    show Steps p.tables e below (T33.setTop (fl m p1 p2 p3 p4 c0 c1 c2 s0 s1 s2 s3 (.val (.int ln)) (.unset) (.unset) (.unset) (.unset) 81 [(.int ln)])) _
    refine XS.ifNo X33.here hx rfl (hb hby at_81) rfl ((if0 _ _).trans (teq hc81_35).2) ?_
    exact hgo
  rw [(hc81_35 : ln = (0 : Int32))] at R37
  obtain ⟨T38, h38, X38, e38, E38, A38, D38, -, st38⟩ := newO X33 hx hZ hown (w 1 rfl) (w 2 rfl) (w 3 rfl) e33 (g := (fl m p1 p2 p3 p4 c0 c1 c2 s0 s1 s2 s3 (.val (.int 0)) (.unset) (.unset) (.unset) (.unset) 84 [])) rfl (hb hby at_84) (by decide) (by decide)
  obtain ⟨str, g38⟩ : ∃ z, z = h33.size := ⟨_, rfl⟩
  rw [← g38] at A38 D38 st38
  have ne_s0_str : s0 ≠ str := Nat.ne_of_lt (Nat.lt_of_lt_of_le V_s0.lt (Nat.le_of_eq g38.symm))
  have ne_s1_str : s1 ≠ str := Nat.ne_of_lt (Nat.lt_of_lt_of_le V_s1.lt (Nat.le_of_eq g38.symm))
  have ne_s2_str : s2 ≠ str := Nat.ne_of_lt (Nat.lt_of_lt_of_le V_s2.lt (Nat.le_of_eq g38.symm))
  have ne_s3_str : s3 ≠ str := Nat.ne_of_lt (Nat.lt_of_lt_of_le V_s3.lt (Nat.le_of_eq g38.symm))
  have ge_str : n0 ≤ str := Nat.le_trans hZn (Nat.le_of_eq g38.symm)
  have sz_str : h0.size ≤ str := Nat.le_trans hK.1 (Nat.le_of_eq g38.symm)
  replace hCH := hCH.ext E38
  replace hk := Nat.le_trans hk E38.1
  replace hZn := Nat.le_trans hZn E38.1
  replace hK := hK.ext E38
  replace hOld := hOld.ext E38
  replace V_s0 := V_s0.ext E38
  replace V_s1 := V_s1.ext E38
  replace V_s2 := V_s2.ext E38
  replace V_s3 := V_s3.ext E38
  have E_str := A38
  have F_value_str : Fld Z h38 str "java/lang/String" "value" "[B" .null := D38 (Or.inr (w 16 rfl)) (ty := (.array .byte)) (by decide)
  have F_coder_str : Fld Z h38 str "java/lang/String" "coder" "B" (.int 0) := D38 (Or.inr (w 17 rfl)) (ty := .byte) (by decide)
  have R39 := Rc.st R37 st38
  have R40 : Rc p e below A0 (T38.setTop (fl m p1 p2 p3 p4 c0 c1 c2 s0 s1 s2 s3 (.val (.int 0)) (.unset) (.unset) (.unset) (.unset) 90 [(.ref s0), (.ref str), (.ref str)])) := by
    intro tgt hgo
    refine R39 tgt ?_
    show Steps p.tables e below (T38.setTop (fl m p1 p2 p3 p4 c0 c1 c2 s0 s1 s2 s3 (.val (.int 0)) (.unset) (.unset) (.unset) (.unset) 87 [(.ref str)])) _
    refine XS.dup X38.here hx rfl (hb hby at_87) rfl rfl ?_
    refine XS.aload X38.here hx rfl (hb hby at_88) rfl rfl ?_
    exact hgo
  obtain ⟨_, _, ⟨T41, L41, k41, n41⟩, -, X41, hS41, hg41, ⟨Lc41, hQ41, l41, y41, z41⟩, st41⟩ := X38.specialBackS hx (y := yn32) rfl hown (mvT hZ (w 4 rfl)) (mvT hZ (w 5 rfl)) (mvT hZ (w 6 rfl)) (by decide) (OwnKit.own_backW (W := 1) (rm_i1 l Z a0 hw [] str s0 _ h38 n0 hZn ge_str E_str F_value_str F_coder_str V_s0 (Ne.symm ne_s0_str)) hZ (w 6 rfl) (w 3 rfl) (by decide) (by decide) hEL hCH) (g := (fl m p1 p2 p3 p4 c0 c1 c2 s0 s1 s2 s3 (.val (.int 0)) (.unset) (.unset) (.unset) (.unset) 90 [(.ref s0), (.ref str), (.ref str)])) rfl (by rw [hml]; rfl) (Steps.refl _) (a := str) (argsL := [(.ref s0)]) (rest := [(.ref str)]) (lenOf pd_21 rfl) rfl (by show 2 * 0 + _ ≤ _; exact Nat.le_of_eq rfl) (hb hby at_90) (fun _ _ => ⟨rfl, e38, (by decide : 5 + 2 ≤ _), (by decide : 10 + 4 ≤ _)⟩)
  dsimp only [Pt.U, Pt.locs, Pt.cells, Pt.slots] at X41 hS41 hg41 l41 y41 z41 st41 hQ41
  subst l41 y41 z41
  obtain ⟨X41r, hS41r, hZ41r, hown41r⟩ := rebS hS (by rw [e38]; exact hk) X41 hS41 hg41 hZ hown
  replace X41 := X41r
  replace hS := hS41r
  replace hZ := hZ41r
  replace hown := hown41r
  obtain ⟨rfl, N41q, K41, tb, kb, DSt, nst⟩ := hQ41
  have N41 := Fr.app N33 N41q
  have R42 := Rc.tr R40 st41
  replace hZn := Nat.le_trans hZn K41.1
  replace hK := hK.trans K41 (allS (Or.inr sz_str) all0)
  replace hOld := hOld.keep K41 (allS ge_str all0)
  replace V_s0 := V_s0.keep K41 (ninS ne_s0_str nin0)
  replace V_s1 := V_s1.keep K41 (ninS ne_s1_str nin0)
  replace V_s2 := V_s2.keep K41 (ninS ne_s2_str nin0)
  replace V_s3 := V_s3.keep K41 (ninS ne_s3_str nin0)
  replace E_str := E_str.keep K41
  replace hk : T41.heap.size ≤ T41.heap.size := Nat.le_refl _
  have R43 : Rc p e below A0 (T41.setTop (fl m p1 p2 p3 p4 c0 c1 c2 s0 s1 s2 s3 (.val (.int 0)) (.val (.ref str)) (.unset) (.unset) (.unset) 151 [(.ref str)])) := by
    intro tgt hgo
    refine R42 tgt ?_
    show Steps p.tables e below (T41.setTop (fl m p1 p2 p3 p4 c0 c1 c2 s0 s1 s2 s3 (.val (.int 0)) (.unset) (.unset) (.unset) (.unset) 93 [(.ref str)])) _
    refine XS.astore X41.here hx rfl (hb hby at_93) rfl rfl (l' := #[.val (.int p1), .val (.int p2), .val (.int p3), .val (.int p4), .val (.int 0), .val (.int c0), .val (.int c1), .val (.int c2), .val (.ref s0), .val (.ref s1), .val (.ref s2), .val (.ref s3), .val (.ref str), .unset, .unset, .unset]) rfl ?_
    refine XS.goto X41.here hx rfl (pc0 := 95) (pc' := 149) rfl (hb hby at_95) (by decide) (by decide) ?_
    refine XS.aload X41.here hx rfl (hb hby at_149) rfl rfl ?_
    exact hgo
  obtain ⟨_, _, ⟨T44, L44, k44, n44⟩, -, X44, ⟨Lc44, hQ44, l44, y44, z44⟩, st44⟩ := Jvm.LawKit.callS X41 hx (y := yn30) hown (mvT hZ (w 22 rfl)) (mvT hZ (w 23 rfl)) (mvT hZ (w 24 rfl)) (mvT hZ (w 25 rfl)) (by decide) (backOf (W := 0) (rm_quote0 l Z a0 hw [] str  zc tb kb vf T41.heap n0 hZn hOld S_cs hz S_f hf  DSt) hZ (w 25 rfl) (w 24 rfl) (by decide) (by decide)) (g := (fl m p1 p2 p3 p4 c0 c1 c2 s0 s1 s2 s3 (.val (.int 0)) (.val (.ref str)) (.unset) (.unset) (.unset) 151 [(.ref str)])) rfl (by rw [hml]; rfl) (argsL := [(.ref str)]) (rest := []) (lenOf pd_22 rfl) rfl (by show 2 * 0 + _ ≤ _; exact Nat.le_of_eq rfl) (hb hby at_151) (fun _ _ => ⟨rfl, rfl, (by decide : 7 + 12 ≤ _), (by decide : 14 + 128 ≤ _)⟩)
  dsimp only [Pt.U, Pt.locs, Pt.cells, Pt.slots] at X44 l44 y44 z44 st44 hQ44
  subst l44 y44 z44
  obtain ⟨⟨xr, rfl, tr, kr, szr, SFr⟩, N44q, K44⟩ := hQ44
  have N44 := Fr.app N41 N44q
  have R45 := Rc.st R43 st44
  replace hZn := Nat.le_trans hZn K44.1
  replace hOld := hOld.keep K44 all0
  replace hk := Nat.le_trans hk K44.1
  have E_r := SFr.1
  have hq : ([] ++ [own_b 34]) ++ [own_b 34] = [own_b 34, own_b 34] := by simp [own_esc]
  rw [hq] at SFr
  have R46 : Rc p e below A0 (T44.setTop (fl m p1 p2 p3 p4 c0 c1 c2 s0 s1 s2 s3 (.val (.int 0)) (.val (.ref str)) (.val (.ref xr)) (.val (.int 2)) (.unset) 224 [(.ref xr)])) := by
    intro tgt hgo
    refine R45 tgt ?_
    show Steps p.tables e below (T44.setTop (fl m p1 p2 p3 p4 c0 c1 c2 s0 s1 s2 s3 (.val (.int 0)) (.val (.ref str)) (.unset) (.unset) (.unset) 154 [(.ref xr)])) _
    refine XS.astore X44.here hx rfl (hb hby at_154) rfl rfl (l' := #[.val (.int p1), .val (.int p2), .val (.int p3), .val (.int p4), .val (.int 0), .val (.int c0), .val (.int c1), .val (.int c2), .val (.ref s0), .val (.ref s1), .val (.ref s2), .val (.ref s3), .val (.ref str), .val (.ref xr), .unset, .unset]) rfl ?_
    refine XS.iconst X44.here hx rfl (hb hby at_156) ?_
    refine XS.iload X44.here hx rfl (hb hby at_157) rfl ?_
    refine XS.iadd X44.here hx rfl (hb hby at_159) rfl ?_
    refine XS.istore X44.here hx rfl (hb hby at_160) rfl (l' := #[.val (.int p1), .val (.int p2), .val (.int p3), .val (.int p4), .val (.int 0), .val (.int c0), .val (.int c1), .val (.int c2), .val (.ref s0), .val (.ref s1), .val (.ref s2), .val (.ref s3), .val (.ref str), .val (.ref xr), .val (.int 2), .unset]) rfl ?_
    refine XS.iload X44.here hx rfl (hb hby at_162) rfl ?_
    refine XS.iconst X44.here hx rfl (hb hby at_164) ?_
    refine XS.icmpYes X44.here hx rfl (pc0 := 165) (pc' := 182) rfl (hb hby at_165) rfl (tlt (by decide : (0 : Int32) < (1 : Int32))).1 (by decide) (by decide) ?_
    refine XS.iload X44.here hx rfl (hb hby at_182) rfl ?_
    refine XS.iconst X44.here hx rfl (hb hby at_184) ?_
    refine XS.icmpYes X44.here hx rfl (pc0 := 185) (pc' := 202) rfl (hb hby at_185) rfl (tlt (by decide : (0 : Int32) < (2 : Int32))).1 (by decide) (by decide) ?_
    refine XS.iload X44.here hx rfl (hb hby at_202) rfl ?_
    refine XS.iconst X44.here hx rfl (hb hby at_204) ?_
    refine XS.icmpYes X44.here hx rfl (pc0 := 205) (pc' := 222) rfl (hb hby at_205) rfl (tlt (by decide : (0 : Int32) < (3 : Int32))).1 (by decide) (by decide) ?_
    refine XS.aload X44.here hx rfl (hb hby at_222) rfl rfl ?_
    exact hgo
  obtain ⟨cq47, kq47, q47a, q47b, q47c⟩ := isOf hZ rfl E_r
  obtain ⟨_, _, ⟨T47, L47, k47, n47⟩, -, X47, ⟨Lc47, hQ47, l47, y47, z47⟩, st47⟩ := X44.virtualBack hx (y := yn1) (z := yn1) hown (mvT hZ (w 120 rfl)) (mvT hZ (w 30 rfl)) (notFace_of_selects (args := #[]) (mvT hZ (w 32 rfl))) (mvT hZ (w 32 rfl)) (mvT hZ (w 31 rfl)) (by decide) (backOf (W := 0) (rm_length l Z a0 hw [] xr zc tr kr [own_b 34, own_b 34] T44.heap n0 hZn hOld S_cs hz SFr) hZ (w 33 rfl) (w 3 rfl) (by decide) (by decide)) q47a q47c (g := (fl m p1 p2 p3 p4 c0 c1 c2 s0 s1 s2 s3 (.val (.int 0)) (.val (.ref str)) (.val (.ref xr)) (.val (.int 2)) (.unset) 224 [(.ref xr)])) rfl (by rw [hml]; rfl) (Steps.refl _) (argsL := []) (rest := []) (lenOf pd_13 rfl) rfl (by show 2 * 0 + _ ≤ _; exact Nat.le_of_eq rfl) (hb hby at_224) (fun _ _ => ⟨rfl, rfl, (by decide : 19 + 0 ≤ _), (by decide : 142 + 0 ≤ _)⟩)
  dsimp only [Pt.U, Pt.locs, Pt.cells, Pt.slots] at X47 l47 y47 z47 st47 hQ47
  subst l47 y47 z47
  obtain ⟨rfl, N47q, e47⟩ := hQ47
  have N47 := Fr.app N44 N47q
  have R48 := Rc.tr R46 st47
  have R49 : Rc p e below A0 (T47.setTop (fl m p1 p2 p3 p4 c0 c1 c2 s0 s1 s2 s3 (.val (.int 0)) (.val (.ref str)) (.val (.ref xr)) (.val (.int 2)) (.unset) 237 [(.int 0), (.ref xr)])) := by
    intro tgt hgo
    refine R48 tgt ?_
    show Steps p.tables e below (T47.setTop (fl m p1 p2 p3 p4 c0 c1 c2 s0 s1 s2 s3 (.val (.int 0)) (.val (.ref str)) (.val (.ref xr)) (.val (.int 2)) (.unset) 227 [(.int 2)])) _
    refine XS.iload X47.here hx rfl (hb hby at_227) rfl ?_
    refine XS.icmpYes X47.here hx rfl (pc0 := 229) (pc' := 234) rfl (hb hby at_229) rfl (teq (by decide : (2 : Int32) = (2 : Int32))).1 (by decide) (by decide) ?_
    refine XS.aload X47.here hx rfl (hb hby at_234) rfl rfl ?_
    refine XS.iconst X47.here hx rfl (hb hby at_236) ?_
    exact hgo
  obtain ⟨cq50, kq50, q50a, q50b, q50c⟩ := isOf hZ e47 E_r
  obtain ⟨_, _, ⟨T50, L50, k50, n50⟩, -, X50, ⟨Lc50, hQ50, l50, y50, z50⟩, st50⟩ := X47.virtualBack hx (y := yn6) (z := yn6) hown (mvT hZ (w 121 rfl)) (mvT hZ (w 122 rfl)) (notFace_of_selects (args := #[]) (mvT hZ (w 124 rfl))) (mvT hZ (w 124 rfl)) (mvT hZ (w 123 rfl)) (by decide) (backOf (W := 0) (rm_charAt l Z a0 hw [] xr (0 : Int32) zc tr kr [own_b 34, own_b 34] 0 34 vf T44.heap n0 hZn rfl hOld S_cs hz S_f hf (by decide) (by show Int32.ofNat 0 < Int32.ofNat 2; decide) rfl own_c34 SFr) hZ (w 125 rfl) (w 3 rfl) (by decide) (by decide)) q50a q50c (g := (fl m p1 p2 p3 p4 c0 c1 c2 s0 s1 s2 s3 (.val (.int 0)) (.val (.ref str)) (.val (.ref xr)) (.val (.int 2)) (.unset) 237 [(.int 0), (.ref xr)])) rfl (by rw [hml]; rfl) (Steps.refl _) (argsL := [(.int 0)]) (rest := []) (lenOf pd_17 rfl) rfl (by show 2 * 0 + _ ≤ _; exact Nat.le_of_eq rfl) (hb hby at_237) (fun _ _ => ⟨rfl, e47, (by decide : 19 + 0 ≤ _), (by decide : 142 + 0 ≤ _)⟩)
  dsimp only [Pt.U, Pt.locs, Pt.cells, Pt.slots] at X50 l50 y50 z50 st50 hQ50
  subst l50 y50 z50
  obtain ⟨rfl, N50q, e50⟩ := hQ50
  have N50 := Fr.app N47 N50q
  have R51 := Rc.tr R49 st50
  have R52 : Rc p e below A0 (T50.setTop (fl m p1 p2 p3 p4 c0 c1 c2 s0 s1 s2 s3 (.val (.int 0)) (.val (.ref str)) (.val (.ref xr)) (.val (.int 2)) (.val (.int 1)) 314 [(.int 1), (.ref xr)])) := by
    intro tgt hgo
    refine R51 tgt ?_
    show Steps p.tables e below (T50.setTop (fl m p1 p2 p3 p4 c0 c1 c2 s0 s1 s2 s3 (.val (.int 0)) (.val (.ref str)) (.val (.ref xr)) (.val (.int 2)) (.unset) 240 [(.int 34)])) _
    refine XS.bipush X50.here hx rfl (hb hby at_240) ?_
    refine XS.icmpYes X50.here hx rfl (pc0 := 242) (pc' := 247) rfl (hb hby at_242) rfl (teq (by decide : (34 : Int32) = (34 : Int32))).1 (by decide) (by decide) ?_
    refine XS.iconst X50.here hx rfl (hb hby at_247) ?_
    refine XS.istore X50.here hx rfl (hb hby at_248) rfl (l' := #[.val (.int p1), .val (.int p2), .val (.int p3), .val (.int p4), .val (.int 0), .val (.int c0), .val (.int c1), .val (.int c2), .val (.ref s0), .val (.ref s1), .val (.ref s2), .val (.ref s3), .val (.ref str), .val (.ref xr), .val (.int 2), .val (.int 1)]) rfl ?_
    refine XS.iload X50.here hx rfl (hb hby at_250) rfl ?_
    refine XS.iconst X50.here hx rfl (hb hby at_252) ?_
    refine XS.icmpYes X50.here hx rfl (pc0 := 253) (pc' := 267) rfl (hb hby at_253) rfl (tlt (by decide : (0 : Int32) < (1 : Int32))).1 (by decide) (by decide) ?_
    refine XS.iload X50.here hx rfl (hb hby at_267) rfl ?_
    refine XS.iconst X50.here hx rfl (hb hby at_269) ?_
    refine XS.icmpYes X50.here hx rfl (pc0 := 270) (pc' := 284) rfl (hb hby at_270) rfl (tlt (by decide : (0 : Int32) < (2 : Int32))).1 (by decide) (by decide) ?_
    refine XS.iload X50.here hx rfl (hb hby at_284) rfl ?_
    refine XS.iconst X50.here hx rfl (hb hby at_286) ?_
    refine XS.icmpYes X50.here hx rfl (pc0 := 287) (pc' := 301) rfl (hb hby at_287) rfl (tlt (by decide : (0 : Int32) < (3 : Int32))).1 (by decide) (by decide) ?_
    refine XS.iload X50.here hx rfl (hb hby at_301) rfl ?_
    refine XS.iload X50.here hx rfl (hb hby at_303) rfl ?_
    refine XS.iconst X50.here hx rfl (hb hby at_305) ?_
    refine XS.isub X50.here hx rfl (hb hby at_306) rfl ?_
    refine XS.icmpNo X50.here hx rfl (hb hby at_307) rfl (teq (by decide : (1 : Int32) = (1 : Int32))).2 ?_
    refine XS.aload X50.here hx rfl (hb hby at_310) rfl rfl ?_
    refine XS.iload X50.here hx rfl (hb hby at_312) rfl ?_
    exact hgo
  obtain ⟨cq53, kq53, q53a, q53b, q53c⟩ := isOf hZ e50 E_r
  obtain ⟨_, _, ⟨T53, L53, k53, n53⟩, -, X53, ⟨Lc53, hQ53, l53, y53, z53⟩, st53⟩ := X50.virtualBack hx (y := yn6) (z := yn6) hown (mvT hZ (w 121 rfl)) (mvT hZ (w 122 rfl)) (notFace_of_selects (args := #[]) (mvT hZ (w 124 rfl))) (mvT hZ (w 124 rfl)) (mvT hZ (w 123 rfl)) (by decide) (backOf (W := 0) (rm_charAt l Z a0 hw [] xr (1 : Int32) zc tr kr [own_b 34, own_b 34] 1 34 vf T44.heap n0 hZn rfl hOld S_cs hz S_f hf (by decide) (by show Int32.ofNat 1 < Int32.ofNat 2; decide) rfl own_c34 SFr) hZ (w 125 rfl) (w 3 rfl) (by decide) (by decide)) q53a q53c (g := (fl m p1 p2 p3 p4 c0 c1 c2 s0 s1 s2 s3 (.val (.int 0)) (.val (.ref str)) (.val (.ref xr)) (.val (.int 2)) (.val (.int 1)) 314 [(.int 1), (.ref xr)])) rfl (by rw [hml]; rfl) (Steps.refl _) (argsL := [(.int 1)]) (rest := []) (lenOf pd_17 rfl) rfl (by show 2 * 0 + _ ≤ _; exact Nat.le_of_eq rfl) (hb hby at_314) (fun _ _ => ⟨rfl, e50, (by decide : 19 + 0 ≤ _), (by decide : 142 + 0 ≤ _)⟩)
  dsimp only [Pt.U, Pt.locs, Pt.cells, Pt.slots] at X53 l53 y53 z53 st53 hQ53
  subst l53 y53 z53
  obtain ⟨rfl, N53q, e53⟩ := hQ53
  have N53 := Fr.app N50 N53q
  have R54 := Rc.tr R52 st53
  have R55 : Rc p e below A0 (T53.setTop (fl m p1 p2 p3 p4 c0 c1 c2 s0 s1 s2 s3 (.val (.int 0)) (.val (.ref str)) (.val (.ref xr)) (.val (.int 2)) (.val (.int 1)) 327 [(.int 1)])) := by
    intro tgt hgo
    refine R54 tgt ?_
    show Steps p.tables e below (T53.setTop (fl m p1 p2 p3 p4 c0 c1 c2 s0 s1 s2 s3 (.val (.int 0)) (.val (.ref str)) (.val (.ref xr)) (.val (.int 2)) (.val (.int 1)) 317 [(.int 34)])) _
    refine XS.bipush X53.here hx rfl (hb hby at_317) ?_
    refine XS.icmpNo X53.here hx rfl (hb hby at_319) rfl (teq (by decide : (34 : Int32) = (34 : Int32))).2 ?_
    refine XS.iconst X53.here hx rfl (hb hby at_322) ?_
    refine XS.goto X53.here hx rfl (pc0 := 323) (pc' := 327) rfl (hb hby at_323) (by decide) (by decide) ?_
    exact hgo
  subst hA0
  obtain ⟨fs, hr, hrun, hended, hRW⟩ := X53.leaveW hS (by rw [e53]; exact hk) (v := some (.int 1)) (fun h => by rw [Bd.returns] at h; cases h) Bd.notSynchronized
  refine ⟨_, _, R55 _ ?_, hrun, hended, _, _, rfl, ?_, OwnKit.own_fin hRW (by decide) (by decide)⟩
  ·show Steps p.tables e below (T53.setTop (fl m p1 p2 p3 p4 c0 c1 c2 s0 s1 s2 s3 (.val (.int 0)) (.val (.ref str)) (.val (.ref xr)) (.val (.int 2)) (.val (.int 1)) 327 [(.int 1)])) _
   exact retN X53 hx (t := .boolean) Bd.returns (by simp) (hb hby at_327) hr
  ·show Q0 n0 _ T53.heap _
   rw [e53]
   exact ⟨rfl, N53⟩
 ·have R57 : Rc p e below A0 (T33.setTop (fl m p1 p2 p3 p4 c0 c1 c2 s0 s1 s2 s3 (.val (.int ln)) (.unset) (.unset) (.unset) (.unset) 101 [(.int 1), (.int ln)])) := by
    intro tgt hgo
    refine R36 tgt ?_
    show Steps p.tables e below (T33.setTop (fl m p1 p2 p3 p4 c0 c1 c2 s0 s1 s2 s3 (.val (.int ln)) (.unset) (.unset) (.unset) (.unset) 81 [(.int ln)])) _
    refine XS.ifYes X33.here hx rfl (pc0 := 81) (pc' := 98) rfl (hb hby at_81) rfl ((if0 _ _).trans (feq hc81_35).2) (by decide) (by decide) ?_
    refine XS.iload X33.here hx rfl (hb hby at_98) rfl ?_
    refine XS.iconst X33.here hx rfl (hb hby at_100) ?_
    exact hgo
  by_cases hc101_56 : ln = (1 : Int32)
  ·have R58 : Rc p e below A0 (T33.setTop (fl m p1 p2 p3 p4 c0 c1 c2 s0 s1 s2 s3 (.val (.int ln)) (.unset) (.unset) (.unset) (.unset) 104 [])) := by
     intro tgt hgo
     refine R57 tgt ?_
     show Steps p.tables e below (T33.setTop (fl m p1 p2 p3 p4 c0 c1 c2 s0 s1 s2 s3 (.val (.int ln)) (.unset) (.unset) (.unset) (.unset) 101 [(.int 1), (.int ln)])) _
     refine XS.icmpNo X33.here hx rfl (hb hby at_101) rfl (teq hc101_56).2 ?_
     exact hgo
   rw [(hc101_56 : ln = (1 : Int32))] at R58
   obtain ⟨T59, h59, X59, e59, E59, A59, D59, -, st59⟩ := newO X33 hx hZ hown (w 1 rfl) (w 2 rfl) (w 3 rfl) e33 (g := (fl m p1 p2 p3 p4 c0 c1 c2 s0 s1 s2 s3 (.val (.int 1)) (.unset) (.unset) (.unset) (.unset) 104 [])) rfl (hb hby at_104) (by decide) (by decide)
   obtain ⟨str, g59⟩ : ∃ z, z = h33.size := ⟨_, rfl⟩
   rw [← g59] at A59 D59 st59
   have ne_s0_str : s0 ≠ str := Nat.ne_of_lt (Nat.lt_of_lt_of_le V_s0.lt (Nat.le_of_eq g59.symm))
   have ne_s1_str : s1 ≠ str := Nat.ne_of_lt (Nat.lt_of_lt_of_le V_s1.lt (Nat.le_of_eq g59.symm))
   have ne_s2_str : s2 ≠ str := Nat.ne_of_lt (Nat.lt_of_lt_of_le V_s2.lt (Nat.le_of_eq g59.symm))
   have ne_s3_str : s3 ≠ str := Nat.ne_of_lt (Nat.lt_of_lt_of_le V_s3.lt (Nat.le_of_eq g59.symm))
   have ge_str : n0 ≤ str := Nat.le_trans hZn (Nat.le_of_eq g59.symm)
   have sz_str : h0.size ≤ str := Nat.le_trans hK.1 (Nat.le_of_eq g59.symm)
   replace hCH := hCH.ext E59
   replace hk := Nat.le_trans hk E59.1
   replace hZn := Nat.le_trans hZn E59.1
   replace hK := hK.ext E59
   replace hOld := hOld.ext E59
   replace V_s0 := V_s0.ext E59
   replace V_s1 := V_s1.ext E59
   replace V_s2 := V_s2.ext E59
   replace V_s3 := V_s3.ext E59
   have E_str := A59
   have F_value_str : Fld Z h59 str "java/lang/String" "value" "[B" .null := D59 (Or.inr (w 16 rfl)) (ty := (.array .byte)) (by decide)
   have F_coder_str : Fld Z h59 str "java/lang/String" "coder" "B" (.int 0) := D59 (Or.inr (w 17 rfl)) (ty := .byte) (by decide)
   have R60 := Rc.st R58 st59
   have R61 : Rc p e below A0 (T59.setTop (fl m p1 p2 p3 p4 c0 c1 c2 s0 s1 s2 s3 (.val (.int 1)) (.unset) (.unset) (.unset) (.unset) 110 [(.ref s1), (.ref str), (.ref str)])) := by
     intro tgt hgo
     refine R60 tgt ?_
     show Steps p.tables e below (T59.setTop (fl m p1 p2 p3 p4 c0 c1 c2 s0 s1 s2 s3 (.val (.int 1)) (.unset) (.unset) (.unset) (.unset) 107 [(.ref str)])) _
     refine XS.dup X59.here hx rfl (hb hby at_107) rfl rfl ?_
     refine XS.aload X59.here hx rfl (hb hby at_108) rfl rfl ?_
     exact hgo
   have hlat : ∀ c ∈ [c0], ¬ c < 0 ∧ ¬ (255 : Int32) < c := by
     intro c hc
     simp only [List.mem_cons, List.not_mem_nil, or_false] at hc
     rcases hc with rfl
     · exact own_lat hc0
   obtain ⟨_, _, ⟨T62, L62, k62, n62⟩, -, X62, ⟨Lc62, hQ62, l62, y62, z62⟩, st62⟩ := X59.specialBack hx (y := yn32) rfl hown (mvT hZ (w 4 rfl)) (mvT hZ (w 5 rfl)) (mvT hZ (w 6 rfl)) (by decide) (StrChars.Road.backV (W := 1) hZ hws (kI := 4) (w 2 rfl) (cs := [c0]) (bs := [own_b c0]) (n := 1) ge_str hZn E_str F_value_str F_coder_str V_s1 (S_cs.ext hOld.2) hz rfl rfl (by decide) (by decide) hlat rfl (by decide) (by decide)) (g := (fl m p1 p2 p3 p4 c0 c1 c2 s0 s1 s2 s3 (.val (.int 1)) (.unset) (.unset) (.unset) (.unset) 110 [(.ref s1), (.ref str), (.ref str)])) rfl (by rw [hml]; rfl) (Steps.refl _) (a := str) (argsL := [(.ref s1)]) (rest := [(.ref str)]) (lenOf pd_21 rfl) rfl (by show 2 * 0 + _ ≤ _; exact Nat.le_of_eq rfl) (hb hby at_110) (fun _ _ => ⟨rfl, e59, (by decide : 5 + 1 ≤ _), (by decide : 10 + 1 ≤ _)⟩)
   dsimp only [Pt.U, Pt.locs, Pt.cells, Pt.slots] at X62 l62 y62 z62 st62 hQ62
   subst l62 y62 z62
   obtain ⟨rfl, N62q, K62, g62a, g62b, tb, kb, g62c, g62d, g62e, g62f, g62g⟩ := hQ62
   have N62 := Fr.app N33 N62q
   have R63 := Rc.tr R61 st62
   replace hk := Nat.le_trans hk K62.1
   replace hZn := Nat.le_trans hZn K62.1
   replace hK := hK.trans K62 (allS (Or.inr sz_str) all0)
   replace hOld := hOld.keep K62 (allS ge_str all0)
   replace V_s0 := V_s0.keep K62 (ninS ne_s0_str nin0)
   replace V_s1 := V_s1.keep K62 (ninS ne_s1_str nin0)
   replace V_s2 := V_s2.keep K62 (ninS ne_s2_str nin0)
   replace V_s3 := V_s3.keep K62 (ninS ne_s3_str nin0)
   replace E_str := E_str.keep K62
   have DSt : StrF Z T62.heap str tb kb [own_b c0] := ⟨g62a, g62b, g62f, g62g⟩
   have R64 : Rc p e below A0 (T62.setTop (fl m p1 p2 p3 p4 c0 c1 c2 s0 s1 s2 s3 (.val (.int 1)) (.val (.ref str)) (.unset) (.unset) (.unset) 151 [(.ref str)])) := by
     intro tgt hgo
     refine R63 tgt ?_
     show Steps p.tables e below (T62.setTop (fl m p1 p2 p3 p4 c0 c1 c2 s0 s1 s2 s3 (.val (.int 1)) (.unset) (.unset) (.unset) (.unset) 113 [(.ref str)])) _
     refine XS.astore X62.here hx rfl (hb hby at_113) rfl rfl (l' := #[.val (.int p1), .val (.int p2), .val (.int p3), .val (.int p4), .val (.int 1), .val (.int c0), .val (.int c1), .val (.int c2), .val (.ref s0), .val (.ref s1), .val (.ref s2), .val (.ref s3), .val (.ref str), .unset, .unset, .unset]) rfl ?_
     refine XS.goto X62.here hx rfl (pc0 := 115) (pc' := 149) rfl (hb hby at_115) (by decide) (by decide) ?_
     refine XS.aload X62.here hx rfl (hb hby at_149) rfl rfl ?_
     exact hgo
   obtain ⟨_, _, ⟨T65, L65, k65, n65⟩, -, X65, ⟨Lc65, hQ65, l65, y65, z65⟩, st65⟩ := Jvm.LawKit.callS X62 hx (y := yn30) hown (mvT hZ (w 22 rfl)) (mvT hZ (w 23 rfl)) (mvT hZ (w 24 rfl)) (mvT hZ (w 25 rfl)) (by decide) (backOf (W := 0) (rm_quote1 l Z a0 hw [] str c0 zc tb kb vf T62.heap n0 hZn hOld S_cs hz S_f hf hc0 DSt) hZ (w 25 rfl) (w 24 rfl) (by decide) (by decide)) (g := (fl m p1 p2 p3 p4 c0 c1 c2 s0 s1 s2 s3 (.val (.int 1)) (.val (.ref str)) (.unset) (.unset) (.unset) 151 [(.ref str)])) rfl (by rw [hml]; rfl) (argsL := [(.ref str)]) (rest := []) (lenOf pd_22 rfl) rfl (by show 2 * 0 + _ ≤ _; exact Nat.le_of_eq rfl) (hb hby at_151) (fun _ _ => ⟨rfl, rfl, (by decide : 6 + 12 ≤ _), (by decide : 11 + 128 ≤ _)⟩)
   dsimp only [Pt.U, Pt.locs, Pt.cells, Pt.slots] at X65 l65 y65 z65 st65 hQ65
   subst l65 y65 z65
   obtain ⟨⟨xr, rfl, tr, kr, szr, SFr⟩, N65q, K65⟩ := hQ65
   have N65 := Fr.app N62 N65q
   have R66 := Rc.st R64 st65
   replace hZn := Nat.le_trans hZn K65.1
   replace hOld := hOld.keep K65 all0
   replace hk := Nat.le_trans hk K65.1
   have E_r := SFr.1
   have R67 : Rc p e below A0 (T65.setTop (fl m p1 p2 p3 p4 c0 c1 c2 s0 s1 s2 s3 (.val (.int 1)) (.val (.ref str)) (.val (.ref xr)) (.val (.int 3)) (.unset) 168 [])) := by
     intro tgt hgo
     refine R66 tgt ?_
     show Steps p.tables e below (T65.setTop (fl m p1 p2 p3 p4 c0 c1 c2 s0 s1 s2 s3 (.val (.int 1)) (.val (.ref str)) (.unset) (.unset) (.unset) 154 [(.ref xr)])) _
     refine XS.astore X65.here hx rfl (hb hby at_154) rfl rfl (l' := #[.val (.int p1), .val (.int p2), .val (.int p3), .val (.int p4), .val (.int 1), .val (.int c0), .val (.int c1), .val (.int c2), .val (.ref s0), .val (.ref s1), .val (.ref s2), .val (.ref s3), .val (.ref str), .val (.ref xr), .unset, .unset]) rfl ?_
     refine XS.iconst X65.here hx rfl (hb hby at_156) ?_
     refine XS.iload X65.here hx rfl (hb hby at_157) rfl ?_
     refine XS.iadd X65.here hx rfl (hb hby at_159) rfl ?_
     refine XS.istore X65.here hx rfl (hb hby at_160) rfl (l' := #[.val (.int p1), .val (.int p2), .val (.int p3), .val (.int p4), .val (.int 1), .val (.int c0), .val (.int c1), .val (.int c2), .val (.ref s0), .val (.ref s1), .val (.ref s2), .val (.ref s3), .val (.ref str), .val (.ref xr), .val (.int 3), .unset]) rfl ?_
     refine XS.iload X65.here hx rfl (hb hby at_162) rfl ?_
     refine XS.iconst X65.here hx rfl (hb hby at_164) ?_
     refine XS.icmpNo X65.here hx rfl (hb hby at_165) rfl (flt (by decide : ¬ ((1 : Int32) < (1 : Int32)))).1 ?_
     exact hgo
   rcases own_sp_cases c0 with ⟨hs0, -⟩ | ⟨hs0, -, -⟩
   ·have R68 : Rc p e below A0 (T65.setTop (fl m p1 p2 p3 p4 c0 c1 c2 s0 s1 s2 s3 (.val (.int 1)) (.val (.ref str)) (.val (.ref xr)) (.val (.int 3)) (.unset) 170 [(.int c0)])) := by
      intro tgt hgo
      refine R67 tgt ?_
      show Steps p.tables e below (T65.setTop (fl m p1 p2 p3 p4 c0 c1 c2 s0 s1 s2 s3 (.val (.int 1)) (.val (.ref str)) (.val (.ref xr)) (.val (.int 3)) (.unset) 168 [])) _
      refine XS.iload X65.here hx rfl (hb hby at_168) rfl ?_
      exact hgo
    obtain ⟨_, _, ⟨T69, L69, k69, n69⟩, -, X69, ⟨Lc69, hQ69, l69, y69, z69⟩, st69⟩ := Jvm.LawKit.callS X65 hx (y := yn28) hown (mvT hZ (w 153 rfl)) (mvT hZ (w 154 rfl)) (mvT hZ (w 155 rfl)) (mvT hZ (w 156 rfl)) (by decide) (backOf (W := 0) (rm_sp l Z a0 hw [] c0 1 T65.heap n0 hZn hs0) hZ (w 156 rfl) (w 155 rfl) (by decide) (by decide)) (g := (fl m p1 p2 p3 p4 c0 c1 c2 s0 s1 s2 s3 (.val (.int 1)) (.val (.ref str)) (.val (.ref xr)) (.val (.int 3)) (.unset) 170 [(.int c0)])) rfl (by rw [hml]; rfl) (argsL := [(.int c0)]) (rest := []) (lenOf pd_10 rfl) rfl (by show 2 * 0 + _ ≤ _; exact Nat.le_of_eq rfl) (hb hby at_170) (fun _ _ => ⟨rfl, rfl, (by decide : 18 + 0 ≤ _), (by decide : 139 + 0 ≤ _)⟩)
    dsimp only [Pt.U, Pt.locs, Pt.cells, Pt.slots] at X69 l69 y69 z69 st69 hQ69
    subst l69 y69 z69
    obtain ⟨rfl, N69q, e69⟩ := hQ69
    have N69 := Fr.app N65 N69q
    have R70 := Rc.st R68 st69
    have hq : (([] ++ [own_b 34]) ++ own_esc c0) ++ [own_b 34] = [own_b 34, own_b 92, own_b c0, own_b 34] := by simp [own_esc, hs0]
    rw [hq] at SFr
    have R71 : Rc p e below A0 (T69.setTop (fl m p1 p2 p3 p4 c0 c1 c2 s0 s1 s2 s3 (.val (.int 1)) (.val (.ref str)) (.val (.ref xr)) (.val (.int 4)) (.unset) 224 [(.ref xr)])) := by
      intro tgt hgo
      refine R70 tgt ?_
      show Steps p.tables e below (T69.setTop (fl m p1 p2 p3 p4 c0 c1 c2 s0 s1 s2 s3 (.val (.int 1)) (.val (.ref str)) (.val (.ref xr)) (.val (.int 3)) (.unset) 173 [(.int 1)])) _
      refine XS.ifNo X69.here hx rfl (hb hby at_173) rfl ((if0 _ _).trans (feq (by decide : ¬ ((1 : Int32) = (0 : Int32)))).1) ?_
      refine XS.iload X69.here hx rfl (hb hby at_176) rfl ?_
      refine XS.iconst X69.here hx rfl (hb hby at_178) ?_
      refine XS.iadd X69.here hx rfl (hb hby at_179) rfl ?_
      refine XS.istore X69.here hx rfl (hb hby at_180) rfl (l' := #[.val (.int p1), .val (.int p2), .val (.int p3), .val (.int p4), .val (.int 1), .val (.int c0), .val (.int c1), .val (.int c2), .val (.ref s0), .val (.ref s1), .val (.ref s2), .val (.ref s3), .val (.ref str), .val (.ref xr), .val (.int 4), .unset]) rfl ?_
      refine XS.iload X69.here hx rfl (hb hby at_182) rfl ?_
      refine XS.iconst X69.here hx rfl (hb hby at_184) ?_
      refine XS.icmpYes X69.here hx rfl (pc0 := 185) (pc' := 202) rfl (hb hby at_185) rfl (tlt (by decide : (1 : Int32) < (2 : Int32))).1 (by decide) (by decide) ?_
      refine XS.iload X69.here hx rfl (hb hby at_202) rfl ?_
      refine XS.iconst X69.here hx rfl (hb hby at_204) ?_
      refine XS.icmpYes X69.here hx rfl (pc0 := 205) (pc' := 222) rfl (hb hby at_205) rfl (tlt (by decide : (1 : Int32) < (3 : Int32))).1 (by decide) (by decide) ?_
      refine XS.aload X69.here hx rfl (hb hby at_222) rfl rfl ?_
      exact hgo
    obtain ⟨cq72, kq72, q72a, q72b, q72c⟩ := isOf hZ e69 E_r
    obtain ⟨_, _, ⟨T72, L72, k72, n72⟩, -, X72, ⟨Lc72, hQ72, l72, y72, z72⟩, st72⟩ := X69.virtualBack hx (y := yn1) (z := yn1) hown (mvT hZ (w 120 rfl)) (mvT hZ (w 30 rfl)) (notFace_of_selects (args := #[]) (mvT hZ (w 32 rfl))) (mvT hZ (w 32 rfl)) (mvT hZ (w 31 rfl)) (by decide) (backOf (W := 0) (rm_length l Z a0 hw [] xr zc tr kr [own_b 34, own_b 92, own_b c0, own_b 34] T65.heap n0 hZn hOld S_cs hz SFr) hZ (w 33 rfl) (w 3 rfl) (by decide) (by decide)) q72a q72c (g := (fl m p1 p2 p3 p4 c0 c1 c2 s0 s1 s2 s3 (.val (.int 1)) (.val (.ref str)) (.val (.ref xr)) (.val (.int 4)) (.unset) 224 [(.ref xr)])) rfl (by rw [hml]; rfl) (Steps.refl _) (argsL := []) (rest := []) (lenOf pd_13 rfl) rfl (by show 2 * 0 + _ ≤ _; exact Nat.le_of_eq rfl) (hb hby at_224) (fun _ _ => ⟨rfl, e69, (by decide : 18 + 0 ≤ _), (by decide : 139 + 0 ≤ _)⟩)
    dsimp only [Pt.U, Pt.locs, Pt.cells, Pt.slots] at X72 l72 y72 z72 st72 hQ72
    subst l72 y72 z72
    obtain ⟨rfl, N72q, e72⟩ := hQ72
    have N72 := Fr.app N69 N72q
    have R73 := Rc.tr R71 st72
    have R74 : Rc p e below A0 (T72.setTop (fl m p1 p2 p3 p4 c0 c1 c2 s0 s1 s2 s3 (.val (.int 1)) (.val (.ref str)) (.val (.ref xr)) (.val (.int 4)) (.unset) 237 [(.int 0), (.ref xr)])) := by
      intro tgt hgo
      refine R73 tgt ?_
      show Steps p.tables e below (T72.setTop (fl m p1 p2 p3 p4 c0 c1 c2 s0 s1 s2 s3 (.val (.int 1)) (.val (.ref str)) (.val (.ref xr)) (.val (.int 4)) (.unset) 227 [(.int 4)])) _
      refine XS.iload X72.here hx rfl (hb hby at_227) rfl ?_
      refine XS.icmpYes X72.here hx rfl (pc0 := 229) (pc' := 234) rfl (hb hby at_229) rfl (teq (by decide : (4 : Int32) = (4 : Int32))).1 (by decide) (by decide) ?_
      refine XS.aload X72.here hx rfl (hb hby at_234) rfl rfl ?_
      refine XS.iconst X72.here hx rfl (hb hby at_236) ?_
      exact hgo
    obtain ⟨cq75, kq75, q75a, q75b, q75c⟩ := isOf hZ e72 E_r
    obtain ⟨_, _, ⟨T75, L75, k75, n75⟩, -, X75, ⟨Lc75, hQ75, l75, y75, z75⟩, st75⟩ := X72.virtualBack hx (y := yn6) (z := yn6) hown (mvT hZ (w 121 rfl)) (mvT hZ (w 122 rfl)) (notFace_of_selects (args := #[]) (mvT hZ (w 124 rfl))) (mvT hZ (w 124 rfl)) (mvT hZ (w 123 rfl)) (by decide) (backOf (W := 0) (rm_charAt l Z a0 hw [] xr (0 : Int32) zc tr kr [own_b 34, own_b 92, own_b c0, own_b 34] 0 34 vf T65.heap n0 hZn rfl hOld S_cs hz S_f hf (by decide) (by show Int32.ofNat 0 < Int32.ofNat 4; decide) rfl own_c34 SFr) hZ (w 125 rfl) (w 3 rfl) (by decide) (by decide)) q75a q75c (g := (fl m p1 p2 p3 p4 c0 c1 c2 s0 s1 s2 s3 (.val (.int 1)) (.val (.ref str)) (.val (.ref xr)) (.val (.int 4)) (.unset) 237 [(.int 0), (.ref xr)])) rfl (by rw [hml]; rfl) (Steps.refl _) (argsL := [(.int 0)]) (rest := []) (lenOf pd_17 rfl) rfl (by show 2 * 0 + _ ≤ _; exact Nat.le_of_eq rfl) (hb hby at_237) (fun _ _ => ⟨rfl, e72, (by decide : 18 + 0 ≤ _), (by decide : 139 + 0 ≤ _)⟩)
    dsimp only [Pt.U, Pt.locs, Pt.cells, Pt.slots] at X75 l75 y75 z75 st75 hQ75
    subst l75 y75 z75
    obtain ⟨rfl, N75q, e75⟩ := hQ75
    have N75 := Fr.app N72 N75q
    have R76 := Rc.tr R74 st75
    have R77 : Rc p e below A0 (T75.setTop (fl m p1 p2 p3 p4 c0 c1 c2 s0 s1 s2 s3 (.val (.int 1)) (.val (.ref str)) (.val (.ref xr)) (.val (.int 4)) (.val (.int 1)) 262 [(.int c0), (.int 1), (.ref xr)])) := by
      intro tgt hgo
      refine R76 tgt ?_
      show Steps p.tables e below (T75.setTop (fl m p1 p2 p3 p4 c0 c1 c2 s0 s1 s2 s3 (.val (.int 1)) (.val (.ref str)) (.val (.ref xr)) (.val (.int 4)) (.unset) 240 [(.int 34)])) _
      refine XS.bipush X75.here hx rfl (hb hby at_240) ?_
      refine XS.icmpYes X75.here hx rfl (pc0 := 242) (pc' := 247) rfl (hb hby at_242) rfl (teq (by decide : (34 : Int32) = (34 : Int32))).1 (by decide) (by decide) ?_
      refine XS.iconst X75.here hx rfl (hb hby at_247) ?_
      refine XS.istore X75.here hx rfl (hb hby at_248) rfl (l' := #[.val (.int p1), .val (.int p2), .val (.int p3), .val (.int p4), .val (.int 1), .val (.int c0), .val (.int c1), .val (.int c2), .val (.ref s0), .val (.ref s1), .val (.ref s2), .val (.ref s3), .val (.ref str), .val (.ref xr), .val (.int 4), .val (.int 1)]) rfl ?_
      refine XS.iload X75.here hx rfl (hb hby at_250) rfl ?_
      refine XS.iconst X75.here hx rfl (hb hby at_252) ?_
      refine XS.icmpNo X75.here hx rfl (hb hby at_253) rfl (flt (by decide : ¬ ((1 : Int32) < (1 : Int32)))).1 ?_
      refine XS.aload X75.here hx rfl (hb hby at_256) rfl rfl ?_
      refine XS.iload X75.here hx rfl (hb hby at_258) rfl ?_
      refine XS.iload X75.here hx rfl (hb hby at_260) rfl ?_
      exact hgo
    obtain ⟨_, _, ⟨T78, L78, k78, n78⟩, -, X78, ⟨Lc78, hQ78, l78, y78, z78⟩, st78⟩ := Jvm.LawKit.callS X75 hx (y := yn29) hown (mvT hZ (w 157 rfl)) (mvT hZ (w 158 rfl)) (mvT hZ (w 155 rfl)) (mvT hZ (w 159 rfl)) (by decide) (backOf (W := 0) (rm_step1 l Z a0 hw [] xr (1 : Int32) c0 zc tr kr [own_b 34, own_b 92, own_b c0, own_b 34] 1 vf T65.heap n0 hZn rfl hc0 hs0 hOld S_cs hz S_f hf (by show 4 < 2147483647; decide) (by show 1 < 4; decide) rfl (by show 2 < 4; decide) rfl SFr) hZ (w 159 rfl) (w 155 rfl) (by decide) (by decide)) (g := (fl m p1 p2 p3 p4 c0 c1 c2 s0 s1 s2 s3 (.val (.int 1)) (.val (.ref str)) (.val (.ref xr)) (.val (.int 4)) (.val (.int 1)) 262 [(.int c0), (.int 1), (.ref xr)])) rfl (by rw [hml]; rfl) (argsL := [(.ref xr), (.int 1), (.int c0)]) (rest := []) (lenOf pd_23 rfl) rfl (by show 2 * 0 + _ ≤ _; exact Nat.le_of_eq rfl) (hb hby at_262) (fun _ _ => ⟨rfl, e75, (by decide : 18 + 0 ≤ _), (by decide : 139 + 0 ≤ _)⟩)
    dsimp only [Pt.U, Pt.locs, Pt.cells, Pt.slots] at X78 l78 y78 z78 st78 hQ78
    subst l78 y78 z78
    obtain ⟨rfl, N78q, e78⟩ := hQ78
    have N78 := Fr.app N75 N78q
    have R79 := Rc.st R77 st78
    have R80 : Rc p e below A0 (T78.setTop (fl m p1 p2 p3 p4 c0 c1 c2 s0 s1 s2 s3 (.val (.int 1)) (.val (.ref str)) (.val (.ref xr)) (.val (.int 4)) (.val (.int 3)) 314 [(.int 3), (.ref xr)])) := by
      intro tgt hgo
      refine R79 tgt ?_
      show Steps p.tables e below (T78.setTop (fl m p1 p2 p3 p4 c0 c1 c2 s0 s1 s2 s3 (.val (.int 1)) (.val (.ref str)) (.val (.ref xr)) (.val (.int 4)) (.val (.int 1)) 265 [(.int 3)])) _
      refine XS.istore X78.here hx rfl (hb hby at_265) rfl (l' := #[.val (.int p1), .val (.int p2), .val (.int p3), .val (.int p4), .val (.int 1), .val (.int c0), .val (.int c1), .val (.int c2), .val (.ref s0), .val (.ref s1), .val (.ref s2), .val (.ref s3), .val (.ref str), .val (.ref xr), .val (.int 4), .val (.int 3)]) rfl ?_
      refine XS.iload X78.here hx rfl (hb hby at_267) rfl ?_
      refine XS.iconst X78.here hx rfl (hb hby at_269) ?_
      refine XS.icmpYes X78.here hx rfl (pc0 := 270) (pc' := 284) rfl (hb hby at_270) rfl (tlt (by decide : (1 : Int32) < (2 : Int32))).1 (by decide) (by decide) ?_
      refine XS.iload X78.here hx rfl (hb hby at_284) rfl ?_
      refine XS.iconst X78.here hx rfl (hb hby at_286) ?_
      refine XS.icmpYes X78.here hx rfl (pc0 := 287) (pc' := 301) rfl (hb hby at_287) rfl (tlt (by decide : (1 : Int32) < (3 : Int32))).1 (by decide) (by decide) ?_
      refine XS.iload X78.here hx rfl (hb hby at_301) rfl ?_
      refine XS.iload X78.here hx rfl (hb hby at_303) rfl ?_
      refine XS.iconst X78.here hx rfl (hb hby at_305) ?_
      refine XS.isub X78.here hx rfl (hb hby at_306) rfl ?_
      refine XS.icmpNo X78.here hx rfl (hb hby at_307) rfl (teq (by decide : (3 : Int32) = (3 : Int32))).2 ?_
      refine XS.aload X78.here hx rfl (hb hby at_310) rfl rfl ?_
      refine XS.iload X78.here hx rfl (hb hby at_312) rfl ?_
      exact hgo
    obtain ⟨cq81, kq81, q81a, q81b, q81c⟩ := isOf hZ e78 E_r
    obtain ⟨_, _, ⟨T81, L81, k81, n81⟩, -, X81, ⟨Lc81, hQ81, l81, y81, z81⟩, st81⟩ := X78.virtualBack hx (y := yn6) (z := yn6) hown (mvT hZ (w 121 rfl)) (mvT hZ (w 122 rfl)) (notFace_of_selects (args := #[]) (mvT hZ (w 124 rfl))) (mvT hZ (w 124 rfl)) (mvT hZ (w 123 rfl)) (by decide) (backOf (W := 0) (rm_charAt l Z a0 hw [] xr (3 : Int32) zc tr kr [own_b 34, own_b 92, own_b c0, own_b 34] 3 34 vf T65.heap n0 hZn rfl hOld S_cs hz S_f hf (by decide) (by show Int32.ofNat 3 < Int32.ofNat 4; decide) rfl own_c34 SFr) hZ (w 125 rfl) (w 3 rfl) (by decide) (by decide)) q81a q81c (g := (fl m p1 p2 p3 p4 c0 c1 c2 s0 s1 s2 s3 (.val (.int 1)) (.val (.ref str)) (.val (.ref xr)) (.val (.int 4)) (.val (.int 3)) 314 [(.int 3), (.ref xr)])) rfl (by rw [hml]; rfl) (Steps.refl _) (argsL := [(.int 3)]) (rest := []) (lenOf pd_17 rfl) rfl (by show 2 * 0 + _ ≤ _; exact Nat.le_of_eq rfl) (hb hby at_314) (fun _ _ => ⟨rfl, e78, (by decide : 18 + 0 ≤ _), (by decide : 139 + 0 ≤ _)⟩)
    dsimp only [Pt.U, Pt.locs, Pt.cells, Pt.slots] at X81 l81 y81 z81 st81 hQ81
    subst l81 y81 z81
    obtain ⟨rfl, N81q, e81⟩ := hQ81
    have N81 := Fr.app N78 N81q
    have R82 := Rc.tr R80 st81
    have R83 : Rc p e below A0 (T81.setTop (fl m p1 p2 p3 p4 c0 c1 c2 s0 s1 s2 s3 (.val (.int 1)) (.val (.ref str)) (.val (.ref xr)) (.val (.int 4)) (.val (.int 3)) 327 [(.int 1)])) := by
      intro tgt hgo
      refine R82 tgt ?_
      show Steps p.tables e below (T81.setTop (fl m p1 p2 p3 p4 c0 c1 c2 s0 s1 s2 s3 (.val (.int 1)) (.val (.ref str)) (.val (.ref xr)) (.val (.int 4)) (.val (.int 3)) 317 [(.int 34)])) _
      refine XS.bipush X81.here hx rfl (hb hby at_317) ?_
      refine XS.icmpNo X81.here hx rfl (hb hby at_319) rfl (teq (by decide : (34 : Int32) = (34 : Int32))).2 ?_
      refine XS.iconst X81.here hx rfl (hb hby at_322) ?_
      refine XS.goto X81.here hx rfl (pc0 := 323) (pc' := 327) rfl (hb hby at_323) (by decide) (by decide) ?_
      exact hgo
    subst hA0
    obtain ⟨fs, hr, hrun, hended, hRW⟩ := X81.leaveW hS (by rw [e81]; exact hk) (v := some (.int 1)) (fun h => by rw [Bd.returns] at h; cases h) Bd.notSynchronized
    refine ⟨_, _, R83 _ ?_, hrun, hended, _, _, rfl, ?_, OwnKit.own_fin hRW (by decide) (by decide)⟩
    ·show Steps p.tables e below (T81.setTop (fl m p1 p2 p3 p4 c0 c1 c2 s0 s1 s2 s3 (.val (.int 1)) (.val (.ref str)) (.val (.ref xr)) (.val (.int 4)) (.val (.int 3)) 327 [(.int 1)])) _
     exact retN X81 hx (t := .boolean) Bd.returns (by simp) (hb hby at_327) hr
    ·show Q0 n0 _ T81.heap _
     rw [e81]
     exact ⟨rfl, N81⟩
   ·have R84 : Rc p e below A0 (T65.setTop (fl m p1 p2 p3 p4 c0 c1 c2 s0 s1 s2 s3 (.val (.int 1)) (.val (.ref str)) (.val (.ref xr)) (.val (.int 3)) (.unset) 170 [(.int c0)])) := by
      intro tgt hgo
      refine R67 tgt ?_
      show Steps p.tables e below (T65.setTop (fl m p1 p2 p3 p4 c0 c1 c2 s0 s1 s2 s3 (.val (.int 1)) (.val (.ref str)) (.val (.ref xr)) (.val (.int 3)) (.unset) 168 [])) _
      refine XS.iload X65.here hx rfl (hb hby at_168) rfl ?_
      exact hgo
    obtain ⟨_, _, ⟨T85, L85, k85, n85⟩, -, X85, ⟨Lc85, hQ85, l85, y85, z85⟩, st85⟩ := Jvm.LawKit.callS X65 hx (y := yn28) hown (mvT hZ (w 153 rfl)) (mvT hZ (w 154 rfl)) (mvT hZ (w 155 rfl)) (mvT hZ (w 156 rfl)) (by decide) (backOf (W := 0) (rm_sp l Z a0 hw [] c0 0 T65.heap n0 hZn hs0) hZ (w 156 rfl) (w 155 rfl) (by decide) (by decide)) (g := (fl m p1 p2 p3 p4 c0 c1 c2 s0 s1 s2 s3 (.val (.int 1)) (.val (.ref str)) (.val (.ref xr)) (.val (.int 3)) (.unset) 170 [(.int c0)])) rfl (by rw [hml]; rfl) (argsL := [(.int c0)]) (rest := []) (lenOf pd_10 rfl) rfl (by show 2 * 0 + _ ≤ _; exact Nat.le_of_eq rfl) (hb hby at_170) (fun _ _ => ⟨rfl, rfl, (by decide : 18 + 0 ≤ _), (by decide : 139 + 0 ≤ _)⟩)
    dsimp only [Pt.U, Pt.locs, Pt.cells, Pt.slots] at X85 l85 y85 z85 st85 hQ85
    subst l85 y85 z85
    obtain ⟨rfl, N85q, e85⟩ := hQ85
    have N85 := Fr.app N65 N85q
    have R86 := Rc.st R84 st85
    have hq : (([] ++ [own_b 34]) ++ own_esc c0) ++ [own_b 34] = [own_b 34, own_b c0, own_b 34] := by simp [own_esc, hs0]
    rw [hq] at SFr
    have R87 : Rc p e below A0 (T85.setTop (fl m p1 p2 p3 p4 c0 c1 c2 s0 s1 s2 s3 (.val (.int 1)) (.val (.ref str)) (.val (.ref xr)) (.val (.int 3)) (.unset) 224 [(.ref xr)])) := by
      intro tgt hgo
      refine R86 tgt ?_
      show Steps p.tables e below (T85.setTop (fl m p1 p2 p3 p4 c0 c1 c2 s0 s1 s2 s3 (.val (.int 1)) (.val (.ref str)) (.val (.ref xr)) (.val (.int 3)) (.unset) 173 [(.int 0)])) _
      refine XS.ifYes X85.here hx rfl (pc0 := 173) (pc' := 182) rfl (hb hby at_173) rfl ((if0 _ _).trans (teq (by decide : (0 : Int32) = (0 : Int32))).1) (by decide) (by decide) ?_
      refine XS.iload X85.here hx rfl (hb hby at_182) rfl ?_
      refine XS.iconst X85.here hx rfl (hb hby at_184) ?_
      refine XS.icmpYes X85.here hx rfl (pc0 := 185) (pc' := 202) rfl (hb hby at_185) rfl (tlt (by decide : (1 : Int32) < (2 : Int32))).1 (by decide) (by decide) ?_
      refine XS.iload X85.here hx rfl (hb hby at_202) rfl ?_
      refine XS.iconst X85.here hx rfl (hb hby at_204) ?_
      refine XS.icmpYes X85.here hx rfl (pc0 := 205) (pc' := 222) rfl (hb hby at_205) rfl (tlt (by decide : (1 : Int32) < (3 : Int32))).1 (by decide) (by decide) ?_
      refine XS.aload X85.here hx rfl (hb hby at_222) rfl rfl ?_
      exact hgo
    obtain ⟨cq88, kq88, q88a, q88b, q88c⟩ := isOf hZ e85 E_r
    obtain ⟨_, _, ⟨T88, L88, k88, n88⟩, -, X88, ⟨Lc88, hQ88, l88, y88, z88⟩, st88⟩ := X85.virtualBack hx (y := yn1) (z := yn1) hown (mvT hZ (w 120 rfl)) (mvT hZ (w 30 rfl)) (notFace_of_selects (args := #[]) (mvT hZ (w 32 rfl))) (mvT hZ (w 32 rfl)) (mvT hZ (w 31 rfl)) (by decide) (backOf (W := 0) (rm_length l Z a0 hw [] xr zc tr kr [own_b 34, own_b c0, own_b 34] T65.heap n0 hZn hOld S_cs hz SFr) hZ (w 33 rfl) (w 3 rfl) (by decide) (by decide)) q88a q88c (g := (fl m p1 p2 p3 p4 c0 c1 c2 s0 s1 s2 s3 (.val (.int 1)) (.val (.ref str)) (.val (.ref xr)) (.val (.int 3)) (.unset) 224 [(.ref xr)])) rfl (by rw [hml]; rfl) (Steps.refl _) (argsL := []) (rest := []) (lenOf pd_13 rfl) rfl (by show 2 * 0 + _ ≤ _; exact Nat.le_of_eq rfl) (hb hby at_224) (fun _ _ => ⟨rfl, e85, (by decide : 18 + 0 ≤ _), (by decide : 139 + 0 ≤ _)⟩)
    dsimp only [Pt.U, Pt.locs, Pt.cells, Pt.slots] at X88 l88 y88 z88 st88 hQ88
    subst l88 y88 z88
    obtain ⟨rfl, N88q, e88⟩ := hQ88
    have N88 := Fr.app N85 N88q
    have R89 := Rc.tr R87 st88
    have R90 : Rc p e below A0 (T88.setTop (fl m p1 p2 p3 p4 c0 c1 c2 s0 s1 s2 s3 (.val (.int 1)) (.val (.ref str)) (.val (.ref xr)) (.val (.int 3)) (.unset) 237 [(.int 0), (.ref xr)])) := by
      intro tgt hgo
      refine R89 tgt ?_
      show Steps p.tables e below (T88.setTop (fl m p1 p2 p3 p4 c0 c1 c2 s0 s1 s2 s3 (.val (.int 1)) (.val (.ref str)) (.val (.ref xr)) (.val (.int 3)) (.unset) 227 [(.int 3)])) _
      refine XS.iload X88.here hx rfl (hb hby at_227) rfl ?_
      refine XS.icmpYes X88.here hx rfl (pc0 := 229) (pc' := 234) rfl (hb hby at_229) rfl (teq (by decide : (3 : Int32) = (3 : Int32))).1 (by decide) (by decide) ?_
      refine XS.aload X88.here hx rfl (hb hby at_234) rfl rfl ?_
      refine XS.iconst X88.here hx rfl (hb hby at_236) ?_
      exact hgo
    obtain ⟨cq91, kq91, q91a, q91b, q91c⟩ := isOf hZ e88 E_r
    obtain ⟨_, _, ⟨T91, L91, k91, n91⟩, -, X91, ⟨Lc91, hQ91, l91, y91, z91⟩, st91⟩ := X88.virtualBack hx (y := yn6) (z := yn6) hown (mvT hZ (w 121 rfl)) (mvT hZ (w 122 rfl)) (notFace_of_selects (args := #[]) (mvT hZ (w 124 rfl))) (mvT hZ (w 124 rfl)) (mvT hZ (w 123 rfl)) (by decide) (backOf (W := 0) (rm_charAt l Z a0 hw [] xr (0 : Int32) zc tr kr [own_b 34, own_b c0, own_b 34] 0 34 vf T65.heap n0 hZn rfl hOld S_cs hz S_f hf (by decide) (by show Int32.ofNat 0 < Int32.ofNat 3; decide) rfl own_c34 SFr) hZ (w 125 rfl) (w 3 rfl) (by decide) (by decide)) q91a q91c (g := (fl m p1 p2 p3 p4 c0 c1 c2 s0 s1 s2 s3 (.val (.int 1)) (.val (.ref str)) (.val (.ref xr)) (.val (.int 3)) (.unset) 237 [(.int 0), (.ref xr)])) rfl (by rw [hml]; rfl) (Steps.refl _) (argsL := [(.int 0)]) (rest := []) (lenOf pd_17 rfl) rfl (by show 2 * 0 + _ ≤ _; exact Nat.le_of_eq rfl) (hb hby at_237) (fun _ _ => ⟨rfl, e88, (by decide : 18 + 0 ≤ _), (by decide : 139 + 0 ≤ _)⟩)
    dsimp only [Pt.U, Pt.locs, Pt.cells, Pt.slots] at X91 l91 y91 z91 st91 hQ91
    subst l91 y91 z91
    obtain ⟨rfl, N91q, e91⟩ := hQ91
    have N91 := Fr.app N88 N91q
    have R92 := Rc.tr R90 st91
    have R93 : Rc p e below A0 (T91.setTop (fl m p1 p2 p3 p4 c0 c1 c2 s0 s1 s2 s3 (.val (.int 1)) (.val (.ref str)) (.val (.ref xr)) (.val (.int 3)) (.val (.int 1)) 262 [(.int c0), (.int 1), (.ref xr)])) := by
      intro tgt hgo
      refine R92 tgt ?_
      show Steps p.tables e below (T91.setTop (fl m p1 p2 p3 p4 c0 c1 c2 s0 s1 s2 s3 (.val (.int 1)) (.val (.ref str)) (.val (.ref xr)) (.val (.int 3)) (.unset) 240 [(.int 34)])) _
      refine XS.bipush X91.here hx rfl (hb hby at_240) ?_
      refine XS.icmpYes X91.here hx rfl (pc0 := 242) (pc' := 247) rfl (hb hby at_242) rfl (teq (by decide : (34 : Int32) = (34 : Int32))).1 (by decide) (by decide) ?_
      refine XS.iconst X91.here hx rfl (hb hby at_247) ?_
      refine XS.istore X91.here hx rfl (hb hby at_248) rfl (l' := #[.val (.int p1), .val (.int p2), .val (.int p3), .val (.int p4), .val (.int 1), .val (.int c0), .val (.int c1), .val (.int c2), .val (.ref s0), .val (.ref s1), .val (.ref s2), .val (.ref s3), .val (.ref str), .val (.ref xr), .val (.int 3), .val (.int 1)]) rfl ?_
      refine XS.iload X91.here hx rfl (hb hby at_250) rfl ?_
      refine XS.iconst X91.here hx rfl (hb hby at_252) ?_
      refine XS.icmpNo X91.here hx rfl (hb hby at_253) rfl (flt (by decide : ¬ ((1 : Int32) < (1 : Int32)))).1 ?_
      refine XS.aload X91.here hx rfl (hb hby at_256) rfl rfl ?_
      refine XS.iload X91.here hx rfl (hb hby at_258) rfl ?_
      refine XS.iload X91.here hx rfl (hb hby at_260) rfl ?_
      exact hgo
    obtain ⟨_, _, ⟨T94, L94, k94, n94⟩, -, X94, ⟨Lc94, hQ94, l94, y94, z94⟩, st94⟩ := Jvm.LawKit.callS X91 hx (y := yn29) hown (mvT hZ (w 157 rfl)) (mvT hZ (w 158 rfl)) (mvT hZ (w 155 rfl)) (mvT hZ (w 159 rfl)) (by decide) (backOf (W := 0) (rm_step0 l Z a0 hw [] xr (1 : Int32) c0 zc tr kr [own_b 34, own_b c0, own_b 34] 1 vf T65.heap n0 hZn rfl hc0 hs0 hOld S_cs hz S_f hf (by show 3 < 2147483647; decide) (by show 1 < 3; decide) rfl SFr) hZ (w 159 rfl) (w 155 rfl) (by decide) (by decide)) (g := (fl m p1 p2 p3 p4 c0 c1 c2 s0 s1 s2 s3 (.val (.int 1)) (.val (.ref str)) (.val (.ref xr)) (.val (.int 3)) (.val (.int 1)) 262 [(.int c0), (.int 1), (.ref xr)])) rfl (by rw [hml]; rfl) (argsL := [(.ref xr), (.int 1), (.int c0)]) (rest := []) (lenOf pd_23 rfl) rfl (by show 2 * 0 + _ ≤ _; exact Nat.le_of_eq rfl) (hb hby at_262) (fun _ _ => ⟨rfl, e91, (by decide : 18 + 0 ≤ _), (by decide : 139 + 0 ≤ _)⟩)
    dsimp only [Pt.U, Pt.locs, Pt.cells, Pt.slots] at X94 l94 y94 z94 st94 hQ94
    subst l94 y94 z94
    obtain ⟨rfl, N94q, e94⟩ := hQ94
    have N94 := Fr.app N91 N94q
    have R95 := Rc.st R93 st94
    have R96 : Rc p e below A0 (T94.setTop (fl m p1 p2 p3 p4 c0 c1 c2 s0 s1 s2 s3 (.val (.int 1)) (.val (.ref str)) (.val (.ref xr)) (.val (.int 3)) (.val (.int 2)) 314 [(.int 2), (.ref xr)])) := by
      intro tgt hgo
      refine R95 tgt ?_
      show Steps p.tables e below (T94.setTop (fl m p1 p2 p3 p4 c0 c1 c2 s0 s1 s2 s3 (.val (.int 1)) (.val (.ref str)) (.val (.ref xr)) (.val (.int 3)) (.val (.int 1)) 265 [(.int 2)])) _
      refine XS.istore X94.here hx rfl (hb hby at_265) rfl (l' := #[.val (.int p1), .val (.int p2), .val (.int p3), .val (.int p4), .val (.int 1), .val (.int c0), .val (.int c1), .val (.int c2), .val (.ref s0), .val (.ref s1), .val (.ref s2), .val (.ref s3), .val (.ref str), .val (.ref xr), .val (.int 3), .val (.int 2)]) rfl ?_
      refine XS.iload X94.here hx rfl (hb hby at_267) rfl ?_
      refine XS.iconst X94.here hx rfl (hb hby at_269) ?_
      refine XS.icmpYes X94.here hx rfl (pc0 := 270) (pc' := 284) rfl (hb hby at_270) rfl (tlt (by decide : (1 : Int32) < (2 : Int32))).1 (by decide) (by decide) ?_
      refine XS.iload X94.here hx rfl (hb hby at_284) rfl ?_
      refine XS.iconst X94.here hx rfl (hb hby at_286) ?_
      refine XS.icmpYes X94.here hx rfl (pc0 := 287) (pc' := 301) rfl (hb hby at_287) rfl (tlt (by decide : (1 : Int32) < (3 : Int32))).1 (by decide) (by decide) ?_
      refine XS.iload X94.here hx rfl (hb hby at_301) rfl ?_
      refine XS.iload X94.here hx rfl (hb hby at_303) rfl ?_
      refine XS.iconst X94.here hx rfl (hb hby at_305) ?_
      refine XS.isub X94.here hx rfl (hb hby at_306) rfl ?_
      refine XS.icmpNo X94.here hx rfl (hb hby at_307) rfl (teq (by decide : (2 : Int32) = (2 : Int32))).2 ?_
      refine XS.aload X94.here hx rfl (hb hby at_310) rfl rfl ?_
      refine XS.iload X94.here hx rfl (hb hby at_312) rfl ?_
      exact hgo
    obtain ⟨cq97, kq97, q97a, q97b, q97c⟩ := isOf hZ e94 E_r
    obtain ⟨_, _, ⟨T97, L97, k97, n97⟩, -, X97, ⟨Lc97, hQ97, l97, y97, z97⟩, st97⟩ := X94.virtualBack hx (y := yn6) (z := yn6) hown (mvT hZ (w 121 rfl)) (mvT hZ (w 122 rfl)) (notFace_of_selects (args := #[]) (mvT hZ (w 124 rfl))) (mvT hZ (w 124 rfl)) (mvT hZ (w 123 rfl)) (by decide) (backOf (W := 0) (rm_charAt l Z a0 hw [] xr (2 : Int32) zc tr kr [own_b 34, own_b c0, own_b 34] 2 34 vf T65.heap n0 hZn rfl hOld S_cs hz S_f hf (by decide) (by show Int32.ofNat 2 < Int32.ofNat 3; decide) rfl own_c34 SFr) hZ (w 125 rfl) (w 3 rfl) (by decide) (by decide)) q97a q97c (g := (fl m p1 p2 p3 p4 c0 c1 c2 s0 s1 s2 s3 (.val (.int 1)) (.val (.ref str)) (.val (.ref xr)) (.val (.int 3)) (.val (.int 2)) 314 [(.int 2), (.ref xr)])) rfl (by rw [hml]; rfl) (Steps.refl _) (argsL := [(.int 2)]) (rest := []) (lenOf pd_17 rfl) rfl (by show 2 * 0 + _ ≤ _; exact Nat.le_of_eq rfl) (hb hby at_314) (fun _ _ => ⟨rfl, e94, (by decide : 18 + 0 ≤ _), (by decide : 139 + 0 ≤ _)⟩)
    dsimp only [Pt.U, Pt.locs, Pt.cells, Pt.slots] at X97 l97 y97 z97 st97 hQ97
    subst l97 y97 z97
    obtain ⟨rfl, N97q, e97⟩ := hQ97
    have N97 := Fr.app N94 N97q
    have R98 := Rc.tr R96 st97
    have R99 : Rc p e below A0 (T97.setTop (fl m p1 p2 p3 p4 c0 c1 c2 s0 s1 s2 s3 (.val (.int 1)) (.val (.ref str)) (.val (.ref xr)) (.val (.int 3)) (.val (.int 2)) 327 [(.int 1)])) := by
      intro tgt hgo
      refine R98 tgt ?_
      show Steps p.tables e below (T97.setTop (fl m p1 p2 p3 p4 c0 c1 c2 s0 s1 s2 s3 (.val (.int 1)) (.val (.ref str)) (.val (.ref xr)) (.val (.int 3)) (.val (.int 2)) 317 [(.int 34)])) _
      refine XS.bipush X97.here hx rfl (hb hby at_317) ?_
      refine XS.icmpNo X97.here hx rfl (hb hby at_319) rfl (teq (by decide : (34 : Int32) = (34 : Int32))).2 ?_
      refine XS.iconst X97.here hx rfl (hb hby at_322) ?_
      refine XS.goto X97.here hx rfl (pc0 := 323) (pc' := 327) rfl (hb hby at_323) (by decide) (by decide) ?_
      exact hgo
    subst hA0
    obtain ⟨fs, hr, hrun, hended, hRW⟩ := X97.leaveW hS (by rw [e97]; exact hk) (v := some (.int 1)) (fun h => by rw [Bd.returns] at h; cases h) Bd.notSynchronized
    refine ⟨_, _, R99 _ ?_, hrun, hended, _, _, rfl, ?_, OwnKit.own_fin hRW (by decide) (by decide)⟩
    ·show Steps p.tables e below (T97.setTop (fl m p1 p2 p3 p4 c0 c1 c2 s0 s1 s2 s3 (.val (.int 1)) (.val (.ref str)) (.val (.ref xr)) (.val (.int 3)) (.val (.int 2)) 327 [(.int 1)])) _
     exact retN X97 hx (t := .boolean) Bd.returns (by simp) (hb hby at_327) hr
    ·show Q0 n0 _ T97.heap _
     rw [e97]
     exact ⟨rfl, N97⟩
  ·have R101 : Rc p e below A0 (T33.setTop (fl m p1 p2 p3 p4 c0 c1 c2 s0 s1 s2 s3 (.val (.int ln)) (.unset) (.unset) (.unset) (.unset) 121 [(.int 2), (.int ln)])) := by
     intro tgt hgo
     refine R57 tgt ?_
     show Steps p.tables e below (T33.setTop (fl m p1 p2 p3 p4 c0 c1 c2 s0 s1 s2 s3 (.val (.int ln)) (.unset) (.unset) (.unset) (.unset) 101 [(.int 1), (.int ln)])) _
     refine XS.icmpYes X33.here hx rfl (pc0 := 101) (pc' := 118) rfl (hb hby at_101) rfl (feq hc101_56).2 (by decide) (by decide) ?_
     refine XS.iload X33.here hx rfl (hb hby at_118) rfl ?_
     refine XS.iconst X33.here hx rfl (hb hby at_120) ?_
     exact hgo
   by_cases hc121_100 : ln = (2 : Int32)
   ·have R102 : Rc p e below A0 (T33.setTop (fl m p1 p2 p3 p4 c0 c1 c2 s0 s1 s2 s3 (.val (.int ln)) (.unset) (.unset) (.unset) (.unset) 124 [])) := by
      intro tgt hgo
      refine R101 tgt ?_
      show Steps p.tables e below (T33.setTop (fl m p1 p2 p3 p4 c0 c1 c2 s0 s1 s2 s3 (.val (.int ln)) (.unset) (.unset) (.unset) (.unset) 121 [(.int 2), (.int ln)])) _
      refine XS.icmpNo X33.here hx rfl (hb hby at_121) rfl (teq hc121_100).2 ?_
      exact hgo
    rw [(hc121_100 : ln = (2 : Int32))] at R102
    obtain ⟨T103, h103, X103, e103, E103, A103, D103, -, st103⟩ := newO X33 hx hZ hown (w 1 rfl) (w 2 rfl) (w 3 rfl) e33 (g := (fl m p1 p2 p3 p4 c0 c1 c2 s0 s1 s2 s3 (.val (.int 2)) (.unset) (.unset) (.unset) (.unset) 124 [])) rfl (hb hby at_124) (by decide) (by decide)
    obtain ⟨str, g103⟩ : ∃ z, z = h33.size := ⟨_, rfl⟩
    rw [← g103] at A103 D103 st103
    have ne_s0_str : s0 ≠ str := Nat.ne_of_lt (Nat.lt_of_lt_of_le V_s0.lt (Nat.le_of_eq g103.symm))
    have ne_s1_str : s1 ≠ str := Nat.ne_of_lt (Nat.lt_of_lt_of_le V_s1.lt (Nat.le_of_eq g103.symm))
    have ne_s2_str : s2 ≠ str := Nat.ne_of_lt (Nat.lt_of_lt_of_le V_s2.lt (Nat.le_of_eq g103.symm))
    have ne_s3_str : s3 ≠ str := Nat.ne_of_lt (Nat.lt_of_lt_of_le V_s3.lt (Nat.le_of_eq g103.symm))
    have ge_str : n0 ≤ str := Nat.le_trans hZn (Nat.le_of_eq g103.symm)
    have sz_str : h0.size ≤ str := Nat.le_trans hK.1 (Nat.le_of_eq g103.symm)
    replace hCH := hCH.ext E103
    replace hk := Nat.le_trans hk E103.1
    replace hZn := Nat.le_trans hZn E103.1
    replace hK := hK.ext E103
    replace hOld := hOld.ext E103
    replace V_s0 := V_s0.ext E103
    replace V_s1 := V_s1.ext E103
    replace V_s2 := V_s2.ext E103
    replace V_s3 := V_s3.ext E103
    have E_str := A103
    have F_value_str : Fld Z h103 str "java/lang/String" "value" "[B" .null := D103 (Or.inr (w 16 rfl)) (ty := (.array .byte)) (by decide)
    have F_coder_str : Fld Z h103 str "java/lang/String" "coder" "B" (.int 0) := D103 (Or.inr (w 17 rfl)) (ty := .byte) (by decide)
    have R104 := Rc.st R102 st103
    have R105 : Rc p e below A0 (T103.setTop (fl m p1 p2 p3 p4 c0 c1 c2 s0 s1 s2 s3 (.val (.int 2)) (.unset) (.unset) (.unset) (.unset) 130 [(.ref s2), (.ref str), (.ref str)])) := by
      intro tgt hgo
      refine R104 tgt ?_
      show Steps p.tables e below (T103.setTop (fl m p1 p2 p3 p4 c0 c1 c2 s0 s1 s2 s3 (.val (.int 2)) (.unset) (.unset) (.unset) (.unset) 127 [(.ref str)])) _
      refine XS.dup X103.here hx rfl (hb hby at_127) rfl rfl ?_
      refine XS.aload X103.here hx rfl (hb hby at_128) rfl rfl ?_
      exact hgo
    have hlat : ∀ c ∈ [c0, c1], ¬ c < 0 ∧ ¬ (255 : Int32) < c := by
      intro c hc
      simp only [List.mem_cons, List.not_mem_nil, or_false] at hc
      rcases hc with rfl | rfl
      · exact own_lat hc0
      · exact own_lat hc1
    obtain ⟨_, _, ⟨T106, L106, k106, n106⟩, -, X106, ⟨Lc106, hQ106, l106, y106, z106⟩, st106⟩ := X103.specialBack hx (y := yn32) rfl hown (mvT hZ (w 4 rfl)) (mvT hZ (w 5 rfl)) (mvT hZ (w 6 rfl)) (by decide) (StrChars.Road.backV (W := 1) hZ hws (kI := 4) (w 2 rfl) (cs := [c0, c1]) (bs := [own_b c0, own_b c1]) (n := 2) ge_str hZn E_str F_value_str F_coder_str V_s2 (S_cs.ext hOld.2) hz rfl rfl (by decide) (by decide) hlat rfl (by decide) (by decide)) (g := (fl m p1 p2 p3 p4 c0 c1 c2 s0 s1 s2 s3 (.val (.int 2)) (.unset) (.unset) (.unset) (.unset) 130 [(.ref s2), (.ref str), (.ref str)])) rfl (by rw [hml]; rfl) (Steps.refl _) (a := str) (argsL := [(.ref s2)]) (rest := [(.ref str)]) (lenOf pd_21 rfl) rfl (by show 2 * 0 + _ ≤ _; exact Nat.le_of_eq rfl) (hb hby at_130) (fun _ _ => ⟨rfl, e103, (by decide : 5 + 1 ≤ _), (by decide : 10 + 2 ≤ _)⟩)
    dsimp only [Pt.U, Pt.locs, Pt.cells, Pt.slots] at X106 l106 y106 z106 st106 hQ106
    subst l106 y106 z106
    obtain ⟨rfl, N106q, K106, g106a, g106b, tb, kb, g106c, g106d, g106e, g106f, g106g⟩ := hQ106
    have N106 := Fr.app N33 N106q
    have R107 := Rc.tr R105 st106
    replace hk := Nat.le_trans hk K106.1
    replace hZn := Nat.le_trans hZn K106.1
    replace hK := hK.trans K106 (allS (Or.inr sz_str) all0)
    replace hOld := hOld.keep K106 (allS ge_str all0)
    replace V_s0 := V_s0.keep K106 (ninS ne_s0_str nin0)
    replace V_s1 := V_s1.keep K106 (ninS ne_s1_str nin0)
    replace V_s2 := V_s2.keep K106 (ninS ne_s2_str nin0)
    replace V_s3 := V_s3.keep K106 (ninS ne_s3_str nin0)
    replace E_str := E_str.keep K106
    have DSt : StrF Z T106.heap str tb kb [own_b c0, own_b c1] := ⟨g106a, g106b, g106f, g106g⟩
    have R108 : Rc p e below A0 (T106.setTop (fl m p1 p2 p3 p4 c0 c1 c2 s0 s1 s2 s3 (.val (.int 2)) (.val (.ref str)) (.unset) (.unset) (.unset) 151 [(.ref str)])) := by
      intro tgt hgo
      refine R107 tgt ?_
      show Steps p.tables e below (T106.setTop (fl m p1 p2 p3 p4 c0 c1 c2 s0 s1 s2 s3 (.val (.int 2)) (.unset) (.unset) (.unset) (.unset) 133 [(.ref str)])) _
      refine XS.astore X106.here hx rfl (hb hby at_133) rfl rfl (l' := #[.val (.int p1), .val (.int p2), .val (.int p3), .val (.int p4), .val (.int 2), .val (.int c0), .val (.int c1), .val (.int c2), .val (.ref s0), .val (.ref s1), .val (.ref s2), .val (.ref s3), .val (.ref str), .unset, .unset, .unset]) rfl ?_
      refine XS.goto X106.here hx rfl (pc0 := 135) (pc' := 149) rfl (hb hby at_135) (by decide) (by decide) ?_
      refine XS.aload X106.here hx rfl (hb hby at_149) rfl rfl ?_
      exact hgo
    obtain ⟨_, _, ⟨T109, L109, k109, n109⟩, -, X109, ⟨Lc109, hQ109, l109, y109, z109⟩, st109⟩ := Jvm.LawKit.callS X106 hx (y := yn30) hown (mvT hZ (w 22 rfl)) (mvT hZ (w 23 rfl)) (mvT hZ (w 24 rfl)) (mvT hZ (w 25 rfl)) (by decide) (backOf (W := 0) (rm_quote2 l Z a0 hw [] str c0 c1 zc tb kb vf T106.heap n0 hZn hOld S_cs hz S_f hf hc0 hc1 DSt) hZ (w 25 rfl) (w 24 rfl) (by decide) (by decide)) (g := (fl m p1 p2 p3 p4 c0 c1 c2 s0 s1 s2 s3 (.val (.int 2)) (.val (.ref str)) (.unset) (.unset) (.unset) 151 [(.ref str)])) rfl (by rw [hml]; rfl) (argsL := [(.ref str)]) (rest := []) (lenOf pd_22 rfl) rfl (by show 2 * 0 + _ ≤ _; exact Nat.le_of_eq rfl) (hb hby at_151) (fun _ _ => ⟨rfl, rfl, (by decide : 6 + 12 ≤ _), (by decide : 12 + 128 ≤ _)⟩)
    dsimp only [Pt.U, Pt.locs, Pt.cells, Pt.slots] at X109 l109 y109 z109 st109 hQ109
    subst l109 y109 z109
    obtain ⟨⟨xr, rfl, tr, kr, szr, SFr⟩, N109q, K109⟩ := hQ109
    have N109 := Fr.app N106 N109q
    have R110 := Rc.st R108 st109
    replace hZn := Nat.le_trans hZn K109.1
    replace hOld := hOld.keep K109 all0
    replace hk := Nat.le_trans hk K109.1
    have E_r := SFr.1
    have R111 : Rc p e below A0 (T109.setTop (fl m p1 p2 p3 p4 c0 c1 c2 s0 s1 s2 s3 (.val (.int 2)) (.val (.ref str)) (.val (.ref xr)) (.val (.int 4)) (.unset) 168 [])) := by
      intro tgt hgo
      refine R110 tgt ?_
      show Steps p.tables e below (T109.setTop (fl m p1 p2 p3 p4 c0 c1 c2 s0 s1 s2 s3 (.val (.int 2)) (.val (.ref str)) (.unset) (.unset) (.unset) 154 [(.ref xr)])) _
      refine XS.astore X109.here hx rfl (hb hby at_154) rfl rfl (l' := #[.val (.int p1), .val (.int p2), .val (.int p3), .val (.int p4), .val (.int 2), .val (.int c0), .val (.int c1), .val (.int c2), .val (.ref s0), .val (.ref s1), .val (.ref s2), .val (.ref s3), .val (.ref str), .val (.ref xr), .unset, .unset]) rfl ?_
      refine XS.iconst X109.here hx rfl (hb hby at_156) ?_
      refine XS.iload X109.here hx rfl (hb hby at_157) rfl ?_
      refine XS.iadd X109.here hx rfl (hb hby at_159) rfl ?_
      refine XS.istore X109.here hx rfl (hb hby at_160) rfl (l' := #[.val (.int p1), .val (.int p2), .val (.int p3), .val (.int p4), .val (.int 2), .val (.int c0), .val (.int c1), .val (.int c2), .val (.ref s0), .val (.ref s1), .val (.ref s2), .val (.ref s3), .val (.ref str), .val (.ref xr), .val (.int 4), .unset]) rfl ?_
      refine XS.iload X109.here hx rfl (hb hby at_162) rfl ?_
      refine XS.iconst X109.here hx rfl (hb hby at_164) ?_
      refine XS.icmpNo X109.here hx rfl (hb hby at_165) rfl (flt (by decide : ¬ ((2 : Int32) < (1 : Int32)))).1 ?_
      exact hgo
    rcases own_sp_cases c0 with ⟨hs0, -⟩ | ⟨hs0, -, -⟩
    ·have R112 : Rc p e below A0 (T109.setTop (fl m p1 p2 p3 p4 c0 c1 c2 s0 s1 s2 s3 (.val (.int 2)) (.val (.ref str)) (.val (.ref xr)) (.val (.int 4)) (.unset) 170 [(.int c0)])) := by
       intro tgt hgo
       refine R111 tgt ?_
       show Steps p.tables e below (T109.setTop (fl m p1 p2 p3 p4 c0 c1 c2 s0 s1 s2 s3 (.val (.int 2)) (.val (.ref str)) (.val (.ref xr)) (.val (.int 4)) (.unset) 168 [])) _
       refine XS.iload X109.here hx rfl (hb hby at_168) rfl ?_
       exact hgo
     obtain ⟨_, _, ⟨T113, L113, k113, n113⟩, -, X113, ⟨Lc113, hQ113, l113, y113, z113⟩, st113⟩ := Jvm.LawKit.callS X109 hx (y := yn28) hown (mvT hZ (w 153 rfl)) (mvT hZ (w 154 rfl)) (mvT hZ (w 155 rfl)) (mvT hZ (w 156 rfl)) (by decide) (backOf (W := 0) (rm_sp l Z a0 hw [] c0 1 T109.heap n0 hZn hs0) hZ (w 156 rfl) (w 155 rfl) (by decide) (by decide)) (g := (fl m p1 p2 p3 p4 c0 c1 c2 s0 s1 s2 s3 (.val (.int 2)) (.val (.ref str)) (.val (.ref xr)) (.val (.int 4)) (.unset) 170 [(.int c0)])) rfl (by rw [hml]; rfl) (argsL := [(.int c0)]) (rest := []) (lenOf pd_10 rfl) rfl (by show 2 * 0 + _ ≤ _; exact Nat.le_of_eq rfl) (hb hby at_170) (fun _ _ => ⟨rfl, rfl, (by decide : 18 + 0 ≤ _), (by decide : 140 + 0 ≤ _)⟩)
     dsimp only [Pt.U, Pt.locs, Pt.cells, Pt.slots] at X113 l113 y113 z113 st113 hQ113
     subst l113 y113 z113
     obtain ⟨rfl, N113q, e113⟩ := hQ113
     have N113 := Fr.app N109 N113q
     have R114 := Rc.st R112 st113
     have R115 : Rc p e below A0 (T113.setTop (fl m p1 p2 p3 p4 c0 c1 c2 s0 s1 s2 s3 (.val (.int 2)) (.val (.ref str)) (.val (.ref xr)) (.val (.int 5)) (.unset) 188 [])) := by
       intro tgt hgo
       refine R114 tgt ?_
       show Steps p.tables e below (T113.setTop (fl m p1 p2 p3 p4 c0 c1 c2 s0 s1 s2 s3 (.val (.int 2)) (.val (.ref str)) (.val (.ref xr)) (.val (.int 4)) (.unset) 173 [(.int 1)])) _
       refine XS.ifNo X113.here hx rfl (hb hby at_173) rfl ((if0 _ _).trans (feq (by decide : ¬ ((1 : Int32) = (0 : Int32)))).1) ?_
       refine XS.iload X113.here hx rfl (hb hby at_176) rfl ?_
       refine XS.iconst X113.here hx rfl (hb hby at_178) ?_
       refine XS.iadd X113.here hx rfl (hb hby at_179) rfl ?_
       refine XS.istore X113.here hx rfl (hb hby at_180) rfl (l' := #[.val (.int p1), .val (.int p2), .val (.int p3), .val (.int p4), .val (.int 2), .val (.int c0), .val (.int c1), .val (.int c2), .val (.ref s0), .val (.ref s1), .val (.ref s2), .val (.ref s3), .val (.ref str), .val (.ref xr), .val (.int 5), .unset]) rfl ?_
       refine XS.iload X113.here hx rfl (hb hby at_182) rfl ?_
       refine XS.iconst X113.here hx rfl (hb hby at_184) ?_
       refine XS.icmpNo X113.here hx rfl (hb hby at_185) rfl (flt (by decide : ¬ ((2 : Int32) < (2 : Int32)))).1 ?_
       exact hgo
     rcases own_sp_cases c1 with ⟨hs1, -⟩ | ⟨hs1, -, -⟩
     ·have R116 : Rc p e below A0 (T113.setTop (fl m p1 p2 p3 p4 c0 c1 c2 s0 s1 s2 s3 (.val (.int 2)) (.val (.ref str)) (.val (.ref xr)) (.val (.int 5)) (.unset) 190 [(.int c1)])) := by
        intro tgt hgo
        refine R115 tgt ?_
        show Steps p.tables e below (T113.setTop (fl m p1 p2 p3 p4 c0 c1 c2 s0 s1 s2 s3 (.val (.int 2)) (.val (.ref str)) (.val (.ref xr)) (.val (.int 5)) (.unset) 188 [])) _
        refine XS.iload X113.here hx rfl (hb hby at_188) rfl ?_
        exact hgo
      obtain ⟨_, _, ⟨T117, L117, k117, n117⟩, -, X117, ⟨Lc117, hQ117, l117, y117, z117⟩, st117⟩ := Jvm.LawKit.callS X113 hx (y := yn28) hown (mvT hZ (w 153 rfl)) (mvT hZ (w 154 rfl)) (mvT hZ (w 155 rfl)) (mvT hZ (w 156 rfl)) (by decide) (backOf (W := 0) (rm_sp l Z a0 hw [] c1 1 T109.heap n0 hZn hs1) hZ (w 156 rfl) (w 155 rfl) (by decide) (by decide)) (g := (fl m p1 p2 p3 p4 c0 c1 c2 s0 s1 s2 s3 (.val (.int 2)) (.val (.ref str)) (.val (.ref xr)) (.val (.int 5)) (.unset) 190 [(.int c1)])) rfl (by rw [hml]; rfl) (argsL := [(.int c1)]) (rest := []) (lenOf pd_10 rfl) rfl (by show 2 * 0 + _ ≤ _; exact Nat.le_of_eq rfl) (hb hby at_190) (fun _ _ => ⟨rfl, e113, (by decide : 18 + 0 ≤ _), (by decide : 140 + 0 ≤ _)⟩)
      dsimp only [Pt.U, Pt.locs, Pt.cells, Pt.slots] at X117 l117 y117 z117 st117 hQ117
      subst l117 y117 z117
      obtain ⟨rfl, N117q, e117⟩ := hQ117
      have N117 := Fr.app N113 N117q
      have R118 := Rc.st R116 st117
      have hq : ((([] ++ [own_b 34]) ++ own_esc c0) ++ own_esc c1) ++ [own_b 34] = [own_b 34, own_b 92, own_b c0, own_b 92, own_b c1, own_b 34] := by simp [own_esc, hs0, hs1]
      rw [hq] at SFr
      have R119 : Rc p e below A0 (T117.setTop (fl m p1 p2 p3 p4 c0 c1 c2 s0 s1 s2 s3 (.val (.int 2)) (.val (.ref str)) (.val (.ref xr)) (.val (.int 6)) (.unset) 224 [(.ref xr)])) := by
        intro tgt hgo
        refine R118 tgt ?_
        show Steps p.tables e below (T117.setTop (fl m p1 p2 p3 p4 c0 c1 c2 s0 s1 s2 s3 (.val (.int 2)) (.val (.ref str)) (.val (.ref xr)) (.val (.int 5)) (.unset) 193 [(.int 1)])) _
        refine XS.ifNo X117.here hx rfl (hb hby at_193) rfl ((if0 _ _).trans (feq (by decide : ¬ ((1 : Int32) = (0 : Int32)))).1) ?_
        refine XS.iload X117.here hx rfl (hb hby at_196) rfl ?_
        refine XS.iconst X117.here hx rfl (hb hby at_198) ?_
        refine XS.iadd X117.here hx rfl (hb hby at_199) rfl ?_
        refine XS.istore X117.here hx rfl (hb hby at_200) rfl (l' := #[.val (.int p1), .val (.int p2), .val (.int p3), .val (.int p4), .val (.int 2), .val (.int c0), .val (.int c1), .val (.int c2), .val (.ref s0), .val (.ref s1), .val (.ref s2), .val (.ref s3), .val (.ref str), .val (.ref xr), .val (.int 6), .unset]) rfl ?_
        refine XS.iload X117.here hx rfl (hb hby at_202) rfl ?_
        refine XS.iconst X117.here hx rfl (hb hby at_204) ?_
        refine XS.icmpYes X117.here hx rfl (pc0 := 205) (pc' := 222) rfl (hb hby at_205) rfl (tlt (by decide : (2 : Int32) < (3 : Int32))).1 (by decide) (by decide) ?_
        refine XS.aload X117.here hx rfl (hb hby at_222) rfl rfl ?_
        exact hgo
      obtain ⟨cq120, kq120, q120a, q120b, q120c⟩ := isOf hZ e117 E_r
      obtain ⟨_, _, ⟨T120, L120, k120, n120⟩, -, X120, ⟨Lc120, hQ120, l120, y120, z120⟩, st120⟩ := X117.virtualBack hx (y := yn1) (z := yn1) hown (mvT hZ (w 120 rfl)) (mvT hZ (w 30 rfl)) (notFace_of_selects (args := #[]) (mvT hZ (w 32 rfl))) (mvT hZ (w 32 rfl)) (mvT hZ (w 31 rfl)) (by decide) (backOf (W := 0) (rm_length l Z a0 hw [] xr zc tr kr [own_b 34, own_b 92, own_b c0, own_b 92, own_b c1, own_b 34] T109.heap n0 hZn hOld S_cs hz SFr) hZ (w 33 rfl) (w 3 rfl) (by decide) (by decide)) q120a q120c (g := (fl m p1 p2 p3 p4 c0 c1 c2 s0 s1 s2 s3 (.val (.int 2)) (.val (.ref str)) (.val (.ref xr)) (.val (.int 6)) (.unset) 224 [(.ref xr)])) rfl (by rw [hml]; rfl) (Steps.refl _) (argsL := []) (rest := []) (lenOf pd_13 rfl) rfl (by show 2 * 0 + _ ≤ _; exact Nat.le_of_eq rfl) (hb hby at_224) (fun _ _ => ⟨rfl, e117, (by decide : 18 + 0 ≤ _), (by decide : 140 + 0 ≤ _)⟩)
      dsimp only [Pt.U, Pt.locs, Pt.cells, Pt.slots] at X120 l120 y120 z120 st120 hQ120
      subst l120 y120 z120
      obtain ⟨rfl, N120q, e120⟩ := hQ120
      have N120 := Fr.app N117 N120q
      have R121 := Rc.tr R119 st120
      have R122 : Rc p e below A0 (T120.setTop (fl m p1 p2 p3 p4 c0 c1 c2 s0 s1 s2 s3 (.val (.int 2)) (.val (.ref str)) (.val (.ref xr)) (.val (.int 6)) (.unset) 237 [(.int 0), (.ref xr)])) := by
        intro tgt hgo
        refine R121 tgt ?_
        show Steps p.tables e below (T120.setTop (fl m p1 p2 p3 p4 c0 c1 c2 s0 s1 s2 s3 (.val (.int 2)) (.val (.ref str)) (.val (.ref xr)) (.val (.int 6)) (.unset) 227 [(.int 6)])) _
        refine XS.iload X120.here hx rfl (hb hby at_227) rfl ?_
        refine XS.icmpYes X120.here hx rfl (pc0 := 229) (pc' := 234) rfl (hb hby at_229) rfl (teq (by decide : (6 : Int32) = (6 : Int32))).1 (by decide) (by decide) ?_
        refine XS.aload X120.here hx rfl (hb hby at_234) rfl rfl ?_
        refine XS.iconst X120.here hx rfl (hb hby at_236) ?_
        exact hgo
      obtain ⟨cq123, kq123, q123a, q123b, q123c⟩ := isOf hZ e120 E_r
      obtain ⟨_, _, ⟨T123, L123, k123, n123⟩, -, X123, ⟨Lc123, hQ123, l123, y123, z123⟩, st123⟩ := X120.virtualBack hx (y := yn6) (z := yn6) hown (mvT hZ (w 121 rfl)) (mvT hZ (w 122 rfl)) (notFace_of_selects (args := #[]) (mvT hZ (w 124 rfl))) (mvT hZ (w 124 rfl)) (mvT hZ (w 123 rfl)) (by decide) (backOf (W := 0) (rm_charAt l Z a0 hw [] xr (0 : Int32) zc tr kr [own_b 34, own_b 92, own_b c0, own_b 92, own_b c1, own_b 34] 0 34 vf T109.heap n0 hZn rfl hOld S_cs hz S_f hf (by decide) (by show Int32.ofNat 0 < Int32.ofNat 6; decide) rfl own_c34 SFr) hZ (w 125 rfl) (w 3 rfl) (by decide) (by decide)) q123a q123c (g := (fl m p1 p2 p3 p4 c0 c1 c2 s0 s1 s2 s3 (.val (.int 2)) (.val (.ref str)) (.val (.ref xr)) (.val (.int 6)) (.unset) 237 [(.int 0), (.ref xr)])) rfl (by rw [hml]; rfl) (Steps.refl _) (argsL := [(.int 0)]) (rest := []) (lenOf pd_17 rfl) rfl (by show 2 * 0 + _ ≤ _; exact Nat.le_of_eq rfl) (hb hby at_237) (fun _ _ => ⟨rfl, e120, (by decide : 18 + 0 ≤ _), (by decide : 140 + 0 ≤ _)⟩)
      dsimp only [Pt.U, Pt.locs, Pt.cells, Pt.slots] at X123 l123 y123 z123 st123 hQ123
      subst l123 y123 z123
      obtain ⟨rfl, N123q, e123⟩ := hQ123
      have N123 := Fr.app N120 N123q
      have R124 := Rc.tr R122 st123
      have R125 : Rc p e below A0 (T123.setTop (fl m p1 p2 p3 p4 c0 c1 c2 s0 s1 s2 s3 (.val (.int 2)) (.val (.ref str)) (.val (.ref xr)) (.val (.int 6)) (.val (.int 1)) 262 [(.int c0), (.int 1), (.ref xr)])) := by
        intro tgt hgo
        refine R124 tgt ?_
        show Steps p.tables e below (T123.setTop (fl m p1 p2 p3 p4 c0 c1 c2 s0 s1 s2 s3 (.val (.int 2)) (.val (.ref str)) (.val (.ref xr)) (.val (.int 6)) (.unset) 240 [(.int 34)])) _
        refine XS.bipush X123.here hx rfl (hb hby at_240) ?_
        refine XS.icmpYes X123.here hx rfl (pc0 := 242) (pc' := 247) rfl (hb hby at_242) rfl (teq (by decide : (34 : Int32) = (34 : Int32))).1 (by decide) (by decide) ?_
        refine XS.iconst X123.here hx rfl (hb hby at_247) ?_
        refine XS.istore X123.here hx rfl (hb hby at_248) rfl (l' := #[.val (.int p1), .val (.int p2), .val (.int p3), .val (.int p4), .val (.int 2), .val (.int c0), .val (.int c1), .val (.int c2), .val (.ref s0), .val (.ref s1), .val (.ref s2), .val (.ref s3), .val (.ref str), .val (.ref xr), .val (.int 6), .val (.int 1)]) rfl ?_
        refine XS.iload X123.here hx rfl (hb hby at_250) rfl ?_
        refine XS.iconst X123.here hx rfl (hb hby at_252) ?_
        refine XS.icmpNo X123.here hx rfl (hb hby at_253) rfl (flt (by decide : ¬ ((2 : Int32) < (1 : Int32)))).1 ?_
        refine XS.aload X123.here hx rfl (hb hby at_256) rfl rfl ?_
        refine XS.iload X123.here hx rfl (hb hby at_258) rfl ?_
        refine XS.iload X123.here hx rfl (hb hby at_260) rfl ?_
        exact hgo
      obtain ⟨_, _, ⟨T126, L126, k126, n126⟩, -, X126, ⟨Lc126, hQ126, l126, y126, z126⟩, st126⟩ := Jvm.LawKit.callS X123 hx (y := yn29) hown (mvT hZ (w 157 rfl)) (mvT hZ (w 158 rfl)) (mvT hZ (w 155 rfl)) (mvT hZ (w 159 rfl)) (by decide) (backOf (W := 0) (rm_step1 l Z a0 hw [] xr (1 : Int32) c0 zc tr kr [own_b 34, own_b 92, own_b c0, own_b 92, own_b c1, own_b 34] 1 vf T109.heap n0 hZn rfl hc0 hs0 hOld S_cs hz S_f hf (by show 6 < 2147483647; decide) (by show 1 < 6; decide) rfl (by show 2 < 6; decide) rfl SFr) hZ (w 159 rfl) (w 155 rfl) (by decide) (by decide)) (g := (fl m p1 p2 p3 p4 c0 c1 c2 s0 s1 s2 s3 (.val (.int 2)) (.val (.ref str)) (.val (.ref xr)) (.val (.int 6)) (.val (.int 1)) 262 [(.int c0), (.int 1), (.ref xr)])) rfl (by rw [hml]; rfl) (argsL := [(.ref xr), (.int 1), (.int c0)]) (rest := []) (lenOf pd_23 rfl) rfl (by show 2 * 0 + _ ≤ _; exact Nat.le_of_eq rfl) (hb hby at_262) (fun _ _ => ⟨rfl, e123, (by decide : 18 + 0 ≤ _), (by decide : 140 + 0 ≤ _)⟩)
      dsimp only [Pt.U, Pt.locs, Pt.cells, Pt.slots] at X126 l126 y126 z126 st126 hQ126
      subst l126 y126 z126
      obtain ⟨rfl, N126q, e126⟩ := hQ126
      have N126 := Fr.app N123 N126q
      have R127 := Rc.st R125 st126
      have R128 : Rc p e below A0 (T126.setTop (fl m p1 p2 p3 p4 c0 c1 c2 s0 s1 s2 s3 (.val (.int 2)) (.val (.ref str)) (.val (.ref xr)) (.val (.int 6)) (.val (.int 3)) 279 [(.int c1), (.int 3), (.ref xr)])) := by
        intro tgt hgo
        refine R127 tgt ?_
        show Steps p.tables e below (T126.setTop (fl m p1 p2 p3 p4 c0 c1 c2 s0 s1 s2 s3 (.val (.int 2)) (.val (.ref str)) (.val (.ref xr)) (.val (.int 6)) (.val (.int 1)) 265 [(.int 3)])) _
        refine XS.istore X126.here hx rfl (hb hby at_265) rfl (l' := #[.val (.int p1), .val (.int p2), .val (.int p3), .val (.int p4), .val (.int 2), .val (.int c0), .val (.int c1), .val (.int c2), .val (.ref s0), .val (.ref s1), .val (.ref s2), .val (.ref s3), .val (.ref str), .val (.ref xr), .val (.int 6), .val (.int 3)]) rfl ?_
        refine XS.iload X126.here hx rfl (hb hby at_267) rfl ?_
        refine XS.iconst X126.here hx rfl (hb hby at_269) ?_
        refine XS.icmpNo X126.here hx rfl (hb hby at_270) rfl (flt (by decide : ¬ ((2 : Int32) < (2 : Int32)))).1 ?_
        refine XS.aload X126.here hx rfl (hb hby at_273) rfl rfl ?_
        refine XS.iload X126.here hx rfl (hb hby at_275) rfl ?_
        refine XS.iload X126.here hx rfl (hb hby at_277) rfl ?_
        exact hgo
      obtain ⟨_, _, ⟨T129, L129, k129, n129⟩, -, X129, ⟨Lc129, hQ129, l129, y129, z129⟩, st129⟩ := Jvm.LawKit.callS X126 hx (y := yn29) hown (mvT hZ (w 157 rfl)) (mvT hZ (w 158 rfl)) (mvT hZ (w 155 rfl)) (mvT hZ (w 159 rfl)) (by decide) (backOf (W := 0) (rm_step1 l Z a0 hw [] xr (3 : Int32) c1 zc tr kr [own_b 34, own_b 92, own_b c0, own_b 92, own_b c1, own_b 34] 3 vf T109.heap n0 hZn rfl hc1 hs1 hOld S_cs hz S_f hf (by show 6 < 2147483647; decide) (by show 3 < 6; decide) rfl (by show 4 < 6; decide) rfl SFr) hZ (w 159 rfl) (w 155 rfl) (by decide) (by decide)) (g := (fl m p1 p2 p3 p4 c0 c1 c2 s0 s1 s2 s3 (.val (.int 2)) (.val (.ref str)) (.val (.ref xr)) (.val (.int 6)) (.val (.int 3)) 279 [(.int c1), (.int 3), (.ref xr)])) rfl (by rw [hml]; rfl) (argsL := [(.ref xr), (.int 3), (.int c1)]) (rest := []) (lenOf pd_23 rfl) rfl (by show 2 * 0 + _ ≤ _; exact Nat.le_of_eq rfl) (hb hby at_279) (fun _ _ => ⟨rfl, e126, (by decide : 18 + 0 ≤ _), (by decide : 140 + 0 ≤ _)⟩)
      dsimp only [Pt.U, Pt.locs, Pt.cells, Pt.slots] at X129 l129 y129 z129 st129 hQ129
      subst l129 y129 z129
      obtain ⟨rfl, N129q, e129⟩ := hQ129
      have N129 := Fr.app N126 N129q
      have R130 := Rc.st R128 st129
      have R131 : Rc p e below A0 (T129.setTop (fl m p1 p2 p3 p4 c0 c1 c2 s0 s1 s2 s3 (.val (.int 2)) (.val (.ref str)) (.val (.ref xr)) (.val (.int 6)) (.val (.int 5)) 314 [(.int 5), (.ref xr)])) := by
        intro tgt hgo
        refine R130 tgt ?_
        show Steps p.tables e below (T129.setTop (fl m p1 p2 p3 p4 c0 c1 c2 s0 s1 s2 s3 (.val (.int 2)) (.val (.ref str)) (.val (.ref xr)) (.val (.int 6)) (.val (.int 3)) 282 [(.int 5)])) _
        refine XS.istore X129.here hx rfl (hb hby at_282) rfl (l' := #[.val (.int p1), .val (.int p2), .val (.int p3), .val (.int p4), .val (.int 2), .val (.int c0), .val (.int c1), .val (.int c2), .val (.ref s0), .val (.ref s1), .val (.ref s2), .val (.ref s3), .val (.ref str), .val (.ref xr), .val (.int 6), .val (.int 5)]) rfl ?_
        refine XS.iload X129.here hx rfl (hb hby at_284) rfl ?_
        refine XS.iconst X129.here hx rfl (hb hby at_286) ?_
        refine XS.icmpYes X129.here hx rfl (pc0 := 287) (pc' := 301) rfl (hb hby at_287) rfl (tlt (by decide : (2 : Int32) < (3 : Int32))).1 (by decide) (by decide) ?_
        refine XS.iload X129.here hx rfl (hb hby at_301) rfl ?_
        refine XS.iload X129.here hx rfl (hb hby at_303) rfl ?_
        refine XS.iconst X129.here hx rfl (hb hby at_305) ?_
        refine XS.isub X129.here hx rfl (hb hby at_306) rfl ?_
        refine XS.icmpNo X129.here hx rfl (hb hby at_307) rfl (teq (by decide : (5 : Int32) = (5 : Int32))).2 ?_
        refine XS.aload X129.here hx rfl (hb hby at_310) rfl rfl ?_
        refine XS.iload X129.here hx rfl (hb hby at_312) rfl ?_
        exact hgo
      obtain ⟨cq132, kq132, q132a, q132b, q132c⟩ := isOf hZ e129 E_r
      obtain ⟨_, _, ⟨T132, L132, k132, n132⟩, -, X132, ⟨Lc132, hQ132, l132, y132, z132⟩, st132⟩ := X129.virtualBack hx (y := yn6) (z := yn6) hown (mvT hZ (w 121 rfl)) (mvT hZ (w 122 rfl)) (notFace_of_selects (args := #[]) (mvT hZ (w 124 rfl))) (mvT hZ (w 124 rfl)) (mvT hZ (w 123 rfl)) (by decide) (backOf (W := 0) (rm_charAt l Z a0 hw [] xr (5 : Int32) zc tr kr [own_b 34, own_b 92, own_b c0, own_b 92, own_b c1, own_b 34] 5 34 vf T109.heap n0 hZn rfl hOld S_cs hz S_f hf (by decide) (by show Int32.ofNat 5 < Int32.ofNat 6; decide) rfl own_c34 SFr) hZ (w 125 rfl) (w 3 rfl) (by decide) (by decide)) q132a q132c (g := (fl m p1 p2 p3 p4 c0 c1 c2 s0 s1 s2 s3 (.val (.int 2)) (.val (.ref str)) (.val (.ref xr)) (.val (.int 6)) (.val (.int 5)) 314 [(.int 5), (.ref xr)])) rfl (by rw [hml]; rfl) (Steps.refl _) (argsL := [(.int 5)]) (rest := []) (lenOf pd_17 rfl) rfl (by show 2 * 0 + _ ≤ _; exact Nat.le_of_eq rfl) (hb hby at_314) (fun _ _ => ⟨rfl, e129, (by decide : 18 + 0 ≤ _), (by decide : 140 + 0 ≤ _)⟩)
      dsimp only [Pt.U, Pt.locs, Pt.cells, Pt.slots] at X132 l132 y132 z132 st132 hQ132
      subst l132 y132 z132
      obtain ⟨rfl, N132q, e132⟩ := hQ132
      have N132 := Fr.app N129 N132q
      have R133 := Rc.tr R131 st132
      have R134 : Rc p e below A0 (T132.setTop (fl m p1 p2 p3 p4 c0 c1 c2 s0 s1 s2 s3 (.val (.int 2)) (.val (.ref str)) (.val (.ref xr)) (.val (.int 6)) (.val (.int 5)) 327 [(.int 1)])) := by
        intro tgt hgo
        refine R133 tgt ?_
        show Steps p.tables e below (T132.setTop (fl m p1 p2 p3 p4 c0 c1 c2 s0 s1 s2 s3 (.val (.int 2)) (.val (.ref str)) (.val (.ref xr)) (.val (.int 6)) (.val (.int 5)) 317 [(.int 34)])) _
        refine XS.bipush X132.here hx rfl (hb hby at_317) ?_
        refine XS.icmpNo X132.here hx rfl (hb hby at_319) rfl (teq (by decide : (34 : Int32) = (34 : Int32))).2 ?_
        refine XS.iconst X132.here hx rfl (hb hby at_322) ?_
        refine XS.goto X132.here hx rfl (pc0 := 323) (pc' := 327) rfl (hb hby at_323) (by decide) (by decide) ?_
        exact hgo
      subst hA0
      obtain ⟨fs, hr, hrun, hended, hRW⟩ := X132.leaveW hS (by rw [e132]; exact hk) (v := some (.int 1)) (fun h => by rw [Bd.returns] at h; cases h) Bd.notSynchronized
      refine ⟨_, _, R134 _ ?_, hrun, hended, _, _, rfl, ?_, OwnKit.own_fin hRW (by decide) (by decide)⟩
      ·show Steps p.tables e below (T132.setTop (fl m p1 p2 p3 p4 c0 c1 c2 s0 s1 s2 s3 (.val (.int 2)) (.val (.ref str)) (.val (.ref xr)) (.val (.int 6)) (.val (.int 5)) 327 [(.int 1)])) _
       exact retN X132 hx (t := .boolean) Bd.returns (by simp) (hb hby at_327) hr
      ·show Q0 n0 _ T132.heap _
       rw [e132]
       exact ⟨rfl, N132⟩
     ·have R135 : Rc p e below A0 (T113.setTop (fl m p1 p2 p3 p4 c0 c1 c2 s0 s1 s2 s3 (.val (.int 2)) (.val (.ref str)) (.val (.ref xr)) (.val (.int 5)) (.unset) 190 [(.int c1)])) := by
        intro tgt hgo
        refine R115 tgt ?_
        show Steps p.tables e below (T113.setTop (fl m p1 p2 p3 p4 c0 c1 c2 s0 s1 s2 s3 (.val (.int 2)) (.val (.ref str)) (.val (.ref xr)) (.val (.int 5)) (.unset) 188 [])) _
        refine XS.iload X113.here hx rfl (hb hby at_188) rfl ?_
        exact hgo
      obtain ⟨_, _, ⟨T136, L136, k136, n136⟩, -, X136, ⟨Lc136, hQ136, l136, y136, z136⟩, st136⟩ := Jvm.LawKit.callS X113 hx (y := yn28) hown (mvT hZ (w 153 rfl)) (mvT hZ (w 154 rfl)) (mvT hZ (w 155 rfl)) (mvT hZ (w 156 rfl)) (by decide) (backOf (W := 0) (rm_sp l Z a0 hw [] c1 0 T109.heap n0 hZn hs1) hZ (w 156 rfl) (w 155 rfl) (by decide) (by decide)) (g := (fl m p1 p2 p3 p4 c0 c1 c2 s0 s1 s2 s3 (.val (.int 2)) (.val (.ref str)) (.val (.ref xr)) (.val (.int 5)) (.unset) 190 [(.int c1)])) rfl (by rw [hml]; rfl) (argsL := [(.int c1)]) (rest := []) (lenOf pd_10 rfl) rfl (by show 2 * 0 + _ ≤ _; exact Nat.le_of_eq rfl) (hb hby at_190) (fun _ _ => ⟨rfl, e113, (by decide : 18 + 0 ≤ _), (by decide : 140 + 0 ≤ _)⟩)
      dsimp only [Pt.U, Pt.locs, Pt.cells, Pt.slots] at X136 l136 y136 z136 st136 hQ136
      subst l136 y136 z136
      obtain ⟨rfl, N136q, e136⟩ := hQ136
      have N136 := Fr.app N113 N136q
      have R137 := Rc.st R135 st136
      have hq : ((([] ++ [own_b 34]) ++ own_esc c0) ++ own_esc c1) ++ [own_b 34] = [own_b 34, own_b 92, own_b c0, own_b c1, own_b 34] := by simp [own_esc, hs0, hs1]
      rw [hq] at SFr
      have R138 : Rc p e below A0 (T136.setTop (fl m p1 p2 p3 p4 c0 c1 c2 s0 s1 s2 s3 (.val (.int 2)) (.val (.ref str)) (.val (.ref xr)) (.val (.int 5)) (.unset) 224 [(.ref xr)])) := by
        intro tgt hgo
        refine R137 tgt ?_
        show Steps p.tables e below (T136.setTop (fl m p1 p2 p3 p4 c0 c1 c2 s0 s1 s2 s3 (.val (.int 2)) (.val (.ref str)) (.val (.ref xr)) (.val (.int 5)) (.unset) 193 [(.int 0)])) _
        refine XS.ifYes X136.here hx rfl (pc0 := 193) (pc' := 202) rfl (hb hby at_193) rfl ((if0 _ _).trans (teq (by decide : (0 : Int32) = (0 : Int32))).1) (by decide) (by decide) ?_
        refine XS.iload X136.here hx rfl (hb hby at_202) rfl ?_
        refine XS.iconst X136.here hx rfl (hb hby at_204) ?_
        refine XS.icmpYes X136.here hx rfl (pc0 := 205) (pc' := 222) rfl (hb hby at_205) rfl (tlt (by decide : (2 : Int32) < (3 : Int32))).1 (by decide) (by decide) ?_
        refine XS.aload X136.here hx rfl (hb hby at_222) rfl rfl ?_
        exact hgo
      obtain ⟨cq139, kq139, q139a, q139b, q139c⟩ := isOf hZ e136 E_r
      obtain ⟨_, _, ⟨T139, L139, k139, n139⟩, -, X139, ⟨Lc139, hQ139, l139, y139, z139⟩, st139⟩ := X136.virtualBack hx (y := yn1) (z := yn1) hown (mvT hZ (w 120 rfl)) (mvT hZ (w 30 rfl)) (notFace_of_selects (args := #[]) (mvT hZ (w 32 rfl))) (mvT hZ (w 32 rfl)) (mvT hZ (w 31 rfl)) (by decide) (backOf (W := 0) (rm_length l Z a0 hw [] xr zc tr kr [own_b 34, own_b 92, own_b c0, own_b c1, own_b 34] T109.heap n0 hZn hOld S_cs hz SFr) hZ (w 33 rfl) (w 3 rfl) (by decide) (by decide)) q139a q139c (g := (fl m p1 p2 p3 p4 c0 c1 c2 s0 s1 s2 s3 (.val (.int 2)) (.val (.ref str)) (.val (.ref xr)) (.val (.int 5)) (.unset) 224 [(.ref xr)])) rfl (by rw [hml]; rfl) (Steps.refl _) (argsL := []) (rest := []) (lenOf pd_13 rfl) rfl (by show 2 * 0 + _ ≤ _; exact Nat.le_of_eq rfl) (hb hby at_224) (fun _ _ => ⟨rfl, e136, (by decide : 18 + 0 ≤ _), (by decide : 140 + 0 ≤ _)⟩)
      dsimp only [Pt.U, Pt.locs, Pt.cells, Pt.slots] at X139 l139 y139 z139 st139 hQ139
      subst l139 y139 z139
      obtain ⟨rfl, N139q, e139⟩ := hQ139
      have N139 := Fr.app N136 N139q
      have R140 := Rc.tr R138 st139
      have R141 : Rc p e below A0 (T139.setTop (fl m p1 p2 p3 p4 c0 c1 c2 s0 s1 s2 s3 (.val (.int 2)) (.val (.ref str)) (.val (.ref xr)) (.val (.int 5)) (.unset) 237 [(.int 0), (.ref xr)])) := by
        intro tgt hgo
        refine R140 tgt ?_
        show Steps p.tables e below (T139.setTop (fl m p1 p2 p3 p4 c0 c1 c2 s0 s1 s2 s3 (.val (.int 2)) (.val (.ref str)) (.val (.ref xr)) (.val (.int 5)) (.unset) 227 [(.int 5)])) _
        refine XS.iload X139.here hx rfl (hb hby at_227) rfl ?_
        refine XS.icmpYes X139.here hx rfl (pc0 := 229) (pc' := 234) rfl (hb hby at_229) rfl (teq (by decide : (5 : Int32) = (5 : Int32))).1 (by decide) (by decide) ?_
        refine XS.aload X139.here hx rfl (hb hby at_234) rfl rfl ?_
        refine XS.iconst X139.here hx rfl (hb hby at_236) ?_
        exact hgo
      obtain ⟨cq142, kq142, q142a, q142b, q142c⟩ := isOf hZ e139 E_r
      obtain ⟨_, _, ⟨T142, L142, k142, n142⟩, -, X142, ⟨Lc142, hQ142, l142, y142, z142⟩, st142⟩ := X139.virtualBack hx (y := yn6) (z := yn6) hown (mvT hZ (w 121 rfl)) (mvT hZ (w 122 rfl)) (notFace_of_selects (args := #[]) (mvT hZ (w 124 rfl))) (mvT hZ (w 124 rfl)) (mvT hZ (w 123 rfl)) (by decide) (backOf (W := 0) (rm_charAt l Z a0 hw [] xr (0 : Int32) zc tr kr [own_b 34, own_b 92, own_b c0, own_b c1, own_b 34] 0 34 vf T109.heap n0 hZn rfl hOld S_cs hz S_f hf (by decide) (by show Int32.ofNat 0 < Int32.ofNat 5; decide) rfl own_c34 SFr) hZ (w 125 rfl) (w 3 rfl) (by decide) (by decide)) q142a q142c (g := (fl m p1 p2 p3 p4 c0 c1 c2 s0 s1 s2 s3 (.val (.int 2)) (.val (.ref str)) (.val (.ref xr)) (.val (.int 5)) (.unset) 237 [(.int 0), (.ref xr)])) rfl (by rw [hml]; rfl) (Steps.refl _) (argsL := [(.int 0)]) (rest := []) (lenOf pd_17 rfl) rfl (by show 2 * 0 + _ ≤ _; exact Nat.le_of_eq rfl) (hb hby at_237) (fun _ _ => ⟨rfl, e139, (by decide : 18 + 0 ≤ _), (by decide : 140 + 0 ≤ _)⟩)
      dsimp only [Pt.U, Pt.locs, Pt.cells, Pt.slots] at X142 l142 y142 z142 st142 hQ142
      subst l142 y142 z142
      obtain ⟨rfl, N142q, e142⟩ := hQ142
      have N142 := Fr.app N139 N142q
      have R143 := Rc.tr R141 st142
      have R144 : Rc p e below A0 (T142.setTop (fl m p1 p2 p3 p4 c0 c1 c2 s0 s1 s2 s3 (.val (.int 2)) (.val (.ref str)) (.val (.ref xr)) (.val (.int 5)) (.val (.int 1)) 262 [(.int c0), (.int 1), (.ref xr)])) := by
        intro tgt hgo
        refine R143 tgt ?_
        show Steps p.tables e below (T142.setTop (fl m p1 p2 p3 p4 c0 c1 c2 s0 s1 s2 s3 (.val (.int 2)) (.val (.ref str)) (.val (.ref xr)) (.val (.int 5)) (.unset) 240 [(.int 34)])) _
        refine XS.bipush X142.here hx rfl (hb hby at_240) ?_
        refine XS.icmpYes X142.here hx rfl (pc0 := 242) (pc' := 247) rfl (hb hby at_242) rfl (teq (by decide : (34 : Int32) = (34 : Int32))).1 (by decide) (by decide) ?_
        refine XS.iconst X142.here hx rfl (hb hby at_247) ?_
        refine XS.istore X142.here hx rfl (hb hby at_248) rfl (l' := #[.val (.int p1), .val (.int p2), .val (.int p3), .val (.int p4), .val (.int 2), .val (.int c0), .val (.int c1), .val (.int c2), .val (.ref s0), .val (.ref s1), .val (.ref s2), .val (.ref s3), .val (.ref str), .val (.ref xr), .val (.int 5), .val (.int 1)]) rfl ?_
        refine XS.iload X142.here hx rfl (hb hby at_250) rfl ?_
        refine XS.iconst X142.here hx rfl (hb hby at_252) ?_
        refine XS.icmpNo X142.here hx rfl (hb hby at_253) rfl (flt (by decide : ¬ ((2 : Int32) < (1 : Int32)))).1 ?_
        refine XS.aload X142.here hx rfl (hb hby at_256) rfl rfl ?_
        refine XS.iload X142.here hx rfl (hb hby at_258) rfl ?_
        refine XS.iload X142.here hx rfl (hb hby at_260) rfl ?_
        exact hgo
      obtain ⟨_, _, ⟨T145, L145, k145, n145⟩, -, X145, ⟨Lc145, hQ145, l145, y145, z145⟩, st145⟩ := Jvm.LawKit.callS X142 hx (y := yn29) hown (mvT hZ (w 157 rfl)) (mvT hZ (w 158 rfl)) (mvT hZ (w 155 rfl)) (mvT hZ (w 159 rfl)) (by decide) (backOf (W := 0) (rm_step1 l Z a0 hw [] xr (1 : Int32) c0 zc tr kr [own_b 34, own_b 92, own_b c0, own_b c1, own_b 34] 1 vf T109.heap n0 hZn rfl hc0 hs0 hOld S_cs hz S_f hf (by show 5 < 2147483647; decide) (by show 1 < 5; decide) rfl (by show 2 < 5; decide) rfl SFr) hZ (w 159 rfl) (w 155 rfl) (by decide) (by decide)) (g := (fl m p1 p2 p3 p4 c0 c1 c2 s0 s1 s2 s3 (.val (.int 2)) (.val (.ref str)) (.val (.ref xr)) (.val (.int 5)) (.val (.int 1)) 262 [(.int c0), (.int 1), (.ref xr)])) rfl (by rw [hml]; rfl) (argsL := [(.ref xr), (.int 1), (.int c0)]) (rest := []) (lenOf pd_23 rfl) rfl (by show 2 * 0 + _ ≤ _; exact Nat.le_of_eq rfl) (hb hby at_262) (fun _ _ => ⟨rfl, e142, (by decide : 18 + 0 ≤ _), (by decide : 140 + 0 ≤ _)⟩)
      dsimp only [Pt.U, Pt.locs, Pt.cells, Pt.slots] at X145 l145 y145 z145 st145 hQ145
      subst l145 y145 z145
      obtain ⟨rfl, N145q, e145⟩ := hQ145
      have N145 := Fr.app N142 N145q
      have R146 := Rc.st R144 st145
      have R147 : Rc p e below A0 (T145.setTop (fl m p1 p2 p3 p4 c0 c1 c2 s0 s1 s2 s3 (.val (.int 2)) (.val (.ref str)) (.val (.ref xr)) (.val (.int 5)) (.val (.int 3)) 279 [(.int c1), (.int 3), (.ref xr)])) := by
        intro tgt hgo
        refine R146 tgt ?_
        show Steps p.tables e below (T145.setTop (fl m p1 p2 p3 p4 c0 c1 c2 s0 s1 s2 s3 (.val (.int 2)) (.val (.ref str)) (.val (.ref xr)) (.val (.int 5)) (.val (.int 1)) 265 [(.int 3)])) _
        refine XS.istore X145.here hx rfl (hb hby at_265) rfl (l' := #[.val (.int p1), .val (.int p2), .val (.int p3), .val (.int p4), .val (.int 2), .val (.int c0), .val (.int c1), .val (.int c2), .val (.ref s0), .val (.ref s1), .val (.ref s2), .val (.ref s3), .val (.ref str), .val (.ref xr), .val (.int 5), .val (.int 3)]) rfl ?_
        refine XS.iload X145.here hx rfl (hb hby at_267) rfl ?_
        refine XS.iconst X145.here hx rfl (hb hby at_269) ?_
        refine XS.icmpNo X145.here hx rfl (hb hby at_270) rfl (flt (by decide : ¬ ((2 : Int32) < (2 : Int32)))).1 ?_
        refine XS.aload X145.here hx rfl (hb hby at_273) rfl rfl ?_
        refine XS.iload X145.here hx rfl (hb hby at_275) rfl ?_
        refine XS.iload X145.here hx rfl (hb hby at_277) rfl ?_
        exact hgo
      obtain ⟨_, _, ⟨T148, L148, k148, n148⟩, -, X148, ⟨Lc148, hQ148, l148, y148, z148⟩, st148⟩ := Jvm.LawKit.callS X145 hx (y := yn29) hown (mvT hZ (w 157 rfl)) (mvT hZ (w 158 rfl)) (mvT hZ (w 155 rfl)) (mvT hZ (w 159 rfl)) (by decide) (backOf (W := 0) (rm_step0 l Z a0 hw [] xr (3 : Int32) c1 zc tr kr [own_b 34, own_b 92, own_b c0, own_b c1, own_b 34] 3 vf T109.heap n0 hZn rfl hc1 hs1 hOld S_cs hz S_f hf (by show 5 < 2147483647; decide) (by show 3 < 5; decide) rfl SFr) hZ (w 159 rfl) (w 155 rfl) (by decide) (by decide)) (g := (fl m p1 p2 p3 p4 c0 c1 c2 s0 s1 s2 s3 (.val (.int 2)) (.val (.ref str)) (.val (.ref xr)) (.val (.int 5)) (.val (.int 3)) 279 [(.int c1), (.int 3), (.ref xr)])) rfl (by rw [hml]; rfl) (argsL := [(.ref xr), (.int 3), (.int c1)]) (rest := []) (lenOf pd_23 rfl) rfl (by show 2 * 0 + _ ≤ _; exact Nat.le_of_eq rfl) (hb hby at_279) (fun _ _ => ⟨rfl, e145, (by decide : 18 + 0 ≤ _), (by decide : 140 + 0 ≤ _)⟩)
      dsimp only [Pt.U, Pt.locs, Pt.cells, Pt.slots] at X148 l148 y148 z148 st148 hQ148
      subst l148 y148 z148
      obtain ⟨rfl, N148q, e148⟩ := hQ148
      have N148 := Fr.app N145 N148q
      have R149 := Rc.st R147 st148
      have R150 : Rc p e below A0 (T148.setTop (fl m p1 p2 p3 p4 c0 c1 c2 s0 s1 s2 s3 (.val (.int 2)) (.val (.ref str)) (.val (.ref xr)) (.val (.int 5)) (.val (.int 4)) 314 [(.int 4), (.ref xr)])) := by
        intro tgt hgo
        refine R149 tgt ?_
        show Steps p.tables e below (T148.setTop (fl m p1 p2 p3 p4 c0 c1 c2 s0 s1 s2 s3 (.val (.int 2)) (.val (.ref str)) (.val (.ref xr)) (.val (.int 5)) (.val (.int 3)) 282 [(.int 4)])) _
        refine XS.istore X148.here hx rfl (hb hby at_282) rfl (l' := #[.val (.int p1), .val (.int p2), .val (.int p3), .val (.int p4), .val (.int 2), .val (.int c0), .val (.int c1), .val (.int c2), .val (.ref s0), .val (.ref s1), .val (.ref s2), .val (.ref s3), .val (.ref str), .val (.ref xr), .val (.int 5), .val (.int 4)]) rfl ?_
        refine XS.iload X148.here hx rfl (hb hby at_284) rfl ?_
        refine XS.iconst X148.here hx rfl (hb hby at_286) ?_
        refine XS.icmpYes X148.here hx rfl (pc0 := 287) (pc' := 301) rfl (hb hby at_287) rfl (tlt (by decide : (2 : Int32) < (3 : Int32))).1 (by decide) (by decide) ?_
        refine XS.iload X148.here hx rfl (hb hby at_301) rfl ?_
        refine XS.iload X148.here hx rfl (hb hby at_303) rfl ?_
        refine XS.iconst X148.here hx rfl (hb hby at_305) ?_
        refine XS.isub X148.here hx rfl (hb hby at_306) rfl ?_
        refine XS.icmpNo X148.here hx rfl (hb hby at_307) rfl (teq (by decide : (4 : Int32) = (4 : Int32))).2 ?_
        refine XS.aload X148.here hx rfl (hb hby at_310) rfl rfl ?_
        refine XS.iload X148.here hx rfl (hb hby at_312) rfl ?_
        exact hgo
      obtain ⟨cq151, kq151, q151a, q151b, q151c⟩ := isOf hZ e148 E_r
      obtain ⟨_, _, ⟨T151, L151, k151, n151⟩, -, X151, ⟨Lc151, hQ151, l151, y151, z151⟩, st151⟩ := X148.virtualBack hx (y := yn6) (z := yn6) hown (mvT hZ (w 121 rfl)) (mvT hZ (w 122 rfl)) (notFace_of_selects (args := #[]) (mvT hZ (w 124 rfl))) (mvT hZ (w 124 rfl)) (mvT hZ (w 123 rfl)) (by decide) (backOf (W := 0) (rm_charAt l Z a0 hw [] xr (4 : Int32) zc tr kr [own_b 34, own_b 92, own_b c0, own_b c1, own_b 34] 4 34 vf T109.heap n0 hZn rfl hOld S_cs hz S_f hf (by decide) (by show Int32.ofNat 4 < Int32.ofNat 5; decide) rfl own_c34 SFr) hZ (w 125 rfl) (w 3 rfl) (by decide) (by decide)) q151a q151c (g := (fl m p1 p2 p3 p4 c0 c1 c2 s0 s1 s2 s3 (.val (.int 2)) (.val (.ref str)) (.val (.ref xr)) (.val (.int 5)) (.val (.int 4)) 314 [(.int 4), (.ref xr)])) rfl (by rw [hml]; rfl) (Steps.refl _) (argsL := [(.int 4)]) (rest := []) (lenOf pd_17 rfl) rfl (by show 2 * 0 + _ ≤ _; exact Nat.le_of_eq rfl) (hb hby at_314) (fun _ _ => ⟨rfl, e148, (by decide : 18 + 0 ≤ _), (by decide : 140 + 0 ≤ _)⟩)
      dsimp only [Pt.U, Pt.locs, Pt.cells, Pt.slots] at X151 l151 y151 z151 st151 hQ151
      subst l151 y151 z151
      obtain ⟨rfl, N151q, e151⟩ := hQ151
      have N151 := Fr.app N148 N151q
      have R152 := Rc.tr R150 st151
      have R153 : Rc p e below A0 (T151.setTop (fl m p1 p2 p3 p4 c0 c1 c2 s0 s1 s2 s3 (.val (.int 2)) (.val (.ref str)) (.val (.ref xr)) (.val (.int 5)) (.val (.int 4)) 327 [(.int 1)])) := by
        intro tgt hgo
        refine R152 tgt ?_
        show Steps p.tables e below (T151.setTop (fl m p1 p2 p3 p4 c0 c1 c2 s0 s1 s2 s3 (.val (.int 2)) (.val (.ref str)) (.val (.ref xr)) (.val (.int 5)) (.val (.int 4)) 317 [(.int 34)])) _
        refine XS.bipush X151.here hx rfl (hb hby at_317) ?_
        refine XS.icmpNo X151.here hx rfl (hb hby at_319) rfl (teq (by decide : (34 : Int32) = (34 : Int32))).2 ?_
        refine XS.iconst X151.here hx rfl (hb hby at_322) ?_
        refine XS.goto X151.here hx rfl (pc0 := 323) (pc' := 327) rfl (hb hby at_323) (by decide) (by decide) ?_
        exact hgo
      subst hA0
      obtain ⟨fs, hr, hrun, hended, hRW⟩ := X151.leaveW hS (by rw [e151]; exact hk) (v := some (.int 1)) (fun h => by rw [Bd.returns] at h; cases h) Bd.notSynchronized
      refine ⟨_, _, R153 _ ?_, hrun, hended, _, _, rfl, ?_, OwnKit.own_fin hRW (by decide) (by decide)⟩
      ·show Steps p.tables e below (T151.setTop (fl m p1 p2 p3 p4 c0 c1 c2 s0 s1 s2 s3 (.val (.int 2)) (.val (.ref str)) (.val (.ref xr)) (.val (.int 5)) (.val (.int 4)) 327 [(.int 1)])) _
       exact retN X151 hx (t := .boolean) Bd.returns (by simp) (hb hby at_327) hr
      ·show Q0 n0 _ T151.heap _
       rw [e151]
       exact ⟨rfl, N151⟩
    ·have R154 : Rc p e below A0 (T109.setTop (fl m p1 p2 p3 p4 c0 c1 c2 s0 s1 s2 s3 (.val (.int 2)) (.val (.ref str)) (.val (.ref xr)) (.val (.int 4)) (.unset) 170 [(.int c0)])) := by
       intro tgt hgo
       refine R111 tgt ?_
       show Steps p.tables e below (T109.setTop (fl m p1 p2 p3 p4 c0 c1 c2 s0 s1 s2 s3 (.val (.int 2)) (.val (.ref str)) (.val (.ref xr)) (.val (.int 4)) (.unset) 168 [])) _
       refine XS.iload X109.here hx rfl (hb hby at_168) rfl ?_
       exact hgo
     obtain ⟨_, _, ⟨T155, L155, k155, n155⟩, -, X155, ⟨Lc155, hQ155, l155, y155, z155⟩, st155⟩ := Jvm.LawKit.callS X109 hx (y := yn28) hown (mvT hZ (w 153 rfl)) (mvT hZ (w 154 rfl)) (mvT hZ (w 155 rfl)) (mvT hZ (w 156 rfl)) (by decide) (backOf (W := 0) (rm_sp l Z a0 hw [] c0 0 T109.heap n0 hZn hs0) hZ (w 156 rfl) (w 155 rfl) (by decide) (by decide)) (g := (fl m p1 p2 p3 p4 c0 c1 c2 s0 s1 s2 s3 (.val (.int 2)) (.val (.ref str)) (.val (.ref xr)) (.val (.int 4)) (.unset) 170 [(.int c0)])) rfl (by rw [hml]; rfl) (argsL := [(.int c0)]) (rest := []) (lenOf pd_10 rfl) rfl (by show 2 * 0 + _ ≤ _; exact Nat.le_of_eq rfl) (hb hby at_170) (fun _ _ => ⟨rfl, rfl, (by decide : 18 + 0 ≤ _), (by decide : 140 + 0 ≤ _)⟩)
     dsimp only [Pt.U, Pt.locs, Pt.cells, Pt.slots] at X155 l155 y155 z155 st155 hQ155
     subst l155 y155 z155
     obtain ⟨rfl, N155q, e155⟩ := hQ155
     have N155 := Fr.app N109 N155q
     have R156 := Rc.st R154 st155
     have R157 : Rc p e below A0 (T155.setTop (fl m p1 p2 p3 p4 c0 c1 c2 s0 s1 s2 s3 (.val (.int 2)) (.val (.ref str)) (.val (.ref xr)) (.val (.int 4)) (.unset) 188 [])) := by
       intro tgt hgo
       refine R156 tgt ?_
       show Steps p.tables e below (T155.setTop (fl m p1 p2 p3 p4 c0 c1 c2 s0 s1 s2 s3 (.val (.int 2)) (.val (.ref str)) (.val (.ref xr)) (.val (.int 4)) (.unset) 173 [(.int 0)])) _
       refine XS.ifYes X155.here hx rfl (pc0 := 173) (pc' := 182) rfl (hb hby at_173) rfl ((if0 _ _).trans (teq (by decide : (0 : Int32) = (0 : Int32))).1) (by decide) (by decide) ?_
       refine XS.iload X155.here hx rfl (hb hby at_182) rfl ?_
       refine XS.iconst X155.here hx rfl (hb hby at_184) ?_
       refine XS.icmpNo X155.here hx rfl (hb hby at_185) rfl (flt (by decide : ¬ ((2 : Int32) < (2 : Int32)))).1 ?_
       exact hgo
     rcases own_sp_cases c1 with ⟨hs1, -⟩ | ⟨hs1, -, -⟩
     ·have R158 : Rc p e below A0 (T155.setTop (fl m p1 p2 p3 p4 c0 c1 c2 s0 s1 s2 s3 (.val (.int 2)) (.val (.ref str)) (.val (.ref xr)) (.val (.int 4)) (.unset) 190 [(.int c1)])) := by
        intro tgt hgo
        refine R157 tgt ?_
        show Steps p.tables e below (T155.setTop (fl m p1 p2 p3 p4 c0 c1 c2 s0 s1 s2 s3 (.val (.int 2)) (.val (.ref str)) (.val (.ref xr)) (.val (.int 4)) (.unset) 188 [])) _
        refine XS.iload X155.here hx rfl (hb hby at_188) rfl ?_
        exact hgo
      obtain ⟨_, _, ⟨T159, L159, k159, n159⟩, -, X159, ⟨Lc159, hQ159, l159, y159, z159⟩, st159⟩ := Jvm.LawKit.callS X155 hx (y := yn28) hown (mvT hZ (w 153 rfl)) (mvT hZ (w 154 rfl)) (mvT hZ (w 155 rfl)) (mvT hZ (w 156 rfl)) (by decide) (backOf (W := 0) (rm_sp l Z a0 hw [] c1 1 T109.heap n0 hZn hs1) hZ (w 156 rfl) (w 155 rfl) (by decide) (by decide)) (g := (fl m p1 p2 p3 p4 c0 c1 c2 s0 s1 s2 s3 (.val (.int 2)) (.val (.ref str)) (.val (.ref xr)) (.val (.int 4)) (.unset) 190 [(.int c1)])) rfl (by rw [hml]; rfl) (argsL := [(.int c1)]) (rest := []) (lenOf pd_10 rfl) rfl (by show 2 * 0 + _ ≤ _; exact Nat.le_of_eq rfl) (hb hby at_190) (fun _ _ => ⟨rfl, e155, (by decide : 18 + 0 ≤ _), (by decide : 140 + 0 ≤ _)⟩)
      dsimp only [Pt.U, Pt.locs, Pt.cells, Pt.slots] at X159 l159 y159 z159 st159 hQ159
      subst l159 y159 z159
      obtain ⟨rfl, N159q, e159⟩ := hQ159
      have N159 := Fr.app N155 N159q
      have R160 := Rc.st R158 st159
      have hq : ((([] ++ [own_b 34]) ++ own_esc c0) ++ own_esc c1) ++ [own_b 34] = [own_b 34, own_b c0, own_b 92, own_b c1, own_b 34] := by simp [own_esc, hs0, hs1]
      rw [hq] at SFr
      have R161 : Rc p e below A0 (T159.setTop (fl m p1 p2 p3 p4 c0 c1 c2 s0 s1 s2 s3 (.val (.int 2)) (.val (.ref str)) (.val (.ref xr)) (.val (.int 5)) (.unset) 224 [(.ref xr)])) := by
        intro tgt hgo
        refine R160 tgt ?_
        show Steps p.tables e below (T159.setTop (fl m p1 p2 p3 p4 c0 c1 c2 s0 s1 s2 s3 (.val (.int 2)) (.val (.ref str)) (.val (.ref xr)) (.val (.int 4)) (.unset) 193 [(.int 1)])) _
        refine XS.ifNo X159.here hx rfl (hb hby at_193) rfl ((if0 _ _).trans (feq (by decide : ¬ ((1 : Int32) = (0 : Int32)))).1) ?_
        refine XS.iload X159.here hx rfl (hb hby at_196) rfl ?_
        refine XS.iconst X159.here hx rfl (hb hby at_198) ?_
        refine XS.iadd X159.here hx rfl (hb hby at_199) rfl ?_
        refine XS.istore X159.here hx rfl (hb hby at_200) rfl (l' := #[.val (.int p1), .val (.int p2), .val (.int p3), .val (.int p4), .val (.int 2), .val (.int c0), .val (.int c1), .val (.int c2), .val (.ref s0), .val (.ref s1), .val (.ref s2), .val (.ref s3), .val (.ref str), .val (.ref xr), .val (.int 5), .unset]) rfl ?_
        refine XS.iload X159.here hx rfl (hb hby at_202) rfl ?_
        refine XS.iconst X159.here hx rfl (hb hby at_204) ?_
        refine XS.icmpYes X159.here hx rfl (pc0 := 205) (pc' := 222) rfl (hb hby at_205) rfl (tlt (by decide : (2 : Int32) < (3 : Int32))).1 (by decide) (by decide) ?_
        refine XS.aload X159.here hx rfl (hb hby at_222) rfl rfl ?_
        exact hgo
      obtain ⟨cq162, kq162, q162a, q162b, q162c⟩ := isOf hZ e159 E_r
      obtain ⟨_, _, ⟨T162, L162, k162, n162⟩, -, X162, ⟨Lc162, hQ162, l162, y162, z162⟩, st162⟩ := X159.virtualBack hx (y := yn1) (z := yn1) hown (mvT hZ (w 120 rfl)) (mvT hZ (w 30 rfl)) (notFace_of_selects (args := #[]) (mvT hZ (w 32 rfl))) (mvT hZ (w 32 rfl)) (mvT hZ (w 31 rfl)) (by decide) (backOf (W := 0) (rm_length l Z a0 hw [] xr zc tr kr [own_b 34, own_b c0, own_b 92, own_b c1, own_b 34] T109.heap n0 hZn hOld S_cs hz SFr) hZ (w 33 rfl) (w 3 rfl) (by decide) (by decide)) q162a q162c (g := (fl m p1 p2 p3 p4 c0 c1 c2 s0 s1 s2 s3 (.val (.int 2)) (.val (.ref str)) (.val (.ref xr)) (.val (.int 5)) (.unset) 224 [(.ref xr)])) rfl (by rw [hml]; rfl) (Steps.refl _) (argsL := []) (rest := []) (lenOf pd_13 rfl) rfl (by show 2 * 0 + _ ≤ _; exact Nat.le_of_eq rfl) (hb hby at_224) (fun _ _ => ⟨rfl, e159, (by decide : 18 + 0 ≤ _), (by decide : 140 + 0 ≤ _)⟩)
      dsimp only [Pt.U, Pt.locs, Pt.cells, Pt.slots] at X162 l162 y162 z162 st162 hQ162
      subst l162 y162 z162
      obtain ⟨rfl, N162q, e162⟩ := hQ162
      have N162 := Fr.app N159 N162q
      have R163 := Rc.tr R161 st162
      have R164 : Rc p e below A0 (T162.setTop (fl m p1 p2 p3 p4 c0 c1 c2 s0 s1 s2 s3 (.val (.int 2)) (.val (.ref str)) (.val (.ref xr)) (.val (.int 5)) (.unset) 237 [(.int 0), (.ref xr)])) := by
        intro tgt hgo
        refine R163 tgt ?_
        show Steps p.tables e below (T162.setTop (fl m p1 p2 p3 p4 c0 c1 c2 s0 s1 s2 s3 (.val (.int 2)) (.val (.ref str)) (.val (.ref xr)) (.val (.int 5)) (.unset) 227 [(.int 5)])) _
        refine XS.iload X162.here hx rfl (hb hby at_227) rfl ?_
        refine XS.icmpYes X162.here hx rfl (pc0 := 229) (pc' := 234) rfl (hb hby at_229) rfl (teq (by decide : (5 : Int32) = (5 : Int32))).1 (by decide) (by decide) ?_
        refine XS.aload X162.here hx rfl (hb hby at_234) rfl rfl ?_
        refine XS.iconst X162.here hx rfl (hb hby at_236) ?_
        exact hgo
      obtain ⟨cq165, kq165, q165a, q165b, q165c⟩ := isOf hZ e162 E_r
      obtain ⟨_, _, ⟨T165, L165, k165, n165⟩, -, X165, ⟨Lc165, hQ165, l165, y165, z165⟩, st165⟩ := X162.virtualBack hx (y := yn6) (z := yn6) hown (mvT hZ (w 121 rfl)) (mvT hZ (w 122 rfl)) (notFace_of_selects (args := #[]) (mvT hZ (w 124 rfl))) (mvT hZ (w 124 rfl)) (mvT hZ (w 123 rfl)) (by decide) (backOf (W := 0) (rm_charAt l Z a0 hw [] xr (0 : Int32) zc tr kr [own_b 34, own_b c0, own_b 92, own_b c1, own_b 34] 0 34 vf T109.heap n0 hZn rfl hOld S_cs hz S_f hf (by decide) (by show Int32.ofNat 0 < Int32.ofNat 5; decide) rfl own_c34 SFr) hZ (w 125 rfl) (w 3 rfl) (by decide) (by decide)) q165a q165c (g := (fl m p1 p2 p3 p4 c0 c1 c2 s0 s1 s2 s3 (.val (.int 2)) (.val (.ref str)) (.val (.ref xr)) (.val (.int 5)) (.unset) 237 [(.int 0), (.ref xr)])) rfl (by rw [hml]; rfl) (Steps.refl _) (argsL := [(.int 0)]) (rest := []) (lenOf pd_17 rfl) rfl (by show 2 * 0 + _ ≤ _; exact Nat.le_of_eq rfl) (hb hby at_237) (fun _ _ => ⟨rfl, e162, (by decide : 18 + 0 ≤ _), (by decide : 140 + 0 ≤ _)⟩)
      dsimp only [Pt.U, Pt.locs, Pt.cells, Pt.slots] at X165 l165 y165 z165 st165 hQ165
      subst l165 y165 z165
      obtain ⟨rfl, N165q, e165⟩ := hQ165
      have N165 := Fr.app N162 N165q
      have R166 := Rc.tr R164 st165
      have R167 : Rc p e below A0 (T165.setTop (fl m p1 p2 p3 p4 c0 c1 c2 s0 s1 s2 s3 (.val (.int 2)) (.val (.ref str)) (.val (.ref xr)) (.val (.int 5)) (.val (.int 1)) 262 [(.int c0), (.int 1), (.ref xr)])) := by
        intro tgt hgo
        refine R166 tgt ?_
        show Steps p.tables e below (T165.setTop (fl m p1 p2 p3 p4 c0 c1 c2 s0 s1 s2 s3 (.val (.int 2)) (.val (.ref str)) (.val (.ref xr)) (.val (.int 5)) (.unset) 240 [(.int 34)])) _
        refine XS.bipush X165.here hx rfl (hb hby at_240) ?_
        refine XS.icmpYes X165.here hx rfl (pc0 := 242) (pc' := 247) rfl (hb hby at_242) rfl (teq (by decide : (34 : Int32) = (34 : Int32))).1 (by decide) (by decide) ?_
        refine XS.iconst X165.here hx rfl (hb hby at_247) ?_
        refine XS.istore X165.here hx rfl (hb hby at_248) rfl (l' := #[.val (.int p1), .val (.int p2), .val (.int p3), .val (.int p4), .val (.int 2), .val (.int c0), .val (.int c1), .val (.int c2), .val (.ref s0), .val (.ref s1), .val (.ref s2), .val (.ref s3), .val (.ref str), .val (.ref xr), .val (.int 5), .val (.int 1)]) rfl ?_
        refine XS.iload X165.here hx rfl (hb hby at_250) rfl ?_
        refine XS.iconst X165.here hx rfl (hb hby at_252) ?_
        refine XS.icmpNo X165.here hx rfl (hb hby at_253) rfl (flt (by decide : ¬ ((2 : Int32) < (1 : Int32)))).1 ?_
        refine XS.aload X165.here hx rfl (hb hby at_256) rfl rfl ?_
        refine XS.iload X165.here hx rfl (hb hby at_258) rfl ?_
        refine XS.iload X165.here hx rfl (hb hby at_260) rfl ?_
        exact hgo
      obtain ⟨_, _, ⟨T168, L168, k168, n168⟩, -, X168, ⟨Lc168, hQ168, l168, y168, z168⟩, st168⟩ := Jvm.LawKit.callS X165 hx (y := yn29) hown (mvT hZ (w 157 rfl)) (mvT hZ (w 158 rfl)) (mvT hZ (w 155 rfl)) (mvT hZ (w 159 rfl)) (by decide) (backOf (W := 0) (rm_step0 l Z a0 hw [] xr (1 : Int32) c0 zc tr kr [own_b 34, own_b c0, own_b 92, own_b c1, own_b 34] 1 vf T109.heap n0 hZn rfl hc0 hs0 hOld S_cs hz S_f hf (by show 5 < 2147483647; decide) (by show 1 < 5; decide) rfl SFr) hZ (w 159 rfl) (w 155 rfl) (by decide) (by decide)) (g := (fl m p1 p2 p3 p4 c0 c1 c2 s0 s1 s2 s3 (.val (.int 2)) (.val (.ref str)) (.val (.ref xr)) (.val (.int 5)) (.val (.int 1)) 262 [(.int c0), (.int 1), (.ref xr)])) rfl (by rw [hml]; rfl) (argsL := [(.ref xr), (.int 1), (.int c0)]) (rest := []) (lenOf pd_23 rfl) rfl (by show 2 * 0 + _ ≤ _; exact Nat.le_of_eq rfl) (hb hby at_262) (fun _ _ => ⟨rfl, e165, (by decide : 18 + 0 ≤ _), (by decide : 140 + 0 ≤ _)⟩)
      dsimp only [Pt.U, Pt.locs, Pt.cells, Pt.slots] at X168 l168 y168 z168 st168 hQ168
      subst l168 y168 z168
      obtain ⟨rfl, N168q, e168⟩ := hQ168
      have N168 := Fr.app N165 N168q
      have R169 := Rc.st R167 st168
      have R170 : Rc p e below A0 (T168.setTop (fl m p1 p2 p3 p4 c0 c1 c2 s0 s1 s2 s3 (.val (.int 2)) (.val (.ref str)) (.val (.ref xr)) (.val (.int 5)) (.val (.int 2)) 279 [(.int c1), (.int 2), (.ref xr)])) := by
        intro tgt hgo
        refine R169 tgt ?_
        show Steps p.tables e below (T168.setTop (fl m p1 p2 p3 p4 c0 c1 c2 s0 s1 s2 s3 (.val (.int 2)) (.val (.ref str)) (.val (.ref xr)) (.val (.int 5)) (.val (.int 1)) 265 [(.int 2)])) _
        refine XS.istore X168.here hx rfl (hb hby at_265) rfl (l' := #[.val (.int p1), .val (.int p2), .val (.int p3), .val (.int p4), .val (.int 2), .val (.int c0), .val (.int c1), .val (.int c2), .val (.ref s0), .val (.ref s1), .val (.ref s2), .val (.ref s3), .val (.ref str), .val (.ref xr), .val (.int 5), .val (.int 2)]) rfl ?_
        refine XS.iload X168.here hx rfl (hb hby at_267) rfl ?_
        refine XS.iconst X168.here hx rfl (hb hby at_269) ?_
        refine XS.icmpNo X168.here hx rfl (hb hby at_270) rfl (flt (by decide : ¬ ((2 : Int32) < (2 : Int32)))).1 ?_
        refine XS.aload X168.here hx rfl (hb hby at_273) rfl rfl ?_
        refine XS.iload X168.here hx rfl (hb hby at_275) rfl ?_
        refine XS.iload X168.here hx rfl (hb hby at_277) rfl ?_
        exact hgo
      obtain ⟨_, _, ⟨T171, L171, k171, n171⟩, -, X171, ⟨Lc171, hQ171, l171, y171, z171⟩, st171⟩ := Jvm.LawKit.callS X168 hx (y := yn29) hown (mvT hZ (w 157 rfl)) (mvT hZ (w 158 rfl)) (mvT hZ (w 155 rfl)) (mvT hZ (w 159 rfl)) (by decide) (backOf (W := 0) (rm_step1 l Z a0 hw [] xr (2 : Int32) c1 zc tr kr [own_b 34, own_b c0, own_b 92, own_b c1, own_b 34] 2 vf T109.heap n0 hZn rfl hc1 hs1 hOld S_cs hz S_f hf (by show 5 < 2147483647; decide) (by show 2 < 5; decide) rfl (by show 3 < 5; decide) rfl SFr) hZ (w 159 rfl) (w 155 rfl) (by decide) (by decide)) (g := (fl m p1 p2 p3 p4 c0 c1 c2 s0 s1 s2 s3 (.val (.int 2)) (.val (.ref str)) (.val (.ref xr)) (.val (.int 5)) (.val (.int 2)) 279 [(.int c1), (.int 2), (.ref xr)])) rfl (by rw [hml]; rfl) (argsL := [(.ref xr), (.int 2), (.int c1)]) (rest := []) (lenOf pd_23 rfl) rfl (by show 2 * 0 + _ ≤ _; exact Nat.le_of_eq rfl) (hb hby at_279) (fun _ _ => ⟨rfl, e168, (by decide : 18 + 0 ≤ _), (by decide : 140 + 0 ≤ _)⟩)
      dsimp only [Pt.U, Pt.locs, Pt.cells, Pt.slots] at X171 l171 y171 z171 st171 hQ171
      subst l171 y171 z171
      obtain ⟨rfl, N171q, e171⟩ := hQ171
      have N171 := Fr.app N168 N171q
      have R172 := Rc.st R170 st171
      have R173 : Rc p e below A0 (T171.setTop (fl m p1 p2 p3 p4 c0 c1 c2 s0 s1 s2 s3 (.val (.int 2)) (.val (.ref str)) (.val (.ref xr)) (.val (.int 5)) (.val (.int 4)) 314 [(.int 4), (.ref xr)])) := by
        intro tgt hgo
        refine R172 tgt ?_
        show Steps p.tables e below (T171.setTop (fl m p1 p2 p3 p4 c0 c1 c2 s0 s1 s2 s3 (.val (.int 2)) (.val (.ref str)) (.val (.ref xr)) (.val (.int 5)) (.val (.int 2)) 282 [(.int 4)])) _
        refine XS.istore X171.here hx rfl (hb hby at_282) rfl (l' := #[.val (.int p1), .val (.int p2), .val (.int p3), .val (.int p4), .val (.int 2), .val (.int c0), .val (.int c1), .val (.int c2), .val (.ref s0), .val (.ref s1), .val (.ref s2), .val (.ref s3), .val (.ref str), .val (.ref xr), .val (.int 5), .val (.int 4)]) rfl ?_
        refine XS.iload X171.here hx rfl (hb hby at_284) rfl ?_
        refine XS.iconst X171.here hx rfl (hb hby at_286) ?_
        refine XS.icmpYes X171.here hx rfl (pc0 := 287) (pc' := 301) rfl (hb hby at_287) rfl (tlt (by decide : (2 : Int32) < (3 : Int32))).1 (by decide) (by decide) ?_
        refine XS.iload X171.here hx rfl (hb hby at_301) rfl ?_
        refine XS.iload X171.here hx rfl (hb hby at_303) rfl ?_
        refine XS.iconst X171.here hx rfl (hb hby at_305) ?_
        refine XS.isub X171.here hx rfl (hb hby at_306) rfl ?_
        refine XS.icmpNo X171.here hx rfl (hb hby at_307) rfl (teq (by decide : (4 : Int32) = (4 : Int32))).2 ?_
        refine XS.aload X171.here hx rfl (hb hby at_310) rfl rfl ?_
        refine XS.iload X171.here hx rfl (hb hby at_312) rfl ?_
        exact hgo
      obtain ⟨cq174, kq174, q174a, q174b, q174c⟩ := isOf hZ e171 E_r
      obtain ⟨_, _, ⟨T174, L174, k174, n174⟩, -, X174, ⟨Lc174, hQ174, l174, y174, z174⟩, st174⟩ := X171.virtualBack hx (y := yn6) (z := yn6) hown (mvT hZ (w 121 rfl)) (mvT hZ (w 122 rfl)) (notFace_of_selects (args := #[]) (mvT hZ (w 124 rfl))) (mvT hZ (w 124 rfl)) (mvT hZ (w 123 rfl)) (by decide) (backOf (W := 0) (rm_charAt l Z a0 hw [] xr (4 : Int32) zc tr kr [own_b 34, own_b c0, own_b 92, own_b c1, own_b 34] 4 34 vf T109.heap n0 hZn rfl hOld S_cs hz S_f hf (by decide) (by show Int32.ofNat 4 < Int32.ofNat 5; decide) rfl own_c34 SFr) hZ (w 125 rfl) (w 3 rfl) (by decide) (by decide)) q174a q174c (g := (fl m p1 p2 p3 p4 c0 c1 c2 s0 s1 s2 s3 (.val (.int 2)) (.val (.ref str)) (.val (.ref xr)) (.val (.int 5)) (.val (.int 4)) 314 [(.int 4), (.ref xr)])) rfl (by rw [hml]; rfl) (Steps.refl _) (argsL := [(.int 4)]) (rest := []) (lenOf pd_17 rfl) rfl (by show 2 * 0 + _ ≤ _; exact Nat.le_of_eq rfl) (hb hby at_314) (fun _ _ => ⟨rfl, e171, (by decide : 18 + 0 ≤ _), (by decide : 140 + 0 ≤ _)⟩)
      dsimp only [Pt.U, Pt.locs, Pt.cells, Pt.slots] at X174 l174 y174 z174 st174 hQ174
      subst l174 y174 z174
      obtain ⟨rfl, N174q, e174⟩ := hQ174
      have N174 := Fr.app N171 N174q
      have R175 := Rc.tr R173 st174
      have R176 : Rc p e below A0 (T174.setTop (fl m p1 p2 p3 p4 c0 c1 c2 s0 s1 s2 s3 (.val (.int 2)) (.val (.ref str)) (.val (.ref xr)) (.val (.int 5)) (.val (.int 4)) 327 [(.int 1)])) := by
        intro tgt hgo
        refine R175 tgt ?_
        show Steps p.tables e below (T174.setTop (fl m p1 p2 p3 p4 c0 c1 c2 s0 s1 s2 s3 (.val (.int 2)) (.val (.ref str)) (.val (.ref xr)) (.val (.int 5)) (.val (.int 4)) 317 [(.int 34)])) _
        refine XS.bipush X174.here hx rfl (hb hby at_317) ?_
        refine XS.icmpNo X174.here hx rfl (hb hby at_319) rfl (teq (by decide : (34 : Int32) = (34 : Int32))).2 ?_
        refine XS.iconst X174.here hx rfl (hb hby at_322) ?_
        refine XS.goto X174.here hx rfl (pc0 := 323) (pc' := 327) rfl (hb hby at_323) (by decide) (by decide) ?_
        exact hgo
      subst hA0
      obtain ⟨fs, hr, hrun, hended, hRW⟩ := X174.leaveW hS (by rw [e174]; exact hk) (v := some (.int 1)) (fun h => by rw [Bd.returns] at h; cases h) Bd.notSynchronized
      refine ⟨_, _, R176 _ ?_, hrun, hended, _, _, rfl, ?_, OwnKit.own_fin hRW (by decide) (by decide)⟩
      ·show Steps p.tables e below (T174.setTop (fl m p1 p2 p3 p4 c0 c1 c2 s0 s1 s2 s3 (.val (.int 2)) (.val (.ref str)) (.val (.ref xr)) (.val (.int 5)) (.val (.int 4)) 327 [(.int 1)])) _
       exact retN X174 hx (t := .boolean) Bd.returns (by simp) (hb hby at_327) hr
      ·show Q0 n0 _ T174.heap _
       rw [e174]
       exact ⟨rfl, N174⟩
     ·have R177 : Rc p e below A0 (T155.setTop (fl m p1 p2 p3 p4 c0 c1 c2 s0 s1 s2 s3 (.val (.int 2)) (.val (.ref str)) (.val (.ref xr)) (.val (.int 4)) (.unset) 190 [(.int c1)])) := by
        intro tgt hgo
        refine R157 tgt ?_
        show Steps p.tables e below (T155.setTop (fl m p1 p2 p3 p4 c0 c1 c2 s0 s1 s2 s3 (.val (.int 2)) (.val (.ref str)) (.val (.ref xr)) (.val (.int 4)) (.unset) 188 [])) _
        refine XS.iload X155.here hx rfl (hb hby at_188) rfl ?_
        exact hgo
      obtain ⟨_, _, ⟨T178, L178, k178, n178⟩, -, X178, ⟨Lc178, hQ178, l178, y178, z178⟩, st178⟩ := Jvm.LawKit.callS X155 hx (y := yn28) hown (mvT hZ (w 153 rfl)) (mvT hZ (w 154 rfl)) (mvT hZ (w 155 rfl)) (mvT hZ (w 156 rfl)) (by decide) (backOf (W := 0) (rm_sp l Z a0 hw [] c1 0 T109.heap n0 hZn hs1) hZ (w 156 rfl) (w 155 rfl) (by decide) (by decide)) (g := (fl m p1 p2 p3 p4 c0 c1 c2 s0 s1 s2 s3 (.val (.int 2)) (.val (.ref str)) (.val (.ref xr)) (.val (.int 4)) (.unset) 190 [(.int c1)])) rfl (by rw [hml]; rfl) (argsL := [(.int c1)]) (rest := []) (lenOf pd_10 rfl) rfl (by show 2 * 0 + _ ≤ _; exact Nat.le_of_eq rfl) (hb hby at_190) (fun _ _ => ⟨rfl, e155, (by decide : 18 + 0 ≤ _), (by decide : 140 + 0 ≤ _)⟩)
      dsimp only [Pt.U, Pt.locs, Pt.cells, Pt.slots] at X178 l178 y178 z178 st178 hQ178
      subst l178 y178 z178
      obtain ⟨rfl, N178q, e178⟩ := hQ178
      have N178 := Fr.app N155 N178q
      have R179 := Rc.st R177 st178
      have hq : ((([] ++ [own_b 34]) ++ own_esc c0) ++ own_esc c1) ++ [own_b 34] = [own_b 34, own_b c0, own_b c1, own_b 34] := by simp [own_esc, hs0, hs1]
      rw [hq] at SFr
      have R180 : Rc p e below A0 (T178.setTop (fl m p1 p2 p3 p4 c0 c1 c2 s0 s1 s2 s3 (.val (.int 2)) (.val (.ref str)) (.val (.ref xr)) (.val (.int 4)) (.unset) 224 [(.ref xr)])) := by
        intro tgt hgo
        refine R179 tgt ?_
        show Steps p.tables e below (T178.setTop (fl m p1 p2 p3 p4 c0 c1 c2 s0 s1 s2 s3 (.val (.int 2)) (.val (.ref str)) (.val (.ref xr)) (.val (.int 4)) (.unset) 193 [(.int 0)])) _
        refine XS.ifYes X178.here hx rfl (pc0 := 193) (pc' := 202) rfl (hb hby at_193) rfl ((if0 _ _).trans (teq (by decide : (0 : Int32) = (0 : Int32))).1) (by decide) (by decide) ?_
        refine XS.iload X178.here hx rfl (hb hby at_202) rfl ?_
        refine XS.iconst X178.here hx rfl (hb hby at_204) ?_
        refine XS.icmpYes X178.here hx rfl (pc0 := 205) (pc' := 222) rfl (hb hby at_205) rfl (tlt (by decide : (2 : Int32) < (3 : Int32))).1 (by decide) (by decide) ?_
        refine XS.aload X178.here hx rfl (hb hby at_222) rfl rfl ?_
        exact hgo
      obtain ⟨cq181, kq181, q181a, q181b, q181c⟩ := isOf hZ e178 E_r
      obtain ⟨_, _, ⟨T181, L181, k181, n181⟩, -, X181, ⟨Lc181, hQ181, l181, y181, z181⟩, st181⟩ := X178.virtualBack hx (y := yn1) (z := yn1) hown (mvT hZ (w 120 rfl)) (mvT hZ (w 30 rfl)) (notFace_of_selects (args := #[]) (mvT hZ (w 32 rfl))) (mvT hZ (w 32 rfl)) (mvT hZ (w 31 rfl)) (by decide) (backOf (W := 0) (rm_length l Z a0 hw [] xr zc tr kr [own_b 34, own_b c0, own_b c1, own_b 34] T109.heap n0 hZn hOld S_cs hz SFr) hZ (w 33 rfl) (w 3 rfl) (by decide) (by decide)) q181a q181c (g := (fl m p1 p2 p3 p4 c0 c1 c2 s0 s1 s2 s3 (.val (.int 2)) (.val (.ref str)) (.val (.ref xr)) (.val (.int 4)) (.unset) 224 [(.ref xr)])) rfl (by rw [hml]; rfl) (Steps.refl _) (argsL := []) (rest := []) (lenOf pd_13 rfl) rfl (by show 2 * 0 + _ ≤ _; exact Nat.le_of_eq rfl) (hb hby at_224) (fun _ _ => ⟨rfl, e178, (by decide : 18 + 0 ≤ _), (by decide : 140 + 0 ≤ _)⟩)
      dsimp only [Pt.U, Pt.locs, Pt.cells, Pt.slots] at X181 l181 y181 z181 st181 hQ181
      subst l181 y181 z181
      obtain ⟨rfl, N181q, e181⟩ := hQ181
      have N181 := Fr.app N178 N181q
      have R182 := Rc.tr R180 st181
      have R183 : Rc p e below A0 (T181.setTop (fl m p1 p2 p3 p4 c0 c1 c2 s0 s1 s2 s3 (.val (.int 2)) (.val (.ref str)) (.val (.ref xr)) (.val (.int 4)) (.unset) 237 [(.int 0), (.ref xr)])) := by
        intro tgt hgo
        refine R182 tgt ?_
        show Steps p.tables e below (T181.setTop (fl m p1 p2 p3 p4 c0 c1 c2 s0 s1 s2 s3 (.val (.int 2)) (.val (.ref str)) (.val (.ref xr)) (.val (.int 4)) (.unset) 227 [(.int 4)])) _
        refine XS.iload X181.here hx rfl (hb hby at_227) rfl ?_
        refine XS.icmpYes X181.here hx rfl (pc0 := 229) (pc' := 234) rfl (hb hby at_229) rfl (teq (by decide : (4 : Int32) = (4 : Int32))).1 (by decide) (by decide) ?_
        refine XS.aload X181.here hx rfl (hb hby at_234) rfl rfl ?_
        refine XS.iconst X181.here hx rfl (hb hby at_236) ?_
        exact hgo
      obtain ⟨cq184, kq184, q184a, q184b, q184c⟩ := isOf hZ e181 E_r
      obtain ⟨_, _, ⟨T184, L184, k184, n184⟩, -, X184, ⟨Lc184, hQ184, l184, y184, z184⟩, st184⟩ := X181.virtualBack hx (y := yn6) (z := yn6) hown (mvT hZ (w 121 rfl)) (mvT hZ (w 122 rfl)) (notFace_of_selects (args := #[]) (mvT hZ (w 124 rfl))) (mvT hZ (w 124 rfl)) (mvT hZ (w 123 rfl)) (by decide) (backOf (W := 0) (rm_charAt l Z a0 hw [] xr (0 : Int32) zc tr kr [own_b 34, own_b c0, own_b c1, own_b 34] 0 34 vf T109.heap n0 hZn rfl hOld S_cs hz S_f hf (by decide) (by show Int32.ofNat 0 < Int32.ofNat 4; decide) rfl own_c34 SFr) hZ (w 125 rfl) (w 3 rfl) (by decide) (by decide)) q184a q184c (g := (fl m p1 p2 p3 p4 c0 c1 c2 s0 s1 s2 s3 (.val (.int 2)) (.val (.ref str)) (.val (.ref xr)) (.val (.int 4)) (.unset) 237 [(.int 0), (.ref xr)])) rfl (by rw [hml]; rfl) (Steps.refl _) (argsL := [(.int 0)]) (rest := []) (lenOf pd_17 rfl) rfl (by show 2 * 0 + _ ≤ _; exact Nat.le_of_eq rfl) (hb hby at_237) (fun _ _ => ⟨rfl, e181, (by decide : 18 + 0 ≤ _), (by decide : 140 + 0 ≤ _)⟩)
      dsimp only [Pt.U, Pt.locs, Pt.cells, Pt.slots] at X184 l184 y184 z184 st184 hQ184
      subst l184 y184 z184
      obtain ⟨rfl, N184q, e184⟩ := hQ184
      have N184 := Fr.app N181 N184q
      have R185 := Rc.tr R183 st184
      have R186 : Rc p e below A0 (T184.setTop (fl m p1 p2 p3 p4 c0 c1 c2 s0 s1 s2 s3 (.val (.int 2)) (.val (.ref str)) (.val (.ref xr)) (.val (.int 4)) (.val (.int 1)) 262 [(.int c0), (.int 1), (.ref xr)])) := by
        intro tgt hgo
        refine R185 tgt ?_
        show Steps p.tables e below (T184.setTop (fl m p1 p2 p3 p4 c0 c1 c2 s0 s1 s2 s3 (.val (.int 2)) (.val (.ref str)) (.val (.ref xr)) (.val (.int 4)) (.unset) 240 [(.int 34)])) _
        refine XS.bipush X184.here hx rfl (hb hby at_240) ?_
        refine XS.icmpYes X184.here hx rfl (pc0 := 242) (pc' := 247) rfl (hb hby at_242) rfl (teq (by decide : (34 : Int32) = (34 : Int32))).1 (by decide) (by decide) ?_
        refine XS.iconst X184.here hx rfl (hb hby at_247) ?_
        refine XS.istore X184.here hx rfl (hb hby at_248) rfl (l' := #[.val (.int p1), .val (.int p2), .val (.int p3), .val (.int p4), .val (.int 2), .val (.int c0), .val (.int c1), .val (.int c2), .val (.ref s0), .val (.ref s1), .val (.ref s2), .val (.ref s3), .val (.ref str), .val (.ref xr), .val (.int 4), .val (.int 1)]) rfl ?_
        refine XS.iload X184.here hx rfl (hb hby at_250) rfl ?_
        refine XS.iconst X184.here hx rfl (hb hby at_252) ?_
        refine XS.icmpNo X184.here hx rfl (hb hby at_253) rfl (flt (by decide : ¬ ((2 : Int32) < (1 : Int32)))).1 ?_
        refine XS.aload X184.here hx rfl (hb hby at_256) rfl rfl ?_
        refine XS.iload X184.here hx rfl (hb hby at_258) rfl ?_
        refine XS.iload X184.here hx rfl (hb hby at_260) rfl ?_
        exact hgo
      obtain ⟨_, _, ⟨T187, L187, k187, n187⟩, -, X187, ⟨Lc187, hQ187, l187, y187, z187⟩, st187⟩ := Jvm.LawKit.callS X184 hx (y := yn29) hown (mvT hZ (w 157 rfl)) (mvT hZ (w 158 rfl)) (mvT hZ (w 155 rfl)) (mvT hZ (w 159 rfl)) (by decide) (backOf (W := 0) (rm_step0 l Z a0 hw [] xr (1 : Int32) c0 zc tr kr [own_b 34, own_b c0, own_b c1, own_b 34] 1 vf T109.heap n0 hZn rfl hc0 hs0 hOld S_cs hz S_f hf (by show 4 < 2147483647; decide) (by show 1 < 4; decide) rfl SFr) hZ (w 159 rfl) (w 155 rfl) (by decide) (by decide)) (g := (fl m p1 p2 p3 p4 c0 c1 c2 s0 s1 s2 s3 (.val (.int 2)) (.val (.ref str)) (.val (.ref xr)) (.val (.int 4)) (.val (.int 1)) 262 [(.int c0), (.int 1), (.ref xr)])) rfl (by rw [hml]; rfl) (argsL := [(.ref xr), (.int 1), (.int c0)]) (rest := []) (lenOf pd_23 rfl) rfl (by show 2 * 0 + _ ≤ _; exact Nat.le_of_eq rfl) (hb hby at_262) (fun _ _ => ⟨rfl, e184, (by decide : 18 + 0 ≤ _), (by decide : 140 + 0 ≤ _)⟩)
      dsimp only [Pt.U, Pt.locs, Pt.cells, Pt.slots] at X187 l187 y187 z187 st187 hQ187
      subst l187 y187 z187
      obtain ⟨rfl, N187q, e187⟩ := hQ187
      have N187 := Fr.app N184 N187q
      have R188 := Rc.st R186 st187
      have R189 : Rc p e below A0 (T187.setTop (fl m p1 p2 p3 p4 c0 c1 c2 s0 s1 s2 s3 (.val (.int 2)) (.val (.ref str)) (.val (.ref xr)) (.val (.int 4)) (.val (.int 2)) 279 [(.int c1), (.int 2), (.ref xr)])) := by
        intro tgt hgo
        refine R188 tgt ?_
        show Steps p.tables e below (T187.setTop (fl m p1 p2 p3 p4 c0 c1 c2 s0 s1 s2 s3 (.val (.int 2)) (.val (.ref str)) (.val (.ref xr)) (.val (.int 4)) (.val (.int 1)) 265 [(.int 2)])) _
        refine XS.istore X187.here hx rfl (hb hby at_265) rfl (l' := #[.val (.int p1), .val (.int p2), .val (.int p3), .val (.int p4), .val (.int 2), .val (.int c0), .val (.int c1), .val (.int c2), .val (.ref s0), .val (.ref s1), .val (.ref s2), .val (.ref s3), .val (.ref str), .val (.ref xr), .val (.int 4), .val (.int 2)]) rfl ?_
        refine XS.iload X187.here hx rfl (hb hby at_267) rfl ?_
        refine XS.iconst X187.here hx rfl (hb hby at_269) ?_
        refine XS.icmpNo X187.here hx rfl (hb hby at_270) rfl (flt (by decide : ¬ ((2 : Int32) < (2 : Int32)))).1 ?_
        refine XS.aload X187.here hx rfl (hb hby at_273) rfl rfl ?_
        refine XS.iload X187.here hx rfl (hb hby at_275) rfl ?_
        refine XS.iload X187.here hx rfl (hb hby at_277) rfl ?_
        exact hgo
      obtain ⟨_, _, ⟨T190, L190, k190, n190⟩, -, X190, ⟨Lc190, hQ190, l190, y190, z190⟩, st190⟩ := Jvm.LawKit.callS X187 hx (y := yn29) hown (mvT hZ (w 157 rfl)) (mvT hZ (w 158 rfl)) (mvT hZ (w 155 rfl)) (mvT hZ (w 159 rfl)) (by decide) (backOf (W := 0) (rm_step0 l Z a0 hw [] xr (2 : Int32) c1 zc tr kr [own_b 34, own_b c0, own_b c1, own_b 34] 2 vf T109.heap n0 hZn rfl hc1 hs1 hOld S_cs hz S_f hf (by show 4 < 2147483647; decide) (by show 2 < 4; decide) rfl SFr) hZ (w 159 rfl) (w 155 rfl) (by decide) (by decide)) (g := (fl m p1 p2 p3 p4 c0 c1 c2 s0 s1 s2 s3 (.val (.int 2)) (.val (.ref str)) (.val (.ref xr)) (.val (.int 4)) (.val (.int 2)) 279 [(.int c1), (.int 2), (.ref xr)])) rfl (by rw [hml]; rfl) (argsL := [(.ref xr), (.int 2), (.int c1)]) (rest := []) (lenOf pd_23 rfl) rfl (by show 2 * 0 + _ ≤ _; exact Nat.le_of_eq rfl) (hb hby at_279) (fun _ _ => ⟨rfl, e187, (by decide : 18 + 0 ≤ _), (by decide : 140 + 0 ≤ _)⟩)
      dsimp only [Pt.U, Pt.locs, Pt.cells, Pt.slots] at X190 l190 y190 z190 st190 hQ190
      subst l190 y190 z190
      obtain ⟨rfl, N190q, e190⟩ := hQ190
      have N190 := Fr.app N187 N190q
      have R191 := Rc.st R189 st190
      have R192 : Rc p e below A0 (T190.setTop (fl m p1 p2 p3 p4 c0 c1 c2 s0 s1 s2 s3 (.val (.int 2)) (.val (.ref str)) (.val (.ref xr)) (.val (.int 4)) (.val (.int 3)) 314 [(.int 3), (.ref xr)])) := by
        intro tgt hgo
        refine R191 tgt ?_
        show Steps p.tables e below (T190.setTop (fl m p1 p2 p3 p4 c0 c1 c2 s0 s1 s2 s3 (.val (.int 2)) (.val (.ref str)) (.val (.ref xr)) (.val (.int 4)) (.val (.int 2)) 282 [(.int 3)])) _
        refine XS.istore X190.here hx rfl (hb hby at_282) rfl (l' := #[.val (.int p1), .val (.int p2), .val (.int p3), .val (.int p4), .val (.int 2), .val (.int c0), .val (.int c1), .val (.int c2), .val (.ref s0), .val (.ref s1), .val (.ref s2), .val (.ref s3), .val (.ref str), .val (.ref xr), .val (.int 4), .val (.int 3)]) rfl ?_
        refine XS.iload X190.here hx rfl (hb hby at_284) rfl ?_
        refine XS.iconst X190.here hx rfl (hb hby at_286) ?_
        refine XS.icmpYes X190.here hx rfl (pc0 := 287) (pc' := 301) rfl (hb hby at_287) rfl (tlt (by decide : (2 : Int32) < (3 : Int32))).1 (by decide) (by decide) ?_
        refine XS.iload X190.here hx rfl (hb hby at_301) rfl ?_
        refine XS.iload X190.here hx rfl (hb hby at_303) rfl ?_
        refine XS.iconst X190.here hx rfl (hb hby at_305) ?_
        refine XS.isub X190.here hx rfl (hb hby at_306) rfl ?_
        refine XS.icmpNo X190.here hx rfl (hb hby at_307) rfl (teq (by decide : (3 : Int32) = (3 : Int32))).2 ?_
        refine XS.aload X190.here hx rfl (hb hby at_310) rfl rfl ?_
        refine XS.iload X190.here hx rfl (hb hby at_312) rfl ?_
        exact hgo
      obtain ⟨cq193, kq193, q193a, q193b, q193c⟩ := isOf hZ e190 E_r
      obtain ⟨_, _, ⟨T193, L193, k193, n193⟩, -, X193, ⟨Lc193, hQ193, l193, y193, z193⟩, st193⟩ := X190.virtualBack hx (y := yn6) (z := yn6) hown (mvT hZ (w 121 rfl)) (mvT hZ (w 122 rfl)) (notFace_of_selects (args := #[]) (mvT hZ (w 124 rfl))) (mvT hZ (w 124 rfl)) (mvT hZ (w 123 rfl)) (by decide) (backOf (W := 0) (rm_charAt l Z a0 hw [] xr (3 : Int32) zc tr kr [own_b 34, own_b c0, own_b c1, own_b 34] 3 34 vf T109.heap n0 hZn rfl hOld S_cs hz S_f hf (by decide) (by show Int32.ofNat 3 < Int32.ofNat 4; decide) rfl own_c34 SFr) hZ (w 125 rfl) (w 3 rfl) (by decide) (by decide)) q193a q193c (g := (fl m p1 p2 p3 p4 c0 c1 c2 s0 s1 s2 s3 (.val (.int 2)) (.val (.ref str)) (.val (.ref xr)) (.val (.int 4)) (.val (.int 3)) 314 [(.int 3), (.ref xr)])) rfl (by rw [hml]; rfl) (Steps.refl _) (argsL := [(.int 3)]) (rest := []) (lenOf pd_17 rfl) rfl (by show 2 * 0 + _ ≤ _; exact Nat.le_of_eq rfl) (hb hby at_314) (fun _ _ => ⟨rfl, e190, (by decide : 18 + 0 ≤ _), (by decide : 140 + 0 ≤ _)⟩)
      dsimp only [Pt.U, Pt.locs, Pt.cells, Pt.slots] at X193 l193 y193 z193 st193 hQ193
      subst l193 y193 z193
      obtain ⟨rfl, N193q, e193⟩ := hQ193
      have N193 := Fr.app N190 N193q
      have R194 := Rc.tr R192 st193
      have R195 : Rc p e below A0 (T193.setTop (fl m p1 p2 p3 p4 c0 c1 c2 s0 s1 s2 s3 (.val (.int 2)) (.val (.ref str)) (.val (.ref xr)) (.val (.int 4)) (.val (.int 3)) 327 [(.int 1)])) := by
        intro tgt hgo
        refine R194 tgt ?_
        show Steps p.tables e below (T193.setTop (fl m p1 p2 p3 p4 c0 c1 c2 s0 s1 s2 s3 (.val (.int 2)) (.val (.ref str)) (.val (.ref xr)) (.val (.int 4)) (.val (.int 3)) 317 [(.int 34)])) _
        refine XS.bipush X193.here hx rfl (hb hby at_317) ?_
        refine XS.icmpNo X193.here hx rfl (hb hby at_319) rfl (teq (by decide : (34 : Int32) = (34 : Int32))).2 ?_
        refine XS.iconst X193.here hx rfl (hb hby at_322) ?_
        refine XS.goto X193.here hx rfl (pc0 := 323) (pc' := 327) rfl (hb hby at_323) (by decide) (by decide) ?_
        exact hgo
      subst hA0
      obtain ⟨fs, hr, hrun, hended, hRW⟩ := X193.leaveW hS (by rw [e193]; exact hk) (v := some (.int 1)) (fun h => by rw [Bd.returns] at h; cases h) Bd.notSynchronized
      refine ⟨_, _, R195 _ ?_, hrun, hended, _, _, rfl, ?_, OwnKit.own_fin hRW (by decide) (by decide)⟩
      ·show Steps p.tables e below (T193.setTop (fl m p1 p2 p3 p4 c0 c1 c2 s0 s1 s2 s3 (.val (.int 2)) (.val (.ref str)) (.val (.ref xr)) (.val (.int 4)) (.val (.int 3)) 327 [(.int 1)])) _
       exact retN X193 hx (t := .boolean) Bd.returns (by simp) (hb hby at_327) hr
      ·show Q0 n0 _ T193.heap _
       rw [e193]
       exact ⟨rfl, N193⟩
   ·have R196 : Rc p e below A0 (T33.setTop (fl m p1 p2 p3 p4 c0 c1 c2 s0 s1 s2 s3 (.val (.int ln)) (.unset) (.unset) (.unset) (.unset) 138 [])) := by
      intro tgt hgo
      refine R101 tgt ?_
      show Steps p.tables e below (T33.setTop (fl m p1 p2 p3 p4 c0 c1 c2 s0 s1 s2 s3 (.val (.int ln)) (.unset) (.unset) (.unset) (.unset) 121 [(.int 2), (.int ln)])) _
      refine XS.icmpYes X33.here hx rfl (pc0 := 121) (pc' := 138) rfl (hb hby at_121) rfl (feq hc121_100).2 (by decide) (by decide) ?_
      exact hgo
    rw [(own_ln3 p1 ln e_ln hc81_35 hc101_56 hc121_100 : ln = (3 : Int32))] at R196
    obtain ⟨T197, h197, X197, e197, E197, A197, D197, -, st197⟩ := newO X33 hx hZ hown (w 1 rfl) (w 2 rfl) (w 3 rfl) e33 (g := (fl m p1 p2 p3 p4 c0 c1 c2 s0 s1 s2 s3 (.val (.int 3)) (.unset) (.unset) (.unset) (.unset) 138 [])) rfl (hb hby at_138) (by decide) (by decide)
    obtain ⟨str, g197⟩ : ∃ z, z = h33.size := ⟨_, rfl⟩
    rw [← g197] at A197 D197 st197
    have ne_s0_str : s0 ≠ str := Nat.ne_of_lt (Nat.lt_of_lt_of_le V_s0.lt (Nat.le_of_eq g197.symm))
    have ne_s1_str : s1 ≠ str := Nat.ne_of_lt (Nat.lt_of_lt_of_le V_s1.lt (Nat.le_of_eq g197.symm))
    have ne_s2_str : s2 ≠ str := Nat.ne_of_lt (Nat.lt_of_lt_of_le V_s2.lt (Nat.le_of_eq g197.symm))
    have ne_s3_str : s3 ≠ str := Nat.ne_of_lt (Nat.lt_of_lt_of_le V_s3.lt (Nat.le_of_eq g197.symm))
    have ge_str : n0 ≤ str := Nat.le_trans hZn (Nat.le_of_eq g197.symm)
    have sz_str : h0.size ≤ str := Nat.le_trans hK.1 (Nat.le_of_eq g197.symm)
    replace hCH := hCH.ext E197
    replace hk := Nat.le_trans hk E197.1
    replace hZn := Nat.le_trans hZn E197.1
    replace hK := hK.ext E197
    replace hOld := hOld.ext E197
    replace V_s0 := V_s0.ext E197
    replace V_s1 := V_s1.ext E197
    replace V_s2 := V_s2.ext E197
    replace V_s3 := V_s3.ext E197
    have E_str := A197
    have F_value_str : Fld Z h197 str "java/lang/String" "value" "[B" .null := D197 (Or.inr (w 16 rfl)) (ty := (.array .byte)) (by decide)
    have F_coder_str : Fld Z h197 str "java/lang/String" "coder" "B" (.int 0) := D197 (Or.inr (w 17 rfl)) (ty := .byte) (by decide)
    have R198 := Rc.st R196 st197
    have R199 : Rc p e below A0 (T197.setTop (fl m p1 p2 p3 p4 c0 c1 c2 s0 s1 s2 s3 (.val (.int 3)) (.unset) (.unset) (.unset) (.unset) 144 [(.ref s3), (.ref str), (.ref str)])) := by
      intro tgt hgo
      refine R198 tgt ?_
      show Steps p.tables e below (T197.setTop (fl m p1 p2 p3 p4 c0 c1 c2 s0 s1 s2 s3 (.val (.int 3)) (.unset) (.unset) (.unset) (.unset) 141 [(.ref str)])) _
      refine XS.dup X197.here hx rfl (hb hby at_141) rfl rfl ?_
      refine XS.aload X197.here hx rfl (hb hby at_142) rfl rfl ?_
      exact hgo
    have hlat : ∀ c ∈ [c0, c1, c2], ¬ c < 0 ∧ ¬ (255 : Int32) < c := by
      intro c hc
      simp only [List.mem_cons, List.not_mem_nil, or_false] at hc
      rcases hc with rfl | rfl | rfl
      · exact own_lat hc0
      · exact own_lat hc1
      · exact own_lat hc2
    obtain ⟨_, _, ⟨T200, L200, k200, n200⟩, -, X200, ⟨Lc200, hQ200, l200, y200, z200⟩, st200⟩ := X197.specialBack hx (y := yn32) rfl hown (mvT hZ (w 4 rfl)) (mvT hZ (w 5 rfl)) (mvT hZ (w 6 rfl)) (by decide) (StrChars.Road.backV (W := 1) hZ hws (kI := 4) (w 2 rfl) (cs := [c0, c1, c2]) (bs := [own_b c0, own_b c1, own_b c2]) (n := 3) ge_str hZn E_str F_value_str F_coder_str V_s3 (S_cs.ext hOld.2) hz rfl rfl (by decide) (by decide) hlat rfl (by decide) (by decide)) (g := (fl m p1 p2 p3 p4 c0 c1 c2 s0 s1 s2 s3 (.val (.int 3)) (.unset) (.unset) (.unset) (.unset) 144 [(.ref s3), (.ref str), (.ref str)])) rfl (by rw [hml]; rfl) (Steps.refl _) (a := str) (argsL := [(.ref s3)]) (rest := [(.ref str)]) (lenOf pd_21 rfl) rfl (by show 2 * 0 + _ ≤ _; exact Nat.le_of_eq rfl) (hb hby at_144) (fun _ _ => ⟨rfl, e197, (by decide : 5 + 1 ≤ _), (by decide : 10 + 3 ≤ _)⟩)
    dsimp only [Pt.U, Pt.locs, Pt.cells, Pt.slots] at X200 l200 y200 z200 st200 hQ200
    subst l200 y200 z200
    obtain ⟨rfl, N200q, K200, g200a, g200b, tb, kb, g200c, g200d, g200e, g200f, g200g⟩ := hQ200
    have N200 := Fr.app N33 N200q
    have R201 := Rc.tr R199 st200
    replace hk := Nat.le_trans hk K200.1
    replace hZn := Nat.le_trans hZn K200.1
    replace hK := hK.trans K200 (allS (Or.inr sz_str) all0)
    replace hOld := hOld.keep K200 (allS ge_str all0)
    replace V_s0 := V_s0.keep K200 (ninS ne_s0_str nin0)
    replace V_s1 := V_s1.keep K200 (ninS ne_s1_str nin0)
    replace V_s2 := V_s2.keep K200 (ninS ne_s2_str nin0)
    replace V_s3 := V_s3.keep K200 (ninS ne_s3_str nin0)
    replace E_str := E_str.keep K200
    have DSt : StrF Z T200.heap str tb kb [own_b c0, own_b c1, own_b c2] := ⟨g200a, g200b, g200f, g200g⟩
    have R202 : Rc p e below A0 (T200.setTop (fl m p1 p2 p3 p4 c0 c1 c2 s0 s1 s2 s3 (.val (.int 3)) (.val (.ref str)) (.unset) (.unset) (.unset) 151 [(.ref str)])) := by
      intro tgt hgo
      refine R201 tgt ?_
      show Steps p.tables e below (T200.setTop (fl m p1 p2 p3 p4 c0 c1 c2 s0 s1 s2 s3 (.val (.int 3)) (.unset) (.unset) (.unset) (.unset) 147 [(.ref str)])) _
      refine XS.astore X200.here hx rfl (hb hby at_147) rfl rfl (l' := #[.val (.int p1), .val (.int p2), .val (.int p3), .val (.int p4), .val (.int 3), .val (.int c0), .val (.int c1), .val (.int c2), .val (.ref s0), .val (.ref s1), .val (.ref s2), .val (.ref s3), .val (.ref str), .unset, .unset, .unset]) rfl ?_
      refine XS.aload X200.here hx rfl (hb hby at_149) rfl rfl ?_
      exact hgo
    obtain ⟨_, _, ⟨T203, L203, k203, n203⟩, -, X203, ⟨Lc203, hQ203, l203, y203, z203⟩, st203⟩ := Jvm.LawKit.callS X200 hx (y := yn30) hown (mvT hZ (w 22 rfl)) (mvT hZ (w 23 rfl)) (mvT hZ (w 24 rfl)) (mvT hZ (w 25 rfl)) (by decide) (backOf (W := 0) (rm_quote3 l Z a0 hw [] str c0 c1 c2 zc tb kb vf T200.heap n0 hZn hOld S_cs hz S_f hf hc0 hc1 hc2 DSt) hZ (w 25 rfl) (w 24 rfl) (by decide) (by decide)) (g := (fl m p1 p2 p3 p4 c0 c1 c2 s0 s1 s2 s3 (.val (.int 3)) (.val (.ref str)) (.unset) (.unset) (.unset) 151 [(.ref str)])) rfl (by rw [hml]; rfl) (argsL := [(.ref str)]) (rest := []) (lenOf pd_22 rfl) rfl (by show 2 * 0 + _ ≤ _; exact Nat.le_of_eq rfl) (hb hby at_151) (fun _ _ => ⟨rfl, rfl, (by decide : 6 + 12 ≤ _), (by decide : 13 + 128 ≤ _)⟩)
    dsimp only [Pt.U, Pt.locs, Pt.cells, Pt.slots] at X203 l203 y203 z203 st203 hQ203
    subst l203 y203 z203
    obtain ⟨⟨xr, rfl, tr, kr, szr, SFr⟩, N203q, K203⟩ := hQ203
    have N203 := Fr.app N200 N203q
    have R204 := Rc.st R202 st203
    replace hZn := Nat.le_trans hZn K203.1
    replace hOld := hOld.keep K203 all0
    replace hk := Nat.le_trans hk K203.1
    have E_r := SFr.1
    have R205 : Rc p e below A0 (T203.setTop (fl m p1 p2 p3 p4 c0 c1 c2 s0 s1 s2 s3 (.val (.int 3)) (.val (.ref str)) (.val (.ref xr)) (.val (.int 5)) (.unset) 168 [])) := by
      intro tgt hgo
      refine R204 tgt ?_
      show Steps p.tables e below (T203.setTop (fl m p1 p2 p3 p4 c0 c1 c2 s0 s1 s2 s3 (.val (.int 3)) (.val (.ref str)) (.unset) (.unset) (.unset) 154 [(.ref xr)])) _
      refine XS.astore X203.here hx rfl (hb hby at_154) rfl rfl (l' := #[.val (.int p1), .val (.int p2), .val (.int p3), .val (.int p4), .val (.int 3), .val (.int c0), .val (.int c1), .val (.int c2), .val (.ref s0), .val (.ref s1), .val (.ref s2), .val (.ref s3), .val (.ref str), .val (.ref xr), .unset, .unset]) rfl ?_
      refine XS.iconst X203.here hx rfl (hb hby at_156) ?_
      refine XS.iload X203.here hx rfl (hb hby at_157) rfl ?_
      refine XS.iadd X203.here hx rfl (hb hby at_159) rfl ?_
      refine XS.istore X203.here hx rfl (hb hby at_160) rfl (l' := #[.val (.int p1), .val (.int p2), .val (.int p3), .val (.int p4), .val (.int 3), .val (.int c0), .val (.int c1), .val (.int c2), .val (.ref s0), .val (.ref s1), .val (.ref s2), .val (.ref s3), .val (.ref str), .val (.ref xr), .val (.int 5), .unset]) rfl ?_
      refine XS.iload X203.here hx rfl (hb hby at_162) rfl ?_
      refine XS.iconst X203.here hx rfl (hb hby at_164) ?_
      refine XS.icmpNo X203.here hx rfl (hb hby at_165) rfl (flt (by decide : ¬ ((3 : Int32) < (1 : Int32)))).1 ?_
      exact hgo
    rcases own_sp_cases c0 with ⟨hs0, -⟩ | ⟨hs0, -, -⟩
    ·have R206 : Rc p e below A0 (T203.setTop (fl m p1 p2 p3 p4 c0 c1 c2 s0 s1 s2 s3 (.val (.int 3)) (.val (.ref str)) (.val (.ref xr)) (.val (.int 5)) (.unset) 170 [(.int c0)])) := by
       intro tgt hgo
       refine R205 tgt ?_
       show Steps p.tables e below (T203.setTop (fl m p1 p2 p3 p4 c0 c1 c2 s0 s1 s2 s3 (.val (.int 3)) (.val (.ref str)) (.val (.ref xr)) (.val (.int 5)) (.unset) 168 [])) _
       refine XS.iload X203.here hx rfl (hb hby at_168) rfl ?_
       exact hgo
     obtain ⟨_, _, ⟨T207, L207, k207, n207⟩, -, X207, ⟨Lc207, hQ207, l207, y207, z207⟩, st207⟩ := Jvm.LawKit.callS X203 hx (y := yn28) hown (mvT hZ (w 153 rfl)) (mvT hZ (w 154 rfl)) (mvT hZ (w 155 rfl)) (mvT hZ (w 156 rfl)) (by decide) (backOf (W := 0) (rm_sp l Z a0 hw [] c0 1 T203.heap n0 hZn hs0) hZ (w 156 rfl) (w 155 rfl) (by decide) (by decide)) (g := (fl m p1 p2 p3 p4 c0 c1 c2 s0 s1 s2 s3 (.val (.int 3)) (.val (.ref str)) (.val (.ref xr)) (.val (.int 5)) (.unset) 170 [(.int c0)])) rfl (by rw [hml]; rfl) (argsL := [(.int c0)]) (rest := []) (lenOf pd_10 rfl) rfl (by show 2 * 0 + _ ≤ _; exact Nat.le_of_eq rfl) (hb hby at_170) (fun _ _ => ⟨rfl, rfl, (by decide : 18 + 0 ≤ _), (by decide : 141 + 0 ≤ _)⟩)
     dsimp only [Pt.U, Pt.locs, Pt.cells, Pt.slots] at X207 l207 y207 z207 st207 hQ207
     subst l207 y207 z207
     obtain ⟨rfl, N207q, e207⟩ := hQ207
     have N207 := Fr.app N203 N207q
     have R208 := Rc.st R206 st207
     have R209 : Rc p e below A0 (T207.setTop (fl m p1 p2 p3 p4 c0 c1 c2 s0 s1 s2 s3 (.val (.int 3)) (.val (.ref str)) (.val (.ref xr)) (.val (.int 6)) (.unset) 188 [])) := by
       intro tgt hgo
       refine R208 tgt ?_
       show Steps p.tables e below (T207.setTop (fl m p1 p2 p3 p4 c0 c1 c2 s0 s1 s2 s3 (.val (.int 3)) (.val (.ref str)) (.val (.ref xr)) (.val (.int 5)) (.unset) 173 [(.int 1)])) _
       refine XS.ifNo X207.here hx rfl (hb hby at_173) rfl ((if0 _ _).trans (feq (by decide : ¬ ((1 : Int32) = (0 : Int32)))).1) ?_
       refine XS.iload X207.here hx rfl (hb hby at_176) rfl ?_
       refine XS.iconst X207.here hx rfl (hb hby at_178) ?_
       refine XS.iadd X207.here hx rfl (hb hby at_179) rfl ?_
       refine XS.istore X207.here hx rfl (hb hby at_180) rfl (l' := #[.val (.int p1), .val (.int p2), .val (.int p3), .val (.int p4), .val (.int 3), .val (.int c0), .val (.int c1), .val (.int c2), .val (.ref s0), .val (.ref s1), .val (.ref s2), .val (.ref s3), .val (.ref str), .val (.ref xr), .val (.int 6), .unset]) rfl ?_
       refine XS.iload X207.here hx rfl (hb hby at_182) rfl ?_
       refine XS.iconst X207.here hx rfl (hb hby at_184) ?_
       refine XS.icmpNo X207.here hx rfl (hb hby at_185) rfl (flt (by decide : ¬ ((3 : Int32) < (2 : Int32)))).1 ?_
       exact hgo
     rcases own_sp_cases c1 with ⟨hs1, -⟩ | ⟨hs1, -, -⟩
     ·have R210 : Rc p e below A0 (T207.setTop (fl m p1 p2 p3 p4 c0 c1 c2 s0 s1 s2 s3 (.val (.int 3)) (.val (.ref str)) (.val (.ref xr)) (.val (.int 6)) (.unset) 190 [(.int c1)])) := by
        intro tgt hgo
        refine R209 tgt ?_
        show Steps p.tables e below (T207.setTop (fl m p1 p2 p3 p4 c0 c1 c2 s0 s1 s2 s3 (.val (.int 3)) (.val (.ref str)) (.val (.ref xr)) (.val (.int 6)) (.unset) 188 [])) _
        refine XS.iload X207.here hx rfl (hb hby at_188) rfl ?_
        exact hgo
      obtain ⟨_, _, ⟨T211, L211, k211, n211⟩, -, X211, ⟨Lc211, hQ211, l211, y211, z211⟩, st211⟩ := Jvm.LawKit.callS X207 hx (y := yn28) hown (mvT hZ (w 153 rfl)) (mvT hZ (w 154 rfl)) (mvT hZ (w 155 rfl)) (mvT hZ (w 156 rfl)) (by decide) (backOf (W := 0) (rm_sp l Z a0 hw [] c1 1 T203.heap n0 hZn hs1) hZ (w 156 rfl) (w 155 rfl) (by decide) (by decide)) (g := (fl m p1 p2 p3 p4 c0 c1 c2 s0 s1 s2 s3 (.val (.int 3)) (.val (.ref str)) (.val (.ref xr)) (.val (.int 6)) (.unset) 190 [(.int c1)])) rfl (by rw [hml]; rfl) (argsL := [(.int c1)]) (rest := []) (lenOf pd_10 rfl) rfl (by show 2 * 0 + _ ≤ _; exact Nat.le_of_eq rfl) (hb hby at_190) (fun _ _ => ⟨rfl, e207, (by decide : 18 + 0 ≤ _), (by decide : 141 + 0 ≤ _)⟩)
      dsimp only [Pt.U, Pt.locs, Pt.cells, Pt.slots] at X211 l211 y211 z211 st211 hQ211
      subst l211 y211 z211
      obtain ⟨rfl, N211q, e211⟩ := hQ211
      have N211 := Fr.app N207 N211q
      have R212 := Rc.st R210 st211
      have R213 : Rc p e below A0 (T211.setTop (fl m p1 p2 p3 p4 c0 c1 c2 s0 s1 s2 s3 (.val (.int 3)) (.val (.ref str)) (.val (.ref xr)) (.val (.int 7)) (.unset) 208 [])) := by
        intro tgt hgo
        refine R212 tgt ?_
        show Steps p.tables e below (T211.setTop (fl m p1 p2 p3 p4 c0 c1 c2 s0 s1 s2 s3 (.val (.int 3)) (.val (.ref str)) (.val (.ref xr)) (.val (.int 6)) (.unset) 193 [(.int 1)])) _
        refine XS.ifNo X211.here hx rfl (hb hby at_193) rfl ((if0 _ _).trans (feq (by decide : ¬ ((1 : Int32) = (0 : Int32)))).1) ?_
        refine XS.iload X211.here hx rfl (hb hby at_196) rfl ?_
        refine XS.iconst X211.here hx rfl (hb hby at_198) ?_
        refine XS.iadd X211.here hx rfl (hb hby at_199) rfl ?_
        refine XS.istore X211.here hx rfl (hb hby at_200) rfl (l' := #[.val (.int p1), .val (.int p2), .val (.int p3), .val (.int p4), .val (.int 3), .val (.int c0), .val (.int c1), .val (.int c2), .val (.ref s0), .val (.ref s1), .val (.ref s2), .val (.ref s3), .val (.ref str), .val (.ref xr), .val (.int 7), .unset]) rfl ?_
        refine XS.iload X211.here hx rfl (hb hby at_202) rfl ?_
        refine XS.iconst X211.here hx rfl (hb hby at_204) ?_
        refine XS.icmpNo X211.here hx rfl (hb hby at_205) rfl (flt (by decide : ¬ ((3 : Int32) < (3 : Int32)))).1 ?_
        exact hgo
      rcases own_sp_cases c2 with ⟨hs2, -⟩ | ⟨hs2, -, -⟩
      ·have R214 : Rc p e below A0 (T211.setTop (fl m p1 p2 p3 p4 c0 c1 c2 s0 s1 s2 s3 (.val (.int 3)) (.val (.ref str)) (.val (.ref xr)) (.val (.int 7)) (.unset) 210 [(.int c2)])) := by
         intro tgt hgo
         refine R213 tgt ?_
         show Steps p.tables e below (T211.setTop (fl m p1 p2 p3 p4 c0 c1 c2 s0 s1 s2 s3 (.val (.int 3)) (.val (.ref str)) (.val (.ref xr)) (.val (.int 7)) (.unset) 208 [])) _
         refine XS.iload X211.here hx rfl (hb hby at_208) rfl ?_
         exact hgo
       obtain ⟨_, _, ⟨T215, L215, k215, n215⟩, -, X215, ⟨Lc215, hQ215, l215, y215, z215⟩, st215⟩ := Jvm.LawKit.callS X211 hx (y := yn28) hown (mvT hZ (w 153 rfl)) (mvT hZ (w 154 rfl)) (mvT hZ (w 155 rfl)) (mvT hZ (w 156 rfl)) (by decide) (backOf (W := 0) (rm_sp l Z a0 hw [] c2 1 T203.heap n0 hZn hs2) hZ (w 156 rfl) (w 155 rfl) (by decide) (by decide)) (g := (fl m p1 p2 p3 p4 c0 c1 c2 s0 s1 s2 s3 (.val (.int 3)) (.val (.ref str)) (.val (.ref xr)) (.val (.int 7)) (.unset) 210 [(.int c2)])) rfl (by rw [hml]; rfl) (argsL := [(.int c2)]) (rest := []) (lenOf pd_10 rfl) rfl (by show 2 * 0 + _ ≤ _; exact Nat.le_of_eq rfl) (hb hby at_210) (fun _ _ => ⟨rfl, e211, (by decide : 18 + 0 ≤ _), (by decide : 141 + 0 ≤ _)⟩)
       dsimp only [Pt.U, Pt.locs, Pt.cells, Pt.slots] at X215 l215 y215 z215 st215 hQ215
       subst l215 y215 z215
       obtain ⟨rfl, N215q, e215⟩ := hQ215
       have N215 := Fr.app N211 N215q
       have R216 := Rc.st R214 st215
       have hq : (((([] ++ [own_b 34]) ++ own_esc c0) ++ own_esc c1) ++ own_esc c2) ++ [own_b 34] = [own_b 34, own_b 92, own_b c0, own_b 92, own_b c1, own_b 92, own_b c2, own_b 34] := by simp [own_esc, hs0, hs1, hs2]
       rw [hq] at SFr
       have R217 : Rc p e below A0 (T215.setTop (fl m p1 p2 p3 p4 c0 c1 c2 s0 s1 s2 s3 (.val (.int 3)) (.val (.ref str)) (.val (.ref xr)) (.val (.int 8)) (.unset) 224 [(.ref xr)])) := by
         intro tgt hgo
         refine R216 tgt ?_
         show Steps p.tables e below (T215.setTop (fl m p1 p2 p3 p4 c0 c1 c2 s0 s1 s2 s3 (.val (.int 3)) (.val (.ref str)) (.val (.ref xr)) (.val (.int 7)) (.unset) 213 [(.int 1)])) _
         refine XS.ifNo X215.here hx rfl (hb hby at_213) rfl ((if0 _ _).trans (feq (by decide : ¬ ((1 : Int32) = (0 : Int32)))).1) ?_
         refine XS.iload X215.here hx rfl (hb hby at_216) rfl ?_
         refine XS.iconst X215.here hx rfl (hb hby at_218) ?_
         refine XS.iadd X215.here hx rfl (hb hby at_219) rfl ?_
         refine XS.istore X215.here hx rfl (hb hby at_220) rfl (l' := #[.val (.int p1), .val (.int p2), .val (.int p3), .val (.int p4), .val (.int 3), .val (.int c0), .val (.int c1), .val (.int c2), .val (.ref s0), .val (.ref s1), .val (.ref s2), .val (.ref s3), .val (.ref str), .val (.ref xr), .val (.int 8), .unset]) rfl ?_
         refine XS.aload X215.here hx rfl (hb hby at_222) rfl rfl ?_
         exact hgo
       obtain ⟨cq218, kq218, q218a, q218b, q218c⟩ := isOf hZ e215 E_r
       obtain ⟨_, _, ⟨T218, L218, k218, n218⟩, -, X218, ⟨Lc218, hQ218, l218, y218, z218⟩, st218⟩ := X215.virtualBack hx (y := yn1) (z := yn1) hown (mvT hZ (w 120 rfl)) (mvT hZ (w 30 rfl)) (notFace_of_selects (args := #[]) (mvT hZ (w 32 rfl))) (mvT hZ (w 32 rfl)) (mvT hZ (w 31 rfl)) (by decide) (backOf (W := 0) (rm_length l Z a0 hw [] xr zc tr kr [own_b 34, own_b 92, own_b c0, own_b 92, own_b c1, own_b 92, own_b c2, own_b 34] T203.heap n0 hZn hOld S_cs hz SFr) hZ (w 33 rfl) (w 3 rfl) (by decide) (by decide)) q218a q218c (g := (fl m p1 p2 p3 p4 c0 c1 c2 s0 s1 s2 s3 (.val (.int 3)) (.val (.ref str)) (.val (.ref xr)) (.val (.int 8)) (.unset) 224 [(.ref xr)])) rfl (by rw [hml]; rfl) (Steps.refl _) (argsL := []) (rest := []) (lenOf pd_13 rfl) rfl (by show 2 * 0 + _ ≤ _; exact Nat.le_of_eq rfl) (hb hby at_224) (fun _ _ => ⟨rfl, e215, (by decide : 18 + 0 ≤ _), (by decide : 141 + 0 ≤ _)⟩)
       dsimp only [Pt.U, Pt.locs, Pt.cells, Pt.slots] at X218 l218 y218 z218 st218 hQ218
       subst l218 y218 z218
       obtain ⟨rfl, N218q, e218⟩ := hQ218
       have N218 := Fr.app N215 N218q
       have R219 := Rc.tr R217 st218
       have R220 : Rc p e below A0 (T218.setTop (fl m p1 p2 p3 p4 c0 c1 c2 s0 s1 s2 s3 (.val (.int 3)) (.val (.ref str)) (.val (.ref xr)) (.val (.int 8)) (.unset) 237 [(.int 0), (.ref xr)])) := by
         intro tgt hgo
         refine R219 tgt ?_
         show Steps p.tables e below (T218.setTop (fl m p1 p2 p3 p4 c0 c1 c2 s0 s1 s2 s3 (.val (.int 3)) (.val (.ref str)) (.val (.ref xr)) (.val (.int 8)) (.unset) 227 [(.int 8)])) _
         refine XS.iload X218.here hx rfl (hb hby at_227) rfl ?_
         refine XS.icmpYes X218.here hx rfl (pc0 := 229) (pc' := 234) rfl (hb hby at_229) rfl (teq (by decide : (8 : Int32) = (8 : Int32))).1 (by decide) (by decide) ?_
         refine XS.aload X218.here hx rfl (hb hby at_234) rfl rfl ?_
         refine XS.iconst X218.here hx rfl (hb hby at_236) ?_
         exact hgo
       obtain ⟨cq221, kq221, q221a, q221b, q221c⟩ := isOf hZ e218 E_r
       obtain ⟨_, _, ⟨T221, L221, k221, n221⟩, -, X221, ⟨Lc221, hQ221, l221, y221, z221⟩, st221⟩ := X218.virtualBack hx (y := yn6) (z := yn6) hown (mvT hZ (w 121 rfl)) (mvT hZ (w 122 rfl)) (notFace_of_selects (args := #[]) (mvT hZ (w 124 rfl))) (mvT hZ (w 124 rfl)) (mvT hZ (w 123 rfl)) (by decide) (backOf (W := 0) (rm_charAt l Z a0 hw [] xr (0 : Int32) zc tr kr [own_b 34, own_b 92, own_b c0, own_b 92, own_b c1, own_b 92, own_b c2, own_b 34] 0 34 vf T203.heap n0 hZn rfl hOld S_cs hz S_f hf (by decide) (by show Int32.ofNat 0 < Int32.ofNat 8; decide) rfl own_c34 SFr) hZ (w 125 rfl) (w 3 rfl) (by decide) (by decide)) q221a q221c (g := (fl m p1 p2 p3 p4 c0 c1 c2 s0 s1 s2 s3 (.val (.int 3)) (.val (.ref str)) (.val (.ref xr)) (.val (.int 8)) (.unset) 237 [(.int 0), (.ref xr)])) rfl (by rw [hml]; rfl) (Steps.refl _) (argsL := [(.int 0)]) (rest := []) (lenOf pd_17 rfl) rfl (by show 2 * 0 + _ ≤ _; exact Nat.le_of_eq rfl) (hb hby at_237) (fun _ _ => ⟨rfl, e218, (by decide : 18 + 0 ≤ _), (by decide : 141 + 0 ≤ _)⟩)
       dsimp only [Pt.U, Pt.locs, Pt.cells, Pt.slots] at X221 l221 y221 z221 st221 hQ221
       subst l221 y221 z221
       obtain ⟨rfl, N221q, e221⟩ := hQ221
       have N221 := Fr.app N218 N221q
       have R222 := Rc.tr R220 st221
       have R223 : Rc p e below A0 (T221.setTop (fl m p1 p2 p3 p4 c0 c1 c2 s0 s1 s2 s3 (.val (.int 3)) (.val (.ref str)) (.val (.ref xr)) (.val (.int 8)) (.val (.int 1)) 262 [(.int c0), (.int 1), (.ref xr)])) := by
         intro tgt hgo
         refine R222 tgt ?_
         show Steps p.tables e below (T221.setTop (fl m p1 p2 p3 p4 c0 c1 c2 s0 s1 s2 s3 (.val (.int 3)) (.val (.ref str)) (.val (.ref xr)) (.val (.int 8)) (.unset) 240 [(.int 34)])) _
         refine XS.bipush X221.here hx rfl (hb hby at_240) ?_
         refine XS.icmpYes X221.here hx rfl (pc0 := 242) (pc' := 247) rfl (hb hby at_242) rfl (teq (by decide : (34 : Int32) = (34 : Int32))).1 (by decide) (by decide) ?_
         refine XS.iconst X221.here hx rfl (hb hby at_247) ?_
         refine XS.istore X221.here hx rfl (hb hby at_248) rfl (l' := #[.val (.int p1), .val (.int p2), .val (.int p3), .val (.int p4), .val (.int 3), .val (.int c0), .val (.int c1), .val (.int c2), .val (.ref s0), .val (.ref s1), .val (.ref s2), .val (.ref s3), .val (.ref str), .val (.ref xr), .val (.int 8), .val (.int 1)]) rfl ?_
         refine XS.iload X221.here hx rfl (hb hby at_250) rfl ?_
         refine XS.iconst X221.here hx rfl (hb hby at_252) ?_
         refine XS.icmpNo X221.here hx rfl (hb hby at_253) rfl (flt (by decide : ¬ ((3 : Int32) < (1 : Int32)))).1 ?_
         refine XS.aload X221.here hx rfl (hb hby at_256) rfl rfl ?_
         refine XS.iload X221.here hx rfl (hb hby at_258) rfl ?_
         refine XS.iload X221.here hx rfl (hb hby at_260) rfl ?_
         exact hgo
       obtain ⟨_, _, ⟨T224, L224, k224, n224⟩, -, X224, ⟨Lc224, hQ224, l224, y224, z224⟩, st224⟩ := Jvm.LawKit.callS X221 hx (y := yn29) hown (mvT hZ (w 157 rfl)) (mvT hZ (w 158 rfl)) (mvT hZ (w 155 rfl)) (mvT hZ (w 159 rfl)) (by decide) (backOf (W := 0) (rm_step1 l Z a0 hw [] xr (1 : Int32) c0 zc tr kr [own_b 34, own_b 92, own_b c0, own_b 92, own_b c1, own_b 92, own_b c2, own_b 34] 1 vf T203.heap n0 hZn rfl hc0 hs0 hOld S_cs hz S_f hf (by show 8 < 2147483647; decide) (by show 1 < 8; decide) rfl (by show 2 < 8; decide) rfl SFr) hZ (w 159 rfl) (w 155 rfl) (by decide) (by decide)) (g := (fl m p1 p2 p3 p4 c0 c1 c2 s0 s1 s2 s3 (.val (.int 3)) (.val (.ref str)) (.val (.ref xr)) (.val (.int 8)) (.val (.int 1)) 262 [(.int c0), (.int 1), (.ref xr)])) rfl (by rw [hml]; rfl) (argsL := [(.ref xr), (.int 1), (.int c0)]) (rest := []) (lenOf pd_23 rfl) rfl (by show 2 * 0 + _ ≤ _; exact Nat.le_of_eq rfl) (hb hby at_262) (fun _ _ => ⟨rfl, e221, (by decide : 18 + 0 ≤ _), (by decide : 141 + 0 ≤ _)⟩)
       dsimp only [Pt.U, Pt.locs, Pt.cells, Pt.slots] at X224 l224 y224 z224 st224 hQ224
       subst l224 y224 z224
       obtain ⟨rfl, N224q, e224⟩ := hQ224
       have N224 := Fr.app N221 N224q
       have R225 := Rc.st R223 st224
       have R226 : Rc p e below A0 (T224.setTop (fl m p1 p2 p3 p4 c0 c1 c2 s0 s1 s2 s3 (.val (.int 3)) (.val (.ref str)) (.val (.ref xr)) (.val (.int 8)) (.val (.int 3)) 279 [(.int c1), (.int 3), (.ref xr)])) := by
         intro tgt hgo
         refine R225 tgt ?_
         show Steps p.tables e below (T224.setTop (fl m p1 p2 p3 p4 c0 c1 c2 s0 s1 s2 s3 (.val (.int 3)) (.val (.ref str)) (.val (.ref xr)) (.val (.int 8)) (.val (.int 1)) 265 [(.int 3)])) _
         refine XS.istore X224.here hx rfl (hb hby at_265) rfl (l' := #[.val (.int p1), .val (.int p2), .val (.int p3), .val (.int p4), .val (.int 3), .val (.int c0), .val (.int c1), .val (.int c2), .val (.ref s0), .val (.ref s1), .val (.ref s2), .val (.ref s3), .val (.ref str), .val (.ref xr), .val (.int 8), .val (.int 3)]) rfl ?_
         refine XS.iload X224.here hx rfl (hb hby at_267) rfl ?_
         refine XS.iconst X224.here hx rfl (hb hby at_269) ?_
         refine XS.icmpNo X224.here hx rfl (hb hby at_270) rfl (flt (by decide : ¬ ((3 : Int32) < (2 : Int32)))).1 ?_
         refine XS.aload X224.here hx rfl (hb hby at_273) rfl rfl ?_
         refine XS.iload X224.here hx rfl (hb hby at_275) rfl ?_
         refine XS.iload X224.here hx rfl (hb hby at_277) rfl ?_
         exact hgo
       obtain ⟨_, _, ⟨T227, L227, k227, n227⟩, -, X227, ⟨Lc227, hQ227, l227, y227, z227⟩, st227⟩ := Jvm.LawKit.callS X224 hx (y := yn29) hown (mvT hZ (w 157 rfl)) (mvT hZ (w 158 rfl)) (mvT hZ (w 155 rfl)) (mvT hZ (w 159 rfl)) (by decide) (backOf (W := 0) (rm_step1 l Z a0 hw [] xr (3 : Int32) c1 zc tr kr [own_b 34, own_b 92, own_b c0, own_b 92, own_b c1, own_b 92, own_b c2, own_b 34] 3 vf T203.heap n0 hZn rfl hc1 hs1 hOld S_cs hz S_f hf (by show 8 < 2147483647; decide) (by show 3 < 8; decide) rfl (by show 4 < 8; decide) rfl SFr) hZ (w 159 rfl) (w 155 rfl) (by decide) (by decide)) (g := (fl m p1 p2 p3 p4 c0 c1 c2 s0 s1 s2 s3 (.val (.int 3)) (.val (.ref str)) (.val (.ref xr)) (.val (.int 8)) (.val (.int 3)) 279 [(.int c1), (.int 3), (.ref xr)])) rfl (by rw [hml]; rfl) (argsL := [(.ref xr), (.int 3), (.int c1)]) (rest := []) (lenOf pd_23 rfl) rfl (by show 2 * 0 + _ ≤ _; exact Nat.le_of_eq rfl) (hb hby at_279) (fun _ _ => ⟨rfl, e224, (by decide : 18 + 0 ≤ _), (by decide : 141 + 0 ≤ _)⟩)
       dsimp only [Pt.U, Pt.locs, Pt.cells, Pt.slots] at X227 l227 y227 z227 st227 hQ227
       subst l227 y227 z227
       obtain ⟨rfl, N227q, e227⟩ := hQ227
       have N227 := Fr.app N224 N227q
       have R228 := Rc.st R226 st227
       have R229 : Rc p e below A0 (T227.setTop (fl m p1 p2 p3 p4 c0 c1 c2 s0 s1 s2 s3 (.val (.int 3)) (.val (.ref str)) (.val (.ref xr)) (.val (.int 8)) (.val (.int 5)) 296 [(.int c2), (.int 5), (.ref xr)])) := by
         intro tgt hgo
         refine R228 tgt ?_
         show Steps p.tables e below (T227.setTop (fl m p1 p2 p3 p4 c0 c1 c2 s0 s1 s2 s3 (.val (.int 3)) (.val (.ref str)) (.val (.ref xr)) (.val (.int 8)) (.val (.int 3)) 282 [(.int 5)])) _
         refine XS.istore X227.here hx rfl (hb hby at_282) rfl (l' := #[.val (.int p1), .val (.int p2), .val (.int p3), .val (.int p4), .val (.int 3), .val (.int c0), .val (.int c1), .val (.int c2), .val (.ref s0), .val (.ref s1), .val (.ref s2), .val (.ref s3), .val (.ref str), .val (.ref xr), .val (.int 8), .val (.int 5)]) rfl ?_
         refine XS.iload X227.here hx rfl (hb hby at_284) rfl ?_
         refine XS.iconst X227.here hx rfl (hb hby at_286) ?_
         refine XS.icmpNo X227.here hx rfl (hb hby at_287) rfl (flt (by decide : ¬ ((3 : Int32) < (3 : Int32)))).1 ?_
         refine XS.aload X227.here hx rfl (hb hby at_290) rfl rfl ?_
         refine XS.iload X227.here hx rfl (hb hby at_292) rfl ?_
         refine XS.iload X227.here hx rfl (hb hby at_294) rfl ?_
         exact hgo
       obtain ⟨_, _, ⟨T230, L230, k230, n230⟩, -, X230, ⟨Lc230, hQ230, l230, y230, z230⟩, st230⟩ := Jvm.LawKit.callS X227 hx (y := yn29) hown (mvT hZ (w 157 rfl)) (mvT hZ (w 158 rfl)) (mvT hZ (w 155 rfl)) (mvT hZ (w 159 rfl)) (by decide) (backOf (W := 0) (rm_step1 l Z a0 hw [] xr (5 : Int32) c2 zc tr kr [own_b 34, own_b 92, own_b c0, own_b 92, own_b c1, own_b 92, own_b c2, own_b 34] 5 vf T203.heap n0 hZn rfl hc2 hs2 hOld S_cs hz S_f hf (by show 8 < 2147483647; decide) (by show 5 < 8; decide) rfl (by show 6 < 8; decide) rfl SFr) hZ (w 159 rfl) (w 155 rfl) (by decide) (by decide)) (g := (fl m p1 p2 p3 p4 c0 c1 c2 s0 s1 s2 s3 (.val (.int 3)) (.val (.ref str)) (.val (.ref xr)) (.val (.int 8)) (.val (.int 5)) 296 [(.int c2), (.int 5), (.ref xr)])) rfl (by rw [hml]; rfl) (argsL := [(.ref xr), (.int 5), (.int c2)]) (rest := []) (lenOf pd_23 rfl) rfl (by show 2 * 0 + _ ≤ _; exact Nat.le_of_eq rfl) (hb hby at_296) (fun _ _ => ⟨rfl, e227, (by decide : 18 + 0 ≤ _), (by decide : 141 + 0 ≤ _)⟩)
       dsimp only [Pt.U, Pt.locs, Pt.cells, Pt.slots] at X230 l230 y230 z230 st230 hQ230
       subst l230 y230 z230
       obtain ⟨rfl, N230q, e230⟩ := hQ230
       have N230 := Fr.app N227 N230q
       have R231 := Rc.st R229 st230
       have R232 : Rc p e below A0 (T230.setTop (fl m p1 p2 p3 p4 c0 c1 c2 s0 s1 s2 s3 (.val (.int 3)) (.val (.ref str)) (.val (.ref xr)) (.val (.int 8)) (.val (.int 7)) 314 [(.int 7), (.ref xr)])) := by
         intro tgt hgo
         refine R231 tgt ?_
         show Steps p.tables e below (T230.setTop (fl m p1 p2 p3 p4 c0 c1 c2 s0 s1 s2 s3 (.val (.int 3)) (.val (.ref str)) (.val (.ref xr)) (.val (.int 8)) (.val (.int 5)) 299 [(.int 7)])) _
         refine XS.istore X230.here hx rfl (hb hby at_299) rfl (l' := #[.val (.int p1), .val (.int p2), .val (.int p3), .val (.int p4), .val (.int 3), .val (.int c0), .val (.int c1), .val (.int c2), .val (.ref s0), .val (.ref s1), .val (.ref s2), .val (.ref s3), .val (.ref str), .val (.ref xr), .val (.int 8), .val (.int 7)]) rfl ?_
         refine XS.iload X230.here hx rfl (hb hby at_301) rfl ?_
         refine XS.iload X230.here hx rfl (hb hby at_303) rfl ?_
         refine XS.iconst X230.here hx rfl (hb hby at_305) ?_
         refine XS.isub X230.here hx rfl (hb hby at_306) rfl ?_
         refine XS.icmpNo X230.here hx rfl (hb hby at_307) rfl (teq (by decide : (7 : Int32) = (7 : Int32))).2 ?_
         refine XS.aload X230.here hx rfl (hb hby at_310) rfl rfl ?_
         refine XS.iload X230.here hx rfl (hb hby at_312) rfl ?_
         exact hgo
       obtain ⟨cq233, kq233, q233a, q233b, q233c⟩ := isOf hZ e230 E_r
       obtain ⟨_, _, ⟨T233, L233, k233, n233⟩, -, X233, ⟨Lc233, hQ233, l233, y233, z233⟩, st233⟩ := X230.virtualBack hx (y := yn6) (z := yn6) hown (mvT hZ (w 121 rfl)) (mvT hZ (w 122 rfl)) (notFace_of_selects (args := #[]) (mvT hZ (w 124 rfl))) (mvT hZ (w 124 rfl)) (mvT hZ (w 123 rfl)) (by decide) (backOf (W := 0) (rm_charAt l Z a0 hw [] xr (7 : Int32) zc tr kr [own_b 34, own_b 92, own_b c0, own_b 92, own_b c1, own_b 92, own_b c2, own_b 34] 7 34 vf T203.heap n0 hZn rfl hOld S_cs hz S_f hf (by decide) (by show Int32.ofNat 7 < Int32.ofNat 8; decide) rfl own_c34 SFr) hZ (w 125 rfl) (w 3 rfl) (by decide) (by decide)) q233a q233c (g := (fl m p1 p2 p3 p4 c0 c1 c2 s0 s1 s2 s3 (.val (.int 3)) (.val (.ref str)) (.val (.ref xr)) (.val (.int 8)) (.val (.int 7)) 314 [(.int 7), (.ref xr)])) rfl (by rw [hml]; rfl) (Steps.refl _) (argsL := [(.int 7)]) (rest := []) (lenOf pd_17 rfl) rfl (by show 2 * 0 + _ ≤ _; exact Nat.le_of_eq rfl) (hb hby at_314) (fun _ _ => ⟨rfl, e230, (by decide : 18 + 0 ≤ _), (by decide : 141 + 0 ≤ _)⟩)
       dsimp only [Pt.U, Pt.locs, Pt.cells, Pt.slots] at X233 l233 y233 z233 st233 hQ233
       subst l233 y233 z233
       obtain ⟨rfl, N233q, e233⟩ := hQ233
       have N233 := Fr.app N230 N233q
       have R234 := Rc.tr R232 st233
       have R235 : Rc p e below A0 (T233.setTop (fl m p1 p2 p3 p4 c0 c1 c2 s0 s1 s2 s3 (.val (.int 3)) (.val (.ref str)) (.val (.ref xr)) (.val (.int 8)) (.val (.int 7)) 327 [(.int 1)])) := by
         intro tgt hgo
         refine R234 tgt ?_
         show Steps p.tables e below (T233.setTop (fl m p1 p2 p3 p4 c0 c1 c2 s0 s1 s2 s3 (.val (.int 3)) (.val (.ref str)) (.val (.ref xr)) (.val (.int 8)) (.val (.int 7)) 317 [(.int 34)])) _
         refine XS.bipush X233.here hx rfl (hb hby at_317) ?_
         refine XS.icmpNo X233.here hx rfl (hb hby at_319) rfl (teq (by decide : (34 : Int32) = (34 : Int32))).2 ?_
         refine XS.iconst X233.here hx rfl (hb hby at_322) ?_
         refine XS.goto X233.here hx rfl (pc0 := 323) (pc' := 327) rfl (hb hby at_323) (by decide) (by decide) ?_
         exact hgo
       subst hA0
       obtain ⟨fs, hr, hrun, hended, hRW⟩ := X233.leaveW hS (by rw [e233]; exact hk) (v := some (.int 1)) (fun h => by rw [Bd.returns] at h; cases h) Bd.notSynchronized
       refine ⟨_, _, R235 _ ?_, hrun, hended, _, _, rfl, ?_, OwnKit.own_fin hRW (by decide) (by decide)⟩
       ·show Steps p.tables e below (T233.setTop (fl m p1 p2 p3 p4 c0 c1 c2 s0 s1 s2 s3 (.val (.int 3)) (.val (.ref str)) (.val (.ref xr)) (.val (.int 8)) (.val (.int 7)) 327 [(.int 1)])) _
        exact retN X233 hx (t := .boolean) Bd.returns (by simp) (hb hby at_327) hr
       ·show Q0 n0 _ T233.heap _
        rw [e233]
        exact ⟨rfl, N233⟩
      ·have R236 : Rc p e below A0 (T211.setTop (fl m p1 p2 p3 p4 c0 c1 c2 s0 s1 s2 s3 (.val (.int 3)) (.val (.ref str)) (.val (.ref xr)) (.val (.int 7)) (.unset) 210 [(.int c2)])) := by
         intro tgt hgo
         refine R213 tgt ?_
         show Steps p.tables e below (T211.setTop (fl m p1 p2 p3 p4 c0 c1 c2 s0 s1 s2 s3 (.val (.int 3)) (.val (.ref str)) (.val (.ref xr)) (.val (.int 7)) (.unset) 208 [])) _
         refine XS.iload X211.here hx rfl (hb hby at_208) rfl ?_
         exact hgo
       obtain ⟨_, _, ⟨T237, L237, k237, n237⟩, -, X237, ⟨Lc237, hQ237, l237, y237, z237⟩, st237⟩ := Jvm.LawKit.callS X211 hx (y := yn28) hown (mvT hZ (w 153 rfl)) (mvT hZ (w 154 rfl)) (mvT hZ (w 155 rfl)) (mvT hZ (w 156 rfl)) (by decide) (backOf (W := 0) (rm_sp l Z a0 hw [] c2 0 T203.heap n0 hZn hs2) hZ (w 156 rfl) (w 155 rfl) (by decide) (by decide)) (g := (fl m p1 p2 p3 p4 c0 c1 c2 s0 s1 s2 s3 (.val (.int 3)) (.val (.ref str)) (.val (.ref xr)) (.val (.int 7)) (.unset) 210 [(.int c2)])) rfl (by rw [hml]; rfl) (argsL := [(.int c2)]) (rest := []) (lenOf pd_10 rfl) rfl (by show 2 * 0 + _ ≤ _; exact Nat.le_of_eq rfl) (hb hby at_210) (fun _ _ => ⟨rfl, e211, (by decide : 18 + 0 ≤ _), (by decide : 141 + 0 ≤ _)⟩)
       dsimp only [Pt.U, Pt.locs, Pt.cells, Pt.slots] at X237 l237 y237 z237 st237 hQ237
       subst l237 y237 z237
       obtain ⟨rfl, N237q, e237⟩ := hQ237
       have N237 := Fr.app N211 N237q
       have R238 := Rc.st R236 st237
       have hq : (((([] ++ [own_b 34]) ++ own_esc c0) ++ own_esc c1) ++ own_esc c2) ++ [own_b 34] = [own_b 34, own_b 92, own_b c0, own_b 92, own_b c1, own_b c2, own_b 34] := by simp [own_esc, hs0, hs1, hs2]
       rw [hq] at SFr
       have R239 : Rc p e below A0 (T237.setTop (fl m p1 p2 p3 p4 c0 c1 c2 s0 s1 s2 s3 (.val (.int 3)) (.val (.ref str)) (.val (.ref xr)) (.val (.int 7)) (.unset) 224 [(.ref xr)])) := by
         intro tgt hgo
         refine R238 tgt ?_
         show Steps p.tables e below (T237.setTop (fl m p1 p2 p3 p4 c0 c1 c2 s0 s1 s2 s3 (.val (.int 3)) (.val (.ref str)) (.val (.ref xr)) (.val (.int 7)) (.unset) 213 [(.int 0)])) _
         refine XS.ifYes X237.here hx rfl (pc0 := 213) (pc' := 222) rfl (hb hby at_213) rfl ((if0 _ _).trans (teq (by decide : (0 : Int32) = (0 : Int32))).1) (by decide) (by decide) ?_
         refine XS.aload X237.here hx rfl (hb hby at_222) rfl rfl ?_
         exact hgo
       obtain ⟨cq240, kq240, q240a, q240b, q240c⟩ := isOf hZ e237 E_r
       obtain ⟨_, _, ⟨T240, L240, k240, n240⟩, -, X240, ⟨Lc240, hQ240, l240, y240, z240⟩, st240⟩ := X237.virtualBack hx (y := yn1) (z := yn1) hown (mvT hZ (w 120 rfl)) (mvT hZ (w 30 rfl)) (notFace_of_selects (args := #[]) (mvT hZ (w 32 rfl))) (mvT hZ (w 32 rfl)) (mvT hZ (w 31 rfl)) (by decide) (backOf (W := 0) (rm_length l Z a0 hw [] xr zc tr kr [own_b 34, own_b 92, own_b c0, own_b 92, own_b c1, own_b c2, own_b 34] T203.heap n0 hZn hOld S_cs hz SFr) hZ (w 33 rfl) (w 3 rfl) (by decide) (by decide)) q240a q240c (g := (fl m p1 p2 p3 p4 c0 c1 c2 s0 s1 s2 s3 (.val (.int 3)) (.val (.ref str)) (.val (.ref xr)) (.val (.int 7)) (.unset) 224 [(.ref xr)])) rfl (by rw [hml]; rfl) (Steps.refl _) (argsL := []) (rest := []) (lenOf pd_13 rfl) rfl (by show 2 * 0 + _ ≤ _; exact Nat.le_of_eq rfl) (hb hby at_224) (fun _ _ => ⟨rfl, e237, (by decide : 18 + 0 ≤ _), (by decide : 141 + 0 ≤ _)⟩)
       dsimp only [Pt.U, Pt.locs, Pt.cells, Pt.slots] at X240 l240 y240 z240 st240 hQ240
       subst l240 y240 z240
       obtain ⟨rfl, N240q, e240⟩ := hQ240
       have N240 := Fr.app N237 N240q
       have R241 := Rc.tr R239 st240
       have R242 : Rc p e below A0 (T240.setTop (fl m p1 p2 p3 p4 c0 c1 c2 s0 s1 s2 s3 (.val (.int 3)) (.val (.ref str)) (.val (.ref xr)) (.val (.int 7)) (.unset) 237 [(.int 0), (.ref xr)])) := by
         intro tgt hgo
         refine R241 tgt ?_
         show Steps p.tables e below (T240.setTop (fl m p1 p2 p3 p4 c0 c1 c2 s0 s1 s2 s3 (.val (.int 3)) (.val (.ref str)) (.val (.ref xr)) (.val (.int 7)) (.unset) 227 [(.int 7)])) _
         refine XS.iload X240.here hx rfl (hb hby at_227) rfl ?_
         refine XS.icmpYes X240.here hx rfl (pc0 := 229) (pc' := 234) rfl (hb hby at_229) rfl (teq (by decide : (7 : Int32) = (7 : Int32))).1 (by decide) (by decide) ?_
         refine XS.aload X240.here hx rfl (hb hby at_234) rfl rfl ?_
         refine XS.iconst X240.here hx rfl (hb hby at_236) ?_
         exact hgo
       obtain ⟨cq243, kq243, q243a, q243b, q243c⟩ := isOf hZ e240 E_r
       obtain ⟨_, _, ⟨T243, L243, k243, n243⟩, -, X243, ⟨Lc243, hQ243, l243, y243, z243⟩, st243⟩ := X240.virtualBack hx (y := yn6) (z := yn6) hown (mvT hZ (w 121 rfl)) (mvT hZ (w 122 rfl)) (notFace_of_selects (args := #[]) (mvT hZ (w 124 rfl))) (mvT hZ (w 124 rfl)) (mvT hZ (w 123 rfl)) (by decide) (backOf (W := 0) (rm_charAt l Z a0 hw [] xr (0 : Int32) zc tr kr [own_b 34, own_b 92, own_b c0, own_b 92, own_b c1, own_b c2, own_b 34] 0 34 vf T203.heap n0 hZn rfl hOld S_cs hz S_f hf (by decide) (by show Int32.ofNat 0 < Int32.ofNat 7; decide) rfl own_c34 SFr) hZ (w 125 rfl) (w 3 rfl) (by decide) (by decide)) q243a q243c (g := (fl m p1 p2 p3 p4 c0 c1 c2 s0 s1 s2 s3 (.val (.int 3)) (.val (.ref str)) (.val (.ref xr)) (.val (.int 7)) (.unset) 237 [(.int 0), (.ref xr)])) rfl (by rw [hml]; rfl) (Steps.refl _) (argsL := [(.int 0)]) (rest := []) (lenOf pd_17 rfl) rfl (by show 2 * 0 + _ ≤ _; exact Nat.le_of_eq rfl) (hb hby at_237) (fun _ _ => ⟨rfl, e240, (by decide : 18 + 0 ≤ _), (by decide : 141 + 0 ≤ _)⟩)
       dsimp only [Pt.U, Pt.locs, Pt.cells, Pt.slots] at X243 l243 y243 z243 st243 hQ243
       subst l243 y243 z243
       obtain ⟨rfl, N243q, e243⟩ := hQ243
       have N243 := Fr.app N240 N243q
       have R244 := Rc.tr R242 st243
       have R245 : Rc p e below A0 (T243.setTop (fl m p1 p2 p3 p4 c0 c1 c2 s0 s1 s2 s3 (.val (.int 3)) (.val (.ref str)) (.val (.ref xr)) (.val (.int 7)) (.val (.int 1)) 262 [(.int c0), (.int 1), (.ref xr)])) := by
         intro tgt hgo
         refine R244 tgt ?_
         show Steps p.tables e below (T243.setTop (fl m p1 p2 p3 p4 c0 c1 c2 s0 s1 s2 s3 (.val (.int 3)) (.val (.ref str)) (.val (.ref xr)) (.val (.int 7)) (.unset) 240 [(.int 34)])) _
         refine XS.bipush X243.here hx rfl (hb hby at_240) ?_
         refine XS.icmpYes X243.here hx rfl (pc0 := 242) (pc' := 247) rfl (hb hby at_242) rfl (teq (by decide : (34 : Int32) = (34 : Int32))).1 (by decide) (by decide) ?_
         refine XS.iconst X243.here hx rfl (hb hby at_247) ?_
         refine XS.istore X243.here hx rfl (hb hby at_248) rfl (l' := #[.val (.int p1), .val (.int p2), .val (.int p3), .val (.int p4), .val (.int 3), .val (.int c0), .val (.int c1), .val (.int c2), .val (.ref s0), .val (.ref s1), .val (.ref s2), .val (.ref s3), .val (.ref str), .val (.ref xr), .val (.int 7), .val (.int 1)]) rfl ?_
         refine XS.iload X243.here hx rfl (hb hby at_250) rfl ?_
         refine XS.iconst X243.here hx rfl (hb hby at_252) ?_
         refine XS.icmpNo X243.here hx rfl (hb hby at_253) rfl (flt (by decide : ¬ ((3 : Int32) < (1 : Int32)))).1 ?_
         refine XS.aload X243.here hx rfl (hb hby at_256) rfl rfl ?_
         refine XS.iload X243.here hx rfl (hb hby at_258) rfl ?_
         refine XS.iload X243.here hx rfl (hb hby at_260) rfl ?_
         exact hgo
       obtain ⟨_, _, ⟨T246, L246, k246, n246⟩, -, X246, ⟨Lc246, hQ246, l246, y246, z246⟩, st246⟩ := Jvm.LawKit.callS X243 hx (y := yn29) hown (mvT hZ (w 157 rfl)) (mvT hZ (w 158 rfl)) (mvT hZ (w 155 rfl)) (mvT hZ (w 159 rfl)) (by decide) (backOf (W := 0) (rm_step1 l Z a0 hw [] xr (1 : Int32) c0 zc tr kr [own_b 34, own_b 92, own_b c0, own_b 92, own_b c1, own_b c2, own_b 34] 1 vf T203.heap n0 hZn rfl hc0 hs0 hOld S_cs hz S_f hf (by show 7 < 2147483647; decide) (by show 1 < 7; decide) rfl (by show 2 < 7; decide) rfl SFr) hZ (w 159 rfl) (w 155 rfl) (by decide) (by decide)) (g := (fl m p1 p2 p3 p4 c0 c1 c2 s0 s1 s2 s3 (.val (.int 3)) (.val (.ref str)) (.val (.ref xr)) (.val (.int 7)) (.val (.int 1)) 262 [(.int c0), (.int 1), (.ref xr)])) rfl (by rw [hml]; rfl) (argsL := [(.ref xr), (.int 1), (.int c0)]) (rest := []) (lenOf pd_23 rfl) rfl (by show 2 * 0 + _ ≤ _; exact Nat.le_of_eq rfl) (hb hby at_262) (fun _ _ => ⟨rfl, e243, (by decide : 18 + 0 ≤ _), (by decide : 141 + 0 ≤ _)⟩)
       dsimp only [Pt.U, Pt.locs, Pt.cells, Pt.slots] at X246 l246 y246 z246 st246 hQ246
       subst l246 y246 z246
       obtain ⟨rfl, N246q, e246⟩ := hQ246
       have N246 := Fr.app N243 N246q
       have R247 := Rc.st R245 st246
       have R248 : Rc p e below A0 (T246.setTop (fl m p1 p2 p3 p4 c0 c1 c2 s0 s1 s2 s3 (.val (.int 3)) (.val (.ref str)) (.val (.ref xr)) (.val (.int 7)) (.val (.int 3)) 279 [(.int c1), (.int 3), (.ref xr)])) := by
         intro tgt hgo
         refine R247 tgt ?_
         show Steps p.tables e below (T246.setTop (fl m p1 p2 p3 p4 c0 c1 c2 s0 s1 s2 s3 (.val (.int 3)) (.val (.ref str)) (.val (.ref xr)) (.val (.int 7)) (.val (.int 1)) 265 [(.int 3)])) _
         refine XS.istore X246.here hx rfl (hb hby at_265) rfl (l' := #[.val (.int p1), .val (.int p2), .val (.int p3), .val (.int p4), .val (.int 3), .val (.int c0), .val (.int c1), .val (.int c2), .val (.ref s0), .val (.ref s1), .val (.ref s2), .val (.ref s3), .val (.ref str), .val (.ref xr), .val (.int 7), .val (.int 3)]) rfl ?_
         refine XS.iload X246.here hx rfl (hb hby at_267) rfl ?_
         refine XS.iconst X246.here hx rfl (hb hby at_269) ?_
         refine XS.icmpNo X246.here hx rfl (hb hby at_270) rfl (flt (by decide : ¬ ((3 : Int32) < (2 : Int32)))).1 ?_
         refine XS.aload X246.here hx rfl (hb hby at_273) rfl rfl ?_
         refine XS.iload X246.here hx rfl (hb hby at_275) rfl ?_
         refine XS.iload X246.here hx rfl (hb hby at_277) rfl ?_
         exact hgo
       obtain ⟨_, _, ⟨T249, L249, k249, n249⟩, -, X249, ⟨Lc249, hQ249, l249, y249, z249⟩, st249⟩ := Jvm.LawKit.callS X246 hx (y := yn29) hown (mvT hZ (w 157 rfl)) (mvT hZ (w 158 rfl)) (mvT hZ (w 155 rfl)) (mvT hZ (w 159 rfl)) (by decide) (backOf (W := 0) (rm_step1 l Z a0 hw [] xr (3 : Int32) c1 zc tr kr [own_b 34, own_b 92, own_b c0, own_b 92, own_b c1, own_b c2, own_b 34] 3 vf T203.heap n0 hZn rfl hc1 hs1 hOld S_cs hz S_f hf (by show 7 < 2147483647; decide) (by show 3 < 7; decide) rfl (by show 4 < 7; decide) rfl SFr) hZ (w 159 rfl) (w 155 rfl) (by decide) (by decide)) (g := (fl m p1 p2 p3 p4 c0 c1 c2 s0 s1 s2 s3 (.val (.int 3)) (.val (.ref str)) (.val (.ref xr)) (.val (.int 7)) (.val (.int 3)) 279 [(.int c1), (.int 3), (.ref xr)])) rfl (by rw [hml]; rfl) (argsL := [(.ref xr), (.int 3), (.int c1)]) (rest := []) (lenOf pd_23 rfl) rfl (by show 2 * 0 + _ ≤ _; exact Nat.le_of_eq rfl) (hb hby at_279) (fun _ _ => ⟨rfl, e246, (by decide : 18 + 0 ≤ _), (by decide : 141 + 0 ≤ _)⟩)
       dsimp only [Pt.U, Pt.locs, Pt.cells, Pt.slots] at X249 l249 y249 z249 st249 hQ249
       subst l249 y249 z249
       obtain ⟨rfl, N249q, e249⟩ := hQ249
       have N249 := Fr.app N246 N249q
       have R250 := Rc.st R248 st249
       have R251 : Rc p e below A0 (T249.setTop (fl m p1 p2 p3 p4 c0 c1 c2 s0 s1 s2 s3 (.val (.int 3)) (.val (.ref str)) (.val (.ref xr)) (.val (.int 7)) (.val (.int 5)) 296 [(.int c2), (.int 5), (.ref xr)])) := by
         intro tgt hgo
         refine R250 tgt ?_
         show Steps p.tables e below (T249.setTop (fl m p1 p2 p3 p4 c0 c1 c2 s0 s1 s2 s3 (.val (.int 3)) (.val (.ref str)) (.val (.ref xr)) (.val (.int 7)) (.val (.int 3)) 282 [(.int 5)])) _
         refine XS.istore X249.here hx rfl (hb hby at_282) rfl (l' := #[.val (.int p1), .val (.int p2), .val (.int p3), .val (.int p4), .val (.int 3), .val (.int c0), .val (.int c1), .val (.int c2), .val (.ref s0), .val (.ref s1), .val (.ref s2), .val (.ref s3), .val (.ref str), .val (.ref xr), .val (.int 7), .val (.int 5)]) rfl ?_
         refine XS.iload X249.here hx rfl (hb hby at_284) rfl ?_
         refine XS.iconst X249.here hx rfl (hb hby at_286) ?_
         refine XS.icmpNo X249.here hx rfl (hb hby at_287) rfl (flt (by decide : ¬ ((3 : Int32) < (3 : Int32)))).1 ?_
         refine XS.aload X249.here hx rfl (hb hby at_290) rfl rfl ?_
         refine XS.iload X249.here hx rfl (hb hby at_292) rfl ?_
         refine XS.iload X249.here hx rfl (hb hby at_294) rfl ?_
         exact hgo
       obtain ⟨_, _, ⟨T252, L252, k252, n252⟩, -, X252, ⟨Lc252, hQ252, l252, y252, z252⟩, st252⟩ := Jvm.LawKit.callS X249 hx (y := yn29) hown (mvT hZ (w 157 rfl)) (mvT hZ (w 158 rfl)) (mvT hZ (w 155 rfl)) (mvT hZ (w 159 rfl)) (by decide) (backOf (W := 0) (rm_step0 l Z a0 hw [] xr (5 : Int32) c2 zc tr kr [own_b 34, own_b 92, own_b c0, own_b 92, own_b c1, own_b c2, own_b 34] 5 vf T203.heap n0 hZn rfl hc2 hs2 hOld S_cs hz S_f hf (by show 7 < 2147483647; decide) (by show 5 < 7; decide) rfl SFr) hZ (w 159 rfl) (w 155 rfl) (by decide) (by decide)) (g := (fl m p1 p2 p3 p4 c0 c1 c2 s0 s1 s2 s3 (.val (.int 3)) (.val (.ref str)) (.val (.ref xr)) (.val (.int 7)) (.val (.int 5)) 296 [(.int c2), (.int 5), (.ref xr)])) rfl (by rw [hml]; rfl) (argsL := [(.ref xr), (.int 5), (.int c2)]) (rest := []) (lenOf pd_23 rfl) rfl (by show 2 * 0 + _ ≤ _; exact Nat.le_of_eq rfl) (hb hby at_296) (fun _ _ => ⟨rfl, e249, (by decide : 18 + 0 ≤ _), (by decide : 141 + 0 ≤ _)⟩)
       dsimp only [Pt.U, Pt.locs, Pt.cells, Pt.slots] at X252 l252 y252 z252 st252 hQ252
       subst l252 y252 z252
       obtain ⟨rfl, N252q, e252⟩ := hQ252
       have N252 := Fr.app N249 N252q
       have R253 := Rc.st R251 st252
       have R254 : Rc p e below A0 (T252.setTop (fl m p1 p2 p3 p4 c0 c1 c2 s0 s1 s2 s3 (.val (.int 3)) (.val (.ref str)) (.val (.ref xr)) (.val (.int 7)) (.val (.int 6)) 314 [(.int 6), (.ref xr)])) := by
         intro tgt hgo
         refine R253 tgt ?_
         show Steps p.tables e below (T252.setTop (fl m p1 p2 p3 p4 c0 c1 c2 s0 s1 s2 s3 (.val (.int 3)) (.val (.ref str)) (.val (.ref xr)) (.val (.int 7)) (.val (.int 5)) 299 [(.int 6)])) _
         refine XS.istore X252.here hx rfl (hb hby at_299) rfl (l' := #[.val (.int p1), .val (.int p2), .val (.int p3), .val (.int p4), .val (.int 3), .val (.int c0), .val (.int c1), .val (.int c2), .val (.ref s0), .val (.ref s1), .val (.ref s2), .val (.ref s3), .val (.ref str), .val (.ref xr), .val (.int 7), .val (.int 6)]) rfl ?_
         refine XS.iload X252.here hx rfl (hb hby at_301) rfl ?_
         refine XS.iload X252.here hx rfl (hb hby at_303) rfl ?_
         refine XS.iconst X252.here hx rfl (hb hby at_305) ?_
         refine XS.isub X252.here hx rfl (hb hby at_306) rfl ?_
         refine XS.icmpNo X252.here hx rfl (hb hby at_307) rfl (teq (by decide : (6 : Int32) = (6 : Int32))).2 ?_
         refine XS.aload X252.here hx rfl (hb hby at_310) rfl rfl ?_
         refine XS.iload X252.here hx rfl (hb hby at_312) rfl ?_
         exact hgo
       obtain ⟨cq255, kq255, q255a, q255b, q255c⟩ := isOf hZ e252 E_r
       obtain ⟨_, _, ⟨T255, L255, k255, n255⟩, -, X255, ⟨Lc255, hQ255, l255, y255, z255⟩, st255⟩ := X252.virtualBack hx (y := yn6) (z := yn6) hown (mvT hZ (w 121 rfl)) (mvT hZ (w 122 rfl)) (notFace_of_selects (args := #[]) (mvT hZ (w 124 rfl))) (mvT hZ (w 124 rfl)) (mvT hZ (w 123 rfl)) (by decide) (backOf (W := 0) (rm_charAt l Z a0 hw [] xr (6 : Int32) zc tr kr [own_b 34, own_b 92, own_b c0, own_b 92, own_b c1, own_b c2, own_b 34] 6 34 vf T203.heap n0 hZn rfl hOld S_cs hz S_f hf (by decide) (by show Int32.ofNat 6 < Int32.ofNat 7; decide) rfl own_c34 SFr) hZ (w 125 rfl) (w 3 rfl) (by decide) (by decide)) q255a q255c (g := (fl m p1 p2 p3 p4 c0 c1 c2 s0 s1 s2 s3 (.val (.int 3)) (.val (.ref str)) (.val (.ref xr)) (.val (.int 7)) (.val (.int 6)) 314 [(.int 6), (.ref xr)])) rfl (by rw [hml]; rfl) (Steps.refl _) (argsL := [(.int 6)]) (rest := []) (lenOf pd_17 rfl) rfl (by show 2 * 0 + _ ≤ _; exact Nat.le_of_eq rfl) (hb hby at_314) (fun _ _ => ⟨rfl, e252, (by decide : 18 + 0 ≤ _), (by decide : 141 + 0 ≤ _)⟩)
       dsimp only [Pt.U, Pt.locs, Pt.cells, Pt.slots] at X255 l255 y255 z255 st255 hQ255
       subst l255 y255 z255
       obtain ⟨rfl, N255q, e255⟩ := hQ255
       have N255 := Fr.app N252 N255q
       have R256 := Rc.tr R254 st255
       have R257 : Rc p e below A0 (T255.setTop (fl m p1 p2 p3 p4 c0 c1 c2 s0 s1 s2 s3 (.val (.int 3)) (.val (.ref str)) (.val (.ref xr)) (.val (.int 7)) (.val (.int 6)) 327 [(.int 1)])) := by
         intro tgt hgo
         refine R256 tgt ?_
         show Steps p.tables e below (T255.setTop (fl m p1 p2 p3 p4 c0 c1 c2 s0 s1 s2 s3 (.val (.int 3)) (.val (.ref str)) (.val (.ref xr)) (.val (.int 7)) (.val (.int 6)) 317 [(.int 34)])) _
         refine XS.bipush X255.here hx rfl (hb hby at_317) ?_
         refine XS.icmpNo X255.here hx rfl (hb hby at_319) rfl (teq (by decide : (34 : Int32) = (34 : Int32))).2 ?_
         refine XS.iconst X255.here hx rfl (hb hby at_322) ?_
         refine XS.goto X255.here hx rfl (pc0 := 323) (pc' := 327) rfl (hb hby at_323) (by decide) (by decide) ?_
         exact hgo
       subst hA0
       obtain ⟨fs, hr, hrun, hended, hRW⟩ := X255.leaveW hS (by rw [e255]; exact hk) (v := some (.int 1)) (fun h => by rw [Bd.returns] at h; cases h) Bd.notSynchronized
       refine ⟨_, _, R257 _ ?_, hrun, hended, _, _, rfl, ?_, OwnKit.own_fin hRW (by decide) (by decide)⟩
       ·show Steps p.tables e below (T255.setTop (fl m p1 p2 p3 p4 c0 c1 c2 s0 s1 s2 s3 (.val (.int 3)) (.val (.ref str)) (.val (.ref xr)) (.val (.int 7)) (.val (.int 6)) 327 [(.int 1)])) _
        exact retN X255 hx (t := .boolean) Bd.returns (by simp) (hb hby at_327) hr
       ·show Q0 n0 _ T255.heap _
        rw [e255]
        exact ⟨rfl, N255⟩
     ·have R258 : Rc p e below A0 (T207.setTop (fl m p1 p2 p3 p4 c0 c1 c2 s0 s1 s2 s3 (.val (.int 3)) (.val (.ref str)) (.val (.ref xr)) (.val (.int 6)) (.unset) 190 [(.int c1)])) := by
        intro tgt hgo
        refine R209 tgt ?_
        show Steps p.tables e below (T207.setTop (fl m p1 p2 p3 p4 c0 c1 c2 s0 s1 s2 s3 (.val (.int 3)) (.val (.ref str)) (.val (.ref xr)) (.val (.int 6)) (.unset) 188 [])) _
        refine XS.iload X207.here hx rfl (hb hby at_188) rfl ?_
        exact hgo
      obtain ⟨_, _, ⟨T259, L259, k259, n259⟩, -, X259, ⟨Lc259, hQ259, l259, y259, z259⟩, st259⟩ := Jvm.LawKit.callS X207 hx (y := yn28) hown (mvT hZ (w 153 rfl)) (mvT hZ (w 154 rfl)) (mvT hZ (w 155 rfl)) (mvT hZ (w 156 rfl)) (by decide) (backOf (W := 0) (rm_sp l Z a0 hw [] c1 0 T203.heap n0 hZn hs1) hZ (w 156 rfl) (w 155 rfl) (by decide) (by decide)) (g := (fl m p1 p2 p3 p4 c0 c1 c2 s0 s1 s2 s3 (.val (.int 3)) (.val (.ref str)) (.val (.ref xr)) (.val (.int 6)) (.unset) 190 [(.int c1)])) rfl (by rw [hml]; rfl) (argsL := [(.int c1)]) (rest := []) (lenOf pd_10 rfl) rfl (by show 2 * 0 + _ ≤ _; exact Nat.le_of_eq rfl) (hb hby at_190) (fun _ _ => ⟨rfl, e207, (by decide : 18 + 0 ≤ _), (by decide : 141 + 0 ≤ _)⟩)
      dsimp only [Pt.U, Pt.locs, Pt.cells, Pt.slots] at X259 l259 y259 z259 st259 hQ259
      subst l259 y259 z259
      obtain ⟨rfl, N259q, e259⟩ := hQ259
      have N259 := Fr.app N207 N259q
      have R260 := Rc.st R258 st259
      have R261 : Rc p e below A0 (T259.setTop (fl m p1 p2 p3 p4 c0 c1 c2 s0 s1 s2 s3 (.val (.int 3)) (.val (.ref str)) (.val (.ref xr)) (.val (.int 6)) (.unset) 208 [])) := by
        intro tgt hgo
        refine R260 tgt ?_
        show Steps p.tables e below (T259.setTop (fl m p1 p2 p3 p4 c0 c1 c2 s0 s1 s2 s3 (.val (.int 3)) (.val (.ref str)) (.val (.ref xr)) (.val (.int 6)) (.unset) 193 [(.int 0)])) _
        refine XS.ifYes X259.here hx rfl (pc0 := 193) (pc' := 202) rfl (hb hby at_193) rfl ((if0 _ _).trans (teq (by decide : (0 : Int32) = (0 : Int32))).1) (by decide) (by decide) ?_
        refine XS.iload X259.here hx rfl (hb hby at_202) rfl ?_
        refine XS.iconst X259.here hx rfl (hb hby at_204) ?_
        refine XS.icmpNo X259.here hx rfl (hb hby at_205) rfl (flt (by decide : ¬ ((3 : Int32) < (3 : Int32)))).1 ?_
        exact hgo
      rcases own_sp_cases c2 with ⟨hs2, -⟩ | ⟨hs2, -, -⟩
      ·have R262 : Rc p e below A0 (T259.setTop (fl m p1 p2 p3 p4 c0 c1 c2 s0 s1 s2 s3 (.val (.int 3)) (.val (.ref str)) (.val (.ref xr)) (.val (.int 6)) (.unset) 210 [(.int c2)])) := by
         intro tgt hgo
         refine R261 tgt ?_
         show Steps p.tables e below (T259.setTop (fl m p1 p2 p3 p4 c0 c1 c2 s0 s1 s2 s3 (.val (.int 3)) (.val (.ref str)) (.val (.ref xr)) (.val (.int 6)) (.unset) 208 [])) _
         refine XS.iload X259.here hx rfl (hb hby at_208) rfl ?_
         exact hgo
       obtain ⟨_, _, ⟨T263, L263, k263, n263⟩, -, X263, ⟨Lc263, hQ263, l263, y263, z263⟩, st263⟩ := Jvm.LawKit.callS X259 hx (y := yn28) hown (mvT hZ (w 153 rfl)) (mvT hZ (w 154 rfl)) (mvT hZ (w 155 rfl)) (mvT hZ (w 156 rfl)) (by decide) (backOf (W := 0) (rm_sp l Z a0 hw [] c2 1 T203.heap n0 hZn hs2) hZ (w 156 rfl) (w 155 rfl) (by decide) (by decide)) (g := (fl m p1 p2 p3 p4 c0 c1 c2 s0 s1 s2 s3 (.val (.int 3)) (.val (.ref str)) (.val (.ref xr)) (.val (.int 6)) (.unset) 210 [(.int c2)])) rfl (by rw [hml]; rfl) (argsL := [(.int c2)]) (rest := []) (lenOf pd_10 rfl) rfl (by show 2 * 0 + _ ≤ _; exact Nat.le_of_eq rfl) (hb hby at_210) (fun _ _ => ⟨rfl, e259, (by decide : 18 + 0 ≤ _), (by decide : 141 + 0 ≤ _)⟩)
       dsimp only [Pt.U, Pt.locs, Pt.cells, Pt.slots] at X263 l263 y263 z263 st263 hQ263
       subst l263 y263 z263
       obtain ⟨rfl, N263q, e263⟩ := hQ263
       have N263 := Fr.app N259 N263q
       have R264 := Rc.st R262 st263
       have hq : (((([] ++ [own_b 34]) ++ own_esc c0) ++ own_esc c1) ++ own_esc c2) ++ [own_b 34] = [own_b 34, own_b 92, own_b c0, own_b c1, own_b 92, own_b c2, own_b 34] := by simp [own_esc, hs0, hs1, hs2]
       rw [hq] at SFr
       have R265 : Rc p e below A0 (T263.setTop (fl m p1 p2 p3 p4 c0 c1 c2 s0 s1 s2 s3 (.val (.int 3)) (.val (.ref str)) (.val (.ref xr)) (.val (.int 7)) (.unset) 224 [(.ref xr)])) := by
         intro tgt hgo
         refine R264 tgt ?_
         show Steps p.tables e below (T263.setTop (fl m p1 p2 p3 p4 c0 c1 c2 s0 s1 s2 s3 (.val (.int 3)) (.val (.ref str)) (.val (.ref xr)) (.val (.int 6)) (.unset) 213 [(.int 1)])) _
         refine XS.ifNo X263.here hx rfl (hb hby at_213) rfl ((if0 _ _).trans (feq (by decide : ¬ ((1 : Int32) = (0 : Int32)))).1) ?_
         refine XS.iload X263.here hx rfl (hb hby at_216) rfl ?_
         refine XS.iconst X263.here hx rfl (hb hby at_218) ?_
         refine XS.iadd X263.here hx rfl (hb hby at_219) rfl ?_
         refine XS.istore X263.here hx rfl (hb hby at_220) rfl (l' := #[.val (.int p1), .val (.int p2), .val (.int p3), .val (.int p4), .val (.int 3), .val (.int c0), .val (.int c1), .val (.int c2), .val (.ref s0), .val (.ref s1), .val (.ref s2), .val (.ref s3), .val (.ref str), .val (.ref xr), .val (.int 7), .unset]) rfl ?_
         refine XS.aload X263.here hx rfl (hb hby at_222) rfl rfl ?_
         exact hgo
       obtain ⟨cq266, kq266, q266a, q266b, q266c⟩ := isOf hZ e263 E_r
       obtain ⟨_, _, ⟨T266, L266, k266, n266⟩, -, X266, ⟨Lc266, hQ266, l266, y266, z266⟩, st266⟩ := X263.virtualBack hx (y := yn1) (z := yn1) hown (mvT hZ (w 120 rfl)) (mvT hZ (w 30 rfl)) (notFace_of_selects (args := #[]) (mvT hZ (w 32 rfl))) (mvT hZ (w 32 rfl)) (mvT hZ (w 31 rfl)) (by decide) (backOf (W := 0) (rm_length l Z a0 hw [] xr zc tr kr [own_b 34, own_b 92, own_b c0, own_b c1, own_b 92, own_b c2, own_b 34] T203.heap n0 hZn hOld S_cs hz SFr) hZ (w 33 rfl) (w 3 rfl) (by decide) (by decide)) q266a q266c (g := (fl m p1 p2 p3 p4 c0 c1 c2 s0 s1 s2 s3 (.val (.int 3)) (.val (.ref str)) (.val (.ref xr)) (.val (.int 7)) (.unset) 224 [(.ref xr)])) rfl (by rw [hml]; rfl) (Steps.refl _) (argsL := []) (rest := []) (lenOf pd_13 rfl) rfl (by show 2 * 0 + _ ≤ _; exact Nat.le_of_eq rfl) (hb hby at_224) (fun _ _ => ⟨rfl, e263, (by decide : 18 + 0 ≤ _), (by decide : 141 + 0 ≤ _)⟩)
       dsimp only [Pt.U, Pt.locs, Pt.cells, Pt.slots] at X266 l266 y266 z266 st266 hQ266
       subst l266 y266 z266
       obtain ⟨rfl, N266q, e266⟩ := hQ266
       have N266 := Fr.app N263 N266q
       have R267 := Rc.tr R265 st266
       have R268 : Rc p e below A0 (T266.setTop (fl m p1 p2 p3 p4 c0 c1 c2 s0 s1 s2 s3 (.val (.int 3)) (.val (.ref str)) (.val (.ref xr)) (.val (.int 7)) (.unset) 237 [(.int 0), (.ref xr)])) := by
         intro tgt hgo
         refine R267 tgt ?_
         show Steps p.tables e below (T266.setTop (fl m p1 p2 p3 p4 c0 c1 c2 s0 s1 s2 s3 (.val (.int 3)) (.val (.ref str)) (.val (.ref xr)) (.val (.int 7)) (.unset) 227 [(.int 7)])) _
         refine XS.iload X266.here hx rfl (hb hby at_227) rfl ?_
         refine XS.icmpYes X266.here hx rfl (pc0 := 229) (pc' := 234) rfl (hb hby at_229) rfl (teq (by decide : (7 : Int32) = (7 : Int32))).1 (by decide) (by decide) ?_
         refine XS.aload X266.here hx rfl (hb hby at_234) rfl rfl ?_
         refine XS.iconst X266.here hx rfl (hb hby at_236) ?_
         exact hgo
       obtain ⟨cq269, kq269, q269a, q269b, q269c⟩ := isOf hZ e266 E_r
       obtain ⟨_, _, ⟨T269, L269, k269, n269⟩, -, X269, ⟨Lc269, hQ269, l269, y269, z269⟩, st269⟩ := X266.virtualBack hx (y := yn6) (z := yn6) hown (mvT hZ (w 121 rfl)) (mvT hZ (w 122 rfl)) (notFace_of_selects (args := #[]) (mvT hZ (w 124 rfl))) (mvT hZ (w 124 rfl)) (mvT hZ (w 123 rfl)) (by decide) (backOf (W := 0) (rm_charAt l Z a0 hw [] xr (0 : Int32) zc tr kr [own_b 34, own_b 92, own_b c0, own_b c1, own_b 92, own_b c2, own_b 34] 0 34 vf T203.heap n0 hZn rfl hOld S_cs hz S_f hf (by decide) (by show Int32.ofNat 0 < Int32.ofNat 7; decide) rfl own_c34 SFr) hZ (w 125 rfl) (w 3 rfl) (by decide) (by decide)) q269a q269c (g := (fl m p1 p2 p3 p4 c0 c1 c2 s0 s1 s2 s3 (.val (.int 3)) (.val (.ref str)) (.val (.ref xr)) (.val (.int 7)) (.unset) 237 [(.int 0), (.ref xr)])) rfl (by rw [hml]; rfl) (Steps.refl _) (argsL := [(.int 0)]) (rest := []) (lenOf pd_17 rfl) rfl (by show 2 * 0 + _ ≤ _; exact Nat.le_of_eq rfl) (hb hby at_237) (fun _ _ => ⟨rfl, e266, (by decide : 18 + 0 ≤ _), (by decide : 141 + 0 ≤ _)⟩)
       dsimp only [Pt.U, Pt.locs, Pt.cells, Pt.slots] at X269 l269 y269 z269 st269 hQ269
       subst l269 y269 z269
       obtain ⟨rfl, N269q, e269⟩ := hQ269
       have N269 := Fr.app N266 N269q
       have R270 := Rc.tr R268 st269
       have R271 : Rc p e below A0 (T269.setTop (fl m p1 p2 p3 p4 c0 c1 c2 s0 s1 s2 s3 (.val (.int 3)) (.val (.ref str)) (.val (.ref xr)) (.val (.int 7)) (.val (.int 1)) 262 [(.int c0), (.int 1), (.ref xr)])) := by
         intro tgt hgo
         refine R270 tgt ?_
         show Steps p.tables e below (T269.setTop (fl m p1 p2 p3 p4 c0 c1 c2 s0 s1 s2 s3 (.val (.int 3)) (.val (.ref str)) (.val (.ref xr)) (.val (.int 7)) (.unset) 240 [(.int 34)])) _
         refine XS.bipush X269.here hx rfl (hb hby at_240) ?_
         refine XS.icmpYes X269.here hx rfl (pc0 := 242) (pc' := 247) rfl (hb hby at_242) rfl (teq (by decide : (34 : Int32) = (34 : Int32))).1 (by decide) (by decide) ?_
         refine XS.iconst X269.here hx rfl (hb hby at_247) ?_
         refine XS.istore X269.here hx rfl (hb hby at_248) rfl (l' := #[.val (.int p1), .val (.int p2), .val (.int p3), .val (.int p4), .val (.int 3), .val (.int c0), .val (.int c1), .val (.int c2), .val (.ref s0), .val (.ref s1), .val (.ref s2), .val (.ref s3), .val (.ref str), .val (.ref xr), .val (.int 7), .val (.int 1)]) rfl ?_
         refine XS.iload X269.here hx rfl (hb hby at_250) rfl ?_
         refine XS.iconst X269.here hx rfl (hb hby at_252) ?_
         refine XS.icmpNo X269.here hx rfl (hb hby at_253) rfl (flt (by decide : ¬ ((3 : Int32) < (1 : Int32)))).1 ?_
         refine XS.aload X269.here hx rfl (hb hby at_256) rfl rfl ?_
         refine XS.iload X269.here hx rfl (hb hby at_258) rfl ?_
         refine XS.iload X269.here hx rfl (hb hby at_260) rfl ?_
         exact hgo
       obtain ⟨_, _, ⟨T272, L272, k272, n272⟩, -, X272, ⟨Lc272, hQ272, l272, y272, z272⟩, st272⟩ := Jvm.LawKit.callS X269 hx (y := yn29) hown (mvT hZ (w 157 rfl)) (mvT hZ (w 158 rfl)) (mvT hZ (w 155 rfl)) (mvT hZ (w 159 rfl)) (by decide) (backOf (W := 0) (rm_step1 l Z a0 hw [] xr (1 : Int32) c0 zc tr kr [own_b 34, own_b 92, own_b c0, own_b c1, own_b 92, own_b c2, own_b 34] 1 vf T203.heap n0 hZn rfl hc0 hs0 hOld S_cs hz S_f hf (by show 7 < 2147483647; decide) (by show 1 < 7; decide) rfl (by show 2 < 7; decide) rfl SFr) hZ (w 159 rfl) (w 155 rfl) (by decide) (by decide)) (g := (fl m p1 p2 p3 p4 c0 c1 c2 s0 s1 s2 s3 (.val (.int 3)) (.val (.ref str)) (.val (.ref xr)) (.val (.int 7)) (.val (.int 1)) 262 [(.int c0), (.int 1), (.ref xr)])) rfl (by rw [hml]; rfl) (argsL := [(.ref xr), (.int 1), (.int c0)]) (rest := []) (lenOf pd_23 rfl) rfl (by show 2 * 0 + _ ≤ _; exact Nat.le_of_eq rfl) (hb hby at_262) (fun _ _ => ⟨rfl, e269, (by decide : 18 + 0 ≤ _), (by decide : 141 + 0 ≤ _)⟩)
       dsimp only [Pt.U, Pt.locs, Pt.cells, Pt.slots] at X272 l272 y272 z272 st272 hQ272
       subst l272 y272 z272
       obtain ⟨rfl, N272q, e272⟩ := hQ272
       have N272 := Fr.app N269 N272q
       have R273 := Rc.st R271 st272
       have R274 : Rc p e below A0 (T272.setTop (fl m p1 p2 p3 p4 c0 c1 c2 s0 s1 s2 s3 (.val (.int 3)) (.val (.ref str)) (.val (.ref xr)) (.val (.int 7)) (.val (.int 3)) 279 [(.int c1), (.int 3), (.ref xr)])) := by
         intro tgt hgo
         refine R273 tgt ?_
         show Steps p.tables e below (T272.setTop (fl m p1 p2 p3 p4 c0 c1 c2 s0 s1 s2 s3 (.val (.int 3)) (.val (.ref str)) (.val (.ref xr)) (.val (.int 7)) (.val (.int 1)) 265 [(.int 3)])) _
         refine XS.istore X272.here hx rfl (hb hby at_265) rfl (l' := #[.val (.int p1), .val (.int p2), .val (.int p3), .val (.int p4), .val (.int 3), .val (.int c0), .val (.int c1), .val (.int c2), .val (.ref s0), .val (.ref s1), .val (.ref s2), .val (.ref s3), .val (.ref str), .val (.ref xr), .val (.int 7), .val (.int 3)]) rfl ?_
         refine XS.iload X272.here hx rfl (hb hby at_267) rfl ?_
         refine XS.iconst X272.here hx rfl (hb hby at_269) ?_
         refine XS.icmpNo X272.here hx rfl (hb hby at_270) rfl (flt (by decide : ¬ ((3 : Int32) < (2 : Int32)))).1 ?_
         refine XS.aload X272.here hx rfl (hb hby at_273) rfl rfl ?_
         refine XS.iload X272.here hx rfl (hb hby at_275) rfl ?_
         refine XS.iload X272.here hx rfl (hb hby at_277) rfl ?_
         exact hgo
       obtain ⟨_, _, ⟨T275, L275, k275, n275⟩, -, X275, ⟨Lc275, hQ275, l275, y275, z275⟩, st275⟩ := Jvm.LawKit.callS X272 hx (y := yn29) hown (mvT hZ (w 157 rfl)) (mvT hZ (w 158 rfl)) (mvT hZ (w 155 rfl)) (mvT hZ (w 159 rfl)) (by decide) (backOf (W := 0) (rm_step0 l Z a0 hw [] xr (3 : Int32) c1 zc tr kr [own_b 34, own_b 92, own_b c0, own_b c1, own_b 92, own_b c2, own_b 34] 3 vf T203.heap n0 hZn rfl hc1 hs1 hOld S_cs hz S_f hf (by show 7 < 2147483647; decide) (by show 3 < 7; decide) rfl SFr) hZ (w 159 rfl) (w 155 rfl) (by decide) (by decide)) (g := (fl m p1 p2 p3 p4 c0 c1 c2 s0 s1 s2 s3 (.val (.int 3)) (.val (.ref str)) (.val (.ref xr)) (.val (.int 7)) (.val (.int 3)) 279 [(.int c1), (.int 3), (.ref xr)])) rfl (by rw [hml]; rfl) (argsL := [(.ref xr), (.int 3), (.int c1)]) (rest := []) (lenOf pd_23 rfl) rfl (by show 2 * 0 + _ ≤ _; exact Nat.le_of_eq rfl) (hb hby at_279) (fun _ _ => ⟨rfl, e272, (by decide : 18 + 0 ≤ _), (by decide : 141 + 0 ≤ _)⟩)
       dsimp only [Pt.U, Pt.locs, Pt.cells, Pt.slots] at X275 l275 y275 z275 st275 hQ275
       subst l275 y275 z275
       obtain ⟨rfl, N275q, e275⟩ := hQ275
       have N275 := Fr.app N272 N275q
       have R276 := Rc.st R274 st275
       have R277 : Rc p e below A0 (T275.setTop (fl m p1 p2 p3 p4 c0 c1 c2 s0 s1 s2 s3 (.val (.int 3)) (.val (.ref str)) (.val (.ref xr)) (.val (.int 7)) (.val (.int 4)) 296 [(.int c2), (.int 4), (.ref xr)])) := by
         intro tgt hgo
         refine R276 tgt ?_
         show Steps p.tables e below (T275.setTop (fl m p1 p2 p3 p4 c0 c1 c2 s0 s1 s2 s3 (.val (.int 3)) (.val (.ref str)) (.val (.ref xr)) (.val (.int 7)) (.val (.int 3)) 282 [(.int 4)])) _
         refine XS.istore X275.here hx rfl (hb hby at_282) rfl (l' := #[.val (.int p1), .val (.int p2), .val (.int p3), .val (.int p4), .val (.int 3), .val (.int c0), .val (.int c1), .val (.int c2), .val (.ref s0), .val (.ref s1), .val (.ref s2), .val (.ref s3), .val (.ref str), .val (.ref xr), .val (.int 7), .val (.int 4)]) rfl ?_
         refine XS.iload X275.here hx rfl (hb hby at_284) rfl ?_
         refine XS.iconst X275.here hx rfl (hb hby at_286) ?_
         refine XS.icmpNo X275.here hx rfl (hb hby at_287) rfl (flt (by decide : ¬ ((3 : Int32) < (3 : Int32)))).1 ?_
         refine XS.aload X275.here hx rfl (hb hby at_290) rfl rfl ?_
         refine XS.iload X275.here hx rfl (hb hby at_292) rfl ?_
         refine XS.iload X275.here hx rfl (hb hby at_294) rfl ?_
         exact hgo
       obtain ⟨_, _, ⟨T278, L278, k278, n278⟩, -, X278, ⟨Lc278, hQ278, l278, y278, z278⟩, st278⟩ := Jvm.LawKit.callS X275 hx (y := yn29) hown (mvT hZ (w 157 rfl)) (mvT hZ (w 158 rfl)) (mvT hZ (w 155 rfl)) (mvT hZ (w 159 rfl)) (by decide) (backOf (W := 0) (rm_step1 l Z a0 hw [] xr (4 : Int32) c2 zc tr kr [own_b 34, own_b 92, own_b c0, own_b c1, own_b 92, own_b c2, own_b 34] 4 vf T203.heap n0 hZn rfl hc2 hs2 hOld S_cs hz S_f hf (by show 7 < 2147483647; decide) (by show 4 < 7; decide) rfl (by show 5 < 7; decide) rfl SFr) hZ (w 159 rfl) (w 155 rfl) (by decide) (by decide)) (g := (fl m p1 p2 p3 p4 c0 c1 c2 s0 s1 s2 s3 (.val (.int 3)) (.val (.ref str)) (.val (.ref xr)) (.val (.int 7)) (.val (.int 4)) 296 [(.int c2), (.int 4), (.ref xr)])) rfl (by rw [hml]; rfl) (argsL := [(.ref xr), (.int 4), (.int c2)]) (rest := []) (lenOf pd_23 rfl) rfl (by show 2 * 0 + _ ≤ _; exact Nat.le_of_eq rfl) (hb hby at_296) (fun _ _ => ⟨rfl, e275, (by decide : 18 + 0 ≤ _), (by decide : 141 + 0 ≤ _)⟩)
       dsimp only [Pt.U, Pt.locs, Pt.cells, Pt.slots] at X278 l278 y278 z278 st278 hQ278
       subst l278 y278 z278
       obtain ⟨rfl, N278q, e278⟩ := hQ278
       have N278 := Fr.app N275 N278q
       have R279 := Rc.st R277 st278
       have R280 : Rc p e below A0 (T278.setTop (fl m p1 p2 p3 p4 c0 c1 c2 s0 s1 s2 s3 (.val (.int 3)) (.val (.ref str)) (.val (.ref xr)) (.val (.int 7)) (.val (.int 6)) 314 [(.int 6), (.ref xr)])) := by
         intro tgt hgo
         refine R279 tgt ?_
         show Steps p.tables e below (T278.setTop (fl m p1 p2 p3 p4 c0 c1 c2 s0 s1 s2 s3 (.val (.int 3)) (.val (.ref str)) (.val (.ref xr)) (.val (.int 7)) (.val (.int 4)) 299 [(.int 6)])) _
         refine XS.istore X278.here hx rfl (hb hby at_299) rfl (l' := #[.val (.int p1), .val (.int p2), .val (.int p3), .val (.int p4), .val (.int 3), .val (.int c0), .val (.int c1), .val (.int c2), .val (.ref s0), .val (.ref s1), .val (.ref s2), .val (.ref s3), .val (.ref str), .val (.ref xr), .val (.int 7), .val (.int 6)]) rfl ?_
         refine XS.iload X278.here hx rfl (hb hby at_301) rfl ?_
         refine XS.iload X278.here hx rfl (hb hby at_303) rfl ?_
         refine XS.iconst X278.here hx rfl (hb hby at_305) ?_
         refine XS.isub X278.here hx rfl (hb hby at_306) rfl ?_
         refine XS.icmpNo X278.here hx rfl (hb hby at_307) rfl (teq (by decide : (6 : Int32) = (6 : Int32))).2 ?_
         refine XS.aload X278.here hx rfl (hb hby at_310) rfl rfl ?_
         refine XS.iload X278.here hx rfl (hb hby at_312) rfl ?_
         exact hgo
       obtain ⟨cq281, kq281, q281a, q281b, q281c⟩ := isOf hZ e278 E_r
       obtain ⟨_, _, ⟨T281, L281, k281, n281⟩, -, X281, ⟨Lc281, hQ281, l281, y281, z281⟩, st281⟩ := X278.virtualBack hx (y := yn6) (z := yn6) hown (mvT hZ (w 121 rfl)) (mvT hZ (w 122 rfl)) (notFace_of_selects (args := #[]) (mvT hZ (w 124 rfl))) (mvT hZ (w 124 rfl)) (mvT hZ (w 123 rfl)) (by decide) (backOf (W := 0) (rm_charAt l Z a0 hw [] xr (6 : Int32) zc tr kr [own_b 34, own_b 92, own_b c0, own_b c1, own_b 92, own_b c2, own_b 34] 6 34 vf T203.heap n0 hZn rfl hOld S_cs hz S_f hf (by decide) (by show Int32.ofNat 6 < Int32.ofNat 7; decide) rfl own_c34 SFr) hZ (w 125 rfl) (w 3 rfl) (by decide) (by decide)) q281a q281c (g := (fl m p1 p2 p3 p4 c0 c1 c2 s0 s1 s2 s3 (.val (.int 3)) (.val (.ref str)) (.val (.ref xr)) (.val (.int 7)) (.val (.int 6)) 314 [(.int 6), (.ref xr)])) rfl (by rw [hml]; rfl) (Steps.refl _) (argsL := [(.int 6)]) (rest := []) (lenOf pd_17 rfl) rfl (by show 2 * 0 + _ ≤ _; exact Nat.le_of_eq rfl) (hb hby at_314) (fun _ _ => ⟨rfl, e278, (by decide : 18 + 0 ≤ _), (by decide : 141 + 0 ≤ _)⟩)
       dsimp only [Pt.U, Pt.locs, Pt.cells, Pt.slots] at X281 l281 y281 z281 st281 hQ281
       subst l281 y281 z281
       obtain ⟨rfl, N281q, e281⟩ := hQ281
       have N281 := Fr.app N278 N281q
       have R282 := Rc.tr R280 st281
       have R283 : Rc p e below A0 (T281.setTop (fl m p1 p2 p3 p4 c0 c1 c2 s0 s1 s2 s3 (.val (.int 3)) (.val (.ref str)) (.val (.ref xr)) (.val (.int 7)) (.val (.int 6)) 327 [(.int 1)])) := by
         intro tgt hgo
         refine R282 tgt ?_
         show Steps p.tables e below (T281.setTop (fl m p1 p2 p3 p4 c0 c1 c2 s0 s1 s2 s3 (.val (.int 3)) (.val (.ref str)) (.val (.ref xr)) (.val (.int 7)) (.val (.int 6)) 317 [(.int 34)])) _
         refine XS.bipush X281.here hx rfl (hb hby at_317) ?_
         refine XS.icmpNo X281.here hx rfl (hb hby at_319) rfl (teq (by decide : (34 : Int32) = (34 : Int32))).2 ?_
         refine XS.iconst X281.here hx rfl (hb hby at_322) ?_
         refine XS.goto X281.here hx rfl (pc0 := 323) (pc' := 327) rfl (hb hby at_323) (by decide) (by decide) ?_
         exact hgo
       subst hA0
       obtain ⟨fs, hr, hrun, hended, hRW⟩ := X281.leaveW hS (by rw [e281]; exact hk) (v := some (.int 1)) (fun h => by rw [Bd.returns] at h; cases h) Bd.notSynchronized
       refine ⟨_, _, R283 _ ?_, hrun, hended, _, _, rfl, ?_, OwnKit.own_fin hRW (by decide) (by decide)⟩
       ·show Steps p.tables e below (T281.setTop (fl m p1 p2 p3 p4 c0 c1 c2 s0 s1 s2 s3 (.val (.int 3)) (.val (.ref str)) (.val (.ref xr)) (.val (.int 7)) (.val (.int 6)) 327 [(.int 1)])) _
        exact retN X281 hx (t := .boolean) Bd.returns (by simp) (hb hby at_327) hr
       ·show Q0 n0 _ T281.heap _
        rw [e281]
        exact ⟨rfl, N281⟩
      ·have R284 : Rc p e below A0 (T259.setTop (fl m p1 p2 p3 p4 c0 c1 c2 s0 s1 s2 s3 (.val (.int 3)) (.val (.ref str)) (.val (.ref xr)) (.val (.int 6)) (.unset) 210 [(.int c2)])) := by
         intro tgt hgo
         refine R261 tgt ?_
         show Steps p.tables e below (T259.setTop (fl m p1 p2 p3 p4 c0 c1 c2 s0 s1 s2 s3 (.val (.int 3)) (.val (.ref str)) (.val (.ref xr)) (.val (.int 6)) (.unset) 208 [])) _
         refine XS.iload X259.here hx rfl (hb hby at_208) rfl ?_
         exact hgo
       obtain ⟨_, _, ⟨T285, L285, k285, n285⟩, -, X285, ⟨Lc285, hQ285, l285, y285, z285⟩, st285⟩ := Jvm.LawKit.callS X259 hx (y := yn28) hown (mvT hZ (w 153 rfl)) (mvT hZ (w 154 rfl)) (mvT hZ (w 155 rfl)) (mvT hZ (w 156 rfl)) (by decide) (backOf (W := 0) (rm_sp l Z a0 hw [] c2 0 T203.heap n0 hZn hs2) hZ (w 156 rfl) (w 155 rfl) (by decide) (by decide)) (g := (fl m p1 p2 p3 p4 c0 c1 c2 s0 s1 s2 s3 (.val (.int 3)) (.val (.ref str)) (.val (.ref xr)) (.val (.int 6)) (.unset) 210 [(.int c2)])) rfl (by rw [hml]; rfl) (argsL := [(.int c2)]) (rest := []) (lenOf pd_10 rfl) rfl (by show 2 * 0 + _ ≤ _; exact Nat.le_of_eq rfl) (hb hby at_210) (fun _ _ => ⟨rfl, e259, (by decide : 18 + 0 ≤ _), (by decide : 141 + 0 ≤ _)⟩)
       dsimp only [Pt.U, Pt.locs, Pt.cells, Pt.slots] at X285 l285 y285 z285 st285 hQ285
       subst l285 y285 z285
       obtain ⟨rfl, N285q, e285⟩ := hQ285
       have N285 := Fr.app N259 N285q
       have R286 := Rc.st R284 st285
       have hq : (((([] ++ [own_b 34]) ++ own_esc c0) ++ own_esc c1) ++ own_esc c2) ++ [own_b 34] = [own_b 34, own_b 92, own_b c0, own_b c1, own_b c2, own_b 34] := by simp [own_esc, hs0, hs1, hs2]
       rw [hq] at SFr
       have R287 : Rc p e below A0 (T285.setTop (fl m p1 p2 p3 p4 c0 c1 c2 s0 s1 s2 s3 (.val (.int 3)) (.val (.ref str)) (.val (.ref xr)) (.val (.int 6)) (.unset) 224 [(.ref xr)])) := by
         intro tgt hgo
         refine R286 tgt ?_
         show Steps p.tables e below (T285.setTop (fl m p1 p2 p3 p4 c0 c1 c2 s0 s1 s2 s3 (.val (.int 3)) (.val (.ref str)) (.val (.ref xr)) (.val (.int 6)) (.unset) 213 [(.int 0)])) _
         refine XS.ifYes X285.here hx rfl (pc0 := 213) (pc' := 222) rfl (hb hby at_213) rfl ((if0 _ _).trans (teq (by decide : (0 : Int32) = (0 : Int32))).1) (by decide) (by decide) ?_
         refine XS.aload X285.here hx rfl (hb hby at_222) rfl rfl ?_
         exact hgo
       obtain ⟨cq288, kq288, q288a, q288b, q288c⟩ := isOf hZ e285 E_r
       obtain ⟨_, _, ⟨T288, L288, k288, n288⟩, -, X288, ⟨Lc288, hQ288, l288, y288, z288⟩, st288⟩ := X285.virtualBack hx (y := yn1) (z := yn1) hown (mvT hZ (w 120 rfl)) (mvT hZ (w 30 rfl)) (notFace_of_selects (args := #[]) (mvT hZ (w 32 rfl))) (mvT hZ (w 32 rfl)) (mvT hZ (w 31 rfl)) (by decide) (backOf (W := 0) (rm_length l Z a0 hw [] xr zc tr kr [own_b 34, own_b 92, own_b c0, own_b c1, own_b c2, own_b 34] T203.heap n0 hZn hOld S_cs hz SFr) hZ (w 33 rfl) (w 3 rfl) (by decide) (by decide)) q288a q288c (g := (fl m p1 p2 p3 p4 c0 c1 c2 s0 s1 s2 s3 (.val (.int 3)) (.val (.ref str)) (.val (.ref xr)) (.val (.int 6)) (.unset) 224 [(.ref xr)])) rfl (by rw [hml]; rfl) (Steps.refl _) (argsL := []) (rest := []) (lenOf pd_13 rfl) rfl (by show 2 * 0 + _ ≤ _; exact Nat.le_of_eq rfl) (hb hby at_224) (fun _ _ => ⟨rfl, e285, (by decide : 18 + 0 ≤ _), (by decide : 141 + 0 ≤ _)⟩)
       dsimp only [Pt.U, Pt.locs, Pt.cells, Pt.slots] at X288 l288 y288 z288 st288 hQ288
       subst l288 y288 z288
       obtain ⟨rfl, N288q, e288⟩ := hQ288
       have N288 := Fr.app N285 N288q
       have R289 := Rc.tr R287 st288
       have R290 : Rc p e below A0 (T288.setTop (fl m p1 p2 p3 p4 c0 c1 c2 s0 s1 s2 s3 (.val (.int 3)) (.val (.ref str)) (.val (.ref xr)) (.val (.int 6)) (.unset) 237 [(.int 0), (.ref xr)])) := by
         intro tgt hgo
         refine R289 tgt ?_
         show Steps p.tables e below (T288.setTop (fl m p1 p2 p3 p4 c0 c1 c2 s0 s1 s2 s3 (.val (.int 3)) (.val (.ref str)) (.val (.ref xr)) (.val (.int 6)) (.unset) 227 [(.int 6)])) _
         refine XS.iload X288.here hx rfl (hb hby at_227) rfl ?_
         refine XS.icmpYes X288.here hx rfl (pc0 := 229) (pc' := 234) rfl (hb hby at_229) rfl (teq (by decide : (6 : Int32) = (6 : Int32))).1 (by decide) (by decide) ?_
         refine XS.aload X288.here hx rfl (hb hby at_234) rfl rfl ?_
         refine XS.iconst X288.here hx rfl (hb hby at_236) ?_
         exact hgo
       obtain ⟨cq291, kq291, q291a, q291b, q291c⟩ := isOf hZ e288 E_r
       obtain ⟨_, _, ⟨T291, L291, k291, n291⟩, -, X291, ⟨Lc291, hQ291, l291, y291, z291⟩, st291⟩ := X288.virtualBack hx (y := yn6) (z := yn6) hown (mvT hZ (w 121 rfl)) (mvT hZ (w 122 rfl)) (notFace_of_selects (args := #[]) (mvT hZ (w 124 rfl))) (mvT hZ (w 124 rfl)) (mvT hZ (w 123 rfl)) (by decide) (backOf (W := 0) (rm_charAt l Z a0 hw [] xr (0 : Int32) zc tr kr [own_b 34, own_b 92, own_b c0, own_b c1, own_b c2, own_b 34] 0 34 vf T203.heap n0 hZn rfl hOld S_cs hz S_f hf (by decide) (by show Int32.ofNat 0 < Int32.ofNat 6; decide) rfl own_c34 SFr) hZ (w 125 rfl) (w 3 rfl) (by decide) (by decide)) q291a q291c (g := (fl m p1 p2 p3 p4 c0 c1 c2 s0 s1 s2 s3 (.val (.int 3)) (.val (.ref str)) (.val (.ref xr)) (.val (.int 6)) (.unset) 237 [(.int 0), (.ref xr)])) rfl (by rw [hml]; rfl) (Steps.refl _) (argsL := [(.int 0)]) (rest := []) (lenOf pd_17 rfl) rfl (by show 2 * 0 + _ ≤ _; exact Nat.le_of_eq rfl) (hb hby at_237) (fun _ _ => ⟨rfl, e288, (by decide : 18 + 0 ≤ _), (by decide : 141 + 0 ≤ _)⟩)
       dsimp only [Pt.U, Pt.locs, Pt.cells, Pt.slots] at X291 l291 y291 z291 st291 hQ291
       subst l291 y291 z291
       obtain ⟨rfl, N291q, e291⟩ := hQ291
       have N291 := Fr.app N288 N291q
       have R292 := Rc.tr R290 st291
       have R293 : Rc p e below A0 (T291.setTop (fl m p1 p2 p3 p4 c0 c1 c2 s0 s1 s2 s3 (.val (.int 3)) (.val (.ref str)) (.val (.ref xr)) (.val (.int 6)) (.val (.int 1)) 262 [(.int c0), (.int 1), (.ref xr)])) := by
         intro tgt hgo
         refine R292 tgt ?_
         show Steps p.tables e below (T291.setTop (fl m p1 p2 p3 p4 c0 c1 c2 s0 s1 s2 s3 (.val (.int 3)) (.val (.ref str)) (.val (.ref xr)) (.val (.int 6)) (.unset) 240 [(.int 34)])) _
         refine XS.bipush X291.here hx rfl (hb hby at_240) ?_
         refine XS.icmpYes X291.here hx rfl (pc0 := 242) (pc' := 247) rfl (hb hby at_242) rfl (teq (by decide : (34 : Int32) = (34 : Int32))).1 (by decide) (by decide) ?_
         refine XS.iconst X291.here hx rfl (hb hby at_247) ?_
         refine XS.istore X291.here hx rfl (hb hby at_248) rfl (l' := #[.val (.int p1), .val (.int p2), .val (.int p3), .val (.int p4), .val (.int 3), .val (.int c0), .val (.int c1), .val (.int c2), .val (.ref s0), .val (.ref s1), .val (.ref s2), .val (.ref s3), .val (.ref str), .val (.ref xr), .val (.int 6), .val (.int 1)]) rfl ?_
         refine XS.iload X291.here hx rfl (hb hby at_250) rfl ?_
         refine XS.iconst X291.here hx rfl (hb hby at_252) ?_
         refine XS.icmpNo X291.here hx rfl (hb hby at_253) rfl (flt (by decide : ¬ ((3 : Int32) < (1 : Int32)))).1 ?_
         refine XS.aload X291.here hx rfl (hb hby at_256) rfl rfl ?_
         refine XS.iload X291.here hx rfl (hb hby at_258) rfl ?_
         refine XS.iload X291.here hx rfl (hb hby at_260) rfl ?_
         exact hgo
       obtain ⟨_, _, ⟨T294, L294, k294, n294⟩, -, X294, ⟨Lc294, hQ294, l294, y294, z294⟩, st294⟩ := Jvm.LawKit.callS X291 hx (y := yn29) hown (mvT hZ (w 157 rfl)) (mvT hZ (w 158 rfl)) (mvT hZ (w 155 rfl)) (mvT hZ (w 159 rfl)) (by decide) (backOf (W := 0) (rm_step1 l Z a0 hw [] xr (1 : Int32) c0 zc tr kr [own_b 34, own_b 92, own_b c0, own_b c1, own_b c2, own_b 34] 1 vf T203.heap n0 hZn rfl hc0 hs0 hOld S_cs hz S_f hf (by show 6 < 2147483647; decide) (by show 1 < 6; decide) rfl (by show 2 < 6; decide) rfl SFr) hZ (w 159 rfl) (w 155 rfl) (by decide) (by decide)) (g := (fl m p1 p2 p3 p4 c0 c1 c2 s0 s1 s2 s3 (.val (.int 3)) (.val (.ref str)) (.val (.ref xr)) (.val (.int 6)) (.val (.int 1)) 262 [(.int c0), (.int 1), (.ref xr)])) rfl (by rw [hml]; rfl) (argsL := [(.ref xr), (.int 1), (.int c0)]) (rest := []) (lenOf pd_23 rfl) rfl (by show 2 * 0 + _ ≤ _; exact Nat.le_of_eq rfl) (hb hby at_262) (fun _ _ => ⟨rfl, e291, (by decide : 18 + 0 ≤ _), (by decide : 141 + 0 ≤ _)⟩)
       dsimp only [Pt.U, Pt.locs, Pt.cells, Pt.slots] at X294 l294 y294 z294 st294 hQ294
       subst l294 y294 z294
       obtain ⟨rfl, N294q, e294⟩ := hQ294
       have N294 := Fr.app N291 N294q
       have R295 := Rc.st R293 st294
       have R296 : Rc p e below A0 (T294.setTop (fl m p1 p2 p3 p4 c0 c1 c2 s0 s1 s2 s3 (.val (.int 3)) (.val (.ref str)) (.val (.ref xr)) (.val (.int 6)) (.val (.int 3)) 279 [(.int c1), (.int 3), (.ref xr)])) := by
         intro tgt hgo
         refine R295 tgt ?_
         show Steps p.tables e below (T294.setTop (fl m p1 p2 p3 p4 c0 c1 c2 s0 s1 s2 s3 (.val (.int 3)) (.val (.ref str)) (.val (.ref xr)) (.val (.int 6)) (.val (.int 1)) 265 [(.int 3)])) _
         refine XS.istore X294.here hx rfl (hb hby at_265) rfl (l' := #[.val (.int p1), .val (.int p2), .val (.int p3), .val (.int p4), .val (.int 3), .val (.int c0), .val (.int c1), .val (.int c2), .val (.ref s0), .val (.ref s1), .val (.ref s2), .val (.ref s3), .val (.ref str), .val (.ref xr), .val (.int 6), .val (.int 3)]) rfl ?_
         refine XS.iload X294.here hx rfl (hb hby at_267) rfl ?_
         refine XS.iconst X294.here hx rfl (hb hby at_269) ?_
         refine XS.icmpNo X294.here hx rfl (hb hby at_270) rfl (flt (by decide : ¬ ((3 : Int32) < (2 : Int32)))).1 ?_
         refine XS.aload X294.here hx rfl (hb hby at_273) rfl rfl ?_
         refine XS.iload X294.here hx rfl (hb hby at_275) rfl ?_
         refine XS.iload X294.here hx rfl (hb hby at_277) rfl ?_
         exact hgo
       obtain ⟨_, _, ⟨T297, L297, k297, n297⟩, -, X297, ⟨Lc297, hQ297, l297, y297, z297⟩, st297⟩ := Jvm.LawKit.callS X294 hx (y := yn29) hown (mvT hZ (w 157 rfl)) (mvT hZ (w 158 rfl)) (mvT hZ (w 155 rfl)) (mvT hZ (w 159 rfl)) (by decide) (backOf (W := 0) (rm_step0 l Z a0 hw [] xr (3 : Int32) c1 zc tr kr [own_b 34, own_b 92, own_b c0, own_b c1, own_b c2, own_b 34] 3 vf T203.heap n0 hZn rfl hc1 hs1 hOld S_cs hz S_f hf (by show 6 < 2147483647; decide) (by show 3 < 6; decide) rfl SFr) hZ (w 159 rfl) (w 155 rfl) (by decide) (by decide)) (g := (fl m p1 p2 p3 p4 c0 c1 c2 s0 s1 s2 s3 (.val (.int 3)) (.val (.ref str)) (.val (.ref xr)) (.val (.int 6)) (.val (.int 3)) 279 [(.int c1), (.int 3), (.ref xr)])) rfl (by rw [hml]; rfl) (argsL := [(.ref xr), (.int 3), (.int c1)]) (rest := []) (lenOf pd_23 rfl) rfl (by show 2 * 0 + _ ≤ _; exact Nat.le_of_eq rfl) (hb hby at_279) (fun _ _ => ⟨rfl, e294, (by decide : 18 + 0 ≤ _), (by decide : 141 + 0 ≤ _)⟩)
       dsimp only [Pt.U, Pt.locs, Pt.cells, Pt.slots] at X297 l297 y297 z297 st297 hQ297
       subst l297 y297 z297
       obtain ⟨rfl, N297q, e297⟩ := hQ297
       have N297 := Fr.app N294 N297q
       have R298 := Rc.st R296 st297
       have R299 : Rc p e below A0 (T297.setTop (fl m p1 p2 p3 p4 c0 c1 c2 s0 s1 s2 s3 (.val (.int 3)) (.val (.ref str)) (.val (.ref xr)) (.val (.int 6)) (.val (.int 4)) 296 [(.int c2), (.int 4), (.ref xr)])) := by
         intro tgt hgo
         refine R298 tgt ?_
         show Steps p.tables e below (T297.setTop (fl m p1 p2 p3 p4 c0 c1 c2 s0 s1 s2 s3 (.val (.int 3)) (.val (.ref str)) (.val (.ref xr)) (.val (.int 6)) (.val (.int 3)) 282 [(.int 4)])) _
         refine XS.istore X297.here hx rfl (hb hby at_282) rfl (l' := #[.val (.int p1), .val (.int p2), .val (.int p3), .val (.int p4), .val (.int 3), .val (.int c0), .val (.int c1), .val (.int c2), .val (.ref s0), .val (.ref s1), .val (.ref s2), .val (.ref s3), .val (.ref str), .val (.ref xr), .val (.int 6), .val (.int 4)]) rfl ?_
         refine XS.iload X297.here hx rfl (hb hby at_284) rfl ?_
         refine XS.iconst X297.here hx rfl (hb hby at_286) ?_
         refine XS.icmpNo X297.here hx rfl (hb hby at_287) rfl (flt (by decide : ¬ ((3 : Int32) < (3 : Int32)))).1 ?_
         refine XS.aload X297.here hx rfl (hb hby at_290) rfl rfl ?_
         refine XS.iload X297.here hx rfl (hb hby at_292) rfl ?_
         refine XS.iload X297.here hx rfl (hb hby at_294) rfl ?_
         exact hgo
       obtain ⟨_, _, ⟨T300, L300, k300, n300⟩, -, X300, ⟨Lc300, hQ300, l300, y300, z300⟩, st300⟩ := Jvm.LawKit.callS X297 hx (y := yn29) hown (mvT hZ (w 157 rfl)) (mvT hZ (w 158 rfl)) (mvT hZ (w 155 rfl)) (mvT hZ (w 159 rfl)) (by decide) (backOf (W := 0) (rm_step0 l Z a0 hw [] xr (4 : Int32) c2 zc tr kr [own_b 34, own_b 92, own_b c0, own_b c1, own_b c2, own_b 34] 4 vf T203.heap n0 hZn rfl hc2 hs2 hOld S_cs hz S_f hf (by show 6 < 2147483647; decide) (by show 4 < 6; decide) rfl SFr) hZ (w 159 rfl) (w 155 rfl) (by decide) (by decide)) (g := (fl m p1 p2 p3 p4 c0 c1 c2 s0 s1 s2 s3 (.val (.int 3)) (.val (.ref str)) (.val (.ref xr)) (.val (.int 6)) (.val (.int 4)) 296 [(.int c2), (.int 4), (.ref xr)])) rfl (by rw [hml]; rfl) (argsL := [(.ref xr), (.int 4), (.int c2)]) (rest := []) (lenOf pd_23 rfl) rfl (by show 2 * 0 + _ ≤ _; exact Nat.le_of_eq rfl) (hb hby at_296) (fun _ _ => ⟨rfl, e297, (by decide : 18 + 0 ≤ _), (by decide : 141 + 0 ≤ _)⟩)
       dsimp only [Pt.U, Pt.locs, Pt.cells, Pt.slots] at X300 l300 y300 z300 st300 hQ300
       subst l300 y300 z300
       obtain ⟨rfl, N300q, e300⟩ := hQ300
       have N300 := Fr.app N297 N300q
       have R301 := Rc.st R299 st300
       have R302 : Rc p e below A0 (T300.setTop (fl m p1 p2 p3 p4 c0 c1 c2 s0 s1 s2 s3 (.val (.int 3)) (.val (.ref str)) (.val (.ref xr)) (.val (.int 6)) (.val (.int 5)) 314 [(.int 5), (.ref xr)])) := by
         intro tgt hgo
         refine R301 tgt ?_
         show Steps p.tables e below (T300.setTop (fl m p1 p2 p3 p4 c0 c1 c2 s0 s1 s2 s3 (.val (.int 3)) (.val (.ref str)) (.val (.ref xr)) (.val (.int 6)) (.val (.int 4)) 299 [(.int 5)])) _
         refine XS.istore X300.here hx rfl (hb hby at_299) rfl (l' := #[.val (.int p1), .val (.int p2), .val (.int p3), .val (.int p4), .val (.int 3), .val (.int c0), .val (.int c1), .val (.int c2), .val (.ref s0), .val (.ref s1), .val (.ref s2), .val (.ref s3), .val (.ref str), .val (.ref xr), .val (.int 6), .val (.int 5)]) rfl ?_
         refine XS.iload X300.here hx rfl (hb hby at_301) rfl ?_
         refine XS.iload X300.here hx rfl (hb hby at_303) rfl ?_
         refine XS.iconst X300.here hx rfl (hb hby at_305) ?_
         refine XS.isub X300.here hx rfl (hb hby at_306) rfl ?_
         refine XS.icmpNo X300.here hx rfl (hb hby at_307) rfl (teq (by decide : (5 : Int32) = (5 : Int32))).2 ?_
         refine XS.aload X300.here hx rfl (hb hby at_310) rfl rfl ?_
         refine XS.iload X300.here hx rfl (hb hby at_312) rfl ?_
         exact hgo
       obtain ⟨cq303, kq303, q303a, q303b, q303c⟩ := isOf hZ e300 E_r
       obtain ⟨_, _, ⟨T303, L303, k303, n303⟩, -, X303, ⟨Lc303, hQ303, l303, y303, z303⟩, st303⟩ := X300.virtualBack hx (y := yn6) (z := yn6) hown (mvT hZ (w 121 rfl)) (mvT hZ (w 122 rfl)) (notFace_of_selects (args := #[]) (mvT hZ (w 124 rfl))) (mvT hZ (w 124 rfl)) (mvT hZ (w 123 rfl)) (by decide) (backOf (W := 0) (rm_charAt l Z a0 hw [] xr (5 : Int32) zc tr kr [own_b 34, own_b 92, own_b c0, own_b c1, own_b c2, own_b 34] 5 34 vf T203.heap n0 hZn rfl hOld S_cs hz S_f hf (by decide) (by show Int32.ofNat 5 < Int32.ofNat 6; decide) rfl own_c34 SFr) hZ (w 125 rfl) (w 3 rfl) (by decide) (by decide)) q303a q303c (g := (fl m p1 p2 p3 p4 c0 c1 c2 s0 s1 s2 s3 (.val (.int 3)) (.val (.ref str)) (.val (.ref xr)) (.val (.int 6)) (.val (.int 5)) 314 [(.int 5), (.ref xr)])) rfl (by rw [hml]; rfl) (Steps.refl _) (argsL := [(.int 5)]) (rest := []) (lenOf pd_17 rfl) rfl (by show 2 * 0 + _ ≤ _; exact Nat.le_of_eq rfl) (hb hby at_314) (fun _ _ => ⟨rfl, e300, (by decide : 18 + 0 ≤ _), (by decide : 141 + 0 ≤ _)⟩)
       dsimp only [Pt.U, Pt.locs, Pt.cells, Pt.slots] at X303 l303 y303 z303 st303 hQ303
       subst l303 y303 z303
       obtain ⟨rfl, N303q, e303⟩ := hQ303
       have N303 := Fr.app N300 N303q
       have R304 := Rc.tr R302 st303
       have R305 : Rc p e below A0 (T303.setTop (fl m p1 p2 p3 p4 c0 c1 c2 s0 s1 s2 s3 (.val (.int 3)) (.val (.ref str)) (.val (.ref xr)) (.val (.int 6)) (.val (.int 5)) 327 [(.int 1)])) := by
         intro tgt hgo
         refine R304 tgt ?_
         show Steps p.tables e below (T303.setTop (fl m p1 p2 p3 p4 c0 c1 c2 s0 s1 s2 s3 (.val (.int 3)) (.val (.ref str)) (.val (.ref xr)) (.val (.int 6)) (.val (.int 5)) 317 [(.int 34)])) _
         refine XS.bipush X303.here hx rfl (hb hby at_317) ?_
         refine XS.icmpNo X303.here hx rfl (hb hby at_319) rfl (teq (by decide : (34 : Int32) = (34 : Int32))).2 ?_
         refine XS.iconst X303.here hx rfl (hb hby at_322) ?_
         refine XS.goto X303.here hx rfl (pc0 := 323) (pc' := 327) rfl (hb hby at_323) (by decide) (by decide) ?_
         exact hgo
       subst hA0
       obtain ⟨fs, hr, hrun, hended, hRW⟩ := X303.leaveW hS (by rw [e303]; exact hk) (v := some (.int 1)) (fun h => by rw [Bd.returns] at h; cases h) Bd.notSynchronized
       refine ⟨_, _, R305 _ ?_, hrun, hended, _, _, rfl, ?_, OwnKit.own_fin hRW (by decide) (by decide)⟩
       ·show Steps p.tables e below (T303.setTop (fl m p1 p2 p3 p4 c0 c1 c2 s0 s1 s2 s3 (.val (.int 3)) (.val (.ref str)) (.val (.ref xr)) (.val (.int 6)) (.val (.int 5)) 327 [(.int 1)])) _
        exact retN X303 hx (t := .boolean) Bd.returns (by simp) (hb hby at_327) hr
       ·show Q0 n0 _ T303.heap _
        rw [e303]
        exact ⟨rfl, N303⟩
    ·have R306 : Rc p e below A0 (T203.setTop (fl m p1 p2 p3 p4 c0 c1 c2 s0 s1 s2 s3 (.val (.int 3)) (.val (.ref str)) (.val (.ref xr)) (.val (.int 5)) (.unset) 170 [(.int c0)])) := by
       intro tgt hgo
       refine R205 tgt ?_
       show Steps p.tables e below (T203.setTop (fl m p1 p2 p3 p4 c0 c1 c2 s0 s1 s2 s3 (.val (.int 3)) (.val (.ref str)) (.val (.ref xr)) (.val (.int 5)) (.unset) 168 [])) _
       refine XS.iload X203.here hx rfl (hb hby at_168) rfl ?_
       exact hgo
     obtain ⟨_, _, ⟨T307, L307, k307, n307⟩, -, X307, ⟨Lc307, hQ307, l307, y307, z307⟩, st307⟩ := Jvm.LawKit.callS X203 hx (y := yn28) hown (mvT hZ (w 153 rfl)) (mvT hZ (w 154 rfl)) (mvT hZ (w 155 rfl)) (mvT hZ (w 156 rfl)) (by decide) (backOf (W := 0) (rm_sp l Z a0 hw [] c0 0 T203.heap n0 hZn hs0) hZ (w 156 rfl) (w 155 rfl) (by decide) (by decide)) (g := (fl m p1 p2 p3 p4 c0 c1 c2 s0 s1 s2 s3 (.val (.int 3)) (.val (.ref str)) (.val (.ref xr)) (.val (.int 5)) (.unset) 170 [(.int c0)])) rfl (by rw [hml]; rfl) (argsL := [(.int c0)]) (rest := []) (lenOf pd_10 rfl) rfl (by show 2 * 0 + _ ≤ _; exact Nat.le_of_eq rfl) (hb hby at_170) (fun _ _ => ⟨rfl, rfl, (by decide : 18 + 0 ≤ _), (by decide : 141 + 0 ≤ _)⟩)
     dsimp only [Pt.U, Pt.locs, Pt.cells, Pt.slots] at X307 l307 y307 z307 st307 hQ307
     subst l307 y307 z307
     obtain ⟨rfl, N307q, e307⟩ := hQ307
     have N307 := Fr.app N203 N307q
     have R308 := Rc.st R306 st307
     have R309 : Rc p e below A0 (T307.setTop (fl m p1 p2 p3 p4 c0 c1 c2 s0 s1 s2 s3 (.val (.int 3)) (.val (.ref str)) (.val (.ref xr)) (.val (.int 5)) (.unset) 188 [])) := by
       intro tgt hgo
       refine R308 tgt ?_
       show Steps p.tables e below (T307.setTop (fl m p1 p2 p3 p4 c0 c1 c2 s0 s1 s2 s3 (.val (.int 3)) (.val (.ref str)) (.val (.ref xr)) (.val (.int 5)) (.unset) 173 [(.int 0)])) _
       refine XS.ifYes X307.here hx rfl (pc0 := 173) (pc' := 182) rfl (hb hby at_173) rfl ((if0 _ _).trans (teq (by decide : (0 : Int32) = (0 : Int32))).1) (by decide) (by decide) ?_
       refine XS.iload X307.here hx rfl (hb hby at_182) rfl ?_
       refine XS.iconst X307.here hx rfl (hb hby at_184) ?_
       refine XS.icmpNo X307.here hx rfl (hb hby at_185) rfl (flt (by decide : ¬ ((3 : Int32) < (2 : Int32)))).1 ?_
       exact hgo
     rcases own_sp_cases c1 with ⟨hs1, -⟩ | ⟨hs1, -, -⟩
     ·have R310 : Rc p e below A0 (T307.setTop (fl m p1 p2 p3 p4 c0 c1 c2 s0 s1 s2 s3 (.val (.int 3)) (.val (.ref str)) (.val (.ref xr)) (.val (.int 5)) (.unset) 190 [(.int c1)])) := by
        intro tgt hgo
        refine R309 tgt ?_
        show Steps p.tables e below (T307.setTop (fl m p1 p2 p3 p4 c0 c1 c2 s0 s1 s2 s3 (.val (.int 3)) (.val (.ref str)) (.val (.ref xr)) (.val (.int 5)) (.unset) 188 [])) _
        refine XS.iload X307.here hx rfl (hb hby at_188) rfl ?_
        exact hgo
      obtain ⟨_, _, ⟨T311, L311, k311, n311⟩, -, X311, ⟨Lc311, hQ311, l311, y311, z311⟩, st311⟩ := Jvm.LawKit.callS X307 hx (y := yn28) hown (mvT hZ (w 153 rfl)) (mvT hZ (w 154 rfl)) (mvT hZ (w 155 rfl)) (mvT hZ (w 156 rfl)) (by decide) (backOf (W := 0) (rm_sp l Z a0 hw [] c1 1 T203.heap n0 hZn hs1) hZ (w 156 rfl) (w 155 rfl) (by decide) (by decide)) (g := (fl m p1 p2 p3 p4 c0 c1 c2 s0 s1 s2 s3 (.val (.int 3)) (.val (.ref str)) (.val (.ref xr)) (.val (.int 5)) (.unset) 190 [(.int c1)])) rfl (by rw [hml]; rfl) (argsL := [(.int c1)]) (rest := []) (lenOf pd_10 rfl) rfl (by show 2 * 0 + _ ≤ _; exact Nat.le_of_eq rfl) (hb hby at_190) (fun _ _ => ⟨rfl, e307, (by decide : 18 + 0 ≤ _), (by decide : 141 + 0 ≤ _)⟩)
      dsimp only [Pt.U, Pt.locs, Pt.cells, Pt.slots] at X311 l311 y311 z311 st311 hQ311
      subst l311 y311 z311
      obtain ⟨rfl, N311q, e311⟩ := hQ311
      have N311 := Fr.app N307 N311q
      have R312 := Rc.st R310 st311
      have R313 : Rc p e below A0 (T311.setTop (fl m p1 p2 p3 p4 c0 c1 c2 s0 s1 s2 s3 (.val (.int 3)) (.val (.ref str)) (.val (.ref xr)) (.val (.int 6)) (.unset) 208 [])) := by
        intro tgt hgo
        refine R312 tgt ?_
        show Steps p.tables e below (T311.setTop (fl m p1 p2 p3 p4 c0 c1 c2 s0 s1 s2 s3 (.val (.int 3)) (.val (.ref str)) (.val (.ref xr)) (.val (.int 5)) (.unset) 193 [(.int 1)])) _
        refine XS.ifNo X311.here hx rfl (hb hby at_193) rfl ((if0 _ _).trans (feq (by decide : ¬ ((1 : Int32) = (0 : Int32)))).1) ?_
        refine XS.iload X311.here hx rfl (hb hby at_196) rfl ?_
        refine XS.iconst X311.here hx rfl (hb hby at_198) ?_
        refine XS.iadd X311.here hx rfl (hb hby at_199) rfl ?_
        refine XS.istore X311.here hx rfl (hb hby at_200) rfl (l' := #[.val (.int p1), .val (.int p2), .val (.int p3), .val (.int p4), .val (.int 3), .val (.int c0), .val (.int c1), .val (.int c2), .val (.ref s0), .val (.ref s1), .val (.ref s2), .val (.ref s3), .val (.ref str), .val (.ref xr), .val (.int 6), .unset]) rfl ?_
        refine XS.iload X311.here hx rfl (hb hby at_202) rfl ?_
        refine XS.iconst X311.here hx rfl (hb hby at_204) ?_
        refine XS.icmpNo X311.here hx rfl (hb hby at_205) rfl (flt (by decide : ¬ ((3 : Int32) < (3 : Int32)))).1 ?_
        exact hgo
      rcases own_sp_cases c2 with ⟨hs2, -⟩ | ⟨hs2, -, -⟩
      ·have R314 : Rc p e below A0 (T311.setTop (fl m p1 p2 p3 p4 c0 c1 c2 s0 s1 s2 s3 (.val (.int 3)) (.val (.ref str)) (.val (.ref xr)) (.val (.int 6)) (.unset) 210 [(.int c2)])) := by
         intro tgt hgo
         refine R313 tgt ?_
         show Steps p.tables e below (T311.setTop (fl m p1 p2 p3 p4 c0 c1 c2 s0 s1 s2 s3 (.val (.int 3)) (.val (.ref str)) (.val (.ref xr)) (.val (.int 6)) (.unset) 208 [])) _
         refine XS.iload X311.here hx rfl (hb hby at_208) rfl ?_
         exact hgo
       obtain ⟨_, _, ⟨T315, L315, k315, n315⟩, -, X315, ⟨Lc315, hQ315, l315, y315, z315⟩, st315⟩ := Jvm.LawKit.callS X311 hx (y := yn28) hown (mvT hZ (w 153 rfl)) (mvT hZ (w 154 rfl)) (mvT hZ (w 155 rfl)) (mvT hZ (w 156 rfl)) (by decide) (backOf (W := 0) (rm_sp l Z a0 hw [] c2 1 T203.heap n0 hZn hs2) hZ (w 156 rfl) (w 155 rfl) (by decide) (by decide)) (g := (fl m p1 p2 p3 p4 c0 c1 c2 s0 s1 s2 s3 (.val (.int 3)) (.val (.ref str)) (.val (.ref xr)) (.val (.int 6)) (.unset) 210 [(.int c2)])) rfl (by rw [hml]; rfl) (argsL := [(.int c2)]) (rest := []) (lenOf pd_10 rfl) rfl (by show 2 * 0 + _ ≤ _; exact Nat.le_of_eq rfl) (hb hby at_210) (fun _ _ => ⟨rfl, e311, (by decide : 18 + 0 ≤ _), (by decide : 141 + 0 ≤ _)⟩)
       dsimp only [Pt.U, Pt.locs, Pt.cells, Pt.slots] at X315 l315 y315 z315 st315 hQ315
       subst l315 y315 z315
       obtain ⟨rfl, N315q, e315⟩ := hQ315
       have N315 := Fr.app N311 N315q
       have R316 := Rc.st R314 st315
       have hq : (((([] ++ [own_b 34]) ++ own_esc c0) ++ own_esc c1) ++ own_esc c2) ++ [own_b 34] = [own_b 34, own_b c0, own_b 92, own_b c1, own_b 92, own_b c2, own_b 34] := by simp [own_esc, hs0, hs1, hs2]
       rw [hq] at SFr
       have R317 : Rc p e below A0 (T315.setTop (fl m p1 p2 p3 p4 c0 c1 c2 s0 s1 s2 s3 (.val (.int 3)) (.val (.ref str)) (.val (.ref xr)) (.val (.int 7)) (.unset) 224 [(.ref xr)])) := by
         intro tgt hgo
         refine R316 tgt ?_
         show Steps p.tables e below (T315.setTop (fl m p1 p2 p3 p4 c0 c1 c2 s0 s1 s2 s3 (.val (.int 3)) (.val (.ref str)) (.val (.ref xr)) (.val (.int 6)) (.unset) 213 [(.int 1)])) _
         refine XS.ifNo X315.here hx rfl (hb hby at_213) rfl ((if0 _ _).trans (feq (by decide : ¬ ((1 : Int32) = (0 : Int32)))).1) ?_
         refine XS.iload X315.here hx rfl (hb hby at_216) rfl ?_
         refine XS.iconst X315.here hx rfl (hb hby at_218) ?_
         refine XS.iadd X315.here hx rfl (hb hby at_219) rfl ?_
         refine XS.istore X315.here hx rfl (hb hby at_220) rfl (l' := #[.val (.int p1), .val (.int p2), .val (.int p3), .val (.int p4), .val (.int 3), .val (.int c0), .val (.int c1), .val (.int c2), .val (.ref s0), .val (.ref s1), .val (.ref s2), .val (.ref s3), .val (.ref str), .val (.ref xr), .val (.int 7), .unset]) rfl ?_
         refine XS.aload X315.here hx rfl (hb hby at_222) rfl rfl ?_
         exact hgo
       obtain ⟨cq318, kq318, q318a, q318b, q318c⟩ := isOf hZ e315 E_r
       obtain ⟨_, _, ⟨T318, L318, k318, n318⟩, -, X318, ⟨Lc318, hQ318, l318, y318, z318⟩, st318⟩ := X315.virtualBack hx (y := yn1) (z := yn1) hown (mvT hZ (w 120 rfl)) (mvT hZ (w 30 rfl)) (notFace_of_selects (args := #[]) (mvT hZ (w 32 rfl))) (mvT hZ (w 32 rfl)) (mvT hZ (w 31 rfl)) (by decide) (backOf (W := 0) (rm_length l Z a0 hw [] xr zc tr kr [own_b 34, own_b c0, own_b 92, own_b c1, own_b 92, own_b c2, own_b 34] T203.heap n0 hZn hOld S_cs hz SFr) hZ (w 33 rfl) (w 3 rfl) (by decide) (by decide)) q318a q318c (g := (fl m p1 p2 p3 p4 c0 c1 c2 s0 s1 s2 s3 (.val (.int 3)) (.val (.ref str)) (.val (.ref xr)) (.val (.int 7)) (.unset) 224 [(.ref xr)])) rfl (by rw [hml]; rfl) (Steps.refl _) (argsL := []) (rest := []) (lenOf pd_13 rfl) rfl (by show 2 * 0 + _ ≤ _; exact Nat.le_of_eq rfl) (hb hby at_224) (fun _ _ => ⟨rfl, e315, (by decide : 18 + 0 ≤ _), (by decide : 141 + 0 ≤ _)⟩)
       dsimp only [Pt.U, Pt.locs, Pt.cells, Pt.slots] at X318 l318 y318 z318 st318 hQ318
       subst l318 y318 z318
       obtain ⟨rfl, N318q, e318⟩ := hQ318
       have N318 := Fr.app N315 N318q
       have R319 := Rc.tr R317 st318
       have R320 : Rc p e below A0 (T318.setTop (fl m p1 p2 p3 p4 c0 c1 c2 s0 s1 s2 s3 (.val (.int 3)) (.val (.ref str)) (.val (.ref xr)) (.val (.int 7)) (.unset) 237 [(.int 0), (.ref xr)])) := by
         intro tgt hgo
         refine R319 tgt ?_
         show Steps p.tables e below (T318.setTop (fl m p1 p2 p3 p4 c0 c1 c2 s0 s1 s2 s3 (.val (.int 3)) (.val (.ref str)) (.val (.ref xr)) (.val (.int 7)) (.unset) 227 [(.int 7)])) _
         refine XS.iload X318.here hx rfl (hb hby at_227) rfl ?_
         refine XS.icmpYes X318.here hx rfl (pc0 := 229) (pc' := 234) rfl (hb hby at_229) rfl (teq (by decide : (7 : Int32) = (7 : Int32))).1 (by decide) (by decide) ?_
         refine XS.aload X318.here hx rfl (hb hby at_234) rfl rfl ?_
         refine XS.iconst X318.here hx rfl (hb hby at_236) ?_
         exact hgo
       obtain ⟨cq321, kq321, q321a, q321b, q321c⟩ := isOf hZ e318 E_r
       obtain ⟨_, _, ⟨T321, L321, k321, n321⟩, -, X321, ⟨Lc321, hQ321, l321, y321, z321⟩, st321⟩ := X318.virtualBack hx (y := yn6) (z := yn6) hown (mvT hZ (w 121 rfl)) (mvT hZ (w 122 rfl)) (notFace_of_selects (args := #[]) (mvT hZ (w 124 rfl))) (mvT hZ (w 124 rfl)) (mvT hZ (w 123 rfl)) (by decide) (backOf (W := 0) (rm_charAt l Z a0 hw [] xr (0 : Int32) zc tr kr [own_b 34, own_b c0, own_b 92, own_b c1, own_b 92, own_b c2, own_b 34] 0 34 vf T203.heap n0 hZn rfl hOld S_cs hz S_f hf (by decide) (by show Int32.ofNat 0 < Int32.ofNat 7; decide) rfl own_c34 SFr) hZ (w 125 rfl) (w 3 rfl) (by decide) (by decide)) q321a q321c (g := (fl m p1 p2 p3 p4 c0 c1 c2 s0 s1 s2 s3 (.val (.int 3)) (.val (.ref str)) (.val (.ref xr)) (.val (.int 7)) (.unset) 237 [(.int 0), (.ref xr)])) rfl (by rw [hml]; rfl) (Steps.refl _) (argsL := [(.int 0)]) (rest := []) (lenOf pd_17 rfl) rfl (by show 2 * 0 + _ ≤ _; exact Nat.le_of_eq rfl) (hb hby at_237) (fun _ _ => ⟨rfl, e318, (by decide : 18 + 0 ≤ _), (by decide : 141 + 0 ≤ _)⟩)
       dsimp only [Pt.U, Pt.locs, Pt.cells, Pt.slots] at X321 l321 y321 z321 st321 hQ321
       subst l321 y321 z321
       obtain ⟨rfl, N321q, e321⟩ := hQ321
       have N321 := Fr.app N318 N321q
       have R322 := Rc.tr R320 st321
       have R323 : Rc p e below A0 (T321.setTop (fl m p1 p2 p3 p4 c0 c1 c2 s0 s1 s2 s3 (.val (.int 3)) (.val (.ref str)) (.val (.ref xr)) (.val (.int 7)) (.val (.int 1)) 262 [(.int c0), (.int 1), (.ref xr)])) := by
         intro tgt hgo
         refine R322 tgt ?_
         show Steps p.tables e below (T321.setTop (fl m p1 p2 p3 p4 c0 c1 c2 s0 s1 s2 s3 (.val (.int 3)) (.val (.ref str)) (.val (.ref xr)) (.val (.int 7)) (.unset) 240 [(.int 34)])) _
         refine XS.bipush X321.here hx rfl (hb hby at_240) ?_
         refine XS.icmpYes X321.here hx rfl (pc0 := 242) (pc' := 247) rfl (hb hby at_242) rfl (teq (by decide : (34 : Int32) = (34 : Int32))).1 (by decide) (by decide) ?_
         refine XS.iconst X321.here hx rfl (hb hby at_247) ?_
         refine XS.istore X321.here hx rfl (hb hby at_248) rfl (l' := #[.val (.int p1), .val (.int p2), .val (.int p3), .val (.int p4), .val (.int 3), .val (.int c0), .val (.int c1), .val (.int c2), .val (.ref s0), .val (.ref s1), .val (.ref s2), .val (.ref s3), .val (.ref str), .val (.ref xr), .val (.int 7), .val (.int 1)]) rfl ?_
         refine XS.iload X321.here hx rfl (hb hby at_250) rfl ?_
         refine XS.iconst X321.here hx rfl (hb hby at_252) ?_
         refine XS.icmpNo X321.here hx rfl (hb hby at_253) rfl (flt (by decide : ¬ ((3 : Int32) < (1 : Int32)))).1 ?_
         refine XS.aload X321.here hx rfl (hb hby at_256) rfl rfl ?_
         refine XS.iload X321.here hx rfl (hb hby at_258) rfl ?_
         refine XS.iload X321.here hx rfl (hb hby at_260) rfl ?_
         exact hgo
       obtain ⟨_, _, ⟨T324, L324, k324, n324⟩, -, X324, ⟨Lc324, hQ324, l324, y324, z324⟩, st324⟩ := Jvm.LawKit.callS X321 hx (y := yn29) hown (mvT hZ (w 157 rfl)) (mvT hZ (w 158 rfl)) (mvT hZ (w 155 rfl)) (mvT hZ (w 159 rfl)) (by decide) (backOf (W := 0) (rm_step0 l Z a0 hw [] xr (1 : Int32) c0 zc tr kr [own_b 34, own_b c0, own_b 92, own_b c1, own_b 92, own_b c2, own_b 34] 1 vf T203.heap n0 hZn rfl hc0 hs0 hOld S_cs hz S_f hf (by show 7 < 2147483647; decide) (by show 1 < 7; decide) rfl SFr) hZ (w 159 rfl) (w 155 rfl) (by decide) (by decide)) (g := (fl m p1 p2 p3 p4 c0 c1 c2 s0 s1 s2 s3 (.val (.int 3)) (.val (.ref str)) (.val (.ref xr)) (.val (.int 7)) (.val (.int 1)) 262 [(.int c0), (.int 1), (.ref xr)])) rfl (by rw [hml]; rfl) (argsL := [(.ref xr), (.int 1), (.int c0)]) (rest := []) (lenOf pd_23 rfl) rfl (by show 2 * 0 + _ ≤ _; exact Nat.le_of_eq rfl) (hb hby at_262) (fun _ _ => ⟨rfl, e321, (by decide : 18 + 0 ≤ _), (by decide : 141 + 0 ≤ _)⟩)
       dsimp only [Pt.U, Pt.locs, Pt.cells, Pt.slots] at X324 l324 y324 z324 st324 hQ324
       subst l324 y324 z324
       obtain ⟨rfl, N324q, e324⟩ := hQ324
       have N324 := Fr.app N321 N324q
       have R325 := Rc.st R323 st324
       have R326 : Rc p e below A0 (T324.setTop (fl m p1 p2 p3 p4 c0 c1 c2 s0 s1 s2 s3 (.val (.int 3)) (.val (.ref str)) (.val (.ref xr)) (.val (.int 7)) (.val (.int 2)) 279 [(.int c1), (.int 2), (.ref xr)])) := by
         intro tgt hgo
         refine R325 tgt ?_
         show Steps p.tables e below (T324.setTop (fl m p1 p2 p3 p4 c0 c1 c2 s0 s1 s2 s3 (.val (.int 3)) (.val (.ref str)) (.val (.ref xr)) (.val (.int 7)) (.val (.int 1)) 265 [(.int 2)])) _
         refine XS.istore X324.here hx rfl (hb hby at_265) rfl (l' := #[.val (.int p1), .val (.int p2), .val (.int p3), .val (.int p4), .val (.int 3), .val (.int c0), .val (.int c1), .val (.int c2), .val (.ref s0), .val (.ref s1), .val (.ref s2), .val (.ref s3), .val (.ref str), .val (.ref xr), .val (.int 7), .val (.int 2)]) rfl ?_
         refine XS.iload X324.here hx rfl (hb hby at_267) rfl ?_
         refine XS.iconst X324.here hx rfl (hb hby at_269) ?_
         refine XS.icmpNo X324.here hx rfl (hb hby at_270) rfl (flt (by decide : ¬ ((3 : Int32) < (2 : Int32)))).1 ?_
         refine XS.aload X324.here hx rfl (hb hby at_273) rfl rfl ?_
         refine XS.iload X324.here hx rfl (hb hby at_275) rfl ?_
         refine XS.iload X324.here hx rfl (hb hby at_277) rfl ?_
         exact hgo
       obtain ⟨_, _, ⟨T327, L327, k327, n327⟩, -, X327, ⟨Lc327, hQ327, l327, y327, z327⟩, st327⟩ := Jvm.LawKit.callS X324 hx (y := yn29) hown (mvT hZ (w 157 rfl)) (mvT hZ (w 158 rfl)) (mvT hZ (w 155 rfl)) (mvT hZ (w 159 rfl)) (by decide) (backOf (W := 0) (rm_step1 l Z a0 hw [] xr (2 : Int32) c1 zc tr kr [own_b 34, own_b c0, own_b 92, own_b c1, own_b 92, own_b c2, own_b 34] 2 vf T203.heap n0 hZn rfl hc1 hs1 hOld S_cs hz S_f hf (by show 7 < 2147483647; decide) (by show 2 < 7; decide) rfl (by show 3 < 7; decide) rfl SFr) hZ (w 159 rfl) (w 155 rfl) (by decide) (by decide)) (g := (fl m p1 p2 p3 p4 c0 c1 c2 s0 s1 s2 s3 (.val (.int 3)) (.val (.ref str)) (.val (.ref xr)) (.val (.int 7)) (.val (.int 2)) 279 [(.int c1), (.int 2), (.ref xr)])) rfl (by rw [hml]; rfl) (argsL := [(.ref xr), (.int 2), (.int c1)]) (rest := []) (lenOf pd_23 rfl) rfl (by show 2 * 0 + _ ≤ _; exact Nat.le_of_eq rfl) (hb hby at_279) (fun _ _ => ⟨rfl, e324, (by decide : 18 + 0 ≤ _), (by decide : 141 + 0 ≤ _)⟩)
       dsimp only [Pt.U, Pt.locs, Pt.cells, Pt.slots] at X327 l327 y327 z327 st327 hQ327
       subst l327 y327 z327
       obtain ⟨rfl, N327q, e327⟩ := hQ327
       have N327 := Fr.app N324 N327q
       have R328 := Rc.st R326 st327
       have R329 : Rc p e below A0 (T327.setTop (fl m p1 p2 p3 p4 c0 c1 c2 s0 s1 s2 s3 (.val (.int 3)) (.val (.ref str)) (.val (.ref xr)) (.val (.int 7)) (.val (.int 4)) 296 [(.int c2), (.int 4), (.ref xr)])) := by
         intro tgt hgo
         refine R328 tgt ?_
         show Steps p.tables e below (T327.setTop (fl m p1 p2 p3 p4 c0 c1 c2 s0 s1 s2 s3 (.val (.int 3)) (.val (.ref str)) (.val (.ref xr)) (.val (.int 7)) (.val (.int 2)) 282 [(.int 4)])) _
         refine XS.istore X327.here hx rfl (hb hby at_282) rfl (l' := #[.val (.int p1), .val (.int p2), .val (.int p3), .val (.int p4), .val (.int 3), .val (.int c0), .val (.int c1), .val (.int c2), .val (.ref s0), .val (.ref s1), .val (.ref s2), .val (.ref s3), .val (.ref str), .val (.ref xr), .val (.int 7), .val (.int 4)]) rfl ?_
         refine XS.iload X327.here hx rfl (hb hby at_284) rfl ?_
         refine XS.iconst X327.here hx rfl (hb hby at_286) ?_
         refine XS.icmpNo X327.here hx rfl (hb hby at_287) rfl (flt (by decide : ¬ ((3 : Int32) < (3 : Int32)))).1 ?_
         refine XS.aload X327.here hx rfl (hb hby at_290) rfl rfl ?_
         refine XS.iload X327.here hx rfl (hb hby at_292) rfl ?_
         refine XS.iload X327.here hx rfl (hb hby at_294) rfl ?_
         exact hgo
       obtain ⟨_, _, ⟨T330, L330, k330, n330⟩, -, X330, ⟨Lc330, hQ330, l330, y330, z330⟩, st330⟩ := Jvm.LawKit.callS X327 hx (y := yn29) hown (mvT hZ (w 157 rfl)) (mvT hZ (w 158 rfl)) (mvT hZ (w 155 rfl)) (mvT hZ (w 159 rfl)) (by decide) (backOf (W := 0) (rm_step1 l Z a0 hw [] xr (4 : Int32) c2 zc tr kr [own_b 34, own_b c0, own_b 92, own_b c1, own_b 92, own_b c2, own_b 34] 4 vf T203.heap n0 hZn rfl hc2 hs2 hOld S_cs hz S_f hf (by show 7 < 2147483647; decide) (by show 4 < 7; decide) rfl (by show 5 < 7; decide) rfl SFr) hZ (w 159 rfl) (w 155 rfl) (by decide) (by decide)) (g := (fl m p1 p2 p3 p4 c0 c1 c2 s0 s1 s2 s3 (.val (.int 3)) (.val (.ref str)) (.val (.ref xr)) (.val (.int 7)) (.val (.int 4)) 296 [(.int c2), (.int 4), (.ref xr)])) rfl (by rw [hml]; rfl) (argsL := [(.ref xr), (.int 4), (.int c2)]) (rest := []) (lenOf pd_23 rfl) rfl (by show 2 * 0 + _ ≤ _; exact Nat.le_of_eq rfl) (hb hby at_296) (fun _ _ => ⟨rfl, e327, (by decide : 18 + 0 ≤ _), (by decide : 141 + 0 ≤ _)⟩)
       dsimp only [Pt.U, Pt.locs, Pt.cells, Pt.slots] at X330 l330 y330 z330 st330 hQ330
       subst l330 y330 z330
       obtain ⟨rfl, N330q, e330⟩ := hQ330
       have N330 := Fr.app N327 N330q
       have R331 := Rc.st R329 st330
       have R332 : Rc p e below A0 (T330.setTop (fl m p1 p2 p3 p4 c0 c1 c2 s0 s1 s2 s3 (.val (.int 3)) (.val (.ref str)) (.val (.ref xr)) (.val (.int 7)) (.val (.int 6)) 314 [(.int 6), (.ref xr)])) := by
         intro tgt hgo
         refine R331 tgt ?_
         show Steps p.tables e below (T330.setTop (fl m p1 p2 p3 p4 c0 c1 c2 s0 s1 s2 s3 (.val (.int 3)) (.val (.ref str)) (.val (.ref xr)) (.val (.int 7)) (.val (.int 4)) 299 [(.int 6)])) _
         refine XS.istore X330.here hx rfl (hb hby at_299) rfl (l' := #[.val (.int p1), .val (.int p2), .val (.int p3), .val (.int p4), .val (.int 3), .val (.int c0), .val (.int c1), .val (.int c2), .val (.ref s0), .val (.ref s1), .val (.ref s2), .val (.ref s3), .val (.ref str), .val (.ref xr), .val (.int 7), .val (.int 6)]) rfl ?_
         refine XS.iload X330.here hx rfl (hb hby at_301) rfl ?_
         refine XS.iload X330.here hx rfl (hb hby at_303) rfl ?_
         refine XS.iconst X330.here hx rfl (hb hby at_305) ?_
         refine XS.isub X330.here hx rfl (hb hby at_306) rfl ?_
         refine XS.icmpNo X330.here hx rfl (hb hby at_307) rfl (teq (by decide : (6 : Int32) = (6 : Int32))).2 ?_
         refine XS.aload X330.here hx rfl (hb hby at_310) rfl rfl ?_
         refine XS.iload X330.here hx rfl (hb hby at_312) rfl ?_
         exact hgo
       obtain ⟨cq333, kq333, q333a, q333b, q333c⟩ := isOf hZ e330 E_r
       obtain ⟨_, _, ⟨T333, L333, k333, n333⟩, -, X333, ⟨Lc333, hQ333, l333, y333, z333⟩, st333⟩ := X330.virtualBack hx (y := yn6) (z := yn6) hown (mvT hZ (w 121 rfl)) (mvT hZ (w 122 rfl)) (notFace_of_selects (args := #[]) (mvT hZ (w 124 rfl))) (mvT hZ (w 124 rfl)) (mvT hZ (w 123 rfl)) (by decide) (backOf (W := 0) (rm_charAt l Z a0 hw [] xr (6 : Int32) zc tr kr [own_b 34, own_b c0, own_b 92, own_b c1, own_b 92, own_b c2, own_b 34] 6 34 vf T203.heap n0 hZn rfl hOld S_cs hz S_f hf (by decide) (by show Int32.ofNat 6 < Int32.ofNat 7; decide) rfl own_c34 SFr) hZ (w 125 rfl) (w 3 rfl) (by decide) (by decide)) q333a q333c (g := (fl m p1 p2 p3 p4 c0 c1 c2 s0 s1 s2 s3 (.val (.int 3)) (.val (.ref str)) (.val (.ref xr)) (.val (.int 7)) (.val (.int 6)) 314 [(.int 6), (.ref xr)])) rfl (by rw [hml]; rfl) (Steps.refl _) (argsL := [(.int 6)]) (rest := []) (lenOf pd_17 rfl) rfl (by show 2 * 0 + _ ≤ _; exact Nat.le_of_eq rfl) (hb hby at_314) (fun _ _ => ⟨rfl, e330, (by decide : 18 + 0 ≤ _), (by decide : 141 + 0 ≤ _)⟩)
       dsimp only [Pt.U, Pt.locs, Pt.cells, Pt.slots] at X333 l333 y333 z333 st333 hQ333
       subst l333 y333 z333
       obtain ⟨rfl, N333q, e333⟩ := hQ333
       have N333 := Fr.app N330 N333q
       have R334 := Rc.tr R332 st333
       have R335 : Rc p e below A0 (T333.setTop (fl m p1 p2 p3 p4 c0 c1 c2 s0 s1 s2 s3 (.val (.int 3)) (.val (.ref str)) (.val (.ref xr)) (.val (.int 7)) (.val (.int 6)) 327 [(.int 1)])) := by
         intro tgt hgo
         refine R334 tgt ?_
         show Steps p.tables e below (T333.setTop (fl m p1 p2 p3 p4 c0 c1 c2 s0 s1 s2 s3 (.val (.int 3)) (.val (.ref str)) (.val (.ref xr)) (.val (.int 7)) (.val (.int 6)) 317 [(.int 34)])) _
         refine XS.bipush X333.here hx rfl (hb hby at_317) ?_
         refine XS.icmpNo X333.here hx rfl (hb hby at_319) rfl (teq (by decide : (34 : Int32) = (34 : Int32))).2 ?_
         refine XS.iconst X333.here hx rfl (hb hby at_322) ?_
         refine XS.goto X333.here hx rfl (pc0 := 323) (pc' := 327) rfl (hb hby at_323) (by decide) (by decide) ?_
         exact hgo
       subst hA0
       obtain ⟨fs, hr, hrun, hended, hRW⟩ := X333.leaveW hS (by rw [e333]; exact hk) (v := some (.int 1)) (fun h => by rw [Bd.returns] at h; cases h) Bd.notSynchronized
       refine ⟨_, _, R335 _ ?_, hrun, hended, _, _, rfl, ?_, OwnKit.own_fin hRW (by decide) (by decide)⟩
       ·show Steps p.tables e below (T333.setTop (fl m p1 p2 p3 p4 c0 c1 c2 s0 s1 s2 s3 (.val (.int 3)) (.val (.ref str)) (.val (.ref xr)) (.val (.int 7)) (.val (.int 6)) 327 [(.int 1)])) _
        exact retN X333 hx (t := .boolean) Bd.returns (by simp) (hb hby at_327) hr
       ·show Q0 n0 _ T333.heap _
        rw [e333]
        exact ⟨rfl, N333⟩
      ·have R336 : Rc p e below A0 (T311.setTop (fl m p1 p2 p3 p4 c0 c1 c2 s0 s1 s2 s3 (.val (.int 3)) (.val (.ref str)) (.val (.ref xr)) (.val (.int 6)) (.unset) 210 [(.int c2)])) := by
         intro tgt hgo
         refine R313 tgt ?_
         show Steps p.tables e below (T311.setTop (fl m p1 p2 p3 p4 c0 c1 c2 s0 s1 s2 s3 (.val (.int 3)) (.val (.ref str)) (.val (.ref xr)) (.val (.int 6)) (.unset) 208 [])) _
         refine XS.iload X311.here hx rfl (hb hby at_208) rfl ?_
         exact hgo
       obtain ⟨_, _, ⟨T337, L337, k337, n337⟩, -, X337, ⟨Lc337, hQ337, l337, y337, z337⟩, st337⟩ := Jvm.LawKit.callS X311 hx (y := yn28) hown (mvT hZ (w 153 rfl)) (mvT hZ (w 154 rfl)) (mvT hZ (w 155 rfl)) (mvT hZ (w 156 rfl)) (by decide) (backOf (W := 0) (rm_sp l Z a0 hw [] c2 0 T203.heap n0 hZn hs2) hZ (w 156 rfl) (w 155 rfl) (by decide) (by decide)) (g := (fl m p1 p2 p3 p4 c0 c1 c2 s0 s1 s2 s3 (.val (.int 3)) (.val (.ref str)) (.val (.ref xr)) (.val (.int 6)) (.unset) 210 [(.int c2)])) rfl (by rw [hml]; rfl) (argsL := [(.int c2)]) (rest := []) (lenOf pd_10 rfl) rfl (by show 2 * 0 + _ ≤ _; exact Nat.le_of_eq rfl) (hb hby at_210) (fun _ _ => ⟨rfl, e311, (by decide : 18 + 0 ≤ _), (by decide : 141 + 0 ≤ _)⟩)
       dsimp only [Pt.U, Pt.locs, Pt.cells, Pt.slots] at X337 l337 y337 z337 st337 hQ337
       subst l337 y337 z337
       obtain ⟨rfl, N337q, e337⟩ := hQ337
       have N337 := Fr.app N311 N337q
       have R338 := Rc.st R336 st337
       have hq : (((([] ++ [own_b 34]) ++ own_esc c0) ++ own_esc c1) ++ own_esc c2) ++ [own_b 34] = [own_b 34, own_b c0, own_b 92, own_b c1, own_b c2, own_b 34] := by simp [own_esc, hs0, hs1, hs2]
       rw [hq] at SFr
       have R339 : Rc p e below A0 (T337.setTop (fl m p1 p2 p3 p4 c0 c1 c2 s0 s1 s2 s3 (.val (.int 3)) (.val (.ref str)) (.val (.ref xr)) (.val (.int 6)) (.unset) 224 [(.ref xr)])) := by
         intro tgt hgo
         refine R338 tgt ?_
         show Steps p.tables e below (T337.setTop (fl m p1 p2 p3 p4 c0 c1 c2 s0 s1 s2 s3 (.val (.int 3)) (.val (.ref str)) (.val (.ref xr)) (.val (.int 6)) (.unset) 213 [(.int 0)])) _
         refine XS.ifYes X337.here hx rfl (pc0 := 213) (pc' := 222) rfl (hb hby at_213) rfl ((if0 _ _).trans (teq (by decide : (0 : Int32) = (0 : Int32))).1) (by decide) (by decide) ?_
         refine XS.aload X337.here hx rfl (hb hby at_222) rfl rfl ?_
         exact hgo
       obtain ⟨cq340, kq340, q340a, q340b, q340c⟩ := isOf hZ e337 E_r
       obtain ⟨_, _, ⟨T340, L340, k340, n340⟩, -, X340, ⟨Lc340, hQ340, l340, y340, z340⟩, st340⟩ := X337.virtualBack hx (y := yn1) (z := yn1) hown (mvT hZ (w 120 rfl)) (mvT hZ (w 30 rfl)) (notFace_of_selects (args := #[]) (mvT hZ (w 32 rfl))) (mvT hZ (w 32 rfl)) (mvT hZ (w 31 rfl)) (by decide) (backOf (W := 0) (rm_length l Z a0 hw [] xr zc tr kr [own_b 34, own_b c0, own_b 92, own_b c1, own_b c2, own_b 34] T203.heap n0 hZn hOld S_cs hz SFr) hZ (w 33 rfl) (w 3 rfl) (by decide) (by decide)) q340a q340c (g := (fl m p1 p2 p3 p4 c0 c1 c2 s0 s1 s2 s3 (.val (.int 3)) (.val (.ref str)) (.val (.ref xr)) (.val (.int 6)) (.unset) 224 [(.ref xr)])) rfl (by rw [hml]; rfl) (Steps.refl _) (argsL := []) (rest := []) (lenOf pd_13 rfl) rfl (by show 2 * 0 + _ ≤ _; exact Nat.le_of_eq rfl) (hb hby at_224) (fun _ _ => ⟨rfl, e337, (by decide : 18 + 0 ≤ _), (by decide : 141 + 0 ≤ _)⟩)
       dsimp only [Pt.U, Pt.locs, Pt.cells, Pt.slots] at X340 l340 y340 z340 st340 hQ340
       subst l340 y340 z340
       obtain ⟨rfl, N340q, e340⟩ := hQ340
       have N340 := Fr.app N337 N340q
       have R341 := Rc.tr R339 st340
       have R342 : Rc p e below A0 (T340.setTop (fl m p1 p2 p3 p4 c0 c1 c2 s0 s1 s2 s3 (.val (.int 3)) (.val (.ref str)) (.val (.ref xr)) (.val (.int 6)) (.unset) 237 [(.int 0), (.ref xr)])) := by
         intro tgt hgo
         refine R341 tgt ?_
         show Steps p.tables e below (T340.setTop (fl m p1 p2 p3 p4 c0 c1 c2 s0 s1 s2 s3 (.val (.int 3)) (.val (.ref str)) (.val (.ref xr)) (.val (.int 6)) (.unset) 227 [(.int 6)])) _
         refine XS.iload X340.here hx rfl (hb hby at_227) rfl ?_
         refine XS.icmpYes X340.here hx rfl (pc0 := 229) (pc' := 234) rfl (hb hby at_229) rfl (teq (by decide : (6 : Int32) = (6 : Int32))).1 (by decide) (by decide) ?_
         refine XS.aload X340.here hx rfl (hb hby at_234) rfl rfl ?_
         refine XS.iconst X340.here hx rfl (hb hby at_236) ?_
         exact hgo
       obtain ⟨cq343, kq343, q343a, q343b, q343c⟩ := isOf hZ e340 E_r
       obtain ⟨_, _, ⟨T343, L343, k343, n343⟩, -, X343, ⟨Lc343, hQ343, l343, y343, z343⟩, st343⟩ := X340.virtualBack hx (y := yn6) (z := yn6) hown (mvT hZ (w 121 rfl)) (mvT hZ (w 122 rfl)) (notFace_of_selects (args := #[]) (mvT hZ (w 124 rfl))) (mvT hZ (w 124 rfl)) (mvT hZ (w 123 rfl)) (by decide) (backOf (W := 0) (rm_charAt l Z a0 hw [] xr (0 : Int32) zc tr kr [own_b 34, own_b c0, own_b 92, own_b c1, own_b c2, own_b 34] 0 34 vf T203.heap n0 hZn rfl hOld S_cs hz S_f hf (by decide) (by show Int32.ofNat 0 < Int32.ofNat 6; decide) rfl own_c34 SFr) hZ (w 125 rfl) (w 3 rfl) (by decide) (by decide)) q343a q343c (g := (fl m p1 p2 p3 p4 c0 c1 c2 s0 s1 s2 s3 (.val (.int 3)) (.val (.ref str)) (.val (.ref xr)) (.val (.int 6)) (.unset) 237 [(.int 0), (.ref xr)])) rfl (by rw [hml]; rfl) (Steps.refl _) (argsL := [(.int 0)]) (rest := []) (lenOf pd_17 rfl) rfl (by show 2 * 0 + _ ≤ _; exact Nat.le_of_eq rfl) (hb hby at_237) (fun _ _ => ⟨rfl, e340, (by decide : 18 + 0 ≤ _), (by decide : 141 + 0 ≤ _)⟩)
       dsimp only [Pt.U, Pt.locs, Pt.cells, Pt.slots] at X343 l343 y343 z343 st343 hQ343
       subst l343 y343 z343
       obtain ⟨rfl, N343q, e343⟩ := hQ343
       have N343 := Fr.app N340 N343q
       have R344 := Rc.tr R342 st343
       have R345 : Rc p e below A0 (T343.setTop (fl m p1 p2 p3 p4 c0 c1 c2 s0 s1 s2 s3 (.val (.int 3)) (.val (.ref str)) (.val (.ref xr)) (.val (.int 6)) (.val (.int 1)) 262 [(.int c0), (.int 1), (.ref xr)])) := by
         intro tgt hgo
         refine R344 tgt ?_
         show Steps p.tables e below (T343.setTop (fl m p1 p2 p3 p4 c0 c1 c2 s0 s1 s2 s3 (.val (.int 3)) (.val (.ref str)) (.val (.ref xr)) (.val (.int 6)) (.unset) 240 [(.int 34)])) _
         refine XS.bipush X343.here hx rfl (hb hby at_240) ?_
         refine XS.icmpYes X343.here hx rfl (pc0 := 242) (pc' := 247) rfl (hb hby at_242) rfl (teq (by decide : (34 : Int32) = (34 : Int32))).1 (by decide) (by decide) ?_
         refine XS.iconst X343.here hx rfl (hb hby at_247) ?_
         refine XS.istore X343.here hx rfl (hb hby at_248) rfl (l' := #[.val (.int p1), .val (.int p2), .val (.int p3), .val (.int p4), .val (.int 3), .val (.int c0), .val (.int c1), .val (.int c2), .val (.ref s0), .val (.ref s1), .val (.ref s2), .val (.ref s3), .val (.ref str), .val (.ref xr), .val (.int 6), .val (.int 1)]) rfl ?_
         refine XS.iload X343.here hx rfl (hb hby at_250) rfl ?_
         refine XS.iconst X343.here hx rfl (hb hby at_252) ?_
         refine XS.icmpNo X343.here hx rfl (hb hby at_253) rfl (flt (by decide : ¬ ((3 : Int32) < (1 : Int32)))).1 ?_
         refine XS.aload X343.here hx rfl (hb hby at_256) rfl rfl ?_
         refine XS.iload X343.here hx rfl (hb hby at_258) rfl ?_
         refine XS.iload X343.here hx rfl (hb hby at_260) rfl ?_
         exact hgo
       obtain ⟨_, _, ⟨T346, L346, k346, n346⟩, -, X346, ⟨Lc346, hQ346, l346, y346, z346⟩, st346⟩ := Jvm.LawKit.callS X343 hx (y := yn29) hown (mvT hZ (w 157 rfl)) (mvT hZ (w 158 rfl)) (mvT hZ (w 155 rfl)) (mvT hZ (w 159 rfl)) (by decide) (backOf (W := 0) (rm_step0 l Z a0 hw [] xr (1 : Int32) c0 zc tr kr [own_b 34, own_b c0, own_b 92, own_b c1, own_b c2, own_b 34] 1 vf T203.heap n0 hZn rfl hc0 hs0 hOld S_cs hz S_f hf (by show 6 < 2147483647; decide) (by show 1 < 6; decide) rfl SFr) hZ (w 159 rfl) (w 155 rfl) (by decide) (by decide)) (g := (fl m p1 p2 p3 p4 c0 c1 c2 s0 s1 s2 s3 (.val (.int 3)) (.val (.ref str)) (.val (.ref xr)) (.val (.int 6)) (.val (.int 1)) 262 [(.int c0), (.int 1), (.ref xr)])) rfl (by rw [hml]; rfl) (argsL := [(.ref xr), (.int 1), (.int c0)]) (rest := []) (lenOf pd_23 rfl) rfl (by show 2 * 0 + _ ≤ _; exact Nat.le_of_eq rfl) (hb hby at_262) (fun _ _ => ⟨rfl, e343, (by decide : 18 + 0 ≤ _), (by decide : 141 + 0 ≤ _)⟩)
       dsimp only [Pt.U, Pt.locs, Pt.cells, Pt.slots] at X346 l346 y346 z346 st346 hQ346
       subst l346 y346 z346
       obtain ⟨rfl, N346q, e346⟩ := hQ346
       have N346 := Fr.app N343 N346q
       have R347 := Rc.st R345 st346
       have R348 : Rc p e below A0 (T346.setTop (fl m p1 p2 p3 p4 c0 c1 c2 s0 s1 s2 s3 (.val (.int 3)) (.val (.ref str)) (.val (.ref xr)) (.val (.int 6)) (.val (.int 2)) 279 [(.int c1), (.int 2), (.ref xr)])) := by
         intro tgt hgo
         refine R347 tgt ?_
         show Steps p.tables e below (T346.setTop (fl m p1 p2 p3 p4 c0 c1 c2 s0 s1 s2 s3 (.val (.int 3)) (.val (.ref str)) (.val (.ref xr)) (.val (.int 6)) (.val (.int 1)) 265 [(.int 2)])) _
         refine XS.istore X346.here hx rfl (hb hby at_265) rfl (l' := #[.val (.int p1), .val (.int p2), .val (.int p3), .val (.int p4), .val (.int 3), .val (.int c0), .val (.int c1), .val (.int c2), .val (.ref s0), .val (.ref s1), .val (.ref s2), .val (.ref s3), .val (.ref str), .val (.ref xr), .val (.int 6), .val (.int 2)]) rfl ?_
         refine XS.iload X346.here hx rfl (hb hby at_267) rfl ?_
         refine XS.iconst X346.here hx rfl (hb hby at_269) ?_
         refine XS.icmpNo X346.here hx rfl (hb hby at_270) rfl (flt (by decide : ¬ ((3 : Int32) < (2 : Int32)))).1 ?_
         refine XS.aload X346.here hx rfl (hb hby at_273) rfl rfl ?_
         refine XS.iload X346.here hx rfl (hb hby at_275) rfl ?_
         refine XS.iload X346.here hx rfl (hb hby at_277) rfl ?_
         exact hgo
       obtain ⟨_, _, ⟨T349, L349, k349, n349⟩, -, X349, ⟨Lc349, hQ349, l349, y349, z349⟩, st349⟩ := Jvm.LawKit.callS X346 hx (y := yn29) hown (mvT hZ (w 157 rfl)) (mvT hZ (w 158 rfl)) (mvT hZ (w 155 rfl)) (mvT hZ (w 159 rfl)) (by decide) (backOf (W := 0) (rm_step1 l Z a0 hw [] xr (2 : Int32) c1 zc tr kr [own_b 34, own_b c0, own_b 92, own_b c1, own_b c2, own_b 34] 2 vf T203.heap n0 hZn rfl hc1 hs1 hOld S_cs hz S_f hf (by show 6 < 2147483647; decide) (by show 2 < 6; decide) rfl (by show 3 < 6; decide) rfl SFr) hZ (w 159 rfl) (w 155 rfl) (by decide) (by decide)) (g := (fl m p1 p2 p3 p4 c0 c1 c2 s0 s1 s2 s3 (.val (.int 3)) (.val (.ref str)) (.val (.ref xr)) (.val (.int 6)) (.val (.int 2)) 279 [(.int c1), (.int 2), (.ref xr)])) rfl (by rw [hml]; rfl) (argsL := [(.ref xr), (.int 2), (.int c1)]) (rest := []) (lenOf pd_23 rfl) rfl (by show 2 * 0 + _ ≤ _; exact Nat.le_of_eq rfl) (hb hby at_279) (fun _ _ => ⟨rfl, e346, (by decide : 18 + 0 ≤ _), (by decide : 141 + 0 ≤ _)⟩)
       dsimp only [Pt.U, Pt.locs, Pt.cells, Pt.slots] at X349 l349 y349 z349 st349 hQ349
       subst l349 y349 z349
       obtain ⟨rfl, N349q, e349⟩ := hQ349
       have N349 := Fr.app N346 N349q
       have R350 := Rc.st R348 st349
       have R351 : Rc p e below A0 (T349.setTop (fl m p1 p2 p3 p4 c0 c1 c2 s0 s1 s2 s3 (.val (.int 3)) (.val (.ref str)) (.val (.ref xr)) (.val (.int 6)) (.val (.int 4)) 296 [(.int c2), (.int 4), (.ref xr)])) := by
         intro tgt hgo
         refine R350 tgt ?_
         show Steps p.tables e below (T349.setTop (fl m p1 p2 p3 p4 c0 c1 c2 s0 s1 s2 s3 (.val (.int 3)) (.val (.ref str)) (.val (.ref xr)) (.val (.int 6)) (.val (.int 2)) 282 [(.int 4)])) _
         refine XS.istore X349.here hx rfl (hb hby at_282) rfl (l' := #[.val (.int p1), .val (.int p2), .val (.int p3), .val (.int p4), .val (.int 3), .val (.int c0), .val (.int c1), .val (.int c2), .val (.ref s0), .val (.ref s1), .val (.ref s2), .val (.ref s3), .val (.ref str), .val (.ref xr), .val (.int 6), .val (.int 4)]) rfl ?_
         refine XS.iload X349.here hx rfl (hb hby at_284) rfl ?_
         refine XS.iconst X349.here hx rfl (hb hby at_286) ?_
         refine XS.icmpNo X349.here hx rfl (hb hby at_287) rfl (flt (by decide : ¬ ((3 : Int32) < (3 : Int32)))).1 ?_
         refine XS.aload X349.here hx rfl (hb hby at_290) rfl rfl ?_
         refine XS.iload X349.here hx rfl (hb hby at_292) rfl ?_
         refine XS.iload X349.here hx rfl (hb hby at_294) rfl ?_
         exact hgo
       obtain ⟨_, _, ⟨T352, L352, k352, n352⟩, -, X352, ⟨Lc352, hQ352, l352, y352, z352⟩, st352⟩ := Jvm.LawKit.callS X349 hx (y := yn29) hown (mvT hZ (w 157 rfl)) (mvT hZ (w 158 rfl)) (mvT hZ (w 155 rfl)) (mvT hZ (w 159 rfl)) (by decide) (backOf (W := 0) (rm_step0 l Z a0 hw [] xr (4 : Int32) c2 zc tr kr [own_b 34, own_b c0, own_b 92, own_b c1, own_b c2, own_b 34] 4 vf T203.heap n0 hZn rfl hc2 hs2 hOld S_cs hz S_f hf (by show 6 < 2147483647; decide) (by show 4 < 6; decide) rfl SFr) hZ (w 159 rfl) (w 155 rfl) (by decide) (by decide)) (g := (fl m p1 p2 p3 p4 c0 c1 c2 s0 s1 s2 s3 (.val (.int 3)) (.val (.ref str)) (.val (.ref xr)) (.val (.int 6)) (.val (.int 4)) 296 [(.int c2), (.int 4), (.ref xr)])) rfl (by rw [hml]; rfl) (argsL := [(.ref xr), (.int 4), (.int c2)]) (rest := []) (lenOf pd_23 rfl) rfl (by show 2 * 0 + _ ≤ _; exact Nat.le_of_eq rfl) (hb hby at_296) (fun _ _ => ⟨rfl, e349, (by decide : 18 + 0 ≤ _), (by decide : 141 + 0 ≤ _)⟩)
       dsimp only [Pt.U, Pt.locs, Pt.cells, Pt.slots] at X352 l352 y352 z352 st352 hQ352
       subst l352 y352 z352
       obtain ⟨rfl, N352q, e352⟩ := hQ352
       have N352 := Fr.app N349 N352q
       have R353 := Rc.st R351 st352
       have R354 : Rc p e below A0 (T352.setTop (fl m p1 p2 p3 p4 c0 c1 c2 s0 s1 s2 s3 (.val (.int 3)) (.val (.ref str)) (.val (.ref xr)) (.val (.int 6)) (.val (.int 5)) 314 [(.int 5), (.ref xr)])) := by
         intro tgt hgo
         refine R353 tgt ?_
         show Steps p.tables e below (T352.setTop (fl m p1 p2 p3 p4 c0 c1 c2 s0 s1 s2 s3 (.val (.int 3)) (.val (.ref str)) (.val (.ref xr)) (.val (.int 6)) (.val (.int 4)) 299 [(.int 5)])) _
         refine XS.istore X352.here hx rfl (hb hby at_299) rfl (l' := #[.val (.int p1), .val (.int p2), .val (.int p3), .val (.int p4), .val (.int 3), .val (.int c0), .val (.int c1), .val (.int c2), .val (.ref s0), .val (.ref s1), .val (.ref s2), .val (.ref s3), .val (.ref str), .val (.ref xr), .val (.int 6), .val (.int 5)]) rfl ?_
         refine XS.iload X352.here hx rfl (hb hby at_301) rfl ?_
         refine XS.iload X352.here hx rfl (hb hby at_303) rfl ?_
         refine XS.iconst X352.here hx rfl (hb hby at_305) ?_
         refine XS.isub X352.here hx rfl (hb hby at_306) rfl ?_
         refine XS.icmpNo X352.here hx rfl (hb hby at_307) rfl (teq (by decide : (5 : Int32) = (5 : Int32))).2 ?_
         refine XS.aload X352.here hx rfl (hb hby at_310) rfl rfl ?_
         refine XS.iload X352.here hx rfl (hb hby at_312) rfl ?_
         exact hgo
       obtain ⟨cq355, kq355, q355a, q355b, q355c⟩ := isOf hZ e352 E_r
       obtain ⟨_, _, ⟨T355, L355, k355, n355⟩, -, X355, ⟨Lc355, hQ355, l355, y355, z355⟩, st355⟩ := X352.virtualBack hx (y := yn6) (z := yn6) hown (mvT hZ (w 121 rfl)) (mvT hZ (w 122 rfl)) (notFace_of_selects (args := #[]) (mvT hZ (w 124 rfl))) (mvT hZ (w 124 rfl)) (mvT hZ (w 123 rfl)) (by decide) (backOf (W := 0) (rm_charAt l Z a0 hw [] xr (5 : Int32) zc tr kr [own_b 34, own_b c0, own_b 92, own_b c1, own_b c2, own_b 34] 5 34 vf T203.heap n0 hZn rfl hOld S_cs hz S_f hf (by decide) (by show Int32.ofNat 5 < Int32.ofNat 6; decide) rfl own_c34 SFr) hZ (w 125 rfl) (w 3 rfl) (by decide) (by decide)) q355a q355c (g := (fl m p1 p2 p3 p4 c0 c1 c2 s0 s1 s2 s3 (.val (.int 3)) (.val (.ref str)) (.val (.ref xr)) (.val (.int 6)) (.val (.int 5)) 314 [(.int 5), (.ref xr)])) rfl (by rw [hml]; rfl) (Steps.refl _) (argsL := [(.int 5)]) (rest := []) (lenOf pd_17 rfl) rfl (by show 2 * 0 + _ ≤ _; exact Nat.le_of_eq rfl) (hb hby at_314) (fun _ _ => ⟨rfl, e352, (by decide : 18 + 0 ≤ _), (by decide : 141 + 0 ≤ _)⟩)
       dsimp only [Pt.U, Pt.locs, Pt.cells, Pt.slots] at X355 l355 y355 z355 st355 hQ355
       subst l355 y355 z355
       obtain ⟨rfl, N355q, e355⟩ := hQ355
       have N355 := Fr.app N352 N355q
       have R356 := Rc.tr R354 st355
       have R357 : Rc p e below A0 (T355.setTop (fl m p1 p2 p3 p4 c0 c1 c2 s0 s1 s2 s3 (.val (.int 3)) (.val (.ref str)) (.val (.ref xr)) (.val (.int 6)) (.val (.int 5)) 327 [(.int 1)])) := by
         intro tgt hgo
         refine R356 tgt ?_
         show Steps p.tables e below (T355.setTop (fl m p1 p2 p3 p4 c0 c1 c2 s0 s1 s2 s3 (.val (.int 3)) (.val (.ref str)) (.val (.ref xr)) (.val (.int 6)) (.val (.int 5)) 317 [(.int 34)])) _
         refine XS.bipush X355.here hx rfl (hb hby at_317) ?_
         refine XS.icmpNo X355.here hx rfl (hb hby at_319) rfl (teq (by decide : (34 : Int32) = (34 : Int32))).2 ?_
         refine XS.iconst X355.here hx rfl (hb hby at_322) ?_
         refine XS.goto X355.here hx rfl (pc0 := 323) (pc' := 327) rfl (hb hby at_323) (by decide) (by decide) ?_
         exact hgo
       subst hA0
       obtain ⟨fs, hr, hrun, hended, hRW⟩ := X355.leaveW hS (by rw [e355]; exact hk) (v := some (.int 1)) (fun h => by rw [Bd.returns] at h; cases h) Bd.notSynchronized
       refine ⟨_, _, R357 _ ?_, hrun, hended, _, _, rfl, ?_, OwnKit.own_fin hRW (by decide) (by decide)⟩
       ·show Steps p.tables e below (T355.setTop (fl m p1 p2 p3 p4 c0 c1 c2 s0 s1 s2 s3 (.val (.int 3)) (.val (.ref str)) (.val (.ref xr)) (.val (.int 6)) (.val (.int 5)) 327 [(.int 1)])) _
        exact retN X355 hx (t := .boolean) Bd.returns (by simp) (hb hby at_327) hr
       ·show Q0 n0 _ T355.heap _
        rw [e355]
        exact ⟨rfl, N355⟩
     ·have R358 : Rc p e below A0 (T307.setTop (fl m p1 p2 p3 p4 c0 c1 c2 s0 s1 s2 s3 (.val (.int 3)) (.val (.ref str)) (.val (.ref xr)) (.val (.int 5)) (.unset) 190 [(.int c1)])) := by
        intro tgt hgo
        refine R309 tgt ?_
        show Steps p.tables e below (T307.setTop (fl m p1 p2 p3 p4 c0 c1 c2 s0 s1 s2 s3 (.val (.int 3)) (.val (.ref str)) (.val (.ref xr)) (.val (.int 5)) (.unset) 188 [])) _
        refine XS.iload X307.here hx rfl (hb hby at_188) rfl ?_
        exact hgo
      obtain ⟨_, _, ⟨T359, L359, k359, n359⟩, -, X359, ⟨Lc359, hQ359, l359, y359, z359⟩, st359⟩ := Jvm.LawKit.callS X307 hx (y := yn28) hown (mvT hZ (w 153 rfl)) (mvT hZ (w 154 rfl)) (mvT hZ (w 155 rfl)) (mvT hZ (w 156 rfl)) (by decide) (backOf (W := 0) (rm_sp l Z a0 hw [] c1 0 T203.heap n0 hZn hs1) hZ (w 156 rfl) (w 155 rfl) (by decide) (by decide)) (g := (fl m p1 p2 p3 p4 c0 c1 c2 s0 s1 s2 s3 (.val (.int 3)) (.val (.ref str)) (.val (.ref xr)) (.val (.int 5)) (.unset) 190 [(.int c1)])) rfl (by rw [hml]; rfl) (argsL := [(.int c1)]) (rest := []) (lenOf pd_10 rfl) rfl (by show 2 * 0 + _ ≤ _; exact Nat.le_of_eq rfl) (hb hby at_190) (fun _ _ => ⟨rfl, e307, (by decide : 18 + 0 ≤ _), (by decide : 141 + 0 ≤ _)⟩)
      dsimp only [Pt.U, Pt.locs, Pt.cells, Pt.slots] at X359 l359 y359 z359 st359 hQ359
      subst l359 y359 z359
      obtain ⟨rfl, N359q, e359⟩ := hQ359
      have N359 := Fr.app N307 N359q
      have R360 := Rc.st R358 st359
      have R361 : Rc p e below A0 (T359.setTop (fl m p1 p2 p3 p4 c0 c1 c2 s0 s1 s2 s3 (.val (.int 3)) (.val (.ref str)) (.val (.ref xr)) (.val (.int 5)) (.unset) 208 [])) := by
        intro tgt hgo
        refine R360 tgt ?_
        show Steps p.tables e below (T359.setTop (fl m p1 p2 p3 p4 c0 c1 c2 s0 s1 s2 s3 (.val (.int 3)) (.val (.ref str)) (.val (.ref xr)) (.val (.int 5)) (.unset) 193 [(.int 0)])) _
        refine XS.ifYes X359.here hx rfl (pc0 := 193) (pc' := 202) rfl (hb hby at_193) rfl ((if0 _ _).trans (teq (by decide : (0 : Int32) = (0 : Int32))).1) (by decide) (by decide) ?_
        refine XS.iload X359.here hx rfl (hb hby at_202) rfl ?_
        refine XS.iconst X359.here hx rfl (hb hby at_204) ?_
        refine XS.icmpNo X359.here hx rfl (hb hby at_205) rfl (flt (by decide : ¬ ((3 : Int32) < (3 : Int32)))).1 ?_
        exact hgo
      rcases own_sp_cases c2 with ⟨hs2, -⟩ | ⟨hs2, -, -⟩
      ·have R362 : Rc p e below A0 (T359.setTop (fl m p1 p2 p3 p4 c0 c1 c2 s0 s1 s2 s3 (.val (.int 3)) (.val (.ref str)) (.val (.ref xr)) (.val (.int 5)) (.unset) 210 [(.int c2)])) := by
         intro tgt hgo
         refine R361 tgt ?_
         show Steps p.tables e below (T359.setTop (fl m p1 p2 p3 p4 c0 c1 c2 s0 s1 s2 s3 (.val (.int 3)) (.val (.ref str)) (.val (.ref xr)) (.val (.int 5)) (.unset) 208 [])) _
         refine XS.iload X359.here hx rfl (hb hby at_208) rfl ?_
         exact hgo
       obtain ⟨_, _, ⟨T363, L363, k363, n363⟩, -, X363, ⟨Lc363, hQ363, l363, y363, z363⟩, st363⟩ := Jvm.LawKit.callS X359 hx (y := yn28) hown (mvT hZ (w 153 rfl)) (mvT hZ (w 154 rfl)) (mvT hZ (w 155 rfl)) (mvT hZ (w 156 rfl)) (by decide) (backOf (W := 0) (rm_sp l Z a0 hw [] c2 1 T203.heap n0 hZn hs2) hZ (w 156 rfl) (w 155 rfl) (by decide) (by decide)) (g := (fl m p1 p2 p3 p4 c0 c1 c2 s0 s1 s2 s3 (.val (.int 3)) (.val (.ref str)) (.val (.ref xr)) (.val (.int 5)) (.unset) 210 [(.int c2)])) rfl (by rw [hml]; rfl) (argsL := [(.int c2)]) (rest := []) (lenOf pd_10 rfl) rfl (by show 2 * 0 + _ ≤ _; exact Nat.le_of_eq rfl) (hb hby at_210) (fun _ _ => ⟨rfl, e359, (by decide : 18 + 0 ≤ _), (by decide : 141 + 0 ≤ _)⟩)
       dsimp only [Pt.U, Pt.locs, Pt.cells, Pt.slots] at X363 l363 y363 z363 st363 hQ363
       subst l363 y363 z363
       obtain ⟨rfl, N363q, e363⟩ := hQ363
       have N363 := Fr.app N359 N363q
       have R364 := Rc.st R362 st363
       have hq : (((([] ++ [own_b 34]) ++ own_esc c0) ++ own_esc c1) ++ own_esc c2) ++ [own_b 34] = [own_b 34, own_b c0, own_b c1, own_b 92, own_b c2, own_b 34] := by simp [own_esc, hs0, hs1, hs2]
       rw [hq] at SFr
       have R365 : Rc p e below A0 (T363.setTop (fl m p1 p2 p3 p4 c0 c1 c2 s0 s1 s2 s3 (.val (.int 3)) (.val (.ref str)) (.val (.ref xr)) (.val (.int 6)) (.unset) 224 [(.ref xr)])) := by
         intro tgt hgo
         refine R364 tgt ?_
         show Steps p.tables e below (T363.setTop (fl m p1 p2 p3 p4 c0 c1 c2 s0 s1 s2 s3 (.val (.int 3)) (.val (.ref str)) (.val (.ref xr)) (.val (.int 5)) (.unset) 213 [(.int 1)])) _
         refine XS.ifNo X363.here hx rfl (hb hby at_213) rfl ((if0 _ _).trans (feq (by decide : ¬ ((1 : Int32) = (0 : Int32)))).1) ?_
         refine XS.iload X363.here hx rfl (hb hby at_216) rfl ?_
         refine XS.iconst X363.here hx rfl (hb hby at_218) ?_
         refine XS.iadd X363.here hx rfl (hb hby at_219) rfl ?_
         refine XS.istore X363.here hx rfl (hb hby at_220) rfl (l' := #[.val (.int p1), .val (.int p2), .val (.int p3), .val (.int p4), .val (.int 3), .val (.int c0), .val (.int c1), .val (.int c2), .val (.ref s0), .val (.ref s1), .val (.ref s2), .val (.ref s3), .val (.ref str), .val (.ref xr), .val (.int 6), .unset]) rfl ?_
         refine XS.aload X363.here hx rfl (hb hby at_222) rfl rfl ?_
         exact hgo
       obtain ⟨cq366, kq366, q366a, q366b, q366c⟩ := isOf hZ e363 E_r
       obtain ⟨_, _, ⟨T366, L366, k366, n366⟩, -, X366, ⟨Lc366, hQ366, l366, y366, z366⟩, st366⟩ := X363.virtualBack hx (y := yn1) (z := yn1) hown (mvT hZ (w 120 rfl)) (mvT hZ (w 30 rfl)) (notFace_of_selects (args := #[]) (mvT hZ (w 32 rfl))) (mvT hZ (w 32 rfl)) (mvT hZ (w 31 rfl)) (by decide) (backOf (W := 0) (rm_length l Z a0 hw [] xr zc tr kr [own_b 34, own_b c0, own_b c1, own_b 92, own_b c2, own_b 34] T203.heap n0 hZn hOld S_cs hz SFr) hZ (w 33 rfl) (w 3 rfl) (by decide) (by decide)) q366a q366c (g := (fl m p1 p2 p3 p4 c0 c1 c2 s0 s1 s2 s3 (.val (.int 3)) (.val (.ref str)) (.val (.ref xr)) (.val (.int 6)) (.unset) 224 [(.ref xr)])) rfl (by rw [hml]; rfl) (Steps.refl _) (argsL := []) (rest := []) (lenOf pd_13 rfl) rfl (by show 2 * 0 + _ ≤ _; exact Nat.le_of_eq rfl) (hb hby at_224) (fun _ _ => ⟨rfl, e363, (by decide : 18 + 0 ≤ _), (by decide : 141 + 0 ≤ _)⟩)
       dsimp only [Pt.U, Pt.locs, Pt.cells, Pt.slots] at X366 l366 y366 z366 st366 hQ366
       subst l366 y366 z366
       obtain ⟨rfl, N366q, e366⟩ := hQ366
       have N366 := Fr.app N363 N366q
       have R367 := Rc.tr R365 st366
       have R368 : Rc p e below A0 (T366.setTop (fl m p1 p2 p3 p4 c0 c1 c2 s0 s1 s2 s3 (.val (.int 3)) (.val (.ref str)) (.val (.ref xr)) (.val (.int 6)) (.unset) 237 [(.int 0), (.ref xr)])) := by
         intro tgt hgo
         refine R367 tgt ?_
         show Steps p.tables e below (T366.setTop (fl m p1 p2 p3 p4 c0 c1 c2 s0 s1 s2 s3 (.val (.int 3)) (.val (.ref str)) (.val (.ref xr)) (.val (.int 6)) (.unset) 227 [(.int 6)])) _
         refine XS.iload X366.here hx rfl (hb hby at_227) rfl ?_
         refine XS.icmpYes X366.here hx rfl (pc0 := 229) (pc' := 234) rfl (hb hby at_229) rfl (teq (by decide : (6 : Int32) = (6 : Int32))).1 (by decide) (by decide) ?_
         refine XS.aload X366.here hx rfl (hb hby at_234) rfl rfl ?_
         refine XS.iconst X366.here hx rfl (hb hby at_236) ?_
         exact hgo
       obtain ⟨cq369, kq369, q369a, q369b, q369c⟩ := isOf hZ e366 E_r
       obtain ⟨_, _, ⟨T369, L369, k369, n369⟩, -, X369, ⟨Lc369, hQ369, l369, y369, z369⟩, st369⟩ := X366.virtualBack hx (y := yn6) (z := yn6) hown (mvT hZ (w 121 rfl)) (mvT hZ (w 122 rfl)) (notFace_of_selects (args := #[]) (mvT hZ (w 124 rfl))) (mvT hZ (w 124 rfl)) (mvT hZ (w 123 rfl)) (by decide) (backOf (W := 0) (rm_charAt l Z a0 hw [] xr (0 : Int32) zc tr kr [own_b 34, own_b c0, own_b c1, own_b 92, own_b c2, own_b 34] 0 34 vf T203.heap n0 hZn rfl hOld S_cs hz S_f hf (by decide) (by show Int32.ofNat 0 < Int32.ofNat 6; decide) rfl own_c34 SFr) hZ (w 125 rfl) (w 3 rfl) (by decide) (by decide)) q369a q369c (g := (fl m p1 p2 p3 p4 c0 c1 c2 s0 s1 s2 s3 (.val (.int 3)) (.val (.ref str)) (.val (.ref xr)) (.val (.int 6)) (.unset) 237 [(.int 0), (.ref xr)])) rfl (by rw [hml]; rfl) (Steps.refl _) (argsL := [(.int 0)]) (rest := []) (lenOf pd_17 rfl) rfl (by show 2 * 0 + _ ≤ _; exact Nat.le_of_eq rfl) (hb hby at_237) (fun _ _ => ⟨rfl, e366, (by decide : 18 + 0 ≤ _), (by decide : 141 + 0 ≤ _)⟩)
       dsimp only [Pt.U, Pt.locs, Pt.cells, Pt.slots] at X369 l369 y369 z369 st369 hQ369
       subst l369 y369 z369
       obtain ⟨rfl, N369q, e369⟩ := hQ369
       have N369 := Fr.app N366 N369q
       have R370 := Rc.tr R368 st369
       have R371 : Rc p e below A0 (T369.setTop (fl m p1 p2 p3 p4 c0 c1 c2 s0 s1 s2 s3 (.val (.int 3)) (.val (.ref str)) (.val (.ref xr)) (.val (.int 6)) (.val (.int 1)) 262 [(.int c0), (.int 1), (.ref xr)])) := by
         intro tgt hgo
         refine R370 tgt ?_
         show Steps p.tables e below (T369.setTop (fl m p1 p2 p3 p4 c0 c1 c2 s0 s1 s2 s3 (.val (.int 3)) (.val (.ref str)) (.val (.ref xr)) (.val (.int 6)) (.unset) 240 [(.int 34)])) _
         refine XS.bipush X369.here hx rfl (hb hby at_240) ?_
         refine XS.icmpYes X369.here hx rfl (pc0 := 242) (pc' := 247) rfl (hb hby at_242) rfl (teq (by decide : (34 : Int32) = (34 : Int32))).1 (by decide) (by decide) ?_
         refine XS.iconst X369.here hx rfl (hb hby at_247) ?_
         refine XS.istore X369.here hx rfl (hb hby at_248) rfl (l' := #[.val (.int p1), .val (.int p2), .val (.int p3), .val (.int p4), .val (.int 3), .val (.int c0), .val (.int c1), .val (.int c2), .val (.ref s0), .val (.ref s1), .val (.ref s2), .val (.ref s3), .val (.ref str), .val (.ref xr), .val (.int 6), .val (.int 1)]) rfl ?_
         refine XS.iload X369.here hx rfl (hb hby at_250) rfl ?_
         refine XS.iconst X369.here hx rfl (hb hby at_252) ?_
         refine XS.icmpNo X369.here hx rfl (hb hby at_253) rfl (flt (by decide : ¬ ((3 : Int32) < (1 : Int32)))).1 ?_
         refine XS.aload X369.here hx rfl (hb hby at_256) rfl rfl ?_
         refine XS.iload X369.here hx rfl (hb hby at_258) rfl ?_
         refine XS.iload X369.here hx rfl (hb hby at_260) rfl ?_
         exact hgo
       obtain ⟨_, _, ⟨T372, L372, k372, n372⟩, -, X372, ⟨Lc372, hQ372, l372, y372, z372⟩, st372⟩ := Jvm.LawKit.callS X369 hx (y := yn29) hown (mvT hZ (w 157 rfl)) (mvT hZ (w 158 rfl)) (mvT hZ (w 155 rfl)) (mvT hZ (w 159 rfl)) (by decide) (backOf (W := 0) (rm_step0 l Z a0 hw [] xr (1 : Int32) c0 zc tr kr [own_b 34, own_b c0, own_b c1, own_b 92, own_b c2, own_b 34] 1 vf T203.heap n0 hZn rfl hc0 hs0 hOld S_cs hz S_f hf (by show 6 < 2147483647; decide) (by show 1 < 6; decide) rfl SFr) hZ (w 159 rfl) (w 155 rfl) (by decide) (by decide)) (g := (fl m p1 p2 p3 p4 c0 c1 c2 s0 s1 s2 s3 (.val (.int 3)) (.val (.ref str)) (.val (.ref xr)) (.val (.int 6)) (.val (.int 1)) 262 [(.int c0), (.int 1), (.ref xr)])) rfl (by rw [hml]; rfl) (argsL := [(.ref xr), (.int 1), (.int c0)]) (rest := []) (lenOf pd_23 rfl) rfl (by show 2 * 0 + _ ≤ _; exact Nat.le_of_eq rfl) (hb hby at_262) (fun _ _ => ⟨rfl, e369, (by decide : 18 + 0 ≤ _), (by decide : 141 + 0 ≤ _)⟩)
       dsimp only [Pt.U, Pt.locs, Pt.cells, Pt.slots] at X372 l372 y372 z372 st372 hQ372
       subst l372 y372 z372
       obtain ⟨rfl, N372q, e372⟩ := hQ372
       have N372 := Fr.app N369 N372q
       have R373 := Rc.st R371 st372
       have R374 : Rc p e below A0 (T372.setTop (fl m p1 p2 p3 p4 c0 c1 c2 s0 s1 s2 s3 (.val (.int 3)) (.val (.ref str)) (.val (.ref xr)) (.val (.int 6)) (.val (.int 2)) 279 [(.int c1), (.int 2), (.ref xr)])) := by
         intro tgt hgo
         refine R373 tgt ?_
         show Steps p.tables e below (T372.setTop (fl m p1 p2 p3 p4 c0 c1 c2 s0 s1 s2 s3 (.val (.int 3)) (.val (.ref str)) (.val (.ref xr)) (.val (.int 6)) (.val (.int 1)) 265 [(.int 2)])) _
         refine XS.istore X372.here hx rfl (hb hby at_265) rfl (l' := #[.val (.int p1), .val (.int p2), .val (.int p3), .val (.int p4), .val (.int 3), .val (.int c0), .val (.int c1), .val (.int c2), .val (.ref s0), .val (.ref s1), .val (.ref s2), .val (.ref s3), .val (.ref str), .val (.ref xr), .val (.int 6), .val (.int 2)]) rfl ?_
         refine XS.iload X372.here hx rfl (hb hby at_267) rfl ?_
         refine XS.iconst X372.here hx rfl (hb hby at_269) ?_
         refine XS.icmpNo X372.here hx rfl (hb hby at_270) rfl (flt (by decide : ¬ ((3 : Int32) < (2 : Int32)))).1 ?_
         refine XS.aload X372.here hx rfl (hb hby at_273) rfl rfl ?_
         refine XS.iload X372.here hx rfl (hb hby at_275) rfl ?_
         refine XS.iload X372.here hx rfl (hb hby at_277) rfl ?_
         exact hgo
       obtain ⟨_, _, ⟨T375, L375, k375, n375⟩, -, X375, ⟨Lc375, hQ375, l375, y375, z375⟩, st375⟩ := Jvm.LawKit.callS X372 hx (y := yn29) hown (mvT hZ (w 157 rfl)) (mvT hZ (w 158 rfl)) (mvT hZ (w 155 rfl)) (mvT hZ (w 159 rfl)) (by decide) (backOf (W := 0) (rm_step0 l Z a0 hw [] xr (2 : Int32) c1 zc tr kr [own_b 34, own_b c0, own_b c1, own_b 92, own_b c2, own_b 34] 2 vf T203.heap n0 hZn rfl hc1 hs1 hOld S_cs hz S_f hf (by show 6 < 2147483647; decide) (by show 2 < 6; decide) rfl SFr) hZ (w 159 rfl) (w 155 rfl) (by decide) (by decide)) (g := (fl m p1 p2 p3 p4 c0 c1 c2 s0 s1 s2 s3 (.val (.int 3)) (.val (.ref str)) (.val (.ref xr)) (.val (.int 6)) (.val (.int 2)) 279 [(.int c1), (.int 2), (.ref xr)])) rfl (by rw [hml]; rfl) (argsL := [(.ref xr), (.int 2), (.int c1)]) (rest := []) (lenOf pd_23 rfl) rfl (by show 2 * 0 + _ ≤ _; exact Nat.le_of_eq rfl) (hb hby at_279) (fun _ _ => ⟨rfl, e372, (by decide : 18 + 0 ≤ _), (by decide : 141 + 0 ≤ _)⟩)
       dsimp only [Pt.U, Pt.locs, Pt.cells, Pt.slots] at X375 l375 y375 z375 st375 hQ375
       subst l375 y375 z375
       obtain ⟨rfl, N375q, e375⟩ := hQ375
       have N375 := Fr.app N372 N375q
       have R376 := Rc.st R374 st375
       have R377 : Rc p e below A0 (T375.setTop (fl m p1 p2 p3 p4 c0 c1 c2 s0 s1 s2 s3 (.val (.int 3)) (.val (.ref str)) (.val (.ref xr)) (.val (.int 6)) (.val (.int 3)) 296 [(.int c2), (.int 3), (.ref xr)])) := by
         intro tgt hgo
         refine R376 tgt ?_
         show Steps p.tables e below (T375.setTop (fl m p1 p2 p3 p4 c0 c1 c2 s0 s1 s2 s3 (.val (.int 3)) (.val (.ref str)) (.val (.ref xr)) (.val (.int 6)) (.val (.int 2)) 282 [(.int 3)])) _
         refine XS.istore X375.here hx rfl (hb hby at_282) rfl (l' := #[.val (.int p1), .val (.int p2), .val (.int p3), .val (.int p4), .val (.int 3), .val (.int c0), .val (.int c1), .val (.int c2), .val (.ref s0), .val (.ref s1), .val (.ref s2), .val (.ref s3), .val (.ref str), .val (.ref xr), .val (.int 6), .val (.int 3)]) rfl ?_
         refine XS.iload X375.here hx rfl (hb hby at_284) rfl ?_
         refine XS.iconst X375.here hx rfl (hb hby at_286) ?_
         refine XS.icmpNo X375.here hx rfl (hb hby at_287) rfl (flt (by decide : ¬ ((3 : Int32) < (3 : Int32)))).1 ?_
         refine XS.aload X375.here hx rfl (hb hby at_290) rfl rfl ?_
         refine XS.iload X375.here hx rfl (hb hby at_292) rfl ?_
         refine XS.iload X375.here hx rfl (hb hby at_294) rfl ?_
         exact hgo
       obtain ⟨_, _, ⟨T378, L378, k378, n378⟩, -, X378, ⟨Lc378, hQ378, l378, y378, z378⟩, st378⟩ := Jvm.LawKit.callS X375 hx (y := yn29) hown (mvT hZ (w 157 rfl)) (mvT hZ (w 158 rfl)) (mvT hZ (w 155 rfl)) (mvT hZ (w 159 rfl)) (by decide) (backOf (W := 0) (rm_step1 l Z a0 hw [] xr (3 : Int32) c2 zc tr kr [own_b 34, own_b c0, own_b c1, own_b 92, own_b c2, own_b 34] 3 vf T203.heap n0 hZn rfl hc2 hs2 hOld S_cs hz S_f hf (by show 6 < 2147483647; decide) (by show 3 < 6; decide) rfl (by show 4 < 6; decide) rfl SFr) hZ (w 159 rfl) (w 155 rfl) (by decide) (by decide)) (g := (fl m p1 p2 p3 p4 c0 c1 c2 s0 s1 s2 s3 (.val (.int 3)) (.val (.ref str)) (.val (.ref xr)) (.val (.int 6)) (.val (.int 3)) 296 [(.int c2), (.int 3), (.ref xr)])) rfl (by rw [hml]; rfl) (argsL := [(.ref xr), (.int 3), (.int c2)]) (rest := []) (lenOf pd_23 rfl) rfl (by show 2 * 0 + _ ≤ _; exact Nat.le_of_eq rfl) (hb hby at_296) (fun _ _ => ⟨rfl, e375, (by decide : 18 + 0 ≤ _), (by decide : 141 + 0 ≤ _)⟩)
       dsimp only [Pt.U, Pt.locs, Pt.cells, Pt.slots] at X378 l378 y378 z378 st378 hQ378
       subst l378 y378 z378
       obtain ⟨rfl, N378q, e378⟩ := hQ378
       have N378 := Fr.app N375 N378q
       have R379 := Rc.st R377 st378
       have R380 : Rc p e below A0 (T378.setTop (fl m p1 p2 p3 p4 c0 c1 c2 s0 s1 s2 s3 (.val (.int 3)) (.val (.ref str)) (.val (.ref xr)) (.val (.int 6)) (.val (.int 5)) 314 [(.int 5), (.ref xr)])) := by
         intro tgt hgo
         refine R379 tgt ?_
         show Steps p.tables e below (T378.setTop (fl m p1 p2 p3 p4 c0 c1 c2 s0 s1 s2 s3 (.val (.int 3)) (.val (.ref str)) (.val (.ref xr)) (.val (.int 6)) (.val (.int 3)) 299 [(.int 5)])) _
         refine XS.istore X378.here hx rfl (hb hby at_299) rfl (l' := #[.val (.int p1), .val (.int p2), .val (.int p3), .val (.int p4), .val (.int 3), .val (.int c0), .val (.int c1), .val (.int c2), .val (.ref s0), .val (.ref s1), .val (.ref s2), .val (.ref s3), .val (.ref str), .val (.ref xr), .val (.int 6), .val (.int 5)]) rfl ?_
         refine XS.iload X378.here hx rfl (hb hby at_301) rfl ?_
         refine XS.iload X378.here hx rfl (hb hby at_303) rfl ?_
         refine XS.iconst X378.here hx rfl (hb hby at_305) ?_
         refine XS.isub X378.here hx rfl (hb hby at_306) rfl ?_
         refine XS.icmpNo X378.here hx rfl (hb hby at_307) rfl (teq (by decide : (5 : Int32) = (5 : Int32))).2 ?_
         refine XS.aload X378.here hx rfl (hb hby at_310) rfl rfl ?_
         refine XS.iload X378.here hx rfl (hb hby at_312) rfl ?_
         exact hgo
       obtain ⟨cq381, kq381, q381a, q381b, q381c⟩ := isOf hZ e378 E_r
       obtain ⟨_, _, ⟨T381, L381, k381, n381⟩, -, X381, ⟨Lc381, hQ381, l381, y381, z381⟩, st381⟩ := X378.virtualBack hx (y := yn6) (z := yn6) hown (mvT hZ (w 121 rfl)) (mvT hZ (w 122 rfl)) (notFace_of_selects (args := #[]) (mvT hZ (w 124 rfl))) (mvT hZ (w 124 rfl)) (mvT hZ (w 123 rfl)) (by decide) (backOf (W := 0) (rm_charAt l Z a0 hw [] xr (5 : Int32) zc tr kr [own_b 34, own_b c0, own_b c1, own_b 92, own_b c2, own_b 34] 5 34 vf T203.heap n0 hZn rfl hOld S_cs hz S_f hf (by decide) (by show Int32.ofNat 5 < Int32.ofNat 6; decide) rfl own_c34 SFr) hZ (w 125 rfl) (w 3 rfl) (by decide) (by decide)) q381a q381c (g := (fl m p1 p2 p3 p4 c0 c1 c2 s0 s1 s2 s3 (.val (.int 3)) (.val (.ref str)) (.val (.ref xr)) (.val (.int 6)) (.val (.int 5)) 314 [(.int 5), (.ref xr)])) rfl (by rw [hml]; rfl) (Steps.refl _) (argsL := [(.int 5)]) (rest := []) (lenOf pd_17 rfl) rfl (by show 2 * 0 + _ ≤ _; exact Nat.le_of_eq rfl) (hb hby at_314) (fun _ _ => ⟨rfl, e378, (by decide : 18 + 0 ≤ _), (by decide : 141 + 0 ≤ _)⟩)
       dsimp only [Pt.U, Pt.locs, Pt.cells, Pt.slots] at X381 l381 y381 z381 st381 hQ381
       subst l381 y381 z381
       obtain ⟨rfl, N381q, e381⟩ := hQ381
       have N381 := Fr.app N378 N381q
       have R382 := Rc.tr R380 st381
       have R383 : Rc p e below A0 (T381.setTop (fl m p1 p2 p3 p4 c0 c1 c2 s0 s1 s2 s3 (.val (.int 3)) (.val (.ref str)) (.val (.ref xr)) (.val (.int 6)) (.val (.int 5)) 327 [(.int 1)])) := by
         intro tgt hgo
         refine R382 tgt ?_
         show Steps p.tables e below (T381.setTop (fl m p1 p2 p3 p4 c0 c1 c2 s0 s1 s2 s3 (.val (.int 3)) (.val (.ref str)) (.val (.ref xr)) (.val (.int 6)) (.val (.int 5)) 317 [(.int 34)])) _
         refine XS.bipush X381.here hx rfl (hb hby at_317) ?_
         refine XS.icmpNo X381.here hx rfl (hb hby at_319) rfl (teq (by decide : (34 : Int32) = (34 : Int32))).2 ?_
         refine XS.iconst X381.here hx rfl (hb hby at_322) ?_
         refine XS.goto X381.here hx rfl (pc0 := 323) (pc' := 327) rfl (hb hby at_323) (by decide) (by decide) ?_
         exact hgo
       subst hA0
       obtain ⟨fs, hr, hrun, hended, hRW⟩ := X381.leaveW hS (by rw [e381]; exact hk) (v := some (.int 1)) (fun h => by rw [Bd.returns] at h; cases h) Bd.notSynchronized
       refine ⟨_, _, R383 _ ?_, hrun, hended, _, _, rfl, ?_, OwnKit.own_fin hRW (by decide) (by decide)⟩
       ·show Steps p.tables e below (T381.setTop (fl m p1 p2 p3 p4 c0 c1 c2 s0 s1 s2 s3 (.val (.int 3)) (.val (.ref str)) (.val (.ref xr)) (.val (.int 6)) (.val (.int 5)) 327 [(.int 1)])) _
        exact retN X381 hx (t := .boolean) Bd.returns (by simp) (hb hby at_327) hr
       ·show Q0 n0 _ T381.heap _
        rw [e381]
        exact ⟨rfl, N381⟩
      ·have R384 : Rc p e below A0 (T359.setTop (fl m p1 p2 p3 p4 c0 c1 c2 s0 s1 s2 s3 (.val (.int 3)) (.val (.ref str)) (.val (.ref xr)) (.val (.int 5)) (.unset) 210 [(.int c2)])) := by
         intro tgt hgo
         refine R361 tgt ?_
         show Steps p.tables e below (T359.setTop (fl m p1 p2 p3 p4 c0 c1 c2 s0 s1 s2 s3 (.val (.int 3)) (.val (.ref str)) (.val (.ref xr)) (.val (.int 5)) (.unset) 208 [])) _
         refine XS.iload X359.here hx rfl (hb hby at_208) rfl ?_
         exact hgo
       obtain ⟨_, _, ⟨T385, L385, k385, n385⟩, -, X385, ⟨Lc385, hQ385, l385, y385, z385⟩, st385⟩ := Jvm.LawKit.callS X359 hx (y := yn28) hown (mvT hZ (w 153 rfl)) (mvT hZ (w 154 rfl)) (mvT hZ (w 155 rfl)) (mvT hZ (w 156 rfl)) (by decide) (backOf (W := 0) (rm_sp l Z a0 hw [] c2 0 T203.heap n0 hZn hs2) hZ (w 156 rfl) (w 155 rfl) (by decide) (by decide)) (g := (fl m p1 p2 p3 p4 c0 c1 c2 s0 s1 s2 s3 (.val (.int 3)) (.val (.ref str)) (.val (.ref xr)) (.val (.int 5)) (.unset) 210 [(.int c2)])) rfl (by rw [hml]; rfl) (argsL := [(.int c2)]) (rest := []) (lenOf pd_10 rfl) rfl (by show 2 * 0 + _ ≤ _; exact Nat.le_of_eq rfl) (hb hby at_210) (fun _ _ => ⟨rfl, e359, (by decide : 18 + 0 ≤ _), (by decide : 141 + 0 ≤ _)⟩)
       dsimp only [Pt.U, Pt.locs, Pt.cells, Pt.slots] at X385 l385 y385 z385 st385 hQ385
       subst l385 y385 z385
       obtain ⟨rfl, N385q, e385⟩ := hQ385
       have N385 := Fr.app N359 N385q
       have R386 := Rc.st R384 st385
       have hq : (((([] ++ [own_b 34]) ++ own_esc c0) ++ own_esc c1) ++ own_esc c2) ++ [own_b 34] = [own_b 34, own_b c0, own_b c1, own_b c2, own_b 34] := by simp [own_esc, hs0, hs1, hs2]
       rw [hq] at SFr
       have R387 : Rc p e below A0 (T385.setTop (fl m p1 p2 p3 p4 c0 c1 c2 s0 s1 s2 s3 (.val (.int 3)) (.val (.ref str)) (.val (.ref xr)) (.val (.int 5)) (.unset) 224 [(.ref xr)])) := by
         intro tgt hgo
         refine R386 tgt ?_
         show Steps p.tables e below (T385.setTop (fl m p1 p2 p3 p4 c0 c1 c2 s0 s1 s2 s3 (.val (.int 3)) (.val (.ref str)) (.val (.ref xr)) (.val (.int 5)) (.unset) 213 [(.int 0)])) _
         refine XS.ifYes X385.here hx rfl (pc0 := 213) (pc' := 222) rfl (hb hby at_213) rfl ((if0 _ _).trans (teq (by decide : (0 : Int32) = (0 : Int32))).1) (by decide) (by decide) ?_
         refine XS.aload X385.here hx rfl (hb hby at_222) rfl rfl ?_
         exact hgo
       obtain ⟨cq388, kq388, q388a, q388b, q388c⟩ := isOf hZ e385 E_r
       obtain ⟨_, _, ⟨T388, L388, k388, n388⟩, -, X388, ⟨Lc388, hQ388, l388, y388, z388⟩, st388⟩ := X385.virtualBack hx (y := yn1) (z := yn1) hown (mvT hZ (w 120 rfl)) (mvT hZ (w 30 rfl)) (notFace_of_selects (args := #[]) (mvT hZ (w 32 rfl))) (mvT hZ (w 32 rfl)) (mvT hZ (w 31 rfl)) (by decide) (backOf (W := 0) (rm_length l Z a0 hw [] xr zc tr kr [own_b 34, own_b c0, own_b c1, own_b c2, own_b 34] T203.heap n0 hZn hOld S_cs hz SFr) hZ (w 33 rfl) (w 3 rfl) (by decide) (by decide)) q388a q388c (g := (fl m p1 p2 p3 p4 c0 c1 c2 s0 s1 s2 s3 (.val (.int 3)) (.val (.ref str)) (.val (.ref xr)) (.val (.int 5)) (.unset) 224 [(.ref xr)])) rfl (by rw [hml]; rfl) (Steps.refl _) (argsL := []) (rest := []) (lenOf pd_13 rfl) rfl (by show 2 * 0 + _ ≤ _; exact Nat.le_of_eq rfl) (hb hby at_224) (fun _ _ => ⟨rfl, e385, (by decide : 18 + 0 ≤ _), (by decide : 141 + 0 ≤ _)⟩)
       dsimp only [Pt.U, Pt.locs, Pt.cells, Pt.slots] at X388 l388 y388 z388 st388 hQ388
       subst l388 y388 z388
       obtain ⟨rfl, N388q, e388⟩ := hQ388
       have N388 := Fr.app N385 N388q
       have R389 := Rc.tr R387 st388
       have R390 : Rc p e below A0 (T388.setTop (fl m p1 p2 p3 p4 c0 c1 c2 s0 s1 s2 s3 (.val (.int 3)) (.val (.ref str)) (.val (.ref xr)) (.val (.int 5)) (.unset) 237 [(.int 0), (.ref xr)])) := by
         intro tgt hgo
         refine R389 tgt ?_
         show Steps p.tables e below (T388.setTop (fl m p1 p2 p3 p4 c0 c1 c2 s0 s1 s2 s3 (.val (.int 3)) (.val (.ref str)) (.val (.ref xr)) (.val (.int 5)) (.unset) 227 [(.int 5)])) _
         refine XS.iload X388.here hx rfl (hb hby at_227) rfl ?_
         refine XS.icmpYes X388.here hx rfl (pc0 := 229) (pc' := 234) rfl (hb hby at_229) rfl (teq (by decide : (5 : Int32) = (5 : Int32))).1 (by decide) (by decide) ?_
         refine XS.aload X388.here hx rfl (hb hby at_234) rfl rfl ?_
         refine XS.iconst X388.here hx rfl (hb hby at_236) ?_
         exact hgo
       obtain ⟨cq391, kq391, q391a, q391b, q391c⟩ := isOf hZ e388 E_r
       obtain ⟨_, _, ⟨T391, L391, k391, n391⟩, -, X391, ⟨Lc391, hQ391, l391, y391, z391⟩, st391⟩ := X388.virtualBack hx (y := yn6) (z := yn6) hown (mvT hZ (w 121 rfl)) (mvT hZ (w 122 rfl)) (notFace_of_selects (args := #[]) (mvT hZ (w 124 rfl))) (mvT hZ (w 124 rfl)) (mvT hZ (w 123 rfl)) (by decide) (backOf (W := 0) (rm_charAt l Z a0 hw [] xr (0 : Int32) zc tr kr [own_b 34, own_b c0, own_b c1, own_b c2, own_b 34] 0 34 vf T203.heap n0 hZn rfl hOld S_cs hz S_f hf (by decide) (by show Int32.ofNat 0 < Int32.ofNat 5; decide) rfl own_c34 SFr) hZ (w 125 rfl) (w 3 rfl) (by decide) (by decide)) q391a q391c (g := (fl m p1 p2 p3 p4 c0 c1 c2 s0 s1 s2 s3 (.val (.int 3)) (.val (.ref str)) (.val (.ref xr)) (.val (.int 5)) (.unset) 237 [(.int 0), (.ref xr)])) rfl (by rw [hml]; rfl) (Steps.refl _) (argsL := [(.int 0)]) (rest := []) (lenOf pd_17 rfl) rfl (by show 2 * 0 + _ ≤ _; exact Nat.le_of_eq rfl) (hb hby at_237) (fun _ _ => ⟨rfl, e388, (by decide : 18 + 0 ≤ _), (by decide : 141 + 0 ≤ _)⟩)
       dsimp only [Pt.U, Pt.locs, Pt.cells, Pt.slots] at X391 l391 y391 z391 st391 hQ391
       subst l391 y391 z391
       obtain ⟨rfl, N391q, e391⟩ := hQ391
       have N391 := Fr.app N388 N391q
       have R392 := Rc.tr R390 st391
       have R393 : Rc p e below A0 (T391.setTop (fl m p1 p2 p3 p4 c0 c1 c2 s0 s1 s2 s3 (.val (.int 3)) (.val (.ref str)) (.val (.ref xr)) (.val (.int 5)) (.val (.int 1)) 262 [(.int c0), (.int 1), (.ref xr)])) := by
         intro tgt hgo
         refine R392 tgt ?_
         show Steps p.tables e below (T391.setTop (fl m p1 p2 p3 p4 c0 c1 c2 s0 s1 s2 s3 (.val (.int 3)) (.val (.ref str)) (.val (.ref xr)) (.val (.int 5)) (.unset) 240 [(.int 34)])) _
         refine XS.bipush X391.here hx rfl (hb hby at_240) ?_
         refine XS.icmpYes X391.here hx rfl (pc0 := 242) (pc' := 247) rfl (hb hby at_242) rfl (teq (by decide : (34 : Int32) = (34 : Int32))).1 (by decide) (by decide) ?_
         refine XS.iconst X391.here hx rfl (hb hby at_247) ?_
         refine XS.istore X391.here hx rfl (hb hby at_248) rfl (l' := #[.val (.int p1), .val (.int p2), .val (.int p3), .val (.int p4), .val (.int 3), .val (.int c0), .val (.int c1), .val (.int c2), .val (.ref s0), .val (.ref s1), .val (.ref s2), .val (.ref s3), .val (.ref str), .val (.ref xr), .val (.int 5), .val (.int 1)]) rfl ?_
         refine XS.iload X391.here hx rfl (hb hby at_250) rfl ?_
         refine XS.iconst X391.here hx rfl (hb hby at_252) ?_
         refine XS.icmpNo X391.here hx rfl (hb hby at_253) rfl (flt (by decide : ¬ ((3 : Int32) < (1 : Int32)))).1 ?_
         refine XS.aload X391.here hx rfl (hb hby at_256) rfl rfl ?_
         refine XS.iload X391.here hx rfl (hb hby at_258) rfl ?_
         refine XS.iload X391.here hx rfl (hb hby at_260) rfl ?_
         exact hgo
       obtain ⟨_, _, ⟨T394, L394, k394, n394⟩, -, X394, ⟨Lc394, hQ394, l394, y394, z394⟩, st394⟩ := Jvm.LawKit.callS X391 hx (y := yn29) hown (mvT hZ (w 157 rfl)) (mvT hZ (w 158 rfl)) (mvT hZ (w 155 rfl)) (mvT hZ (w 159 rfl)) (by decide) (backOf (W := 0) (rm_step0 l Z a0 hw [] xr (1 : Int32) c0 zc tr kr [own_b 34, own_b c0, own_b c1, own_b c2, own_b 34] 1 vf T203.heap n0 hZn rfl hc0 hs0 hOld S_cs hz S_f hf (by show 5 < 2147483647; decide) (by show 1 < 5; decide) rfl SFr) hZ (w 159 rfl) (w 155 rfl) (by decide) (by decide)) (g := (fl m p1 p2 p3 p4 c0 c1 c2 s0 s1 s2 s3 (.val (.int 3)) (.val (.ref str)) (.val (.ref xr)) (.val (.int 5)) (.val (.int 1)) 262 [(.int c0), (.int 1), (.ref xr)])) rfl (by rw [hml]; rfl) (argsL := [(.ref xr), (.int 1), (.int c0)]) (rest := []) (lenOf pd_23 rfl) rfl (by show 2 * 0 + _ ≤ _; exact Nat.le_of_eq rfl) (hb hby at_262) (fun _ _ => ⟨rfl, e391, (by decide : 18 + 0 ≤ _), (by decide : 141 + 0 ≤ _)⟩)
       dsimp only [Pt.U, Pt.locs, Pt.cells, Pt.slots] at X394 l394 y394 z394 st394 hQ394
       subst l394 y394 z394
       obtain ⟨rfl, N394q, e394⟩ := hQ394
       have N394 := Fr.app N391 N394q
       have R395 := Rc.st R393 st394
       have R396 : Rc p e below A0 (T394.setTop (fl m p1 p2 p3 p4 c0 c1 c2 s0 s1 s2 s3 (.val (.int 3)) (.val (.ref str)) (.val (.ref xr)) (.val (.int 5)) (.val (.int 2)) 279 [(.int c1), (.int 2), (.ref xr)])) := by
         intro tgt hgo
         refine R395 tgt ?_
         show Steps p.tables e below (T394.setTop (fl m p1 p2 p3 p4 c0 c1 c2 s0 s1 s2 s3 (.val (.int 3)) (.val (.ref str)) (.val (.ref xr)) (.val (.int 5)) (.val (.int 1)) 265 [(.int 2)])) _
         refine XS.istore X394.here hx rfl (hb hby at_265) rfl (l' := #[.val (.int p1), .val (.int p2), .val (.int p3), .val (.int p4), .val (.int 3), .val (.int c0), .val (.int c1), .val (.int c2), .val (.ref s0), .val (.ref s1), .val (.ref s2), .val (.ref s3), .val (.ref str), .val (.ref xr), .val (.int 5), .val (.int 2)]) rfl ?_
         refine XS.iload X394.here hx rfl (hb hby at_267) rfl ?_
         refine XS.iconst X394.here hx rfl (hb hby at_269) ?_
         refine XS.icmpNo X394.here hx rfl (hb hby at_270) rfl (flt (by decide : ¬ ((3 : Int32) < (2 : Int32)))).1 ?_
         refine XS.aload X394.here hx rfl (hb hby at_273) rfl rfl ?_
         refine XS.iload X394.here hx rfl (hb hby at_275) rfl ?_
         refine XS.iload X394.here hx rfl (hb hby at_277) rfl ?_
         exact hgo
       obtain ⟨_, _, ⟨T397, L397, k397, n397⟩, -, X397, ⟨Lc397, hQ397, l397, y397, z397⟩, st397⟩ := Jvm.LawKit.callS X394 hx (y := yn29) hown (mvT hZ (w 157 rfl)) (mvT hZ (w 158 rfl)) (mvT hZ (w 155 rfl)) (mvT hZ (w 159 rfl)) (by decide) (backOf (W := 0) (rm_step0 l Z a0 hw [] xr (2 : Int32) c1 zc tr kr [own_b 34, own_b c0, own_b c1, own_b c2, own_b 34] 2 vf T203.heap n0 hZn rfl hc1 hs1 hOld S_cs hz S_f hf (by show 5 < 2147483647; decide) (by show 2 < 5; decide) rfl SFr) hZ (w 159 rfl) (w 155 rfl) (by decide) (by decide)) (g := (fl m p1 p2 p3 p4 c0 c1 c2 s0 s1 s2 s3 (.val (.int 3)) (.val (.ref str)) (.val (.ref xr)) (.val (.int 5)) (.val (.int 2)) 279 [(.int c1), (.int 2), (.ref xr)])) rfl (by rw [hml]; rfl) (argsL := [(.ref xr), (.int 2), (.int c1)]) (rest := []) (lenOf pd_23 rfl) rfl (by show 2 * 0 + _ ≤ _; exact Nat.le_of_eq rfl) (hb hby at_279) (fun _ _ => ⟨rfl, e394, (by decide : 18 + 0 ≤ _), (by decide : 141 + 0 ≤ _)⟩)
       dsimp only [Pt.U, Pt.locs, Pt.cells, Pt.slots] at X397 l397 y397 z397 st397 hQ397
       subst l397 y397 z397
       obtain ⟨rfl, N397q, e397⟩ := hQ397
       have N397 := Fr.app N394 N397q
       have R398 := Rc.st R396 st397
       have R399 : Rc p e below A0 (T397.setTop (fl m p1 p2 p3 p4 c0 c1 c2 s0 s1 s2 s3 (.val (.int 3)) (.val (.ref str)) (.val (.ref xr)) (.val (.int 5)) (.val (.int 3)) 296 [(.int c2), (.int 3), (.ref xr)])) := by
         intro tgt hgo
         refine R398 tgt ?_
         show Steps p.tables e below (T397.setTop (fl m p1 p2 p3 p4 c0 c1 c2 s0 s1 s2 s3 (.val (.int 3)) (.val (.ref str)) (.val (.ref xr)) (.val (.int 5)) (.val (.int 2)) 282 [(.int 3)])) _
         refine XS.istore X397.here hx rfl (hb hby at_282) rfl (l' := #[.val (.int p1), .val (.int p2), .val (.int p3), .val (.int p4), .val (.int 3), .val (.int c0), .val (.int c1), .val (.int c2), .val (.ref s0), .val (.ref s1), .val (.ref s2), .val (.ref s3), .val (.ref str), .val (.ref xr), .val (.int 5), .val (.int 3)]) rfl ?_
         refine XS.iload X397.here hx rfl (hb hby at_284) rfl ?_
         refine XS.iconst X397.here hx rfl (hb hby at_286) ?_
         refine XS.icmpNo X397.here hx rfl (hb hby at_287) rfl (flt (by decide : ¬ ((3 : Int32) < (3 : Int32)))).1 ?_
         refine XS.aload X397.here hx rfl (hb hby at_290) rfl rfl ?_
         refine XS.iload X397.here hx rfl (hb hby at_292) rfl ?_
         refine XS.iload X397.here hx rfl (hb hby at_294) rfl ?_
         exact hgo
       obtain ⟨_, _, ⟨T400, L400, k400, n400⟩, -, X400, ⟨Lc400, hQ400, l400, y400, z400⟩, st400⟩ := Jvm.LawKit.callS X397 hx (y := yn29) hown (mvT hZ (w 157 rfl)) (mvT hZ (w 158 rfl)) (mvT hZ (w 155 rfl)) (mvT hZ (w 159 rfl)) (by decide) (backOf (W := 0) (rm_step0 l Z a0 hw [] xr (3 : Int32) c2 zc tr kr [own_b 34, own_b c0, own_b c1, own_b c2, own_b 34] 3 vf T203.heap n0 hZn rfl hc2 hs2 hOld S_cs hz S_f hf (by show 5 < 2147483647; decide) (by show 3 < 5; decide) rfl SFr) hZ (w 159 rfl) (w 155 rfl) (by decide) (by decide)) (g := (fl m p1 p2 p3 p4 c0 c1 c2 s0 s1 s2 s3 (.val (.int 3)) (.val (.ref str)) (.val (.ref xr)) (.val (.int 5)) (.val (.int 3)) 296 [(.int c2), (.int 3), (.ref xr)])) rfl (by rw [hml]; rfl) (argsL := [(.ref xr), (.int 3), (.int c2)]) (rest := []) (lenOf pd_23 rfl) rfl (by show 2 * 0 + _ ≤ _; exact Nat.le_of_eq rfl) (hb hby at_296) (fun _ _ => ⟨rfl, e397, (by decide : 18 + 0 ≤ _), (by decide : 141 + 0 ≤ _)⟩)
       dsimp only [Pt.U, Pt.locs, Pt.cells, Pt.slots] at X400 l400 y400 z400 st400 hQ400
       subst l400 y400 z400
       obtain ⟨rfl, N400q, e400⟩ := hQ400
       have N400 := Fr.app N397 N400q
       have R401 := Rc.st R399 st400
       have R402 : Rc p e below A0 (T400.setTop (fl m p1 p2 p3 p4 c0 c1 c2 s0 s1 s2 s3 (.val (.int 3)) (.val (.ref str)) (.val (.ref xr)) (.val (.int 5)) (.val (.int 4)) 314 [(.int 4), (.ref xr)])) := by
         intro tgt hgo
         refine R401 tgt ?_
         show Steps p.tables e below (T400.setTop (fl m p1 p2 p3 p4 c0 c1 c2 s0 s1 s2 s3 (.val (.int 3)) (.val (.ref str)) (.val (.ref xr)) (.val (.int 5)) (.val (.int 3)) 299 [(.int 4)])) _
         refine XS.istore X400.here hx rfl (hb hby at_299) rfl (l' := #[.val (.int p1), .val (.int p2), .val (.int p3), .val (.int p4), .val (.int 3), .val (.int c0), .val (.int c1), .val (.int c2), .val (.ref s0), .val (.ref s1), .val (.ref s2), .val (.ref s3), .val (.ref str), .val (.ref xr), .val (.int 5), .val (.int 4)]) rfl ?_
         refine XS.iload X400.here hx rfl (hb hby at_301) rfl ?_
         refine XS.iload X400.here hx rfl (hb hby at_303) rfl ?_
         refine XS.iconst X400.here hx rfl (hb hby at_305) ?_
         refine XS.isub X400.here hx rfl (hb hby at_306) rfl ?_
         refine XS.icmpNo X400.here hx rfl (hb hby at_307) rfl (teq (by decide : (4 : Int32) = (4 : Int32))).2 ?_
         refine XS.aload X400.here hx rfl (hb hby at_310) rfl rfl ?_
         refine XS.iload X400.here hx rfl (hb hby at_312) rfl ?_
         exact hgo
       obtain ⟨cq403, kq403, q403a, q403b, q403c⟩ := isOf hZ e400 E_r
       obtain ⟨_, _, ⟨T403, L403, k403, n403⟩, -, X403, ⟨Lc403, hQ403, l403, y403, z403⟩, st403⟩ := X400.virtualBack hx (y := yn6) (z := yn6) hown (mvT hZ (w 121 rfl)) (mvT hZ (w 122 rfl)) (notFace_of_selects (args := #[]) (mvT hZ (w 124 rfl))) (mvT hZ (w 124 rfl)) (mvT hZ (w 123 rfl)) (by decide) (backOf (W := 0) (rm_charAt l Z a0 hw [] xr (4 : Int32) zc tr kr [own_b 34, own_b c0, own_b c1, own_b c2, own_b 34] 4 34 vf T203.heap n0 hZn rfl hOld S_cs hz S_f hf (by decide) (by show Int32.ofNat 4 < Int32.ofNat 5; decide) rfl own_c34 SFr) hZ (w 125 rfl) (w 3 rfl) (by decide) (by decide)) q403a q403c (g := (fl m p1 p2 p3 p4 c0 c1 c2 s0 s1 s2 s3 (.val (.int 3)) (.val (.ref str)) (.val (.ref xr)) (.val (.int 5)) (.val (.int 4)) 314 [(.int 4), (.ref xr)])) rfl (by rw [hml]; rfl) (Steps.refl _) (argsL := [(.int 4)]) (rest := []) (lenOf pd_17 rfl) rfl (by show 2 * 0 + _ ≤ _; exact Nat.le_of_eq rfl) (hb hby at_314) (fun _ _ => ⟨rfl, e400, (by decide : 18 + 0 ≤ _), (by decide : 141 + 0 ≤ _)⟩)
       dsimp only [Pt.U, Pt.locs, Pt.cells, Pt.slots] at X403 l403 y403 z403 st403 hQ403
       subst l403 y403 z403
       obtain ⟨rfl, N403q, e403⟩ := hQ403
       have N403 := Fr.app N400 N403q
       have R404 := Rc.tr R402 st403
       have R405 : Rc p e below A0 (T403.setTop (fl m p1 p2 p3 p4 c0 c1 c2 s0 s1 s2 s3 (.val (.int 3)) (.val (.ref str)) (.val (.ref xr)) (.val (.int 5)) (.val (.int 4)) 327 [(.int 1)])) := by
         intro tgt hgo
         refine R404 tgt ?_
         show Steps p.tables e below (T403.setTop (fl m p1 p2 p3 p4 c0 c1 c2 s0 s1 s2 s3 (.val (.int 3)) (.val (.ref str)) (.val (.ref xr)) (.val (.int 5)) (.val (.int 4)) 317 [(.int 34)])) _
         refine XS.bipush X403.here hx rfl (hb hby at_317) ?_
         refine XS.icmpNo X403.here hx rfl (hb hby at_319) rfl (teq (by decide : (34 : Int32) = (34 : Int32))).2 ?_
         refine XS.iconst X403.here hx rfl (hb hby at_322) ?_
         refine XS.goto X403.here hx rfl (pc0 := 323) (pc' := 327) rfl (hb hby at_323) (by decide) (by decide) ?_
         exact hgo
       subst hA0
       obtain ⟨fs, hr, hrun, hended, hRW⟩ := X403.leaveW hS (by rw [e403]; exact hk) (v := some (.int 1)) (fun h => by rw [Bd.returns] at h; cases h) Bd.notSynchronized
       refine ⟨_, _, R405 _ ?_, hrun, hended, _, _, rfl, ?_, OwnKit.own_fin hRW (by decide) (by decide)⟩
       ·show Steps p.tables e below (T403.setTop (fl m p1 p2 p3 p4 c0 c1 c2 s0 s1 s2 s3 (.val (.int 3)) (.val (.ref str)) (.val (.ref xr)) (.val (.int 5)) (.val (.int 4)) 327 [(.int 1)])) _
        exact retN X403 hx (t := .boolean) Bd.returns (by simp) (hb hby at_327) hr
       ·show Q0 n0 _ T403.heap _
        rw [e403]
        exact ⟨rfl, N403⟩
set_option maxRecDepth 65536 in
set_option maxHeartbeats 40000000 in
theorem comes_1 {Post : Tables → Env → Array Value → State → Outcome → State → Prop} (hpost : ∀ tb e args s v u, (limb_1_1.after args s (.returned v) u = true ∧ limb_1_2.after args s (.returned v) u = true ∧ True) → FramedW s (.returned v) u (Jvm.fieldLocs frame_1_writes args s ++ Jvm.arrayLocs frame_1_arrays args s ++ Jvm.staticLocs frame_1_statics s) 32 1216 → Post tb e args s (.returned v) u) :
    ArmFor flags0 classFile x code maxLocals ret World_1 tables_1 room_1 Calls_1 rest_1 Pre_1 Post := by
  intro l hfl _ _ p e ha hc hk s m args below hf hA hF happ hP
  obtain ⟨hcalls, hrest, hpre⟩ := hP
  obtain ⟨-, -, -, hnamed, -, -, -, hat⟩ := (Spec.applies_iff hf).mp happ
  obtain ⟨hg, hn⟩ := and_e (Cond.before_iff.mp (show (Jvm.Cond.and given_1 narrow_1).before args s = true from hpre))
  obtain ⟨hg0, hg⟩ := and_e hg
  obtain ⟨hg1, hg⟩ := and_e hg
  obtain ⟨hg2, hg⟩ := and_e hg
  obtain ⟨hg3, hg⟩ := and_e hg
  have hg4 := hg
  obtain ⟨w0, w1, w2, w3, rfl⟩ : ∃ w0 w1 w2 w3 : Value, args = #[w0, w1, w2, w3] := by
    have hs : args.size = 4 := by simpa [Cond.value, given_1] using hg0
    obtain ⟨L⟩ := args
    match L, hs with
    | [w0, w1, w2, w3], _ => exact ⟨w0, w1, w2, w3, rfl⟩
  have hw := fun d (hd : d ∈ tables_1) => atoms_spec (ws := Jvm.Cond.code x code maxLocals ret :: tables_1) hat d (List.mem_cons_of_mem _ hd)
  have hfit : Fit s := fun {y c} hc i hi => by
    obtain ⟨ha, rfl⟩ := Array.getElem?_eq_some_iff.mp hc
    have q := List.all_eq_true.mp ((Array.all_eq_true_iff_forall_mem.mp hF) _ (Array.getElem_mem ha)) i (List.mem_range.mpr hi)
    simpa [Array.getElem?_eq_getElem hi] using q
  obtain ⟨hsets, hown0⟩ := atoms_of _ (rest_1_c_eq ▸ (show rest_1_c.before _ s = true from hrest))
  have hr0 := Cond.before_iff.mp hown0
  obtain ⟨i0, ei0⟩ := is_v hg1
  obtain rfl : w0 = (.int i0) := Option.some.inj ei0
  obtain ⟨i1, ei1⟩ := is_v hg2
  obtain rfl : w1 = (.int i1) := Option.some.inj ei1
  obtain ⟨i2, ei2⟩ := is_v hg3
  obtain rfl : w2 = (.int i2) := Option.some.inj ei2
  obtain ⟨i3, ei3⟩ := is_v hg4
  obtain rfl : w3 = (.int i3) := Option.some.inj ei3
  have n3 := not_v (Cond.before_iff.mp (hsets _ (List.mem_of_getElem? (i := 2) rfl)))
  obtain ⟨i7, e6⟩ := is_v (Cond.before_iff.mp (hsets _ (List.mem_of_getElem? (i := 1) rfl)))
  have S8 : Sta s s.heap "java/lang/String" "COMPACT_STRINGS" "Z" (.int i7) := Sta.start e6 (Or.inl (hsets _ (List.mem_of_getElem? (i := 0) rfl)))
  have c9 : ¬ (i7 = (0 : Int32)) := gotF (Cond.eq_ints e6 (Term.int_eval (0))) n3
  obtain ⟨vf, ef, hf9⟩ := isR_v (Cond.before_iff.mp (hsets _ (List.mem_of_getElem? (i := 8) rfl)))
  have S9 : Sta s s.heap "jdk/internal/util/Preconditions" "SIOOBE_FORMATTER" "Ljava/util/function/BiFunction;" vf := Sta.start ef (Or.inl (hsets _ (List.mem_of_getElem? (i := 7) rfl)))
  have hch0 : CHv s consts_1 s.vm s.heap := CHv.start (own_EL hw) (fun p hp => hcalls.1 p hp) (hsets _ (List.mem_of_getElem? (i := 2) rfl)) (hw _ (List.mem_of_getElem? (i := 15) rfl)) (hw _ (List.mem_of_getElem? (i := 2) rfl))
  obtain ⟨n, o, h1, h2, h3, _, L, rfl, ⟨rfl, N⟩, hq⟩ := rm_law l s _ hw tables_1 i0 i1 i2 i3 i7 vf s.heap s.heap.size (Nat.le_refl _) (Old.start s) S8 c9 S9 hf9 p e ha hc hk s m _ below hf ((Spec.applies_iff_loose hf).mp happ).1 ⟨rfl, State.Warmed39.refl s, rfl, hch0⟩ trivial
  refine ⟨n, _, h1, h2, h3, hpost _ _ _ _ _ _ ⟨Cond.after_iff.mpr rfl, Cond.after_iff.mpr (eq_i res_at (Term.int_eval (1)) rfl), trivial⟩ ⟨hq.1, hq.2.1, hq.2.2.1, (hq.2.2.2.sift fun y hy => Or.inr (N y hy)).mono (by decide) (by decide)⟩⟩
theorem main_1_1 : Claimed_1_1 := comes_1 fun _ _ _ _ _ _ h hF => ⟨h.1, hF⟩
theorem main_1_2 : Claimed_1_2 := comes_1 fun _ _ _ _ _ _ h hF => ⟨h.2.1, hF⟩
end Jvm.Pilot.@@N@@
namespace Jvm.Pilot.@@N@@
open Jvm Jvm.ClassFile Sem Op Lib Jvm.Free Jvm.Stand Jvm.Pilot.@@N@@.Jvm.D
/-! MADE BY PROGRAM (witnessworld.py) out of the Statement's table words and the real class files: 26 classes; the members and pool entries that the words name. The judged class is class 1, her method 3. -/
namespace start1
open Jvm.ClassFile
def u (s : String) : CpInfo := .utf8 (stringToUtf16 s)
/-- a pool by its gaps: so many unusable entries, then the entry; so many at the end -/
def gap : Nat → List CpInfo → List CpInfo
  | 0, r => r
  | n + 1, r => .unusable :: gap n r
def poolList (es : List (Nat × CpInfo)) (last : Nat) : List CpInfo := es.foldr (fun e r => gap e.1 (e.2 :: r)) (gap last [])
def pool (es : List (Nat × CpInfo)) (last : Nat) : Array CpInfo := ⟨poolList es last⟩
def fileOf (pool : Array CpInfo) (this : Nat) (attrs : Array Attribute := #[]) (ms : Array MethodInfo := #[]) (fl : Nat := 33) (sup : Nat := 0) (ifs : Array Nat := #[]) (fds : Array FieldInfo := #[]) : ClassFile where
  minorVersion := 0
  majorVersion := 65
  constantPool := pool
  accessFlags := fl
  thisClass := this
  superClass := sup
  interfaces := ifs
  fields := fds
  methods := ms
  attributes := attrs
def plain (name : String) (sup : Option ClassId) : Class where
  name := name
  kind := .ordinary
  loader := none
  accessFlags := 33
  super := sup
  interfaces := #[]
  cf := none
  fields := #[]
  methods := #[]
  instanceTypes := #[]
  staticTypes := #[]
  resolved := #[]
  callSites := []
  init := .initialized
  statics := none
  mirror := none

def pool0 : Array CpInfo := pool [(5, u "<init>"), (0, u "()V"), (1, .class_ 10), (1, u "java/lang/Object"), (85, u "clone"), (0, u "()Ljava/lang/Object;")] 26

def k0c0 : Code := { maxStack := 0, maxLocals := 1, code := object_method_1_code, exceptionTable := #[], attributes := #[] }
def k0m0 : Method := { name := "<init>", desc := "()V", sig := { parameters := [], returnType := none }, accessFlags := 1, code := some k0c0 }
def k0m1 : Method := { name := "clone", desc := "()Ljava/lang/Object;", sig := { parameters := [], returnType := some (.object "java/lang/Object") }, accessFlags := 260, code := none }
/-- java/lang/Object -/
def k0 : Class := { plain "java/lang/Object" none with
  accessFlags := 33
  interfaces := #[]
  cf := some (fileOf pool0 8 #[] #[{ accessFlags := 1, nameIndex := 5, descriptorIndex := 6, attributes := #[] }, { accessFlags := 260, nameIndex := 96, descriptorIndex := 97, attributes := #[] }] 33 0 #[] #[])
  fields := #[]
  methods := #[k0m0, k0m1]
  instanceTypes := #[]
  staticTypes := #[]
  resolved := Array.replicate 124 none
  statics := none }

def pool1 : Array CpInfo := pool [(2, .class_ 4), (1, u "java/lang/Object"), (0, u "<init>"), (0, u "()V"), (0, .methodref 8 9), (0, .class_ 10), (0, .nameAndType 11 12), (0, u "com/example/stack_check_trimmer/stackchecktrimmer/io/LineTokenizerQuotePinLaw"), (0, u "special"), (0, u "(C)Z"), (0, .methodref 14 15), (0, .class_ 16), (0, .nameAndType 17 18), (0, u "java/lang/String"), (0, u "charAt"), (0, u "(I)C"), (0, .methodref 14 20), (0, .nameAndType 5 21), (0, u "([C)V"), (0, .methodref 23 24), (0, .class_ 25), (0, .nameAndType 26 27), (0, u "com/example/stack_check_trimmer/stackchecktrimmer/io/LineTokenizer"), (0, u "quote"), (0, u "(Ljava/lang/String;)Ljava/lang/String;"), (0, .methodref 14 29), (0, .nameAndType 30 31), (0, u "length"), (0, u "()I"), (0, .methodref 8 33), (0, .nameAndType 34 35), (0, u "step"), (0, u "(Ljava/lang/String;IC)I"), (3, u "law"), (0, u "(IIII)Z")] 4

def k1m0 : Method := { name := "<init>", desc := "()V", sig := { parameters := [], returnType := none }, accessFlags := 2, code := none }
def k1c1 : Code := { maxStack := 2, maxLocals := 1, code := method_2_code, exceptionTable := #[], attributes := #[] }
def k1m1 : Method := { name := "special", desc := "(C)Z", sig := { parameters := [.char], returnType := some .boolean }, accessFlags := 10, code := some k1c1 }
def k1c2 : Code := { maxStack := 2, maxLocals := 4, code := method_3_code, exceptionTable := #[], attributes := #[] }
def k1m2 : Method := { name := "step", desc := "(Ljava/lang/String;IC)I", sig := { parameters := [(.object "java/lang/String"), .int, .char], returnType := some .int }, accessFlags := 10, code := some k1c2 }
def k1c3 : Code := { maxStack := 4, maxLocals := 16, code := code, exceptionTable := #[], attributes := #[] }
def k1m3 : Method := { name := "law", desc := "(IIII)Z", sig := { parameters := [.int, .int, .int, .int], returnType := some .boolean }, accessFlags := 9, code := some k1c3 }
/-- com/example/stack_check_trimmer/stackchecktrimmer/io/LineTokenizerQuotePinLaw -/
def k1 : Class := { plain "com/example/stack_check_trimmer/stackchecktrimmer/io/LineTokenizerQuotePinLaw" (some 0) with
  accessFlags := 49
  interfaces := #[]
  cf := some (fileOf pool1 8 #[] #[{ accessFlags := 2, nameIndex := 5, descriptorIndex := 6, attributes := #[] }, { accessFlags := 10, nameIndex := 11, descriptorIndex := 12, attributes := #[] }, { accessFlags := 10, nameIndex := 34, descriptorIndex := 35, attributes := #[] }, { accessFlags := 9, nameIndex := 39, descriptorIndex := 40, attributes := #[] }] 49 2 #[] #[])
  fields := #[]
  methods := #[k1m0, k1m1, k1m2, k1m3]
  instanceTypes := #[]
  staticTypes := #[]
  resolved := Array.replicate 45 none
  statics := none }

def pool2 : Array CpInfo := pool [(1, .class_ 2), (0, u "java/io/Serializable"), (0, .class_ 4), (0, u "java/lang/Object")] 2

/-- java/io/Serializable -/
def k2 : Class := { plain "java/io/Serializable" (some 0) with
  accessFlags := 1537
  interfaces := #[]
  cf := some (fileOf pool2 1 #[] #[] 1537 3 #[] #[])
  fields := #[]
  methods := #[]
  instanceTypes := #[]
  staticTypes := #[]
  resolved := Array.replicate 7 none
  statics := none }

def pool3 : Array CpInfo := pool [(1, .class_ 2), (0, u "java/lang/Comparable"), (0, .class_ 4), (0, u "java/lang/Object")] 7

/-- java/lang/Comparable -/
def k3 : Class := { plain "java/lang/Comparable" (some 0) with
  accessFlags := 1537
  interfaces := #[]
  cf := some (fileOf pool3 1 #[] #[] 1537 3 #[] #[])
  fields := #[]
  methods := #[]
  instanceTypes := #[]
  staticTypes := #[]
  resolved := Array.replicate 12 none
  statics := none }

def pool4 : Array CpInfo := pool [(2, .class_ 4), (1, u "java/lang/CharSequence"), (42, .class_ 48), (0, u "java/lang/CharSequence$1CodePointIterator"), (10, .class_ 60), (0, u "java/lang/CharSequence$1CharIterator"), (5, .class_ 67), (0, u "java/lang/Object")] 63

/-- java/lang/CharSequence -/
def k4 : Class := { plain "java/lang/CharSequence" (some 0) with
  accessFlags := 1537
  interfaces := #[]
  cf := some (fileOf pool4 2 #[.nestMembers #[47, 59]] #[] 1537 66 #[] #[])
  fields := #[]
  methods := #[]
  instanceTypes := #[]
  staticTypes := #[]
  resolved := Array.replicate 131 none
  statics := none }

def pool5 : Array CpInfo := pool [(1, .class_ 2), (0, u "java/lang/constant/Constable"), (0, .class_ 4), (0, u "java/lang/Object")] 6

/-- java/lang/constant/Constable -/
def k5 : Class := { plain "java/lang/constant/Constable" (some 0) with
  accessFlags := 1537
  interfaces := #[]
  cf := some (fileOf pool5 1 #[] #[] 1537 3 #[] #[])
  fields := #[]
  methods := #[]
  instanceTypes := #[]
  staticTypes := #[]
  resolved := Array.replicate 11 none
  statics := none }

def pool6 : Array CpInfo := pool [(1, .class_ 2), (0, u "java/lang/constant/ConstantDesc"), (0, .class_ 4), (0, u "java/lang/Object")] 32

/-- java/lang/constant/ConstantDesc -/
def k6 : Class := { plain "java/lang/constant/ConstantDesc" (some 0) with
  accessFlags := 1537
  interfaces := #[]
  cf := some (fileOf pool6 1 #[] #[] 1537 3 #[] #[])
  fields := #[]
  methods := #[]
  instanceTypes := #[]
  staticTypes := #[]
  resolved := Array.replicate 37 none
  statics := none }

def pool7 : Array CpInfo := pool [(1, .methodref 2 3), (0, .class_ 4), (0, .nameAndType 5 6), (0, u "java/lang/Object"), (0, u "<init>"), (0, u "()V"), (0, .string 8), (0, u ""), (0, .fieldref 10 11), (0, .class_ 12), (0, .nameAndType 13 14), (0, u "java/lang/String"), (0, u "value"), (0, u "[B"), (0, .fieldref 10 16), (0, .nameAndType 17 18), (0, u "coder"), (0, u "B"), (2, u "hash"), (0, u "I"), (2, u "hashIsZero"), (0, u "Z"), (0, .methodref 10 28), (0, .nameAndType 5 29), (0, u "([CIILjava/lang/Void;)V"), (8, .fieldref 10 39), (0, .nameAndType 40 26), (0, u "COMPACT_STRINGS"), (1, .class_ 44), (1, u "java/lang/StringUTF16"), (0, u "compress"), (1, .methodref 42 48), (0, .nameAndType 49 50), (0, u "coderFromArrayLen"), (0, u "([BI)B"), (3, .methodref 55 56), (0, .class_ 57), (0, .nameAndType 58 59), (0, u "java/util/Arrays"), (0, u "copyOfRange"), (0, u "([BII)[B"), (47, .class_ 109), (1, u "java/lang/StringLatin1"), (32, u "()Z"), (34, .methodref 42 178), (0, .nameAndType 45 179), (0, u "([CII)[B"), (154, u "()I"), (0, .methodref 10 336), (0, .nameAndType 17 337), (0, u "()B"), (2, u "()[B"), (22, u "([BI)C"), (27, u "(II)V"), (35, u "(I)C"), (61, .methodref 10 490), (0, .nameAndType 5 491), (0, u "(Ljava/lang/AbstractStringBuilder;Ljava/lang/Void;)V"), (0, .methodref 10 493), (0, .nameAndType 494 142), (0, u "isLatin1"), (0, .methodref 107 496), (0, .nameAndType 497 363), (0, u "charAt"), (3, u "checkIndex"), (4, .nameAndType 507 334), (0, u "length"), (41, .methodref 550 506), (0, .class_ 551), (0, u "java/lang/AbstractStringBuilder"), (0, .methodref 550 553), (0, .nameAndType 554 340), (0, u "getValue"), (20, .class_ 576), (0, u "java/lang/CharSequence"), (22, u "CASE_INSENSITIVE_ORDER"), (0, u "Ljava/util/Comparator;"), (409, u "([C)V"), (36, .methodref 550 493), (5, .fieldref 1054 1055), (0, .class_ 1056), (0, .nameAndType 1057 1058), (0, u "jdk/internal/util/Preconditions"), (0, u "SIOOBE_FORMATTER"), (0, u "Ljava/util/function/BiFunction;"), (0, .methodref 1054 1060), (0, .nameAndType 501 1061), (0, u "(IILjava/util/function/BiFunction;)I"), (39, u "serialPersistentFields"), (0, u "[Ljava/io/ObjectStreamField;"), (0, .class_ 1104), (0, u "java/lang/String$CaseInsensitiveComparator"), (1, .class_ 1107), (0, u "java/io/Serializable"), (0, .class_ 1109), (0, u "java/lang/Comparable"), (0, .class_ 1111), (0, u "java/lang/constant/Constable"), (0, .class_ 1113), (0, u "java/lang/constant/ConstantDesc"), (2, u "serialVersionUID"), (0, u "J"), (3, u "REPL"), (0, u "C"), (2, u "LATIN1"), (1, u "UTF16"), (105, u "(Ljava/lang/StringBuilder;)V")] 217

def k7m0 : Method := { name := "<init>", desc := "()V", sig := { parameters := [], returnType := none }, accessFlags := 1, code := none }
def k7c1 : Code := { maxStack := 5, maxLocals := 2, code := jdk_42_method_3_code, exceptionTable := #[], attributes := #[] }
def k7m1 : Method := { name := "<init>", desc := "([C)V", sig := { parameters := [(.array .char)], returnType := none }, accessFlags := 1, code := some k7c1 }
def k7c2 : Code := { maxStack := 3, maxLocals := 2, code := jdk_42_method_53_code, exceptionTable := #[], attributes := #[] }
def k7m2 : Method := { name := "<init>", desc := "(Ljava/lang/StringBuilder;)V", sig := { parameters := [(.object "java/lang/StringBuilder")], returnType := none }, accessFlags := 1, code := some k7c2 }
def k7c3 : Code := { maxStack := 2, maxLocals := 1, code := jdk_42_method_54_code, exceptionTable := #[], attributes := #[] }
def k7m3 : Method := { name := "length", desc := "()I", sig := { parameters := [], returnType := some .int }, accessFlags := 1, code := some k7c3 }
def k7c4 : Code := { maxStack := 2, maxLocals := 2, code := jdk_42_method_56_code, exceptionTable := #[], attributes := #[] }
def k7m4 : Method := { name := "charAt", desc := "(I)C", sig := { parameters := [.int], returnType := some .char }, accessFlags := 1, code := some k7c4 }
def k7c5 : Code := { maxStack := 4, maxLocals := 6, code := jdk_42_method_149_code, exceptionTable := #[], attributes := #[] }
def k7m5 : Method := { name := "<init>", desc := "([CIILjava/lang/Void;)V", sig := { parameters := [(.array .char), .int, .int, (.object "java/lang/Void")], returnType := none }, accessFlags := 2, code := some k7c5 }
def k7c6 : Code := { maxStack := 5, maxLocals := 5, code := jdk_42_method_150_code, exceptionTable := #[], attributes := #[] }
def k7m6 : Method := { name := "<init>", desc := "(Ljava/lang/AbstractStringBuilder;Ljava/lang/Void;)V", sig := { parameters := [(.object "java/lang/AbstractStringBuilder"), (.object "java/lang/Void")], returnType := none }, accessFlags := 0, code := some k7c6 }
def k7c7 : Code := { maxStack := 1, maxLocals := 1, code := jdk_42_method_152_code, exceptionTable := #[], attributes := #[] }
def k7m7 : Method := { name := "coder", desc := "()B", sig := { parameters := [], returnType := some .byte }, accessFlags := 0, code := some k7c7 }
def k7c8 : Code := { maxStack := 1, maxLocals := 1, code := jdk_42_method_154_code, exceptionTable := #[], attributes := #[] }
def k7m8 : Method := { name := "isLatin1", desc := "()Z", sig := { parameters := [], returnType := some .boolean }, accessFlags := 0, code := some k7c8 }
def k7c9 : Code := { maxStack := 3, maxLocals := 2, code := jdk_42_method_155_code, exceptionTable := #[], attributes := #[] }
def k7m9 : Method := { name := "checkIndex", desc := "(II)V", sig := { parameters := [.int, .int], returnType := none }, accessFlags := 8, code := some k7c9 }
/-- java/lang/String -/
def k7 : Class := { plain "java/lang/String" (some 0) with
  accessFlags := 49
  interfaces := #[2, 3, 4, 5, 6]
  cf := some (fileOf pool7 10 #[.nestMembers #[1103]] #[{ accessFlags := 1, nameIndex := 5, descriptorIndex := 6, attributes := #[] }, { accessFlags := 1, nameIndex := 5, descriptorIndex := 1010, attributes := #[] }, { accessFlags := 1, nameIndex := 5, descriptorIndex := 1233, attributes := #[] }, { accessFlags := 1, nameIndex := 507, descriptorIndex := 334, attributes := #[] }, { accessFlags := 1, nameIndex := 497, descriptorIndex := 427, attributes := #[] }, { accessFlags := 2, nameIndex := 5, descriptorIndex := 29, attributes := #[] }, { accessFlags := 0, nameIndex := 5, descriptorIndex := 491, attributes := #[] }, { accessFlags := 0, nameIndex := 17, descriptorIndex := 337, attributes := #[] }, { accessFlags := 0, nameIndex := 494, descriptorIndex := 142, attributes := #[] }, { accessFlags := 8, nameIndex := 501, descriptorIndex := 391, attributes := #[] }] 49 2 #[1106, 1108, 575, 1110, 1112] #[{ accessFlags := 18, nameIndex := 13, descriptorIndex := 14, attributes := #[] }, { accessFlags := 18, nameIndex := 17, descriptorIndex := 18, attributes := #[] }, { accessFlags := 2, nameIndex := 21, descriptorIndex := 22, attributes := #[] }, { accessFlags := 2, nameIndex := 25, descriptorIndex := 26, attributes := #[] }, { accessFlags := 26, nameIndex := 1116, descriptorIndex := 1117, attributes := #[] }, { accessFlags := 24, nameIndex := 40, descriptorIndex := 26, attributes := #[] }, { accessFlags := 26, nameIndex := 1101, descriptorIndex := 1102, attributes := #[] }, { accessFlags := 26, nameIndex := 1121, descriptorIndex := 1122, attributes := #[] }, { accessFlags := 25, nameIndex := 599, descriptorIndex := 600, attributes := #[] }, { accessFlags := 24, nameIndex := 1125, descriptorIndex := 18, attributes := #[] }, { accessFlags := 24, nameIndex := 1127, descriptorIndex := 18, attributes := #[] }])
  fields := #[{ name := "value", type := (.array .byte), accessFlags := 18, slot := 0, constantValue := 0 }, { name := "coder", type := .byte, accessFlags := 18, slot := 1, constantValue := 0 }, { name := "hash", type := .int, accessFlags := 2, slot := 2, constantValue := 0 }, { name := "hashIsZero", type := .boolean, accessFlags := 2, slot := 3, constantValue := 0 }, { name := "serialVersionUID", type := .long, accessFlags := 26, slot := 0, constantValue := 0 }, { name := "COMPACT_STRINGS", type := .boolean, accessFlags := 24, slot := 1, constantValue := 0 }, { name := "serialPersistentFields", type := (.array (.object "java/io/ObjectStreamField")), accessFlags := 26, slot := 2, constantValue := 0 }, { name := "REPL", type := .char, accessFlags := 26, slot := 3, constantValue := 0 }, { name := "CASE_INSENSITIVE_ORDER", type := (.object "java/util/Comparator"), accessFlags := 25, slot := 4, constantValue := 0 }, { name := "LATIN1", type := .byte, accessFlags := 24, slot := 5, constantValue := 0 }, { name := "UTF16", type := .byte, accessFlags := 24, slot := 6, constantValue := 0 }]
  methods := #[k7m0, k7m1, k7m2, k7m3, k7m4, k7m5, k7m6, k7m7, k7m8, k7m9]
  instanceTypes := #[(.array .byte), .byte, .int, .boolean]
  staticTypes := #[.long, .boolean, (.array (.object "java/io/ObjectStreamField")), .char, (.object "java/util/Comparator"), .byte, .byte]
  resolved := Array.replicate 1451 none
  statics := some 0 }

def pool8 : Array CpInfo := pool [(2, .class_ 4), (1, u "java/lang/Object"), (0, u "<init>"), (0, u "()V"), (4, .class_ 13), (1, u "com/example/stack_check_trimmer/stackchecktrimmer/io/LineTokenizer"), (2, .methodref 17 18), (0, .class_ 19), (0, .nameAndType 20 21), (0, u "java/lang/String"), (0, u "length"), (0, u "()I"), (0, .methodref 17 23), (0, .nameAndType 24 25), (0, u "charAt"), (0, u "(I)C"), (0, .class_ 27), (0, u "java/lang/StringBuilder"), (22, .methodref 26 51), (0, .nameAndType 52 53), (0, u "toString"), (0, u "()Ljava/lang/String;"), (26, u "quote"), (0, u "(Ljava/lang/String;)Ljava/lang/String;"), (0, .methodref 26 83), (0, .nameAndType 5 84), (0, u "(I)V"), (0, .methodref 26 86), (0, .nameAndType 87 88), (0, u "append"), (0, u "(C)Ljava/lang/StringBuilder;")] 56

def k8m0 : Method := { name := "<init>", desc := "()V", sig := { parameters := [], returnType := none }, accessFlags := 2, code := none }
def k8c1 : Code := { maxStack := 4, maxLocals := 4, code := prog_16_method_4_code, exceptionTable := #[], attributes := #[] }
def k8m1 : Method := { name := "quote", desc := "(Ljava/lang/String;)Ljava/lang/String;", sig := { parameters := [(.object "java/lang/String")], returnType := some (.object "java/lang/String") }, accessFlags := 9, code := some k8c1 }
/-- com/example/stack_check_trimmer/stackchecktrimmer/io/LineTokenizer -/
def k8 : Class := { plain "com/example/stack_check_trimmer/stackchecktrimmer/io/LineTokenizer" (some 0) with
  accessFlags := 33
  interfaces := #[]
  cf := some (fileOf pool8 11 #[] #[{ accessFlags := 2, nameIndex := 5, descriptorIndex := 6, attributes := #[] }, { accessFlags := 9, nameIndex := 80, descriptorIndex := 81, attributes := #[] }] 33 2 #[] #[])
  fields := #[]
  methods := #[k8m0, k8m1]
  instanceTypes := #[]
  staticTypes := #[]
  resolved := Array.replicate 145 none
  statics := none }

def pool9 : Array CpInfo := pool [(1, .class_ 2), (0, u "java/lang/Appendable"), (0, .class_ 4), (0, u "java/lang/Object")] 9

/-- java/lang/Appendable -/
def k9 : Class := { plain "java/lang/Appendable" (some 0) with
  accessFlags := 1537
  interfaces := #[]
  cf := some (fileOf pool9 1 #[] #[] 1537 3 #[] #[])
  fields := #[]
  methods := #[]
  instanceTypes := #[]
  staticTypes := #[]
  resolved := Array.replicate 14 none
  statics := none }

def pool10 : Array CpInfo := pool [(1, .class_ 2), (0, u "java/lang/String"), (0, .methodref 4 5), (0, .class_ 6), (0, .nameAndType 7 8), (0, u "java/lang/Object"), (0, u "<init>"), (0, u "()V"), (1, .class_ 12), (1, u "java/lang/AbstractStringBuilder"), (0, u "EMPTYVALUE"), (0, u "[B"), (0, .fieldref 10 16), (0, .nameAndType 17 14), (0, u "value"), (0, .fieldref 1 19), (0, .nameAndType 20 21), (0, u "COMPACT_STRINGS"), (0, u "Z"), (0, .fieldref 10 23), (0, .nameAndType 24 25), (0, u "coder"), (0, u "B"), (8, u "length"), (0, u "()I"), (3, .integer 2147483647), (5, u "append"), (2, .class_ 49), (0, u "java/lang/CharSequence"), (25, u "maybeLatin1"), (3, .fieldref 10 80), (0, .nameAndType 81 82), (0, u "count"), (0, u "I"), (0, .methodref 10 84), (0, .nameAndType 85 86), (0, u "isLatin1"), (0, u "()Z"), (1, .class_ 90), (1, u "java/lang/StringLatin1"), (9, .methodref 10 101), (0, .nameAndType 102 103), (0, u "ensureCapacityInternal"), (0, u "(I)V"), (0, .methodref 10 105), (0, .nameAndType 106 107), (0, u "newCapacity"), (0, u "(I)I"), (0, .methodref 109 110), (0, .class_ 111), (0, .nameAndType 112 113), (0, u "java/util/Arrays"), (0, u "copyOf"), (0, u "([BI)[B"), (0, .methodref 115 116), (0, .class_ 117), (0, .nameAndType 118 119), (0, u "jdk/internal/util/ArraysSupport"), (0, u "newLength"), (0, u "(III)I"), (71, .methodref 88 192), (0, .nameAndType 193 194), (0, u "canEncode"), (0, u "(C)Z"), (97, u "(C)Ljava/lang/AbstractStringBuilder;"), (110, u "()[B"), (40, .class_ 445), (0, u "java/lang/Appendable"), (106, u "getValue")] 56

def k10m0 : Method := { name := "<init>", desc := "()V", sig := { parameters := [], returnType := none }, accessFlags := 0, code := none }
def k10c1 : Code := { maxStack := 2, maxLocals := 2, code := jdk_68_method_2_code, exceptionTable := #[], attributes := #[] }
def k10m1 : Method := { name := "<init>", desc := "(I)V", sig := { parameters := [.int], returnType := none }, accessFlags := 0, code := some k10c1 }
def k10c2 : Code := { maxStack := 1, maxLocals := 1, code := jdk_68_method_6_code, exceptionTable := #[], attributes := #[] }
def k10m2 : Method := { name := "length", desc := "()I", sig := { parameters := [], returnType := some .int }, accessFlags := 1, code := some k10c2 }
def k10c3 : Code := { maxStack := 4, maxLocals := 3, code := jdk_68_method_9_code, exceptionTable := #[], attributes := #[] }
def k10m3 : Method := { name := "ensureCapacityInternal", desc := "(I)V", sig := { parameters := [.int], returnType := none }, accessFlags := 2, code := some k10c3 }
def k10c4 : Code := { maxStack := 5, maxLocals := 6, code := jdk_68_method_10_code, exceptionTable := #[], attributes := #[] }
def k10m4 : Method := { name := "newCapacity", desc := "(I)I", sig := { parameters := [.int], returnType := some .int }, accessFlags := 2, code := some k10c4 }
def k10c5 : Code := { maxStack := 5, maxLocals := 2, code := jdk_68_method_31_code, exceptionTable := #[], attributes := #[] }
def k10m5 : Method := { name := "append", desc := "(C)Ljava/lang/AbstractStringBuilder;", sig := { parameters := [.char], returnType := some (.object "java/lang/AbstractStringBuilder") }, accessFlags := 1, code := some k10c5 }
def k10c6 : Code := { maxStack := 1, maxLocals := 1, code := jdk_68_method_64_code, exceptionTable := #[], attributes := #[] }
def k10m6 : Method := { name := "getValue", desc := "()[B", sig := { parameters := [], returnType := some (.array .byte) }, accessFlags := 16, code := some k10c6 }
def k10c7 : Code := { maxStack := 1, maxLocals := 1, code := jdk_68_method_68_code, exceptionTable := #[], attributes := #[] }
def k10m7 : Method := { name := "isLatin1", desc := "()Z", sig := { parameters := [], returnType := some .boolean }, accessFlags := 16, code := some k10c7 }
/-- java/lang/AbstractStringBuilder -/
def k10 : Class := { plain "java/lang/AbstractStringBuilder" (some 0) with
  accessFlags := 1056
  interfaces := #[9, 4]
  cf := some (fileOf pool10 10 #[] #[{ accessFlags := 0, nameIndex := 7, descriptorIndex := 8, attributes := #[] }, { accessFlags := 0, nameIndex := 7, descriptorIndex := 103, attributes := #[] }, { accessFlags := 1, nameIndex := 34, descriptorIndex := 35, attributes := #[] }, { accessFlags := 2, nameIndex := 102, descriptorIndex := 103, attributes := #[] }, { accessFlags := 2, nameIndex := 106, descriptorIndex := 107, attributes := #[] }, { accessFlags := 1, nameIndex := 45, descriptorIndex := 292, attributes := #[] }, { accessFlags := 16, nameIndex := 552, descriptorIndex := 403, attributes := #[] }, { accessFlags := 16, nameIndex := 85, descriptorIndex := 86, attributes := #[] }] 1056 4 #[444, 48] #[{ accessFlags := 0, nameIndex := 17, descriptorIndex := 14, attributes := #[] }, { accessFlags := 0, nameIndex := 24, descriptorIndex := 25, attributes := #[] }, { accessFlags := 0, nameIndex := 75, descriptorIndex := 21, attributes := #[] }, { accessFlags := 0, nameIndex := 81, descriptorIndex := 82, attributes := #[] }, { accessFlags := 26, nameIndex := 13, descriptorIndex := 14, attributes := #[] }])
  fields := #[{ name := "value", type := (.array .byte), accessFlags := 0, slot := 0, constantValue := 0 }, { name := "coder", type := .byte, accessFlags := 0, slot := 1, constantValue := 0 }, { name := "maybeLatin1", type := .boolean, accessFlags := 0, slot := 2, constantValue := 0 }, { name := "count", type := .int, accessFlags := 0, slot := 3, constantValue := 0 }, { name := "EMPTYVALUE", type := (.array .byte), accessFlags := 26, slot := 0, constantValue := 0 }]
  methods := #[k10m0, k10m1, k10m2, k10m3, k10m4, k10m5, k10m6, k10m7]
  instanceTypes := #[(.array .byte), .byte, .boolean, .int]
  staticTypes := #[(.array .byte)]
  resolved := Array.replicate 609 none
  statics := none }

def pool11 : Array CpInfo := pool [(1, .methodref 2 3), (0, .class_ 4), (0, .nameAndType 5 6), (0, u "java/lang/AbstractStringBuilder"), (0, u "<init>"), (0, u "(I)V"), (11, .class_ 20), (1, u "java/lang/String"), (3, .class_ 26), (1, u "java/lang/StringBuilder"), (0, u "append"), (22, .methodref 2 51), (0, .nameAndType 27 52), (0, u "(C)Ljava/lang/AbstractStringBuilder;"), (84, .methodref 18 138), (0, .nameAndType 5 139), (0, u "(Ljava/lang/StringBuilder;)V"), (5, u "()V"), (10, u "()I"), (129, u "(C)Ljava/lang/StringBuilder;"), (56, .methodref 2 344), (0, .nameAndType 345 156), (0, u "length"), (3, .class_ 350), (0, u "java/lang/Appendable"), (0, .class_ 352), (0, u "java/io/Serializable"), (0, .class_ 354), (0, u "java/lang/Comparable"), (0, .class_ 356), (0, u "java/lang/CharSequence"), (0, u "serialVersionUID"), (0, u "J"), (40, u "toString"), (0, u "()Ljava/lang/String;")] 21

def k11m0 : Method := { name := "<init>", desc := "()V", sig := { parameters := [], returnType := none }, accessFlags := 1, code := none }
def k11c1 : Code := { maxStack := 2, maxLocals := 2, code := jdk_67_method_2_code, exceptionTable := #[], attributes := #[] }
def k11m1 : Method := { name := "<init>", desc := "(I)V", sig := { parameters := [.int], returnType := none }, accessFlags := 1, code := some k11c1 }
def k11c2 : Code := { maxStack := 2, maxLocals := 2, code := jdk_67_method_14_code, exceptionTable := #[], attributes := #[] }
def k11m2 : Method := { name := "append", desc := "(C)Ljava/lang/StringBuilder;", sig := { parameters := [.char], returnType := some (.object "java/lang/StringBuilder") }, accessFlags := 1, code := some k11c2 }
def k11c3 : Code := { maxStack := 3, maxLocals := 1, code := jdk_67_method_42_code, exceptionTable := #[], attributes := #[] }
def k11m3 : Method := { name := "toString", desc := "()Ljava/lang/String;", sig := { parameters := [], returnType := some (.object "java/lang/String") }, accessFlags := 1, code := some k11c3 }
def k11c4 : Code := { maxStack := 1, maxLocals := 1, code := jdk_67_method_93_code, exceptionTable := #[], attributes := #[] }
def k11m4 : Method := { name := "length", desc := "()I", sig := { parameters := [], returnType := some .int }, accessFlags := 4161, code := some k11c4 }
/-- java/lang/StringBuilder -/
def k11 : Class := { plain "java/lang/StringBuilder" (some 10) with
  accessFlags := 49
  interfaces := #[9, 2, 3, 4]
  cf := some (fileOf pool11 24 #[] #[{ accessFlags := 1, nameIndex := 5, descriptorIndex := 145, attributes := #[] }, { accessFlags := 1, nameIndex := 5, descriptorIndex := 6, attributes := #[] }, { accessFlags := 1, nameIndex := 27, descriptorIndex := 286, attributes := #[] }, { accessFlags := 1, nameIndex := 399, descriptorIndex := 400, attributes := #[] }, { accessFlags := 4161, nameIndex := 345, descriptorIndex := 156, attributes := #[] }] 49 2 #[349, 351, 353, 355] #[{ accessFlags := 24, nameIndex := 357, descriptorIndex := 358, attributes := #[] }])
  fields := #[{ name := "serialVersionUID", type := .long, accessFlags := 24, slot := 0, constantValue := 0 }]
  methods := #[k11m0, k11m1, k11m2, k11m3, k11m4]
  instanceTypes := #[(.array .byte), .byte, .boolean, .int]
  staticTypes := #[.long]
  resolved := Array.replicate 422 none
  statics := none }

def pool12 : Array CpInfo := pool [(1, .class_ 2), (0, u "java/lang/String"), (1, .class_ 6), (1, u "java/lang/Object"), (0, u "<init>"), (0, u "()V"), (0, .methodref 1 10), (0, .nameAndType 11 12), (0, u "checkIndex"), (0, u "(II)V"), (1, .class_ 16), (1, u "java/lang/StringLatin1"), (36, u "([BI)C"), (36, u "canEncode"), (14, u "(C)Z"), (15, u "$assertionsDisabled"), (0, u "Z"), (98, .class_ 223), (1, u "java/lang/StringLatin1$LinesSpliterator"), (28, u "charAt"), (137, .class_ 391), (0, u "java/lang/StringLatin1$CharsSpliterator")] 3

def k12m0 : Method := { name := "<init>", desc := "()V", sig := { parameters := [], returnType := none }, accessFlags := 0, code := none }
def k12c1 : Code := { maxStack := 2, maxLocals := 2, code := jdk_43_method_2_code, exceptionTable := #[], attributes := #[] }
def k12m1 : Method := { name := "charAt", desc := "([BI)C", sig := { parameters := [(.array .byte), .int], returnType := some .char }, accessFlags := 9, code := some k12c1 }
def k12c2 : Code := { maxStack := 2, maxLocals := 1, code := jdk_43_method_3_code, exceptionTable := #[], attributes := #[] }
def k12m2 : Method := { name := "canEncode", desc := "(C)Z", sig := { parameters := [.char], returnType := some .boolean }, accessFlags := 9, code := some k12c2 }
/-- java/lang/StringLatin1 -/
def k12 : Class := { plain "java/lang/StringLatin1" (some 0) with
  accessFlags := 48
  interfaces := #[]
  cf := some (fileOf pool12 14 #[.nestMembers #[390, 221]] #[{ accessFlags := 0, nameIndex := 7, descriptorIndex := 8, attributes := #[] }, { accessFlags := 9, nameIndex := 252, descriptorIndex := 53, attributes := #[] }, { accessFlags := 9, nameIndex := 90, descriptorIndex := 105, attributes := #[] }] 48 4 #[] #[{ accessFlags := 4120, nameIndex := 121, descriptorIndex := 122, attributes := #[] }])
  fields := #[{ name := "$assertionsDisabled", type := .boolean, accessFlags := 4120, slot := 0, constantValue := 0 }]
  methods := #[k12m0, k12m1, k12m2]
  instanceTypes := #[]
  staticTypes := #[.boolean]
  resolved := Array.replicate 395 none
  statics := none }

def pool13 : Array CpInfo := pool [(2, .class_ 4), (1, u "java/lang/Object"), (0, u "<init>"), (0, u "()V"), (7, .class_ 16), (1, u "java/util/Arrays"), (57, .class_ 76), (1, u "java/util/Arrays$NaturalOrder"), (32, u "()Ljava/lang/Object;"), (3, .class_ 115), (1, u "java/util/Arrays$LegacyMergeSort"), (1, u "Z"), (10, .nameAndType 129 109), (0, u "clone"), (9, u "copyOfRange"), (10, .methodref 151 152), (0, .class_ 153), (0, .nameAndType 154 155), (0, u "java/lang/System"), (0, u "arraycopy"), (0, u "(Ljava/lang/Object;ILjava/lang/Object;II)V"), (146, u "copyOf"), (1, .methodref 305 306), (0, .class_ 307), (0, .nameAndType 308 309), (0, u "java/lang/Math"), (0, u "min"), (0, u "(II)I"), (0, .methodref 311 128), (0, .class_ 312), (0, u "[B"), (26, .methodref 14 340), (0, .nameAndType 341 342), (0, u "copyOfRangeByte"), (0, u "([BII)[B"), (0, .methodref 14 344), (0, .nameAndType 345 346), (0, u "checkLength"), (0, u "(II)V"), (28, .class_ 376), (0, u "java/util/Arrays$ArrayList"), (68, u "$assertionsDisabled"), (269, u "MIN_ARRAY_SORT_GRAN"), (0, u "I"), (2, u "INSERTIONSORT_THRESHOLD"), (149, u "([BI)[B"), (105, .class_ 976), (0, u "java/util/Arrays$ArrayItr")] 52

def k13m0 : Method := { name := "<init>", desc := "()V", sig := { parameters := [], returnType := none }, accessFlags := 2, code := none }
def k13c1 : Code := { maxStack := 6, maxLocals := 3, code := jdk_65_method_121_code, exceptionTable := #[], attributes := #[] }
def k13m1 : Method := { name := "copyOf", desc := "([BI)[B", sig := { parameters := [(.array .byte), .int], returnType := some (.array .byte) }, accessFlags := 9, code := some k13c1 }
def k13c2 : Code := { maxStack := 4, maxLocals := 2, code := jdk_65_method_131_code, exceptionTable := #[], attributes := #[] }
def k13m2 : Method := { name := "checkLength", desc := "(II)V", sig := { parameters := [.int, .int], returnType := none }, accessFlags := 10, code := some k13c2 }
def k13c3 : Code := { maxStack := 3, maxLocals := 3, code := jdk_65_method_132_code, exceptionTable := #[], attributes := #[] }
def k13m3 : Method := { name := "copyOfRange", desc := "([BII)[B", sig := { parameters := [(.array .byte), .int, .int], returnType := some (.array .byte) }, accessFlags := 9, code := some k13c3 }
def k13c4 : Code := { maxStack := 6, maxLocals := 5, code := jdk_65_method_133_code, exceptionTable := #[], attributes := #[] }
def k13m4 : Method := { name := "copyOfRangeByte", desc := "([BII)[B", sig := { parameters := [(.array .byte), .int, .int], returnType := some (.array .byte) }, accessFlags := 10, code := some k13c4 }
/-- java/util/Arrays -/
def k13 : Class := { plain "java/util/Arrays" (some 0) with
  accessFlags := 49
  interfaces := #[]
  cf := some (fileOf pool13 14 #[.nestMembers #[975, 375, 113, 74]] #[{ accessFlags := 2, nameIndex := 5, descriptorIndex := 6, attributes := #[] }, { accessFlags := 9, nameIndex := 302, descriptorIndex := 869, attributes := #[] }, { accessFlags := 10, nameIndex := 345, descriptorIndex := 346, attributes := #[] }, { accessFlags := 9, nameIndex := 139, descriptorIndex := 342, attributes := #[] }, { accessFlags := 10, nameIndex := 341, descriptorIndex := 342, attributes := #[] }] 49 2 #[] #[{ accessFlags := 26, nameIndex := 715, descriptorIndex := 716, attributes := #[] }, { accessFlags := 26, nameIndex := 719, descriptorIndex := 716, attributes := #[] }, { accessFlags := 4120, nameIndex := 445, descriptorIndex := 117, attributes := #[] }])
  fields := #[{ name := "MIN_ARRAY_SORT_GRAN", type := .int, accessFlags := 26, slot := 0, constantValue := 0 }, { name := "INSERTIONSORT_THRESHOLD", type := .int, accessFlags := 26, slot := 1, constantValue := 0 }, { name := "$assertionsDisabled", type := .boolean, accessFlags := 4120, slot := 2, constantValue := 0 }]
  methods := #[k13m0, k13m1, k13m2, k13m3, k13m4]
  instanceTypes := #[]
  staticTypes := #[.int, .int, .boolean]
  resolved := Array.replicate 1029 none
  statics := none }

def pool14 : Array CpInfo := pool [(1, .class_ 2), (0, u "java/lang/Cloneable"), (0, .class_ 4), (0, u "java/lang/Object")] 2

/-- java/lang/Cloneable -/
def k14 : Class := { plain "java/lang/Cloneable" (some 0) with
  accessFlags := 1537
  interfaces := #[]
  cf := some (fileOf pool14 1 #[] #[] 1537 3 #[] #[])
  fields := #[]
  methods := #[]
  instanceTypes := #[]
  staticTypes := #[]
  resolved := Array.replicate 7 none
  statics := none }

def pool15 : Array CpInfo := pool [(2, .class_ 4), (1, u "java/lang/Object"), (0, u "<init>"), (0, u "()V"), (17, .class_ 26), (1, u "jdk/internal/util/Preconditions"), (6, u "checkIndex"), (21, .class_ 56), (0, u "jdk/internal/util/Preconditions$4"), (57, .class_ 115), (0, u "jdk/internal/util/Preconditions$1"), (7, u "SIOOBE_FORMATTER"), (0, u "Ljava/util/function/BiFunction;"), (0, .class_ 126), (0, u "jdk/internal/util/Preconditions$2"), (3, u "AIOOBE_FORMATTER"), (0, .class_ 132), (0, u "jdk/internal/util/Preconditions$3"), (3, u "IOOBE_FORMATTER"), (41, u "(IILjava/util/function/BiFunction;)I")] 15

def k15m0 : Method := { name := "<init>", desc := "()V", sig := { parameters := [], returnType := none }, accessFlags := 1, code := none }
def k15c1 : Code := { maxStack := 3, maxLocals := 3, code := jdk_41_method_11_code, exceptionTable := #[], attributes := #[] }
def k15m1 : Method := { name := "checkIndex", desc := "(IILjava/util/function/BiFunction;)I", sig := { parameters := [.int, .int, (.object "java/util/function/BiFunction")], returnType := some .int }, accessFlags := 9, code := some k15c1 }
/-- jdk/internal/util/Preconditions -/
def k15 : Class := { plain "jdk/internal/util/Preconditions" (some 0) with
  accessFlags := 33
  interfaces := #[]
  cf := some (fileOf pool15 24 #[.nestMembers #[55, 131, 125, 114]] #[{ accessFlags := 1, nameIndex := 5, descriptorIndex := 6, attributes := #[] }, { accessFlags := 9, nameIndex := 33, descriptorIndex := 178, attributes := #[] }] 33 2 #[] #[{ accessFlags := 25, nameIndex := 123, descriptorIndex := 124, attributes := #[] }, { accessFlags := 25, nameIndex := 130, descriptorIndex := 124, attributes := #[] }, { accessFlags := 25, nameIndex := 136, descriptorIndex := 124, attributes := #[] }])
  fields := #[{ name := "SIOOBE_FORMATTER", type := (.object "java/util/function/BiFunction"), accessFlags := 25, slot := 0, constantValue := 0 }, { name := "AIOOBE_FORMATTER", type := (.object "java/util/function/BiFunction"), accessFlags := 25, slot := 1, constantValue := 0 }, { name := "IOOBE_FORMATTER", type := (.object "java/util/function/BiFunction"), accessFlags := 25, slot := 2, constantValue := 0 }]
  methods := #[k15m0, k15m1]
  instanceTypes := #[]
  staticTypes := #[(.object "java/util/function/BiFunction"), (.object "java/util/function/BiFunction"), (.object "java/util/function/BiFunction")]
  resolved := Array.replicate 194 none
  statics := some 1 }

def pool16 : Array CpInfo := pool [(6, .class_ 8), (1, u "java/lang/Object"), (0, u "<init>"), (0, u "()V"), (1, .class_ 14), (1, u "java/lang/StringUTF16"), (31, u "$assertionsDisabled"), (0, u "Z"), (13, u "HI_BYTE_SHIFT"), (0, u "I"), (2, u "LO_BYTE_SHIFT"), (49, .methodref 12 116), (0, .nameAndType 117 118), (0, u "compress"), (0, u "([CI[BII)I"), (3, u "([CII)[B"), (138, u "coderFromArrayLen"), (0, u "([BI)B"), (106, .class_ 371), (1, u "java/lang/StringUTF16$LinesSpliterator"), (58, u "MAX_LENGTH"), (196, .class_ 628), (0, u "java/lang/StringUTF16$CodePointsSpliterator"), (0, .class_ 630), (0, u "java/lang/StringUTF16$CharsSpliterator")] 4

def k16m0 : Method := { name := "<init>", desc := "()V", sig := { parameters := [], returnType := none }, accessFlags := 0, code := none }
def k16c1 : Code := { maxStack := 2, maxLocals := 2, code := jdk_52_method_15_code, exceptionTable := #[], attributes := #[] }
def k16m1 : Method := { name := "coderFromArrayLen", desc := "([BI)B", sig := { parameters := [(.array .byte), .int], returnType := some .byte }, accessFlags := 8, code := some k16c1 }
def k16c2 : Code := { maxStack := 5, maxLocals := 6, code := jdk_52_method_16_code, exceptionTable := #[], attributes := #[] }
def k16m2 : Method := { name := "compress", desc := "([CII)[B", sig := { parameters := [(.array .char), .int, .int], returnType := some (.array .byte) }, accessFlags := 9, code := some k16c2 }
def k16c3 : Code := { maxStack := 3, maxLocals := 7, code := jdk_52_method_21_code, exceptionTable := #[], attributes := #[] }
def k16m3 : Method := { name := "compress", desc := "([CI[BII)I", sig := { parameters := [(.array .char), .int, (.array .byte), .int, .int], returnType := some .int }, accessFlags := 9, code := some k16c3 }
/-- java/lang/StringUTF16 -/
def k16 : Class := { plain "java/lang/StringUTF16" (some 0) with
  accessFlags := 48
  interfaces := #[]
  cf := some (fileOf pool16 12 #[.nestMembers #[627, 629, 369]] #[{ accessFlags := 0, nameIndex := 9, descriptorIndex := 10, attributes := #[] }, { accessFlags := 8, nameIndex := 261, descriptorIndex := 262, attributes := #[] }, { accessFlags := 9, nameIndex := 117, descriptorIndex := 122, attributes := #[] }, { accessFlags := 9, nameIndex := 117, descriptorIndex := 118, attributes := #[] }] 48 6 #[] #[{ accessFlags := 26, nameIndex := 61, descriptorIndex := 62, attributes := #[] }, { accessFlags := 26, nameIndex := 65, descriptorIndex := 62, attributes := #[] }, { accessFlags := 24, nameIndex := 430, descriptorIndex := 62, attributes := #[] }, { accessFlags := 4120, nameIndex := 46, descriptorIndex := 47, attributes := #[] }])
  fields := #[{ name := "HI_BYTE_SHIFT", type := .int, accessFlags := 26, slot := 0, constantValue := 0 }, { name := "LO_BYTE_SHIFT", type := .int, accessFlags := 26, slot := 1, constantValue := 0 }, { name := "MAX_LENGTH", type := .int, accessFlags := 24, slot := 2, constantValue := 0 }, { name := "$assertionsDisabled", type := .boolean, accessFlags := 4120, slot := 3, constantValue := 0 }]
  methods := #[k16m0, k16m1, k16m2, k16m3]
  instanceTypes := #[]
  staticTypes := #[.int, .int, .int, .boolean]
  resolved := Array.replicate 635 none
  statics := none }

def pool17 : Array CpInfo := pool [(9, u "<init>"), (6, .class_ 18), (1, u "java/lang/Object"), (0, u "()V"), (1, .class_ 23), (1, u "jdk/internal/util/ArraysSupport"), (0, u "LOG2_ARRAY_LONG_INDEX_SCALE"), (0, u "I"), (2, u "U"), (0, u "Ljdk/internal/misc/Unsafe;"), (8, u "BIG_ENDIAN"), (0, u "Z"), (8, u "LOG2_BYTE_BIT_SIZE"), (4, u "LOG2_ARRAY_INT_INDEX_SCALE"), (54, u "JLA"), (0, u "Ljdk/internal/access/JavaLangAccess;"), (11, u "LOG2_ARRAY_BOOLEAN_INDEX_SCALE"), (9, u "LOG2_ARRAY_BYTE_INDEX_SCALE"), (5, u "LOG2_ARRAY_CHAR_INDEX_SCALE"), (5, u "LOG2_ARRAY_SHORT_INDEX_SCALE"), (18, u "LOG2_ARRAY_FLOAT_INDEX_SCALE"), (24, u "LOG2_ARRAY_DOUBLE_INDEX_SCALE"), (6, .methodref 195 196), (0, .class_ 197), (0, .nameAndType 198 199), (0, u "java/lang/Math"), (0, u "max"), (0, u "(II)I"), (0, .integer 2147483639), (76, u "T_BOOLEAN"), (2, u "T_CHAR"), (1, u "T_FLOAT"), (1, u "T_DOUBLE"), (1, u "T_BYTE"), (1, u "T_SHORT"), (1, u "T_INT"), (1, u "T_LONG"), (1, u "SOFT_MAX_ARRAY_LENGTH"), (56, u "newLength"), (0, u "(III)I")] 25

def k17m0 : Method := { name := "<init>", desc := "()V", sig := { parameters := [], returnType := none }, accessFlags := 2, code := none }
def k17c1 : Code := { maxStack := 3, maxLocals := 4, code := jdk_48_method_27_code, exceptionTable := #[], attributes := #[] }
def k17m1 : Method := { name := "newLength", desc := "(III)I", sig := { parameters := [.int, .int, .int], returnType := some .int }, accessFlags := 9, code := some k17c1 }
/-- jdk/internal/util/ArraysSupport -/
def k17 : Class := { plain "jdk/internal/util/ArraysSupport" (some 0) with
  accessFlags := 33
  interfaces := #[]
  cf := some (fileOf pool17 21 #[] #[{ accessFlags := 2, nameIndex := 9, descriptorIndex := 19, attributes := #[] }, { accessFlags := 9, nameIndex := 351, descriptorIndex := 352, attributes := #[] }] 33 16 #[] #[{ accessFlags := 24, nameIndex := 28, descriptorIndex := 29, attributes := #[] }, { accessFlags := 26, nameIndex := 38, descriptorIndex := 39, attributes := #[] }, { accessFlags := 25, nameIndex := 121, descriptorIndex := 25, attributes := #[] }, { accessFlags := 25, nameIndex := 131, descriptorIndex := 25, attributes := #[] }, { accessFlags := 25, nameIndex := 137, descriptorIndex := 25, attributes := #[] }, { accessFlags := 25, nameIndex := 143, descriptorIndex := 25, attributes := #[] }, { accessFlags := 25, nameIndex := 53, descriptorIndex := 25, attributes := #[] }, { accessFlags := 25, nameIndex := 24, descriptorIndex := 25, attributes := #[] }, { accessFlags := 25, nameIndex := 162, descriptorIndex := 25, attributes := #[] }, { accessFlags := 25, nameIndex := 187, descriptorIndex := 25, attributes := #[] }, { accessFlags := 26, nameIndex := 48, descriptorIndex := 25, attributes := #[] }, { accessFlags := 25, nameIndex := 277, descriptorIndex := 25, attributes := #[] }, { accessFlags := 25, nameIndex := 280, descriptorIndex := 25, attributes := #[] }, { accessFlags := 25, nameIndex := 282, descriptorIndex := 25, attributes := #[] }, { accessFlags := 25, nameIndex := 284, descriptorIndex := 25, attributes := #[] }, { accessFlags := 25, nameIndex := 286, descriptorIndex := 25, attributes := #[] }, { accessFlags := 25, nameIndex := 288, descriptorIndex := 25, attributes := #[] }, { accessFlags := 25, nameIndex := 290, descriptorIndex := 25, attributes := #[] }, { accessFlags := 25, nameIndex := 292, descriptorIndex := 25, attributes := #[] }, { accessFlags := 26, nameIndex := 108, descriptorIndex := 109, attributes := #[] }, { accessFlags := 25, nameIndex := 294, descriptorIndex := 25, attributes := #[] }])
  fields := #[{ name := "U", type := (.object "jdk/internal/misc/Unsafe"), accessFlags := 24, slot := 0, constantValue := 0 }, { name := "BIG_ENDIAN", type := .boolean, accessFlags := 26, slot := 1, constantValue := 0 }, { name := "LOG2_ARRAY_BOOLEAN_INDEX_SCALE", type := .int, accessFlags := 25, slot := 2, constantValue := 0 }, { name := "LOG2_ARRAY_BYTE_INDEX_SCALE", type := .int, accessFlags := 25, slot := 3, constantValue := 0 }, { name := "LOG2_ARRAY_CHAR_INDEX_SCALE", type := .int, accessFlags := 25, slot := 4, constantValue := 0 }, { name := "LOG2_ARRAY_SHORT_INDEX_SCALE", type := .int, accessFlags := 25, slot := 5, constantValue := 0 }, { name := "LOG2_ARRAY_INT_INDEX_SCALE", type := .int, accessFlags := 25, slot := 6, constantValue := 0 }, { name := "LOG2_ARRAY_LONG_INDEX_SCALE", type := .int, accessFlags := 25, slot := 7, constantValue := 0 }, { name := "LOG2_ARRAY_FLOAT_INDEX_SCALE", type := .int, accessFlags := 25, slot := 8, constantValue := 0 }, { name := "LOG2_ARRAY_DOUBLE_INDEX_SCALE", type := .int, accessFlags := 25, slot := 9, constantValue := 0 }, { name := "LOG2_BYTE_BIT_SIZE", type := .int, accessFlags := 26, slot := 10, constantValue := 0 }, { name := "T_BOOLEAN", type := .int, accessFlags := 25, slot := 11, constantValue := 0 }, { name := "T_CHAR", type := .int, accessFlags := 25, slot := 12, constantValue := 0 }, { name := "T_FLOAT", type := .int, accessFlags := 25, slot := 13, constantValue := 0 }, { name := "T_DOUBLE", type := .int, accessFlags := 25, slot := 14, constantValue := 0 }, { name := "T_BYTE", type := .int, accessFlags := 25, slot := 15, constantValue := 0 }, { name := "T_SHORT", type := .int, accessFlags := 25, slot := 16, constantValue := 0 }, { name := "T_INT", type := .int, accessFlags := 25, slot := 17, constantValue := 0 }, { name := "T_LONG", type := .int, accessFlags := 25, slot := 18, constantValue := 0 }, { name := "JLA", type := (.object "jdk/internal/access/JavaLangAccess"), accessFlags := 26, slot := 19, constantValue := 0 }, { name := "SOFT_MAX_ARRAY_LENGTH", type := .int, accessFlags := 25, slot := 20, constantValue := 0 }]
  methods := #[k17m0, k17m1]
  instanceTypes := #[]
  staticTypes := #[(.object "jdk/internal/misc/Unsafe"), .boolean, .int, .int, .int, .int, .int, .int, .int, .int, .int, .int, .int, .int, .int, .int, .int, .int, .int, (.object "jdk/internal/access/JavaLangAccess"), .int]
  resolved := Array.replicate 378 none
  statics := none }

def pool18 : Array CpInfo := pool [(1, .class_ 2), (0, u "java/lang/Math"), (1, .class_ 6), (1, u "java/lang/Object"), (0, u "<init>"), (0, u "()V"), (89, .class_ 100), (1, u "java/lang/Math$RandomNumberGeneratorHolder"), (71, u "negativeZeroFloatBits"), (0, u "J"), (2, u "negativeZeroDoubleBits"), (21, u "max"), (2, u "min"), (43, u "$assertionsDisabled"), (0, u "Z"), (88, u "(II)I"), (2, u "twoToTheDoubleScaleDown"), (0, u "D"), (4, u "twoToTheDoubleScaleUp"), (9, u "E"), (3, u "PI"), (2, u "TAU"), (2, u "DEGREES_TO_RADIANS"), (0, u "RADIANS_TO_DEGREES")] 94

def k18m0 : Method := { name := "<init>", desc := "()V", sig := { parameters := [], returnType := none }, accessFlags := 2, code := none }
def k18c1 : Code := { maxStack := 2, maxLocals := 2, code := jdk_29_method_65_code, exceptionTable := #[], attributes := #[] }
def k18m1 : Method := { name := "max", desc := "(II)I", sig := { parameters := [.int, .int], returnType := some .int }, accessFlags := 9, code := some k18c1 }
def k18c2 : Code := { maxStack := 2, maxLocals := 2, code := jdk_29_method_69_code, exceptionTable := #[], attributes := #[] }
def k18m2 : Method := { name := "min", desc := "(II)I", sig := { parameters := [.int, .int], returnType := some .int }, accessFlags := 9, code := some k18c2 }
/-- java/lang/Math -/
def k18 : Class := { plain "java/lang/Math" (some 0) with
  accessFlags := 49
  interfaces := #[]
  cf := some (fileOf pool18 1 #[.nestMembers #[98]] #[{ accessFlags := 2, nameIndex := 7, descriptorIndex := 8, attributes := #[] }, { accessFlags := 9, nameIndex := 198, descriptorIndex := 335, attributes := #[] }, { accessFlags := 9, nameIndex := 201, descriptorIndex := 335, attributes := #[] }] 49 4 #[] #[{ accessFlags := 25, nameIndex := 354, descriptorIndex := 339, attributes := #[] }, { accessFlags := 25, nameIndex := 358, descriptorIndex := 339, attributes := #[] }, { accessFlags := 25, nameIndex := 361, descriptorIndex := 339, attributes := #[] }, { accessFlags := 26, nameIndex := 364, descriptorIndex := 339, attributes := #[] }, { accessFlags := 26, nameIndex := 365, descriptorIndex := 339, attributes := #[] }, { accessFlags := 26, nameIndex := 172, descriptorIndex := 173, attributes := #[] }, { accessFlags := 26, nameIndex := 176, descriptorIndex := 173, attributes := #[] }, { accessFlags := 8, nameIndex := 344, descriptorIndex := 339, attributes := #[] }, { accessFlags := 8, nameIndex := 338, descriptorIndex := 339, attributes := #[] }, { accessFlags := 4120, nameIndex := 245, descriptorIndex := 246, attributes := #[] }])
  fields := #[{ name := "E", type := .double, accessFlags := 25, slot := 0, constantValue := 0 }, { name := "PI", type := .double, accessFlags := 25, slot := 1, constantValue := 0 }, { name := "TAU", type := .double, accessFlags := 25, slot := 2, constantValue := 0 }, { name := "DEGREES_TO_RADIANS", type := .double, accessFlags := 26, slot := 3, constantValue := 0 }, { name := "RADIANS_TO_DEGREES", type := .double, accessFlags := 26, slot := 4, constantValue := 0 }, { name := "negativeZeroFloatBits", type := .long, accessFlags := 26, slot := 5, constantValue := 0 }, { name := "negativeZeroDoubleBits", type := .long, accessFlags := 26, slot := 6, constantValue := 0 }, { name := "twoToTheDoubleScaleUp", type := .double, accessFlags := 8, slot := 7, constantValue := 0 }, { name := "twoToTheDoubleScaleDown", type := .double, accessFlags := 8, slot := 8, constantValue := 0 }, { name := "$assertionsDisabled", type := .boolean, accessFlags := 4120, slot := 9, constantValue := 0 }]
  methods := #[k18m0, k18m1, k18m2]
  instanceTypes := #[]
  staticTypes := #[.double, .double, .double, .double, .double, .long, .long, .double, .double, .boolean]
  resolved := Array.replicate 460 none
  statics := none }

def pool19 : Array CpInfo := pool [(2, .class_ 4), (1, u "java/lang/Object"), (0, u "<init>"), (0, u "()V"), (1, .class_ 10), (1, u "java/lang/System"), (0, u "allowSecurityManager"), (0, u "I"), (16, u "cons"), (0, u "Ljava/io/Console;"), (77, .class_ 110), (1, u "java/lang/System$CallersHolder"), (43, u "initialErrStream"), (0, u "Ljava/io/PrintStream;"), (19, u "security"), (0, u "Ljava/lang/SecurityManager;"), (31, .class_ 209), (0, u "java/lang/System$1"), (7, u "props"), (0, u "Ljava/util/Properties;"), (2, u "lineSeparator"), (0, u "Ljava/lang/String;"), (96, .class_ 321), (1, u "java/lang/System$LoggerFinder"), (5, .class_ 328), (0, u "java/lang/System$Logger"), (67, u "err"), (2, u "out"), (91, u "notSupportedJnuEncoding"), (15, u "in"), (17, u "initialIn"), (0, u "Ljava/io/InputStream;"), (35, u "bootLayer"), (0, u "Ljava/lang/ModuleLayer;"), (99, .class_ 664), (0, u "java/lang/System$2"), (9, u "NEVER"), (2, u "MAYBE"), (49, u "arraycopy"), (0, u "(Ljava/lang/Object;ILjava/lang/Object;II)V"), (72, .class_ 802), (0, u "java/lang/System$Logger$Level")] 31

def k19m0 : Method := { name := "<init>", desc := "()V", sig := { parameters := [], returnType := none }, accessFlags := 2, code := none }
def k19m1 : Method := { name := "arraycopy", desc := "(Ljava/lang/Object;ILjava/lang/Object;II)V", sig := { parameters := [(.object "java/lang/Object"), .int, (.object "java/lang/Object"), .int, .int], returnType := none }, accessFlags := 265, code := none }
/-- java/lang/System -/
def k19 : Class := { plain "java/lang/System" (some 0) with
  accessFlags := 49
  interfaces := #[]
  cf := some (fileOf pool19 8 #[.nestMembers #[319, 327, 801, 108, 663, 208]] #[{ accessFlags := 2, nameIndex := 5, descriptorIndex := 6, attributes := #[] }, { accessFlags := 265, nameIndex := 727, descriptorIndex := 728, attributes := #[] }] 49 2 #[] #[{ accessFlags := 25, nameIndex := 507, descriptorIndex := 526, attributes := #[] }, { accessFlags := 25, nameIndex := 399, descriptorIndex := 155, attributes := #[] }, { accessFlags := 25, nameIndex := 396, descriptorIndex := 155, attributes := #[] }, { accessFlags := 10, nameIndex := 525, descriptorIndex := 526, attributes := #[] }, { accessFlags := 26, nameIndex := 674, descriptorIndex := 12, attributes := #[] }, { accessFlags := 26, nameIndex := 677, descriptorIndex := 12, attributes := #[] }, { accessFlags := 10, nameIndex := 11, descriptorIndex := 12, attributes := #[] }, { accessFlags := 74, nameIndex := 175, descriptorIndex := 176, attributes := #[] }, { accessFlags := 10, nameIndex := 491, descriptorIndex := 222, attributes := #[] }, { accessFlags := 74, nameIndex := 29, descriptorIndex := 30, attributes := #[] }, { accessFlags := 74, nameIndex := 154, descriptorIndex := 155, attributes := #[] }, { accessFlags := 10, nameIndex := 217, descriptorIndex := 218, attributes := #[] }, { accessFlags := 10, nameIndex := 221, descriptorIndex := 222, attributes := #[] }, { accessFlags := 8, nameIndex := 562, descriptorIndex := 563, attributes := #[] }])
  fields := #[{ name := "in", type := (.object "java/io/InputStream"), accessFlags := 25, slot := 0, constantValue := 0 }, { name := "out", type := (.object "java/io/PrintStream"), accessFlags := 25, slot := 1, constantValue := 0 }, { name := "err", type := (.object "java/io/PrintStream"), accessFlags := 25, slot := 2, constantValue := 0 }, { name := "initialIn", type := (.object "java/io/InputStream"), accessFlags := 10, slot := 3, constantValue := 0 }, { name := "NEVER", type := .int, accessFlags := 26, slot := 4, constantValue := 0 }, { name := "MAYBE", type := .int, accessFlags := 26, slot := 5, constantValue := 0 }, { name := "allowSecurityManager", type := .int, accessFlags := 10, slot := 6, constantValue := 0 }, { name := "security", type := (.object "java/lang/SecurityManager"), accessFlags := 74, slot := 7, constantValue := 0 }, { name := "notSupportedJnuEncoding", type := (.object "java/lang/String"), accessFlags := 10, slot := 8, constantValue := 0 }, { name := "cons", type := (.object "java/io/Console"), accessFlags := 74, slot := 9, constantValue := 0 }, { name := "initialErrStream", type := (.object "java/io/PrintStream"), accessFlags := 74, slot := 10, constantValue := 0 }, { name := "props", type := (.object "java/util/Properties"), accessFlags := 10, slot := 11, constantValue := 0 }, { name := "lineSeparator", type := (.object "java/lang/String"), accessFlags := 10, slot := 12, constantValue := 0 }, { name := "bootLayer", type := (.object "java/lang/ModuleLayer"), accessFlags := 8, slot := 13, constantValue := 0 }]
  methods := #[k19m0, k19m1]
  instanceTypes := #[]
  staticTypes := #[(.object "java/io/InputStream"), (.object "java/io/PrintStream"), (.object "java/io/PrintStream"), (.object "java/io/InputStream"), .int, .int, .int, (.object "java/lang/SecurityManager"), (.object "java/lang/String"), (.object "java/io/Console"), (.object "java/io/PrintStream"), (.object "java/util/Properties"), (.object "java/lang/String"), (.object "java/lang/ModuleLayer")]
  resolved := Array.replicate 834 none
  statics := none }

/-- the primitive byte -/
def k20 : Class := { plain "byte" none with kind := .primitive 'B', accessFlags := 0x411 }
/-- [B -/
def k21 : Class := { plain "[B" (some 0) with kind := .array 20 .byte, interfaces := #[14, 2], accessFlags := 1041 }

/-- the primitive char -/
def k22 : Class := { plain "char" none with kind := .primitive 'C', accessFlags := 0x411 }
/-- [C -/
def k23 : Class := { plain "[C" (some 0) with kind := .array 22 .char, interfaces := #[14, 2], accessFlags := 1041 }

/-- the primitive int -/
def k24 : Class := { plain "int" none with kind := .primitive 'I', accessFlags := 0x411 }
/-- [I -/
def k25 : Class := { plain "[I" (some 0) with kind := .array 24 .int, interfaces := #[14, 2], accessFlags := 1041 }

def heap : Heap := #[{ cls := 7, slots := #[.long 0, .int 1, .null, .int 0, .null, .int 0, .int 0], vm := .statics 7 },
  { cls := 15, slots := #[.null, .null, .null], vm := .statics 15 }]
def classes : Array Class := #[k0, k1, k2, k3, k4, k5, k6, k7, k8, k9, k10, k11, k12, k13, k14, k15, k16, k17, k18, k19, k20, k21, k22, k23, k24, k25]
def interned : List (Array UInt16 × Addr) := []
def slotsUsed : Nat := 10
def theMethod : MethodId := ⟨1, 3⟩
def args0 : Array Value := #[.int 2, .int 65, .int 34, .int 7]
def aboutOver (below : List Frame) : State where
  vm := { classes := classes, interned := interned.toArray }
  heap := heap
  slotsUsed := slotsUsed
  threads := #[{ frames := .invoking theMethod args0 :: below }]
def below0 : List Frame := [.native { method := ⟨0, 0⟩, args := #[] }]
def about1 : State := aboutOver below0
def p0 : Program := .bare "" "" ""
def e0 : Env := launch0.env 0 0 0
theorem w_frames : about1.frames = Frame.invoking theMethod args0 :: below0 := rfl
set_option maxRecDepth 65536 in
theorem w_args : argsFit about1.vm theMethod args0 = true := by decide +kernel
set_option maxRecDepth 65536 in
theorem w_heap : heapFits about1 = true := by decide +kernel
set_option maxRecDepth 65536 in
theorem w_runnable : about1.curStatus? = some .runnable := by decide +kernel
set_option maxRecDepth 65536 in
theorem w_alone : about1.alone = true := by decide +kernel
set_option maxRecDepth 65536 in
theorem w_named : about1.methodNamed? x = some theMethod := by decide +kernel
set_option maxRecDepth 65536 in
theorem w_hears : about1.hears theMethod below0 = true := by decide +kernel
set_option maxRecDepth 65536 in
theorem w_ripe : about1.ripe theMethod args0 below0 = true := by decide +kernel
theorem w_running : about1.status = .running := rfl
set_option maxRecDepth 65536 in
theorem w_room : about1.hasRoom e0.platform room_1 = true :=
  launch0.hasRoom_least _ room_1 (by decide +kernel) (by decide +kernel) (by decide +kernel) (by decide +kernel) (by decide +kernel) (by decide +kernel)
theorem allAtoms_all (ts : List Jvm.Cond) (a : Array Jvm.Value) (st : Jvm.State) : (allAtoms ts).before a st = ts.all (fun c => c.before a st) := by
  induction ts with
  | nil => rfl
  | cons c t ih =>
    show (Jvm.Cond.and c (allAtoms t)).before a st = _
    rw [Jvm.Cond.before_and, ih, List.all_cons]
def words1 : List Jvm.Cond := Jvm.Cond.code x code maxLocals ret :: tables_1
/-- a 'code' word, met by the world's own term for the bytes: nothing is compared byte by byte -/
theorem code_word {y : MethodName} {bytes : ByteArray} {mx : Nat} {rt : Option FieldType} {a : Array Value} {s : State} {m : MethodId} {meth : Method} {c : Code} (h1 : s.methodNamed? y = some m) (h2 : s.vm.method? m = some meth) (h3 : meth.code = some c) (h4 : c.code = bytes)
    (h5 : (c.maxLocals == mx && c.exceptionTable.isEmpty && decide (c.maxStack ≤ mostOperands) && decide (meth.sig.returnType = rt) && !meth.locks && decide (parseMethodDescriptor y.desc = some meth.sig)) = true) : (Jvm.Cond.code y bytes mx rt).before a s = true := by
  simp only [Bool.and_eq_true, beq_iff_eq, Bool.not_eq_true', decide_eq_true_eq] at h5
  obtain ⟨⟨⟨⟨⟨g1, g2⟩, g3⟩, g4⟩, g5⟩, g6⟩ := h5
  simp [Cond.before, Cond.holds, Cond.value, h1, h2, h3, h4, g1, g2, g3, g4, g5, g6]
def isCode : Jvm.Cond → Bool
  | .code _ _ _ _ => true
  | _ => false
theorem all_split {L : List Jvm.Cond} {P : Jvm.Cond → Bool} (h1 : L.all (fun c => isCode c || P c) = true) (h2 : ∀ c ∈ L.filter isCode, P c = true) : L.all P = true := by
  refine List.all_eq_true.mpr fun c hc => ?_
  have h := List.all_eq_true.mp h1 c hc
  rcases Bool.eq_false_or_eq_true (isCode c) with hi | hi
  · exact h2 c (List.mem_filter.mpr ⟨hc, hi⟩)
  · simpa [hi] using h
set_option maxRecDepth 65536 in
theorem w_c0 : (Jvm.Cond.code x code maxLocals ret).before args0 about1 = true := code_word (m := ⟨1, 3⟩) (meth := k1m3) (c := k1c3) (by decide +kernel) rfl rfl rfl (by decide +kernel)
set_option maxRecDepth 65536 in
theorem w_c1 : (Jvm.Cond.code ({ cls := "java/lang/String", name := "<init>", desc := "([C)V" } : Jvm.MethodName) jdk_42_method_3_code (2 : Nat) (Option.none : Option Jvm.ClassFile.FieldType)).before args0 about1 = true := code_word (m := ⟨7, 1⟩) (meth := k7m1) (c := k7c1) (by decide +kernel) rfl rfl rfl (by decide +kernel)
set_option maxRecDepth 65536 in
theorem w_c2 : (Jvm.Cond.code ({ cls := "java/lang/String", name := "<init>", desc := "([CIILjava/lang/Void;)V" } : Jvm.MethodName) jdk_42_method_149_code (6 : Nat) (Option.none : Option Jvm.ClassFile.FieldType)).before args0 about1 = true := code_word (m := ⟨7, 5⟩) (meth := k7m5) (c := k7c5) (by decide +kernel) rfl rfl rfl (by decide +kernel)
set_option maxRecDepth 65536 in
theorem w_c3 : (Jvm.Cond.code ({ cls := "java/lang/Object", name := "<init>", desc := "()V" } : Jvm.MethodName) object_method_1_code (1 : Nat) (Option.none : Option Jvm.ClassFile.FieldType)).before args0 about1 = true := code_word (m := ⟨0, 0⟩) (meth := k0m0) (c := k0c0) (by decide +kernel) rfl rfl rfl (by decide +kernel)
set_option maxRecDepth 65536 in
theorem w_c4 : (Jvm.Cond.code ({ cls := "com/example/stack_check_trimmer/stackchecktrimmer/io/LineTokenizer", name := "quote", desc := "(Ljava/lang/String;)Ljava/lang/String;" } : Jvm.MethodName) prog_16_method_4_code (4 : Nat) (Option.some (Jvm.ClassFile.FieldType.object "java/lang/String"))).before args0 about1 = true := code_word (m := ⟨8, 1⟩) (meth := k8m1) (c := k8c1) (by decide +kernel) rfl rfl rfl (by decide +kernel)
set_option maxRecDepth 65536 in
theorem w_c5 : (Jvm.Cond.code ({ cls := "java/lang/String", name := "length", desc := "()I" } : Jvm.MethodName) jdk_42_method_54_code (1 : Nat) (Option.some Jvm.ClassFile.FieldType.int)).before args0 about1 = true := code_word (m := ⟨7, 3⟩) (meth := k7m3) (c := k7c3) (by decide +kernel) rfl rfl rfl (by decide +kernel)
set_option maxRecDepth 65536 in
theorem w_c6 : (Jvm.Cond.code ({ cls := "java/lang/String", name := "coder", desc := "()B" } : Jvm.MethodName) jdk_42_method_152_code (1 : Nat) (Option.some Jvm.ClassFile.FieldType.byte)).before args0 about1 = true := code_word (m := ⟨7, 7⟩) (meth := k7m7) (c := k7c7) (by decide +kernel) rfl rfl rfl (by decide +kernel)
set_option maxRecDepth 65536 in
theorem w_c7 : (Jvm.Cond.code ({ cls := "java/lang/StringBuilder", name := "<init>", desc := "(I)V" } : Jvm.MethodName) jdk_67_method_2_code (2 : Nat) (Option.none : Option Jvm.ClassFile.FieldType)).before args0 about1 = true := code_word (m := ⟨11, 1⟩) (meth := k11m1) (c := k11c1) (by decide +kernel) rfl rfl rfl (by decide +kernel)
set_option maxRecDepth 65536 in
theorem w_c8 : (Jvm.Cond.code ({ cls := "java/lang/AbstractStringBuilder", name := "<init>", desc := "(I)V" } : Jvm.MethodName) jdk_68_method_2_code (2 : Nat) (Option.none : Option Jvm.ClassFile.FieldType)).before args0 about1 = true := code_word (m := ⟨10, 1⟩) (meth := k10m1) (c := k10c1) (by decide +kernel) rfl rfl rfl (by decide +kernel)
set_option maxRecDepth 65536 in
theorem w_c9 : (Jvm.Cond.code ({ cls := "java/lang/StringBuilder", name := "append", desc := "(C)Ljava/lang/StringBuilder;" } : Jvm.MethodName) jdk_67_method_14_code (2 : Nat) (Option.some (Jvm.ClassFile.FieldType.object "java/lang/StringBuilder"))).before args0 about1 = true := code_word (m := ⟨11, 2⟩) (meth := k11m2) (c := k11c2) (by decide +kernel) rfl rfl rfl (by decide +kernel)
set_option maxRecDepth 65536 in
theorem w_c10 : (Jvm.Cond.code ({ cls := "java/lang/AbstractStringBuilder", name := "append", desc := "(C)Ljava/lang/AbstractStringBuilder;" } : Jvm.MethodName) jdk_68_method_31_code (2 : Nat) (Option.some (Jvm.ClassFile.FieldType.object "java/lang/AbstractStringBuilder"))).before args0 about1 = true := code_word (m := ⟨10, 5⟩) (meth := k10m5) (c := k10c5) (by decide +kernel) rfl rfl rfl (by decide +kernel)
set_option maxRecDepth 65536 in
theorem w_c11 : (Jvm.Cond.code ({ cls := "java/lang/AbstractStringBuilder", name := "ensureCapacityInternal", desc := "(I)V" } : Jvm.MethodName) jdk_68_method_9_code (3 : Nat) (Option.none : Option Jvm.ClassFile.FieldType)).before args0 about1 = true := code_word (m := ⟨10, 3⟩) (meth := k10m3) (c := k10c3) (by decide +kernel) rfl rfl rfl (by decide +kernel)
set_option maxRecDepth 65536 in
theorem w_c12 : (Jvm.Cond.code ({ cls := "java/lang/AbstractStringBuilder", name := "isLatin1", desc := "()Z" } : Jvm.MethodName) jdk_68_method_68_code (1 : Nat) (Option.some Jvm.ClassFile.FieldType.boolean)).before args0 about1 = true := code_word (m := ⟨10, 7⟩) (meth := k10m7) (c := k10c7) (by decide +kernel) rfl rfl rfl (by decide +kernel)
set_option maxRecDepth 65536 in
theorem w_c13 : (Jvm.Cond.code ({ cls := "java/lang/StringLatin1", name := "canEncode", desc := "(C)Z" } : Jvm.MethodName) jdk_43_method_3_code (1 : Nat) (Option.some Jvm.ClassFile.FieldType.boolean)).before args0 about1 = true := code_word (m := ⟨12, 2⟩) (meth := k12m2) (c := k12c2) (by decide +kernel) rfl rfl rfl (by decide +kernel)
set_option maxRecDepth 65536 in
theorem w_c14 : (Jvm.Cond.code ({ cls := "java/lang/StringBuilder", name := "toString", desc := "()Ljava/lang/String;" } : Jvm.MethodName) jdk_67_method_42_code (1 : Nat) (Option.some (Jvm.ClassFile.FieldType.object "java/lang/String"))).before args0 about1 = true := code_word (m := ⟨11, 3⟩) (meth := k11m3) (c := k11c3) (by decide +kernel) rfl rfl rfl (by decide +kernel)
set_option maxRecDepth 65536 in
theorem w_c15 : (Jvm.Cond.code ({ cls := "java/lang/String", name := "<init>", desc := "(Ljava/lang/StringBuilder;)V" } : Jvm.MethodName) jdk_42_method_53_code (2 : Nat) (Option.none : Option Jvm.ClassFile.FieldType)).before args0 about1 = true := code_word (m := ⟨7, 2⟩) (meth := k7m2) (c := k7c2) (by decide +kernel) rfl rfl rfl (by decide +kernel)
set_option maxRecDepth 65536 in
theorem w_c16 : (Jvm.Cond.code ({ cls := "java/lang/String", name := "<init>", desc := "(Ljava/lang/AbstractStringBuilder;Ljava/lang/Void;)V" } : Jvm.MethodName) jdk_42_method_150_code (5 : Nat) (Option.none : Option Jvm.ClassFile.FieldType)).before args0 about1 = true := code_word (m := ⟨7, 6⟩) (meth := k7m6) (c := k7c6) (by decide +kernel) rfl rfl rfl (by decide +kernel)
set_option maxRecDepth 65536 in
theorem w_c17 : (Jvm.Cond.code ({ cls := "java/lang/AbstractStringBuilder", name := "getValue", desc := "()[B" } : Jvm.MethodName) jdk_68_method_64_code (1 : Nat) (Option.some (Jvm.ClassFile.FieldType.array Jvm.ClassFile.FieldType.byte))).before args0 about1 = true := code_word (m := ⟨10, 6⟩) (meth := k10m6) (c := k10c6) (by decide +kernel) rfl rfl rfl (by decide +kernel)
set_option maxRecDepth 65536 in
theorem w_c18 : (Jvm.Cond.code ({ cls := "java/lang/StringBuilder", name := "length", desc := "()I" } : Jvm.MethodName) jdk_67_method_93_code (1 : Nat) (Option.some Jvm.ClassFile.FieldType.int)).before args0 about1 = true := code_word (m := ⟨11, 4⟩) (meth := k11m4) (c := k11c4) (by decide +kernel) rfl rfl rfl (by decide +kernel)
set_option maxRecDepth 65536 in
theorem w_c19 : (Jvm.Cond.code ({ cls := "java/lang/AbstractStringBuilder", name := "length", desc := "()I" } : Jvm.MethodName) jdk_68_method_6_code (1 : Nat) (Option.some Jvm.ClassFile.FieldType.int)).before args0 about1 = true := code_word (m := ⟨10, 2⟩) (meth := k10m2) (c := k10c2) (by decide +kernel) rfl rfl rfl (by decide +kernel)
set_option maxRecDepth 65536 in
theorem w_c20 : (Jvm.Cond.code ({ cls := "java/util/Arrays", name := "copyOfRange", desc := "([BII)[B" } : Jvm.MethodName) jdk_65_method_132_code (3 : Nat) (Option.some (Jvm.ClassFile.FieldType.array Jvm.ClassFile.FieldType.byte))).before args0 about1 = true := code_word (m := ⟨13, 3⟩) (meth := k13m3) (c := k13c3) (by decide +kernel) rfl rfl rfl (by decide +kernel)
set_option maxRecDepth 65536 in
theorem w_c21 : (Jvm.Cond.code ({ cls := "java/lang/String", name := "charAt", desc := "(I)C" } : Jvm.MethodName) jdk_42_method_56_code (2 : Nat) (Option.some Jvm.ClassFile.FieldType.char)).before args0 about1 = true := code_word (m := ⟨7, 4⟩) (meth := k7m4) (c := k7c4) (by decide +kernel) rfl rfl rfl (by decide +kernel)
set_option maxRecDepth 65536 in
theorem w_c22 : (Jvm.Cond.code ({ cls := "java/lang/String", name := "isLatin1", desc := "()Z" } : Jvm.MethodName) jdk_42_method_154_code (1 : Nat) (Option.some Jvm.ClassFile.FieldType.boolean)).before args0 about1 = true := code_word (m := ⟨7, 8⟩) (meth := k7m8) (c := k7c8) (by decide +kernel) rfl rfl rfl (by decide +kernel)
set_option maxRecDepth 65536 in
theorem w_c23 : (Jvm.Cond.code ({ cls := "java/lang/StringLatin1", name := "charAt", desc := "([BI)C" } : Jvm.MethodName) jdk_43_method_2_code (2 : Nat) (Option.some Jvm.ClassFile.FieldType.char)).before args0 about1 = true := code_word (m := ⟨12, 1⟩) (meth := k12m1) (c := k12c1) (by decide +kernel) rfl rfl rfl (by decide +kernel)
set_option maxRecDepth 65536 in
theorem w_c24 : (Jvm.Cond.code ({ cls := "java/lang/String", name := "checkIndex", desc := "(II)V" } : Jvm.MethodName) jdk_42_method_155_code (2 : Nat) (Option.none : Option Jvm.ClassFile.FieldType)).before args0 about1 = true := code_word (m := ⟨7, 9⟩) (meth := k7m9) (c := k7c9) (by decide +kernel) rfl rfl rfl (by decide +kernel)
set_option maxRecDepth 65536 in
theorem w_c25 : (Jvm.Cond.code ({ cls := "jdk/internal/util/Preconditions", name := "checkIndex", desc := "(IILjava/util/function/BiFunction;)I" } : Jvm.MethodName) jdk_41_method_11_code (3 : Nat) (Option.some Jvm.ClassFile.FieldType.int)).before args0 about1 = true := code_word (m := ⟨15, 1⟩) (meth := k15m1) (c := k15c1) (by decide +kernel) rfl rfl rfl (by decide +kernel)
set_option maxRecDepth 65536 in
theorem w_c26 : (Jvm.Cond.code ({ cls := "java/lang/StringUTF16", name := "compress", desc := "([CII)[B" } : Jvm.MethodName) jdk_52_method_16_code (6 : Nat) (Option.some (Jvm.ClassFile.FieldType.array Jvm.ClassFile.FieldType.byte))).before args0 about1 = true := code_word (m := ⟨16, 2⟩) (meth := k16m2) (c := k16c2) (by decide +kernel) rfl rfl rfl (by decide +kernel)
set_option maxRecDepth 65536 in
theorem w_c27 : (Jvm.Cond.code ({ cls := "java/lang/StringUTF16", name := "compress", desc := "([CI[BII)I" } : Jvm.MethodName) jdk_52_method_21_code (7 : Nat) (Option.some Jvm.ClassFile.FieldType.int)).before args0 about1 = true := code_word (m := ⟨16, 3⟩) (meth := k16m3) (c := k16c3) (by decide +kernel) rfl rfl rfl (by decide +kernel)
set_option maxRecDepth 65536 in
theorem w_c28 : (Jvm.Cond.code ({ cls := "java/lang/StringUTF16", name := "coderFromArrayLen", desc := "([BI)B" } : Jvm.MethodName) jdk_52_method_15_code (2 : Nat) (Option.some Jvm.ClassFile.FieldType.byte)).before args0 about1 = true := code_word (m := ⟨16, 1⟩) (meth := k16m1) (c := k16c1) (by decide +kernel) rfl rfl rfl (by decide +kernel)
set_option maxRecDepth 65536 in
theorem w_c29 : (Jvm.Cond.code ({ cls := "com/example/stack_check_trimmer/stackchecktrimmer/io/LineTokenizerQuotePinLaw", name := "special", desc := "(C)Z" } : Jvm.MethodName) method_2_code (1 : Nat) (Option.some Jvm.ClassFile.FieldType.boolean)).before args0 about1 = true := code_word (m := ⟨1, 1⟩) (meth := k1m1) (c := k1c1) (by decide +kernel) rfl rfl rfl (by decide +kernel)
set_option maxRecDepth 65536 in
theorem w_c30 : (Jvm.Cond.code ({ cls := "com/example/stack_check_trimmer/stackchecktrimmer/io/LineTokenizerQuotePinLaw", name := "step", desc := "(Ljava/lang/String;IC)I" } : Jvm.MethodName) method_3_code (4 : Nat) (Option.some Jvm.ClassFile.FieldType.int)).before args0 about1 = true := code_word (m := ⟨1, 2⟩) (meth := k1m2) (c := k1c2) (by decide +kernel) rfl rfl rfl (by decide +kernel)
set_option maxRecDepth 65536 in
theorem w_c31 : (Jvm.Cond.code ({ cls := "java/lang/AbstractStringBuilder", name := "newCapacity", desc := "(I)I" } : Jvm.MethodName) jdk_68_method_10_code (6 : Nat) (Option.some Jvm.ClassFile.FieldType.int)).before args0 about1 = true := code_word (m := ⟨10, 4⟩) (meth := k10m4) (c := k10c4) (by decide +kernel) rfl rfl rfl (by decide +kernel)
set_option maxRecDepth 65536 in
theorem w_c32 : (Jvm.Cond.code ({ cls := "jdk/internal/util/ArraysSupport", name := "newLength", desc := "(III)I" } : Jvm.MethodName) jdk_48_method_27_code (4 : Nat) (Option.some Jvm.ClassFile.FieldType.int)).before args0 about1 = true := code_word (m := ⟨17, 1⟩) (meth := k17m1) (c := k17c1) (by decide +kernel) rfl rfl rfl (by decide +kernel)
set_option maxRecDepth 65536 in
theorem w_c33 : (Jvm.Cond.code ({ cls := "java/lang/Math", name := "max", desc := "(II)I" } : Jvm.MethodName) jdk_29_method_65_code (2 : Nat) (Option.some Jvm.ClassFile.FieldType.int)).before args0 about1 = true := code_word (m := ⟨18, 1⟩) (meth := k18m1) (c := k18c1) (by decide +kernel) rfl rfl rfl (by decide +kernel)
set_option maxRecDepth 65536 in
theorem w_c34 : (Jvm.Cond.code ({ cls := "java/util/Arrays", name := "copyOf", desc := "([BI)[B" } : Jvm.MethodName) jdk_65_method_121_code (3 : Nat) (Option.some (Jvm.ClassFile.FieldType.array Jvm.ClassFile.FieldType.byte))).before args0 about1 = true := code_word (m := ⟨13, 1⟩) (meth := k13m1) (c := k13c1) (by decide +kernel) rfl rfl rfl (by decide +kernel)
set_option maxRecDepth 65536 in
theorem w_c35 : (Jvm.Cond.code ({ cls := "java/lang/Math", name := "min", desc := "(II)I" } : Jvm.MethodName) jdk_29_method_69_code (2 : Nat) (Option.some Jvm.ClassFile.FieldType.int)).before args0 about1 = true := code_word (m := ⟨18, 2⟩) (meth := k18m2) (c := k18c2) (by decide +kernel) rfl rfl rfl (by decide +kernel)
set_option maxRecDepth 65536 in
theorem w_c36 : (Jvm.Cond.code ({ cls := "java/util/Arrays", name := "copyOfRangeByte", desc := "([BII)[B" } : Jvm.MethodName) jdk_65_method_133_code (5 : Nat) (Option.some (Jvm.ClassFile.FieldType.array Jvm.ClassFile.FieldType.byte))).before args0 about1 = true := code_word (m := ⟨13, 4⟩) (meth := k13m4) (c := k13c4) (by decide +kernel) rfl rfl rfl (by decide +kernel)
set_option maxRecDepth 65536 in
theorem w_c37 : (Jvm.Cond.code ({ cls := "java/util/Arrays", name := "checkLength", desc := "(II)V" } : Jvm.MethodName) jdk_65_method_131_code (2 : Nat) (Option.none : Option Jvm.ClassFile.FieldType)).before args0 about1 = true := code_word (m := ⟨13, 2⟩) (meth := k13m2) (c := k13c2) (by decide +kernel) rfl rfl rfl (by decide +kernel)
def codes1 : List Jvm.Cond := [Jvm.Cond.code x code maxLocals ret, Jvm.Cond.code ({ cls := "java/lang/String", name := "<init>", desc := "([C)V" } : Jvm.MethodName) jdk_42_method_3_code (2 : Nat) (Option.none : Option Jvm.ClassFile.FieldType), Jvm.Cond.code ({ cls := "java/lang/String", name := "<init>", desc := "([CIILjava/lang/Void;)V" } : Jvm.MethodName) jdk_42_method_149_code (6 : Nat) (Option.none : Option Jvm.ClassFile.FieldType), Jvm.Cond.code ({ cls := "java/lang/Object", name := "<init>", desc := "()V" } : Jvm.MethodName) object_method_1_code (1 : Nat) (Option.none : Option Jvm.ClassFile.FieldType), Jvm.Cond.code ({ cls := "com/example/stack_check_trimmer/stackchecktrimmer/io/LineTokenizer", name := "quote", desc := "(Ljava/lang/String;)Ljava/lang/String;" } : Jvm.MethodName) prog_16_method_4_code (4 : Nat) (Option.some (Jvm.ClassFile.FieldType.object "java/lang/String")), Jvm.Cond.code ({ cls := "java/lang/String", name := "length", desc := "()I" } : Jvm.MethodName) jdk_42_method_54_code (1 : Nat) (Option.some Jvm.ClassFile.FieldType.int), Jvm.Cond.code ({ cls := "java/lang/String", name := "coder", desc := "()B" } : Jvm.MethodName) jdk_42_method_152_code (1 : Nat) (Option.some Jvm.ClassFile.FieldType.byte), Jvm.Cond.code ({ cls := "java/lang/StringBuilder", name := "<init>", desc := "(I)V" } : Jvm.MethodName) jdk_67_method_2_code (2 : Nat) (Option.none : Option Jvm.ClassFile.FieldType), Jvm.Cond.code ({ cls := "java/lang/AbstractStringBuilder", name := "<init>", desc := "(I)V" } : Jvm.MethodName) jdk_68_method_2_code (2 : Nat) (Option.none : Option Jvm.ClassFile.FieldType), Jvm.Cond.code ({ cls := "java/lang/StringBuilder", name := "append", desc := "(C)Ljava/lang/StringBuilder;" } : Jvm.MethodName) jdk_67_method_14_code (2 : Nat) (Option.some (Jvm.ClassFile.FieldType.object "java/lang/StringBuilder")), Jvm.Cond.code ({ cls := "java/lang/AbstractStringBuilder", name := "append", desc := "(C)Ljava/lang/AbstractStringBuilder;" } : Jvm.MethodName) jdk_68_method_31_code (2 : Nat) (Option.some (Jvm.ClassFile.FieldType.object "java/lang/AbstractStringBuilder")), Jvm.Cond.code ({ cls := "java/lang/AbstractStringBuilder", name := "ensureCapacityInternal", desc := "(I)V" } : Jvm.MethodName) jdk_68_method_9_code (3 : Nat) (Option.none : Option Jvm.ClassFile.FieldType), Jvm.Cond.code ({ cls := "java/lang/AbstractStringBuilder", name := "isLatin1", desc := "()Z" } : Jvm.MethodName) jdk_68_method_68_code (1 : Nat) (Option.some Jvm.ClassFile.FieldType.boolean), Jvm.Cond.code ({ cls := "java/lang/StringLatin1", name := "canEncode", desc := "(C)Z" } : Jvm.MethodName) jdk_43_method_3_code (1 : Nat) (Option.some Jvm.ClassFile.FieldType.boolean), Jvm.Cond.code ({ cls := "java/lang/StringBuilder", name := "toString", desc := "()Ljava/lang/String;" } : Jvm.MethodName) jdk_67_method_42_code (1 : Nat) (Option.some (Jvm.ClassFile.FieldType.object "java/lang/String")), Jvm.Cond.code ({ cls := "java/lang/String", name := "<init>", desc := "(Ljava/lang/StringBuilder;)V" } : Jvm.MethodName) jdk_42_method_53_code (2 : Nat) (Option.none : Option Jvm.ClassFile.FieldType), Jvm.Cond.code ({ cls := "java/lang/String", name := "<init>", desc := "(Ljava/lang/AbstractStringBuilder;Ljava/lang/Void;)V" } : Jvm.MethodName) jdk_42_method_150_code (5 : Nat) (Option.none : Option Jvm.ClassFile.FieldType), Jvm.Cond.code ({ cls := "java/lang/AbstractStringBuilder", name := "getValue", desc := "()[B" } : Jvm.MethodName) jdk_68_method_64_code (1 : Nat) (Option.some (Jvm.ClassFile.FieldType.array Jvm.ClassFile.FieldType.byte)), Jvm.Cond.code ({ cls := "java/lang/StringBuilder", name := "length", desc := "()I" } : Jvm.MethodName) jdk_67_method_93_code (1 : Nat) (Option.some Jvm.ClassFile.FieldType.int), Jvm.Cond.code ({ cls := "java/lang/AbstractStringBuilder", name := "length", desc := "()I" } : Jvm.MethodName) jdk_68_method_6_code (1 : Nat) (Option.some Jvm.ClassFile.FieldType.int), Jvm.Cond.code ({ cls := "java/util/Arrays", name := "copyOfRange", desc := "([BII)[B" } : Jvm.MethodName) jdk_65_method_132_code (3 : Nat) (Option.some (Jvm.ClassFile.FieldType.array Jvm.ClassFile.FieldType.byte)), Jvm.Cond.code ({ cls := "java/lang/String", name := "charAt", desc := "(I)C" } : Jvm.MethodName) jdk_42_method_56_code (2 : Nat) (Option.some Jvm.ClassFile.FieldType.char), Jvm.Cond.code ({ cls := "java/lang/String", name := "isLatin1", desc := "()Z" } : Jvm.MethodName) jdk_42_method_154_code (1 : Nat) (Option.some Jvm.ClassFile.FieldType.boolean), Jvm.Cond.code ({ cls := "java/lang/StringLatin1", name := "charAt", desc := "([BI)C" } : Jvm.MethodName) jdk_43_method_2_code (2 : Nat) (Option.some Jvm.ClassFile.FieldType.char), Jvm.Cond.code ({ cls := "java/lang/String", name := "checkIndex", desc := "(II)V" } : Jvm.MethodName) jdk_42_method_155_code (2 : Nat) (Option.none : Option Jvm.ClassFile.FieldType), Jvm.Cond.code ({ cls := "jdk/internal/util/Preconditions", name := "checkIndex", desc := "(IILjava/util/function/BiFunction;)I" } : Jvm.MethodName) jdk_41_method_11_code (3 : Nat) (Option.some Jvm.ClassFile.FieldType.int), Jvm.Cond.code ({ cls := "java/lang/StringUTF16", name := "compress", desc := "([CII)[B" } : Jvm.MethodName) jdk_52_method_16_code (6 : Nat) (Option.some (Jvm.ClassFile.FieldType.array Jvm.ClassFile.FieldType.byte)), Jvm.Cond.code ({ cls := "java/lang/StringUTF16", name := "compress", desc := "([CI[BII)I" } : Jvm.MethodName) jdk_52_method_21_code (7 : Nat) (Option.some Jvm.ClassFile.FieldType.int), Jvm.Cond.code ({ cls := "java/lang/StringUTF16", name := "coderFromArrayLen", desc := "([BI)B" } : Jvm.MethodName) jdk_52_method_15_code (2 : Nat) (Option.some Jvm.ClassFile.FieldType.byte), Jvm.Cond.code ({ cls := "com/example/stack_check_trimmer/stackchecktrimmer/io/LineTokenizerQuotePinLaw", name := "special", desc := "(C)Z" } : Jvm.MethodName) method_2_code (1 : Nat) (Option.some Jvm.ClassFile.FieldType.boolean), Jvm.Cond.code ({ cls := "com/example/stack_check_trimmer/stackchecktrimmer/io/LineTokenizerQuotePinLaw", name := "step", desc := "(Ljava/lang/String;IC)I" } : Jvm.MethodName) method_3_code (4 : Nat) (Option.some Jvm.ClassFile.FieldType.int), Jvm.Cond.code ({ cls := "java/lang/AbstractStringBuilder", name := "newCapacity", desc := "(I)I" } : Jvm.MethodName) jdk_68_method_10_code (6 : Nat) (Option.some Jvm.ClassFile.FieldType.int), Jvm.Cond.code ({ cls := "jdk/internal/util/ArraysSupport", name := "newLength", desc := "(III)I" } : Jvm.MethodName) jdk_48_method_27_code (4 : Nat) (Option.some Jvm.ClassFile.FieldType.int), Jvm.Cond.code ({ cls := "java/lang/Math", name := "max", desc := "(II)I" } : Jvm.MethodName) jdk_29_method_65_code (2 : Nat) (Option.some Jvm.ClassFile.FieldType.int), Jvm.Cond.code ({ cls := "java/util/Arrays", name := "copyOf", desc := "([BI)[B" } : Jvm.MethodName) jdk_65_method_121_code (3 : Nat) (Option.some (Jvm.ClassFile.FieldType.array Jvm.ClassFile.FieldType.byte)), Jvm.Cond.code ({ cls := "java/lang/Math", name := "min", desc := "(II)I" } : Jvm.MethodName) jdk_29_method_69_code (2 : Nat) (Option.some Jvm.ClassFile.FieldType.int), Jvm.Cond.code ({ cls := "java/util/Arrays", name := "copyOfRangeByte", desc := "([BII)[B" } : Jvm.MethodName) jdk_65_method_133_code (5 : Nat) (Option.some (Jvm.ClassFile.FieldType.array Jvm.ClassFile.FieldType.byte)), Jvm.Cond.code ({ cls := "java/util/Arrays", name := "checkLength", desc := "(II)V" } : Jvm.MethodName) jdk_65_method_131_code (2 : Nat) (Option.none : Option Jvm.ClassFile.FieldType)]
set_option maxRecDepth 65536 in
theorem codes_eq : words1.filter isCode = codes1 := rfl
theorem w_codes : ∀ c ∈ words1.filter isCode, c.before args0 about1 = true := by
  rw [codes_eq]
  intro c hc
  simp only [codes1, List.mem_cons, List.not_mem_nil, or_false] at hc
  rcases hc with rfl | rfl | rfl | rfl | rfl | rfl | rfl | rfl | rfl | rfl | rfl | rfl | rfl | rfl | rfl | rfl | rfl | rfl | rfl | rfl | rfl | rfl | rfl | rfl | rfl | rfl | rfl | rfl | rfl | rfl | rfl | rfl | rfl | rfl | rfl | rfl | rfl | rfl
  · exact w_c0
  · exact w_c1
  · exact w_c2
  · exact w_c3
  · exact w_c4
  · exact w_c5
  · exact w_c6
  · exact w_c7
  · exact w_c8
  · exact w_c9
  · exact w_c10
  · exact w_c11
  · exact w_c12
  · exact w_c13
  · exact w_c14
  · exact w_c15
  · exact w_c16
  · exact w_c17
  · exact w_c18
  · exact w_c19
  · exact w_c20
  · exact w_c21
  · exact w_c22
  · exact w_c23
  · exact w_c24
  · exact w_c25
  · exact w_c26
  · exact w_c27
  · exact w_c28
  · exact w_c29
  · exact w_c30
  · exact w_c31
  · exact w_c32
  · exact w_c33
  · exact w_c34
  · exact w_c35
  · exact w_c36
  · exact w_c37
set_option maxRecDepth 65536 in
theorem w_t1 : (words1.take 24).all (fun c => isCode c || c.before args0 about1) = true := by decide +kernel
set_option maxRecDepth 65536 in
theorem w_t2 : ((words1.drop 24).take 24).all (fun c => isCode c || c.before args0 about1) = true := by decide +kernel
set_option maxRecDepth 65536 in
theorem w_t3 : (((words1.drop 24).drop 24).take 24).all (fun c => isCode c || c.before args0 about1) = true := by decide +kernel
set_option maxRecDepth 65536 in
theorem w_t4 : ((((words1.drop 24).drop 24).drop 24).take 24).all (fun c => isCode c || c.before args0 about1) = true := by decide +kernel
set_option maxRecDepth 65536 in
theorem w_t5 : (((((words1.drop 24).drop 24).drop 24).drop 24).take 24).all (fun c => isCode c || c.before args0 about1) = true := by decide +kernel
set_option maxRecDepth 65536 in
theorem w_t6 : ((((((words1.drop 24).drop 24).drop 24).drop 24).drop 24).take 24).all (fun c => isCode c || c.before args0 about1) = true := by decide +kernel
set_option maxRecDepth 65536 in
theorem w_t7 : (((((((words1.drop 24).drop 24).drop 24).drop 24).drop 24).drop 24).take 24).all (fun c => isCode c || c.before args0 about1) = true := by decide +kernel
set_option maxRecDepth 65536 in
theorem w_t8 : (((((((words1.drop 24).drop 24).drop 24).drop 24).drop 24).drop 24).drop 24).all (fun c => isCode c || c.before args0 about1) = true := by decide +kernel
theorem w_tables : (allAtoms (Jvm.Cond.code x code maxLocals ret :: tables_1)).before args0 about1 = true := by
  rw [allAtoms_all]
  show words1.all (fun c => c.before args0 about1) = true
  refine all_split ?_ w_codes
  rw [← List.take_append_drop 24 words1, List.all_append, w_t1, ← List.take_append_drop 24 (words1.drop 24), List.all_append, w_t2, ← List.take_append_drop 24 ((words1.drop 24).drop 24), List.all_append, w_t3, ← List.take_append_drop 24 (((words1.drop 24).drop 24).drop 24), List.all_append, w_t4, ← List.take_append_drop 24 ((((words1.drop 24).drop 24).drop 24).drop 24), List.all_append, w_t5, ← List.take_append_drop 24 (((((words1.drop 24).drop 24).drop 24).drop 24).drop 24), List.all_append, w_t6, ← List.take_append_drop 24 ((((((words1.drop 24).drop 24).drop 24).drop 24).drop 24).drop 24), List.all_append, w_t7, w_t8]
  rfl
set_option maxRecDepth 65536 in
theorem w_rest : rest_1_c.before args0 about1 = true := by decide +kernel
set_option maxRecDepth 65536 in
theorem w_case : (Jvm.Cond.and given_1 narrow_1).before args0 about1 = true := by decide +kernel
set_option maxRecDepth 65536 in
theorem w_consts : constsHeld consts_1 about1 := Jvm.Lit.constsHeldB_iff.mp (by decide +kernel)
theorem w_applies : (headSpec (Jvm.Cond.code x code maxLocals ret :: tables_1) room_1).applies x e0.platform about1 = true :=
  (Spec.applies_iff w_frames).mpr ⟨w_running, w_runnable, w_alone, w_named, w_hears, w_ripe, w_room, w_tables⟩
theorem atStart : AtStart classFile x code maxLocals ret World_1 tables_1 room_1 Calls_1 rest_1 Pre_1 launch0 p0 e0 about1 theMethod args0 below0 :=
  ⟨lists_1, trivial, launch0.admits_env _ _ _, launch0.least_env, fairChoices_fair.cas, fairChoices_fair.clock, w_frames, w_args, w_heap, w_applies, ⟨w_consts, trivial⟩, w_rest, w_case⟩
end start1
theorem witness_1 : WitnessClaimed_1 := ⟨start1.p0, start1.e0, start1.about1, start1.theMethod, start1.args0, start1.below0, start1.atStart⟩
end Jvm.Pilot.@@N@@
