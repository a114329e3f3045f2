import JvmDerived
import JvmDerived.Pilot.@@N@@Statement
import JvmDerived.Pilot.@@N@@Code
set_option linter.unusedVariables false
set_option linter.unusedSimpArgs false
@@BLOCK:NumsL.lean.txt@@
/- laws to paste: Road.backV, Road.eqW, Road.codOf, Road.chN (cut by pick.py; bodies as the Statement names them) -/
namespace Jvm.Pilot.@@N@@
namespace StrChars
open Jvm Sem ClassFile Op Lib Jvm.Stand Jvm.Free.XT Jvm.Free.ALB Jvm.Free.JM Jvm.Free
open Jvm.Lib.Cold (StaticIs)
/-- a char array whose places are chars -/
def Ch (a : Addr) (A : Cell) (U : State) : Prop := Arr .char a A U ∧ Typed .char A
theorem Ch.mv {a : Addr} {A : Cell} {U U' : State} (h : Ch a A U) (hal : U.vm.Alike U'.vm) (hh : U'.heap = U.heap) : Ch a A U' := ⟨h.1.mv hal hh, h.2⟩
theorem Ch.keep {a : Addr} {A : Cell} {U U' : State} (h : Ch a A U) (hal : U.vm.Alike U'.vm) (hk : U'.heap[a]? = some A) : Ch a A U' := ⟨h.1.keep hal hk, h.2⟩
/-- what place i of a char[]'s cell holds -/
def cv (A : Cell) (i : Nat) : Int32 := match A.slots[i]? with | some (.int x) => x | _ => 0
theorem Ch.get {a : Addr} {A : Cell} {U : State} (h : Ch a A U) {i : Nat} (hi : i < A.slots.size) : A.slots[i]? = some (.int (cv A i)) := by
  have e := Array.getElem?_eq_getElem hi
  have f := h.2 i _ e
  unfold cv; rw [e]
  generalize A.slots[i] = v at f
  cases v <;> simp [fits] at f ⊢
/-- the byte that i2b leaves of a char -/
def lo8 (x : Int32) : Int32 := x.toInt8.toInt32
theorem fits_lo8 (y : Int32) : fits .byte (.int (lo8 y)) = true := by
  have h1 := y.toInt8.le_toInt
  have h2 := y.toInt8.toInt_lt
  simp only [lo8, fits, Bool.and_eq_true, decide_eq_true_eq, Int32.le_iff_toInt_le, Int8.toInt_toInt32, show (-128 : Int32).toInt = -128 from by decide, show (127 : Int32).toInt = 127 from by decide]
  omega
/-- A' is A but that each place j of lo .. hi - 1 holds f j -/
def Laid (A A' : Cell) (lo hi : Nat) (f : Nat → Value) : Prop := A'.cls = A.cls ∧ A'.vm = A.vm ∧ A'.slots.size = A.slots.size ∧ ∀ i, A'.slots[i]? = if lo ≤ i ∧ i < hi then some (f i) else A.slots[i]?
theorem Laid.zero (A : Cell) (lo : Nat) (f : Nat → Value) : Laid A A lo (lo + 0) f := ⟨rfl, rfl, rfl, fun i => by rw [if_neg (by omega)]⟩
theorem Laid.step {A Ak : Cell} {lo k : Nat} {f : Nat → Value} {v : Value} (h : Laid A Ak lo k f) (hlo : lo ≤ k) (hk : k < Ak.slots.size) (hv : v = f k) : Laid A (Ak.setSlot k v) lo (k + 1) f := by
  refine ⟨h.1, h.2.1, by simpa [Cell.setSlot] using h.2.2.1, fun i => ?_⟩
  by_cases e : k = i
  · subst e; rw [Cell.slots_setSlot_self v hk, if_pos (by omega), hv]
  · rw [Cell.slots_setSlot_ne v e, h.2.2.2 i]
    by_cases q : lo ≤ i ∧ i < k
    · rw [if_pos q, if_pos (by omega)]
    · rw [if_neg q, if_neg (by omega)]
def U16 : String := "java/lang/StringUTF16"
namespace Cmp5
def yN : MethodName := ⟨"java/lang/StringUTF16", "compress", "([CI[BII)I"⟩
abbrev yB : ByteArray := jdk_52_method_21_code
theorem d0 : decode yB 0 = .ok (.iconst 0, 1) := by decide +kernel
theorem d1 : decode yB 1 = .ok (.istore 5, 2) := by decide +kernel
theorem d3 : decode yB 3 = .ok (.iload 5, 2) := by decide +kernel
theorem d5 : decode yB 5 = .ok (.iload 4, 2) := by decide +kernel
theorem d7 : decode yB 7 = .ok (.if_icmp (.ge) 37, 3) := by decide +kernel
theorem d10 : decode yB 10 = .ok (.aload_n 0, 1) := by decide +kernel
theorem d11 : decode yB 11 = .ok (.iload_n 1, 1) := by decide +kernel
theorem d12 : decode yB 12 = .ok (.caload, 1) := by decide +kernel
theorem d13 : decode yB 13 = .ok (.istore 6, 2) := by decide +kernel
theorem d15 : decode yB 15 = .ok (.iload 6, 2) := by decide +kernel
theorem d17 : decode yB 17 = .ok (.sipush 255, 3) := by decide +kernel
theorem d20 : decode yB 20 = .ok (.if_icmp (.le) 6, 3) := by decide +kernel
theorem d26 : decode yB 26 = .ok (.aload_n 2, 1) := by decide +kernel
theorem d27 : decode yB 27 = .ok (.iload_n 3, 1) := by decide +kernel
theorem d28 : decode yB 28 = .ok (.iload 6, 2) := by decide +kernel
theorem d30 : decode yB 30 = .ok (.i2b, 1) := by decide +kernel
theorem d31 : decode yB 31 = .ok (.bastore, 1) := by decide +kernel
theorem d32 : decode yB 32 = .ok (.iinc 1 1, 3) := by decide +kernel
theorem d35 : decode yB 35 = .ok (.iinc 3 1, 3) := by decide +kernel
theorem d38 : decode yB 38 = .ok (.iinc 5 1, 3) := by decide +kernel
theorem d41 : decode yB 41 = .ok (.goto (-38), 3) := by decide +kernel
theorem d44 : decode yB 44 = .ok (.iload 4, 2) := by decide +kernel
theorem d46 : decode yB 46 = .ok (.ireturn, 1) := by decide +kernel
def site : List Cond := []
def tab : Cond := tabOf yN yB 7 (some .int) site
def P (b : Addr) (A : Cell) (d : Addr) (B : Cell) (o q len : Nat) (args : Array Value) (s : State) : Prop := args = #[.ref b, .int (Int32.ofNat o), .ref d, .int (Int32.ofNat q), .int (Int32.ofNat len)] ∧ Ch b A s ∧ Arr .byte d B s ∧ b ≠ d ∧ o + len ≤ A.slots.size ∧ q + len ≤ B.slots.size ∧ ∀ i, i < len → ¬ 255 < cv A (o + i)
def E (b : Addr) (A : Cell) (d : Addr) (B : Cell) (o q len : Nat) (r : Option Value) (s u : State) : Prop := r = some (.int (Int32.ofNat len)) ∧ ∃ B', Put d B' s u ∧ Laid B B' q (q + len) (fun j => Value.int (lo8 (cv A (o + (j - q)))))
/-- no char of the range above 255: len; the places written hold each char's low byte -/
theorem law (l : Launch) (b : Addr) (A : Cell) (d : Addr) (B : Cell) (o q len : Nat) : Law l yN 5 5 0 0 yB 7 (some .int) site (P b A d B o q len) (E b A d B o q len) (copyLocs d q len) 0 0 := by
  refine Law.of_walk (plainFor_of_name (by decide +kernel)) (by decide +kernel) (by decide +kernel) (by decide) (fun _ _ h => by rw [h.1]; rfl) (fun _ U U' hal hh h => ⟨h.1, h.2.1.mv hal hh, h.2.2.1.mv hal hh, h.2.2.2⟩) (fun r U U' V V' h1 hal h2 h => ⟨h.1, h.2.elim fun B' q => ⟨B', q.1.mv h1 h2, q.2⟩⟩) ?_
  intro p e s m args below meth c s₁ X0 hexec hbytes hml hret hlk hnm hown hh0 W hP
  obtain ⟨rfl, hA, hB, hne, l1, l2, hp⟩ := hP
  have c1 : Steps p.tables e below (s₁.setTop (entryFrame m #[.ref b, .int (Int32.ofNat o), .ref d, .int (Int32.ofNat q), .int (Int32.ofNat len)] 7)) (s₁.setTop (mkF m 0 #[.val (.ref b), .val (.int (Int32.ofNat o)), .val (.ref d), .val (.int (Int32.ofNat q)), .val (.int (Int32.ofNat len)), .unset, .unset] [])) := entry rfl
  have hA0 := hA.1.mv X0.warmed.alike hh0
  have hB0 := hB.mv X0.warmed.alike hh0
  have a31 := hA.1.2.2.2
  have c2 : Steps p.tables e below (s₁.setTop (entryFrame m #[.ref b, .int (Int32.ofNat o), .ref d, .int (Int32.ofNat q), .int (Int32.ofNat len)] 7)) (s₁.setTop (mkF m 3 #[.val (.ref b), .val (.int (Int32.ofNat o)), .val (.ref d), .val (.int (Int32.ofNat q)), .val (.int (Int32.ofNat len)), .val (.int 0), .unset] [])) := c1.trans (by
    refine iconstV X0.here hexec rfl 0 (hb hbytes d0) (by decide) ?_
    refine XS.istore X0.here hexec rfl (hb hbytes d1) rfl rfl ?_
    exact Steps.refl _)
  have loop : ∀ (r i : Nat), i + r = len → ∀ (z : Slot), (z = .unset ∨ ∃ w, z = .val w ∧ w.category = 1) → ∀ (Tl : State) (Bk : Cell), Stand p l e { frames := 0, locals := 0, cells := 0, slots := 0 } s m #[.ref b, .int (Int32.ofNat o), .ref d, .int (Int32.ofNat q), .int (Int32.ofNat len)] below meth c Tl ([] ++ copyLocs d q i) 0 0 → Put d Bk s₁ Tl → Laid B Bk q (q + i) (fun j => Value.int (lo8 (cv A (o + (j - q))))) →
      Steps p.tables e below (s₁.setTop (entryFrame m #[.ref b, .int (Int32.ofNat o), .ref d, .int (Int32.ofNat q), .int (Int32.ofNat len)] 7)) (Tl.setTop (mkF m 3 #[.val (.ref b), .val (.int (Int32.ofNat (o + i))), .val (.ref d), .val (.int (Int32.ofNat (q + i))), .val (.int (Int32.ofNat len)), .val (.int (Int32.ofNat i)), z] [])) → ∃ (T' : State) (B' : Cell) (z' : Slot), Stand p l e { frames := 0, locals := 0, cells := 0, slots := 0 } s m #[.ref b, .int (Int32.ofNat o), .ref d, .int (Int32.ofNat q), .int (Int32.ofNat len)] below meth c T' ([] ++ copyLocs d q len) 0 0 ∧ Put d B' s₁ T' ∧ Laid B B' q (q + len) (fun j => Value.int (lo8 (cv A (o + (j - q))))) ∧
      Steps p.tables e below (s₁.setTop (entryFrame m #[.ref b, .int (Int32.ofNat o), .ref d, .int (Int32.ofNat q), .int (Int32.ofNat len)] 7)) (T'.setTop (mkF m 3 #[.val (.ref b), .val (.int (Int32.ofNat (o + len))), .val (.ref d), .val (.int (Int32.ofNat (q + len))), .val (.int (Int32.ofNat len)), .val (.int (Int32.ofNat len)), z'] [])) := by
    intro r
    induction r with
    | zero =>
      intro i hi z hz Tl Bk Xl pl fl cl
      have hil : i = len := by omega
      rw [hil] at Xl fl cl
      exact ⟨Tl, Bk, z, Xl, pl, fl, cl⟩
    | succ r ih =>
      intro i hi z hz Tl Bk Xl pl fl cl
      have all := X0.warmed.alike.symm.trans Xl.warmed.alike
      have hAl := hA0.keep all (pl.other hne hA0.1)
      have hBk := hB0.like all pl.1 fl.1 fl.2.1 fl.2.2.1
      have hlt : q + i < Bk.slots.size := by rw [fl.2.2.1]; omega
      have c3 : Steps p.tables e below (s₁.setTop (entryFrame m #[.ref b, .int (Int32.ofNat o), .ref d, .int (Int32.ofNat q), .int (Int32.ofNat len)] 7)) (Tl.setTop (mkF m 12 #[.val (.ref b), .val (.int (Int32.ofNat (o + i))), .val (.ref d), .val (.int (Int32.ofNat (q + i))), .val (.int (Int32.ofNat len)), .val (.int (Int32.ofNat i)), z] [.int (Int32.ofNat (o + i)), .ref b])) := cl.trans (by
        refine XS.iload Xl.here hexec rfl (hb hbytes d3) rfl ?_
        refine XS.iload Xl.here hexec rfl (hb hbytes d5) rfl ?_
        refine XS.icmpNo Xl.here hexec rfl (hb hbytes d7) rfl (ii_ge_f (lt32 (by omega) (by omega))) ?_
        refine XS.aloadN Xl.here hexec rfl (hb hbytes d10) rfl rfl ?_
        refine XS.iloadN Xl.here hexec rfl (hb hbytes d11) rfl ?_
        exact Steps.refl _)
      have c4 : Steps p.tables e below (s₁.setTop (entryFrame m #[.ref b, .int (Int32.ofNat o), .ref d, .int (Int32.ofNat q), .int (Int32.ofNat len)] 7)) (Tl.setTop (mkF m 13 #[.val (.ref b), .val (.int (Int32.ofNat (o + i))), .val (.ref d), .val (.int (Int32.ofNat (q + i))), .val (.int (Int32.ofNat len)), .val (.int (Int32.ofNat i)), z] [.int (cv A (o + i))])) := c3.trans (by
        refine Xl.aget hexec hAl rfl (hA.get (i := o + i) (by omega)) rfl rfl (hb hbytes d12) ?_
        exact Steps.refl _)
      have c5 : Steps p.tables e below (s₁.setTop (entryFrame m #[.ref b, .int (Int32.ofNat o), .ref d, .int (Int32.ofNat q), .int (Int32.ofNat len)] 7)) (Tl.setTop (mkF m 15 #[.val (.ref b), .val (.int (Int32.ofNat (o + i))), .val (.ref d), .val (.int (Int32.ofNat (q + i))), .val (.int (Int32.ofNat len)), .val (.int (Int32.ofNat i)), .val (.int (cv A (o + i)))] [])) := c4.trans (by
        refine XS.istoreS Xl.here hexec rfl (hb hbytes d13) rfl rfl hz ?_
        exact Steps.refl _)
      have c6 : Steps p.tables e below (s₁.setTop (entryFrame m #[.ref b, .int (Int32.ofNat o), .ref d, .int (Int32.ofNat q), .int (Int32.ofNat len)] 7)) (Tl.setTop (mkF m 31 #[.val (.ref b), .val (.int (Int32.ofNat (o + i))), .val (.ref d), .val (.int (Int32.ofNat (q + i))), .val (.int (Int32.ofNat len)), .val (.int (Int32.ofNat i)), .val (.int (cv A (o + i)))] [.int (lo8 (cv A (o + i))), .int (Int32.ofNat (q + i)), .ref d])) := c5.trans (by
        refine XS.iload Xl.here hexec rfl (hb hbytes d15) rfl ?_
        refine sipushV Xl.here hexec rfl 255 (hb hbytes d17) (by decide) ?_
        refine XS.icmpYes Xl.here hexec rfl (pc0 := 20) rfl (hb hbytes d20) rfl (ii_le_t (hp i (by omega))) (by decide) rfl ?_
        refine XS.aloadN Xl.here hexec rfl (hb hbytes d26) rfl rfl ?_
        refine XS.iloadN Xl.here hexec rfl (hb hbytes d27) rfl ?_
        refine XS.iload Xl.here hexec rfl (hb hbytes d28) rfl ?_
        refine i2b Xl.here hexec rfl (hb hbytes d30) rfl ?_
        exact Steps.refl _)
      obtain ⟨T7, X7, p7, st7⟩ := Xl.aput hexec hBk rfl hlt rfl (fits_lo8 (cv A (o + i))) (g := (mkF m 31 #[.val (.ref b), .val (.int (Int32.ofNat (o + i))), .val (.ref d), .val (.int (Int32.ofNat (q + i))), .val (.int (Int32.ofNat len)), .val (.int (Int32.ofNat i)), .val (.int (cv A (o + i)))] [.int (lo8 (cv A (o + i))), .int (Int32.ofNat (q + i)), .ref d])) rfl (rest := []) rfl (hb hbytes d31)
      have c8 : Steps p.tables e below (s₁.setTop (entryFrame m #[.ref b, .int (Int32.ofNat o), .ref d, .int (Int32.ofNat q), .int (Int32.ofNat len)] 7)) (T7.setTop (mkF m 32 #[.val (.ref b), .val (.int (Int32.ofNat (o + i))), .val (.ref d), .val (.int (Int32.ofNat (q + i))), .val (.int (Int32.ofNat len)), .val (.int (Int32.ofNat i)), .val (.int (cv A (o + i)))] [])) := c6.trans (st7 _ (Steps.refl _))
      have c9 : Steps p.tables e below (s₁.setTop (entryFrame m #[.ref b, .int (Int32.ofNat o), .ref d, .int (Int32.ofNat q), .int (Int32.ofNat len)] 7)) (T7.setTop (mkF m 3 #[.val (.ref b), .val (.int (Int32.ofNat (o + i) + 1)), .val (.ref d), .val (.int (Int32.ofNat (q + i) + 1)), .val (.int (Int32.ofNat len)), .val (.int (Int32.ofNat i + 1)), .val (.int (cv A (o + i)))] [])) := c8.trans (by
        refine iincV X7.here hexec rfl 1 (hb hbytes d32) (by decide) rfl rfl ?_
        refine iincV X7.here hexec rfl 1 (hb hbytes d35) (by decide) rfl rfl ?_
        refine iincV X7.here hexec rfl 1 (hb hbytes d38) (by decide) rfl rfl ?_
        refine XS.goto X7.here hexec rfl (pc0 := 41) rfl (hb hbytes d41) (by decide) rfl ?_
        exact Steps.refl _)
      have c10 : Steps p.tables e below (s₁.setTop (entryFrame m #[.ref b, .int (Int32.ofNat o), .ref d, .int (Int32.ofNat q), .int (Int32.ofNat len)] 7)) (T7.setTop (mkF m 3 #[.val (.ref b), .val (.int (Int32.ofNat (o + (i + 1)))), .val (.ref d), .val (.int (Int32.ofNat (q + (i + 1)))), .val (.int (Int32.ofNat len)), .val (.int (Int32.ofNat (i + 1))), .val (.int (cv A (o + i)))] [])) := by
        have := c9
        rw [succ32, succ32, succ32] at this
        exact this
      exact ih (i + 1) (by omega) _ (Or.inr ⟨_, rfl, rfl⟩) T7 _ (by rw [copyLocs_step, ← List.append_assoc]; exact X7) (pl.trans p7) (fl.step (by omega) hlt (by simp)) c10
  obtain ⟨T9, B9, z9, X9, p9, f9, g9⟩ := loop len 0 (by omega) .unset (Or.inl rfl) s₁ B (by simpa [copyLocs] using X0) ⟨hB0.1, fun _ _ => rfl, rfl⟩ (Laid.zero _ _ _) c2
  have c11 : Steps p.tables e below (s₁.setTop (entryFrame m #[.ref b, .int (Int32.ofNat o), .ref d, .int (Int32.ofNat q), .int (Int32.ofNat len)] 7)) (T9.setTop (mkF m 46 #[.val (.ref b), .val (.int (Int32.ofNat (o + len))), .val (.ref d), .val (.int (Int32.ofNat (q + len))), .val (.int (Int32.ofNat len)), .val (.int (Int32.ofNat len)), z9] [.int (Int32.ofNat len)])) := g9.trans (by
    refine XS.iload X9.here hexec rfl (hb hbytes d3) rfl ?_
    refine XS.iload X9.here hexec rfl (hb hbytes d5) rfl ?_
    refine XS.icmpYes X9.here hexec rfl (pc0 := 7) rfl (hb hbytes d7) rfl (ii_ge_t (nlt32 (by omega) (Nat.le_refl _))) (by decide) rfl ?_
    refine XS.iload X9.here hexec rfl (hb hbytes d44) rfl ?_
    exact Steps.refl _)
  exact ⟨T9, some (.int (Int32.ofNat len)), _, _, _, X9, by simp, rfl, rfl, (fun h => by cases h), ⟨rfl, B9, p9.from hh0, f9⟩, fun fs hl => c11.trans (X9.ireturnOut hexec hret rfl (Or.inl rfl) (hb hbytes d46) hl)⟩
end Cmp5
namespace Cmp3
def yN : MethodName := ⟨"java/lang/StringUTF16", "compress", "([CII)[B"⟩
abbrev yB : ByteArray := jdk_52_method_16_code
theorem d0 : decode yB 0 = .ok (.iload_n 2, 1) := by decide +kernel
theorem d1 : decode yB 1 = .ok (.newarray .byte, 2) := by decide +kernel
theorem d3 : decode yB 3 = .ok (.astore_n 3, 1) := by decide +kernel
theorem d4 : decode yB 4 = .ok (.aload_n 0, 1) := by decide +kernel
theorem d5 : decode yB 5 = .ok (.iload_n 1, 1) := by decide +kernel
theorem d6 : decode yB 6 = .ok (.aload_n 3, 1) := by decide +kernel
theorem d7 : decode yB 7 = .ok (.iconst 0, 1) := by decide +kernel
theorem d8 : decode yB 8 = .ok (.iload_n 2, 1) := by decide +kernel
theorem d9 : decode yB 9 = .ok (.invokestatic 115, 3) := by decide +kernel
theorem d12 : decode yB 12 = .ok (.istore 4, 2) := by decide +kernel
theorem d14 : decode yB 14 = .ok (.iload 4, 2) := by decide +kernel
theorem d16 : decode yB 16 = .ok (.iload_n 2, 1) := by decide +kernel
theorem d17 : decode yB 17 = .ok (.if_icmp (.eq) 40, 3) := by decide +kernel
theorem d57 : decode yB 57 = .ok (.aload_n 3, 1) := by decide +kernel
theorem d58 : decode yB 58 = .ok (.areturn, 1) := by decide +kernel
def site : List Cond := [.arrayClass .byte, Cmp5.tab] ++ staticW U16 115 Cmp5.yN
def tab : Cond := tabOf yN yB 6 (some (.array .byte)) site
def P (b : Addr) (A : Cell) (o len : Nat) (args : Array Value) (s : State) : Prop := args = #[.ref b, .int (Int32.ofNat o), .int (Int32.ofNat len)] ∧ Ch b A s ∧ o + len ≤ A.slots.size ∧ len ≤ 536870912 ∧ ∀ i, i < len → ¬ 255 < cv A (o + i)
def E (b : Addr) (A : Cell) (o len : Nat) (r : Option Value) (s u : State) : Prop := NewArr .byte "[B" len (fun j => .int (lo8 (cv A (o + j)))) r s u ∧ u.heap.size = s.heap.size + 1
/-- no char of the range above 255: a new byte[] of their low bytes -/
theorem law (l : Launch) (b : Addr) (A : Cell) (o len : Nat) : Law l yN 3 3 1 18 yB 6 (some (.array .byte)) site (P b A o len) (E b A o len) [] 1 len := by
  refine Law.of_walk (plainFor_of_name (by decide +kernel)) (by decide +kernel) (by decide +kernel) (by decide) (fun _ _ h => by rw [h.1]; rfl) (fun _ U U' hal hh h => ⟨h.1, h.2.1.mv hal hh, h.2.2⟩) (fun r U U' V V' h1 hal h2 h => ⟨NewArr.mv r U U' V V' h1 hal h2 h.1, by rw [h1, h2]; exact h.2⟩) ?_
  intro p e s m args below meth c s₁ X0 hexec hbytes hml hret hlk hnm hown hh0 W hP
  obtain ⟨rfl, hA, l1, l2, hp⟩ := hP
  have a31 := hA.1.2.2.2
  have c1 : Steps p.tables e below (s₁.setTop (entryFrame m #[.ref b, .int (Int32.ofNat o), .int (Int32.ofNat len)] 6)) (s₁.setTop (mkF m 0 #[.val (.ref b), .val (.int (Int32.ofNat o)), .val (.int (Int32.ofNat len)), .unset, .unset, .unset] [])) := entry rfl
  have c2 : Steps p.tables e below (s₁.setTop (entryFrame m #[.ref b, .int (Int32.ofNat o), .int (Int32.ofNat len)] 6)) (s₁.setTop (mkF m 1 #[.val (.ref b), .val (.int (Int32.ofNat o)), .val (.int (Int32.ofNat len)), .unset, .unset, .unset] [.int (Int32.ofNat len)])) := c1.trans (by
    refine XS.iloadN X0.here hexec rfl (hb hbytes d0) rfl ?_
    exact Steps.refl _)
  obtain ⟨T3, B3, X3, ba3, bs3, bv3, bh3, bf3, st3⟩ := X0.anew hexec (atype := .byte) (wk W (.arrayClass .byte)) rfl (by show len * 1 ≤ _; omega) (by omega) (g := (mkF m 1 #[.val (.ref b), .val (.int (Int32.ofNat o)), .val (.int (Int32.ofNat len)), .unset, .unset, .unset] [.int (Int32.ofNat len)])) rfl (hb hbytes d1) (rest := []) rfl (Nat.le_refl _) (by show 0 + len ≤ len; omega)
  rw [hh0] at ba3 st3
  have kp3 : XT.Kept s T3 := (XT.Kept.of_eq hh0).push bh3
  have hA3 := hA.keep X3.warmed.alike (kp3 _ _ hA.1.1)
  have hne : b ≠ s.heap.size := hA.1.ne
  have c4 : Steps p.tables e below (s₁.setTop (entryFrame m #[.ref b, .int (Int32.ofNat o), .int (Int32.ofNat len)] 6)) (T3.setTop (mkF m 3 #[.val (.ref b), .val (.int (Int32.ofNat o)), .val (.int (Int32.ofNat len)), .unset, .unset, .unset] [.ref s.heap.size])) := c2.trans (st3 _ (Steps.refl _))
  have c5 : Steps p.tables e below (s₁.setTop (entryFrame m #[.ref b, .int (Int32.ofNat o), .int (Int32.ofNat len)] 6)) (T3.setTop (mkF m 9 #[.val (.ref b), .val (.int (Int32.ofNat o)), .val (.int (Int32.ofNat len)), .val (.ref s.heap.size), .unset, .unset] [.int (Int32.ofNat len), .int 0, .ref s.heap.size, .int (Int32.ofNat o), .ref b])) := c4.trans (by
    refine XS.astoreN X3.here hexec rfl (hb hbytes d3) rfl rfl rfl ?_
    refine XS.aloadN X3.here hexec rfl (hb hbytes d4) rfl rfl ?_
    refine XS.iloadN X3.here hexec rfl (hb hbytes d5) rfl ?_
    refine XS.aloadN X3.here hexec rfl (hb hbytes d6) rfl rfl ?_
    refine iconstV X3.here hexec rfl 0 (hb hbytes d7) (by decide) ?_
    refine XS.iloadN X3.here hexec rfl (hb hbytes d8) rfl ?_
    exact Steps.refl _)
  obtain ⟨v6, T6, X6, E6, g6⟩ := X3.callS hexec (Cmp5.law l b A s.heap.size B3 o 0 len) hown (wks W (staticW U16 115 Cmp5.yN)) (wk W Cmp5.tab) (W := 0) (Nat.le_of_ble_eq_true rfl) (Nat.le_of_ble_eq_true rfl) (Nat.le_refl _) (by show 0 + len + 0 ≤ len; omega) (g := (mkF m 9 #[.val (.ref b), .val (.int (Int32.ofNat o)), .val (.int (Int32.ofNat len)), .val (.ref s.heap.size), .unset, .unset] [.int (Int32.ofNat len), .int (Int32.ofNat 0), .ref s.heap.size, .int (Int32.ofNat o), .ref b])) rfl (by rw [hml]; rfl) c5 (argsL := [.ref b, .int (Int32.ofNat o), .ref s.heap.size, .int (Int32.ofNat 0), .int (Int32.ofNat len)]) (rest := []) rfl rfl (by show 2 * 0 + 0 ≤ _; decide) (hb hbytes d9) (⟨rfl, hA3, ba3, hne, l1, by rw [bs3]; simp, hp⟩)
  obtain ⟨rfl, B6, p6, f6⟩ := E6
  have c7 : Steps p.tables e below (s₁.setTop (entryFrame m #[.ref b, .int (Int32.ofNat o), .int (Int32.ofNat len)] 6)) (T6.setTop (mkF m 12 #[.val (.ref b), .val (.int (Int32.ofNat o)), .val (.int (Int32.ofNat len)), .val (.ref s.heap.size), .unset, .unset] [.int (Int32.ofNat len)])) := g6
  have c8 : Steps p.tables e below (s₁.setTop (entryFrame m #[.ref b, .int (Int32.ofNat o), .int (Int32.ofNat len)] 6)) (T6.setTop (mkF m 58 #[.val (.ref b), .val (.int (Int32.ofNat o)), .val (.int (Int32.ofNat len)), .val (.ref s.heap.size), .val (.int (Int32.ofNat len)), .unset] [.ref s.heap.size])) := c7.trans (by
    refine XS.istore X6.here hexec rfl (hb hbytes d12) rfl rfl ?_
    refine XS.iload X6.here hexec rfl (hb hbytes d14) rfl ?_
    refine XS.iloadN X6.here hexec rfl (hb hbytes d16) rfl ?_
    refine XS.icmpYes X6.here hexec rfl (pc0 := 17) rfl (hb hbytes d17) rfl (ii_eq_t rfl) (by decide) rfl ?_
    refine XS.aloadN X6.here hexec rfl (hb hbytes d57) rfl rfl ?_
    exact Steps.refl _)
  have X8 := X6.wide (L' := []) (cells' := 1) (slots' := len) (fun x hx hlt => by
    simp only [List.nil_append, copyLocs, List.mem_map, List.mem_range] at hx
    obtain ⟨i, -, rfl⟩ := hx
    exact absurd hlt (Nat.lt_irrefl _)) (Nat.le_refl _) (by omega)
  exact ⟨T6, some (.ref s.heap.size), _, _, _, X8, rfl, rfl, rfl, (fun h => by cases h), ⟨⟨rfl, B6, ba3.like (X3.warmed.alike.symm.trans X6.warmed.alike) p6.1 f6.1 f6.2.1 f6.2.2.1, f6.2.1.trans bv3, by rw [X6.warmed.alike.findClass, f6.1]; exact bf3, by rw [f6.2.2.1, bs3]; simp, fun j hj => by rw [f6.2.2.2 j, if_pos (by omega)]; rfl, kp3.put p6 (Nat.le_refl _)⟩, by rw [p6.2.2, bh3, hh0]; simp⟩, fun fs hl => c8.trans (X8.areturnOut hexec rfl hret rfl (hb hbytes d58) hl)⟩
end Cmp3
namespace CodL
def yN : MethodName := ⟨"java/lang/StringUTF16", "coderFromArrayLen", "([BI)B"⟩
abbrev yB : ByteArray := jdk_52_method_15_code
theorem d0 : decode yB 0 = .ok (.iload_n 1, 1) := by decide +kernel
theorem d1 : decode yB 1 = .ok (.aload_n 0, 1) := by decide +kernel
theorem d2 : decode yB 2 = .ok (.arraylength, 1) := by decide +kernel
theorem d3 : decode yB 3 = .ok (.isub, 1) := by decide +kernel
theorem d4 : decode yB 4 = .ok (.bipush 31, 2) := by decide +kernel
theorem d6 : decode yB 6 = .ok (.iushr, 1) := by decide +kernel
theorem d7 : decode yB 7 = .ok (.i2b, 1) := by decide +kernel
theorem d8 : decode yB 8 = .ok (.ireturn, 1) := by decide +kernel
def site : List Cond := []
def tab : Cond := tabOf yN yB 2 (some .byte) site
def P (d : Addr) (B : Cell) (args : Array Value) (s : State) : Prop := args = #[.ref d, .int (Int32.ofNat B.slots.size)] ∧ Arr .byte d B s
def E (r : Option Value) (s u : State) : Prop := XT.PureE (some (.int 0)) r s u
/-- an array as long as the number of chars: LATIN1 -/
theorem law (l : Launch) (d : Addr) (B : Cell) : Law l yN 2 2 0 0 yB 2 (some .byte) site (P d B) E [] 0 0 := by
  refine Law.of_walk (plainFor_of_name (by decide +kernel)) (by decide +kernel) (by decide +kernel) (by decide) (fun _ _ h => by rw [h.1]; rfl) (fun _ U U' hal hh h => ⟨h.1, h.2.mv hal hh⟩) (fun r U U' V V' h1 hal h2 h => XT.PureE.mv r U U' V V' h1 hal h2 h) ?_
  intro p e s m args below meth c s₁ X0 hexec hbytes hml hret hlk hnm hown hh0 W hP
  obtain ⟨rfl, hB⟩ := hP
  have hB0 := hB.mv X0.warmed.alike hh0
  have c1 : Steps p.tables e below (s₁.setTop (entryFrame m #[.ref d, .int (Int32.ofNat B.slots.size)] 2)) (s₁.setTop (mkF m 0 #[.val (.ref d), .val (.int (Int32.ofNat B.slots.size))] [])) := entry rfl
  have c2 : Steps p.tables e below (s₁.setTop (entryFrame m #[.ref d, .int (Int32.ofNat B.slots.size)] 2)) (s₁.setTop (mkF m 2 #[.val (.ref d), .val (.int (Int32.ofNat B.slots.size))] [.ref d, .int (Int32.ofNat B.slots.size)])) := c1.trans (by
    refine XS.iloadN X0.here hexec rfl (hb hbytes d0) rfl ?_
    refine XS.aloadN X0.here hexec rfl (hb hbytes d1) rfl rfl ?_
    exact Steps.refl _)
  have c3 : Steps p.tables e below (s₁.setTop (entryFrame m #[.ref d, .int (Int32.ofNat B.slots.size)] 2)) (s₁.setTop (mkF m 8 #[.val (.ref d), .val (.int (Int32.ofNat B.slots.size))] [.int (lo8 (ushr (Int32.ofNat B.slots.size - Int32.ofNat B.slots.size) 31))])) := c2.trans (by
    refine X0.alen hexec hB0 rfl rfl (hb hbytes d2) ?_
    refine XS.isub X0.here hexec rfl (hb hbytes d3) rfl ?_
    refine bipushV X0.here hexec rfl 31 (hb hbytes d4) (by decide) ?_
    refine iushr X0.here hexec rfl (hb hbytes d6) rfl ?_
    refine i2b X0.here hexec rfl (hb hbytes d7) rfl ?_
    exact Steps.refl _)
  have e0 : lo8 (ushr (Int32.ofNat B.slots.size - Int32.ofNat B.slots.size) 31) = 0 := by rw [Int32.sub_self]; decide
  rw [e0] at c3
  exact ⟨s₁, some (.int 0), _, _, _, X0, rfl, rfl, rfl, (fun h => by cases h), ⟨rfl, hh0⟩, fun fs hl => c3.trans (X0.ireturnOut hexec hret rfl (Or.inr (Or.inr (Or.inl rfl))) (hb hbytes d8) hl)⟩
end CodL
/-- the String at a is Latin-1 over a new byte[] (the heap's one new cell): the low bytes of the len chars of A from o on; every cell but a is kept -/
def Got (a : Addr) (D : Cell) (fV fC : Field) (A : Cell) (o len : Nat) (r : Option Value) (s u : State) : Prop := r = none ∧ ∃ D' V : Cell, Blank "java/lang/String" a D' u ∧ Same D D' [fV.slot, fC.slot] ∧ D'.slots[fV.slot]? = some (.ref s.heap.size) ∧ D'.slots[fC.slot]? = some (.int 0) ∧ Arr .byte s.heap.size V u ∧ V.vm = .none ∧ u.vm.findClass "[B" = some V.cls ∧ V.slots.size = len ∧ (∀ j, j < len → V.slots[j]? = some (.int (lo8 (cv A (o + j))))) ∧ (∀ (y : Addr) (c : Cell), y ≠ a → s.heap[y]? = some c → u.heap[y]? = some c) ∧ u.heap.size = s.heap.size + 1
theorem Got.mv {a : Addr} {D A : Cell} {fV fC : Field} {o len : Nat} : ∀ r (U U' V V' : State), U'.heap = U.heap → V.vm.Alike V'.vm → V'.heap = V.heap → Got a D fV fC A o len r U V → Got a D fV fC A o len r U' V' :=
  fun r U U' V V' h1 hal h2 ⟨e0, D', X, a1, a2, a3, a4, a5, a6, a7, a8, a9, a10, a11⟩ => ⟨e0, D', X, a1.mv hal h2, a2, by rw [h1]; exact a3, a4, by rw [h1]; exact a5.mv hal h2, a6, by rw [hal.findClass]; exact a7, a8, a9, by rw [h1, h2]; exact a10, by rw [h1, h2]; exact a11⟩
namespace New4
def yN : MethodName := ⟨"java/lang/String", "<init>", "([CIILjava/lang/Void;)V"⟩
abbrev yB : ByteArray := jdk_42_method_149_code
theorem d0 : decode yB 0 = .ok (.aload_n 0, 1) := by decide +kernel
theorem d1 : decode yB 1 = .ok (.invokespecial 1, 3) := by decide +kernel
theorem d4 : decode yB 4 = .ok (.iload_n 3, 1) := by decide +kernel
theorem d5 : decode yB 5 = .ok (.ifCond (.ne) 22, 3) := by decide +kernel
theorem d27 : decode yB 27 = .ok (.getstatic 38, 3) := by decide +kernel
theorem d30 : decode yB 30 = .ok (.ifCond (.eq) 28, 3) := by decide +kernel
theorem d33 : decode yB 33 = .ok (.aload_n 1, 1) := by decide +kernel
theorem d34 : decode yB 34 = .ok (.iload_n 2, 1) := by decide +kernel
theorem d35 : decode yB 35 = .ok (.iload_n 3, 1) := by decide +kernel
theorem d36 : decode yB 36 = .ok (.invokestatic 177, 3) := by decide +kernel
theorem d39 : decode yB 39 = .ok (.astore 5, 2) := by decide +kernel
theorem d41 : decode yB 41 = .ok (.aload_n 0, 1) := by decide +kernel
theorem d42 : decode yB 42 = .ok (.aload 5, 2) := by decide +kernel
theorem d44 : decode yB 44 = .ok (.iload_n 3, 1) := by decide +kernel
theorem d45 : decode yB 45 = .ok (.invokestatic 47, 3) := by decide +kernel
theorem d48 : decode yB 48 = .ok (.putfield 15, 3) := by decide +kernel
theorem d51 : decode yB 51 = .ok (.aload_n 0, 1) := by decide +kernel
theorem d52 : decode yB 52 = .ok (.aload 5, 2) := by decide +kernel
theorem d54 : decode yB 54 = .ok (.putfield 9, 3) := by decide +kernel
theorem d57 : decode yB 57 = .ok (.return_, 1) := by decide +kernel
def site : List Cond := [.fieldLink "java/lang/String" 38 "java/lang/String" "COMPACT_STRINGS" "Z", Cmp3.tab, CodL.tab, .laysFinal "java/lang/String" "java/lang/String" "value" "[B", .fieldLink "java/lang/String" 9 "java/lang/String" "value" "[B", .laysFinal "java/lang/String" "java/lang/String" "coder" "B", .fieldLink "java/lang/String" 15 "java/lang/String" "coder" "B"] ++ objW "java/lang/String" 1 ++ staticW "java/lang/String" 177 Cmp3.yN ++ staticW "java/lang/String" 47 CodL.yN
def tab : Cond := tabOf yN yB 6 none site
def P (a : Addr) (D : Cell) (fV fC : Field) (b : Addr) (A : Cell) (z : Int32) (o len : Nat) (args : Array Value) (s : State) : Prop := args = #[.ref a, .ref b, .int (Int32.ofNat o), .int (Int32.ofNat len), .null] ∧ Blank "java/lang/String" a D s ∧ Found "java/lang/String" "value" "[B" fV s ∧ Found "java/lang/String" "coder" "B" fC s ∧ Ch b A s ∧ StaticIs s "java/lang/String" "COMPACT_STRINGS" "Z" (.int z) ∧ ¬ z = 0 ∧ 0 < len ∧ o + len ≤ A.slots.size ∧ len ≤ 536870912 ∧ ∀ i, i < len → ¬ 255 < cv A (o + i)
def E (a : Addr) (D : Cell) (fV fC : Field) (A : Cell) (o len : Nat) (r : Option Value) (s u : State) : Prop := Got a D fV fC A o len r s u
/-- len > 0, no char of the range above 255: a Latin-1 String of their low bytes -/
theorem law (l : Launch) (a : Addr) (D : Cell) (fV fC : Field) (b : Addr) (A : Cell) (z : Int32) (o len : Nat) : Law l yN 5 4 2 35 yB 6 none site (P a D fV fC b A z o len) (E a D fV fC A o len) [⟨a, fC.slot⟩, ⟨a, fV.slot⟩] 1 len := by
  refine Law.of_walk (plainFor_of_name (by decide +kernel)) (by decide +kernel) (by decide +kernel) (by decide) (fun _ _ h => by rw [h.1]; rfl) (fun _ U U' hal hh h => ⟨h.1, h.2.1.mv hal hh, h.2.2.1.al hal, h.2.2.2.1.al hal, h.2.2.2.2.1.mv hal hh, h.2.2.2.2.2.1.there hal hh, h.2.2.2.2.2.2⟩) (fun r U U' V V' h1 hal h2 h => Got.mv r U U' V V' h1 hal h2 h) ?_
  intro p e s m args below meth c s₁ X0 hexec hbytes hml hret hlk hnm hown hh0 W hP
  obtain ⟨rfl, hB, f1, f2, hA, s1, hz, l0, l1, l2, hp⟩ := hP
  have a31 := hA.1.2.2.2
  have c1 : Steps p.tables e below (s₁.setTop (entryFrame m #[.ref a, .ref b, .int (Int32.ofNat o), .int (Int32.ofNat len), .null] 6)) (s₁.setTop (mkF m 0 #[.val (.ref a), .val (.ref b), .val (.int (Int32.ofNat o)), .val (.int (Int32.ofNat len)), .val .null, .unset] [])) := entry rfl
  have c2 : Steps p.tables e below (s₁.setTop (entryFrame m #[.ref a, .ref b, .int (Int32.ofNat o), .int (Int32.ofNat len), .null] 6)) (s₁.setTop (mkF m 1 #[.val (.ref a), .val (.ref b), .val (.int (Int32.ofNat o)), .val (.int (Int32.ofNat len)), .val .null, .unset] [.ref a])) := c1.trans (by
    refine XS.aloadN X0.here hexec rfl (hb hbytes d0) rfl rfl ?_
    exact Steps.refl _)
  obtain ⟨T3, X3, q3, st3⟩ := X0.oinit hexec hown (wks W (objW "java/lang/String" 1)) (g := (mkF m 1 #[.val (.ref a), .val (.ref b), .val (.int (Int32.ofNat o)), .val (.int (Int32.ofNat len)), .val .null, .unset] [.ref a])) rfl (by rw [hml]; rfl) (rest := []) rfl (hb hbytes d1) (W := 0) (by show 2 * 0 + 0 ≤ _; decide) (Nat.le_of_ble_eq_true rfl) (Nat.le_of_ble_eq_true rfl)
  have hh3 := q3.trans hh0
  have c4 : Steps p.tables e below (s₁.setTop (entryFrame m #[.ref a, .ref b, .int (Int32.ofNat o), .int (Int32.ofNat len), .null] 6)) (T3.setTop (mkF m 27 #[.val (.ref a), .val (.ref b), .val (.int (Int32.ofNat o)), .val (.int (Int32.ofNat len)), .val .null, .unset] [])) := (c2.trans (st3 _ (Steps.refl _))).trans (by
    refine XS.iloadN X3.here hexec rfl (hb hbytes d4) rfl ?_
    refine XS.ifYes X3.here hexec rfl (pc0 := 5) rfl (hb hbytes d5) rfl (i0_ne_t (nz32 (by omega) l0)) (by decide) rfl ?_
    exact Steps.refl _)
  obtain ⟨T5, X5, q5, st5⟩ := X3.sget hexec hown (wk W (.fieldLink "java/lang/String" 38 "java/lang/String" "COMPACT_STRINGS" "Z")) s1 (fun _ _ h => by rw [hh3]; exact h) (g := (mkF m 27 #[.val (.ref a), .val (.ref b), .val (.int (Int32.ofNat o)), .val (.int (Int32.ofNat len)), .val .null, .unset] [])) rfl (hb hbytes d27)
  have hh5 := q5.trans hh3
  have c6 : Steps p.tables e below (s₁.setTop (entryFrame m #[.ref a, .ref b, .int (Int32.ofNat o), .int (Int32.ofNat len), .null] 6)) (T5.setTop (mkF m 30 #[.val (.ref a), .val (.ref b), .val (.int (Int32.ofNat o)), .val (.int (Int32.ofNat len)), .val .null, .unset] [.int z])) := c4.trans (st5 _ (Steps.refl _))
  have c7 : Steps p.tables e below (s₁.setTop (entryFrame m #[.ref a, .ref b, .int (Int32.ofNat o), .int (Int32.ofNat len), .null] 6)) (T5.setTop (mkF m 36 #[.val (.ref a), .val (.ref b), .val (.int (Int32.ofNat o)), .val (.int (Int32.ofNat len)), .val .null, .unset] [.int (Int32.ofNat len), .int (Int32.ofNat o), .ref b])) := c6.trans (by
    refine XS.ifNo X5.here hexec rfl (hb hbytes d30) rfl (i0_eq_f hz) ?_
    refine XS.aloadN X5.here hexec rfl (hb hbytes d33) rfl rfl ?_
    refine XS.iloadN X5.here hexec rfl (hb hbytes d34) rfl ?_
    refine XS.iloadN X5.here hexec rfl (hb hbytes d35) rfl ?_
    exact Steps.refl _)
  obtain ⟨v8, T8, X8, E8, g8⟩ := X5.callS hexec (Cmp3.law l b A o len) hown (wks W (staticW "java/lang/String" 177 Cmp3.yN)) (wk W Cmp3.tab) (W := 0) (Nat.le_of_ble_eq_true rfl) (Nat.le_of_ble_eq_true rfl) (Nat.le_refl _) (by show 0 + len ≤ len; omega) (g := (mkF m 36 #[.val (.ref a), .val (.ref b), .val (.int (Int32.ofNat o)), .val (.int (Int32.ofNat len)), .val .null, .unset] [.int (Int32.ofNat len), .int (Int32.ofNat o), .ref b])) rfl (by rw [hml]; rfl) c7 (argsL := [.ref b, .int (Int32.ofNat o), .int (Int32.ofNat len)]) (rest := []) rfl rfl (by show 2 * 0 + 0 ≤ _; decide) (hb hbytes d36) (⟨rfl, hA.mv X5.warmed.alike hh5, l1, l2, hp⟩)
  obtain ⟨e8, z8⟩ := E8
  obtain ⟨rfl, N, n1, n2, n3, n4, n5, n6⟩ := NewArr.mv _ T5 s _ _ hh5.symm (Vm.Alike.refl _) rfl e8
  rw [hh5] at z8
  have hB1 := hB.keep X8.warmed.alike (n6 _ _ hB.1)
  have hne : s.heap.size ≠ a := (Nat.ne_of_lt (Array.getElem?_eq_some_iff.mp hB.1).1).symm
  have c9 : Steps p.tables e below (s₁.setTop (entryFrame m #[.ref a, .ref b, .int (Int32.ofNat o), .int (Int32.ofNat len), .null] 6)) (T8.setTop (mkF m 39 #[.val (.ref a), .val (.ref b), .val (.int (Int32.ofNat o)), .val (.int (Int32.ofNat len)), .val .null, .unset] [.ref s.heap.size])) := g8
  have c10 : Steps p.tables e below (s₁.setTop (entryFrame m #[.ref a, .ref b, .int (Int32.ofNat o), .int (Int32.ofNat len), .null] 6)) (T8.setTop (mkF m 45 #[.val (.ref a), .val (.ref b), .val (.int (Int32.ofNat o)), .val (.int (Int32.ofNat len)), .val .null, .val (.ref s.heap.size)] [.int (Int32.ofNat N.slots.size), .ref s.heap.size, .ref a])) := by
    have hc : Steps p.tables e below (s₁.setTop (entryFrame m #[.ref a, .ref b, .int (Int32.ofNat o), .int (Int32.ofNat len), .null] 6)) (T8.setTop (mkF m 45 #[.val (.ref a), .val (.ref b), .val (.int (Int32.ofNat o)), .val (.int (Int32.ofNat len)), .val .null, .val (.ref s.heap.size)] [.int (Int32.ofNat len), .ref s.heap.size, .ref a])) := c9.trans (by
      refine XS.astore X8.here hexec rfl (hb hbytes d39) rfl rfl rfl ?_
      refine XS.aloadN X8.here hexec rfl (hb hbytes d41) rfl rfl ?_
      refine XS.aload X8.here hexec rfl (hb hbytes d42) rfl rfl ?_
      refine XS.iloadN X8.here hexec rfl (hb hbytes d44) rfl ?_
      exact Steps.refl _)
    rw [n4]; exact hc
  obtain ⟨v11, T11, X11, E11, g11⟩ := X8.callS hexec (CodL.law l s.heap.size N) hown (wks W (staticW "java/lang/String" 47 CodL.yN)) (wk W CodL.tab) (W := 1) (Nat.le_of_ble_eq_true rfl) (Nat.le_of_ble_eq_true rfl) (Nat.le_refl _) (by show 0 + len + 0 ≤ len; omega) (g := (mkF m 45 #[.val (.ref a), .val (.ref b), .val (.int (Int32.ofNat o)), .val (.int (Int32.ofNat len)), .val .null, .val (.ref s.heap.size)] [.int (Int32.ofNat N.slots.size), .ref s.heap.size, .ref a])) rfl (by rw [hml]; rfl) c10 (argsL := [.ref s.heap.size, .int (Int32.ofNat N.slots.size)]) (rest := [.ref a]) rfl rfl (by show 2 * 0 + (1 + 0) ≤ _; decide) (hb hbytes d45) (⟨rfl, n1⟩)
  obtain ⟨rfl, q11⟩ := E11
  have hB11 := hB1.mv (X8.warmed.alike.symm.trans X11.warmed.alike) q11
  have c12 : Steps p.tables e below (s₁.setTop (entryFrame m #[.ref a, .ref b, .int (Int32.ofNat o), .int (Int32.ofNat len), .null] 6)) (T11.setTop (mkF m 48 #[.val (.ref a), .val (.ref b), .val (.int (Int32.ofNat o)), .val (.int (Int32.ofNat len)), .val .null, .val (.ref s.heap.size)] [.int 0, .ref a])) := g11
  obtain ⟨T13, X13, p13, bl13, sl13, st13⟩ := X11.finit hexec hown (wk W (.fieldLink "java/lang/String" 15 "java/lang/String" "coder" "B")) (Or.inr ⟨_, (wk W (.laysFinal "java/lang/String" "java/lang/String" "coder" "B"))⟩) (Or.inl ⟨rfl, hnm⟩) f2 (Or.inl rfl) hB11 (t := .byte) (by decide +kernel) rfl (g := (mkF m 48 #[.val (.ref a), .val (.ref b), .val (.int (Int32.ofNat o)), .val (.int (Int32.ofNat len)), .val .null, .val (.ref s.heap.size)] [.int 0, .ref a])) rfl (rest := []) rfl (hb hbytes d48)
  have c14 : Steps p.tables e below (s₁.setTop (entryFrame m #[.ref a, .ref b, .int (Int32.ofNat o), .int (Int32.ofNat len), .null] 6)) (T13.setTop (mkF m 54 #[.val (.ref a), .val (.ref b), .val (.int (Int32.ofNat o)), .val (.int (Int32.ofNat len)), .val .null, .val (.ref s.heap.size)] [.ref s.heap.size, .ref a])) := (c12.trans (st13 _ (Steps.refl _))).trans (by
    refine XS.aloadN X13.here hexec rfl (hb hbytes d51) rfl rfl ?_
    refine XS.aload X13.here hexec rfl (hb hbytes d52) rfl rfl ?_
    exact Steps.refl _)
  obtain ⟨T15, X15, p15, bl15, sl15, st15⟩ := X13.finit hexec hown (wk W (.fieldLink "java/lang/String" 9 "java/lang/String" "value" "[B")) (Or.inr ⟨_, (wk W (.laysFinal "java/lang/String" "java/lang/String" "value" "[B"))⟩) (Or.inl ⟨rfl, hnm⟩) f1 (Or.inl rfl) bl13 (t := (.array .byte)) (by decide +kernel) rfl (g := (mkF m 54 #[.val (.ref a), .val (.ref b), .val (.int (Int32.ofNat o)), .val (.int (Int32.ofNat len)), .val .null, .val (.ref s.heap.size)] [.ref s.heap.size, .ref a])) rfl (rest := []) rfl (hb hbytes d54)
  have c16 : Steps p.tables e below (s₁.setTop (entryFrame m #[.ref a, .ref b, .int (Int32.ofNat o), .int (Int32.ofNat len), .null] 6)) (T15.setTop (mkF m 57 #[.val (.ref a), .val (.ref b), .val (.int (Int32.ofNat o)), .val (.int (Int32.ofNat len)), .val .null, .val (.ref s.heap.size)] [])) := c14.trans (st15 _ (Steps.refl _))
  have ap := apart (Or.inr ⟨_, (wk W (.laysFinal "java/lang/String" "java/lang/String" "value" "[B"))⟩) (Or.inr ⟨_, (wk W (.laysFinal "java/lang/String" "java/lang/String" "coder" "B"))⟩) f1 f2 (t₁ := .array .byte) (t₂ := .byte) (by decide +kernel) (by decide +kernel) (by decide)
  have al := X8.warmed.alike.symm.trans X15.warmed.alike
  have n7 : T11.heap[s.heap.size]? = some N := by rw [q11]; exact n1.1
  exact ⟨T15, none, _, _, _, X15, by simp, rfl, by omega, (fun _ => rfl), ⟨rfl, _, N, bl15, ((Same.refl D _).set _ (by simp)).set _ (by simp), sl15, (Cell.slots_setSlot_ne _ ap).trans sl13, n1.keep al (p15.other hne (p13.other hne n7)), n2, by rw [al.findClass]; exact n3, n4, n5, fun y c h1 h2 => p15.other h1 (p13.other h1 (by rw [q11]; exact n6 y c h2)), by rw [p15.2.2, p13.2.2, q11]; exact z8⟩, fun fs hl => c16.trans (X15.returnOut hexec hret (hb hbytes d57) hl)⟩
end New4
namespace New1
def yN : MethodName := ⟨"java/lang/String", "<init>", "([C)V"⟩
abbrev yB : ByteArray := jdk_42_method_3_code
theorem d0 : decode yB 0 = .ok (.aload_n 0, 1) := by decide +kernel
theorem d1 : decode yB 1 = .ok (.aload_n 1, 1) := by decide +kernel
theorem d2 : decode yB 2 = .ok (.iconst 0, 1) := by decide +kernel
theorem d3 : decode yB 3 = .ok (.aload_n 1, 1) := by decide +kernel
theorem d4 : decode yB 4 = .ok (.arraylength, 1) := by decide +kernel
theorem d5 : decode yB 5 = .ok (.aconst_null, 1) := by decide +kernel
theorem d6 : decode yB 6 = .ok (.invokespecial 27, 3) := by decide +kernel
theorem d9 : decode yB 9 = .ok (.return_, 1) := by decide +kernel
def site : List Cond := [New4.tab] ++ initW "java/lang/String" 27 New4.yN
def tab : Cond := tabOf yN yB 2 none site
def P (a : Addr) (D : Cell) (fV fC : Field) (b : Addr) (A : Cell) (z : Int32) (args : Array Value) (s : State) : Prop := args = #[.ref a, .ref b] ∧ Blank "java/lang/String" a D s ∧ Found "java/lang/String" "value" "[B" fV s ∧ Found "java/lang/String" "coder" "B" fC s ∧ Ch b A s ∧ StaticIs s "java/lang/String" "COMPACT_STRINGS" "Z" (.int z) ∧ ¬ z = 0 ∧ 0 < A.slots.size ∧ A.slots.size ≤ 536870912 ∧ ∀ i, i < A.slots.size → ¬ 255 < cv A i
def E (a : Addr) (D : Cell) (fV fC : Field) (A : Cell) (r : Option Value) (s u : State) : Prop := Got a D fV fC A 0 A.slots.size r s u
/-- new String(chars), not empty, no char above 255: a Latin-1 String of their low bytes -/
theorem law (l : Launch) (a : Addr) (D : Cell) (fV fC : Field) (b : Addr) (A : Cell) (z : Int32) : Law l yN 2 1 3 52 yB 2 none site (P a D fV fC b A z) (E a D fV fC A) [⟨a, fC.slot⟩, ⟨a, fV.slot⟩] 1 A.slots.size := by
  refine Law.of_walk (plainFor_of_name (by decide +kernel)) (by decide +kernel) (by decide +kernel) (by decide) (fun _ _ h => by rw [h.1]; rfl) (fun _ U U' hal hh h => ⟨h.1, h.2.1.mv hal hh, h.2.2.1.al hal, h.2.2.2.1.al hal, h.2.2.2.2.1.mv hal hh, h.2.2.2.2.2.1.there hal hh, h.2.2.2.2.2.2⟩) (fun r U U' V V' h1 hal h2 h => Got.mv r U U' V V' h1 hal h2 h) ?_
  intro p e s m args below meth c s₁ X0 hexec hbytes hml hret hlk hnm hown hh0 W hP
  obtain ⟨rfl, hB, f1, f2, hA, s1, hz, l0, l2, hp⟩ := hP
  have c1 : Steps p.tables e below (s₁.setTop (entryFrame m #[.ref a, .ref b] 2)) (s₁.setTop (mkF m 0 #[.val (.ref a), .val (.ref b)] [])) := entry rfl
  have c2 : Steps p.tables e below (s₁.setTop (entryFrame m #[.ref a, .ref b] 2)) (s₁.setTop (mkF m 6 #[.val (.ref a), .val (.ref b)] [.null, .int (Int32.ofNat A.slots.size), .int 0, .ref b, .ref a])) := c1.trans (by
    refine XS.aloadN X0.here hexec rfl (hb hbytes d0) rfl rfl ?_
    refine XS.aloadN X0.here hexec rfl (hb hbytes d1) rfl rfl ?_
    refine iconstV X0.here hexec rfl 0 (hb hbytes d2) (by decide) ?_
    refine XS.aloadN X0.here hexec rfl (hb hbytes d3) rfl rfl ?_
    refine X0.alen hexec (hA.1.mv X0.warmed.alike hh0) rfl rfl (hb hbytes d4) ?_
    refine XS.aconstNull X0.here hexec rfl (hb hbytes d5) ?_
    exact Steps.refl _)
  obtain ⟨v3, T3, X3, E3, g3⟩ := X0.callN hexec (New4.law l a D fV fC b A z 0 A.slots.size) rfl hown (wks W (initW "java/lang/String" 27 New4.yN)) (W New4.tab (by simp only [site, List.mem_cons, List.mem_append, true_or, or_true])) (W := 0) (Nat.le_of_ble_eq_true rfl) (Nat.le_of_ble_eq_true rfl) (Nat.le_refl _) (by show 0 + A.slots.size ≤ A.slots.size; omega) (g := (mkF m 6 #[.val (.ref a), .val (.ref b)] [.null, .int (Int32.ofNat A.slots.size), .int (Int32.ofNat 0), .ref b, .ref a])) rfl (by rw [hml]; rfl) c2 (argsL := [.ref b, .int (Int32.ofNat 0), .int (Int32.ofNat A.slots.size), .null]) (rest := []) rfl rfl (by show 2 * 0 + 0 ≤ _; decide) (hb hbytes d6) (⟨rfl, hB.mv X0.warmed.alike hh0, f1.al X0.warmed.alike, f2.al X0.warmed.alike, hA.mv X0.warmed.alike hh0, s1.there X0.warmed.alike hh0, hz, l0, by omega, l2, fun i hi => by rw [Nat.zero_add]; exact hp i hi⟩)
  have e0 := Got.mv _ s₁ s _ _ hh0.symm (Vm.Alike.refl _) rfl E3
  obtain rfl := e0.1
  have c4 : Steps p.tables e below (s₁.setTop (entryFrame m #[.ref a, .ref b] 2)) (T3.setTop (mkF m 9 #[.val (.ref a), .val (.ref b)] [])) := g3
  exact ⟨T3, none, _, _, _, X3, by simp, rfl, by omega, (fun _ => rfl), e0, fun fs hl => c4.trans (X3.returnOut hexec hret (hb hbytes d9) hl)⟩
theorem pays {l : Launch} {R : Room} {p : Program} {e : Env} {below : List Frame} {s : State} {sargs : Array Value} {len W : Nat} (a : Addr) (D : Cell) (fV fC : Field) (b : Addr) (A : Cell) (z : Int32) (htab : tab.before sargs s = true) (hfr : 4 ≤ R.frames) (hlo : W + 65 ≤ R.locals) :
    Back l R p e below s sargs yN len W (fun A₁ a₁ => A₁.cells + 1 ≤ R.cells ∧ A₁.slots + A.slots.size ≤ R.slots ∧ P a D fV fC b A z a₁ A₁.U) (fun A₁ _ v₁ B₁ => E a D fV fC A v₁ A₁.U B₁.U ∧ B₁.locs = A₁.locs ++ [⟨a, fC.slot⟩, ⟨a, fV.slot⟩] ∧ B₁.cells = A₁.cells + 1 ∧ B₁.slots = A₁.slots + A.slots.size) :=
  (law l a D fV fC b A z).pays htab hfr (by omega)
end New1
/-- the byte, read back as charAt reads it, is the char -/
theorem lo8_mask {x : Int32} (h0 : ¬ x < 0) (h1 : ¬ 255 < x) : lo8 x &&& 255 = x := by
  have t : ∀ k : Fin 256, lo8 (Int32.ofNat k.val) &&& 255 = Int32.ofNat k.val := by decide +kernel
  rw [Int32.lt_iff_toInt_lt] at h0 h1
  have e0 : (0 : Int32).toInt = 0 := rfl
  have e1 : (255 : Int32).toInt = 255 := rfl
  obtain ⟨k, hk⟩ : ∃ k : Nat, x.toInt = k := ⟨x.toInt.toNat, by omega⟩
  have hx : x = Int32.ofNat k := Int32.toInt_inj.mp (by rw [hk, Int32.toInt_ofNat_small (by omega)])
  rw [hx]
  exact t ⟨k, by omega⟩
end StrChars
namespace StrChars.Road
open Jvm Sem ClassFile Op Lib Jvm.Stand Jvm.Free Jvm.Free.XT
open Jvm.Lib.Cold (StaticIs)
abbrev ST : String := "java/lang/String"
/-- every table word that New1's law asks, flat -/
abbrev words : List Jvm.Cond := [.code New1.yN New1.yB 2 none, .initialized ST, .methodLink ST 27 New4.yN, .instanceMethod New4.yN,
  .code New4.yN New4.yB 6 none, .fieldLink ST 38 ST "COMPACT_STRINGS" "Z", .laysFinal ST ST "value" "[B", .fieldLink ST 9 ST "value" "[B", .laysFinal ST ST "coder" "B", .fieldLink ST 15 ST "coder" "B",
  .methodLink ST 1 Lib.objectInit, .instanceMethod Lib.objectInit, .code Lib.objectInit ⟨#[0xb1]⟩ 1 none, .methodLink ST 177 Cmp3.yN, .static Cmp3.yN, .methodLink ST 47 CodL.yN, .static CodL.yN,
  .code Cmp3.yN Cmp3.yB 6 (some (.array .byte)), .initialized U16, .arrayClass .byte, .methodLink U16 115 Cmp5.yN, .static Cmp5.yN, .code Cmp5.yN Cmp5.yB 7 (some .int), .code CodL.yN CodL.yB 2 (some .byte)]
theorem tab_of {a : Array Value} {s : State} (h : ∀ w ∈ words, w.before a s = true) : New1.tab.before a s = true := by
  have h5 : Cmp5.tab.before a s = true := unparts (wk h (.code Cmp5.yN Cmp5.yB 7 (some .int))) (wks h (.initialized Cmp5.yN.cls :: Cmp5.site))
  have hc : CodL.tab.before a s = true := unparts (wk h (.code CodL.yN CodL.yB 2 (some .byte))) (wks h (.initialized CodL.yN.cls :: CodL.site))
  have q5 : ∀ w ∈ Cmp5.tab :: words, w.before a s = true := fun w hw => (List.mem_cons.mp hw).elim (fun e => e ▸ h5) (h w)
  have h3 : Cmp3.tab.before a s = true := unparts (wk q5 (.code Cmp3.yN Cmp3.yB 6 (some (.array .byte)))) (wks q5 (.initialized Cmp3.yN.cls :: Cmp3.site))
  have q3 : ∀ w ∈ Cmp3.tab :: CodL.tab :: words, w.before a s = true := fun w hw => (List.mem_cons.mp hw).elim (fun e => e ▸ h3) fun hw => (List.mem_cons.mp hw).elim (fun e => e ▸ hc) (h w)
  have h4 : New4.tab.before a s = true := unparts (wk q3 (.code New4.yN New4.yB 6 none)) (wks q3 (.initialized New4.yN.cls :: New4.site))
  have q4 : ∀ w ∈ New4.tab :: words, w.before a s = true := fun w hw => (List.mem_cons.mp hw).elim (fun e => e ▸ h4) (h w)
  exact unparts (wk q4 (.code New1.yN New1.yB 2 none)) (wks q4 (.initialized New1.yN.cls :: New1.site))
/-- the words ride from the start Z to the walk's own state -/
theorem moved {Z s : State} {a0 args : Array Value} (hZ : Z.Warmed39 s.vm) (hw : ∀ d ∈ words, d.before a0 Z = true) : ∀ d ∈ words, d.before args s = true := fun d hd => by
  have q := hw d hd
  have t : ∀ d ∈ words, d = .arrayClass .byte ∨ (d.onTables && d.keepsFace) = true := by decide +kernel
  rcases t d hd with rfl | t
  · exact RoadKit.mvA hZ q
  · exact RoadKit.mv hZ q t
/-- WHAT COMES BACK, over the tables of the start Z: h the heap at the call, h' behind it -/
def Q (Z : State) (x : Addr) (A : Cell) (h : Heap) (v : Option Value) (h' : Heap) (L : List Loc) : Prop := v = none ∧ (∀ y ∈ L, y.base = x) ∧ RoadKit.Keep h h' [x] ∧ h'.size = h.size + 1 ∧ RoadKit.Exa Z h' x ST ∧ RoadKit.Fld Z h' x ST "value" "[B" (.ref h.size) ∧ RoadKit.Fld Z h' x ST "coder" "B" (.int 0) ∧
  (∃ V : Cell, RoadKit.Arr Z h' h.size V .byte ∧ V.vm = .none ∧ Z.vm.findClass "[B" = some V.cls ∧ V.slots.size = A.slots.size ∧ ∀ j, j < A.slots.size → V.slots[j]? = some (.int (lo8 (cv A j)))) ∧
  ∀ (O n d : String) (w : Value), RoadKit.Fld Z h x O n d w → RoadKit.slotOf Z O n d ≠ RoadKit.slotOf Z ST "value" "[B" → RoadKit.slotOf Z O n d ≠ RoadKit.slotOf Z ST "coder" "B" → RoadKit.Fld Z h' x O n d w
/-- **new String(chars) AT A CALL, IN THE ROAD'S FORM**: for specialBack behind newO: x the fresh String, b the char[] with the cell A -/
theorem back {p : Program} {l : Launch} {e : Env} {R : Room} {s : State} {args : Array Value} {below : List Frame} {len W : Nat} {Z : State} {a0 : Array Value} {h : Heap} (hZ : Z.Warmed39 s.vm) (hw : ∀ d ∈ words, d.before a0 Z = true) {kI : Nat} (wi : (Jvm.Cond.instantiable ST kI).before a0 Z = true)
    {x b : Addr} {A : Cell} {z : Int32} {v0 c0 : Value} (E : RoadKit.Exa Z h x ST) (V : RoadKit.Fld Z h x ST "value" "[B" v0) (C : RoadKit.Fld Z h x ST "coder" "B" c0) (K : RoadKit.Arr Z h b A .char) (hty : Typed .char A) (S : RoadKit.Sta Z h ST "COMPACT_STRINGS" "Z" (.int z)) (hz : ¬ z = 0)
    (l0 : 0 < A.slots.size) (l2 : A.slots.size ≤ 536870912) (hp : ∀ i, i < A.slots.size → ¬ 255 < cv A i) (hfr : 4 ≤ R.frames) (hlo : W + 65 ≤ R.locals) :
    Back l R p e below s args New1.yN len W (fun P a => a = #[.ref x, .ref b] ∧ P.U.heap = h ∧ P.cells + 1 ≤ R.cells ∧ P.slots + A.slots.size ≤ R.slots)
      (fun P _ v B => ∃ L, Q Z x A h v B.U.heap L ∧ B.locs = P.locs ++ L ∧ B.cells = P.cells + 1 ∧ B.slots = P.slots + A.slots.size) := by
  intro m meth c P g ig mk a X hg hsize hdg hW hn hp'
  obtain ⟨rfl, rfl, r1, r2⟩ := hp'
  have al : Z.vm.Alike P.U.vm := hZ.alike.trans X.warmed.alike
  obtain ⟨D, cfV, kV, iV, fV, hD, gV, stV, knV, obV, asV, slV⟩ := id V
  obtain ⟨D', cfC, kC, iC, fC, hD', gC, stC, -, -, asC, slC⟩ := id C
  cases hD.symm.trans hD'
  obtain ⟨D2, kD, e1, e2, e3, e4, e5⟩ := id E
  cases hD.symm.trans e1
  obtain ⟨c2, k2, i1, i2, i3, -⟩ := Cond.instantiable_spec wi
  cases e2.symm.trans i1
  cases e3.symm.trans i2
  obtain ⟨kU, u1, u2⟩ := al.2.2 _ _ e3
  have hB : Blank ST x D P.U := ⟨hD, ⟨knV, fun q hq => by rw [hq] at obV; cases obV⟩, by rw [al.findClass]; exact e2, kU, u1, by rw [u2]; exact i3, by rw [u2]; exact e5 i3⟩
  have F1 : Found ST "value" "[B" fV P.U := ⟨SBG.found_only al ⟨cfV, kV, iV, gV⟩, stV⟩
  have F2 : Found ST "coder" "B" fC P.U := ⟨SBG.found_only al ⟨cfC, kC, iC, gC⟩, stC⟩
  have hA : Ch b A P.U := ⟨⟨K.1, State.isArrayOf_alike al K.2.1, K.2.2, by omega⟩, hty⟩
  have hS : StaticIs P.U ST "COMPACT_STRINGS" "Z" (.int z) := by
    obtain ⟨cfS, iS, kS, fS, st, cS, t1, t2, t3, t4, t5, t6, t7⟩ := S
    exact StaticIs.there (s := { Z with heap := P.U.heap }) ⟨cfS, iS, kS, fS, st, cS, t1, t2, t3, t4, t5, (fun q => by rw [q] at t6; cases t6), t7⟩ al rfl
  obtain ⟨v, B, X', ⟨⟨hv, E', V', q1, q2, q3, q4, q5, q6, q7, q8, q9, q10, q11⟩, hl, hc, hs⟩, st⟩ := New1.pays x D fV fC b A z (tab_of (moved hZ hw)) hfr hlo m meth c P g ig mk _ X hg hsize hdg hW hn ⟨r1, r2, rfl, hB, F1, F2, hA, hS, hz, l0, l2, hp⟩
  have al' : Z.vm.Alike B.U.vm := hZ.alike.trans X'.warmed.alike
  have hsz : E'.slots.size = D.slots.size := by
    obtain ⟨-, -, -, kB, w1, w2, w3⟩ := q1
    obtain ⟨kB', y1, y2⟩ := al'.2.2 _ _ e3
    rw [q2.2.1] at w1
    cases w1.symm.trans y1
    rw [w3, e5 i3, y2]
  refine ⟨v, B, X', ⟨_, ⟨hv, ?_, ⟨by omega, fun y cy hy hn' => q10 y cy (by simpa using hn') hy, fun y cy hy => ?_⟩, q11, ⟨E', _, q1.1, by rw [q2.2.1]; exact e2, by rw [q2.2.1]; exact e3, by rw [q2.1]; exact obV, fun _ => by rw [hsz]; exact e5 i3⟩,
    ⟨E', cfV, kV, iV, fV, q1.1, gV, stV, by rw [q2.1]; exact knV, by rw [q2.1]; exact obV, by rw [q2.2.1]; exact asV, q3⟩, ⟨E', cfC, kC, iC, fC, q1.1, gC, stC, by rw [q2.1]; exact knV, by rw [q2.1]; exact obV, by rw [q2.2.1]; exact asC, q4⟩,
    ⟨V', ⟨q5.1, State.isArrayOf_alike al'.symm q5.2.1, q5.2.2.1⟩, q6, by rw [← al'.findClass]; exact q7, q8, fun j hj => by have := q9 j hj; rwa [Nat.zero_add] at this⟩, fun O n d w F n1 n2 => ?_⟩, hl, hc, hs⟩, st⟩
  · intro y hy
    simp only [List.mem_cons, List.not_mem_nil, or_false] at hy
    rcases hy with rfl | rfl <;> rfl
  · by_cases q : y = x
    · subst q
      cases hD.symm.trans hy
      exact ⟨E', q1.1, q2.2.1, q2.1, hsz⟩
    · exact ⟨cy, q10 y cy q hy, rfl, rfl, rfl⟩
  · obtain ⟨D3, cf, k, i, f, g1, g2, g3, g4, g5, g6, g7⟩ := F
    cases hD.symm.trans g1
    simp only [RoadKit.slotOf, g2, gV, gC, Option.map_some, Option.getD_some] at n1 n2
    exact ⟨E', cf, k, i, f, q1.1, g2, g3, by rw [q2.1]; exact g4, by rw [q2.1]; exact g5, by rw [q2.2.1]; exact g6, by rw [q2.2.2 f.slot (by simp [n1, n2])]; exact g7⟩
end StrChars.Road
namespace StrChars.Road
open Jvm Sem ClassFile Op Lib Jvm.Stand Jvm.Free Jvm.Free.XT
/-- WHAT COMES BACK, the byte[] as a list of values -/
def QA (Z : State) (x : Addr) (zn : Int32) (cs : List Int32) (h : Heap) (v : Option Value) (h' : Heap) (L : List Loc) : Prop := v = none ∧ (∀ y ∈ L, y.base = x) ∧ RoadKit.Keep h h' [x] ∧ h'.size = h.size + 1 ∧ RoadKit.Exa Z h' x ST ∧ RoadKit.Fld Z h' x ST "value" "[B" (.ref h.size) ∧ RoadKit.Fld Z h' x ST "coder" "B" (.int 0) ∧
  (∃ kb, Z.vm.findClass "[B" = some kb ∧ RoadKit.Arv Z h' h.size kb .byte zn (cs.map fun c => .int (lo8 c)) (.int 0)) ∧
  ∀ (O n d : String) (w : Value), RoadKit.Fld Z h x O n d w → RoadKit.slotOf Z O n d ≠ RoadKit.slotOf Z ST "value" "[B" → RoadKit.slotOf Z O n d ≠ RoadKit.slotOf Z ST "coder" "B" → RoadKit.Fld Z h' x O n d w
/-- **new String(chars) AT A CALL, THE ARRAYS AS LISTS**: the char[] at b holds cs, not empty, no char above 255 -/
theorem backArv {p : Program} {l : Launch} {e : Env} {R : Room} {s : State} {args : Array Value} {below : List Frame} {len W : Nat} {Z : State} {a0 : Array Value} {h : Heap} (hZ : Z.Warmed39 s.vm) (hw : ∀ d ∈ words, d.before a0 Z = true) {kI : Nat} (wi : (Jvm.Cond.instantiable ST kI).before a0 Z = true)
    {x b : Addr} {k : ClassId} {zn z : Int32} {cs : List Int32} {dv v0 c0 : Value} (E : RoadKit.Exa Z h x ST) (V : RoadKit.Fld Z h x ST "value" "[B" v0) (C : RoadKit.Fld Z h x ST "coder" "B" c0) (K : RoadKit.Arv Z h b k .char zn (cs.map Value.int) dv) (S : RoadKit.Sta Z h ST "COMPACT_STRINGS" "Z" (.int z)) (hz : ¬ z = 0)
    (hlen : zn.toNatClampNeg = cs.length) (h0 : 0 < cs.length) (hbig : cs.length ≤ 536870912) (hall : ∀ c ∈ cs, ¬ 255 < c) (hfr : 4 ≤ R.frames) (hlo : W + 65 ≤ R.locals) :
    Back l R p e below s args New1.yN len W (fun P a => a = #[.ref x, .ref b] ∧ P.U.heap = h ∧ P.cells + 1 ≤ R.cells ∧ P.slots + cs.length ≤ R.slots)
      (fun P _ v B => ∃ L, QA Z x zn cs h v B.U.heap L ∧ B.locs = P.locs ++ L ∧ B.cells = P.cells + 1 ∧ B.slots = P.slots + cs.length) := by
  obtain ⟨A, K1, K2, K3, K4, K5, K6⟩ := K
  have e : A.slots.size = cs.length := K3.trans hlen
  have hat : ∀ (i : Nat) (hi : i < cs.length), A.slots[i]? = some (.int cs[i]) := fun i hi => by rw [K5 i (by omega)]; simp [List.getD_eq_getElem?_getD, hi]
  have hcv : ∀ (i : Nat) (hi : i < cs.length), cv A i = cs[i] := fun i hi => by unfold cv; rw [hat i hi]
  have hty : Typed .char A := fun i v hv => by
    have hi : i < A.slots.size := (Array.getElem?_eq_some_iff.mp hv).1
    have q := K5 i hi
    rw [hv] at q
    rw [Option.some.inj q]
    exact K6 i hi
  refine Back.mono (back hZ hw wi E V C K1 hty S hz (by omega) (by omega) (fun i hi => by rw [hcv i (by omega)]; exact hall _ (List.getElem_mem _)) hfr hlo) (fun P a hp => ⟨hp.1, hp.2.1, hp.2.2.1, by rw [e]; exact hp.2.2.2⟩) (fun P a v B hp hq => ?_)
  obtain ⟨L, ⟨q1, q2, q3, q4, q5, q6, q7, ⟨V', v1, v2, v3, v4, v5⟩, q9⟩, hl, hc, hs⟩ := hq
  refine ⟨L, ⟨q1, q2, q3, q4, q5, q6, q7, ⟨V'.cls, v3, V', v1, rfl, by rw [v4, e, hlen], K4, fun i hi => ?_, fun i hi => ?_⟩, q9⟩, hl, hc, by rw [hs, e]⟩
  · have hi' : i < cs.length := by omega
    rw [v5 i (by omega), hcv i hi']; simp [List.getD_eq_getElem?_getD, hi']
  · have hi' : i < cs.length := by omega
    simp only [List.getD_eq_getElem?_getD, List.getElem?_map, List.getElem?_eq_getElem hi', Option.map_some, Option.getD_some]
    exact fits_lo8 _
end StrChars.Road
namespace StrChars.Road
open Jvm Sem ClassFile Op Lib Jvm.Stand Jvm.Free Jvm.Free.XT
/-- WHAT COMES BACK, in the writer's own shape -/
def QV (Z : State) (x : Addr) (N : Int32) (bs : List Int32) (h : Heap) (n0 : Nat) (v : Option Value) (h' : Heap) (L : List Loc) : Prop := v = none ∧ RoadKit.Fr n0 L ∧ RoadKit.Keep h h' [x] ∧ RoadKit.Exa Z h' x ST ∧ RoadKit.Fld Z h' x ST "coder" "B" (.int 0) ∧
  ∃ (t : Addr) (kb : ClassId), n0 ≤ t ∧ h.size ≤ t ∧ ¬ t = x ∧ RoadKit.Fld Z h' x ST "value" "[B" (.ref t) ∧ RoadKit.Arv Z h' t kb .byte N (bs.map Value.int) (.int 0)
/-- **new String(chars) AT A CALL, FOR THE WRITER**: a char[] of n known ints, each 0 to 255 -/
theorem backV {p : Program} {l : Launch} {e : Env} {R : Room} {s : State} {args : Array Value} {below : List Frame} {len W : Nat} {Z : State} {a0 : Array Value} {h : Heap} (hZ : Z.Warmed39 s.vm) (hw : ∀ d ∈ words, d.before a0 Z = true) {kI : Nat} (wi : (Jvm.Cond.instantiable ST kI).before a0 Z = true)
    {x b : Addr} {kC : ClassId} {cs bs : List Int32} {d v0 c0 : Value} {z N : Int32} {n n0 : Nat} (hx0 : n0 ≤ x) (hh0 : n0 ≤ h.size) (E : RoadKit.Exa Z h x ST) (V : RoadKit.Fld Z h x ST "value" "[B" v0) (C : RoadKit.Fld Z h x ST "coder" "B" c0) (K : RoadKit.Arv Z h b kC .char N (cs.map Value.int) d) (S : RoadKit.Sta Z h ST "COMPACT_STRINGS" "Z" (.int z)) (hz : ¬ z = 0)
    (hn : cs.length = n) (hN : N = Int32.ofNat n) (l0 : 0 < n) (l2 : n ≤ 4000) (hp : ∀ c ∈ cs, ¬ c < 0 ∧ ¬ (255 : Int32) < c) (hb : bs = cs.map (fun c => c.toInt8.toInt32)) (hfr : 4 ≤ R.frames) (hlo : W + 65 ≤ R.locals) :
    Back l R p e below s args (⟨"java/lang/String", "<init>", "([C)V"⟩ : MethodName) len W (fun P a => a = #[.ref x, .ref b] ∧ P.U.heap = h ∧ P.cells + 1 ≤ R.cells ∧ P.slots + n ≤ R.slots)
      (fun P _ v B => ∃ L, QV Z x N bs h n0 v B.U.heap L ∧ B.locs = P.locs ++ L ∧ B.cells = P.cells + 1 ∧ B.slots = P.slots + n) := by
  subst hn hN hb
  refine Back.mono (backArv hZ hw wi E V C K S hz (n32 (by omega)) l0 (by omega) (fun c hc => (hp c hc).2) hfr hlo) (fun P a hp => hp) (fun P a v B hp hq => ?_)
  obtain ⟨L, ⟨q1, q2, q3, q4, q5, q6, q7, ⟨kb, v1, v2⟩, q9⟩, hl, hc, hs⟩ := hq
  exact ⟨L, ⟨q1, fun y hy => by rw [q2 y hy]; exact hx0, q3, q5, q7, h.size, kb, hh0, Nat.le_refl _, Nat.ne_of_gt E.lt, q6, by rw [List.map_map]; exact v2⟩, hl, hc, hs⟩
end StrChars.Road
namespace StrChars
open Jvm Sem ClassFile Op Lib Jvm.Stand Jvm.Free.XT Jvm.Free.ALB Jvm.Free.JM Jvm.Free
open Jvm.Lib.Cold (StaticIs)
def hi8 (x : Int32) : Int32 := lo8 (x >>> ((8 : Int32) &&& 31))
/-- what StringUTF16.getChar makes of two bytes -/
def pairCh (u v : Int32) : Int32 := (((u &&& 255) <<< ((0 : Int32) &&& 31)) ||| ((v &&& 255) <<< ((8 : Int32) &&& 31))).toUInt32.toUInt16.toUInt32.toInt32
theorem lo8_and (x : Int32) : (lo8 x &&& 255).toBitVec.toNat = x.toBitVec.toNat % 256 := by
  have h : (lo8 x).toBitVec = (x.toBitVec.signExtend 8).signExtend 32 := by rw [lo8, Int8.toBitVec_toInt32, Int32.toBitVec_toInt8]
  rw [Int32.toBitVec_and, BitVec.toNat_and, h]
  have e : ((x.toBitVec.signExtend 8).signExtend 32).toNat % 256 = x.toBitVec.toNat % 256 := by
    rw [BitVec.toNat_signExtend]
    have hlt := x.toBitVec.isLt
    simp only [BitVec.toNat_setWidth, BitVec.toNat_signExtend]
    split <;> split <;> omega
  rw [← e]
  exact Nat.and_two_pow_sub_one_eq_mod _ 8
theorem pair_says {c : Int32} (h0 : ¬ c < 0) (h1 : ¬ 65535 < c) : pairCh (lo8 c) (hi8 c) = c := by
  rw [Int32.lt_iff_toInt_lt] at h0 h1
  have e0 : (0 : Int32).toInt = 0 := rfl
  have e1 : (65535 : Int32).toInt = 65535 := rfl
  have hc : c.toInt = c.toBitVec.toNat := by
    have := c.toBitVec.isLt
    have e : c.toInt = c.toBitVec.toInt := rfl
    rw [e] at h0 h1
    rw [e]
    rw [BitVec.toInt_eq_toNat_cond] at h0 h1 ⊢
    split at h0 <;> split <;> omega
  have hn : c.toBitVec.toNat < 65536 := by omega
  have a1 := lo8_and c
  have a2 : (hi8 c &&& 255).toBitVec.toNat = c.toBitVec.toNat / 256 := by
    rw [hi8, lo8_and]
    have e : ((8 : Int32) &&& 31) = 8 := by decide
    rw [e, Int32.toBitVec_shiftRight]
    have e2 : ((8 : Int32).toBitVec.smod 32) = 8#32 := by decide
    rw [e2, BitVec.sshiftRight_eq', BitVec.toNat_sshiftRight_of_msb_false (by rw [BitVec.msb_eq_false_iff_two_mul_lt]; omega)]
    show c.toBitVec.toNat >>> 8 % 256 = _
    rw [Nat.shiftRight_eq_div_pow]
    omega
  unfold pairCh
  apply Int32.toBitVec_inj.mp
  apply BitVec.eq_of_toNat_eq
  have f0 : ((0 : Int32) &&& 31) = 0 := by decide
  have f8 : ((8 : Int32) &&& 31) = 8 := by decide
  rw [f0, f8]
  have g : (((lo8 c &&& 255) <<< (0 : Int32)) ||| ((hi8 c &&& 255) <<< (8 : Int32))).toBitVec.toNat = c.toBitVec.toNat := by
    rw [Int32.toBitVec_or, Int32.toBitVec_shiftLeft, Int32.toBitVec_shiftLeft]
    have s0 : ((0 : Int32).toBitVec.smod 32) = 0#32 := by decide
    have s8 : ((8 : Int32).toBitVec.smod 32) = 8#32 := by decide
    rw [s0, s8, BitVec.toNat_or]
    simp only [BitVec.shiftLeft_eq', BitVec.toNat_shiftLeft, a1, a2]
    show (c.toBitVec.toNat % 256) <<< 0 % 2 ^ 32 ||| (c.toBitVec.toNat / 256) <<< 8 % 2 ^ 32 = _
    rw [Nat.shiftLeft_zero, Nat.mod_eq_of_lt (show c.toBitVec.toNat % 256 < 2 ^ 32 by omega), Nat.mod_eq_of_lt (show (c.toBitVec.toNat / 256) <<< 8 < 2 ^ 32 by rw [Nat.shiftLeft_eq]; omega), Nat.or_comm, ← Nat.shiftLeft_add_eq_or_of_lt (by omega), Nat.shiftLeft_eq]
    omega
  show BitVec.toNat (((((lo8 c &&& 255) <<< (0 : Int32)) ||| ((hi8 c &&& 255) <<< (8 : Int32))).toBitVec.setWidth 16).setWidth 32) = _
  rw [BitVec.toNat_setWidth, BitVec.toNat_setWidth, g]
  omega
end StrChars
namespace StrChars
open Jvm Sem ClassFile Op Lib Jvm.Stand Jvm.Free.XT Jvm.Free.ALB Jvm.Free.JM Jvm.Free
open Jvm.Lib.Cold (StaticIs)
/-- charAt's cast of a byte read back -/
def chr8 (u : Int32) : Int32 := (u &&& 255).toUInt32.toUInt16.toUInt32.toInt32
theorem chr8_lo8 {c : Int32} (h0 : ¬ c < 0) (h1 : ¬ 255 < c) : chr8 (lo8 c) = c := by
  have t : ∀ k : Fin 256, (Int32.ofNat k.val).toUInt32.toUInt16.toUInt32.toInt32 = Int32.ofNat k.val := by decide +kernel
  unfold chr8
  rw [lo8_mask h0 h1]
  rw [Int32.lt_iff_toInt_lt] at h0 h1
  have e0 : (0 : Int32).toInt = 0 := rfl
  have e1 : (255 : Int32).toInt = 255 := rfl
  obtain ⟨k, hk⟩ : ∃ k : Nat, c.toInt = k := ⟨c.toInt.toNat, by omega⟩
  have hx : c = Int32.ofNat k := Int32.toInt_inj.mp (by rw [hk, Int32.toInt_ofNat_small (by omega)])
  rw [hx]
  exact t ⟨k, by omega⟩
theorem narrow_ch {c : Int32} (h0 : ¬ c < 0) (h1 : ¬ 65535 < c) : narrow .char (.int c) = .int c := by
  have q : narrow .char (.int (pairCh (lo8 c) (hi8 c))) = .int (pairCh (lo8 c) (hi8 c)) := narrow_c _
  rwa [pair_says h0 h1] at q
/-- the array's cell V codes the n chars f 0 .. f (n - 1) by the coder cd, as the JDK does: coder 1 just where some char is above 255 -/
def Cod (cd : Int32) (n : Nat) (f : Nat → Int32) (V : Cell) : Prop := (cd = 0 ∧ V.slots.size = n ∧ ∀ j, j < n → V.slots[j]? = some (.int (lo8 (f j))) ∧ ¬ 255 < f j) ∨ (cd = 1 ∧ V.slots.size = 2 * n ∧ (∀ j, j < n → V.slots[2 * j]? = some (.int (lo8 (f j))) ∧ V.slots[2 * j + 1]? = some (.int (hi8 (f j)))) ∧ ∃ j, j < n ∧ 255 < f j)
theorem Cod.cd {cd : Int32} {n : Nat} {f : Nat → Int32} {V : Cell} (h : Cod cd n f V) : cd = 0 ∨ cd = 1 := h.imp (fun q => q.1) fun q => q.1
/-- **x is a String of the n chars f 0 .. f (n - 1)**, Latin-1 or UTF-16; its array at t has the cell V -/
def Txt (x t : Addr) (V : Cell) (cd : Int32) (n : Nat) (f : Nat → Int32) (U : State) : Prop := Exact "java/lang/String" x U ∧ Has x "java/lang/String" "value" "[B" (.ref t) U ∧ Has x "java/lang/String" "coder" "B" (.int cd) U ∧ XT.Arr .byte t V U ∧ Cod cd n f V ∧ ∀ j, j < n → ¬ f j < 0 ∧ ¬ 65535 < f j
theorem Txt.mv {x t : Addr} {V : Cell} {cd : Int32} {n : Nat} {f : Nat → Int32} {U U' : State} (h : Txt x t V cd n f U) (hal : U.vm.Alike U'.vm) (hh : U'.heap = U.heap) : Txt x t V cd n f U' := ⟨h.1.mv hal hh, h.2.1.mv hal hh, h.2.2.1.mv hal hh, h.2.2.2.1.mv hal hh, h.2.2.2.2⟩
namespace IsL
def yN : MethodName := ⟨"java/lang/String", "isLatin1", "()Z"⟩
abbrev yB : ByteArray := jdk_42_method_154_code
theorem d0 : decode yB 0 = .ok (.getstatic 38, 3) := by decide +kernel
theorem d3 : decode yB 3 = .ok (.ifCond (.eq) 14, 3) := by decide +kernel
theorem d6 : decode yB 6 = .ok (.aload_n 0, 1) := by decide +kernel
theorem d7 : decode yB 7 = .ok (.getfield 15, 3) := by decide +kernel
theorem d10 : decode yB 10 = .ok (.ifCond (.ne) 7, 3) := by decide +kernel
theorem d13 : decode yB 13 = .ok (.iconst 1, 1) := by decide +kernel
theorem d14 : decode yB 14 = .ok (.goto 4, 3) := by decide +kernel
theorem d17 : decode yB 17 = .ok (.iconst 0, 1) := by decide +kernel
theorem d18 : decode yB 18 = .ok (.ireturn, 1) := by decide +kernel
def site : List Cond := [.fieldLink "java/lang/String" 38 "java/lang/String" "COMPACT_STRINGS" "Z", .fieldLink "java/lang/String" 15 "java/lang/String" "coder" "B"]
def tab : Cond := tabOf yN yB 1 (some .boolean) site
def P (x : Addr) (cd z : Int32) (args : Array Value) (s : State) : Prop := args = #[.ref x] ∧ Has x "java/lang/String" "coder" "B" (.int cd) s ∧ (cd = 0 ∨ cd = 1) ∧ StaticIs s "java/lang/String" "COMPACT_STRINGS" "Z" (.int z) ∧ ¬ z = 0
def E (cd : Int32) (r : Option Value) (s u : State) : Prop := XT.PureE (some (.int (1 - cd))) r s u
theorem law (l : Launch) (x : Addr) (cd z : Int32) : Law l yN 1 0 0 0 yB 1 (some .boolean) site (P x cd z) (E cd) [] 0 0 := by
  refine Law.of_walk (plainFor_of_name (by decide +kernel)) (by decide +kernel) (by decide +kernel) (by decide) (fun _ _ h => by rw [h.1]; rfl) (fun _ U U' hal hh h => ⟨h.1, h.2.1.mv hal hh, h.2.2.1, h.2.2.2.1.there hal hh, h.2.2.2.2⟩) (fun r U U' V V' h1 hal h2 h => XT.PureE.mv r U U' V V' h1 hal h2 h) ?_
  intro p e s m args below meth c s₁ X0 hexec hbytes hml hret hlk hnm hown hh0 W hP
  obtain ⟨rfl, hx, hc, s1, hz⟩ := hP
  have c1 : Steps p.tables e below (s₁.setTop (entryFrame m #[.ref x] 1)) (s₁.setTop (mkF m 0 #[.val (.ref x)] [])) := entry rfl
  obtain ⟨T2, X2, q2, st2⟩ := X0.sget hexec hown (wk W (.fieldLink "java/lang/String" 38 "java/lang/String" "COMPACT_STRINGS" "Z")) s1 (fun _ _ h => by rw [hh0]; exact h) (g := (mkF m 0 #[.val (.ref x)] [])) rfl (hb hbytes d0)
  have hh2 := q2.trans hh0
  have c3 : Steps p.tables e below (s₁.setTop (entryFrame m #[.ref x] 1)) (T2.setTop (mkF m 7 #[.val (.ref x)] [.ref x])) := (c1.trans (st2 _ (Steps.refl _))).trans (by
    refine XS.ifNo X2.here hexec rfl (hb hbytes d3) rfl (i0_eq_f hz) ?_
    refine XS.aloadN X2.here hexec rfl (hb hbytes d6) rfl rfl ?_
    exact Steps.refl _)
  obtain ⟨T4, X4, q4, st4⟩ := X2.hget hexec hown (wk W (.fieldLink "java/lang/String" 15 "java/lang/String" "coder" "B")) (hx.mv X2.warmed.alike hh2) (g := (mkF m 7 #[.val (.ref x)] [.ref x])) rfl (rest := []) rfl (hb hbytes d7)
  have c5 : Steps p.tables e below (s₁.setTop (entryFrame m #[.ref x] 1)) (T4.setTop (mkF m 10 #[.val (.ref x)] [.int cd])) := c3.trans (st4 _ (Steps.refl _))
  have c6 : Steps p.tables e below (s₁.setTop (entryFrame m #[.ref x] 1)) (T4.setTop (mkF m 18 #[.val (.ref x)] [.int (1 - cd)])) := by
    rcases hc with rfl | rfl
    · exact c5.trans (by
        refine XS.ifNo X4.here hexec rfl (hb hbytes d10) rfl (i0_ne_f rfl) ?_
        refine iconstV X4.here hexec rfl 1 (hb hbytes d13) (by decide) ?_
        refine XS.goto X4.here hexec rfl (pc0 := 14) rfl (hb hbytes d14) (by decide) rfl ?_
        exact Steps.refl _)
    · exact c5.trans (by
        refine XS.ifYes X4.here hexec rfl (pc0 := 10) rfl (hb hbytes d10) rfl (i0_ne_t (by decide)) (by decide) rfl ?_
        refine iconstV X4.here hexec rfl 0 (hb hbytes d17) (by decide) ?_
        exact Steps.refl _)
  exact ⟨T4, some (.int (1 - cd)), _, _, _, X4, rfl, rfl, rfl, (fun h => by cases h), ⟨rfl, q4.trans hh2⟩, fun fs hl => c6.trans (X4.ireturnOut hexec hret (by rcases hc with rfl | rfl <;> rfl) (Or.inr (Or.inl rfl)) (hb hbytes d18) hl)⟩
end IsL
namespace LChA
def yN : MethodName := ⟨"java/lang/StringLatin1", "charAt", "([BI)C"⟩
abbrev yB : ByteArray := jdk_43_method_2_code
theorem d0 : decode yB 0 = .ok (.iload_n 1, 1) := by decide +kernel
theorem d1 : decode yB 1 = .ok (.aload_n 0, 1) := by decide +kernel
theorem d2 : decode yB 2 = .ok (.arraylength, 1) := by decide +kernel
theorem d3 : decode yB 3 = .ok (.invokestatic 9, 3) := by decide +kernel
theorem d6 : decode yB 6 = .ok (.aload_n 0, 1) := by decide +kernel
theorem d7 : decode yB 7 = .ok (.iload_n 1, 1) := by decide +kernel
theorem d8 : decode yB 8 = .ok (.baload, 1) := by decide +kernel
theorem d9 : decode yB 9 = .ok (.sipush 255, 3) := by decide +kernel
theorem d12 : decode yB 12 = .ok (.iand, 1) := by decide +kernel
theorem d13 : decode yB 13 = .ok (.i2c, 1) := by decide +kernel
theorem d14 : decode yB 14 = .ok (.ireturn, 1) := by decide +kernel
def site : List Cond := [JO.Str_checkIndex.tab] ++ staticW "java/lang/StringLatin1" 9 JO.Str_checkIndex.yN
def tab : Cond := tabOf yN yB 2 (some .char) site
def P (t : Addr) (V : Cell) (i : Nat) (u : Int32) (fm : Value) (args : Array Value) (s : State) : Prop := args = #[.ref t, .int (Int32.ofNat i)] ∧ XT.Arr .byte t V s ∧ V.slots[i]? = some (.int u) ∧ (StaticIs s "jdk/internal/util/Preconditions" "SIOOBE_FORMATTER" "Ljava/util/function/BiFunction;" fm ∧ fm.isRef = true)
def E (u : Int32) (r : Option Value) (s w : State) : Prop := XT.PureE (some (.int (chr8 u))) r s w
theorem law (l : Launch) (t : Addr) (V : Cell) (i : Nat) (u : Int32) (fm : Value) : Law l yN 2 2 2 27 yB 2 (some .char) site (P t V i u fm) (E u) [] 0 0 := by
  refine Law.of_walk (plainFor_of_name (by decide +kernel)) (by decide +kernel) (by decide +kernel) (by decide) (fun _ _ h => by rw [h.1]; rfl) (fun _ U U' hal hh h => ⟨h.1, h.2.1.mv hal hh, h.2.2.1, h.2.2.2.1.there hal hh, h.2.2.2.2⟩) (fun r U U' V V' h1 hal h2 h => XT.PureE.mv r U U' V V' h1 hal h2 h) ?_
  intro p e s m args below meth c s₁ X0 hexec hbytes hml hret hlk hnm hown hh0 W hP
  obtain ⟨rfl, hV, hu, s1, rf⟩ := hP
  have v31 := hV.2.2.2
  have hi : i < V.slots.size := (Array.getElem?_eq_some_iff.mp hu).1
  have c1 : Steps p.tables e below (s₁.setTop (entryFrame m #[.ref t, .int (Int32.ofNat i)] 2)) (s₁.setTop (mkF m 0 #[.val (.ref t), .val (.int (Int32.ofNat i))] [])) := entry rfl
  have c2 : Steps p.tables e below (s₁.setTop (entryFrame m #[.ref t, .int (Int32.ofNat i)] 2)) (s₁.setTop (mkF m 3 #[.val (.ref t), .val (.int (Int32.ofNat i))] [.int (Int32.ofNat V.slots.size), .int (Int32.ofNat i)])) := c1.trans (by
    refine XS.iloadN X0.here hexec rfl (hb hbytes d0) rfl ?_
    refine XS.aloadN X0.here hexec rfl (hb hbytes d1) rfl rfl ?_
    refine X0.alen hexec (hV.mv X0.warmed.alike hh0) rfl rfl (hb hbytes d2) ?_
    exact Steps.refl _)
  obtain ⟨v3, T3, X3, E3, g3⟩ := X0.callS hexec (JO.Str_checkIndex.law l (Int32.ofNat i) (Int32.ofNat V.slots.size) fm) hown (wks W (staticW "java/lang/StringLatin1" 9 JO.Str_checkIndex.yN)) (wk W JO.Str_checkIndex.tab) (W := 0) (Nat.le_of_ble_eq_true rfl) (Nat.le_of_ble_eq_true rfl) (Nat.le_refl _) (Nat.le_refl _) (g := (mkF m 3 #[.val (.ref t), .val (.int (Int32.ofNat i))] [.int (Int32.ofNat V.slots.size), .int (Int32.ofNat i)])) rfl (by rw [hml]; rfl) c2 (argsL := [.int (Int32.ofNat i), .int (Int32.ofNat V.slots.size)]) (rest := []) rfl rfl (by show 2 * 0 + 0 ≤ _; decide) (hb hbytes d3) (⟨rfl, rf, s1.there X0.warmed.alike hh0, Int32.ofNat_not_neg (by omega), lt32 v31 hi⟩)
  obtain ⟨rfl, q3⟩ := E3
  have hh3 := q3.trans hh0
  have c4 : Steps p.tables e below (s₁.setTop (entryFrame m #[.ref t, .int (Int32.ofNat i)] 2)) (T3.setTop (mkF m 14 #[.val (.ref t), .val (.int (Int32.ofNat i))] [.int (chr8 u)])) := Steps.trans g3 (by
    refine XS.aloadN X3.here hexec rfl (hb hbytes d6) rfl rfl ?_
    refine XS.iloadN X3.here hexec rfl (hb hbytes d7) rfl ?_
    refine X3.aget hexec (hV.mv X3.warmed.alike hh3) rfl hu rfl rfl (hb hbytes d8) ?_
    refine sipushV X3.here hexec rfl 255 (hb hbytes d9) (by decide) ?_
    refine XS.iand X3.here hexec rfl (hb hbytes d12) rfl ?_
    refine i2c X3.here hexec rfl (hb hbytes d13) rfl ?_
    exact Steps.refl _)
  exact ⟨T3, some (.int (chr8 u)), _, _, _, X3, rfl, rfl, rfl, (fun h => by cases h), ⟨rfl, hh3⟩, fun fs hl => c4.trans (X3.ireturnOut hexec hret (narrow_c _) (Or.inr (Or.inr (Or.inr (Or.inl rfl)))) (hb hbytes d14) hl)⟩
end LChA
end StrChars
namespace StrChars.Road
open Jvm Sem ClassFile Op Lib Jvm.Stand Jvm.Free Jvm.Free.XT
open Jvm.Lib.Cold (StaticIs)
theorem consq {a : Array Value} {s : State} {c : Jvm.Cond} {L : List Jvm.Cond} (h0 : c.before a s = true) (h : ∀ w ∈ L, w.before a s = true) : ∀ w ∈ c :: L, w.before a s = true := fun w hw => (List.mem_cons.mp hw).elim (fun e => e ▸ h0) (h w)
/-- the bytes of the chars cs, low before high -/
def wideBytes : List Int32 → List Value
  | [] => []
  | c :: cs => .int (lo8 c) :: .int (hi8 c) :: wideBytes cs
theorem wide_lo (d : Value) : ∀ (cs : List Int32) (j : Nat), j < cs.length → (wideBytes cs).getD (2 * j) d = .int (lo8 (cs.getD j 0))
  | [], j, h => absurd h (Nat.not_lt_zero j)
  | c :: cs, 0, _ => rfl
  | c :: cs, j + 1, h => by
    have q := wide_lo d cs j (by simpa using h)
    rw [show 2 * (j + 1) = 2 * j + 1 + 1 from by omega]
    simpa [wideBytes] using q
theorem wide_hi (d : Value) : ∀ (cs : List Int32) (j : Nat), j < cs.length → (wideBytes cs).getD (2 * j + 1) d = .int (hi8 (cs.getD j 0))
  | [], j, h => absurd h (Nat.not_lt_zero j)
  | c :: cs, 0, _ => rfl
  | c :: cs, j + 1, h => by
    have q := wide_hi d cs j (by simpa using h)
    rw [show 2 * (j + 1) + 1 = 2 * j + 1 + 1 + 1 from by omega]
    simpa [wideBytes] using q
theorem low_at (d : Value) (cs : List Int32) (j : Nat) (h : j < cs.length) : (cs.map fun c => Value.int (lo8 c)).getD j d = .int (lo8 (cs.getD j 0)) := by
  simp [List.getD_eq_getElem?_getD, h]
/-- an array of N2 bytes vs codes the chars cs by the coder cd -/
def CodA (cs : List Int32) (cd N2 : Int32) (vs : List Value) : Prop := (cd = 0 ∧ N2 = Int32.ofNat cs.length ∧ vs = (cs.map fun c => Value.int (lo8 c)) ∧ ∀ c ∈ cs, ¬ 255 < c) ∨ (cd = 1 ∧ N2 = Int32.ofNat (2 * cs.length) ∧ vs = wideBytes cs ∧ ∃ c ∈ cs, 255 < c)
theorem CodA.cod {cs : List Int32} {cd N2 : Int32} {vs : List Value} {V : Cell} (h : CodA cs cd N2 vs) (hn : 2 * cs.length < 2 ^ 31) (hs : V.slots.size = N2.toNatClampNeg) (hv : RoadKit.Has V vs (.int 0)) : Cod cd cs.length (fun j => cs.getD j 0) V := by
  rcases h with ⟨rfl, rfl, rfl, h⟩ | ⟨rfl, rfl, rfl, c, hc, hw⟩
  · rw [n32 (by omega)] at hs
    exact Or.inl ⟨rfl, hs, fun j hj => ⟨by rw [hv j (by omega), low_at _ _ _ hj], by
      have e : cs.getD j 0 = cs[j] := by simp [List.getD_eq_getElem?_getD, hj]
      show ¬ 255 < cs.getD j 0
      rw [e]; exact h _ (List.getElem_mem _)⟩⟩
  · rw [n32 (by omega)] at hs
    obtain ⟨j, hj, rfl⟩ := List.getElem_of_mem hc
    exact Or.inr ⟨rfl, hs, fun j hj => ⟨by rw [hv _ (by omega), wide_lo _ _ _ hj], by rw [hv _ (by omega), wide_hi _ _ _ hj]⟩, j, hj, by
      have e : cs.getD j 0 = cs[j] := by simp [List.getD_eq_getElem?_getD, hj]
      show 255 < cs.getD j 0
      rw [e]; exact hw⟩
/-- an object of exactly java/lang/String, its two fields found: as the laws ask it -/
theorem strObj {Z U : State} {a0 : Array Value} {kI : Nat} (wi : (Jvm.Cond.instantiable ST kI).before a0 Z = true) (al : Z.vm.Alike U.vm) {x : Addr} {v0 c0 : Value} (E : RoadKit.Exa Z U.heap x ST) (V : RoadKit.Fld Z U.heap x ST "value" "[B" v0) (C : RoadKit.Fld Z U.heap x ST "coder" "B" c0) :
    ∃ (D : Cell) (fV fC : Field), Blank ST x D U ∧ Found ST "value" "[B" fV U ∧ Found ST "coder" "B" fC U ∧ D.slots[fV.slot]? = some v0 ∧ D.slots[fC.slot]? = some c0 ∧ RoadKit.slotOf Z ST "value" "[B" = fV.slot ∧ RoadKit.slotOf Z ST "coder" "B" = fC.slot := by
  obtain ⟨D, cfV, kV, iV, fV, hD, gV, stV, knV, obV, asV, slV⟩ := V
  obtain ⟨D', cfC, kC, iC, fC, hD', gC, stC, -, -, asC, slC⟩ := C
  cases hD.symm.trans hD'
  obtain ⟨D2, kD, e1, e2, e3, e4, e5⟩ := E
  cases hD.symm.trans e1
  obtain ⟨c2, k2, i1, i2, i3, -⟩ := Cond.instantiable_spec wi
  cases e2.symm.trans i1
  cases e3.symm.trans i2
  obtain ⟨kU, u1, u2⟩ := al.2.2 _ _ e3
  exact ⟨D, fV, fC, ⟨hD, ⟨knV, fun q hq => by rw [hq] at obV; cases obV⟩, by rw [al.findClass]; exact e2, kU, u1, by rw [u2]; exact i3, by rw [u2]; exact e5 i3⟩, ⟨SBG.found_only al ⟨cfV, kV, iV, gV⟩, stV⟩, ⟨SBG.found_only al ⟨cfC, kC, iC, gC⟩, stC⟩, slV, slC, by simp [RoadKit.slotOf, gV], by simp [RoadKit.slotOf, gC]⟩
theorem sta_is {Z U : State} (al : Z.vm.Alike U.vm) {C n d : String} {v : Value} (S : RoadKit.Sta Z U.heap C n d v) : StaticIs U C n d v := by
  obtain ⟨cfS, iS, kS, fS, st, cS, t1, t2, t3, t4, t5, t6, t7⟩ := S
  exact StaticIs.there (s := { Z with heap := U.heap }) ⟨cfS, iS, kS, fS, st, cS, t1, t2, t3, t4, t5, (fun q => by rw [q] at t6; cases t6), t7⟩ al rfl
end StrChars.Road
namespace StrChars
open Jvm Sem ClassFile Op Lib Jvm.Stand Jvm.Free.XT Jvm.Free.ALB Jvm.Free.JM Jvm.Free
open Jvm.Lib.Cold (StaticIs)
/-- what place i of a byte[]'s cell holds -/
def yv (A : Cell) (i : Nat) : Int32 := match A.slots[i]? with | some (.int x) => x | _ => 0
theorem yv_get {a : Addr} {A : Cell} {U : State} (h : XT.Arr .byte a A U) (ht : Typed .byte A) {i : Nat} (hi : i < A.slots.size) : A.slots[i]? = some (.int (yv A i)) := by
  have e := Array.getElem?_eq_getElem hi
  have f := ht i _ e
  unfold yv; rw [e]
  generalize A.slots[i] = v at f
  cases v <;> simp [fits] at f ⊢
/-- the two arrays are equal, place for place -/
def EqC (A B : Cell) : Prop := A.slots.size = B.slots.size ∧ ∀ i, i < A.slots.size → yv A i = yv B i
/-- a boolean that says whether p -/
def Says01 (q : Prop) (r : Option Value) (s u : State) : Prop := ∃ v : Int32, r = some (.int v) ∧ u.heap = s.heap ∧ ((v = 1 ∧ q) ∨ (v = 0 ∧ ¬ q))
theorem Says01.mv {q : Prop} : ∀ r (U U' V V' : State), U'.heap = U.heap → V.vm.Alike V'.vm → V'.heap = V.heap → Says01 q r U V → Says01 q r U' V' :=
  fun r U U' V V' h1 _ h2 ⟨v, a, b, c⟩ => ⟨v, a, by rw [h1, h2]; exact b, c⟩
namespace LEq
def yN : MethodName := ⟨"java/lang/StringLatin1", "equals", "([B[B)Z"⟩
abbrev yB : ByteArray := jdk_43_method_13_code
theorem d0 : decode yB 0 = .ok (.aload_n 0, 1) := by decide +kernel
theorem d1 : decode yB 1 = .ok (.arraylength, 1) := by decide +kernel
theorem d2 : decode yB 2 = .ok (.aload_n 1, 1) := by decide +kernel
theorem d3 : decode yB 3 = .ok (.arraylength, 1) := by decide +kernel
theorem d4 : decode yB 4 = .ok (.if_icmp (.ne) 30, 3) := by decide +kernel
theorem d7 : decode yB 7 = .ok (.iconst 0, 1) := by decide +kernel
theorem d8 : decode yB 8 = .ok (.istore_n 2, 1) := by decide +kernel
theorem d9 : decode yB 9 = .ok (.iload_n 2, 1) := by decide +kernel
theorem d10 : decode yB 10 = .ok (.aload_n 0, 1) := by decide +kernel
theorem d11 : decode yB 11 = .ok (.arraylength, 1) := by decide +kernel
theorem d12 : decode yB 12 = .ok (.if_icmp (.ge) 20, 3) := by decide +kernel
theorem d15 : decode yB 15 = .ok (.aload_n 0, 1) := by decide +kernel
theorem d16 : decode yB 16 = .ok (.iload_n 2, 1) := by decide +kernel
theorem d17 : decode yB 17 = .ok (.baload, 1) := by decide +kernel
theorem d18 : decode yB 18 = .ok (.aload_n 1, 1) := by decide +kernel
theorem d19 : decode yB 19 = .ok (.iload_n 2, 1) := by decide +kernel
theorem d20 : decode yB 20 = .ok (.baload, 1) := by decide +kernel
theorem d21 : decode yB 21 = .ok (.if_icmp (.eq) 5, 3) := by decide +kernel
theorem d24 : decode yB 24 = .ok (.iconst 0, 1) := by decide +kernel
theorem d25 : decode yB 25 = .ok (.ireturn, 1) := by decide +kernel
theorem d26 : decode yB 26 = .ok (.iinc 2 1, 3) := by decide +kernel
theorem d29 : decode yB 29 = .ok (.goto (-20), 3) := by decide +kernel
theorem d32 : decode yB 32 = .ok (.iconst 1, 1) := by decide +kernel
theorem d33 : decode yB 33 = .ok (.ireturn, 1) := by decide +kernel
theorem d34 : decode yB 34 = .ok (.iconst 0, 1) := by decide +kernel
theorem d35 : decode yB 35 = .ok (.ireturn, 1) := by decide +kernel
def site : List Cond := []
def tab : Cond := tabOf yN yB 3 (some .boolean) site
def P (a : Addr) (A : Cell) (b : Addr) (B : Cell) (args : Array Value) (s : State) : Prop := args = #[.ref a, .ref b] ∧ XT.Arr .byte a A s ∧ Typed .byte A ∧ XT.Arr .byte b B s ∧ Typed .byte B
/-- whether two byte[] are equal, place for place -/
theorem law (l : Launch) (a : Addr) (A : Cell) (b : Addr) (B : Cell) : Law l yN 2 2 0 0 yB 3 (some .boolean) site (P a A b B) (Says01 (EqC A B)) [] 0 0 := by
  refine Law.of_walk (plainFor_of_name (by decide +kernel)) (by decide +kernel) (by decide +kernel) (by decide) (fun _ _ h => by rw [h.1]; rfl) (fun _ U U' hal hh h => ⟨h.1, h.2.1.mv hal hh, h.2.2.1, h.2.2.2.1.mv hal hh, h.2.2.2.2⟩) (fun r U U' V V' h1 hal h2 h => Says01.mv r U U' V V' h1 hal h2 h) ?_
  intro p e s m args below meth c s₁ X0 hexec hbytes hml hret hlk hnm hown hh0 W hP
  obtain ⟨rfl, hA, tA, hB, tB⟩ := hP
  have a31 := hA.2.2.2
  have b31 := hB.2.2.2
  have hA0 := hA.mv X0.warmed.alike hh0
  have hB0 := hB.mv X0.warmed.alike hh0
  have c1 : Steps p.tables e below (s₁.setTop (entryFrame m #[.ref a, .ref b] 3)) (s₁.setTop (mkF m 0 #[.val (.ref a), .val (.ref b), .unset] [])) := entry rfl
  have c2 : Steps p.tables e below (s₁.setTop (entryFrame m #[.ref a, .ref b] 3)) (s₁.setTop (mkF m 4 #[.val (.ref a), .val (.ref b), .unset] [.int (Int32.ofNat B.slots.size), .int (Int32.ofNat A.slots.size)])) := c1.trans (by
    refine XS.aloadN X0.here hexec rfl (hb hbytes d0) rfl rfl ?_
    refine X0.alen hexec hA0 rfl rfl (hb hbytes d1) ?_
    refine XS.aloadN X0.here hexec rfl (hb hbytes d2) rfl rfl ?_
    refine X0.alen hexec hB0 rfl rfl (hb hbytes d3) ?_
    exact Steps.refl _)
  by_cases hs : A.slots.size = B.slots.size
  · have c3 : Steps p.tables e below (s₁.setTop (entryFrame m #[.ref a, .ref b] 3)) (s₁.setTop (mkF m 9 #[.val (.ref a), .val (.ref b), .val (.int 0)] [])) := c2.trans (by
      refine XS.icmpNo X0.here hexec rfl (hb hbytes d4) rfl (ii_ne_f (by rw [hs])) ?_
      refine iconstV X0.here hexec rfl 0 (hb hbytes d7) (by decide) ?_
      refine XS.istoreN X0.here hexec rfl (hb hbytes d8) rfl rfl ?_
      exact Steps.refl _)
    have loop : ∀ (r i : Nat), i + r = A.slots.size → (∀ j, j < i → yv A j = yv B j) → Steps p.tables e below (s₁.setTop (entryFrame m #[.ref a, .ref b] 3)) (s₁.setTop (mkF m 9 #[.val (.ref a), .val (.ref b), .val (.int (Int32.ofNat i))] [])) → ∃ (pc : Nat) (Ls : Array Slot) (v : Int32), (pc = 25 ∨ pc = 33) ∧ ((v = 1 ∧ EqC A B) ∨ (v = 0 ∧ ¬ EqC A B)) ∧ Steps p.tables e below (s₁.setTop (entryFrame m #[.ref a, .ref b] 3)) (s₁.setTop (mkF m pc Ls [.int v])) := by
      intro r
      induction r with
      | zero =>
        intro i hi he cl
        exact ⟨33, _, 1, Or.inr rfl, Or.inl ⟨rfl, hs, fun j hj => he j (by omega)⟩, cl.trans (by
          refine XS.iloadN X0.here hexec rfl (hb hbytes d9) rfl ?_
          refine XS.aloadN X0.here hexec rfl (hb hbytes d10) rfl rfl ?_
          refine X0.alen hexec hA0 rfl rfl (hb hbytes d11) ?_
          refine XS.icmpYes X0.here hexec rfl (pc0 := 12) rfl (hb hbytes d12) rfl (ii_ge_t (nlt32 (by omega) (by omega))) (by decide) rfl ?_
          refine iconstV X0.here hexec rfl 1 (hb hbytes d32) (by decide) ?_
          exact Steps.refl _)⟩
      | succ r ih =>
        intro i hi he cl
        have c4 : Steps p.tables e below (s₁.setTop (entryFrame m #[.ref a, .ref b] 3)) (s₁.setTop (mkF m 21 #[.val (.ref a), .val (.ref b), .val (.int (Int32.ofNat i))] [.int (yv B i), .int (yv A i)])) := cl.trans (by
          refine XS.iloadN X0.here hexec rfl (hb hbytes d9) rfl ?_
          refine XS.aloadN X0.here hexec rfl (hb hbytes d10) rfl rfl ?_
          refine X0.alen hexec hA0 rfl rfl (hb hbytes d11) ?_
          refine XS.icmpNo X0.here hexec rfl (hb hbytes d12) rfl (ii_ge_f (lt32 (by omega) (by omega))) ?_
          refine XS.aloadN X0.here hexec rfl (hb hbytes d15) rfl rfl ?_
          refine XS.iloadN X0.here hexec rfl (hb hbytes d16) rfl ?_
          refine X0.aget hexec hA0 rfl (yv_get hA tA (i := i) (by omega)) rfl rfl (hb hbytes d17) ?_
          refine XS.aloadN X0.here hexec rfl (hb hbytes d18) rfl rfl ?_
          refine XS.iloadN X0.here hexec rfl (hb hbytes d19) rfl ?_
          refine X0.aget hexec hB0 rfl (yv_get hB tB (i := i) (by omega)) rfl rfl (hb hbytes d20) ?_
          exact Steps.refl _)
        by_cases hv : yv A i = yv B i
        · have c5 : Steps p.tables e below (s₁.setTop (entryFrame m #[.ref a, .ref b] 3)) (s₁.setTop (mkF m 9 #[.val (.ref a), .val (.ref b), .val (.int (Int32.ofNat i + 1))] [])) := c4.trans (by
            refine XS.icmpYes X0.here hexec rfl (pc0 := 21) rfl (hb hbytes d21) rfl (ii_eq_t hv) (by decide) rfl ?_
            refine iincV X0.here hexec rfl 1 (hb hbytes d26) (by decide) rfl rfl ?_
            refine XS.goto X0.here hexec rfl (pc0 := 29) rfl (hb hbytes d29) (by decide) rfl ?_
            exact Steps.refl _)
          rw [succ32] at c5
          exact ih (i + 1) (by omega) (fun j hj => by
            by_cases e : j = i
            · rw [e]; exact hv
            · exact he j (by omega)) c5
        · exact ⟨25, _, 0, Or.inl rfl, Or.inr ⟨rfl, fun q => hv (q.2 i (by omega))⟩, c4.trans (by
            refine XS.icmpNo X0.here hexec rfl (hb hbytes d21) rfl (ii_eq_f hv) ?_
            refine iconstV X0.here hexec rfl 0 (hb hbytes d24) (by decide) ?_
            exact Steps.refl _)⟩
    obtain ⟨pc, Ls, v, hpc, hv, cz⟩ := loop A.slots.size 0 (by omega) (fun j hj => absurd hj (Nat.not_lt_zero j)) c3
    have nv : narrow .boolean (.int v) = .int v := by rcases hv with ⟨rfl, -⟩ | ⟨rfl, -⟩ <;> rfl
    rcases hpc with rfl | rfl
    · exact ⟨s₁, some (.int v), _, _, _, X0, rfl, rfl, rfl, (fun h => by cases h), ⟨v, rfl, hh0, hv⟩, fun fs hl => cz.trans (X0.ireturnOut hexec hret nv (Or.inr (Or.inl rfl)) (hb hbytes d25) hl)⟩
    · exact ⟨s₁, some (.int v), _, _, _, X0, rfl, rfl, rfl, (fun h => by cases h), ⟨v, rfl, hh0, hv⟩, fun fs hl => cz.trans (X0.ireturnOut hexec hret nv (Or.inr (Or.inl rfl)) (hb hbytes d33) hl)⟩
  · have c3 : Steps p.tables e below (s₁.setTop (entryFrame m #[.ref a, .ref b] 3)) (s₁.setTop (mkF m 35 #[.val (.ref a), .val (.ref b), .unset] [.int 0])) := c2.trans (by
      refine XS.icmpYes X0.here hexec rfl (pc0 := 4) rfl (hb hbytes d4) rfl (ii_ne_t (ne32 a31 b31 hs)) (by decide) rfl ?_
      refine iconstV X0.here hexec rfl 0 (hb hbytes d34) (by decide) ?_
      exact Steps.refl _)
    exact ⟨s₁, some (.int 0), _, _, _, X0, rfl, rfl, rfl, (fun h => by cases h), ⟨0, rfl, hh0, Or.inr ⟨rfl, fun q => hs q.1⟩⟩, fun fs hl => c3.trans (X0.ireturnOut hexec hret rfl (Or.inr (Or.inl rfl)) (hb hbytes d35) hl)⟩
end LEq
theorem Cod.ty {cd : Int32} {n : Nat} {f : Nat → Int32} {V : Cell} (h : Cod cd n f V) : Typed .byte V := fun i v hv => by
  have hi : i < V.slots.size := (Array.getElem?_eq_some_iff.mp hv).1
  rcases h with ⟨-, k1, k2⟩ | ⟨-, k1, k2, -⟩
  · rw [(k2 i (by omega)).1] at hv; cases hv; exact fits_lo8 _
  · rcases Nat.mod_two_eq_zero_or_one i with e | e
    · obtain ⟨j, rfl⟩ : ∃ j, i = 2 * j := ⟨i / 2, by omega⟩
      rw [(k2 j (by omega)).1] at hv; cases hv; exact fits_lo8 _
    · obtain ⟨j, rfl⟩ : ∃ j, i = 2 * j + 1 := ⟨i / 2, by omega⟩
      rw [(k2 j (by omega)).2] at hv; cases hv; exact fits_lo8 _
/-- the same text -/
def SameT (n : Nat) (f : Nat → Int32) (k : Nat) (g : Nat → Int32) : Prop := n = k ∧ ∀ j, j < n → f j = g j
theorem lo8_inj {x y : Int32} (h0 : ¬ x < 0) (h1 : ¬ 255 < x) (k0 : ¬ y < 0) (k1 : ¬ 255 < y) (h : lo8 x = lo8 y) : x = y := by
  rw [← lo8_mask h0 h1, ← lo8_mask k0 k1, h]
/-- arrays coded by one coder are equal just where the texts are -/
theorem Cod.eqv {cd : Int32} {n k : Nat} {f g : Nat → Int32} {V V' : Cell} (h : Cod cd n f V) (h' : Cod cd k g V') (hf : ∀ j, j < n → ¬ f j < 0 ∧ ¬ 65535 < f j) (hg : ∀ j, j < k → ¬ g j < 0 ∧ ¬ 65535 < g j) : EqC V V' ↔ SameT n f k g := by
  have yvv : ∀ {W : Cell} {i : Nat} {x : Int32}, W.slots[i]? = some (.int x) → yv W i = x := fun q => by unfold yv; rw [q]
  rcases h with ⟨rfl, k1, k2⟩ | ⟨rfl, k1, k2, -⟩
  · rcases h' with ⟨-, m1, m2⟩ | ⟨e, -⟩
    · constructor
      · rintro ⟨e1, e2⟩
        refine ⟨by omega, fun j hj => ?_⟩
        have q := e2 j (by omega)
        rw [yvv (k2 j hj).1, yvv (m2 j (by omega)).1] at q
        exact lo8_inj (hf j hj).1 (k2 j hj).2 (hg j (by omega)).1 (m2 j (by omega)).2 q
      · rintro ⟨rfl, e2⟩
        refine ⟨by omega, fun j hj => ?_⟩
        rw [yvv (k2 j (by omega)).1, yvv (m2 j (by omega)).1, e2 j (by omega)]
    · exact absurd e (by decide)
  · rcases h' with ⟨e, -⟩ | ⟨-, m1, m2, -⟩
    · exact absurd e (by decide)
    · constructor
      · rintro ⟨e1, e2⟩
        refine ⟨by omega, fun j hj => ?_⟩
        have q1 := e2 (2 * j) (by omega)
        have q2 := e2 (2 * j + 1) (by omega)
        rw [yvv (k2 j hj).1, yvv (m2 j (by omega)).1] at q1
        rw [yvv (k2 j hj).2, yvv (m2 j (by omega)).2] at q2
        rw [← pair_says (hf j hj).1 (hf j hj).2, ← pair_says (hg j (by omega)).1 (hg j (by omega)).2, q1, q2]
      · rintro ⟨rfl, e2⟩
        refine ⟨by omega, fun i hi => ?_⟩
        rcases Nat.mod_two_eq_zero_or_one i with e | e
        · obtain ⟨j, rfl⟩ : ∃ j, i = 2 * j := ⟨i / 2, by omega⟩
          rw [yvv (k2 j (by omega)).1, yvv (m2 j (by omega)).1, e2 j (by omega)]
        · obtain ⟨j, rfl⟩ : ∃ j, i = 2 * j + 1 := ⟨i / 2, by omega⟩
          rw [yvv (k2 j (by omega)).2, yvv (m2 j (by omega)).2, e2 j (by omega)]
/-- two codings differ: so do the texts -/
theorem Cod.dif {cd cd' : Int32} {n k : Nat} {f g : Nat → Int32} {V V' : Cell} (h : Cod cd n f V) (h' : Cod cd' k g V') (hne : ¬ cd = cd') : ¬ SameT n f k g := by
  rintro ⟨rfl, e⟩
  rcases h with ⟨rfl, -, k2⟩ | ⟨rfl, -, -, j, hj, hw⟩
  · rcases h' with ⟨rfl, -⟩ | ⟨-, -, -, j, hj, hw⟩
    · exact hne rfl
    · exact (k2 j hj).2 (by rw [e j hj]; exact hw)
  · rcases h' with ⟨-, -, m2⟩ | ⟨rfl, -⟩
    · exact (m2 j hj).2 (by rw [← e j hj]; exact hw)
    · exact hne rfl
/-- an object of exactly C is an instance of C -/
theorem cinst {p : Program} {l : Launch} {e : Env} {R : Room} {s : State} {m : MethodId} {args : Array Value} {below : List Frame} {meth : Method} {c : Code} {T : State} {locs : List Loc} {cells slots : Nat} (X : Stand p l e R s m args below meth c T locs cells slots) (hexec : p.tables.exec = Jvm.exec) {own C : String} {index : Nat} (hown : s.vm.findClass own = some m.cls) (hlink : (Cond.classLink own index C).before args s = true) {a : Addr} (hE : Exact C a T)
    {g : JFrame} (hg : g.method = m) {rest : List Value} (hstack : g.stack = .ref a :: rest) (hdg : decode c.code g.pc = .ok (.instanceof index, 3)) :
    ∃ T', Stand p l e R s m args below meth c T' locs cells slots ∧ T'.heap = T.heap ∧ ∀ target, Steps p.tables e below (T'.setTop { g with pc := g.pc + 3, stack := .int 1 :: rest }) target → Steps p.tables e below (T.setTop g) target := by
  obtain ⟨cB, h1, D, h2, h3, h4⟩ := hE
  have h1' : s.vm.findClass C = some cB := by rw [← X.warmed.alike.findClass]; exact h1
  obtain ⟨vm', X', st⟩ := X.instanceofYes hexec hown hlink h2 h4 h1' (by rw [h3]; exact Jvm.Free.SB.assignable_self _ _) hg hstack hdg
  exact ⟨_, X', rfl, st⟩
theorem cself {p : Program} {l : Launch} {e : Env} {R : Room} {s : State} {m : MethodId} {args : Array Value} {below : List Frame} {meth : Method} {c : Code} {T : State} {locs : List Loc} {cells slots : Nat} (X : Stand p l e R s m args below meth c T locs cells slots) (hexec : p.tables.exec = Jvm.exec) {own C : String} {index : Nat} (hown : s.vm.findClass own = some m.cls) (hlink : (Cond.classLink own index C).before args s = true) {a : Addr} (hE : Exact C a T)
    {g : JFrame} (hg : g.method = m) {rest : List Value} (hstack : g.stack = .ref a :: rest) (hdg : decode c.code g.pc = .ok (.checkcast index, 3)) :
    ∃ T', Stand p l e R s m args below meth c T' locs cells slots ∧ T'.heap = T.heap ∧ ∀ target, Steps p.tables e below (T'.setTop { g with pc := g.pc + 3, stack := .ref a :: rest }) target → Steps p.tables e below (T.setTop g) target := by
  obtain ⟨cB, h1, D, h2, h3, h4⟩ := hE
  have h1' : s.vm.findClass C = some cB := by rw [← X.warmed.alike.findClass]; exact h1
  obtain ⟨vm', X', st⟩ := X.checkcastYes hexec hown hlink h2 h4 h1' (by rw [h3]; exact Jvm.Free.SB.assignable_self _ _) hg hstack hdg
  exact ⟨_, X', rfl, fun t h => st t (by rw [← hstack] at h; exact h)⟩
namespace SEq
def yN : MethodName := ⟨"java/lang/String", "equals", "(Ljava/lang/Object;)Z"⟩
abbrev yB : ByteArray := jdk_42_method_66_code
theorem d0 : decode yB 0 = .ok (.aload_n 0, 1) := by decide +kernel
theorem d1 : decode yB 1 = .ok (.aload_n 1, 1) := by decide +kernel
theorem d2 : decode yB 2 = .ok (.if_acmp (.ne) 5, 3) := by decide +kernel
theorem d5 : decode yB 5 = .ok (.iconst 1, 1) := by decide +kernel
theorem d6 : decode yB 6 = .ok (.ireturn, 1) := by decide +kernel
theorem d7 : decode yB 7 = .ok (.aload_n 1, 1) := by decide +kernel
theorem d8 : decode yB 8 = .ok (.instanceof 10, 3) := by decide +kernel
theorem d11 : decode yB 11 = .ok (.ifCond (.eq) 43, 3) := by decide +kernel
theorem d14 : decode yB 14 = .ok (.aload_n 1, 1) := by decide +kernel
theorem d15 : decode yB 15 = .ok (.checkcast 10, 3) := by decide +kernel
theorem d18 : decode yB 18 = .ok (.astore_n 2, 1) := by decide +kernel
theorem d19 : decode yB 19 = .ok (.getstatic 38, 3) := by decide +kernel
theorem d22 : decode yB 22 = .ok (.ifCond (.eq) 14, 3) := by decide +kernel
theorem d25 : decode yB 25 = .ok (.aload_n 0, 1) := by decide +kernel
theorem d26 : decode yB 26 = .ok (.getfield 15, 3) := by decide +kernel
theorem d29 : decode yB 29 = .ok (.aload_n 2, 1) := by decide +kernel
theorem d30 : decode yB 30 = .ok (.getfield 15, 3) := by decide +kernel
theorem d33 : decode yB 33 = .ok (.if_icmp (.ne) 21, 3) := by decide +kernel
theorem d36 : decode yB 36 = .ok (.aload_n 0, 1) := by decide +kernel
theorem d37 : decode yB 37 = .ok (.getfield 9, 3) := by decide +kernel
theorem d40 : decode yB 40 = .ok (.aload_n 2, 1) := by decide +kernel
theorem d41 : decode yB 41 = .ok (.getfield 9, 3) := by decide +kernel
theorem d44 : decode yB 44 = .ok (.invokestatic 541, 3) := by decide +kernel
theorem d47 : decode yB 47 = .ok (.ifCond (.eq) 7, 3) := by decide +kernel
theorem d50 : decode yB 50 = .ok (.iconst 1, 1) := by decide +kernel
theorem d51 : decode yB 51 = .ok (.goto 4, 3) := by decide +kernel
theorem d54 : decode yB 54 = .ok (.iconst 0, 1) := by decide +kernel
theorem d55 : decode yB 55 = .ok (.ireturn, 1) := by decide +kernel
def site : List Cond := [.classLink "java/lang/String" 10 "java/lang/String", .fieldLink "java/lang/String" 38 "java/lang/String" "COMPACT_STRINGS" "Z", .fieldLink "java/lang/String" 15 "java/lang/String" "coder" "B", .fieldLink "java/lang/String" 9 "java/lang/String" "value" "[B", LEq.tab] ++ staticW "java/lang/String" 541 LEq.yN
def tab : Cond := tabOf yN yB 3 (some .boolean) site
def P (x t : Addr) (V : Cell) (cd : Int32) (n : Nat) (f : Nat → Int32) (y t' : Addr) (V' : Cell) (cd' : Int32) (k : Nat) (g : Nat → Int32) (z : Int32) (args : Array Value) (s : State) : Prop := args = #[.ref x, .ref y] ∧ Txt x t V cd n f s ∧ Txt y t' V' cd' k g s ∧ StaticIs s "java/lang/String" "COMPACT_STRINGS" "Z" (.int z) ∧ ¬ z = 0
/-- equals(Object) of two Strings: whether the texts are the same -/
theorem law (l : Launch) (x t : Addr) (V : Cell) (cd : Int32) (n : Nat) (f : Nat → Int32) (y t' : Addr) (V' : Cell) (cd' : Int32) (k : Nat) (g : Nat → Int32) (z : Int32) : Law l yN 2 1 1 14 yB 3 (some .boolean) site (P x t V cd n f y t' V' cd' k g z) (Says01 (SameT n f k g)) [] 0 0 := by
  refine Law.of_walk (plainFor_of_name (by decide +kernel)) (by decide +kernel) (by decide +kernel) (by decide) (fun _ _ h => by rw [h.1]; rfl) (fun _ U U' hal hh h => ⟨h.1, h.2.1.mv hal hh, h.2.2.1.mv hal hh, h.2.2.2.1.there hal hh, h.2.2.2.2⟩) (fun r U U' V V' h1 hal h2 h => Says01.mv r U U' V V' h1 hal h2 h) ?_
  intro p e s m args below meth c s₁ X0 hexec hbytes hml hret hlk hnm hown hh0 W hP
  obtain ⟨rfl, hx, hy, s1, hz⟩ := hP
  have c1 : Steps p.tables e below (s₁.setTop (entryFrame m #[.ref x, .ref y] 3)) (s₁.setTop (mkF m 2 #[.val (.ref x), .val (.ref y), .unset] [.ref y, .ref x])) := Steps.trans (entry rfl) (by
    show Steps p.tables e below (s₁.setTop (mkF m 0 #[.val (.ref x), .val (.ref y), .unset] [])) _
    refine XS.aloadN X0.here hexec rfl (hb hbytes d0) rfl rfl ?_
    refine XS.aloadN X0.here hexec rfl (hb hbytes d1) rfl rfl ?_
    exact Steps.refl _)
  by_cases hxy : x = y
  · have c2 : Steps p.tables e below (s₁.setTop (entryFrame m #[.ref x, .ref y] 3)) (s₁.setTop (mkF m 6 #[.val (.ref x), .val (.ref y), .unset] [.int 1])) := c1.trans (by
      refine acmpNo X0.here hexec rfl (hb hbytes d2) rfl rfl rfl (by simp [acmp, hxy]) ?_
      refine iconstV X0.here hexec rfl 1 (hb hbytes d5) (by decide) ?_
      exact Steps.refl _)
    subst hxy
    have ec : cd = cd' := by
      obtain ⟨D, fd, a1, a2, a3⟩ := hx.2.2.1
      obtain ⟨D', fd', b1, b2, b3⟩ := hy.2.2.1
      cases a1.symm.trans b1
      obtain ⟨q1, q2, q3, q4⟩ := a2.1
      obtain ⟨r1, r2, r3, r4⟩ := b2.1
      cases q4.symm.trans r4
      cases a3.symm.trans b3; rfl
    have et : t = t' := by
      obtain ⟨D, fd, a1, a2, a3⟩ := hx.2.1
      obtain ⟨D', fd', b1, b2, b3⟩ := hy.2.1
      cases a1.symm.trans b1
      obtain ⟨q1, q2, q3, q4⟩ := a2.1
      obtain ⟨r1, r2, r3, r4⟩ := b2.1
      cases q4.symm.trans r4
      cases a3.symm.trans b3; rfl
    subst ec et
    have ev : V = V' := by cases hx.2.2.2.1.1.symm.trans hy.2.2.2.1.1; rfl
    subst ev
    have hs : SameT n f k g := (Cod.eqv hx.2.2.2.2.1 hy.2.2.2.2.1 hx.2.2.2.2.2 hy.2.2.2.2.2).mp ⟨rfl, fun _ _ => rfl⟩
    exact ⟨s₁, some (.int 1), _, _, _, X0, rfl, rfl, rfl, (fun h => by cases h), ⟨1, rfl, hh0, Or.inl ⟨rfl, hs⟩⟩, fun fs hl => c2.trans (X0.ireturnOut hexec hret rfl (Or.inr (Or.inl rfl)) (hb hbytes d6) hl)⟩
  · have c2 : Steps p.tables e below (s₁.setTop (entryFrame m #[.ref x, .ref y] 3)) (s₁.setTop (mkF m 8 #[.val (.ref x), .val (.ref y), .unset] [.ref y])) := c1.trans (by
      refine acmpYes X0.here hexec rfl (pc0 := 2) rfl (hb hbytes d2) rfl rfl rfl (by simp [acmp, hxy]) (by decide) rfl ?_
      refine XS.aloadN X0.here hexec rfl (hb hbytes d7) rfl rfl ?_
      exact Steps.refl _)
    obtain ⟨T3, X3, q3, st3⟩ := cinst X0 hexec hown (wk W (.classLink "java/lang/String" 10 "java/lang/String")) (hy.mv X0.warmed.alike hh0).1 (g := (mkF m 8 #[.val (.ref x), .val (.ref y), .unset] [.ref y])) rfl (rest := []) rfl (hb hbytes d8)
    have hh3 := q3.trans hh0
    have c4 : Steps p.tables e below (s₁.setTop (entryFrame m #[.ref x, .ref y] 3)) (T3.setTop (mkF m 15 #[.val (.ref x), .val (.ref y), .unset] [.ref y])) := (c2.trans (st3 _ (Steps.refl _))).trans (by
      refine XS.ifNo X3.here hexec rfl (hb hbytes d11) rfl (i0_eq_f (by decide)) ?_
      refine XS.aloadN X3.here hexec rfl (hb hbytes d14) rfl rfl ?_
      exact Steps.refl _)
    obtain ⟨T5, X5, q5, st5⟩ := cself X3 hexec hown (wk W (.classLink "java/lang/String" 10 "java/lang/String")) (hy.mv X3.warmed.alike hh3).1 (g := (mkF m 15 #[.val (.ref x), .val (.ref y), .unset] [.ref y])) rfl (rest := []) rfl (hb hbytes d15)
    have hh5 := q5.trans hh3
    have c6 : Steps p.tables e below (s₁.setTop (entryFrame m #[.ref x, .ref y] 3)) (T5.setTop (mkF m 19 #[.val (.ref x), .val (.ref y), .val (.ref y)] [])) := (c4.trans (st5 _ (Steps.refl _))).trans (by
      refine XS.astoreN X5.here hexec rfl (hb hbytes d18) rfl rfl rfl ?_
      exact Steps.refl _)
    obtain ⟨T7, X7, q7, st7⟩ := X5.sget hexec hown (wk W (.fieldLink "java/lang/String" 38 "java/lang/String" "COMPACT_STRINGS" "Z")) s1 (fun _ _ h => by rw [hh5]; exact h) (g := (mkF m 19 #[.val (.ref x), .val (.ref y), .val (.ref y)] [])) rfl (hb hbytes d19)
    have hh7 := q7.trans hh5
    have c8 : Steps p.tables e below (s₁.setTop (entryFrame m #[.ref x, .ref y] 3)) (T7.setTop (mkF m 26 #[.val (.ref x), .val (.ref y), .val (.ref y)] [.ref x])) := (c6.trans (st7 _ (Steps.refl _))).trans (by
      refine XS.ifNo X7.here hexec rfl (hb hbytes d22) rfl (i0_eq_f hz) ?_
      refine XS.aloadN X7.here hexec rfl (hb hbytes d25) rfl rfl ?_
      exact Steps.refl _)
    obtain ⟨T9, X9, q9, st9⟩ := X7.hget hexec hown (wk W (.fieldLink "java/lang/String" 15 "java/lang/String" "coder" "B")) (hx.mv X7.warmed.alike hh7).2.2.1 (g := (mkF m 26 #[.val (.ref x), .val (.ref y), .val (.ref y)] [.ref x])) rfl (rest := []) rfl (hb hbytes d26)
    have hh9 := q9.trans hh7
    have c10 : Steps p.tables e below (s₁.setTop (entryFrame m #[.ref x, .ref y] 3)) (T9.setTop (mkF m 30 #[.val (.ref x), .val (.ref y), .val (.ref y)] [.ref y, .int cd])) := (c8.trans (st9 _ (Steps.refl _))).trans (by
      refine XS.aloadN X9.here hexec rfl (hb hbytes d29) rfl rfl ?_
      exact Steps.refl _)
    obtain ⟨T11, X11, q11, st11⟩ := X9.hget hexec hown (wk W (.fieldLink "java/lang/String" 15 "java/lang/String" "coder" "B")) (hy.mv X9.warmed.alike hh9).2.2.1 (g := (mkF m 30 #[.val (.ref x), .val (.ref y), .val (.ref y)] [.ref y, .int cd])) rfl (rest := [.int cd]) rfl (hb hbytes d30)
    have hh11 := q11.trans hh9
    have c12 : Steps p.tables e below (s₁.setTop (entryFrame m #[.ref x, .ref y] 3)) (T11.setTop (mkF m 33 #[.val (.ref x), .val (.ref y), .val (.ref y)] [.int cd', .int cd])) := c10.trans (st11 _ (Steps.refl _))
    by_cases hcd : cd = cd'
    · subst hcd
      have c13 : Steps p.tables e below (s₁.setTop (entryFrame m #[.ref x, .ref y] 3)) (T11.setTop (mkF m 37 #[.val (.ref x), .val (.ref y), .val (.ref y)] [.ref x])) := c12.trans (by
        refine XS.icmpNo X11.here hexec rfl (hb hbytes d33) rfl (ii_ne_f rfl) ?_
        refine XS.aloadN X11.here hexec rfl (hb hbytes d36) rfl rfl ?_
        exact Steps.refl _)
      obtain ⟨T14, X14, q14, st14⟩ := X11.hget hexec hown (wk W (.fieldLink "java/lang/String" 9 "java/lang/String" "value" "[B")) (hx.mv X11.warmed.alike hh11).2.1 (g := (mkF m 37 #[.val (.ref x), .val (.ref y), .val (.ref y)] [.ref x])) rfl (rest := []) rfl (hb hbytes d37)
      have hh14 := q14.trans hh11
      have c15 : Steps p.tables e below (s₁.setTop (entryFrame m #[.ref x, .ref y] 3)) (T14.setTop (mkF m 41 #[.val (.ref x), .val (.ref y), .val (.ref y)] [.ref y, .ref t])) := (c13.trans (st14 _ (Steps.refl _))).trans (by
        refine XS.aloadN X14.here hexec rfl (hb hbytes d40) rfl rfl ?_
        exact Steps.refl _)
      obtain ⟨T16, X16, q16, st16⟩ := X14.hget hexec hown (wk W (.fieldLink "java/lang/String" 9 "java/lang/String" "value" "[B")) (hy.mv X14.warmed.alike hh14).2.1 (g := (mkF m 41 #[.val (.ref x), .val (.ref y), .val (.ref y)] [.ref y, .ref t])) rfl (rest := [.ref t]) rfl (hb hbytes d41)
      have hh16 := q16.trans hh14
      have c17 : Steps p.tables e below (s₁.setTop (entryFrame m #[.ref x, .ref y] 3)) (T16.setTop (mkF m 44 #[.val (.ref x), .val (.ref y), .val (.ref y)] [.ref t', .ref t])) := c15.trans (st16 _ (Steps.refl _))
      obtain ⟨v18, T18, X18, E18, g18⟩ := X16.callS hexec (LEq.law l t V t' V') hown (wks W (staticW "java/lang/String" 541 LEq.yN)) (wk W LEq.tab) (W := 0) (Nat.le_of_ble_eq_true rfl) (Nat.le_of_ble_eq_true rfl) (Nat.le_refl _) (Nat.le_refl _) (g := (mkF m 44 #[.val (.ref x), .val (.ref y), .val (.ref y)] [.ref t', .ref t])) rfl (by rw [hml]; rfl) c17 (argsL := [.ref t, .ref t']) (rest := []) rfl rfl (by show 2 * 0 + 0 ≤ _; decide) (hb hbytes d44) (⟨rfl, hx.2.2.2.1.mv X16.warmed.alike hh16, hx.2.2.2.2.1.ty, hy.2.2.2.1.mv X16.warmed.alike hh16, hy.2.2.2.2.1.ty⟩)
      obtain ⟨v, rfl, q18, hv⟩ := E18
      have iff := Cod.eqv hx.2.2.2.2.1 hy.2.2.2.2.1 hx.2.2.2.2.2 hy.2.2.2.2.2
      rcases hv with ⟨rfl, he⟩ | ⟨rfl, he⟩
      · have c19 : Steps p.tables e below (s₁.setTop (entryFrame m #[.ref x, .ref y] 3)) (T18.setTop (mkF m 55 #[.val (.ref x), .val (.ref y), .val (.ref y)] [.int 1])) := Steps.trans g18 (by
          refine XS.ifNo X18.here hexec rfl (hb hbytes d47) rfl (i0_eq_f (by decide)) ?_
          refine iconstV X18.here hexec rfl 1 (hb hbytes d50) (by decide) ?_
          refine XS.goto X18.here hexec rfl (pc0 := 51) rfl (hb hbytes d51) (by decide) rfl ?_
          exact Steps.refl _)
        exact ⟨T18, some (.int 1), _, _, _, X18, rfl, rfl, rfl, (fun h => by cases h), ⟨1, rfl, q18.trans hh16, Or.inl ⟨rfl, iff.mp he⟩⟩, fun fs hl => c19.trans (X18.ireturnOut hexec hret rfl (Or.inr (Or.inl rfl)) (hb hbytes d55) hl)⟩
      · have c19 : Steps p.tables e below (s₁.setTop (entryFrame m #[.ref x, .ref y] 3)) (T18.setTop (mkF m 55 #[.val (.ref x), .val (.ref y), .val (.ref y)] [.int 0])) := Steps.trans g18 (by
          refine XS.ifYes X18.here hexec rfl (pc0 := 47) rfl (hb hbytes d47) rfl (i0_eq_t rfl) (by decide) rfl ?_
          refine iconstV X18.here hexec rfl 0 (hb hbytes d54) (by decide) ?_
          exact Steps.refl _)
        exact ⟨T18, some (.int 0), _, _, _, X18, rfl, rfl, rfl, (fun h => by cases h), ⟨0, rfl, q18.trans hh16, Or.inr ⟨rfl, fun q => he (iff.mpr q)⟩⟩, fun fs hl => c19.trans (X18.ireturnOut hexec hret rfl (Or.inr (Or.inl rfl)) (hb hbytes d55) hl)⟩
    · have c13 : Steps p.tables e below (s₁.setTop (entryFrame m #[.ref x, .ref y] 3)) (T11.setTop (mkF m 55 #[.val (.ref x), .val (.ref y), .val (.ref y)] [.int 0])) := c12.trans (by
        refine XS.icmpYes X11.here hexec rfl (pc0 := 33) rfl (hb hbytes d33) rfl (ii_ne_t hcd) (by decide) rfl ?_
        refine iconstV X11.here hexec rfl 0 (hb hbytes d54) (by decide) ?_
        exact Steps.refl _)
      exact ⟨T11, some (.int 0), _, _, _, X11, rfl, rfl, rfl, (fun h => by cases h), ⟨0, rfl, hh11, Or.inr ⟨rfl, Cod.dif hx.2.2.2.2.1 hy.2.2.2.2.1 hcd⟩⟩, fun fs hl => c13.trans (X11.ireturnOut hexec hret rfl (Or.inr (Or.inl rfl)) (hb hbytes d55) hl)⟩
theorem pays {l : Launch} {R : Room} {p : Program} {e : Env} {below : List Frame} {s : State} {sargs : Array Value} {len W : Nat} (x t : Addr) (V : Cell) (cd : Int32) (n : Nat) (f : Nat → Int32) (y t' : Addr) (V' : Cell) (cd' : Int32) (k : Nat) (g : Nat → Int32) (z : Int32) (htab : tab.before sargs s = true) (hfr : 2 ≤ R.frames) (hlo : W + 28 ≤ R.locals) :
    Back l R p e below s sargs yN len W (fun A₁ a₁ => A₁.cells + 0 ≤ R.cells ∧ A₁.slots + 0 ≤ R.slots ∧ P x t V cd n f y t' V' cd' k g z a₁ A₁.U) (fun A₁ _ v₁ B₁ => Says01 (SameT n f k g) v₁ A₁.U B₁.U ∧ B₁.locs = A₁.locs ++ [] ∧ B₁.cells = A₁.cells + 0 ∧ B₁.slots = A₁.slots + 0) :=
  (law l x t V cd n f y t' V' cd' k g z).pays htab hfr (by omega)
end SEq
end StrChars
namespace StrChars.Road
open Jvm Sem ClassFile Op Lib Jvm.Stand Jvm.Free Jvm.Free.XT
open Jvm.Lib.Cold (StaticIs)
/-- the words of String.equals(Object) -/
abbrev wordsEq : List Jvm.Cond := [.code SEq.yN SEq.yB 3 (some .boolean), .initialized ST, .classLink ST 10 ST, .fieldLink ST 38 ST "COMPACT_STRINGS" "Z", .fieldLink ST 15 ST "coder" "B", .fieldLink ST 9 ST "value" "[B", .methodLink ST 541 LEq.yN, .static LEq.yN, .code LEq.yN LEq.yB 3 (some .boolean), .initialized "java/lang/StringLatin1"]
theorem tabEq_of {a : Array Value} {s : State} (h : ∀ w ∈ wordsEq, w.before a s = true) : SEq.tab.before a s = true := by
  have hl : LEq.tab.before a s = true := unparts (wk h (.code LEq.yN LEq.yB 3 (some .boolean))) (wks h (.initialized LEq.yN.cls :: LEq.site))
  have q := consq hl h
  exact unparts (wk q (.code SEq.yN SEq.yB 3 (some .boolean))) (wks q (.initialized SEq.yN.cls :: SEq.site))
theorem movedEq {Z s : State} {a0 args : Array Value} (hZ : Z.Warmed39 s.vm) (hw : ∀ d ∈ wordsEq, d.before a0 Z = true) : ∀ d ∈ wordsEq, d.before args s = true := fun d hd => by
  have t : ∀ d ∈ wordsEq, (d.onTables && d.keepsFace) = true := by decide +kernel
  exact RoadKit.mv hZ (hw d hd) (t d hd)
/-- the road's facts of a String, as the laws ask it -/
theorem txt_of {Z U : State} {a0 : Array Value} {kI : Nat} (wi : (Jvm.Cond.instantiable ST kI).before a0 Z = true) (al : Z.vm.Alike U.vm) {x t : Addr} {kb : ClassId} {cs : List Int32} {cd N2 : Int32} {vs : List Value} (E : RoadKit.Exa Z U.heap x ST) (V : RoadKit.Fld Z U.heap x ST "value" "[B" (.ref t)) (C : RoadKit.Fld Z U.heap x ST "coder" "B" (.int cd)) (K : RoadKit.Arv Z U.heap t kb .byte N2 vs (.int 0)) (hc : CodA cs cd N2 vs) (hb : ∀ c ∈ cs, ¬ c < 0 ∧ ¬ (65535 : Int32) < c) (l2 : cs.length ≤ 4000) :
    ∃ A, Txt x t A cd cs.length (fun j => cs.getD j 0) U := by
  obtain ⟨A, K1, K2, K3, K4, K5, K6⟩ := K
  have hcod := hc.cod (by omega) K3 K5
  obtain ⟨D, fV, fC, hB, F1, F2, g1, g2, -, -⟩ := strObj wi al E V C
  exact ⟨A, ⟨_, hB.2.2.1, D, hB.1, rfl, by cases q : D.vm <;> first | rfl | exact absurd q (hB.2.1.2 _)⟩, Has.of hB F1 g1, Has.of hB F2 g2, ⟨K1.1, State.isArrayOf_alike al K1.2.1, K1.2.2, by rcases hcod with ⟨-, q, -⟩ | ⟨-, q, -⟩ <;> omega⟩, hcod, fun j hj => by
    have e : cs.getD j 0 = cs[j] := by simp [List.getD_eq_getElem?_getD, hj]
    show ¬ cs.getD j 0 < 0 ∧ ¬ 65535 < cs.getD j 0
    rw [e]; exact hb _ (List.getElem_mem _)⟩
theorem same_list (cs ds : List Int32) : SameT cs.length (fun j => cs.getD j 0) ds.length (fun j => ds.getD j 0) ↔ cs = ds := by
  constructor
  · rintro ⟨e, q⟩
    refine List.ext_getElem e fun j h1 h2 => ?_
    have := q j h1
    simpa [List.getD_eq_getElem?_getD, h1, h2] using this
  · rintro rfl
    exact ⟨rfl, fun _ _ => rfl⟩
/-- **equals(Object) OF TWO SUCH STRINGS**: 1 just where the chars are the same -/
theorem eqW {p : Program} {l : Launch} {e : Env} {R : Room} {s : State} {args : Array Value} {below : List Frame} {len W : Nat} {Z : State} {a0 : Array Value} {h : Heap} (hZ : Z.Warmed39 s.vm) (hw : ∀ d ∈ wordsEq, d.before a0 Z = true) {kI : Nat} (wi : (Jvm.Cond.instantiable ST kI).before a0 Z = true)
    {x t : Addr} {kb : ClassId} {cs : List Int32} {cd N2 : Int32} {vs : List Value} (E : RoadKit.Exa Z h x ST) (V : RoadKit.Fld Z h x ST "value" "[B" (.ref t)) (C : RoadKit.Fld Z h x ST "coder" "B" (.int cd)) (K : RoadKit.Arv Z h t kb .byte N2 vs (.int 0)) (hc : CodA cs cd N2 vs) (hb : ∀ c ∈ cs, ¬ c < 0 ∧ ¬ (65535 : Int32) < c) (l2 : cs.length ≤ 4000)
    {y t' : Addr} {kb' : ClassId} {ds : List Int32} {cd' N2' : Int32} {vs' : List Value} (E' : RoadKit.Exa Z h y ST) (V' : RoadKit.Fld Z h y ST "value" "[B" (.ref t')) (C' : RoadKit.Fld Z h y ST "coder" "B" (.int cd')) (K' : RoadKit.Arv Z h t' kb' .byte N2' vs' (.int 0)) (hc' : CodA ds cd' N2' vs') (hb' : ∀ c ∈ ds, ¬ c < 0 ∧ ¬ (65535 : Int32) < c) (l2' : ds.length ≤ 4000)
    {z : Int32} (S : RoadKit.Sta Z h ST "COMPACT_STRINGS" "Z" (.int z)) (hz : ¬ z = 0) (hfr : 2 ≤ R.frames) (hlo : W + 28 ≤ R.locals) :
    Back l R p e below s args (⟨"java/lang/String", "equals", "(Ljava/lang/Object;)Z"⟩ : MethodName) len W (fun P a => a = #[.ref x, .ref y] ∧ P.U.heap = h ∧ P.cells + 0 ≤ R.cells ∧ P.slots + 0 ≤ R.slots)
      (fun P _ v B => ∃ L, (((v = some (.int 1) ∧ cs = ds) ∨ (v = some (.int 0) ∧ ¬ cs = ds)) ∧ L = [] ∧ B.U.heap = h) ∧ B.locs = P.locs ++ L ∧ B.cells = P.cells + 0 ∧ B.slots = P.slots + 0) := by
  intro m meth c P g ig mk a X hg hsize hdg hW hn hp'
  obtain ⟨rfl, rfl, r1, r2⟩ := hp'
  have al : Z.vm.Alike P.U.vm := hZ.alike.trans X.warmed.alike
  obtain ⟨A, hx⟩ := txt_of wi al E V C K hc hb l2
  obtain ⟨A', hy⟩ := txt_of wi al E' V' C' K' hc' hb' l2'
  obtain ⟨v, B, X', ⟨⟨w, hv, hh, hq⟩, hl, hk, hs⟩, st⟩ := SEq.pays x t A cd cs.length (fun j => cs.getD j 0) y t' A' cd' ds.length (fun j => ds.getD j 0) z (tabEq_of (movedEq hZ hw)) hfr hlo m meth c P g ig mk _ X hg hsize hdg hW hn ⟨r1, r2, rfl, hx, hy, sta_is al S, hz⟩
  refine ⟨v, B, X', ⟨[], ⟨?_, rfl, hh⟩, hl, hk, hs⟩, st⟩
  rcases hq with ⟨rfl, q⟩ | ⟨rfl, q⟩
  · exact Or.inl ⟨hv, (same_list cs ds).mp q⟩
  · exact Or.inr ⟨hv, fun e => q ((same_list cs ds).mpr e)⟩
end StrChars.Road
namespace StrChars
open Jvm Sem ClassFile Op Lib Jvm.Stand Jvm.Free.XT Jvm.Free.ALB Jvm.Free.JM Jvm.Free
open Jvm.Lib.Cold (StaticIs)
namespace ChN
def yN : MethodName := ⟨"java/lang/String", "charAt", "(I)C"⟩
abbrev yB : ByteArray := jdk_42_method_56_code
theorem d0 : decode yB 0 = .ok (.aload_n 0, 1) := by decide +kernel
theorem d1 : decode yB 1 = .ok (.invokevirtual 492, 3) := by decide +kernel
theorem d4 : decode yB 4 = .ok (.ifCond (.eq) 12, 3) := by decide +kernel
theorem d7 : decode yB 7 = .ok (.aload_n 0, 1) := by decide +kernel
theorem d8 : decode yB 8 = .ok (.getfield 9, 3) := by decide +kernel
theorem d11 : decode yB 11 = .ok (.iload_n 1, 1) := by decide +kernel
theorem d12 : decode yB 12 = .ok (.invokestatic 495, 3) := by decide +kernel
theorem d15 : decode yB 15 = .ok (.ireturn, 1) := by decide +kernel
def site : List Cond := [.fieldLink "java/lang/String" 9 "java/lang/String" "value" "[B", IsL.tab, LChA.tab] ++ virtW "java/lang/String" 492 "java/lang/String" IsL.yN IsL.yN ++ staticW "java/lang/String" 495 LChA.yN
def tab : Cond := tabOf yN yB 2 (some .char) site
def P (x t : Addr) (V : Cell) (n : Nat) (f : Nat → Int32) (z : Int32) (fm : Value) (i : Nat) (args : Array Value) (s : State) : Prop := args = #[.ref x, .int (Int32.ofNat i)] ∧ Txt x t V 0 n f s ∧ i < n ∧ StaticIs s "java/lang/String" "COMPACT_STRINGS" "Z" (.int z) ∧ ¬ z = 0 ∧ StaticIs s "jdk/internal/util/Preconditions" "SIOOBE_FORMATTER" "Ljava/util/function/BiFunction;" fm ∧ fm.isRef = true
def E (f : Nat → Int32) (i : Nat) (r : Option Value) (s u : State) : Prop := XT.PureE (some (.int (f i))) r s u
/-- charAt(i) of a Latin-1 String of n chars, i < n: f i -/
theorem law (l : Launch) (x t : Addr) (V : Cell) (n : Nat) (f : Nat → Int32) (z : Int32) (fm : Value) (i : Nat) : Law l yN 2 1 3 40 yB 2 (some .char) site (P x t V n f z fm i) (E f i) [] 0 0 := by
  refine Law.of_walk (plainFor_of_name (by decide +kernel)) (by decide +kernel) (by decide +kernel) (by decide) (fun _ _ h => by rw [h.1]; rfl) (fun _ U U' hal hh h => ⟨h.1, h.2.1.mv hal hh, h.2.2.1, h.2.2.2.1.there hal hh, h.2.2.2.2.1, h.2.2.2.2.2.1.there hal hh, h.2.2.2.2.2.2⟩) (fun r U U' V V' h1 hal h2 h => XT.PureE.mv r U U' V V' h1 hal h2 h) ?_
  intro p e s m args below meth c s₁ X0 hexec hbytes hml hret hlk hnm hown hh0 W hP
  obtain ⟨rfl, hx, hi, s1, hz, s3, rf⟩ := hP
  have v31 := hx.2.2.2.1.2.2.2
  have hr := hx.2.2.2.2.2 i hi
  have hx0 := hx.mv X0.warmed.alike hh0
  have c1 : Steps p.tables e below (s₁.setTop (entryFrame m #[.ref x, .int (Int32.ofNat i)] 2)) (s₁.setTop (mkF m 1 #[.val (.ref x), .val (.int (Int32.ofNat i))] [.ref x])) := Steps.trans (entry rfl) (by
    show Steps p.tables e below (s₁.setTop (mkF m 0 #[.val (.ref x), .val (.int (Int32.ofNat i))] [])) _
    refine XS.aloadN X0.here hexec rfl (hb hbytes d0) rfl rfl ?_
    exact Steps.refl _)
  obtain ⟨v2, T2, X2, E2, g2⟩ := X0.callV hexec (IsL.law l x 0 z) hown (wks W (virtW "java/lang/String" 492 "java/lang/String" IsL.yN IsL.yN)) rfl (by decide) (wk W IsL.tab) (W := 0) (Nat.le_of_ble_eq_true rfl) (Nat.le_of_ble_eq_true rfl) (Nat.le_refl _) (Nat.le_refl _) (hx0.1.fc X0.warmed.alike) hx0.1.is (g := (mkF m 1 #[.val (.ref x), .val (.int (Int32.ofNat i))] [.ref x])) rfl (by rw [hml]; rfl) c1 (argsL := []) (rest := []) rfl rfl (by show 2 * 0 + 0 ≤ _; decide) (hb hbytes d1) (⟨rfl, hx0.2.2.1, hx.2.2.2.2.1.cd, s1.there X0.warmed.alike hh0, hz⟩)
  obtain ⟨rfl, q2⟩ := E2
  have hh2 := q2.trans hh0
  have hx2 := hx.mv X2.warmed.alike hh2
  obtain ⟨-, k1, k2⟩ | ⟨k0, -⟩ := hx.2.2.2.2.1
  · have c3 : Steps p.tables e below (s₁.setTop (entryFrame m #[.ref x, .int (Int32.ofNat i)] 2)) (T2.setTop (mkF m 8 #[.val (.ref x), .val (.int (Int32.ofNat i))] [.ref x])) := Steps.trans g2 (by
      refine XS.ifNo X2.here hexec rfl (hb hbytes d4) rfl (i0_eq_f (by decide)) ?_
      refine XS.aloadN X2.here hexec rfl (hb hbytes d7) rfl rfl ?_
      exact Steps.refl _)
    obtain ⟨T4, X4, q4, st4⟩ := X2.hget hexec hown (wk W (.fieldLink "java/lang/String" 9 "java/lang/String" "value" "[B")) hx2.2.1 (g := (mkF m 8 #[.val (.ref x), .val (.int (Int32.ofNat i))] [.ref x])) rfl (rest := []) rfl (hb hbytes d8)
    have hh4 := q4.trans hh2
    have c5 : Steps p.tables e below (s₁.setTop (entryFrame m #[.ref x, .int (Int32.ofNat i)] 2)) (T4.setTop (mkF m 12 #[.val (.ref x), .val (.int (Int32.ofNat i))] [.int (Int32.ofNat i), .ref t])) := (c3.trans (st4 _ (Steps.refl _))).trans (by
      refine XS.iloadN X4.here hexec rfl (hb hbytes d11) rfl ?_
      exact Steps.refl _)
    obtain ⟨v6, T6, X6, E6, g6⟩ := X4.callS hexec (LChA.law l t V i (lo8 (f i)) fm) hown (wks W (staticW "java/lang/String" 495 LChA.yN)) (wk W LChA.tab) (W := 0) (Nat.le_of_ble_eq_true rfl) (Nat.le_of_ble_eq_true rfl) (Nat.le_refl _) (Nat.le_refl _) (g := (mkF m 12 #[.val (.ref x), .val (.int (Int32.ofNat i))] [.int (Int32.ofNat i), .ref t])) rfl (by rw [hml]; rfl) c5 (argsL := [.ref t, .int (Int32.ofNat i)]) (rest := []) rfl rfl (by show 2 * 0 + 0 ≤ _; decide) (hb hbytes d12) (⟨rfl, hx.2.2.2.1.mv X4.warmed.alike hh4, (k2 i hi).1, s3.there X4.warmed.alike hh4, rf⟩)
    obtain ⟨rfl, q6⟩ := E6
    rw [chr8_lo8 hr.1 (k2 i hi).2] at g6
    exact ⟨T6, some (.int (f i)), _, _, _, X6, rfl, rfl, rfl, (fun h => by cases h), ⟨rfl, q6.trans hh4⟩, fun fs hl => Steps.trans g6 (X6.ireturnOut hexec hret (narrow_ch hr.1 hr.2) (Or.inr (Or.inr (Or.inr (Or.inl rfl)))) (hb hbytes d15) hl)⟩
  · exact absurd k0 (by decide)
theorem pays {l : Launch} {R : Room} {p : Program} {e : Env} {below : List Frame} {s : State} {sargs : Array Value} {len W : Nat} (x t : Addr) (V : Cell) (n : Nat) (f : Nat → Int32) (z : Int32) (fm : Value) (i : Nat) (htab : tab.before sargs s = true) (hfr : 4 ≤ R.frames) (hlo : W + 53 ≤ R.locals) :
    Back l R p e below s sargs yN len W (fun A₁ a₁ => A₁.cells + 0 ≤ R.cells ∧ A₁.slots + 0 ≤ R.slots ∧ P x t V n f z fm i a₁ A₁.U) (fun A₁ _ v₁ B₁ => E f i v₁ A₁.U B₁.U ∧ B₁.locs = A₁.locs ++ [] ∧ B₁.cells = A₁.cells + 0 ∧ B₁.slots = A₁.slots + 0) :=
  (law l x t V n f z fm i).pays htab hfr (by omega)
end ChN
end StrChars
namespace StrChars.Road
open Jvm Sem ClassFile Op Lib Jvm.Stand Jvm.Free Jvm.Free.XT
open Jvm.Lib.Cold (StaticIs)
/-- the words of String.charAt(int), the Latin-1 road alone -/
abbrev wordsChN : List Jvm.Cond := [.code ChN.yN ChN.yB 2 (some .char), .initialized ST, .fieldLink ST 9 ST "value" "[B", .fieldLink ST 38 ST "COMPACT_STRINGS" "Z", .fieldLink ST 15 ST "coder" "B", .code IsL.yN IsL.yB 1 (some .boolean), .methodLink ST 492 IsL.yN, .declares IsL.yN, .selects ST IsL.yN IsL.yN, .instanceMethod IsL.yN,
  .methodLink ST 495 LChA.yN, .static LChA.yN, .code LChA.yN LChA.yB 2 (some .char), .initialized "java/lang/StringLatin1", .methodLink "java/lang/StringLatin1" 9 JO.Str_checkIndex.yN, .static JO.Str_checkIndex.yN, .code JO.Str_checkIndex.yN JO.Str_checkIndex.yB 2 none,
  .fieldLink ST 1053 "jdk/internal/util/Preconditions" "SIOOBE_FORMATTER" "Ljava/util/function/BiFunction;", .methodLink ST 1059 JC.PreCheck.yN, .static JC.PreCheck.yN, .code JC.PreCheck.yN JC.PreCheck.yB 3 (some .int), .initialized "jdk/internal/util/Preconditions"]
theorem tabChN_of {a : Array Value} {s : State} (h : ∀ w ∈ wordsChN, w.before a s = true) : ChN.tab.before a s = true := by
  have hp : JC.PreCheck.tab.before a s = true := unparts (wk h (.code JC.PreCheck.yN JC.PreCheck.yB 3 (some .int))) (wks h (.initialized JC.PreCheck.yN.cls :: JC.PreCheck.site))
  have qk := consq hp h
  have hk : JO.Str_checkIndex.tab.before a s = true := unparts (wk qk (.code JO.Str_checkIndex.yN JO.Str_checkIndex.yB 2 none)) (wks qk (.initialized JO.Str_checkIndex.yN.cls :: JO.Str_checkIndex.site))
  have ql := consq hk h
  have hl : LChA.tab.before a s = true := unparts (wk ql (.code LChA.yN LChA.yB 2 (some .char))) (wks ql (.initialized LChA.yN.cls :: LChA.site))
  have hi : IsL.tab.before a s = true := unparts (wk h (.code IsL.yN IsL.yB 1 (some .boolean))) (wks h (.initialized IsL.yN.cls :: IsL.site))
  have q := consq hi (consq hl h)
  exact unparts (wk q (.code ChN.yN ChN.yB 2 (some .char))) (wks q (.initialized ChN.yN.cls :: ChN.site))
theorem movedChN {Z s : State} {a0 args : Array Value} (hZ : Z.Warmed39 s.vm) (hw : ∀ d ∈ wordsChN, d.before a0 Z = true) : ∀ d ∈ wordsChN, d.before args s = true := fun d hd => by
  have t : ∀ d ∈ wordsChN, (d.onTables && d.keepsFace) = true := by decide +kernel
  exact RoadKit.mv hZ (hw d hd) (t d hd)
/-- **charAt(i) OF A LATIN-1 STRING**, i < n: the char -/
theorem chN {p : Program} {l : Launch} {e : Env} {R : Room} {s : State} {args : Array Value} {below : List Frame} {len W : Nat} {Z : State} {a0 : Array Value} {h : Heap} (hZ : Z.Warmed39 s.vm) (hw : ∀ d ∈ wordsChN, d.before a0 Z = true) {kI : Nat} (wi : (Jvm.Cond.instantiable ST kI).before a0 Z = true)
    {x t : Addr} {kb : ClassId} {cs : List Int32} {N2 z : Int32} {vs : List Value} {fm : Value} {i : Nat} {j : Int32} (E : RoadKit.Exa Z h x ST) (V : RoadKit.Fld Z h x ST "value" "[B" (.ref t)) (C : RoadKit.Fld Z h x ST "coder" "B" (.int 0)) (K : RoadKit.Arv Z h t kb .byte N2 vs (.int 0)) (hc : CodA cs 0 N2 vs) (hb : ∀ c ∈ cs, ¬ c < 0 ∧ ¬ (65535 : Int32) < c)
    (S : RoadKit.Sta Z h ST "COMPACT_STRINGS" "Z" (.int z)) (hz : ¬ z = 0) (F : RoadKit.Sta Z h "jdk/internal/util/Preconditions" "SIOOBE_FORMATTER" "Ljava/util/function/BiFunction;" fm) (rf : fm.isRef = true) (l2 : cs.length ≤ 4000) (hi : i < cs.length) (hj : j = Int32.ofNat i) (hfr : 4 ≤ R.frames) (hlo : W + 53 ≤ R.locals) :
    Back l R p e below s args (⟨"java/lang/String", "charAt", "(I)C"⟩ : MethodName) len W (fun P a => a = #[.ref x, .int j] ∧ P.U.heap = h ∧ P.cells + 0 ≤ R.cells ∧ P.slots + 0 ≤ R.slots)
      (fun P _ v B => ∃ L, (v = some (.int (cs.getD i 0)) ∧ L = [] ∧ B.U.heap = h) ∧ B.locs = P.locs ++ L ∧ B.cells = P.cells + 0 ∧ B.slots = P.slots + 0) := by
  subst hj
  intro m meth c P g ig mk a X hg hsize hdg hW hn hp'
  obtain ⟨rfl, rfl, r1, r2⟩ := hp'
  have al : Z.vm.Alike P.U.vm := hZ.alike.trans X.warmed.alike
  obtain ⟨A, hx⟩ := txt_of wi al E V C K hc hb l2
  obtain ⟨v, B, X', ⟨⟨hv, hh⟩, hl, hk, hs⟩, st⟩ := ChN.pays x t A cs.length (fun j => cs.getD j 0) z fm i (tabChN_of (movedChN hZ hw)) hfr hlo m meth c P g ig mk _ X hg hsize hdg hW hn ⟨r1, r2, rfl, hx, hi, sta_is al S, hz, sta_is al F, rf⟩
  exact ⟨v, B, X', ⟨[], ⟨hv, rfl, hh⟩, hl, hk, hs⟩, st⟩
/-- what backV says of its String, as the contracts of this text ask it: cs's low bytes, coder 0 -/
theorem codOf {cs : List Int32} {n : Nat} (hn : cs.length = n) (hb : ∀ c ∈ cs, ¬ 255 < c) : CodA cs 0 (Int32.ofNat n) ((cs.map lo8).map Value.int) := Or.inl ⟨rfl, by rw [hn], by simp [List.map_map, Function.comp_def], hb⟩
end StrChars.Road
end Jvm.Pilot.@@N@@
namespace Jvm.Pilot.@@N@@
open Jvm Jvm.ClassFile Sem Op Lib Jvm.Free Jvm.Stand Jvm.LawKit Jvm.RoadKit Bundle Jvm.Pilot.@@N@@.Jvm.D
abbrev ym0 : MethodName := ⟨"java/lang/String", "charAt", "(I)C"⟩
abbrev ym1 : MethodName := ⟨"com/example/upcaster/upcaster/io/CodecNamedPinLaw", "at", "(IIJ)C"⟩
abbrev ym2 : MethodName := ⟨"java/lang/Math", "max", "(II)I"⟩
abbrev ym3 : MethodName := ⟨"java/lang/Math", "min", "(II)I"⟩
abbrev ym4 : MethodName := ⟨"java/lang/String", "<init>", "([CIILjava/lang/Void;)V"⟩
abbrev ym5 : MethodName := ⟨"java/lang/String", "<init>", "([C)V"⟩
abbrev ym6 : MethodName := ⟨"com/example/upcaster/upcaster/io/CodecNamedPinLaw", "make", "([CI)Ljava/lang/String;"⟩
abbrev ym7 : MethodName := ⟨"java/lang/String", "equals", "(Ljava/lang/Object;)Z"⟩
abbrev ym8 : MethodName := ⟨"com/example/upcaster/upcaster/io/CodecNamedPinLaw", "expected", "(Ljava/lang/String;)Lcom/example/upcaster/upcaster/io/Codec;"⟩
abbrev ym9 : MethodName := ⟨"com/example/upcaster/upcaster/io/Codec", "values", "()[Lcom/example/upcaster/upcaster/io/Codec;"⟩
abbrev ym10 : MethodName := ⟨"com/example/upcaster/upcaster/io/Codec", "named", "(Ljava/lang/String;)Lcom/example/upcaster/upcaster/io/Codec;"⟩
def Goes (p : Program) (e : Env) (below : List Frame) (s : State) (Q : Option Value → Heap → List Loc → Prop) (kc ks : Nat) (A : State) : Prop :=
  ∃ s₂ o, Steps p.tables e below A s₂ ∧ s₂.status = .running ∧ Ended s₂ below o ∧ ∃ v L, o = .returned v ∧ Q v s₂.heap L ∧ FrameEnd s o s₂ L kc ks
abbrev jv (x : Int64) : Slot := .val (.long x)
def QL (w : Option Value) (n0 : Nat) (v : Option Value) (h : Heap) (L : List Loc) : Prop := v = w ∧ Fr n0 L
theorem own_selp {s : State} {args : Array Value} {y : MethodName} {n : Nat} (hins : (Cond.instantiable y.cls n).before args s = true) (hpriv : (Cond.privateMethod y).before args s = true) (hinst : (Cond.instanceMethod y).before args s = true) (hy : y.cls ≠ "java/lang/invoke/MethodHandle" ∧ y.cls ≠ "java/lang/invoke/VarHandle") : (Cond.selects y.cls y y).before args s = true := by
  obtain ⟨c, k, hc, hk, -, hniab, -, -⟩ := Cond.instantiable_spec hins
  exact selects_self_of_private hc hk (Bool.or_eq_false_iff.mp hniab).1 (Cond.privateMethod_at hpriv) hinst hy
def QP (w : Option Value) (h0 : Heap) (n0 : Nat) (v : Option Value) (h : Heap) (L : List Loc) : Prop := v = w ∧ Fr n0 L ∧ h = h0
section OwnGoes
variable {p : Program} {l : Launch} {e : Env} {R : Room} {s : State} {m : MethodId} {args : Array Value} {below : List Frame} {meth : Method} {c : Code} {T : State} {locs : List Loc} {cells slots kc ks : Nat} {Q : Option Value → Heap → List Loc → Prop}
theorem Goes.st {A B : State} (h : ∀ t, Steps p.tables e below B t → Steps p.tables e below A t) (g : Goes p e below s Q kc ks B) : Goes p e below s Q kc ks A := by
  obtain ⟨s₂, o, h1, r⟩ := g
  exact ⟨s₂, o, h _ h1, r⟩
theorem Goes.cast {g g' : JFrame} (q : g = g') (h : Goes p e below s Q kc ks (T.setTop g')) : Goes p e below s Q kc ks (T.setTop g) := q ▸ h
theorem Goes.retI (X : Stand p l e R s m args below meth c T locs cells slots) (hx : p.tables.exec = Jvm.exec) (hlk : meth.locks = false) (hret : meth.sig.returnType = some .int) {pc : Nat} {Ls : Array Slot} {z : Int32} {rest : List Value} (hd : decode c.code pc = .ok (.ireturn, 1)) (hQ : Q (some (.int z)) T.heap locs) (h1 : cells ≤ kc) (h2 : slots ≤ ks) : Goes p e below s Q kc ks (T.setTop (mkF m pc Ls (.int z :: rest))) := by
  obtain ⟨fs, hr, hrun, hended, hW, hsame⟩ := X.leave (v := some (.int z)) (fun h => by rw [hret] at h; cases h)
  exact ⟨_, _, retOut X hx hret rfl (Or.inl ⟨rfl, Or.inl rfl, _, rfl⟩) hd hr, hrun, hended, _, _, rfl, hQ, ⟨_, rfl⟩, hW, hsame.mono h1 h2⟩
theorem Goes.retJ (X : Stand p l e R s m args below meth c T locs cells slots) (hx : p.tables.exec = Jvm.exec) (hlk : meth.locks = false) (hret : meth.sig.returnType = some .long) {pc : Nat} {Ls : Array Slot} {z : Int64} {rest : List Value} (hd : decode c.code pc = .ok (.lreturn, 1)) (hQ : Q (some (.long z)) T.heap locs) (h1 : cells ≤ kc) (h2 : slots ≤ ks) : Goes p e below s Q kc ks (T.setTop (mkF m pc Ls (.long z :: rest))) := by
  obtain ⟨fs, hr, hrun, hended, hW, hsame⟩ := X.leave (v := some (.long z)) (fun h => by rw [hret] at h; cases h)
  exact ⟨_, _, retOut X hx hret rfl (Or.inr (Or.inl ⟨rfl, rfl, _, rfl⟩)) hd hr, hrun, hended, _, _, rfl, hQ, ⟨_, rfl⟩, hW, hsame.mono h1 h2⟩
theorem Goes.retR (X : Stand p l e R s m args below meth c T locs cells slots) (hx : p.tables.exec = Jvm.exec) (hlk : meth.locks = false) {t : FieldType} (hret : meth.sig.returnType = some t) {w : Value} (ht : t.isReference = true) (hw : w.isRef = true) {pc : Nat} {Ls : Array Slot} {rest : List Value} (hd : decode c.code pc = .ok (.areturn, 1)) (hQ : Q (some w) T.heap locs) (h1 : cells ≤ kc) (h2 : slots ≤ ks) : Goes p e below s Q kc ks (T.setTop (mkF m pc Ls (w :: rest))) := by
  obtain ⟨fs, hr, hrun, hended, hW, hsame⟩ := X.leave (v := some w) (fun h => by rw [hret] at h; cases h)
  have hn : narrow t w = w := by cases t <;> cases w <;> first | rfl | (simp [FieldType.isReference] at ht) | (simp [Value.isRef] at hw)
  exact ⟨_, _, retOut X hx hret hn (Or.inr (Or.inr (Or.inr (Or.inr ⟨rfl, ht, hw⟩)))) hd hr, hrun, hended, _, _, rfl, hQ, ⟨_, rfl⟩, hW, hsame.mono h1 h2⟩
theorem Goes.retB (X : Stand p l e R s m args below meth c T locs cells slots) (hx : p.tables.exec = Jvm.exec) (hlk : meth.locks = false) {t : FieldType} (hret : meth.sig.returnType = some t) (ht : t = .boolean ∨ t = .byte ∨ t = .char ∨ t = .short) {pc : Nat} {Ls : Array Slot} {z : Int32} {rest : List Value} (hd : decode c.code pc = .ok (.ireturn, 1)) (hz : nar t z = z) (hQ : Q (some (.int z)) T.heap locs) (h1 : cells ≤ kc) (h2 : slots ≤ ks) : Goes p e below s Q kc ks (T.setTop (mkF m pc Ls (.int z :: rest))) := by
  obtain ⟨fs, hr, hrun, hended, hW, hsame⟩ := X.leave (v := some (.int z)) (fun h => by rw [hret] at h; cases h)
  exact ⟨_, _, retN X hx hret ht hd (by rw [hz]; exact hr), hrun, hended, _, _, rfl, hQ, ⟨_, rfl⟩, hW, hsame.mono h1 h2⟩
theorem Goes.retV (X : Stand p l e R s m args below meth c T locs cells slots) (hx : p.tables.exec = Jvm.exec) (hlk : meth.locks = false) (hret : meth.sig.returnType = none) {pc : Nat} {Ls : Array Slot} (hd : decode c.code pc = .ok (.return_, 1)) (hQ : Q none T.heap locs) (h1 : cells ≤ kc) (h2 : slots ≤ ks) : Goes p e below s Q kc ks (T.setTop (mkF m pc Ls [])) := by
  obtain ⟨fs, hr, hrun, hended, hW, hsame⟩ := X.leave (v := none) (fun _ => rfl)
  exact ⟨_, _, X.returnOut hx hret hd hr, hrun, hended, _, _, rfl, hQ, ⟨_, rfl⟩, hW, hsame.mono h1 h2⟩
end OwnGoes
theorem tltL {x y : Int64} (h : x < y) : ifCond.holds .lt (lcmpW x y) = true ∧ ifCond.holds .ge (lcmpW x y) = false ∧ ifCond.holds .gt (lcmpW y x) = true ∧ ifCond.holds .le (lcmpW y x) = false :=
  ⟨(if0 _ _).trans (tlt ((lw_lt x y).mpr h)).1, (if0 _ _).trans (tlt ((lw_lt x y).mpr h)).2.1, (if0 _ _).trans (tlt ((lw_gt y x).mpr h)).2.2.1, (if0 _ _).trans (tlt ((lw_gt y x).mpr h)).2.2.2⟩
theorem fltL {x y : Int64} (h : ¬ x < y) : ifCond.holds .lt (lcmpW x y) = false ∧ ifCond.holds .ge (lcmpW x y) = true ∧ ifCond.holds .gt (lcmpW y x) = false ∧ ifCond.holds .le (lcmpW y x) = true :=
  ⟨(if0 _ _).trans (flt fun q => h ((lw_lt x y).mp q)).1, (if0 _ _).trans (flt fun q => h ((lw_lt x y).mp q)).2.1, (if0 _ _).trans (flt fun q => h ((lw_gt y x).mp q)).2.2.1, (if0 _ _).trans (flt fun q => h ((lw_gt y x).mp q)).2.2.2⟩
theorem teqL {x y : Int64} (h : x = y) : ifCond.holds .eq (lcmpW x y) = true ∧ ifCond.holds .ne (lcmpW x y) = false :=
  ⟨(if0 _ _).trans (teq ((lw_eq x y).mpr h)).1, (if0 _ _).trans (teq ((lw_eq x y).mpr h)).2⟩
theorem feqL {x y : Int64} (h : ¬ x = y) : ifCond.holds .eq (lcmpW x y) = false ∧ ifCond.holds .ne (lcmpW x y) = true :=
  ⟨(if0 _ _).trans (feq fun q => h ((lw_eq x y).mp q)).1, (if0 _ _).trans (feq fun q => h ((lw_eq x y).mp q)).2⟩
def own_look {α : Type} (i : Nat) : List (Nat × α) → Option α
  | [] => none
  | (j, v) :: r => if i = j then some v else own_look i r
theorem own_look_mem {α : Type} {i : Nat} {v : α} : ∀ {L : List (Nat × α)}, own_look i L = some v → (i, v) ∈ L
  | [], h => by cases h
  | (j, w) :: r, h => by
    unfold own_look at h
    by_cases q : i = j
    · rw [if_pos q] at h; cases h; subst q; exact List.mem_cons_self
    · rw [if_neg q] at h; exact List.mem_cons_of_mem _ (own_look_mem h)
def own_pstep (ci : List (Nat × Int32)) (cl : List (Nat × Int64)) (i : Instr) (n : Nat) (g : JFrame) : Option JFrame :=
  match i with
  | .iload_n k => if n = 1 then (match g.locals[k.val]? with | some (.val (.int v)) => some { g with pc := g.pc + 1, stack := .int v :: g.stack } | _ => none) else none
  | .iload k => if n = 2 then (match g.locals[k]? with | some (.val (.int v)) => some { g with pc := g.pc + 2, stack := .int v :: g.stack } | _ => none) else none
  | .lload_n k => if n = 1 then (match g.locals[k.val]? with | some (.val (.long v)) => some { g with pc := g.pc + 1, stack := .long v :: g.stack } | _ => none) else none
  | .lload k => if n = 2 then (match g.locals[k]? with | some (.val (.long v)) => some { g with pc := g.pc + 2, stack := .long v :: g.stack } | _ => none) else none
  | .aload_n k => if n = 1 then (match g.locals[k.val]? with | some (.val v) => if v.isRef = true then some { g with pc := g.pc + 1, stack := v :: g.stack } else none | _ => none) else none
  | .aload k => if n = 2 then (match g.locals[k]? with | some (.val v) => if v.isRef = true then some { g with pc := g.pc + 2, stack := v :: g.stack } else none | _ => none) else none
  | .istore_n k => if n = 1 then (match g.stack with | .int x :: rest => (match storeLocals g.locals k.val (.int x) with | some l' => some { g with pc := g.pc + 1, stack := rest, locals := l' } | none => none) | _ => none) else none
  | .istore k => if n = 2 then (match g.stack with | .int x :: rest => (match storeLocals g.locals k (.int x) with | some l' => some { g with pc := g.pc + 2, stack := rest, locals := l' } | none => none) | _ => none) else none
  | .lstore_n k => if n = 1 then (match g.stack with | .long x :: rest => (match storeLocals g.locals k.val (.long x) with | some l' => some { g with pc := g.pc + 1, stack := rest, locals := l' } | none => none) | _ => none) else none
  | .lstore k => if n = 2 then (match g.stack with | .long x :: rest => (match storeLocals g.locals k (.long x) with | some l' => some { g with pc := g.pc + 2, stack := rest, locals := l' } | none => none) | _ => none) else none
  | .astore_n k => if n = 1 then (match g.stack with | x :: rest => (if x.isRef = true then (match storeLocals g.locals k.val x with | some l' => some { g with pc := g.pc + 1, stack := rest, locals := l' } | none => none) else none) | _ => none) else none
  | .astore k => if n = 2 then (match g.stack with | x :: rest => (if x.isRef = true then (match storeLocals g.locals k x with | some l' => some { g with pc := g.pc + 2, stack := rest, locals := l' } | none => none) else none) | _ => none) else none
  | .iconst i => if n = 1 then (some { g with pc := g.pc + 1, stack := .int (Int32.ofInt i) :: g.stack }) else none
  | .bipush i => if n = 2 then (some { g with pc := g.pc + 2, stack := .int (Int8.ofInt i).toInt32 :: g.stack }) else none
  | .sipush i => if n = 3 then (some { g with pc := g.pc + 3, stack := .int (Int16.ofInt i).toInt32 :: g.stack }) else none
  | .lconst k => if n = 1 then (some { g with pc := g.pc + 1, stack := .long (Int64.ofNat k) :: g.stack }) else none
  | .aconst_null => if n = 1 then (some { g with pc := g.pc + 1, stack := .null :: g.stack }) else none
  | .iadd => if n = 1 then (match g.stack with | .int y :: .int x :: rest => some { g with pc := g.pc + 1, stack := .int (x + y) :: rest } | _ => none) else none
  | .ladd => if n = 1 then (match g.stack with | .long y :: .long x :: rest => some { g with pc := g.pc + 1, stack := .long (x + y) :: rest } | _ => none) else none
  | .isub => if n = 1 then (match g.stack with | .int y :: .int x :: rest => some { g with pc := g.pc + 1, stack := .int (x - y) :: rest } | _ => none) else none
  | .lsub => if n = 1 then (match g.stack with | .long y :: .long x :: rest => some { g with pc := g.pc + 1, stack := .long (x - y) :: rest } | _ => none) else none
  | .imul => if n = 1 then (match g.stack with | .int y :: .int x :: rest => some { g with pc := g.pc + 1, stack := .int (x * y) :: rest } | _ => none) else none
  | .lmul => if n = 1 then (match g.stack with | .long y :: .long x :: rest => some { g with pc := g.pc + 1, stack := .long (x * y) :: rest } | _ => none) else none
  | .iand => if n = 1 then (match g.stack with | .int y :: .int x :: rest => some { g with pc := g.pc + 1, stack := .int (x &&& y) :: rest } | _ => none) else none
  | .land => if n = 1 then (match g.stack with | .long y :: .long x :: rest => some { g with pc := g.pc + 1, stack := .long (x &&& y) :: rest } | _ => none) else none
  | .ior => if n = 1 then (match g.stack with | .int y :: .int x :: rest => some { g with pc := g.pc + 1, stack := .int (x ||| y) :: rest } | _ => none) else none
  | .lor => if n = 1 then (match g.stack with | .long y :: .long x :: rest => some { g with pc := g.pc + 1, stack := .long (x ||| y) :: rest } | _ => none) else none
  | .ixor => if n = 1 then (match g.stack with | .int y :: .int x :: rest => some { g with pc := g.pc + 1, stack := .int (x ^^^ y) :: rest } | _ => none) else none
  | .lxor => if n = 1 then (match g.stack with | .long y :: .long x :: rest => some { g with pc := g.pc + 1, stack := .long (x ^^^ y) :: rest } | _ => none) else none
  | .ishl => if n = 1 then (match g.stack with | .int y :: .int x :: rest => some { g with pc := g.pc + 1, stack := .int (x <<< (y &&& 31)) :: rest } | _ => none) else none
  | .ishr => if n = 1 then (match g.stack with | .int y :: .int x :: rest => some { g with pc := g.pc + 1, stack := .int (x >>> (y &&& 31)) :: rest } | _ => none) else none
  | .iushr => if n = 1 then (match g.stack with | .int y :: .int x :: rest => some { g with pc := g.pc + 1, stack := .int ((x.toUInt32 >>> (y &&& 31).toUInt32).toInt32) :: rest } | _ => none) else none
  | .lshl => if n = 1 then (match g.stack with | .int y :: .long x :: rest => some { g with pc := g.pc + 1, stack := .long (x <<< (y &&& 0x3f).toInt64) :: rest } | _ => none) else none
  | .lshr => if n = 1 then (match g.stack with | .int y :: .long x :: rest => some { g with pc := g.pc + 1, stack := .long (x >>> (y &&& 0x3f).toInt64) :: rest } | _ => none) else none
  | .lushr => if n = 1 then (match g.stack with | .int y :: .long x :: rest => some { g with pc := g.pc + 1, stack := .long ((x.toUInt64 >>> (y &&& 0x3f).toInt64.toUInt64).toInt64) :: rest } | _ => none) else none
  | .lcmp => if n = 1 then (match g.stack with | .long y :: .long x :: rest => some { g with pc := g.pc + 1, stack := .int (if x > y then 1 else if x = y then 0 else -1) :: rest } | _ => none) else none
  | .ineg => if n = 1 then (match g.stack with | .int v :: rest => some { g with pc := g.pc + 1, stack := .int (-v) :: rest } | _ => none) else none
  | .lneg => if n = 1 then (match g.stack with | .long v :: rest => some { g with pc := g.pc + 1, stack := .long (-v) :: rest } | _ => none) else none
  | .i2l => if n = 1 then (match g.stack with | .int v :: rest => some { g with pc := g.pc + 1, stack := .long (v.toInt64) :: rest } | _ => none) else none
  | .l2i => if n = 1 then (match g.stack with | .long v :: rest => some { g with pc := g.pc + 1, stack := .int (v.toInt32) :: rest } | _ => none) else none
  | .i2b => if n = 1 then (match g.stack with | .int v :: rest => some { g with pc := g.pc + 1, stack := .int (v.toInt8.toInt32) :: rest } | _ => none) else none
  | .i2c => if n = 1 then (match g.stack with | .int v :: rest => some { g with pc := g.pc + 1, stack := .int (v.toUInt32.toUInt16.toUInt32.toInt32) :: rest } | _ => none) else none
  | .i2s => if n = 1 then (match g.stack with | .int v :: rest => some { g with pc := g.pc + 1, stack := .int (v.toInt16.toInt32) :: rest } | _ => none) else none
  | .iinc k cst => if n = 3 then (match g.locals[k]? with | some (.val (.int x)) => (match storeLocals g.locals k (.int (x + Int32.ofInt cst)) with | some l' => some { g with pc := g.pc + 3, locals := l' } | none => none) | _ => none) else none
  | .dup => if n = 1 then (match g.stack with | x :: rest => (if x.category = 1 then some { g with pc := g.pc + 1, stack := x :: x :: rest } else none) | _ => none) else none
  | .pop => if n = 1 then (match g.stack with | x :: rest => (if x.category = 1 then some { g with pc := g.pc + 1, stack := rest } else none) | _ => none) else none
  | .goto o => if n = 3 then (if 0 ≤ (g.pc : Int) + o then some { g with pc := ((g.pc : Int) + o).toNat } else none) else none
  | .ldc i => if n = 2 then (match own_look i ci with | some v => some { g with pc := g.pc + 2, stack := .int v :: g.stack } | none => none) else none
  | .ldc_w i => if n = 3 then (match own_look i ci with | some v => some { g with pc := g.pc + 3, stack := .int v :: g.stack } | none => none) else none
  | .ldc2_w i => if n = 3 then (match own_look i cl with | some v => some { g with pc := g.pc + 3, stack := .long v :: g.stack } | none => none) else none
  | .idiv => if n = 1 then (match g.stack with | .int y :: .int x :: rest => (if y = 0 then none else some { g with pc := g.pc + 1, stack := .int (x / y) :: rest }) | _ => none) else none
  | .irem => if n = 1 then (match g.stack with | .int y :: .int x :: rest => (if y = 0 then none else some { g with pc := g.pc + 1, stack := .int (x - (x / y) * y) :: rest }) | _ => none) else none
  | .ldiv => if n = 1 then (match g.stack with | .long y :: .long x :: rest => (if y = 0 then none else some { g with pc := g.pc + 1, stack := .long (x / y) :: rest }) | _ => none) else none
  | .lrem => if n = 1 then (match g.stack with | .long y :: .long x :: rest => (if y = 0 then none else some { g with pc := g.pc + 1, stack := .long (x - (x / y) * y) :: rest }) | _ => none) else none
  | _ => none
section OwnRun
variable {p : Program} {l : Launch} {e : Env} {R : Room} {s : State} {m : MethodId} {args : Array Value} {below : List Frame} {meth : Method} {c : Code} {T target : State} {locs : List Loc} {cells slots kc ks : Nat} {own : String} {ci : List (Nat × Int32)} {cl : List (Nat × Int64)} {Q : Option Value → Heap → List Loc → Prop}
set_option maxHeartbeats 4000000 in
theorem own_pstep_ok (X : Stand p l e R s m args below meth c T locs cells slots) (hx : p.tables.exec = Jvm.exec) (hown : s.vm.findClass own = some m.cls) (hci : ∀ i v, (i, v) ∈ ci → (Cond.constant own i v).before args s = true) (hcl : ∀ i v, (i, v) ∈ cl → (Cond.constantLong own i v).before args s = true)
    {g g' : JFrame} (hg : g.method = m) {i : Instr} {n : Nat} (hd : decode c.code g.pc = .ok (i, n)) (hp : own_pstep ci cl i n g = some g') : (∀ target, Steps p.tables e below (T.setTop g') target → Steps p.tables e below (T.setTop g) target) ∧ g'.method = m := by
  cases i
  all_goals first
    | (exact absurd hp (by intro q; cases q))
    | skip
  case iload_n k =>
    by_cases hn : n = 1
    · subst hn
      replace hp : (match g.locals[k.val]? with | some (.val (.int v)) => some { g with pc := g.pc + 1, stack := .int v :: g.stack } | _ => none) = some g' := hp
      split at hp
      · skip
        cases hp
        exact ⟨fun _ hr => XS.iloadN X.here hx hg hd (by assumption) hr, hg⟩
      · cases hp
    · exact absurd hp (by intro q; rw [show own_pstep ci cl (.iload_n k) n g = none from if_neg hn] at q; cases q)
  case iload k =>
    by_cases hn : n = 2
    · subst hn
      replace hp : (match g.locals[k]? with | some (.val (.int v)) => some { g with pc := g.pc + 2, stack := .int v :: g.stack } | _ => none) = some g' := hp
      split at hp
      · skip
        cases hp
        exact ⟨fun _ hr => XS.iload X.here hx hg hd (by assumption) hr, hg⟩
      · cases hp
    · exact absurd hp (by intro q; rw [show own_pstep ci cl (.iload k) n g = none from if_neg hn] at q; cases q)
  case lload_n k =>
    by_cases hn : n = 1
    · subst hn
      replace hp : (match g.locals[k.val]? with | some (.val (.long v)) => some { g with pc := g.pc + 1, stack := .long v :: g.stack } | _ => none) = some g' := hp
      split at hp
      · skip
        cases hp
        exact ⟨fun _ hr => XS.lloadN X.here hx hg hd (by assumption) hr, hg⟩
      · cases hp
    · exact absurd hp (by intro q; rw [show own_pstep ci cl (.lload_n k) n g = none from if_neg hn] at q; cases q)
  case lload k =>
    by_cases hn : n = 2
    · subst hn
      replace hp : (match g.locals[k]? with | some (.val (.long v)) => some { g with pc := g.pc + 2, stack := .long v :: g.stack } | _ => none) = some g' := hp
      split at hp
      · skip
        cases hp
        exact ⟨fun _ hr => XS.lload X.here hx hg hd (by assumption) hr, hg⟩
      · cases hp
    · exact absurd hp (by intro q; rw [show own_pstep ci cl (.lload k) n g = none from if_neg hn] at q; cases q)
  case aload_n k =>
    by_cases hn : n = 1
    · subst hn
      replace hp : (match g.locals[k.val]? with | some (.val v) => if v.isRef = true then some { g with pc := g.pc + 1, stack := v :: g.stack } else none | _ => none) = some g' := hp
      split at hp
      · skip
        split at hp
        · skip
          cases hp
          exact ⟨fun _ hr => XS.aloadN X.here hx hg hd (by assumption) (by assumption) hr, hg⟩
        · cases hp
      · cases hp
    · exact absurd hp (by intro q; rw [show own_pstep ci cl (.aload_n k) n g = none from if_neg hn] at q; cases q)
  case aload k =>
    by_cases hn : n = 2
    · subst hn
      replace hp : (match g.locals[k]? with | some (.val v) => if v.isRef = true then some { g with pc := g.pc + 2, stack := v :: g.stack } else none | _ => none) = some g' := hp
      split at hp
      · skip
        split at hp
        · skip
          cases hp
          exact ⟨fun _ hr => XS.aload X.here hx hg hd (by assumption) (by assumption) hr, hg⟩
        · cases hp
      · cases hp
    · exact absurd hp (by intro q; rw [show own_pstep ci cl (.aload k) n g = none from if_neg hn] at q; cases q)
  case istore_n k =>
    by_cases hn : n = 1
    · subst hn
      replace hp : (match g.stack with | .int x :: rest => (match storeLocals g.locals k.val (.int x) with | some l' => some { g with pc := g.pc + 1, stack := rest, locals := l' } | none => none) | _ => none) = some g' := hp
      split at hp
      · skip
        split at hp
        · skip
          cases hp
          exact ⟨fun _ hr => XS.istoreN X.here hx hg hd (by assumption) (by assumption) hr, hg⟩
        · cases hp
      · cases hp
    · exact absurd hp (by intro q; rw [show own_pstep ci cl (.istore_n k) n g = none from if_neg hn] at q; cases q)
  case istore k =>
    by_cases hn : n = 2
    · subst hn
      replace hp : (match g.stack with | .int x :: rest => (match storeLocals g.locals k (.int x) with | some l' => some { g with pc := g.pc + 2, stack := rest, locals := l' } | none => none) | _ => none) = some g' := hp
      split at hp
      · skip
        split at hp
        · skip
          cases hp
          exact ⟨fun _ hr => XS.istore X.here hx hg hd (by assumption) (by assumption) hr, hg⟩
        · cases hp
      · cases hp
    · exact absurd hp (by intro q; rw [show own_pstep ci cl (.istore k) n g = none from if_neg hn] at q; cases q)
  case lstore_n k =>
    by_cases hn : n = 1
    · subst hn
      replace hp : (match g.stack with | .long x :: rest => (match storeLocals g.locals k.val (.long x) with | some l' => some { g with pc := g.pc + 1, stack := rest, locals := l' } | none => none) | _ => none) = some g' := hp
      split at hp
      · skip
        split at hp
        · skip
          cases hp
          exact ⟨fun _ hr => XS.lstoreN X.here hx hg hd (by assumption) (by assumption) hr, hg⟩
        · cases hp
      · cases hp
    · exact absurd hp (by intro q; rw [show own_pstep ci cl (.lstore_n k) n g = none from if_neg hn] at q; cases q)
  case lstore k =>
    by_cases hn : n = 2
    · subst hn
      replace hp : (match g.stack with | .long x :: rest => (match storeLocals g.locals k (.long x) with | some l' => some { g with pc := g.pc + 2, stack := rest, locals := l' } | none => none) | _ => none) = some g' := hp
      split at hp
      · skip
        split at hp
        · skip
          cases hp
          exact ⟨fun _ hr => XS.lstore X.here hx hg hd (by assumption) (by assumption) hr, hg⟩
        · cases hp
      · cases hp
    · exact absurd hp (by intro q; rw [show own_pstep ci cl (.lstore k) n g = none from if_neg hn] at q; cases q)
  case astore_n k =>
    by_cases hn : n = 1
    · subst hn
      replace hp : (match g.stack with | x :: rest => (if x.isRef = true then (match storeLocals g.locals k.val x with | some l' => some { g with pc := g.pc + 1, stack := rest, locals := l' } | none => none) else none) | _ => none) = some g' := hp
      split at hp
      · skip
        split at hp
        · skip
          split at hp
          · skip
            cases hp
            exact ⟨fun _ hr => XS.astoreN X.here hx hg hd (by assumption) (by assumption) (by assumption) hr, hg⟩
          · cases hp
        · cases hp
      · cases hp
    · exact absurd hp (by intro q; rw [show own_pstep ci cl (.astore_n k) n g = none from if_neg hn] at q; cases q)
  case astore k =>
    by_cases hn : n = 2
    · subst hn
      replace hp : (match g.stack with | x :: rest => (if x.isRef = true then (match storeLocals g.locals k x with | some l' => some { g with pc := g.pc + 2, stack := rest, locals := l' } | none => none) else none) | _ => none) = some g' := hp
      split at hp
      · skip
        split at hp
        · skip
          split at hp
          · skip
            cases hp
            exact ⟨fun _ hr => XS.astore X.here hx hg hd (by assumption) (by assumption) (by assumption) hr, hg⟩
          · cases hp
        · cases hp
      · cases hp
    · exact absurd hp (by intro q; rw [show own_pstep ci cl (.astore k) n g = none from if_neg hn] at q; cases q)
  case iconst i =>
    by_cases hn : n = 1
    · subst hn
      replace hp : (some { g with pc := g.pc + 1, stack := .int (Int32.ofInt i) :: g.stack }) = some g' := hp
      cases hp
      exact ⟨fun _ hr => XS.iconst X.here hx hg hd hr, hg⟩
    · exact absurd hp (by intro q; rw [show own_pstep ci cl (.iconst i) n g = none from if_neg hn] at q; cases q)
  case bipush i =>
    by_cases hn : n = 2
    · subst hn
      replace hp : (some { g with pc := g.pc + 2, stack := .int (Int8.ofInt i).toInt32 :: g.stack }) = some g' := hp
      cases hp
      exact ⟨fun _ hr => XS.bipush X.here hx hg hd hr, hg⟩
    · exact absurd hp (by intro q; rw [show own_pstep ci cl (.bipush i) n g = none from if_neg hn] at q; cases q)
  case sipush i =>
    by_cases hn : n = 3
    · subst hn
      replace hp : (some { g with pc := g.pc + 3, stack := .int (Int16.ofInt i).toInt32 :: g.stack }) = some g' := hp
      cases hp
      exact ⟨fun _ hr => XS.sipush X.here hx hg hd hr, hg⟩
    · exact absurd hp (by intro q; rw [show own_pstep ci cl (.sipush i) n g = none from if_neg hn] at q; cases q)
  case lconst k =>
    by_cases hn : n = 1
    · subst hn
      replace hp : (some { g with pc := g.pc + 1, stack := .long (Int64.ofNat k) :: g.stack }) = some g' := hp
      cases hp
      exact ⟨fun _ hr => XS.lconst X.here hx hg hd hr, hg⟩
    · exact absurd hp (by intro q; rw [show own_pstep ci cl (.lconst k) n g = none from if_neg hn] at q; cases q)
  case aconst_null =>
    by_cases hn : n = 1
    · subst hn
      replace hp : (some { g with pc := g.pc + 1, stack := .null :: g.stack }) = some g' := hp
      cases hp
      exact ⟨fun _ hr => XS.aconstNull X.here hx hg hd hr, hg⟩
    · exact absurd hp (by intro q; rw [show own_pstep ci cl (.aconst_null) n g = none from if_neg hn] at q; cases q)
  case iadd =>
    by_cases hn : n = 1
    · subst hn
      replace hp : (match g.stack with | .int y :: .int x :: rest => some { g with pc := g.pc + 1, stack := .int (x + y) :: rest } | _ => none) = some g' := hp
      split at hp
      · skip
        cases hp
        exact ⟨fun _ hr => XS.iadd X.here hx hg hd (by assumption) hr, hg⟩
      · cases hp
    · exact absurd hp (by intro q; rw [show own_pstep ci cl (.iadd) n g = none from if_neg hn] at q; cases q)
  case ladd =>
    by_cases hn : n = 1
    · subst hn
      replace hp : (match g.stack with | .long y :: .long x :: rest => some { g with pc := g.pc + 1, stack := .long (x + y) :: rest } | _ => none) = some g' := hp
      split at hp
      · skip
        cases hp
        exact ⟨fun _ hr => XS.ladd X.here hx hg hd (by assumption) hr, hg⟩
      · cases hp
    · exact absurd hp (by intro q; rw [show own_pstep ci cl (.ladd) n g = none from if_neg hn] at q; cases q)
  case isub =>
    by_cases hn : n = 1
    · subst hn
      replace hp : (match g.stack with | .int y :: .int x :: rest => some { g with pc := g.pc + 1, stack := .int (x - y) :: rest } | _ => none) = some g' := hp
      split at hp
      · skip
        cases hp
        exact ⟨fun _ hr => XS.isub X.here hx hg hd (by assumption) hr, hg⟩
      · cases hp
    · exact absurd hp (by intro q; rw [show own_pstep ci cl (.isub) n g = none from if_neg hn] at q; cases q)
  case lsub =>
    by_cases hn : n = 1
    · subst hn
      replace hp : (match g.stack with | .long y :: .long x :: rest => some { g with pc := g.pc + 1, stack := .long (x - y) :: rest } | _ => none) = some g' := hp
      split at hp
      · skip
        cases hp
        exact ⟨fun _ hr => XS.lsub X.here hx hg hd (by assumption) hr, hg⟩
      · cases hp
    · exact absurd hp (by intro q; rw [show own_pstep ci cl (.lsub) n g = none from if_neg hn] at q; cases q)
  case imul =>
    by_cases hn : n = 1
    · subst hn
      replace hp : (match g.stack with | .int y :: .int x :: rest => some { g with pc := g.pc + 1, stack := .int (x * y) :: rest } | _ => none) = some g' := hp
      split at hp
      · skip
        cases hp
        exact ⟨fun _ hr => XS.imul X.here hx hg hd (by assumption) hr, hg⟩
      · cases hp
    · exact absurd hp (by intro q; rw [show own_pstep ci cl (.imul) n g = none from if_neg hn] at q; cases q)
  case lmul =>
    by_cases hn : n = 1
    · subst hn
      replace hp : (match g.stack with | .long y :: .long x :: rest => some { g with pc := g.pc + 1, stack := .long (x * y) :: rest } | _ => none) = some g' := hp
      split at hp
      · skip
        cases hp
        exact ⟨fun _ hr => XS.lmul X.here hx hg hd (by assumption) hr, hg⟩
      · cases hp
    · exact absurd hp (by intro q; rw [show own_pstep ci cl (.lmul) n g = none from if_neg hn] at q; cases q)
  case iand =>
    by_cases hn : n = 1
    · subst hn
      replace hp : (match g.stack with | .int y :: .int x :: rest => some { g with pc := g.pc + 1, stack := .int (x &&& y) :: rest } | _ => none) = some g' := hp
      split at hp
      · skip
        cases hp
        exact ⟨fun _ hr => XS.iand X.here hx hg hd (by assumption) hr, hg⟩
      · cases hp
    · exact absurd hp (by intro q; rw [show own_pstep ci cl (.iand) n g = none from if_neg hn] at q; cases q)
  case land =>
    by_cases hn : n = 1
    · subst hn
      replace hp : (match g.stack with | .long y :: .long x :: rest => some { g with pc := g.pc + 1, stack := .long (x &&& y) :: rest } | _ => none) = some g' := hp
      split at hp
      · skip
        cases hp
        exact ⟨fun _ hr => XS.land X.here hx hg hd (by assumption) hr, hg⟩
      · cases hp
    · exact absurd hp (by intro q; rw [show own_pstep ci cl (.land) n g = none from if_neg hn] at q; cases q)
  case ior =>
    by_cases hn : n = 1
    · subst hn
      replace hp : (match g.stack with | .int y :: .int x :: rest => some { g with pc := g.pc + 1, stack := .int (x ||| y) :: rest } | _ => none) = some g' := hp
      split at hp
      · skip
        cases hp
        exact ⟨fun _ hr => XS.ior X.here hx hg hd (by assumption) hr, hg⟩
      · cases hp
    · exact absurd hp (by intro q; rw [show own_pstep ci cl (.ior) n g = none from if_neg hn] at q; cases q)
  case lor =>
    by_cases hn : n = 1
    · subst hn
      replace hp : (match g.stack with | .long y :: .long x :: rest => some { g with pc := g.pc + 1, stack := .long (x ||| y) :: rest } | _ => none) = some g' := hp
      split at hp
      · skip
        cases hp
        exact ⟨fun _ hr => XS.lor X.here hx hg hd (by assumption) hr, hg⟩
      · cases hp
    · exact absurd hp (by intro q; rw [show own_pstep ci cl (.lor) n g = none from if_neg hn] at q; cases q)
  case ixor =>
    by_cases hn : n = 1
    · subst hn
      replace hp : (match g.stack with | .int y :: .int x :: rest => some { g with pc := g.pc + 1, stack := .int (x ^^^ y) :: rest } | _ => none) = some g' := hp
      split at hp
      · skip
        cases hp
        exact ⟨fun _ hr => XS.ixor X.here hx hg hd (by assumption) hr, hg⟩
      · cases hp
    · exact absurd hp (by intro q; rw [show own_pstep ci cl (.ixor) n g = none from if_neg hn] at q; cases q)
  case lxor =>
    by_cases hn : n = 1
    · subst hn
      replace hp : (match g.stack with | .long y :: .long x :: rest => some { g with pc := g.pc + 1, stack := .long (x ^^^ y) :: rest } | _ => none) = some g' := hp
      split at hp
      · skip
        cases hp
        exact ⟨fun _ hr => XS.lxor X.here hx hg hd (by assumption) hr, hg⟩
      · cases hp
    · exact absurd hp (by intro q; rw [show own_pstep ci cl (.lxor) n g = none from if_neg hn] at q; cases q)
  case ishl =>
    by_cases hn : n = 1
    · subst hn
      replace hp : (match g.stack with | .int y :: .int x :: rest => some { g with pc := g.pc + 1, stack := .int (x <<< (y &&& 31)) :: rest } | _ => none) = some g' := hp
      split at hp
      · skip
        cases hp
        exact ⟨fun _ hr => XS.ishl X.here hx hg hd (by assumption) hr, hg⟩
      · cases hp
    · exact absurd hp (by intro q; rw [show own_pstep ci cl (.ishl) n g = none from if_neg hn] at q; cases q)
  case ishr =>
    by_cases hn : n = 1
    · subst hn
      replace hp : (match g.stack with | .int y :: .int x :: rest => some { g with pc := g.pc + 1, stack := .int (x >>> (y &&& 31)) :: rest } | _ => none) = some g' := hp
      split at hp
      · skip
        cases hp
        exact ⟨fun _ hr => XS.ishr X.here hx hg hd (by assumption) hr, hg⟩
      · cases hp
    · exact absurd hp (by intro q; rw [show own_pstep ci cl (.ishr) n g = none from if_neg hn] at q; cases q)
  case iushr =>
    by_cases hn : n = 1
    · subst hn
      replace hp : (match g.stack with | .int y :: .int x :: rest => some { g with pc := g.pc + 1, stack := .int ((x.toUInt32 >>> (y &&& 31).toUInt32).toInt32) :: rest } | _ => none) = some g' := hp
      split at hp
      · skip
        cases hp
        exact ⟨fun _ hr => XS.iushr X.here hx hg hd (by assumption) hr, hg⟩
      · cases hp
    · exact absurd hp (by intro q; rw [show own_pstep ci cl (.iushr) n g = none from if_neg hn] at q; cases q)
  case lshl =>
    by_cases hn : n = 1
    · subst hn
      replace hp : (match g.stack with | .int y :: .long x :: rest => some { g with pc := g.pc + 1, stack := .long (x <<< (y &&& 0x3f).toInt64) :: rest } | _ => none) = some g' := hp
      split at hp
      · skip
        cases hp
        exact ⟨fun _ hr => XS.lshl X.here hx hg hd (by assumption) hr, hg⟩
      · cases hp
    · exact absurd hp (by intro q; rw [show own_pstep ci cl (.lshl) n g = none from if_neg hn] at q; cases q)
  case lshr =>
    by_cases hn : n = 1
    · subst hn
      replace hp : (match g.stack with | .int y :: .long x :: rest => some { g with pc := g.pc + 1, stack := .long (x >>> (y &&& 0x3f).toInt64) :: rest } | _ => none) = some g' := hp
      split at hp
      · skip
        cases hp
        exact ⟨fun _ hr => XS.lshr X.here hx hg hd (by assumption) hr, hg⟩
      · cases hp
    · exact absurd hp (by intro q; rw [show own_pstep ci cl (.lshr) n g = none from if_neg hn] at q; cases q)
  case lushr =>
    by_cases hn : n = 1
    · subst hn
      replace hp : (match g.stack with | .int y :: .long x :: rest => some { g with pc := g.pc + 1, stack := .long ((x.toUInt64 >>> (y &&& 0x3f).toInt64.toUInt64).toInt64) :: rest } | _ => none) = some g' := hp
      split at hp
      · skip
        cases hp
        exact ⟨fun _ hr => XS.lushr X.here hx hg hd (by assumption) hr, hg⟩
      · cases hp
    · exact absurd hp (by intro q; rw [show own_pstep ci cl (.lushr) n g = none from if_neg hn] at q; cases q)
  case lcmp =>
    by_cases hn : n = 1
    · subst hn
      replace hp : (match g.stack with | .long y :: .long x :: rest => some { g with pc := g.pc + 1, stack := .int (if x > y then 1 else if x = y then 0 else -1) :: rest } | _ => none) = some g' := hp
      split at hp
      · skip
        cases hp
        exact ⟨fun _ hr => XS.lcmp X.here hx hg hd (by assumption) hr, hg⟩
      · cases hp
    · exact absurd hp (by intro q; rw [show own_pstep ci cl (.lcmp) n g = none from if_neg hn] at q; cases q)
  case ineg =>
    by_cases hn : n = 1
    · subst hn
      replace hp : (match g.stack with | .int v :: rest => some { g with pc := g.pc + 1, stack := .int (-v) :: rest } | _ => none) = some g' := hp
      split at hp
      · skip
        cases hp
        exact ⟨fun _ hr => XS.ineg X.here hx hg hd (by assumption) hr, hg⟩
      · cases hp
    · exact absurd hp (by intro q; rw [show own_pstep ci cl (.ineg) n g = none from if_neg hn] at q; cases q)
  case lneg =>
    by_cases hn : n = 1
    · subst hn
      replace hp : (match g.stack with | .long v :: rest => some { g with pc := g.pc + 1, stack := .long (-v) :: rest } | _ => none) = some g' := hp
      split at hp
      · skip
        cases hp
        exact ⟨fun _ hr => XS.lneg X.here hx hg hd (by assumption) hr, hg⟩
      · cases hp
    · exact absurd hp (by intro q; rw [show own_pstep ci cl (.lneg) n g = none from if_neg hn] at q; cases q)
  case i2l =>
    by_cases hn : n = 1
    · subst hn
      replace hp : (match g.stack with | .int v :: rest => some { g with pc := g.pc + 1, stack := .long (v.toInt64) :: rest } | _ => none) = some g' := hp
      split at hp
      · skip
        cases hp
        exact ⟨fun _ hr => XS.i2l X.here hx hg hd (by assumption) hr, hg⟩
      · cases hp
    · exact absurd hp (by intro q; rw [show own_pstep ci cl (.i2l) n g = none from if_neg hn] at q; cases q)
  case l2i =>
    by_cases hn : n = 1
    · subst hn
      replace hp : (match g.stack with | .long v :: rest => some { g with pc := g.pc + 1, stack := .int (v.toInt32) :: rest } | _ => none) = some g' := hp
      split at hp
      · skip
        cases hp
        exact ⟨fun _ hr => XS.l2i X.here hx hg hd (by assumption) hr, hg⟩
      · cases hp
    · exact absurd hp (by intro q; rw [show own_pstep ci cl (.l2i) n g = none from if_neg hn] at q; cases q)
  case i2b =>
    by_cases hn : n = 1
    · subst hn
      replace hp : (match g.stack with | .int v :: rest => some { g with pc := g.pc + 1, stack := .int (v.toInt8.toInt32) :: rest } | _ => none) = some g' := hp
      split at hp
      · skip
        cases hp
        exact ⟨fun _ hr => XS.i2b X.here hx hg hd (by assumption) hr, hg⟩
      · cases hp
    · exact absurd hp (by intro q; rw [show own_pstep ci cl (.i2b) n g = none from if_neg hn] at q; cases q)
  case i2c =>
    by_cases hn : n = 1
    · subst hn
      replace hp : (match g.stack with | .int v :: rest => some { g with pc := g.pc + 1, stack := .int (v.toUInt32.toUInt16.toUInt32.toInt32) :: rest } | _ => none) = some g' := hp
      split at hp
      · skip
        cases hp
        exact ⟨fun _ hr => XS.i2c X.here hx hg hd (by assumption) hr, hg⟩
      · cases hp
    · exact absurd hp (by intro q; rw [show own_pstep ci cl (.i2c) n g = none from if_neg hn] at q; cases q)
  case i2s =>
    by_cases hn : n = 1
    · subst hn
      replace hp : (match g.stack with | .int v :: rest => some { g with pc := g.pc + 1, stack := .int (v.toInt16.toInt32) :: rest } | _ => none) = some g' := hp
      split at hp
      · skip
        cases hp
        exact ⟨fun _ hr => XS.i2s X.here hx hg hd (by assumption) hr, hg⟩
      · cases hp
    · exact absurd hp (by intro q; rw [show own_pstep ci cl (.i2s) n g = none from if_neg hn] at q; cases q)
  case iinc k cst =>
    by_cases hn : n = 3
    · subst hn
      replace hp : (match g.locals[k]? with | some (.val (.int x)) => (match storeLocals g.locals k (.int (x + Int32.ofInt cst)) with | some l' => some { g with pc := g.pc + 3, locals := l' } | none => none) | _ => none) = some g' := hp
      split at hp
      · skip
        split at hp
        · skip
          cases hp
          exact ⟨fun _ hr => XS.iinc X.here hx hg hd (by assumption) (by assumption) hr, hg⟩
        · cases hp
      · cases hp
    · exact absurd hp (by intro q; rw [show own_pstep ci cl (.iinc k cst) n g = none from if_neg hn] at q; cases q)
  case dup =>
    by_cases hn : n = 1
    · subst hn
      replace hp : (match g.stack with | x :: rest => (if x.category = 1 then some { g with pc := g.pc + 1, stack := x :: x :: rest } else none) | _ => none) = some g' := hp
      split at hp
      · skip
        split at hp
        · skip
          cases hp
          exact ⟨fun _ hr => XS.dup X.here hx hg hd (by assumption) (by assumption) hr, hg⟩
        · cases hp
      · cases hp
    · exact absurd hp (by intro q; rw [show own_pstep ci cl (.dup) n g = none from if_neg hn] at q; cases q)
  case pop =>
    by_cases hn : n = 1
    · subst hn
      replace hp : (match g.stack with | x :: rest => (if x.category = 1 then some { g with pc := g.pc + 1, stack := rest } else none) | _ => none) = some g' := hp
      split at hp
      · skip
        split at hp
        · skip
          cases hp
          exact ⟨fun _ hr => XS.pop X.here hx hg hd (by assumption) (by assumption) hr, hg⟩
        · cases hp
      · cases hp
    · exact absurd hp (by intro q; rw [show own_pstep ci cl (.pop) n g = none from if_neg hn] at q; cases q)
  case goto o =>
    by_cases hn : n = 3
    · subst hn
      replace hp : (if 0 ≤ (g.pc : Int) + o then some { g with pc := ((g.pc : Int) + o).toNat } else none) = some g' := hp
      split at hp
      · skip
        cases hp
        exact ⟨fun _ hr => XS.goto X.here hx hg rfl hd (by assumption) rfl hr, hg⟩
      · cases hp
    · exact absurd hp (by intro q; rw [show own_pstep ci cl (.goto o) n g = none from if_neg hn] at q; cases q)
  case ldc i =>
    by_cases hn : n = 2
    · subst hn
      replace hp : (match own_look i ci with | some v => some { g with pc := g.pc + 2, stack := .int v :: g.stack } | none => none) = some g' := hp
      split at hp
      · skip
        cases hp
        exact ⟨fun _ hr => X.ldcInt hx hown (hci _ _ (own_look_mem (by assumption))) hg hd _ hr, hg⟩
      · cases hp
    · exact absurd hp (by intro q; rw [show own_pstep ci cl (.ldc i) n g = none from if_neg hn] at q; cases q)
  case ldc_w i =>
    by_cases hn : n = 3
    · subst hn
      replace hp : (match own_look i ci with | some v => some { g with pc := g.pc + 3, stack := .int v :: g.stack } | none => none) = some g' := hp
      split at hp
      · skip
        cases hp
        exact ⟨fun _ hr => X.ldcwInt hx hown (hci _ _ (own_look_mem (by assumption))) hg hd _ hr, hg⟩
      · cases hp
    · exact absurd hp (by intro q; rw [show own_pstep ci cl (.ldc_w i) n g = none from if_neg hn] at q; cases q)
  case ldc2_w i =>
    by_cases hn : n = 3
    · subst hn
      replace hp : (match own_look i cl with | some v => some { g with pc := g.pc + 3, stack := .long v :: g.stack } | none => none) = some g' := hp
      split at hp
      · skip
        cases hp
        exact ⟨fun _ hr => X.ldc2Long hx hown (hcl _ _ (own_look_mem (by assumption))) hg hd _ hr, hg⟩
      · cases hp
    · exact absurd hp (by intro q; rw [show own_pstep ci cl (.ldc2_w i) n g = none from if_neg hn] at q; cases q)
  case idiv =>
    by_cases hn : n = 1
    · subst hn
      replace hp : (match g.stack with | .int y :: .int x :: rest => (if y = 0 then none else some { g with pc := g.pc + 1, stack := .int (x / y) :: rest }) | _ => none) = some g' := hp
      split at hp
      · skip
        split at hp
        · cases hp
        · cases hp; exact ⟨fun _ hr => XS.idiv X.here hx hg hd (by assumption) (by assumption) hr, hg⟩
      · cases hp
    · exact absurd hp (by intro q; rw [show own_pstep ci cl (.idiv) n g = none from if_neg hn] at q; cases q)
  case irem =>
    by_cases hn : n = 1
    · subst hn
      replace hp : (match g.stack with | .int y :: .int x :: rest => (if y = 0 then none else some { g with pc := g.pc + 1, stack := .int (x - (x / y) * y) :: rest }) | _ => none) = some g' := hp
      split at hp
      · skip
        split at hp
        · cases hp
        · cases hp; exact ⟨fun _ hr => XS.irem X.here hx hg hd (by assumption) (by assumption) hr, hg⟩
      · cases hp
    · exact absurd hp (by intro q; rw [show own_pstep ci cl (.irem) n g = none from if_neg hn] at q; cases q)
  case ldiv =>
    by_cases hn : n = 1
    · subst hn
      replace hp : (match g.stack with | .long y :: .long x :: rest => (if y = 0 then none else some { g with pc := g.pc + 1, stack := .long (x / y) :: rest }) | _ => none) = some g' := hp
      split at hp
      · skip
        split at hp
        · cases hp
        · cases hp; exact ⟨fun _ hr => XS.ldiv X.here hx hg hd (by assumption) (by assumption) hr, hg⟩
      · cases hp
    · exact absurd hp (by intro q; rw [show own_pstep ci cl (.ldiv) n g = none from if_neg hn] at q; cases q)
  case lrem =>
    by_cases hn : n = 1
    · subst hn
      replace hp : (match g.stack with | .long y :: .long x :: rest => (if y = 0 then none else some { g with pc := g.pc + 1, stack := .long (x - (x / y) * y) :: rest }) | _ => none) = some g' := hp
      split at hp
      · skip
        split at hp
        · cases hp
        · cases hp; exact ⟨fun _ hr => XS.lrem X.here hx hg hd (by assumption) (by assumption) hr, hg⟩
      · cases hp
    · exact absurd hp (by intro q; rw [show own_pstep ci cl (.lrem) n g = none from if_neg hn] at q; cases q)
def own_decs (code : ByteArray) (L : List (Nat × Instr × Nat)) : Bool := L.all fun q => decide (decode code q.1 = .ok (q.2.1, q.2.2))
def own_prun (ci : List (Nat × Int32)) (cl : List (Nat × Int64)) : List (Nat × Instr × Nat) → JFrame → Option JFrame
  | [], g => some g
  | (pc, i, n) :: r, g => if g.pc = pc then (match own_pstep ci cl i n g with | some g' => own_prun ci cl r g' | none => none) else none
theorem own_prun_ok (X : Stand p l e R s m args below meth c T locs cells slots) (hx : p.tables.exec = Jvm.exec) (hown : s.vm.findClass own = some m.cls) (hci : ∀ i v, (i, v) ∈ ci → (Cond.constant own i v).before args s = true) (hcl : ∀ i v, (i, v) ∈ cl → (Cond.constantLong own i v).before args s = true) {code : ByteArray} (hby : c.code = code) :
    ∀ (L : List (Nat × Instr × Nat)) (g g' : JFrame), g.method = m → own_decs code L = true → own_prun ci cl L g = some g' → Steps p.tables e below (T.setTop g') target → Steps p.tables e below (T.setTop g) target := by
  intro L
  induction L with
  | nil => intro g g' _ _ hp hr; cases hp; exact hr
  | cons q r ih =>
    intro g g' hg hd hp hr
    obtain ⟨pc, i, n⟩ := q
    have hd' : decide (decode code pc = .ok (i, n)) = true ∧ own_decs code r = true := by
      have : (decide (decode code pc = .ok (i, n)) && own_decs code r) = true := hd
      simpa using this
    replace hp : (if g.pc = pc then (match own_pstep ci cl i n g with | some g' => own_prun ci cl r g' | none => none) else none) = some g' := hp
    by_cases hpc : g.pc = pc
    · rw [if_pos hpc] at hp
      cases hs : own_pstep ci cl i n g with
      | none => rw [hs] at hp; cases hp
      | some g1 =>
        rw [hs] at hp
        have q := own_pstep_ok X hx hown hci hcl hg (i := i) (n := n) (by rw [hby, hpc]; exact of_decide_eq_true hd'.1) hs
        exact q.1 _ (ih g1 g' q.2 hd'.2 hp hr)
    · rw [if_neg hpc] at hp; cases hp
theorem Goes.run (X : Stand p l e R s m args below meth c T locs cells slots) (hx : p.tables.exec = Jvm.exec) (hown : s.vm.findClass own = some m.cls) (hci : ∀ i v, (i, v) ∈ ci → (Cond.constant own i v).before args s = true) (hcl : ∀ i v, (i, v) ∈ cl → (Cond.constantLong own i v).before args s = true) {code : ByteArray} (hby : c.code = code)
    {L : List (Nat × Instr × Nat)} (hd : own_decs code L = true) {g g' : JFrame} (hg : g.method = m) (hp : own_prun ci cl L g = some g') (h : Goes p e below s Q kc ks (T.setTop g')) : Goes p e below s Q kc ks (T.setTop g) :=
  Goes.st (fun _ k => own_prun_ok X hx hown hci hcl hby L g g' hg hd hp k) h
theorem own_ci0 {α : Type} {P : Nat → α → Prop} : ∀ i v, (i, v) ∈ ([] : List (Nat × α)) → P i v := fun _ _ q => nomatch q
theorem own_ciS {α : Type} {P : Nat → α → Prop} {j : Nat} {w : α} {L : List (Nat × α)} (h : P j w) (r : ∀ i v, (i, v) ∈ L → P i v) : ∀ i v, (i, v) ∈ (j, w) :: L → P i v := fun i v q => (List.mem_cons.mp q).elim (fun z => by cases z; exact h) (r i v)
end OwnRun
theorem own_rem32 (x y : Int32) : (x - (x / y) * y).toInt = x.toInt.tmod y.toInt := by
  have a := (x % y).toInt_lt; have b := (x % y).le_toInt
  rw [Int32.toInt_mod] at a b
  rw [Int32.toInt_sub, Int32.toInt_mul, Int32.toInt_div, Int.bmod_mul_bmod, Int.sub_bmod_bmod, Int.mul_comm, ← Int.tmod_def]
  exact Jvm.Kit.bmod32 b a
section OwnNums
variable {x y : Int64} {u v : Int32} {a b : Int}
theorem own_r32 (hx : u.toInt = a) (hy : v.toInt = b) (h0 : 0 ≤ a) : (u - (u / v) * v).toInt = a % b := by subst hx hy; rw [own_rem32, Int.tmod_eq_emod_of_nonneg h0]
theorem own_r64 (hx : x.toInt = a) (hy : y.toInt = b) (h0 : 0 ≤ a) : (x - (x / y) * y).toInt = a % b := by subst hx hy; rw [Jvm.Kit.i64_rem, Int.tmod_eq_emod_of_nonneg h0]
theorem own_mul64 (hx : x.toInt = a) (hy : y.toInt = b) (h1 : -2 ^ 63 ≤ a * b) (h2 : a * b < 2 ^ 63) : (x * y).toInt = a * b := by subst hx hy; exact Jvm.Kit.i64_mul h1 h2
theorem own_mul32 (hx : u.toInt = a) (hy : v.toInt = b) (h1 : -2 ^ 31 ≤ a * b) (h2 : a * b < 2 ^ 31) : (u * v).toInt = a * b := by subst hx hy; exact Jvm.Kit.i32_mul h1 h2
theorem own_add64 (hx : x.toInt = a) (hy : y.toInt = b) (h1 : -2 ^ 63 ≤ a + b) (h2 : a + b < 2 ^ 63) : (x + y).toInt = a + b := by subst hx hy; exact Jvm.Kit.i64_add h1 h2
theorem own_add32 (hx : u.toInt = a) (hy : v.toInt = b) (h1 : -2 ^ 31 ≤ a + b) (h2 : a + b < 2 ^ 31) : (u + v).toInt = a + b := by subst hx hy; exact Jvm.Kit.i32_add h1 h2
theorem own_sub64 (hx : x.toInt = a) (hy : y.toInt = b) (h1 : -2 ^ 63 ≤ a - b) (h2 : a - b < 2 ^ 63) : (x - y).toInt = a - b := by subst hx hy; exact Jvm.Kit.i64_sub h1 h2
theorem own_sub32 (hx : u.toInt = a) (hy : v.toInt = b) (h1 : -2 ^ 31 ≤ a - b) (h2 : a - b < 2 ^ 31) : (u - v).toInt = a - b := by subst hx hy; exact Jvm.Kit.i32_sub h1 h2
theorem own_i2l (hx : u.toInt = a) : u.toInt64.toInt = a := by subst hx; exact Jvm.Kit.i64_of_i32 u
theorem own_lt64 (hx : x.toInt = a) (hy : y.toInt = b) : x < y ↔ a < b := by rw [Int64.lt_iff_toInt_lt, hx, hy]
theorem own_lt32 (hx : u.toInt = a) (hy : v.toInt = b) : u < v ↔ a < b := by rw [Int32.lt_iff_toInt_lt, hx, hy]
theorem own_eq64 (hx : x.toInt = a) (hy : y.toInt = b) : x = y ↔ a = b := by rw [← Int64.toInt_inj, hx, hy]
theorem own_eq32 (hx : u.toInt = a) (hy : v.toInt = b) : u = v ↔ a = b := by rw [← Int32.toInt_inj, hx, hy]
theorem own_m32 (u : Int32) (m : Int32) {k : Nat} (hk : k < 32) (hm : m.toBitVec.toNat = 2 ^ k - 1) : ∃ a : Int, (u &&& m).toInt = a ∧ 0 ≤ a ∧ a < 2 ^ k ∧ a = u.toInt % 2 ^ k := by
  refine ⟨_, Jvm.Kit.i32_mask u m hk hm, Int.emod_nonneg _ (Int.ne_of_gt (Int.pow_pos (by decide))), Int.emod_lt_of_pos _ (Int.pow_pos (by decide)), rfl⟩
theorem own_m64 (x : Int64) (m : Int64) {k : Nat} (hk : k < 64) (hm : m.toBitVec.toNat = 2 ^ k - 1) : ∃ a : Int, (x &&& m).toInt = a ∧ 0 ≤ a ∧ a < 2 ^ k ∧ a = x.toInt % 2 ^ k := by
  refine ⟨_, Jvm.Kit.i64_mask x m hk hm, Int.emod_nonneg _ (Int.ne_of_gt (Int.pow_pos (by decide))), Int.emod_lt_of_pos _ (Int.pow_pos (by decide)), rfl⟩
theorem own_nm {P : Int → Prop} {z : Int} (h : P z) : ∃ a, a = z ∧ P a := ⟨z, rfl, h⟩
end OwnNums
theorem own_nat32 {u : Int32} {a : Int} (hu : u.toInt = a) (h0 : 0 ≤ a) {N : Nat} (h1 : a < N) : ∃ n : Nat, n < N ∧ u = Int32.ofNat n ∧ a = (n : Int) := by
  have q := u.toInt_lt
  refine ⟨a.toNat, by omega, ?_, by omega⟩
  apply Int32.toInt_inj.mp
  rw [Int32.toInt_ofNat_of_lt (by omega), hu]; omega
theorem own_bv64 {x : Int64} {a : Int} (hx : x.toInt = a) (h0 : 0 ≤ a) : (x.toBitVec.toNat : Int) = a := by
  have e : x.toInt = x.toBitVec.toInt := rfl
  have hb := x.toBitVec.isLt
  rw [e, BitVec.toInt_eq_toNat_cond] at hx
  split at hx <;> omega
theorem own_bv32 {x : Int32} {a : Int} (hx : x.toInt = a) (h0 : 0 ≤ a) : (x.toBitVec.toNat : Int) = a := by
  have e : x.toInt = x.toBitVec.toInt := rfl
  have hb := x.toBitVec.isLt
  rw [e, BitVec.toInt_eq_toNat_cond] at hx
  split at hx <;> omega
theorem own_shn (y : Int32) : ((y &&& 0x3f).toInt64.toUInt64).toNat < 64 := by
  obtain ⟨a, h1, h2, h3, -⟩ := own_m32 y (0x3f : Int32) (k := 6) (by decide) (by decide)
  have h4 := own_bv64 (own_i2l h1) h2
  have e : ((y &&& 0x3f).toInt64.toUInt64).toNat = (y &&& 0x3f).toInt64.toBitVec.toNat := rfl
  rw [e]
  omega
theorem own_ushr0 {x : Int64} {a : Int} (hx : x.toInt = a) (h0 : 0 ≤ a) (y : Int32) : ∃ b : Int, ((x.toUInt64 >>> (y &&& 0x3f).toInt64.toUInt64).toInt64).toInt = b ∧ 0 ≤ b ∧ b ≤ a := by
  refine ⟨_, Jvm.Kit.i64_lushr (by rw [Jvm.Kit.i64_nonneg, hx]; exact h0) rfl (own_shn y), ?_, ?_⟩
  · rw [hx]; exact Int.ediv_nonneg h0 (Int.le_of_lt (Int.pow_pos (by decide)))
  · rw [hx]; exact Int.ediv_le_self _ h0
theorem own_ushrk {x : Int64} {a : Int} (hx : x.toInt = a) (h0 : 0 ≤ a) {n : UInt64} {k : Nat} (hn : n.toNat = k) (hk : k < 64) {d : Int} (hd : (2 : Int) ^ k = d) : ((x.toUInt64 >>> n).toInt64).toInt = a / d := by
  rw [Jvm.Kit.i64_lushr (by rw [Jvm.Kit.i64_nonneg, hx]; exact h0) hn hk, hx, hd]
theorem own_ofbv32 {x : Int32} (h : x.toBitVec.toNat < 2 ^ 31) : x.toInt = (x.toBitVec.toNat : Int) := by
  have e : x.toInt = x.toBitVec.toInt := rfl
  rw [e, BitVec.toInt_eq_toNat_cond, if_pos (by omega)]
theorem own_xor32 {x y : Int32} {a b : Int} (hx : x.toInt = a) (hy : y.toInt = b) (h0 : 0 ≤ a) (h1 : 0 ≤ b) : ∃ c : Int, (x ^^^ y).toInt = c ∧ 0 ≤ c := by
  have p := own_bv32 hx h0; have q := own_bv32 hy h1
  have r := x.toInt_lt; have s := y.toInt_lt
  have e : (x ^^^ y).toBitVec.toNat = x.toBitVec.toNat ^^^ y.toBitVec.toNat := by simp [Int32.toBitVec_xor, BitVec.toNat_xor]
  have l : (x ^^^ y).toBitVec.toNat < 2 ^ 31 := by rw [e]; exact Nat.xor_lt_two_pow (by omega) (by omega)
  exact ⟨_, own_ofbv32 l, Int.natCast_nonneg _⟩
theorem own_up {cs : List Int32} (h : ∀ c ∈ cs, ¬ c < 0 ∧ ¬ (255 : Int32) < c) : ∀ c ∈ cs, ¬ c < 0 ∧ ¬ (65535 : Int32) < c := fun c hc => ⟨(h c hc).1, fun q => (h c hc).2 (Int32.lt_trans (by decide) q)⟩
theorem own_hws {Z : State} {a0 : Array Value} (hw : ∀ d ∈ tables_1, d.before a0 Z = true) : ∀ d ∈ StrChars.Road.words, d.before a0 Z = true := fun d hd => hw d ((by decide +kernel : ∀ d ∈ StrChars.Road.words, d ∈ tables_1) d hd)
theorem own_heq {Z : State} {a0 : Array Value} (hw : ∀ d ∈ tables_1, d.before a0 Z = true) : ∀ d ∈ StrChars.Road.wordsEq, d.before a0 Z = true := fun d hd => hw d ((by decide +kernel : ∀ d ∈ StrChars.Road.wordsEq, d ∈ tables_1) d hd)
theorem own_hch {Z : State} {a0 : Array Value} (hw : ∀ d ∈ tables_1, d.before a0 Z = true) : ∀ d ∈ StrChars.Road.wordsChN, d.before a0 Z = true := fun d hd => hw d ((by decide +kernel : ∀ d ∈ StrChars.Road.wordsChN, d ∈ tables_1) d hd)
def own_eqr (a b : List Int32) : Int32 := if a = b then 1 else 0
theorem own_eqv {v : Option Value} {a b : List Int32} (h : (v = some (.int 1) ∧ a = b) ∨ (v = some (.int 0) ∧ ¬ a = b)) : v = some (.int (own_eqr a b)) := by
  unfold own_eqr
  rcases h with ⟨rfl, q⟩ | ⟨rfl, q⟩
  · rw [if_pos q]
  · rw [if_neg q]
theorem own_sym (a b : List Int32) : own_eqr a b = own_eqr b a := by
  unfold own_eqr
  by_cases h : a = b
  · rw [if_pos h, if_pos h.symm]
  · rw [if_neg h, if_neg fun q => h q.symm]
theorem own_narc (u : Int32) : nar .char (u.toUInt32.toUInt16.toUInt32.toInt32) = u.toUInt32.toUInt16.toUInt32.toInt32 := by
  show (u.toUInt32.toUInt16.toUInt32.toInt32).toUInt32.toUInt16.toUInt32.toInt32 = _
  have e : (u.toUInt32.toUInt16.toUInt32.toInt32.toUInt32) = u.toUInt32.toUInt16.toUInt32 := rfl
  rw [e, UInt16.toUInt16_toUInt32]
theorem own_eq01 (a b : List Int32) (h : ¬ own_eqr a b = 0) : own_eqr a b = 1 := by
  unfold own_eqr at *
  split
  · rfl
  · rename_i q; rw [if_neg q] at h; exact absurd rfl h
def own_val (a b : Addr) (x y : Int32) : Value := if x = 0 then (if y = 0 then .null else .ref b) else .ref a
theorem own_valR (a b : Addr) (x y : Int32) : (own_val a b x y).isRef = true := by
  unfold own_val
  split
  · split <;> rfl
  · rfl
theorem own_hN : ∀ c ∈ ([110, 117, 108, 108] : List Int32), ¬ c < 0 ∧ ¬ (255 : Int32) < c := by decide
theorem own_hD : ∀ c ∈ ([100, 101, 102, 108, 97, 116, 101] : List Int32), ¬ c < 0 ∧ ¬ (255 : Int32) < c := by decide
theorem own_veq (a b : Addr) (cs : List Int32) : own_val a b (own_eqr ([110, 117, 108, 108] : List Int32) cs) (own_eqr ([100, 101, 102, 108, 97, 116, 101] : List Int32) cs) = own_val a b (own_eqr cs ([110, 117, 108, 108] : List Int32)) (own_eqr cs ([100, 101, 102, 108, 97, 116, 101] : List Int32)) := by rw [own_sym ([110, 117, 108, 108] : List Int32), own_sym ([100, 101, 102, 108, 97, 116, 101] : List Int32)]
theorem own_al0 : ∀ c ∈ ([] : List Int32), ¬ c < 0 ∧ ¬ (255 : Int32) < c := fun _ q => nomatch q
theorem own_alS {a : Int32} {l : List Int32} (h : ¬ a < 0 ∧ ¬ (255 : Int32) < a) (r : ∀ c ∈ l, ¬ c < 0 ∧ ¬ (255 : Int32) < c) : ∀ c ∈ a :: l, ¬ c < 0 ∧ ¬ (255 : Int32) < c := fun c q => by
  rcases List.mem_cons.mp q with rfl | q
  · exact h
  · exact r c q
def Bd (u : Int32) : Prop := ∃ a : Int, u.toInt = a ∧ 0 ≤ a ∧ a < 256
theorem own_cc {v : Int32} (h : Bd v) : v.toUInt32.toUInt16.toUInt32.toInt32 = v := by
  obtain ⟨a, e, a0, a1⟩ := h
  obtain ⟨k, hk, rfl, -⟩ := own_nat32 e a0 (N := 256) a1
  exact (by decide +kernel : ∀ n : Nat, n < 256 → (Int32.ofNat n).toUInt32.toUInt16.toUInt32.toInt32 = Int32.ofNat n) k hk
theorem Bd.ch {v : Int32} (h : Bd v) : Bd (v.toUInt32.toUInt16.toUInt32.toInt32) := by rw [own_cc h]; exact h
theorem Bd.nar {v : Int32} (h : Bd v) : Bd (nar .char v) := h.ch
theorem Bd.and (x : Int32) : Bd (x &&& (255 : Int32)) := by
  obtain ⟨A, m0, a0, a1, -⟩ := own_m32 x (255 : Int32) (k := 8) (by decide) (by decide)
  exact ⟨A, m0, a0, by omega⟩
theorem Bd.andL (x : Int64) : Bd ((x &&& (255 : Int64)).toInt32) := by
  obtain ⟨A, m0, a0, a1, -⟩ := own_m64 x (255 : Int64) (k := 8) (by decide) (by decide)
  refine ⟨A, ?_, a0, by omega⟩
  rw [Int64.toInt_toInt32, m0]
  exact Int.bmod_eq_of_le (by omega) (by omega)
theorem Bd.hp {u : Int32} (h : Bd u) : ¬ u < 0 ∧ ¬ (255 : Int32) < u := by
  obtain ⟨a, e, a0, a1⟩ := h
  rw [own_lt32 e (show (0 : Int32).toInt = 0 by decide), own_lt32 (show (255 : Int32).toInt = 255 by decide) e]
  omega
theorem Bd.ite {c : Prop} [Decidable c] {u v : Int32} (h : Bd u) (k : Bd v) : Bd (if c then u else v) := by
  split
  · exact h
  · exact k
theorem own_bl (u : Int32) (h : (0 ≤ u.toInt ∧ u.toInt < 256)) : Bd u := ⟨_, rfl, h.1, h.2⟩
def QH (w : Option Value) (h0 : Heap) (n0 : Nat) (v : Option Value) (h : Heap) (L : List Loc) : Prop := v = w ∧ Fr n0 L ∧ Keep h0 h []
def GoesH (Z : State) (h0 : Heap) (p : Program) (e : Env) (below : List Frame) (s : State) (Q : Option Value → Heap → List Loc → Prop) (kc ks : Nat) (A : State) : Prop :=
  ∃ s₂ o, Steps p.tables e below A s₂ ∧ s₂.status = .running ∧ Ended s₂ below o ∧ ∃ v L, o = .returned v ∧ Q v s₂.heap L ∧ CHr Z consts_1 s.vm h0 s₂.vm s₂.heap ∧ ReturnedEndW s o s₂ L kc ks
section OwnGoesH
variable {p : Program} {l : Launch} {e : Env} {R : Room} {s s' Z : State} {m : MethodId} {args a0 : Array Value} {below : List Frame} {meth : Method} {c : Code} {T : State} {locs : List Loc} {cells slots kc ks : Nat} {Q : Option Value → Heap → List Loc → Prop} {vm0 vm1 : Vm} {h0 h : Heap} {EL : List (String × Nat)}
theorem GoesH.st {A B : State} (k : ∀ t, Steps p.tables e below B t → Steps p.tables e below A t) (g : GoesH Z h0 p e below s Q kc ks B) : GoesH Z h0 p e below s Q kc ks A := by
  obtain ⟨s₂, o, h1, r⟩ := g
  exact ⟨s₂, o, k _ h1, r⟩
theorem GoesH.cast {g g' : JFrame} (q : g = g') (k : GoesH Z h0 p e below s Q kc ks (T.setTop g')) : GoesH Z h0 p e below s Q kc ks (T.setTop g) := q ▸ k
theorem GoesH.run {own : String} {ci : List (Nat × Int32)} {cl : List (Nat × Int64)} (X : Stand p l e R s' m args below meth c T locs cells slots) (hx : p.tables.exec = Jvm.exec) (hown : s'.vm.findClass own = some m.cls) (hci : ∀ i v, (i, v) ∈ ci → (Cond.constant own i v).before args s' = true) (hcl : ∀ i v, (i, v) ∈ cl → (Cond.constantLong own i v).before args s' = true) {code : ByteArray} (hby : c.code = code)
    {L : List (Nat × Instr × Nat)} (hd : own_decs code L = true) {g g' : JFrame} (hg : g.method = m) (hp : own_prun ci cl L g = some g') (k : GoesH Z h0 p e below s Q kc ks (T.setTop g')) : GoesH Z h0 p e below s Q kc ks (T.setTop g) :=
  GoesH.st (fun _ q => own_prun_ok X hx hown hci hcl hby L g g' hg hd hp q) k
theorem own_chE (X : Stand p l e R (s.setVm vm1) m args below meth c T locs cells slots) (C : CHr Z consts_1 s.vm h0 vm1 T.heap) (hZ : Z.Warmed39 vm1) (hEL : EW Z a0 consts_1) : CHr Z consts_1 s.vm h0 T.vm T.heap := C.trans (CHv.at X hZ hEL C.1)
theorem GoesH.retI (X : Stand p l e R (s.setVm vm1) m args below meth c T locs cells slots) {n : Nat} (hS : s.Since vm1 n) (hn : n ≤ T.heap.size) (C : CHr Z consts_1 s.vm h0 vm1 T.heap) (hZ : Z.Warmed39 vm1) (hEL : EW Z a0 consts_1) (hx : p.tables.exec = Jvm.exec) (hlk : meth.locks = false) (hret : meth.sig.returnType = some .int) {pc : Nat} {Ls : Array Slot} {z : Int32} {rest : List Value} (hd : decode c.code pc = .ok (.ireturn, 1)) (hQ : Q (some (.int z)) T.heap locs) (h1 : cells ≤ kc) (h2 : slots ≤ ks) : GoesH Z h0 p e below s Q kc ks (T.setTop (mkF m pc Ls (.int z :: rest))) := by
  obtain ⟨fs, hr, hrun, hended, hE⟩ := X.leaveW hS hn (v := some (.int z)) (fun h => by rw [hret] at h; cases h)
  exact ⟨_, _, retOut X hx hret rfl (Or.inl ⟨rfl, Or.inl rfl, _, rfl⟩) hd hr, hrun, hended, _, _, rfl, hQ, (show CHr Z consts_1 s.vm h0 T.vm T.heap from own_chE X C hZ hEL), hE.1, hE.2.1, hE.2.2.1, hE.2.2.2.mono h1 h2⟩
theorem GoesH.retB (X : Stand p l e R (s.setVm vm1) m args below meth c T locs cells slots) {n : Nat} (hS : s.Since vm1 n) (hn : n ≤ T.heap.size) (C : CHr Z consts_1 s.vm h0 vm1 T.heap) (hZ : Z.Warmed39 vm1) (hEL : EW Z a0 consts_1) (hx : p.tables.exec = Jvm.exec) (hlk : meth.locks = false) {t : FieldType} (hret : meth.sig.returnType = some t) (ht : t = .boolean ∨ t = .byte ∨ t = .char ∨ t = .short) {pc : Nat} {Ls : Array Slot} {z : Int32} {rest : List Value} (hd : decode c.code pc = .ok (.ireturn, 1)) (hz : nar t z = z) (hQ : Q (some (.int z)) T.heap locs) (h1 : cells ≤ kc) (h2 : slots ≤ ks) : GoesH Z h0 p e below s Q kc ks (T.setTop (mkF m pc Ls (.int z :: rest))) := by
  obtain ⟨fs, hr, hrun, hended, hE⟩ := X.leaveW hS hn (v := some (.int z)) (fun h => by rw [hret] at h; cases h)
  exact ⟨_, _, retN X hx hret ht hd (by rw [hz]; exact hr), hrun, hended, _, _, rfl, hQ, (show CHr Z consts_1 s.vm h0 T.vm T.heap from own_chE X C hZ hEL), hE.1, hE.2.1, hE.2.2.1, hE.2.2.2.mono h1 h2⟩
theorem GoesH.retR (X : Stand p l e R (s.setVm vm1) m args below meth c T locs cells slots) {n : Nat} (hS : s.Since vm1 n) (hn : n ≤ T.heap.size) (C : CHr Z consts_1 s.vm h0 vm1 T.heap) (hZ : Z.Warmed39 vm1) (hEL : EW Z a0 consts_1) (hx : p.tables.exec = Jvm.exec) (hlk : meth.locks = false) {t : FieldType} (hret : meth.sig.returnType = some t) {w : Value} (ht : t.isReference = true) (hw : w.isRef = true) {pc : Nat} {Ls : Array Slot} {rest : List Value} (hd : decode c.code pc = .ok (.areturn, 1)) (hQ : Q (some w) T.heap locs) (h1 : cells ≤ kc) (h2 : slots ≤ ks) : GoesH Z h0 p e below s Q kc ks (T.setTop (mkF m pc Ls (w :: rest))) := by
  obtain ⟨fs, hr, hrun, hended, hE⟩ := X.leaveW hS hn (v := some w) (fun h => by rw [hret] at h; cases h)
  have hn : narrow t w = w := by cases t <;> cases w <;> first | rfl | (simp [FieldType.isReference] at ht) | (simp [Value.isRef] at hw)
  exact ⟨_, _, retOut X hx hret hn (Or.inr (Or.inr (Or.inr (Or.inr ⟨rfl, ht, hw⟩)))) hd hr, hrun, hended, _, _, rfl, hQ, (show CHr Z consts_1 s.vm h0 T.vm T.heap from own_chE X C hZ hEL), hE.1, hE.2.1, hE.2.2.1, hE.2.2.2.mono h1 h2⟩
theorem GoesH.retV (X : Stand p l e R (s.setVm vm1) m args below meth c T locs cells slots) {n : Nat} (hS : s.Since vm1 n) (hn : n ≤ T.heap.size) (C : CHr Z consts_1 s.vm h0 vm1 T.heap) (hZ : Z.Warmed39 vm1) (hEL : EW Z a0 consts_1) (hx : p.tables.exec = Jvm.exec) (hlk : meth.locks = false) (hret : meth.sig.returnType = none) {pc : Nat} {Ls : Array Slot} (hd : decode c.code pc = .ok (.return_, 1)) (hQ : Q none T.heap locs) (h1 : cells ≤ kc) (h2 : slots ≤ ks) : GoesH Z h0 p e below s Q kc ks (T.setTop (mkF m pc Ls [])) := by
  obtain ⟨fs, hr, hrun, hended, hE⟩ := X.leaveW hS hn (v := none) (fun _ => rfl)
  exact ⟨_, _, X.returnOut hx hret hd hr, hrun, hended, _, _, rfl, hQ, (show CHr Z consts_1 s.vm h0 T.vm T.heap from own_chE X C hZ hEL), hE.1, hE.2.1, hE.2.2.1, hE.2.2.2.mono h1 h2⟩
theorem own_backH {y : MethodName} {bytes : ByteArray} {maxL : Nat} {ret : Option FieldType} {rm : Room} {len W : Nat} {as' : Array Value} {sf : List Addr}
    (hM : MetFree l y (head1 [Cond.code y bytes maxL ret] rm) (fun a U => a = as' ∧ Z.Warmed39 U.vm ∧ U.heap = h ∧ CHv Z EL U.vm h ∧ ∀ x ∈ sf, Safe Z EL U.vm h x) (fun _ _ _ _ _ => True) (fun _ U o U' => ∃ v L, o = .returned v ∧ Q v U'.heap L ∧ CHr Z EL U.vm h U'.vm U'.heap ∧ ReturnedEndW U o U' L rm.cells rm.slots))
    (hZ : Z.Warmed39 vm0) (wc : (Cond.code y bytes maxL ret).before a0 Z = true) (wz : (Cond.initialized y.cls).before a0 Z = true) (hf : rm.frames + 1 ≤ R.frames) (hl : W + (maxL + 11) + rm.locals ≤ R.locals) (hEL : EW Z a0 EL) (H : CHv Z EL vm0 h) (hsf : ∀ x ∈ sf, x < h.size ∧ Safe Z EL vm0 h x) :
    BackS l R p e below (s.setVm vm0) args y len W (fun A a => a = as' ∧ A.U.heap = h ∧ A.cells + rm.cells ≤ R.cells ∧ A.slots + rm.slots ≤ R.slots)
      (fun A _ v B => ∃ L, Q v B.U.heap L ∧ B.locs = A.locs ++ L ∧ B.cells = A.cells + rm.cells ∧ B.slots = A.slots + rm.slots ∧ CHr Z EL vm0 h B.U.vm B.U.heap) := by
  refine BackS.of_freeW (bytes := bytes) (maxL := maxL) (ret := ret) (E := fun _ first o t L k n => k = rm.cells ∧ n = rm.slots ∧ (∃ v, o = .returned v ∧ Q v t.heap L) ∧ CHr Z EL first.vm h t.vm t.heap) hM hf hl ?_ ?_ (fun _ _ _ _ _ _ _ _ _ => trivial) ?_ ?_
  · intro m meth c A a Y hp
    have hU : Z.Warmed39 A.U.vm := wtrans (s := s.setVm vm0) hZ Y.warmed
    exact ⟨by show (Cond.and _ .tt).before a A.U = true; rw [Cond.before_and, mv hU wc]; rfl, mv hU wc, mv hU wz, hp.2.2.1, hp.2.2.2⟩
  · intro m meth c A a g mk Y hp
    have A1 := CHv.at Y hZ hEL H
    exact ⟨hp.1, wtrans (s := s.setVm vm0) hZ Y.warmed, hp.2.1, A1.1, fun x hx => A1.safe (hsf x hx).1 (hsf x hx).2⟩
  · rintro _ _ _ _ ⟨v, L, q1, q2, q3, q4⟩
    exact ⟨L, _, _, q4, rfl, rfl, ⟨v, q1, q2⟩, q3⟩
  · rintro m meth c A a g mk v t L k n Y hp - - ⟨e1, e2, ⟨v', e3, e4⟩, e5⟩
    cases e3; subst e1 e2
    exact ⟨L, e4, rfl, rfl, rfl, (CHv.at Y hZ hEL H).trans e5⟩
theorem own_sf0 : ∀ x ∈ ([] : List Addr), x < h.size ∧ Safe Z EL vm0 h x := fun _ q => nomatch q
theorem own_sfn : ∀ x ∈ ([] : List Addr), Safe Z EL vm0 h x := fun _ q => nomatch q
theorem own_sfS {x : Addr} {xs : List Addr} (a : x < h.size) (b : Safe Z EL vm0 h x) (r : ∀ y ∈ xs, y < h.size ∧ Safe Z EL vm0 h y) : ∀ y ∈ x :: xs, y < h.size ∧ Safe Z EL vm0 h y := fun y q => by
  rcases List.mem_cons.mp q with rfl | q
  · exact ⟨a, b⟩
  · exact r y q
end OwnGoesH
theorem own_since (s : State) : s.Since s.vm s.heap.size := ⟨State.Warmed39.refl s, fun j p hj hp => absurd (Array.getElem?_eq_some_iff.mp hp).1 (Nat.not_lt.mpr hj)⟩
theorem own_wS {Z : State} {a0 : Array Value} (hw : ∀ d ∈ tables_1, d.before a0 Z = true) : ∀ d ∈ Bundle.stringAtoms, d.before a0 Z = true := fun d hd => hw d ((by decide +kernel : ∀ d ∈ Bundle.stringAtoms, d ∈ tables_1) d hd)
theorem own_EL {Z : State} {a0 : Array Value} (hw : ∀ d ∈ tables_1, d.before a0 Z = true) : EW Z a0 consts_1 := (EW.cons (text := "null") (hw _ (List.mem_of_getElem? (i := 5) rfl)) (by decide) (EW.cons (text := "deflate") (hw _ (List.mem_of_getElem? (i := 106) rfl)) (by decide) (EW.cons (text := "") (hw _ (List.mem_of_getElem? (i := 108) rfl)) (by decide) EW.nil)))
theorem d1_1 : decode method_3_code 1 = .ok (.ifCond .ne 15, 3) := by decide +kernel
theorem d1_6 : decode method_3_code 6 = .ok (.if_icmp .ge 10, 3) := by decide +kernel
theorem d1_9 : decode method_3_code 9 = .ok (.ldc 35, 2) := by decide +kernel
theorem d1_12 : decode method_3_code 12 = .ok (.invokevirtual 37, 3) := by decide +kernel
theorem d1_15 : decode method_3_code 15 = .ok (.ireturn, 1) := by decide +kernel
theorem d1_18 : decode method_3_code 18 = .ok (.if_icmp .ne 16, 3) := by decide +kernel
theorem d1_24 : decode method_3_code 24 = .ok (.if_icmp .ge 10, 3) := by decide +kernel
theorem d1_27 : decode method_3_code 27 = .ok (.ldc 43, 2) := by decide +kernel
theorem d1_30 : decode method_3_code 30 = .ok (.invokevirtual 37, 3) := by decide +kernel
theorem d1_33 : decode method_3_code 33 = .ok (.ireturn, 1) := by decide +kernel
theorem d1_46 : decode method_3_code 46 = .ok (.ireturn, 1) := by decide +kernel
theorem pnA0 : plainName "com/example/upcaster/upcaster/io/CodecNamedPinLaw" = true := by first | (simp [plainName, overriddenIn]; done) | decide +kernel
theorem pdA0_0 : parseMethodDescriptor "(I)C" = some ⟨[.int], some .char⟩ := by decide +kernel
theorem efA0 (m : MethodId) (x0 : Int32) (x2 : Int64) : entryFrame m #[(.int x0), (.int (0 : Int32)), (.long x2)] 4 = (mkF m 0 #[iv x0, iv (0 : Int32), jv x2, .second] []) := by first | (simp [entryFrame, mkF, argsToLocals, Value.category]; done) | rfl
def rA0 (x0 : Int32) (x2 : Int64) : Int32 := (if x0 = (0 : Int32) then (110 : Int32) else (if x0 = (1 : Int32) then (100 : Int32) else (((((x2.toUInt64 >>> ((0 : Int32) &&& 0x3f).toInt64.toUInt64).toInt64) &&& (255 : Int64)).toInt32).toUInt32.toUInt16.toUInt32.toInt32)))
set_option maxRecDepth 65536 in
set_option maxHeartbeats 40000000 in
theorem rmA0 (l : Launch) (Z : State) (a0 : Array Value) (hw : ∀ d ∈ tables_1, d.before a0 Z = true) (ws : List Jvm.Cond) (x0 : Int32) (x2 : Int64) (G1 : Int32) (G3 : Value) (h0 : Heap) (n0 : Nat) (Z0 : n0 ≤ h0.size) (O0 : Old Z n0 h0) (O2 : Sta Z Z.heap "java/lang/String" "COMPACT_STRINGS" "Z" (.int G1)) (O4 : Sta Z Z.heap "jdk/internal/util/Preconditions" "SIOOBE_FORMATTER" "Ljava/util/function/BiFunction;" G3) (P5 : ¬ G1 = 0) (rG3 : G3.isRef = true) :
    MetFree l ym1 (head1 (Jvm.Cond.code ym1 method_3_code 4 (some .char) :: ws) ({ frames := 4, cells := 2, slots := 32, locals := 53 } : Room)) (fun a U => a = #[(.int x0), (.int (0 : Int32)), (.long x2)] ∧ Z.Warmed39 U.vm ∧ U.heap = h0 ∧ CHv Z consts_1 U.vm h0 ∧ ∀ x ∈ ([] : List Addr), Safe Z consts_1 U.vm h0 x) (fun _ _ _ _ _ => True) (fun _ U o U' => ∃ v L, o = .returned v ∧ (QH (some (.int (rA0 x0 x2))) h0 n0) v U'.heap L ∧ CHr Z consts_1 U.vm h0 U'.vm U'.heap ∧ ReturnedEndW U o U' L ({ frames := 4, cells := 2, slots := 32, locals := 53 } : Room).cells ({ frames := 4, cells := 2, slots := 32, locals := 53 } : Room).slots) := by
  refine MetFree.of_bodySF (plainFor_of_name pnA0) hisR ?_
  intro p e s m args below meth c s₁ Bd hml0 hP hK
  obtain ⟨rfl, hZ, hh, hCH0, hSF⟩ := hP
  have hx := Bd.exec
  have hby := Bd.bytes
  have hml : c.maxLocals = 4 := hml0
  have hlk : meth.locks = false := BodyLoose.notSynchronized Bd
  have hown : s.vm.findClass "com/example/upcaster/upcaster/io/CodecNamedPinLaw" = some m.cls := findClass_of_methodNamed Bd.named
  have hnm := (name_of_methodNamed Bd.named Bd.method).1
  have w_5 := hw _ (List.mem_of_getElem? (i := 5) rfl)
  have w_7 := hw _ (List.mem_of_getElem? (i := 7) rfl)
  have w_13 := hw _ (List.mem_of_getElem? (i := 13) rfl)
  have w_14 := hw _ (List.mem_of_getElem? (i := 14) rfl)
  have w_15 := hw _ (List.mem_of_getElem? (i := 15) rfl)
  have w_16 := hw _ (List.mem_of_getElem? (i := 16) rfl)
  have w_38 := hw _ (List.mem_of_getElem? (i := 38) rfl)
  have w_106 := hw _ (List.mem_of_getElem? (i := 106) rfl)
  have hci : ∀ i v, (i, v) ∈ ([] : List (Nat × Int32)) → (Jvm.Cond.constant "com/example/upcaster/upcaster/io/CodecNamedPinLaw" i v).before #[(.int x0), (.int (0 : Int32)), (.long x2)] s = true := own_ci0
  have hcl : ∀ i v, (i, v) ∈ ([(45, 255)] : List (Nat × Int64)) → (Jvm.Cond.constantLong "com/example/upcaster/upcaster/io/CodecNamedPinLaw" i v).before #[(.int x0), (.int (0 : Int32)), (.long x2)] s = true := (own_ciS (mvT hZ w_38) own_ci0)
  have X0 : Stand p l e ({ frames := 4, cells := 2, slots := 32, locals := 53 } : Room) s m #[(.int x0), (.int (0 : Int32)), (.long x2)] below meth c s₁ [] 0 0 := Stand.of_body Bd
  have e0 : s₁.heap = h0 := by rw [← hh, Bd.state]; rfl
  have N0 := Fr.nil n0
  show GoesH Z h0 p e below s (QH (some (.int (rA0 x0 x2))) h0 n0) ({ frames := 4, cells := 2, slots := 32, locals := 53 } : Room).cells ({ frames := 4, cells := 2, slots := 32, locals := 53 } : Room).slots (s₁.setTop (entryFrame m #[(.int x0), (.int (0 : Int32)), (.long x2)] 4))
  refine GoesH.cast (efA0 m x0 x2) ?_
  have hEL := own_EL hw
  have Sn0 : s.Since s.vm s.heap.size := own_since s
  have hk0 : s.heap.size ≤ h0.size := Nat.le_of_eq (congrArg Array.size hh)
  have X0 : Stand p l e ({ frames := 4, cells := 2, slots := 32, locals := 53 } : Room) (s.setVm s.vm) m #[(.int x0), (.int (0 : Int32)), (.long x2)] below meth c s₁ [] 0 0 := X0
  have CH0 : CHr Z consts_1 s.vm h0 s.vm h0 := CHr.refl hCH0
  have K0 : Keep h0 h0 [] := Keep.refl h0 _
  refine GoesH.run X0 hx hown hci hcl hby (L := [(0, .iload_n 0, 1)]) (by decide +kernel) rfl (g' := (mkF m 1 #[iv x0, iv (0 : Int32), jv x2, .second] [(.int x0)])) rfl ?_
  by_cases hc1_1 : x0 = (0 : Int32)
  · skip
    refine GoesH.st (B := s₁.setTop (mkF m 4 #[iv x0, iv (0 : Int32), jv x2, .second] [])) (fun t k => ?_) ?_
    · refine XS.ifNo X0.here hx rfl (hb hby d1_1) rfl ((if0 _ _).trans (teq hc1_1).2) ?_
      exact k
    refine GoesH.run X0 hx hown hci hcl hby (L := [(4, .iload_n 1, 1), (5, .iconst 4, 1)]) (by decide +kernel) rfl (g' := (mkF m 6 #[iv x0, iv (0 : Int32), jv x2, .second] [(.int (4 : Int32)), (.int (0 : Int32))])) rfl ?_
    have hc6_2 : (0 : Int32) < (4 : Int32) := by decide
    refine GoesH.st (B := s₁.setTop (mkF m 9 #[iv x0, iv (0 : Int32), jv x2, .second] [])) (fun t k => ?_) ?_
    · refine XS.icmpNo X0.here hx rfl (hb hby d1_6) rfl (tlt hc6_2).2.1 ?_
      exact k
    obtain ⟨sa3, T3, h3, kk3, sb3, kb3, X3, e3, E3, Sn3, hk3, hZ, hown, A3, C3, D3, V3, -, -, CHq3, lt3, nsf3, st3⟩ := ldcCH X0 hx hZ hown w_5 (own_wS hw) e0 Sn0 hk0 hEL (by decide : ("com/example/upcaster/upcaster/io/CodecNamedPinLaw", 35) ∈ consts_1) CH0.1 (vs := ((([110, 117, 108, 108] : List Int32).map (fun c => c.toInt8.toInt32)).map Value.int)) (z := (4 : Int32)) ⟨by decide, by decide⟩ (by decide) (by decide) (g := (mkF m 9 #[iv x0, iv (0 : Int32), jv x2, .second] [])) rfl (hb hby d1_9) (n := 16) (by decide) (by decide) (by decide) (by decide)
    have Zn3 : n0 ≤ h3.size := Nat.le_trans Z0 E3.1
    have K3 := K0.ext E3
    have Od3 := O0.ext E3
    have hk3e := Nat.le_trans hk0 E3.1
    have CH3 := CH0.trans CHq3
    have hci : ∀ i v, (i, v) ∈ ([] : List (Nat × Int32)) → (Jvm.Cond.constant "com/example/upcaster/upcaster/io/CodecNamedPinLaw" i v).before #[(.int x0), (.int (0 : Int32)), (.long x2)] (s.setVm T3.vm) = true := own_ci0
    have hcl : ∀ i v, (i, v) ∈ ([(45, 255)] : List (Nat × Int64)) → (Jvm.Cond.constantLong "com/example/upcaster/upcaster/io/CodecNamedPinLaw" i v).before #[(.int x0), (.int (0 : Int32)), (.long x2)] (s.setVm T3.vm) = true := (own_ciS (mvT hZ w_38) own_ci0)
    have E_sa3 : Exa Z h3 sa3 "java/lang/String" := A3
    have F_coder_sa3 : Fld Z h3 sa3 "java/lang/String" "coder" "B" (.int (0 : Int32)) := C3
    have F_value_sa3 : Fld Z h3 sa3 "java/lang/String" "value" "[B" (.ref sb3) := D3
    have V_sb3 : Arv Z h3 sb3 kb3 .byte (4 : Int32) ((([110, 117, 108, 108] : List Int32).map (fun c => c.toInt8.toInt32)).map Value.int) (.int (0 : Int32)) := V3
    refine GoesH.st (B := T3.setTop (mkF m 11 #[iv x0, iv (0 : Int32), jv x2, .second] [(.ref sa3)])) st3 ?_
    refine GoesH.run X3 hx hown hci hcl hby (L := [(11, .iload_n 1, 1)]) (by decide +kernel) rfl (g' := (mkF m 12 #[iv x0, iv (0 : Int32), jv x2, .second] [(.int (0 : Int32)), (.ref sa3)])) rfl ?_
    have hcd_sa3 : StrChars.Road.CodA ([110, 117, 108, 108] : List Int32) 0 (4 : Int32) ((([110, 117, 108, 108] : List Int32).map (fun c => c.toInt8.toInt32)).map Value.int) := StrChars.Road.codOf (n := 4) rfl (fun c hc => ((by decide : ∀ c ∈ ([110, 117, 108, 108] : List Int32), ¬ c < 0 ∧ ¬ (255 : Int32) < c) c hc).2)
    have hbd_sa3 := own_up (by decide : ∀ c ∈ ([110, 117, 108, 108] : List Int32), ¬ c < 0 ∧ ¬ (255 : Int32) < c)
    obtain ⟨cq4, kq4, q4a, q4b, q4c⟩ := isOf hZ e3 E_sa3
    obtain ⟨_, _, ⟨T4, L4, k4, n4⟩, -, X4, ⟨Lc4, hQ4, l4, y4, z4⟩, st4⟩ := X3.virtualBack hx (y := ym0) (z := ym0) hown (mvT hZ w_13) (mvT hZ w_14) (notFace_of_selects (args := #[]) (mvT hZ w_16)) (mvT hZ w_16) (mvT hZ w_15) (by decide) (StrChars.Road.chN (W := 0) hZ (own_hch hw) (kI := 4) w_7 E_sa3 F_value_sa3 F_coder_sa3 V_sb3 hcd_sa3 hbd_sa3 (O2.ext Od3.2) P5 (O4.ext Od3.2) rG3 (Nat.le_of_ble_eq_true rfl) (i := 0) (Nat.le_of_ble_eq_true rfl) (j := (0 : Int32)) rfl (by decide) (by decide)) q4a q4c (g := (mkF m 12 #[iv x0, iv (0 : Int32), jv x2, .second] [(.int (0 : Int32)), (.ref sa3)])) rfl (by rw [hml]; rfl) (Steps.refl _) (argsL := [(.int (0 : Int32))]) (rest := []) (lenOf pdA0_0 rfl) rfl (by show 2 * 0 + _ ≤ _; exact Nat.le_of_eq rfl) (hb hby d1_12) (fun _ _ => ⟨rfl, e3, (by decide : 2 + 0 ≤ _), (by decide : 20 + 0 ≤ _)⟩)
    dsimp only [Pt.U, Pt.locs, Pt.cells, Pt.slots] at X4 l4 y4 z4 st4 hQ4
    subst l4 y4 z4
    rw [show ([110, 117, 108, 108] : List Int32).getD 0 0 = (110 : Int32) from rfl] at hQ4
    obtain ⟨rfl, rfl, e4⟩ := hQ4
    have N4 := Fr.app N0 (Fr.nil n0)
    refine GoesH.st (B := T4.setTop (mkF m 15 #[iv x0, iv (0 : Int32), jv x2, .second] [(.int (110 : Int32))])) (fun t k => st4.trans k) ?_
    exact GoesH.retB X4 Sn3 (by rw [e4]; exact hk3) (by rw [e4]; exact CH3) hZ hEL hx hlk (t := .char) Bd.returns (by simp) (hb hby d1_15) rfl ⟨(congrArg (fun z => some (Value.int z)) (show (rA0 x0 x2) = (110 : Int32) from (if_pos hc1_1)).symm), N4, (by rw [e4]; exact K3)⟩ (by decide) (by decide)
  · skip
    refine GoesH.st (B := s₁.setTop (mkF m 16 #[iv x0, iv (0 : Int32), jv x2, .second] [])) (fun t k => ?_) ?_
    · refine XS.ifYes X0.here hx rfl (pc0 := 1) (pc' := 16) rfl (hb hby d1_1) rfl ((if0 _ _).trans (feq hc1_1).2) (by decide) (by decide) ?_
      exact k
    refine GoesH.run X0 hx hown hci hcl hby (L := [(16, .iload_n 0, 1), (17, .iconst 1, 1)]) (by decide +kernel) rfl (g' := (mkF m 18 #[iv x0, iv (0 : Int32), jv x2, .second] [(.int (1 : Int32)), (.int x0)])) rfl ?_
    by_cases hc18_5 : x0 = (1 : Int32)
    · skip
      refine GoesH.st (B := s₁.setTop (mkF m 21 #[iv x0, iv (0 : Int32), jv x2, .second] [])) (fun t k => ?_) ?_
      · refine XS.icmpNo X0.here hx rfl (hb hby d1_18) rfl (teq hc18_5).2 ?_
        exact k
      refine GoesH.run X0 hx hown hci hcl hby (L := [(21, .iload_n 1, 1), (22, .bipush 7, 2)]) (by decide +kernel) rfl (g' := (mkF m 24 #[iv x0, iv (0 : Int32), jv x2, .second] [(.int (7 : Int32)), (.int (0 : Int32))])) rfl ?_
      have hc24_6 : (0 : Int32) < (7 : Int32) := by decide
      refine GoesH.st (B := s₁.setTop (mkF m 27 #[iv x0, iv (0 : Int32), jv x2, .second] [])) (fun t k => ?_) ?_
      · refine XS.icmpNo X0.here hx rfl (hb hby d1_24) rfl (tlt hc24_6).2.1 ?_
        exact k
      obtain ⟨sa7, T7, h7, kk7, sb7, kb7, X7, e7, E7, Sn7, hk7, hZ, hown, A7, C7, D7, V7, -, -, CHq7, lt7, nsf7, st7⟩ := ldcCH X0 hx hZ hown w_106 (own_wS hw) e0 Sn0 hk0 hEL (by decide : ("com/example/upcaster/upcaster/io/CodecNamedPinLaw", 43) ∈ consts_1) CH0.1 (vs := ((([100, 101, 102, 108, 97, 116, 101] : List Int32).map (fun c => c.toInt8.toInt32)).map Value.int)) (z := (7 : Int32)) ⟨by decide, by decide⟩ (by decide) (by decide) (g := (mkF m 27 #[iv x0, iv (0 : Int32), jv x2, .second] [])) rfl (hb hby d1_27) (n := 28) (by decide) (by decide) (by decide) (by decide)
      have Zn7 : n0 ≤ h7.size := Nat.le_trans Z0 E7.1
      have K7 := K0.ext E7
      have Od7 := O0.ext E7
      have hk7e := Nat.le_trans hk0 E7.1
      have CH7 := CH0.trans CHq7
      have hci : ∀ i v, (i, v) ∈ ([] : List (Nat × Int32)) → (Jvm.Cond.constant "com/example/upcaster/upcaster/io/CodecNamedPinLaw" i v).before #[(.int x0), (.int (0 : Int32)), (.long x2)] (s.setVm T7.vm) = true := own_ci0
      have hcl : ∀ i v, (i, v) ∈ ([(45, 255)] : List (Nat × Int64)) → (Jvm.Cond.constantLong "com/example/upcaster/upcaster/io/CodecNamedPinLaw" i v).before #[(.int x0), (.int (0 : Int32)), (.long x2)] (s.setVm T7.vm) = true := (own_ciS (mvT hZ w_38) own_ci0)
      have E_sa7 : Exa Z h7 sa7 "java/lang/String" := A7
      have F_coder_sa7 : Fld Z h7 sa7 "java/lang/String" "coder" "B" (.int (0 : Int32)) := C7
      have F_value_sa7 : Fld Z h7 sa7 "java/lang/String" "value" "[B" (.ref sb7) := D7
      have V_sb7 : Arv Z h7 sb7 kb7 .byte (7 : Int32) ((([100, 101, 102, 108, 97, 116, 101] : List Int32).map (fun c => c.toInt8.toInt32)).map Value.int) (.int (0 : Int32)) := V7
      refine GoesH.st (B := T7.setTop (mkF m 29 #[iv x0, iv (0 : Int32), jv x2, .second] [(.ref sa7)])) st7 ?_
      refine GoesH.run X7 hx hown hci hcl hby (L := [(29, .iload_n 1, 1)]) (by decide +kernel) rfl (g' := (mkF m 30 #[iv x0, iv (0 : Int32), jv x2, .second] [(.int (0 : Int32)), (.ref sa7)])) rfl ?_
      have hcd_sa7 : StrChars.Road.CodA ([100, 101, 102, 108, 97, 116, 101] : List Int32) 0 (7 : Int32) ((([100, 101, 102, 108, 97, 116, 101] : List Int32).map (fun c => c.toInt8.toInt32)).map Value.int) := StrChars.Road.codOf (n := 7) rfl (fun c hc => ((by decide : ∀ c ∈ ([100, 101, 102, 108, 97, 116, 101] : List Int32), ¬ c < 0 ∧ ¬ (255 : Int32) < c) c hc).2)
      have hbd_sa7 := own_up (by decide : ∀ c ∈ ([100, 101, 102, 108, 97, 116, 101] : List Int32), ¬ c < 0 ∧ ¬ (255 : Int32) < c)
      obtain ⟨cq8, kq8, q8a, q8b, q8c⟩ := isOf hZ e7 E_sa7
      obtain ⟨_, _, ⟨T8, L8, k8, n8⟩, -, X8, ⟨Lc8, hQ8, l8, y8, z8⟩, st8⟩ := X7.virtualBack hx (y := ym0) (z := ym0) hown (mvT hZ w_13) (mvT hZ w_14) (notFace_of_selects (args := #[]) (mvT hZ w_16)) (mvT hZ w_16) (mvT hZ w_15) (by decide) (StrChars.Road.chN (W := 0) hZ (own_hch hw) (kI := 4) w_7 E_sa7 F_value_sa7 F_coder_sa7 V_sb7 hcd_sa7 hbd_sa7 (O2.ext Od7.2) P5 (O4.ext Od7.2) rG3 (Nat.le_of_ble_eq_true rfl) (i := 0) (Nat.le_of_ble_eq_true rfl) (j := (0 : Int32)) rfl (by decide) (by decide)) q8a q8c (g := (mkF m 30 #[iv x0, iv (0 : Int32), jv x2, .second] [(.int (0 : Int32)), (.ref sa7)])) rfl (by rw [hml]; rfl) (Steps.refl _) (argsL := [(.int (0 : Int32))]) (rest := []) (lenOf pdA0_0 rfl) rfl (by show 2 * 0 + _ ≤ _; exact Nat.le_of_eq rfl) (hb hby d1_30) (fun _ _ => ⟨rfl, e7, (by decide : 2 + 0 ≤ _), (by decide : 32 + 0 ≤ _)⟩)
      dsimp only [Pt.U, Pt.locs, Pt.cells, Pt.slots] at X8 l8 y8 z8 st8 hQ8
      subst l8 y8 z8
      rw [show ([100, 101, 102, 108, 97, 116, 101] : List Int32).getD 0 0 = (100 : Int32) from rfl] at hQ8
      obtain ⟨rfl, rfl, e8⟩ := hQ8
      have N8 := Fr.app N0 (Fr.nil n0)
      refine GoesH.st (B := T8.setTop (mkF m 33 #[iv x0, iv (0 : Int32), jv x2, .second] [(.int (100 : Int32))])) (fun t k => st8.trans k) ?_
      exact GoesH.retB X8 Sn7 (by rw [e8]; exact hk7) (by rw [e8]; exact CH7) hZ hEL hx hlk (t := .char) Bd.returns (by simp) (hb hby d1_33) rfl ⟨(congrArg (fun z => some (Value.int z)) (show (rA0 x0 x2) = (100 : Int32) from ((if_neg hc1_1).trans (if_pos hc18_5))).symm), N8, (by rw [e8]; exact K7)⟩ (by decide) (by decide)
    · skip
      refine GoesH.st (B := s₁.setTop (mkF m 34 #[iv x0, iv (0 : Int32), jv x2, .second] [])) (fun t k => ?_) ?_
      · refine XS.icmpYes X0.here hx rfl (pc0 := 18) (pc' := 34) rfl (hb hby d1_18) rfl (feq hc18_5).2 (by decide) (by decide) ?_
        exact k
      refine GoesH.run X0 hx hown hci hcl hby (L := [(34, .lload_n 2, 1), (35, .bipush 8, 2), (37, .iload_n 1, 1), (38, .imul, 1), (39, .lushr, 1), (40, .ldc2_w 45, 3)]) (by decide +kernel) rfl (g' := (mkF m 43 #[iv x0, iv (0 : Int32), jv x2, .second] [(.long (255 : Int64)), (.long ((x2.toUInt64 >>> ((0 : Int32) &&& 0x3f).toInt64.toUInt64).toInt64))])) rfl ?_
      refine GoesH.run X0 hx hown hci hcl hby (L := [(43, .land, 1), (44, .l2i, 1), (45, .i2c, 1)]) (by decide +kernel) rfl (g' := (mkF m 46 #[iv x0, iv (0 : Int32), jv x2, .second] [(.int (((((x2.toUInt64 >>> ((0 : Int32) &&& 0x3f).toInt64.toUInt64).toInt64) &&& (255 : Int64)).toInt32).toUInt32.toUInt16.toUInt32.toInt32))])) rfl ?_
      exact GoesH.retB X0 Sn0 (by rw [e0]; exact hk0) (by rw [e0]; exact CH0) hZ hEL hx hlk (t := .char) Bd.returns (by simp) (hb hby d1_46) (own_narc _) ⟨(congrArg (fun z => some (Value.int z)) (show (rA0 x0 x2) = (((((x2.toUInt64 >>> ((0 : Int32) &&& 0x3f).toInt64.toUInt64).toInt64) &&& (255 : Int64)).toInt32).toUInt32.toUInt16.toUInt32.toInt32) from ((if_neg hc1_1).trans (if_neg hc18_5))).symm), N0, (by rw [e0]; exact K0)⟩ (by decide) (by decide)
theorem pnA1 : plainName "com/example/upcaster/upcaster/io/CodecNamedPinLaw" = true := by first | (simp [plainName, overriddenIn]; done) | decide +kernel
theorem pdA1_0 : parseMethodDescriptor "(I)C" = some ⟨[.int], some .char⟩ := by decide +kernel
theorem efA1 (m : MethodId) (x0 : Int32) (x2 : Int64) : entryFrame m #[(.int x0), (.int (1 : Int32)), (.long x2)] 4 = (mkF m 0 #[iv x0, iv (1 : Int32), jv x2, .second] []) := by first | (simp [entryFrame, mkF, argsToLocals, Value.category]; done) | rfl
def rA1 (x0 : Int32) (x2 : Int64) : Int32 := (if x0 = (0 : Int32) then (117 : Int32) else (if x0 = (1 : Int32) then (101 : Int32) else (((((x2.toUInt64 >>> ((8 : Int32) &&& 0x3f).toInt64.toUInt64).toInt64) &&& (255 : Int64)).toInt32).toUInt32.toUInt16.toUInt32.toInt32)))
set_option maxRecDepth 65536 in
set_option maxHeartbeats 40000000 in
theorem rmA1 (l : Launch) (Z : State) (a0 : Array Value) (hw : ∀ d ∈ tables_1, d.before a0 Z = true) (ws : List Jvm.Cond) (x0 : Int32) (x2 : Int64) (G1 : Int32) (G3 : Value) (h0 : Heap) (n0 : Nat) (Z0 : n0 ≤ h0.size) (O0 : Old Z n0 h0) (O2 : Sta Z Z.heap "java/lang/String" "COMPACT_STRINGS" "Z" (.int G1)) (O4 : Sta Z Z.heap "jdk/internal/util/Preconditions" "SIOOBE_FORMATTER" "Ljava/util/function/BiFunction;" G3) (P5 : ¬ G1 = 0) (rG3 : G3.isRef = true) :
    MetFree l ym1 (head1 (Jvm.Cond.code ym1 method_3_code 4 (some .char) :: ws) ({ frames := 4, cells := 2, slots := 32, locals := 53 } : Room)) (fun a U => a = #[(.int x0), (.int (1 : Int32)), (.long x2)] ∧ Z.Warmed39 U.vm ∧ U.heap = h0 ∧ CHv Z consts_1 U.vm h0 ∧ ∀ x ∈ ([] : List Addr), Safe Z consts_1 U.vm h0 x) (fun _ _ _ _ _ => True) (fun _ U o U' => ∃ v L, o = .returned v ∧ (QH (some (.int (rA1 x0 x2))) h0 n0) v U'.heap L ∧ CHr Z consts_1 U.vm h0 U'.vm U'.heap ∧ ReturnedEndW U o U' L ({ frames := 4, cells := 2, slots := 32, locals := 53 } : Room).cells ({ frames := 4, cells := 2, slots := 32, locals := 53 } : Room).slots) := by
  refine MetFree.of_bodySF (plainFor_of_name pnA1) hisR ?_
  intro p e s m args below meth c s₁ Bd hml0 hP hK
  obtain ⟨rfl, hZ, hh, hCH0, hSF⟩ := hP
  have hx := Bd.exec
  have hby := Bd.bytes
  have hml : c.maxLocals = 4 := hml0
  have hlk : meth.locks = false := BodyLoose.notSynchronized Bd
  have hown : s.vm.findClass "com/example/upcaster/upcaster/io/CodecNamedPinLaw" = some m.cls := findClass_of_methodNamed Bd.named
  have hnm := (name_of_methodNamed Bd.named Bd.method).1
  have w_5 := hw _ (List.mem_of_getElem? (i := 5) rfl)
  have w_7 := hw _ (List.mem_of_getElem? (i := 7) rfl)
  have w_13 := hw _ (List.mem_of_getElem? (i := 13) rfl)
  have w_14 := hw _ (List.mem_of_getElem? (i := 14) rfl)
  have w_15 := hw _ (List.mem_of_getElem? (i := 15) rfl)
  have w_16 := hw _ (List.mem_of_getElem? (i := 16) rfl)
  have w_38 := hw _ (List.mem_of_getElem? (i := 38) rfl)
  have w_106 := hw _ (List.mem_of_getElem? (i := 106) rfl)
  have hci : ∀ i v, (i, v) ∈ ([] : List (Nat × Int32)) → (Jvm.Cond.constant "com/example/upcaster/upcaster/io/CodecNamedPinLaw" i v).before #[(.int x0), (.int (1 : Int32)), (.long x2)] s = true := own_ci0
  have hcl : ∀ i v, (i, v) ∈ ([(45, 255)] : List (Nat × Int64)) → (Jvm.Cond.constantLong "com/example/upcaster/upcaster/io/CodecNamedPinLaw" i v).before #[(.int x0), (.int (1 : Int32)), (.long x2)] s = true := (own_ciS (mvT hZ w_38) own_ci0)
  have X0 : Stand p l e ({ frames := 4, cells := 2, slots := 32, locals := 53 } : Room) s m #[(.int x0), (.int (1 : Int32)), (.long x2)] below meth c s₁ [] 0 0 := Stand.of_body Bd
  have e0 : s₁.heap = h0 := by rw [← hh, Bd.state]; rfl
  have N0 := Fr.nil n0
  show GoesH Z h0 p e below s (QH (some (.int (rA1 x0 x2))) h0 n0) ({ frames := 4, cells := 2, slots := 32, locals := 53 } : Room).cells ({ frames := 4, cells := 2, slots := 32, locals := 53 } : Room).slots (s₁.setTop (entryFrame m #[(.int x0), (.int (1 : Int32)), (.long x2)] 4))
  refine GoesH.cast (efA1 m x0 x2) ?_
  have hEL := own_EL hw
  have Sn0 : s.Since s.vm s.heap.size := own_since s
  have hk0 : s.heap.size ≤ h0.size := Nat.le_of_eq (congrArg Array.size hh)
  have X0 : Stand p l e ({ frames := 4, cells := 2, slots := 32, locals := 53 } : Room) (s.setVm s.vm) m #[(.int x0), (.int (1 : Int32)), (.long x2)] below meth c s₁ [] 0 0 := X0
  have CH0 : CHr Z consts_1 s.vm h0 s.vm h0 := CHr.refl hCH0
  have K0 : Keep h0 h0 [] := Keep.refl h0 _
  refine GoesH.run X0 hx hown hci hcl hby (L := [(0, .iload_n 0, 1)]) (by decide +kernel) rfl (g' := (mkF m 1 #[iv x0, iv (1 : Int32), jv x2, .second] [(.int x0)])) rfl ?_
  by_cases hc1_1 : x0 = (0 : Int32)
  · skip
    refine GoesH.st (B := s₁.setTop (mkF m 4 #[iv x0, iv (1 : Int32), jv x2, .second] [])) (fun t k => ?_) ?_
    · refine XS.ifNo X0.here hx rfl (hb hby d1_1) rfl ((if0 _ _).trans (teq hc1_1).2) ?_
      exact k
    refine GoesH.run X0 hx hown hci hcl hby (L := [(4, .iload_n 1, 1), (5, .iconst 4, 1)]) (by decide +kernel) rfl (g' := (mkF m 6 #[iv x0, iv (1 : Int32), jv x2, .second] [(.int (4 : Int32)), (.int (1 : Int32))])) rfl ?_
    have hc6_2 : (1 : Int32) < (4 : Int32) := by decide
    refine GoesH.st (B := s₁.setTop (mkF m 9 #[iv x0, iv (1 : Int32), jv x2, .second] [])) (fun t k => ?_) ?_
    · refine XS.icmpNo X0.here hx rfl (hb hby d1_6) rfl (tlt hc6_2).2.1 ?_
      exact k
    obtain ⟨sa3, T3, h3, kk3, sb3, kb3, X3, e3, E3, Sn3, hk3, hZ, hown, A3, C3, D3, V3, -, -, CHq3, lt3, nsf3, st3⟩ := ldcCH X0 hx hZ hown w_5 (own_wS hw) e0 Sn0 hk0 hEL (by decide : ("com/example/upcaster/upcaster/io/CodecNamedPinLaw", 35) ∈ consts_1) CH0.1 (vs := ((([110, 117, 108, 108] : List Int32).map (fun c => c.toInt8.toInt32)).map Value.int)) (z := (4 : Int32)) ⟨by decide, by decide⟩ (by decide) (by decide) (g := (mkF m 9 #[iv x0, iv (1 : Int32), jv x2, .second] [])) rfl (hb hby d1_9) (n := 16) (by decide) (by decide) (by decide) (by decide)
    have Zn3 : n0 ≤ h3.size := Nat.le_trans Z0 E3.1
    have K3 := K0.ext E3
    have Od3 := O0.ext E3
    have hk3e := Nat.le_trans hk0 E3.1
    have CH3 := CH0.trans CHq3
    have hci : ∀ i v, (i, v) ∈ ([] : List (Nat × Int32)) → (Jvm.Cond.constant "com/example/upcaster/upcaster/io/CodecNamedPinLaw" i v).before #[(.int x0), (.int (1 : Int32)), (.long x2)] (s.setVm T3.vm) = true := own_ci0
    have hcl : ∀ i v, (i, v) ∈ ([(45, 255)] : List (Nat × Int64)) → (Jvm.Cond.constantLong "com/example/upcaster/upcaster/io/CodecNamedPinLaw" i v).before #[(.int x0), (.int (1 : Int32)), (.long x2)] (s.setVm T3.vm) = true := (own_ciS (mvT hZ w_38) own_ci0)
    have E_sa3 : Exa Z h3 sa3 "java/lang/String" := A3
    have F_coder_sa3 : Fld Z h3 sa3 "java/lang/String" "coder" "B" (.int (0 : Int32)) := C3
    have F_value_sa3 : Fld Z h3 sa3 "java/lang/String" "value" "[B" (.ref sb3) := D3
    have V_sb3 : Arv Z h3 sb3 kb3 .byte (4 : Int32) ((([110, 117, 108, 108] : List Int32).map (fun c => c.toInt8.toInt32)).map Value.int) (.int (0 : Int32)) := V3
    refine GoesH.st (B := T3.setTop (mkF m 11 #[iv x0, iv (1 : Int32), jv x2, .second] [(.ref sa3)])) st3 ?_
    refine GoesH.run X3 hx hown hci hcl hby (L := [(11, .iload_n 1, 1)]) (by decide +kernel) rfl (g' := (mkF m 12 #[iv x0, iv (1 : Int32), jv x2, .second] [(.int (1 : Int32)), (.ref sa3)])) rfl ?_
    have hcd_sa3 : StrChars.Road.CodA ([110, 117, 108, 108] : List Int32) 0 (4 : Int32) ((([110, 117, 108, 108] : List Int32).map (fun c => c.toInt8.toInt32)).map Value.int) := StrChars.Road.codOf (n := 4) rfl (fun c hc => ((by decide : ∀ c ∈ ([110, 117, 108, 108] : List Int32), ¬ c < 0 ∧ ¬ (255 : Int32) < c) c hc).2)
    have hbd_sa3 := own_up (by decide : ∀ c ∈ ([110, 117, 108, 108] : List Int32), ¬ c < 0 ∧ ¬ (255 : Int32) < c)
    obtain ⟨cq4, kq4, q4a, q4b, q4c⟩ := isOf hZ e3 E_sa3
    obtain ⟨_, _, ⟨T4, L4, k4, n4⟩, -, X4, ⟨Lc4, hQ4, l4, y4, z4⟩, st4⟩ := X3.virtualBack hx (y := ym0) (z := ym0) hown (mvT hZ w_13) (mvT hZ w_14) (notFace_of_selects (args := #[]) (mvT hZ w_16)) (mvT hZ w_16) (mvT hZ w_15) (by decide) (StrChars.Road.chN (W := 0) hZ (own_hch hw) (kI := 4) w_7 E_sa3 F_value_sa3 F_coder_sa3 V_sb3 hcd_sa3 hbd_sa3 (O2.ext Od3.2) P5 (O4.ext Od3.2) rG3 (Nat.le_of_ble_eq_true rfl) (i := 1) (Nat.le_of_ble_eq_true rfl) (j := (1 : Int32)) rfl (by decide) (by decide)) q4a q4c (g := (mkF m 12 #[iv x0, iv (1 : Int32), jv x2, .second] [(.int (1 : Int32)), (.ref sa3)])) rfl (by rw [hml]; rfl) (Steps.refl _) (argsL := [(.int (1 : Int32))]) (rest := []) (lenOf pdA1_0 rfl) rfl (by show 2 * 0 + _ ≤ _; exact Nat.le_of_eq rfl) (hb hby d1_12) (fun _ _ => ⟨rfl, e3, (by decide : 2 + 0 ≤ _), (by decide : 20 + 0 ≤ _)⟩)
    dsimp only [Pt.U, Pt.locs, Pt.cells, Pt.slots] at X4 l4 y4 z4 st4 hQ4
    subst l4 y4 z4
    rw [show ([110, 117, 108, 108] : List Int32).getD 1 0 = (117 : Int32) from rfl] at hQ4
    obtain ⟨rfl, rfl, e4⟩ := hQ4
    have N4 := Fr.app N0 (Fr.nil n0)
    refine GoesH.st (B := T4.setTop (mkF m 15 #[iv x0, iv (1 : Int32), jv x2, .second] [(.int (117 : Int32))])) (fun t k => st4.trans k) ?_
    exact GoesH.retB X4 Sn3 (by rw [e4]; exact hk3) (by rw [e4]; exact CH3) hZ hEL hx hlk (t := .char) Bd.returns (by simp) (hb hby d1_15) rfl ⟨(congrArg (fun z => some (Value.int z)) (show (rA1 x0 x2) = (117 : Int32) from (if_pos hc1_1)).symm), N4, (by rw [e4]; exact K3)⟩ (by decide) (by decide)
  · skip
    refine GoesH.st (B := s₁.setTop (mkF m 16 #[iv x0, iv (1 : Int32), jv x2, .second] [])) (fun t k => ?_) ?_
    · refine XS.ifYes X0.here hx rfl (pc0 := 1) (pc' := 16) rfl (hb hby d1_1) rfl ((if0 _ _).trans (feq hc1_1).2) (by decide) (by decide) ?_
      exact k
    refine GoesH.run X0 hx hown hci hcl hby (L := [(16, .iload_n 0, 1), (17, .iconst 1, 1)]) (by decide +kernel) rfl (g' := (mkF m 18 #[iv x0, iv (1 : Int32), jv x2, .second] [(.int (1 : Int32)), (.int x0)])) rfl ?_
    by_cases hc18_5 : x0 = (1 : Int32)
    · skip
      refine GoesH.st (B := s₁.setTop (mkF m 21 #[iv x0, iv (1 : Int32), jv x2, .second] [])) (fun t k => ?_) ?_
      · refine XS.icmpNo X0.here hx rfl (hb hby d1_18) rfl (teq hc18_5).2 ?_
        exact k
      refine GoesH.run X0 hx hown hci hcl hby (L := [(21, .iload_n 1, 1), (22, .bipush 7, 2)]) (by decide +kernel) rfl (g' := (mkF m 24 #[iv x0, iv (1 : Int32), jv x2, .second] [(.int (7 : Int32)), (.int (1 : Int32))])) rfl ?_
      have hc24_6 : (1 : Int32) < (7 : Int32) := by decide
      refine GoesH.st (B := s₁.setTop (mkF m 27 #[iv x0, iv (1 : Int32), jv x2, .second] [])) (fun t k => ?_) ?_
      · refine XS.icmpNo X0.here hx rfl (hb hby d1_24) rfl (tlt hc24_6).2.1 ?_
        exact k
      obtain ⟨sa7, T7, h7, kk7, sb7, kb7, X7, e7, E7, Sn7, hk7, hZ, hown, A7, C7, D7, V7, -, -, CHq7, lt7, nsf7, st7⟩ := ldcCH X0 hx hZ hown w_106 (own_wS hw) e0 Sn0 hk0 hEL (by decide : ("com/example/upcaster/upcaster/io/CodecNamedPinLaw", 43) ∈ consts_1) CH0.1 (vs := ((([100, 101, 102, 108, 97, 116, 101] : List Int32).map (fun c => c.toInt8.toInt32)).map Value.int)) (z := (7 : Int32)) ⟨by decide, by decide⟩ (by decide) (by decide) (g := (mkF m 27 #[iv x0, iv (1 : Int32), jv x2, .second] [])) rfl (hb hby d1_27) (n := 28) (by decide) (by decide) (by decide) (by decide)
      have Zn7 : n0 ≤ h7.size := Nat.le_trans Z0 E7.1
      have K7 := K0.ext E7
      have Od7 := O0.ext E7
      have hk7e := Nat.le_trans hk0 E7.1
      have CH7 := CH0.trans CHq7
      have hci : ∀ i v, (i, v) ∈ ([] : List (Nat × Int32)) → (Jvm.Cond.constant "com/example/upcaster/upcaster/io/CodecNamedPinLaw" i v).before #[(.int x0), (.int (1 : Int32)), (.long x2)] (s.setVm T7.vm) = true := own_ci0
      have hcl : ∀ i v, (i, v) ∈ ([(45, 255)] : List (Nat × Int64)) → (Jvm.Cond.constantLong "com/example/upcaster/upcaster/io/CodecNamedPinLaw" i v).before #[(.int x0), (.int (1 : Int32)), (.long x2)] (s.setVm T7.vm) = true := (own_ciS (mvT hZ w_38) own_ci0)
      have E_sa7 : Exa Z h7 sa7 "java/lang/String" := A7
      have F_coder_sa7 : Fld Z h7 sa7 "java/lang/String" "coder" "B" (.int (0 : Int32)) := C7
      have F_value_sa7 : Fld Z h7 sa7 "java/lang/String" "value" "[B" (.ref sb7) := D7
      have V_sb7 : Arv Z h7 sb7 kb7 .byte (7 : Int32) ((([100, 101, 102, 108, 97, 116, 101] : List Int32).map (fun c => c.toInt8.toInt32)).map Value.int) (.int (0 : Int32)) := V7
      refine GoesH.st (B := T7.setTop (mkF m 29 #[iv x0, iv (1 : Int32), jv x2, .second] [(.ref sa7)])) st7 ?_
      refine GoesH.run X7 hx hown hci hcl hby (L := [(29, .iload_n 1, 1)]) (by decide +kernel) rfl (g' := (mkF m 30 #[iv x0, iv (1 : Int32), jv x2, .second] [(.int (1 : Int32)), (.ref sa7)])) rfl ?_
      have hcd_sa7 : StrChars.Road.CodA ([100, 101, 102, 108, 97, 116, 101] : List Int32) 0 (7 : Int32) ((([100, 101, 102, 108, 97, 116, 101] : List Int32).map (fun c => c.toInt8.toInt32)).map Value.int) := StrChars.Road.codOf (n := 7) rfl (fun c hc => ((by decide : ∀ c ∈ ([100, 101, 102, 108, 97, 116, 101] : List Int32), ¬ c < 0 ∧ ¬ (255 : Int32) < c) c hc).2)
      have hbd_sa7 := own_up (by decide : ∀ c ∈ ([100, 101, 102, 108, 97, 116, 101] : List Int32), ¬ c < 0 ∧ ¬ (255 : Int32) < c)
      obtain ⟨cq8, kq8, q8a, q8b, q8c⟩ := isOf hZ e7 E_sa7
      obtain ⟨_, _, ⟨T8, L8, k8, n8⟩, -, X8, ⟨Lc8, hQ8, l8, y8, z8⟩, st8⟩ := X7.virtualBack hx (y := ym0) (z := ym0) hown (mvT hZ w_13) (mvT hZ w_14) (notFace_of_selects (args := #[]) (mvT hZ w_16)) (mvT hZ w_16) (mvT hZ w_15) (by decide) (StrChars.Road.chN (W := 0) hZ (own_hch hw) (kI := 4) w_7 E_sa7 F_value_sa7 F_coder_sa7 V_sb7 hcd_sa7 hbd_sa7 (O2.ext Od7.2) P5 (O4.ext Od7.2) rG3 (Nat.le_of_ble_eq_true rfl) (i := 1) (Nat.le_of_ble_eq_true rfl) (j := (1 : Int32)) rfl (by decide) (by decide)) q8a q8c (g := (mkF m 30 #[iv x0, iv (1 : Int32), jv x2, .second] [(.int (1 : Int32)), (.ref sa7)])) rfl (by rw [hml]; rfl) (Steps.refl _) (argsL := [(.int (1 : Int32))]) (rest := []) (lenOf pdA1_0 rfl) rfl (by show 2 * 0 + _ ≤ _; exact Nat.le_of_eq rfl) (hb hby d1_30) (fun _ _ => ⟨rfl, e7, (by decide : 2 + 0 ≤ _), (by decide : 32 + 0 ≤ _)⟩)
      dsimp only [Pt.U, Pt.locs, Pt.cells, Pt.slots] at X8 l8 y8 z8 st8 hQ8
      subst l8 y8 z8
      rw [show ([100, 101, 102, 108, 97, 116, 101] : List Int32).getD 1 0 = (101 : Int32) from rfl] at hQ8
      obtain ⟨rfl, rfl, e8⟩ := hQ8
      have N8 := Fr.app N0 (Fr.nil n0)
      refine GoesH.st (B := T8.setTop (mkF m 33 #[iv x0, iv (1 : Int32), jv x2, .second] [(.int (101 : Int32))])) (fun t k => st8.trans k) ?_
      exact GoesH.retB X8 Sn7 (by rw [e8]; exact hk7) (by rw [e8]; exact CH7) hZ hEL hx hlk (t := .char) Bd.returns (by simp) (hb hby d1_33) rfl ⟨(congrArg (fun z => some (Value.int z)) (show (rA1 x0 x2) = (101 : Int32) from ((if_neg hc1_1).trans (if_pos hc18_5))).symm), N8, (by rw [e8]; exact K7)⟩ (by decide) (by decide)
    · skip
      refine GoesH.st (B := s₁.setTop (mkF m 34 #[iv x0, iv (1 : Int32), jv x2, .second] [])) (fun t k => ?_) ?_
      · refine XS.icmpYes X0.here hx rfl (pc0 := 18) (pc' := 34) rfl (hb hby d1_18) rfl (feq hc18_5).2 (by decide) (by decide) ?_
        exact k
      refine GoesH.run X0 hx hown hci hcl hby (L := [(34, .lload_n 2, 1), (35, .bipush 8, 2), (37, .iload_n 1, 1), (38, .imul, 1), (39, .lushr, 1), (40, .ldc2_w 45, 3)]) (by decide +kernel) rfl (g' := (mkF m 43 #[iv x0, iv (1 : Int32), jv x2, .second] [(.long (255 : Int64)), (.long ((x2.toUInt64 >>> ((8 : Int32) &&& 0x3f).toInt64.toUInt64).toInt64))])) rfl ?_
      refine GoesH.run X0 hx hown hci hcl hby (L := [(43, .land, 1), (44, .l2i, 1), (45, .i2c, 1)]) (by decide +kernel) rfl (g' := (mkF m 46 #[iv x0, iv (1 : Int32), jv x2, .second] [(.int (((((x2.toUInt64 >>> ((8 : Int32) &&& 0x3f).toInt64.toUInt64).toInt64) &&& (255 : Int64)).toInt32).toUInt32.toUInt16.toUInt32.toInt32))])) rfl ?_
      exact GoesH.retB X0 Sn0 (by rw [e0]; exact hk0) (by rw [e0]; exact CH0) hZ hEL hx hlk (t := .char) Bd.returns (by simp) (hb hby d1_46) (own_narc _) ⟨(congrArg (fun z => some (Value.int z)) (show (rA1 x0 x2) = (((((x2.toUInt64 >>> ((8 : Int32) &&& 0x3f).toInt64.toUInt64).toInt64) &&& (255 : Int64)).toInt32).toUInt32.toUInt16.toUInt32.toInt32) from ((if_neg hc1_1).trans (if_neg hc18_5))).symm), N0, (by rw [e0]; exact K0)⟩ (by decide) (by decide)
theorem pnA2 : plainName "com/example/upcaster/upcaster/io/CodecNamedPinLaw" = true := by first | (simp [plainName, overriddenIn]; done) | decide +kernel
theorem pdA2_0 : parseMethodDescriptor "(I)C" = some ⟨[.int], some .char⟩ := by decide +kernel
theorem efA2 (m : MethodId) (x0 : Int32) (x2 : Int64) : entryFrame m #[(.int x0), (.int (2 : Int32)), (.long x2)] 4 = (mkF m 0 #[iv x0, iv (2 : Int32), jv x2, .second] []) := by first | (simp [entryFrame, mkF, argsToLocals, Value.category]; done) | rfl
def rA2 (x0 : Int32) (x2 : Int64) : Int32 := (if x0 = (0 : Int32) then (108 : Int32) else (if x0 = (1 : Int32) then (102 : Int32) else (((((x2.toUInt64 >>> ((16 : Int32) &&& 0x3f).toInt64.toUInt64).toInt64) &&& (255 : Int64)).toInt32).toUInt32.toUInt16.toUInt32.toInt32)))
set_option maxRecDepth 65536 in
set_option maxHeartbeats 40000000 in
theorem rmA2 (l : Launch) (Z : State) (a0 : Array Value) (hw : ∀ d ∈ tables_1, d.before a0 Z = true) (ws : List Jvm.Cond) (x0 : Int32) (x2 : Int64) (G1 : Int32) (G3 : Value) (h0 : Heap) (n0 : Nat) (Z0 : n0 ≤ h0.size) (O0 : Old Z n0 h0) (O2 : Sta Z Z.heap "java/lang/String" "COMPACT_STRINGS" "Z" (.int G1)) (O4 : Sta Z Z.heap "jdk/internal/util/Preconditions" "SIOOBE_FORMATTER" "Ljava/util/function/BiFunction;" G3) (P5 : ¬ G1 = 0) (rG3 : G3.isRef = true) :
    MetFree l ym1 (head1 (Jvm.Cond.code ym1 method_3_code 4 (some .char) :: ws) ({ frames := 4, cells := 2, slots := 32, locals := 53 } : Room)) (fun a U => a = #[(.int x0), (.int (2 : Int32)), (.long x2)] ∧ Z.Warmed39 U.vm ∧ U.heap = h0 ∧ CHv Z consts_1 U.vm h0 ∧ ∀ x ∈ ([] : List Addr), Safe Z consts_1 U.vm h0 x) (fun _ _ _ _ _ => True) (fun _ U o U' => ∃ v L, o = .returned v ∧ (QH (some (.int (rA2 x0 x2))) h0 n0) v U'.heap L ∧ CHr Z consts_1 U.vm h0 U'.vm U'.heap ∧ ReturnedEndW U o U' L ({ frames := 4, cells := 2, slots := 32, locals := 53 } : Room).cells ({ frames := 4, cells := 2, slots := 32, locals := 53 } : Room).slots) := by
  refine MetFree.of_bodySF (plainFor_of_name pnA2) hisR ?_
  intro p e s m args below meth c s₁ Bd hml0 hP hK
  obtain ⟨rfl, hZ, hh, hCH0, hSF⟩ := hP
  have hx := Bd.exec
  have hby := Bd.bytes
  have hml : c.maxLocals = 4 := hml0
  have hlk : meth.locks = false := BodyLoose.notSynchronized Bd
  have hown : s.vm.findClass "com/example/upcaster/upcaster/io/CodecNamedPinLaw" = some m.cls := findClass_of_methodNamed Bd.named
  have hnm := (name_of_methodNamed Bd.named Bd.method).1
  have w_5 := hw _ (List.mem_of_getElem? (i := 5) rfl)
  have w_7 := hw _ (List.mem_of_getElem? (i := 7) rfl)
  have w_13 := hw _ (List.mem_of_getElem? (i := 13) rfl)
  have w_14 := hw _ (List.mem_of_getElem? (i := 14) rfl)
  have w_15 := hw _ (List.mem_of_getElem? (i := 15) rfl)
  have w_16 := hw _ (List.mem_of_getElem? (i := 16) rfl)
  have w_38 := hw _ (List.mem_of_getElem? (i := 38) rfl)
  have w_106 := hw _ (List.mem_of_getElem? (i := 106) rfl)
  have hci : ∀ i v, (i, v) ∈ ([] : List (Nat × Int32)) → (Jvm.Cond.constant "com/example/upcaster/upcaster/io/CodecNamedPinLaw" i v).before #[(.int x0), (.int (2 : Int32)), (.long x2)] s = true := own_ci0
  have hcl : ∀ i v, (i, v) ∈ ([(45, 255)] : List (Nat × Int64)) → (Jvm.Cond.constantLong "com/example/upcaster/upcaster/io/CodecNamedPinLaw" i v).before #[(.int x0), (.int (2 : Int32)), (.long x2)] s = true := (own_ciS (mvT hZ w_38) own_ci0)
  have X0 : Stand p l e ({ frames := 4, cells := 2, slots := 32, locals := 53 } : Room) s m #[(.int x0), (.int (2 : Int32)), (.long x2)] below meth c s₁ [] 0 0 := Stand.of_body Bd
  have e0 : s₁.heap = h0 := by rw [← hh, Bd.state]; rfl
  have N0 := Fr.nil n0
  show GoesH Z h0 p e below s (QH (some (.int (rA2 x0 x2))) h0 n0) ({ frames := 4, cells := 2, slots := 32, locals := 53 } : Room).cells ({ frames := 4, cells := 2, slots := 32, locals := 53 } : Room).slots (s₁.setTop (entryFrame m #[(.int x0), (.int (2 : Int32)), (.long x2)] 4))
  refine GoesH.cast (efA2 m x0 x2) ?_
  have hEL := own_EL hw
  have Sn0 : s.Since s.vm s.heap.size := own_since s
  have hk0 : s.heap.size ≤ h0.size := Nat.le_of_eq (congrArg Array.size hh)
  have X0 : Stand p l e ({ frames := 4, cells := 2, slots := 32, locals := 53 } : Room) (s.setVm s.vm) m #[(.int x0), (.int (2 : Int32)), (.long x2)] below meth c s₁ [] 0 0 := X0
  have CH0 : CHr Z consts_1 s.vm h0 s.vm h0 := CHr.refl hCH0
  have K0 : Keep h0 h0 [] := Keep.refl h0 _
  refine GoesH.run X0 hx hown hci hcl hby (L := [(0, .iload_n 0, 1)]) (by decide +kernel) rfl (g' := (mkF m 1 #[iv x0, iv (2 : Int32), jv x2, .second] [(.int x0)])) rfl ?_
  by_cases hc1_1 : x0 = (0 : Int32)
  · skip
    refine GoesH.st (B := s₁.setTop (mkF m 4 #[iv x0, iv (2 : Int32), jv x2, .second] [])) (fun t k => ?_) ?_
    · refine XS.ifNo X0.here hx rfl (hb hby d1_1) rfl ((if0 _ _).trans (teq hc1_1).2) ?_
      exact k
    refine GoesH.run X0 hx hown hci hcl hby (L := [(4, .iload_n 1, 1), (5, .iconst 4, 1)]) (by decide +kernel) rfl (g' := (mkF m 6 #[iv x0, iv (2 : Int32), jv x2, .second] [(.int (4 : Int32)), (.int (2 : Int32))])) rfl ?_
    have hc6_2 : (2 : Int32) < (4 : Int32) := by decide
    refine GoesH.st (B := s₁.setTop (mkF m 9 #[iv x0, iv (2 : Int32), jv x2, .second] [])) (fun t k => ?_) ?_
    · refine XS.icmpNo X0.here hx rfl (hb hby d1_6) rfl (tlt hc6_2).2.1 ?_
      exact k
    obtain ⟨sa3, T3, h3, kk3, sb3, kb3, X3, e3, E3, Sn3, hk3, hZ, hown, A3, C3, D3, V3, -, -, CHq3, lt3, nsf3, st3⟩ := ldcCH X0 hx hZ hown w_5 (own_wS hw) e0 Sn0 hk0 hEL (by decide : ("com/example/upcaster/upcaster/io/CodecNamedPinLaw", 35) ∈ consts_1) CH0.1 (vs := ((([110, 117, 108, 108] : List Int32).map (fun c => c.toInt8.toInt32)).map Value.int)) (z := (4 : Int32)) ⟨by decide, by decide⟩ (by decide) (by decide) (g := (mkF m 9 #[iv x0, iv (2 : Int32), jv x2, .second] [])) rfl (hb hby d1_9) (n := 16) (by decide) (by decide) (by decide) (by decide)
    have Zn3 : n0 ≤ h3.size := Nat.le_trans Z0 E3.1
    have K3 := K0.ext E3
    have Od3 := O0.ext E3
    have hk3e := Nat.le_trans hk0 E3.1
    have CH3 := CH0.trans CHq3
    have hci : ∀ i v, (i, v) ∈ ([] : List (Nat × Int32)) → (Jvm.Cond.constant "com/example/upcaster/upcaster/io/CodecNamedPinLaw" i v).before #[(.int x0), (.int (2 : Int32)), (.long x2)] (s.setVm T3.vm) = true := own_ci0
    have hcl : ∀ i v, (i, v) ∈ ([(45, 255)] : List (Nat × Int64)) → (Jvm.Cond.constantLong "com/example/upcaster/upcaster/io/CodecNamedPinLaw" i v).before #[(.int x0), (.int (2 : Int32)), (.long x2)] (s.setVm T3.vm) = true := (own_ciS (mvT hZ w_38) own_ci0)
    have E_sa3 : Exa Z h3 sa3 "java/lang/String" := A3
    have F_coder_sa3 : Fld Z h3 sa3 "java/lang/String" "coder" "B" (.int (0 : Int32)) := C3
    have F_value_sa3 : Fld Z h3 sa3 "java/lang/String" "value" "[B" (.ref sb3) := D3
    have V_sb3 : Arv Z h3 sb3 kb3 .byte (4 : Int32) ((([110, 117, 108, 108] : List Int32).map (fun c => c.toInt8.toInt32)).map Value.int) (.int (0 : Int32)) := V3
    refine GoesH.st (B := T3.setTop (mkF m 11 #[iv x0, iv (2 : Int32), jv x2, .second] [(.ref sa3)])) st3 ?_
    refine GoesH.run X3 hx hown hci hcl hby (L := [(11, .iload_n 1, 1)]) (by decide +kernel) rfl (g' := (mkF m 12 #[iv x0, iv (2 : Int32), jv x2, .second] [(.int (2 : Int32)), (.ref sa3)])) rfl ?_
    have hcd_sa3 : StrChars.Road.CodA ([110, 117, 108, 108] : List Int32) 0 (4 : Int32) ((([110, 117, 108, 108] : List Int32).map (fun c => c.toInt8.toInt32)).map Value.int) := StrChars.Road.codOf (n := 4) rfl (fun c hc => ((by decide : ∀ c ∈ ([110, 117, 108, 108] : List Int32), ¬ c < 0 ∧ ¬ (255 : Int32) < c) c hc).2)
    have hbd_sa3 := own_up (by decide : ∀ c ∈ ([110, 117, 108, 108] : List Int32), ¬ c < 0 ∧ ¬ (255 : Int32) < c)
    obtain ⟨cq4, kq4, q4a, q4b, q4c⟩ := isOf hZ e3 E_sa3
    obtain ⟨_, _, ⟨T4, L4, k4, n4⟩, -, X4, ⟨Lc4, hQ4, l4, y4, z4⟩, st4⟩ := X3.virtualBack hx (y := ym0) (z := ym0) hown (mvT hZ w_13) (mvT hZ w_14) (notFace_of_selects (args := #[]) (mvT hZ w_16)) (mvT hZ w_16) (mvT hZ w_15) (by decide) (StrChars.Road.chN (W := 0) hZ (own_hch hw) (kI := 4) w_7 E_sa3 F_value_sa3 F_coder_sa3 V_sb3 hcd_sa3 hbd_sa3 (O2.ext Od3.2) P5 (O4.ext Od3.2) rG3 (Nat.le_of_ble_eq_true rfl) (i := 2) (Nat.le_of_ble_eq_true rfl) (j := (2 : Int32)) rfl (by decide) (by decide)) q4a q4c (g := (mkF m 12 #[iv x0, iv (2 : Int32), jv x2, .second] [(.int (2 : Int32)), (.ref sa3)])) rfl (by rw [hml]; rfl) (Steps.refl _) (argsL := [(.int (2 : Int32))]) (rest := []) (lenOf pdA2_0 rfl) rfl (by show 2 * 0 + _ ≤ _; exact Nat.le_of_eq rfl) (hb hby d1_12) (fun _ _ => ⟨rfl, e3, (by decide : 2 + 0 ≤ _), (by decide : 20 + 0 ≤ _)⟩)
    dsimp only [Pt.U, Pt.locs, Pt.cells, Pt.slots] at X4 l4 y4 z4 st4 hQ4
    subst l4 y4 z4
    rw [show ([110, 117, 108, 108] : List Int32).getD 2 0 = (108 : Int32) from rfl] at hQ4
    obtain ⟨rfl, rfl, e4⟩ := hQ4
    have N4 := Fr.app N0 (Fr.nil n0)
    refine GoesH.st (B := T4.setTop (mkF m 15 #[iv x0, iv (2 : Int32), jv x2, .second] [(.int (108 : Int32))])) (fun t k => st4.trans k) ?_
    exact GoesH.retB X4 Sn3 (by rw [e4]; exact hk3) (by rw [e4]; exact CH3) hZ hEL hx hlk (t := .char) Bd.returns (by simp) (hb hby d1_15) rfl ⟨(congrArg (fun z => some (Value.int z)) (show (rA2 x0 x2) = (108 : Int32) from (if_pos hc1_1)).symm), N4, (by rw [e4]; exact K3)⟩ (by decide) (by decide)
  · skip
    refine GoesH.st (B := s₁.setTop (mkF m 16 #[iv x0, iv (2 : Int32), jv x2, .second] [])) (fun t k => ?_) ?_
    · refine XS.ifYes X0.here hx rfl (pc0 := 1) (pc' := 16) rfl (hb hby d1_1) rfl ((if0 _ _).trans (feq hc1_1).2) (by decide) (by decide) ?_
      exact k
    refine GoesH.run X0 hx hown hci hcl hby (L := [(16, .iload_n 0, 1), (17, .iconst 1, 1)]) (by decide +kernel) rfl (g' := (mkF m 18 #[iv x0, iv (2 : Int32), jv x2, .second] [(.int (1 : Int32)), (.int x0)])) rfl ?_
    by_cases hc18_5 : x0 = (1 : Int32)
    · skip
      refine GoesH.st (B := s₁.setTop (mkF m 21 #[iv x0, iv (2 : Int32), jv x2, .second] [])) (fun t k => ?_) ?_
      · refine XS.icmpNo X0.here hx rfl (hb hby d1_18) rfl (teq hc18_5).2 ?_
        exact k
      refine GoesH.run X0 hx hown hci hcl hby (L := [(21, .iload_n 1, 1), (22, .bipush 7, 2)]) (by decide +kernel) rfl (g' := (mkF m 24 #[iv x0, iv (2 : Int32), jv x2, .second] [(.int (7 : Int32)), (.int (2 : Int32))])) rfl ?_
      have hc24_6 : (2 : Int32) < (7 : Int32) := by decide
      refine GoesH.st (B := s₁.setTop (mkF m 27 #[iv x0, iv (2 : Int32), jv x2, .second] [])) (fun t k => ?_) ?_
      · refine XS.icmpNo X0.here hx rfl (hb hby d1_24) rfl (tlt hc24_6).2.1 ?_
        exact k
      obtain ⟨sa7, T7, h7, kk7, sb7, kb7, X7, e7, E7, Sn7, hk7, hZ, hown, A7, C7, D7, V7, -, -, CHq7, lt7, nsf7, st7⟩ := ldcCH X0 hx hZ hown w_106 (own_wS hw) e0 Sn0 hk0 hEL (by decide : ("com/example/upcaster/upcaster/io/CodecNamedPinLaw", 43) ∈ consts_1) CH0.1 (vs := ((([100, 101, 102, 108, 97, 116, 101] : List Int32).map (fun c => c.toInt8.toInt32)).map Value.int)) (z := (7 : Int32)) ⟨by decide, by decide⟩ (by decide) (by decide) (g := (mkF m 27 #[iv x0, iv (2 : Int32), jv x2, .second] [])) rfl (hb hby d1_27) (n := 28) (by decide) (by decide) (by decide) (by decide)
      have Zn7 : n0 ≤ h7.size := Nat.le_trans Z0 E7.1
      have K7 := K0.ext E7
      have Od7 := O0.ext E7
      have hk7e := Nat.le_trans hk0 E7.1
      have CH7 := CH0.trans CHq7
      have hci : ∀ i v, (i, v) ∈ ([] : List (Nat × Int32)) → (Jvm.Cond.constant "com/example/upcaster/upcaster/io/CodecNamedPinLaw" i v).before #[(.int x0), (.int (2 : Int32)), (.long x2)] (s.setVm T7.vm) = true := own_ci0
      have hcl : ∀ i v, (i, v) ∈ ([(45, 255)] : List (Nat × Int64)) → (Jvm.Cond.constantLong "com/example/upcaster/upcaster/io/CodecNamedPinLaw" i v).before #[(.int x0), (.int (2 : Int32)), (.long x2)] (s.setVm T7.vm) = true := (own_ciS (mvT hZ w_38) own_ci0)
      have E_sa7 : Exa Z h7 sa7 "java/lang/String" := A7
      have F_coder_sa7 : Fld Z h7 sa7 "java/lang/String" "coder" "B" (.int (0 : Int32)) := C7
      have F_value_sa7 : Fld Z h7 sa7 "java/lang/String" "value" "[B" (.ref sb7) := D7
      have V_sb7 : Arv Z h7 sb7 kb7 .byte (7 : Int32) ((([100, 101, 102, 108, 97, 116, 101] : List Int32).map (fun c => c.toInt8.toInt32)).map Value.int) (.int (0 : Int32)) := V7
      refine GoesH.st (B := T7.setTop (mkF m 29 #[iv x0, iv (2 : Int32), jv x2, .second] [(.ref sa7)])) st7 ?_
      refine GoesH.run X7 hx hown hci hcl hby (L := [(29, .iload_n 1, 1)]) (by decide +kernel) rfl (g' := (mkF m 30 #[iv x0, iv (2 : Int32), jv x2, .second] [(.int (2 : Int32)), (.ref sa7)])) rfl ?_
      have hcd_sa7 : StrChars.Road.CodA ([100, 101, 102, 108, 97, 116, 101] : List Int32) 0 (7 : Int32) ((([100, 101, 102, 108, 97, 116, 101] : List Int32).map (fun c => c.toInt8.toInt32)).map Value.int) := StrChars.Road.codOf (n := 7) rfl (fun c hc => ((by decide : ∀ c ∈ ([100, 101, 102, 108, 97, 116, 101] : List Int32), ¬ c < 0 ∧ ¬ (255 : Int32) < c) c hc).2)
      have hbd_sa7 := own_up (by decide : ∀ c ∈ ([100, 101, 102, 108, 97, 116, 101] : List Int32), ¬ c < 0 ∧ ¬ (255 : Int32) < c)
      obtain ⟨cq8, kq8, q8a, q8b, q8c⟩ := isOf hZ e7 E_sa7
      obtain ⟨_, _, ⟨T8, L8, k8, n8⟩, -, X8, ⟨Lc8, hQ8, l8, y8, z8⟩, st8⟩ := X7.virtualBack hx (y := ym0) (z := ym0) hown (mvT hZ w_13) (mvT hZ w_14) (notFace_of_selects (args := #[]) (mvT hZ w_16)) (mvT hZ w_16) (mvT hZ w_15) (by decide) (StrChars.Road.chN (W := 0) hZ (own_hch hw) (kI := 4) w_7 E_sa7 F_value_sa7 F_coder_sa7 V_sb7 hcd_sa7 hbd_sa7 (O2.ext Od7.2) P5 (O4.ext Od7.2) rG3 (Nat.le_of_ble_eq_true rfl) (i := 2) (Nat.le_of_ble_eq_true rfl) (j := (2 : Int32)) rfl (by decide) (by decide)) q8a q8c (g := (mkF m 30 #[iv x0, iv (2 : Int32), jv x2, .second] [(.int (2 : Int32)), (.ref sa7)])) rfl (by rw [hml]; rfl) (Steps.refl _) (argsL := [(.int (2 : Int32))]) (rest := []) (lenOf pdA2_0 rfl) rfl (by show 2 * 0 + _ ≤ _; exact Nat.le_of_eq rfl) (hb hby d1_30) (fun _ _ => ⟨rfl, e7, (by decide : 2 + 0 ≤ _), (by decide : 32 + 0 ≤ _)⟩)
      dsimp only [Pt.U, Pt.locs, Pt.cells, Pt.slots] at X8 l8 y8 z8 st8 hQ8
      subst l8 y8 z8
      rw [show ([100, 101, 102, 108, 97, 116, 101] : List Int32).getD 2 0 = (102 : Int32) from rfl] at hQ8
      obtain ⟨rfl, rfl, e8⟩ := hQ8
      have N8 := Fr.app N0 (Fr.nil n0)
      refine GoesH.st (B := T8.setTop (mkF m 33 #[iv x0, iv (2 : Int32), jv x2, .second] [(.int (102 : Int32))])) (fun t k => st8.trans k) ?_
      exact GoesH.retB X8 Sn7 (by rw [e8]; exact hk7) (by rw [e8]; exact CH7) hZ hEL hx hlk (t := .char) Bd.returns (by simp) (hb hby d1_33) rfl ⟨(congrArg (fun z => some (Value.int z)) (show (rA2 x0 x2) = (102 : Int32) from ((if_neg hc1_1).trans (if_pos hc18_5))).symm), N8, (by rw [e8]; exact K7)⟩ (by decide) (by decide)
    · skip
      refine GoesH.st (B := s₁.setTop (mkF m 34 #[iv x0, iv (2 : Int32), jv x2, .second] [])) (fun t k => ?_) ?_
      · refine XS.icmpYes X0.here hx rfl (pc0 := 18) (pc' := 34) rfl (hb hby d1_18) rfl (feq hc18_5).2 (by decide) (by decide) ?_
        exact k
      refine GoesH.run X0 hx hown hci hcl hby (L := [(34, .lload_n 2, 1), (35, .bipush 8, 2), (37, .iload_n 1, 1), (38, .imul, 1), (39, .lushr, 1), (40, .ldc2_w 45, 3)]) (by decide +kernel) rfl (g' := (mkF m 43 #[iv x0, iv (2 : Int32), jv x2, .second] [(.long (255 : Int64)), (.long ((x2.toUInt64 >>> ((16 : Int32) &&& 0x3f).toInt64.toUInt64).toInt64))])) rfl ?_
      refine GoesH.run X0 hx hown hci hcl hby (L := [(43, .land, 1), (44, .l2i, 1), (45, .i2c, 1)]) (by decide +kernel) rfl (g' := (mkF m 46 #[iv x0, iv (2 : Int32), jv x2, .second] [(.int (((((x2.toUInt64 >>> ((16 : Int32) &&& 0x3f).toInt64.toUInt64).toInt64) &&& (255 : Int64)).toInt32).toUInt32.toUInt16.toUInt32.toInt32))])) rfl ?_
      exact GoesH.retB X0 Sn0 (by rw [e0]; exact hk0) (by rw [e0]; exact CH0) hZ hEL hx hlk (t := .char) Bd.returns (by simp) (hb hby d1_46) (own_narc _) ⟨(congrArg (fun z => some (Value.int z)) (show (rA2 x0 x2) = (((((x2.toUInt64 >>> ((16 : Int32) &&& 0x3f).toInt64.toUInt64).toInt64) &&& (255 : Int64)).toInt32).toUInt32.toUInt16.toUInt32.toInt32) from ((if_neg hc1_1).trans (if_neg hc18_5))).symm), N0, (by rw [e0]; exact K0)⟩ (by decide) (by decide)
theorem pnA3 : plainName "com/example/upcaster/upcaster/io/CodecNamedPinLaw" = true := by first | (simp [plainName, overriddenIn]; done) | decide +kernel
theorem pdA3_0 : parseMethodDescriptor "(I)C" = some ⟨[.int], some .char⟩ := by decide +kernel
theorem efA3 (m : MethodId) (x0 : Int32) (x2 : Int64) : entryFrame m #[(.int x0), (.int (3 : Int32)), (.long x2)] 4 = (mkF m 0 #[iv x0, iv (3 : Int32), jv x2, .second] []) := by first | (simp [entryFrame, mkF, argsToLocals, Value.category]; done) | rfl
def rA3 (x0 : Int32) (x2 : Int64) : Int32 := (if x0 = (0 : Int32) then (108 : Int32) else (if x0 = (1 : Int32) then (108 : Int32) else (((((x2.toUInt64 >>> ((24 : Int32) &&& 0x3f).toInt64.toUInt64).toInt64) &&& (255 : Int64)).toInt32).toUInt32.toUInt16.toUInt32.toInt32)))
set_option maxRecDepth 65536 in
set_option maxHeartbeats 40000000 in
theorem rmA3 (l : Launch) (Z : State) (a0 : Array Value) (hw : ∀ d ∈ tables_1, d.before a0 Z = true) (ws : List Jvm.Cond) (x0 : Int32) (x2 : Int64) (G1 : Int32) (G3 : Value) (h0 : Heap) (n0 : Nat) (Z0 : n0 ≤ h0.size) (O0 : Old Z n0 h0) (O2 : Sta Z Z.heap "java/lang/String" "COMPACT_STRINGS" "Z" (.int G1)) (O4 : Sta Z Z.heap "jdk/internal/util/Preconditions" "SIOOBE_FORMATTER" "Ljava/util/function/BiFunction;" G3) (P5 : ¬ G1 = 0) (rG3 : G3.isRef = true) :
    MetFree l ym1 (head1 (Jvm.Cond.code ym1 method_3_code 4 (some .char) :: ws) ({ frames := 4, cells := 2, slots := 32, locals := 53 } : Room)) (fun a U => a = #[(.int x0), (.int (3 : Int32)), (.long x2)] ∧ Z.Warmed39 U.vm ∧ U.heap = h0 ∧ CHv Z consts_1 U.vm h0 ∧ ∀ x ∈ ([] : List Addr), Safe Z consts_1 U.vm h0 x) (fun _ _ _ _ _ => True) (fun _ U o U' => ∃ v L, o = .returned v ∧ (QH (some (.int (rA3 x0 x2))) h0 n0) v U'.heap L ∧ CHr Z consts_1 U.vm h0 U'.vm U'.heap ∧ ReturnedEndW U o U' L ({ frames := 4, cells := 2, slots := 32, locals := 53 } : Room).cells ({ frames := 4, cells := 2, slots := 32, locals := 53 } : Room).slots) := by
  refine MetFree.of_bodySF (plainFor_of_name pnA3) hisR ?_
  intro p e s m args below meth c s₁ Bd hml0 hP hK
  obtain ⟨rfl, hZ, hh, hCH0, hSF⟩ := hP
  have hx := Bd.exec
  have hby := Bd.bytes
  have hml : c.maxLocals = 4 := hml0
  have hlk : meth.locks = false := BodyLoose.notSynchronized Bd
  have hown : s.vm.findClass "com/example/upcaster/upcaster/io/CodecNamedPinLaw" = some m.cls := findClass_of_methodNamed Bd.named
  have hnm := (name_of_methodNamed Bd.named Bd.method).1
  have w_5 := hw _ (List.mem_of_getElem? (i := 5) rfl)
  have w_7 := hw _ (List.mem_of_getElem? (i := 7) rfl)
  have w_13 := hw _ (List.mem_of_getElem? (i := 13) rfl)
  have w_14 := hw _ (List.mem_of_getElem? (i := 14) rfl)
  have w_15 := hw _ (List.mem_of_getElem? (i := 15) rfl)
  have w_16 := hw _ (List.mem_of_getElem? (i := 16) rfl)
  have w_38 := hw _ (List.mem_of_getElem? (i := 38) rfl)
  have w_106 := hw _ (List.mem_of_getElem? (i := 106) rfl)
  have hci : ∀ i v, (i, v) ∈ ([] : List (Nat × Int32)) → (Jvm.Cond.constant "com/example/upcaster/upcaster/io/CodecNamedPinLaw" i v).before #[(.int x0), (.int (3 : Int32)), (.long x2)] s = true := own_ci0
  have hcl : ∀ i v, (i, v) ∈ ([(45, 255)] : List (Nat × Int64)) → (Jvm.Cond.constantLong "com/example/upcaster/upcaster/io/CodecNamedPinLaw" i v).before #[(.int x0), (.int (3 : Int32)), (.long x2)] s = true := (own_ciS (mvT hZ w_38) own_ci0)
  have X0 : Stand p l e ({ frames := 4, cells := 2, slots := 32, locals := 53 } : Room) s m #[(.int x0), (.int (3 : Int32)), (.long x2)] below meth c s₁ [] 0 0 := Stand.of_body Bd
  have e0 : s₁.heap = h0 := by rw [← hh, Bd.state]; rfl
  have N0 := Fr.nil n0
  show GoesH Z h0 p e below s (QH (some (.int (rA3 x0 x2))) h0 n0) ({ frames := 4, cells := 2, slots := 32, locals := 53 } : Room).cells ({ frames := 4, cells := 2, slots := 32, locals := 53 } : Room).slots (s₁.setTop (entryFrame m #[(.int x0), (.int (3 : Int32)), (.long x2)] 4))
  refine GoesH.cast (efA3 m x0 x2) ?_
  have hEL := own_EL hw
  have Sn0 : s.Since s.vm s.heap.size := own_since s
  have hk0 : s.heap.size ≤ h0.size := Nat.le_of_eq (congrArg Array.size hh)
  have X0 : Stand p l e ({ frames := 4, cells := 2, slots := 32, locals := 53 } : Room) (s.setVm s.vm) m #[(.int x0), (.int (3 : Int32)), (.long x2)] below meth c s₁ [] 0 0 := X0
  have CH0 : CHr Z consts_1 s.vm h0 s.vm h0 := CHr.refl hCH0
  have K0 : Keep h0 h0 [] := Keep.refl h0 _
  refine GoesH.run X0 hx hown hci hcl hby (L := [(0, .iload_n 0, 1)]) (by decide +kernel) rfl (g' := (mkF m 1 #[iv x0, iv (3 : Int32), jv x2, .second] [(.int x0)])) rfl ?_
  by_cases hc1_1 : x0 = (0 : Int32)
  · skip
    refine GoesH.st (B := s₁.setTop (mkF m 4 #[iv x0, iv (3 : Int32), jv x2, .second] [])) (fun t k => ?_) ?_
    · refine XS.ifNo X0.here hx rfl (hb hby d1_1) rfl ((if0 _ _).trans (teq hc1_1).2) ?_
      exact k
    refine GoesH.run X0 hx hown hci hcl hby (L := [(4, .iload_n 1, 1), (5, .iconst 4, 1)]) (by decide +kernel) rfl (g' := (mkF m 6 #[iv x0, iv (3 : Int32), jv x2, .second] [(.int (4 : Int32)), (.int (3 : Int32))])) rfl ?_
    have hc6_2 : (3 : Int32) < (4 : Int32) := by decide
    refine GoesH.st (B := s₁.setTop (mkF m 9 #[iv x0, iv (3 : Int32), jv x2, .second] [])) (fun t k => ?_) ?_
    · refine XS.icmpNo X0.here hx rfl (hb hby d1_6) rfl (tlt hc6_2).2.1 ?_
      exact k
    obtain ⟨sa3, T3, h3, kk3, sb3, kb3, X3, e3, E3, Sn3, hk3, hZ, hown, A3, C3, D3, V3, -, -, CHq3, lt3, nsf3, st3⟩ := ldcCH X0 hx hZ hown w_5 (own_wS hw) e0 Sn0 hk0 hEL (by decide : ("com/example/upcaster/upcaster/io/CodecNamedPinLaw", 35) ∈ consts_1) CH0.1 (vs := ((([110, 117, 108, 108] : List Int32).map (fun c => c.toInt8.toInt32)).map Value.int)) (z := (4 : Int32)) ⟨by decide, by decide⟩ (by decide) (by decide) (g := (mkF m 9 #[iv x0, iv (3 : Int32), jv x2, .second] [])) rfl (hb hby d1_9) (n := 16) (by decide) (by decide) (by decide) (by decide)
    have Zn3 : n0 ≤ h3.size := Nat.le_trans Z0 E3.1
    have K3 := K0.ext E3
    have Od3 := O0.ext E3
    have hk3e := Nat.le_trans hk0 E3.1
    have CH3 := CH0.trans CHq3
    have hci : ∀ i v, (i, v) ∈ ([] : List (Nat × Int32)) → (Jvm.Cond.constant "com/example/upcaster/upcaster/io/CodecNamedPinLaw" i v).before #[(.int x0), (.int (3 : Int32)), (.long x2)] (s.setVm T3.vm) = true := own_ci0
    have hcl : ∀ i v, (i, v) ∈ ([(45, 255)] : List (Nat × Int64)) → (Jvm.Cond.constantLong "com/example/upcaster/upcaster/io/CodecNamedPinLaw" i v).before #[(.int x0), (.int (3 : Int32)), (.long x2)] (s.setVm T3.vm) = true := (own_ciS (mvT hZ w_38) own_ci0)
    have E_sa3 : Exa Z h3 sa3 "java/lang/String" := A3
    have F_coder_sa3 : Fld Z h3 sa3 "java/lang/String" "coder" "B" (.int (0 : Int32)) := C3
    have F_value_sa3 : Fld Z h3 sa3 "java/lang/String" "value" "[B" (.ref sb3) := D3
    have V_sb3 : Arv Z h3 sb3 kb3 .byte (4 : Int32) ((([110, 117, 108, 108] : List Int32).map (fun c => c.toInt8.toInt32)).map Value.int) (.int (0 : Int32)) := V3
    refine GoesH.st (B := T3.setTop (mkF m 11 #[iv x0, iv (3 : Int32), jv x2, .second] [(.ref sa3)])) st3 ?_
    refine GoesH.run X3 hx hown hci hcl hby (L := [(11, .iload_n 1, 1)]) (by decide +kernel) rfl (g' := (mkF m 12 #[iv x0, iv (3 : Int32), jv x2, .second] [(.int (3 : Int32)), (.ref sa3)])) rfl ?_
    have hcd_sa3 : StrChars.Road.CodA ([110, 117, 108, 108] : List Int32) 0 (4 : Int32) ((([110, 117, 108, 108] : List Int32).map (fun c => c.toInt8.toInt32)).map Value.int) := StrChars.Road.codOf (n := 4) rfl (fun c hc => ((by decide : ∀ c ∈ ([110, 117, 108, 108] : List Int32), ¬ c < 0 ∧ ¬ (255 : Int32) < c) c hc).2)
    have hbd_sa3 := own_up (by decide : ∀ c ∈ ([110, 117, 108, 108] : List Int32), ¬ c < 0 ∧ ¬ (255 : Int32) < c)
    obtain ⟨cq4, kq4, q4a, q4b, q4c⟩ := isOf hZ e3 E_sa3
    obtain ⟨_, _, ⟨T4, L4, k4, n4⟩, -, X4, ⟨Lc4, hQ4, l4, y4, z4⟩, st4⟩ := X3.virtualBack hx (y := ym0) (z := ym0) hown (mvT hZ w_13) (mvT hZ w_14) (notFace_of_selects (args := #[]) (mvT hZ w_16)) (mvT hZ w_16) (mvT hZ w_15) (by decide) (StrChars.Road.chN (W := 0) hZ (own_hch hw) (kI := 4) w_7 E_sa3 F_value_sa3 F_coder_sa3 V_sb3 hcd_sa3 hbd_sa3 (O2.ext Od3.2) P5 (O4.ext Od3.2) rG3 (Nat.le_of_ble_eq_true rfl) (i := 3) (Nat.le_of_ble_eq_true rfl) (j := (3 : Int32)) rfl (by decide) (by decide)) q4a q4c (g := (mkF m 12 #[iv x0, iv (3 : Int32), jv x2, .second] [(.int (3 : Int32)), (.ref sa3)])) rfl (by rw [hml]; rfl) (Steps.refl _) (argsL := [(.int (3 : Int32))]) (rest := []) (lenOf pdA3_0 rfl) rfl (by show 2 * 0 + _ ≤ _; exact Nat.le_of_eq rfl) (hb hby d1_12) (fun _ _ => ⟨rfl, e3, (by decide : 2 + 0 ≤ _), (by decide : 20 + 0 ≤ _)⟩)
    dsimp only [Pt.U, Pt.locs, Pt.cells, Pt.slots] at X4 l4 y4 z4 st4 hQ4
    subst l4 y4 z4
    rw [show ([110, 117, 108, 108] : List Int32).getD 3 0 = (108 : Int32) from rfl] at hQ4
    obtain ⟨rfl, rfl, e4⟩ := hQ4
    have N4 := Fr.app N0 (Fr.nil n0)
    refine GoesH.st (B := T4.setTop (mkF m 15 #[iv x0, iv (3 : Int32), jv x2, .second] [(.int (108 : Int32))])) (fun t k => st4.trans k) ?_
    exact GoesH.retB X4 Sn3 (by rw [e4]; exact hk3) (by rw [e4]; exact CH3) hZ hEL hx hlk (t := .char) Bd.returns (by simp) (hb hby d1_15) rfl ⟨(congrArg (fun z => some (Value.int z)) (show (rA3 x0 x2) = (108 : Int32) from (if_pos hc1_1)).symm), N4, (by rw [e4]; exact K3)⟩ (by decide) (by decide)
  · skip
    refine GoesH.st (B := s₁.setTop (mkF m 16 #[iv x0, iv (3 : Int32), jv x2, .second] [])) (fun t k => ?_) ?_
    · refine XS.ifYes X0.here hx rfl (pc0 := 1) (pc' := 16) rfl (hb hby d1_1) rfl ((if0 _ _).trans (feq hc1_1).2) (by decide) (by decide) ?_
      exact k
    refine GoesH.run X0 hx hown hci hcl hby (L := [(16, .iload_n 0, 1), (17, .iconst 1, 1)]) (by decide +kernel) rfl (g' := (mkF m 18 #[iv x0, iv (3 : Int32), jv x2, .second] [(.int (1 : Int32)), (.int x0)])) rfl ?_
    by_cases hc18_5 : x0 = (1 : Int32)
    · skip
      refine GoesH.st (B := s₁.setTop (mkF m 21 #[iv x0, iv (3 : Int32), jv x2, .second] [])) (fun t k => ?_) ?_
      · refine XS.icmpNo X0.here hx rfl (hb hby d1_18) rfl (teq hc18_5).2 ?_
        exact k
      refine GoesH.run X0 hx hown hci hcl hby (L := [(21, .iload_n 1, 1), (22, .bipush 7, 2)]) (by decide +kernel) rfl (g' := (mkF m 24 #[iv x0, iv (3 : Int32), jv x2, .second] [(.int (7 : Int32)), (.int (3 : Int32))])) rfl ?_
      have hc24_6 : (3 : Int32) < (7 : Int32) := by decide
      refine GoesH.st (B := s₁.setTop (mkF m 27 #[iv x0, iv (3 : Int32), jv x2, .second] [])) (fun t k => ?_) ?_
      · refine XS.icmpNo X0.here hx rfl (hb hby d1_24) rfl (tlt hc24_6).2.1 ?_
        exact k
      obtain ⟨sa7, T7, h7, kk7, sb7, kb7, X7, e7, E7, Sn7, hk7, hZ, hown, A7, C7, D7, V7, -, -, CHq7, lt7, nsf7, st7⟩ := ldcCH X0 hx hZ hown w_106 (own_wS hw) e0 Sn0 hk0 hEL (by decide : ("com/example/upcaster/upcaster/io/CodecNamedPinLaw", 43) ∈ consts_1) CH0.1 (vs := ((([100, 101, 102, 108, 97, 116, 101] : List Int32).map (fun c => c.toInt8.toInt32)).map Value.int)) (z := (7 : Int32)) ⟨by decide, by decide⟩ (by decide) (by decide) (g := (mkF m 27 #[iv x0, iv (3 : Int32), jv x2, .second] [])) rfl (hb hby d1_27) (n := 28) (by decide) (by decide) (by decide) (by decide)
      have Zn7 : n0 ≤ h7.size := Nat.le_trans Z0 E7.1
      have K7 := K0.ext E7
      have Od7 := O0.ext E7
      have hk7e := Nat.le_trans hk0 E7.1
      have CH7 := CH0.trans CHq7
      have hci : ∀ i v, (i, v) ∈ ([] : List (Nat × Int32)) → (Jvm.Cond.constant "com/example/upcaster/upcaster/io/CodecNamedPinLaw" i v).before #[(.int x0), (.int (3 : Int32)), (.long x2)] (s.setVm T7.vm) = true := own_ci0
      have hcl : ∀ i v, (i, v) ∈ ([(45, 255)] : List (Nat × Int64)) → (Jvm.Cond.constantLong "com/example/upcaster/upcaster/io/CodecNamedPinLaw" i v).before #[(.int x0), (.int (3 : Int32)), (.long x2)] (s.setVm T7.vm) = true := (own_ciS (mvT hZ w_38) own_ci0)
      have E_sa7 : Exa Z h7 sa7 "java/lang/String" := A7
      have F_coder_sa7 : Fld Z h7 sa7 "java/lang/String" "coder" "B" (.int (0 : Int32)) := C7
      have F_value_sa7 : Fld Z h7 sa7 "java/lang/String" "value" "[B" (.ref sb7) := D7
      have V_sb7 : Arv Z h7 sb7 kb7 .byte (7 : Int32) ((([100, 101, 102, 108, 97, 116, 101] : List Int32).map (fun c => c.toInt8.toInt32)).map Value.int) (.int (0 : Int32)) := V7
      refine GoesH.st (B := T7.setTop (mkF m 29 #[iv x0, iv (3 : Int32), jv x2, .second] [(.ref sa7)])) st7 ?_
      refine GoesH.run X7 hx hown hci hcl hby (L := [(29, .iload_n 1, 1)]) (by decide +kernel) rfl (g' := (mkF m 30 #[iv x0, iv (3 : Int32), jv x2, .second] [(.int (3 : Int32)), (.ref sa7)])) rfl ?_
      have hcd_sa7 : StrChars.Road.CodA ([100, 101, 102, 108, 97, 116, 101] : List Int32) 0 (7 : Int32) ((([100, 101, 102, 108, 97, 116, 101] : List Int32).map (fun c => c.toInt8.toInt32)).map Value.int) := StrChars.Road.codOf (n := 7) rfl (fun c hc => ((by decide : ∀ c ∈ ([100, 101, 102, 108, 97, 116, 101] : List Int32), ¬ c < 0 ∧ ¬ (255 : Int32) < c) c hc).2)
      have hbd_sa7 := own_up (by decide : ∀ c ∈ ([100, 101, 102, 108, 97, 116, 101] : List Int32), ¬ c < 0 ∧ ¬ (255 : Int32) < c)
      obtain ⟨cq8, kq8, q8a, q8b, q8c⟩ := isOf hZ e7 E_sa7
      obtain ⟨_, _, ⟨T8, L8, k8, n8⟩, -, X8, ⟨Lc8, hQ8, l8, y8, z8⟩, st8⟩ := X7.virtualBack hx (y := ym0) (z := ym0) hown (mvT hZ w_13) (mvT hZ w_14) (notFace_of_selects (args := #[]) (mvT hZ w_16)) (mvT hZ w_16) (mvT hZ w_15) (by decide) (StrChars.Road.chN (W := 0) hZ (own_hch hw) (kI := 4) w_7 E_sa7 F_value_sa7 F_coder_sa7 V_sb7 hcd_sa7 hbd_sa7 (O2.ext Od7.2) P5 (O4.ext Od7.2) rG3 (Nat.le_of_ble_eq_true rfl) (i := 3) (Nat.le_of_ble_eq_true rfl) (j := (3 : Int32)) rfl (by decide) (by decide)) q8a q8c (g := (mkF m 30 #[iv x0, iv (3 : Int32), jv x2, .second] [(.int (3 : Int32)), (.ref sa7)])) rfl (by rw [hml]; rfl) (Steps.refl _) (argsL := [(.int (3 : Int32))]) (rest := []) (lenOf pdA3_0 rfl) rfl (by show 2 * 0 + _ ≤ _; exact Nat.le_of_eq rfl) (hb hby d1_30) (fun _ _ => ⟨rfl, e7, (by decide : 2 + 0 ≤ _), (by decide : 32 + 0 ≤ _)⟩)
      dsimp only [Pt.U, Pt.locs, Pt.cells, Pt.slots] at X8 l8 y8 z8 st8 hQ8
      subst l8 y8 z8
      rw [show ([100, 101, 102, 108, 97, 116, 101] : List Int32).getD 3 0 = (108 : Int32) from rfl] at hQ8
      obtain ⟨rfl, rfl, e8⟩ := hQ8
      have N8 := Fr.app N0 (Fr.nil n0)
      refine GoesH.st (B := T8.setTop (mkF m 33 #[iv x0, iv (3 : Int32), jv x2, .second] [(.int (108 : Int32))])) (fun t k => st8.trans k) ?_
      exact GoesH.retB X8 Sn7 (by rw [e8]; exact hk7) (by rw [e8]; exact CH7) hZ hEL hx hlk (t := .char) Bd.returns (by simp) (hb hby d1_33) rfl ⟨(congrArg (fun z => some (Value.int z)) (show (rA3 x0 x2) = (108 : Int32) from ((if_neg hc1_1).trans (if_pos hc18_5))).symm), N8, (by rw [e8]; exact K7)⟩ (by decide) (by decide)
    · skip
      refine GoesH.st (B := s₁.setTop (mkF m 34 #[iv x0, iv (3 : Int32), jv x2, .second] [])) (fun t k => ?_) ?_
      · refine XS.icmpYes X0.here hx rfl (pc0 := 18) (pc' := 34) rfl (hb hby d1_18) rfl (feq hc18_5).2 (by decide) (by decide) ?_
        exact k
      refine GoesH.run X0 hx hown hci hcl hby (L := [(34, .lload_n 2, 1), (35, .bipush 8, 2), (37, .iload_n 1, 1), (38, .imul, 1), (39, .lushr, 1), (40, .ldc2_w 45, 3)]) (by decide +kernel) rfl (g' := (mkF m 43 #[iv x0, iv (3 : Int32), jv x2, .second] [(.long (255 : Int64)), (.long ((x2.toUInt64 >>> ((24 : Int32) &&& 0x3f).toInt64.toUInt64).toInt64))])) rfl ?_
      refine GoesH.run X0 hx hown hci hcl hby (L := [(43, .land, 1), (44, .l2i, 1), (45, .i2c, 1)]) (by decide +kernel) rfl (g' := (mkF m 46 #[iv x0, iv (3 : Int32), jv x2, .second] [(.int (((((x2.toUInt64 >>> ((24 : Int32) &&& 0x3f).toInt64.toUInt64).toInt64) &&& (255 : Int64)).toInt32).toUInt32.toUInt16.toUInt32.toInt32))])) rfl ?_
      exact GoesH.retB X0 Sn0 (by rw [e0]; exact hk0) (by rw [e0]; exact CH0) hZ hEL hx hlk (t := .char) Bd.returns (by simp) (hb hby d1_46) (own_narc _) ⟨(congrArg (fun z => some (Value.int z)) (show (rA3 x0 x2) = (((((x2.toUInt64 >>> ((24 : Int32) &&& 0x3f).toInt64.toUInt64).toInt64) &&& (255 : Int64)).toInt32).toUInt32.toUInt16.toUInt32.toInt32) from ((if_neg hc1_1).trans (if_neg hc18_5))).symm), N0, (by rw [e0]; exact K0)⟩ (by decide) (by decide)
theorem pnA4 : plainName "com/example/upcaster/upcaster/io/CodecNamedPinLaw" = true := by first | (simp [plainName, overriddenIn]; done) | decide +kernel
theorem pdA4_0 : parseMethodDescriptor "(I)C" = some ⟨[.int], some .char⟩ := by decide +kernel
theorem efA4 (m : MethodId) (x0 : Int32) (x2 : Int64) : entryFrame m #[(.int x0), (.int (4 : Int32)), (.long x2)] 4 = (mkF m 0 #[iv x0, iv (4 : Int32), jv x2, .second] []) := by first | (simp [entryFrame, mkF, argsToLocals, Value.category]; done) | rfl
def rA4 (x0 : Int32) (x2 : Int64) : Int32 := (if x0 = (0 : Int32) then (if x0 = (1 : Int32) then (97 : Int32) else (((((x2.toUInt64 >>> ((32 : Int32) &&& 0x3f).toInt64.toUInt64).toInt64) &&& (255 : Int64)).toInt32).toUInt32.toUInt16.toUInt32.toInt32)) else (if x0 = (1 : Int32) then (97 : Int32) else (((((x2.toUInt64 >>> ((32 : Int32) &&& 0x3f).toInt64.toUInt64).toInt64) &&& (255 : Int64)).toInt32).toUInt32.toUInt16.toUInt32.toInt32)))
set_option maxRecDepth 65536 in
set_option maxHeartbeats 40000000 in
theorem rmA4 (l : Launch) (Z : State) (a0 : Array Value) (hw : ∀ d ∈ tables_1, d.before a0 Z = true) (ws : List Jvm.Cond) (x0 : Int32) (x2 : Int64) (G1 : Int32) (G3 : Value) (h0 : Heap) (n0 : Nat) (Z0 : n0 ≤ h0.size) (O0 : Old Z n0 h0) (O2 : Sta Z Z.heap "java/lang/String" "COMPACT_STRINGS" "Z" (.int G1)) (O4 : Sta Z Z.heap "jdk/internal/util/Preconditions" "SIOOBE_FORMATTER" "Ljava/util/function/BiFunction;" G3) (P5 : ¬ G1 = 0) (rG3 : G3.isRef = true) :
    MetFree l ym1 (head1 (Jvm.Cond.code ym1 method_3_code 4 (some .char) :: ws) ({ frames := 4, cells := 2, slots := 32, locals := 53 } : Room)) (fun a U => a = #[(.int x0), (.int (4 : Int32)), (.long x2)] ∧ Z.Warmed39 U.vm ∧ U.heap = h0 ∧ CHv Z consts_1 U.vm h0 ∧ ∀ x ∈ ([] : List Addr), Safe Z consts_1 U.vm h0 x) (fun _ _ _ _ _ => True) (fun _ U o U' => ∃ v L, o = .returned v ∧ (QH (some (.int (rA4 x0 x2))) h0 n0) v U'.heap L ∧ CHr Z consts_1 U.vm h0 U'.vm U'.heap ∧ ReturnedEndW U o U' L ({ frames := 4, cells := 2, slots := 32, locals := 53 } : Room).cells ({ frames := 4, cells := 2, slots := 32, locals := 53 } : Room).slots) := by
  refine MetFree.of_bodySF (plainFor_of_name pnA4) hisR ?_
  intro p e s m args below meth c s₁ Bd hml0 hP hK
  obtain ⟨rfl, hZ, hh, hCH0, hSF⟩ := hP
  have hx := Bd.exec
  have hby := Bd.bytes
  have hml : c.maxLocals = 4 := hml0
  have hlk : meth.locks = false := BodyLoose.notSynchronized Bd
  have hown : s.vm.findClass "com/example/upcaster/upcaster/io/CodecNamedPinLaw" = some m.cls := findClass_of_methodNamed Bd.named
  have hnm := (name_of_methodNamed Bd.named Bd.method).1
  have w_7 := hw _ (List.mem_of_getElem? (i := 7) rfl)
  have w_13 := hw _ (List.mem_of_getElem? (i := 13) rfl)
  have w_14 := hw _ (List.mem_of_getElem? (i := 14) rfl)
  have w_15 := hw _ (List.mem_of_getElem? (i := 15) rfl)
  have w_16 := hw _ (List.mem_of_getElem? (i := 16) rfl)
  have w_38 := hw _ (List.mem_of_getElem? (i := 38) rfl)
  have w_106 := hw _ (List.mem_of_getElem? (i := 106) rfl)
  have hci : ∀ i v, (i, v) ∈ ([] : List (Nat × Int32)) → (Jvm.Cond.constant "com/example/upcaster/upcaster/io/CodecNamedPinLaw" i v).before #[(.int x0), (.int (4 : Int32)), (.long x2)] s = true := own_ci0
  have hcl : ∀ i v, (i, v) ∈ ([(45, 255)] : List (Nat × Int64)) → (Jvm.Cond.constantLong "com/example/upcaster/upcaster/io/CodecNamedPinLaw" i v).before #[(.int x0), (.int (4 : Int32)), (.long x2)] s = true := (own_ciS (mvT hZ w_38) own_ci0)
  have X0 : Stand p l e ({ frames := 4, cells := 2, slots := 32, locals := 53 } : Room) s m #[(.int x0), (.int (4 : Int32)), (.long x2)] below meth c s₁ [] 0 0 := Stand.of_body Bd
  have e0 : s₁.heap = h0 := by rw [← hh, Bd.state]; rfl
  have N0 := Fr.nil n0
  show GoesH Z h0 p e below s (QH (some (.int (rA4 x0 x2))) h0 n0) ({ frames := 4, cells := 2, slots := 32, locals := 53 } : Room).cells ({ frames := 4, cells := 2, slots := 32, locals := 53 } : Room).slots (s₁.setTop (entryFrame m #[(.int x0), (.int (4 : Int32)), (.long x2)] 4))
  refine GoesH.cast (efA4 m x0 x2) ?_
  have hEL := own_EL hw
  have Sn0 : s.Since s.vm s.heap.size := own_since s
  have hk0 : s.heap.size ≤ h0.size := Nat.le_of_eq (congrArg Array.size hh)
  have X0 : Stand p l e ({ frames := 4, cells := 2, slots := 32, locals := 53 } : Room) (s.setVm s.vm) m #[(.int x0), (.int (4 : Int32)), (.long x2)] below meth c s₁ [] 0 0 := X0
  have CH0 : CHr Z consts_1 s.vm h0 s.vm h0 := CHr.refl hCH0
  have K0 : Keep h0 h0 [] := Keep.refl h0 _
  refine GoesH.run X0 hx hown hci hcl hby (L := [(0, .iload_n 0, 1)]) (by decide +kernel) rfl (g' := (mkF m 1 #[iv x0, iv (4 : Int32), jv x2, .second] [(.int x0)])) rfl ?_
  by_cases hc1_1 : x0 = (0 : Int32)
  · skip
    refine GoesH.st (B := s₁.setTop (mkF m 4 #[iv x0, iv (4 : Int32), jv x2, .second] [])) (fun t k => ?_) ?_
    · refine XS.ifNo X0.here hx rfl (hb hby d1_1) rfl ((if0 _ _).trans (teq hc1_1).2) ?_
      exact k
    refine GoesH.run X0 hx hown hci hcl hby (L := [(4, .iload_n 1, 1), (5, .iconst 4, 1)]) (by decide +kernel) rfl (g' := (mkF m 6 #[iv x0, iv (4 : Int32), jv x2, .second] [(.int (4 : Int32)), (.int (4 : Int32))])) rfl ?_
    have hc6_2 : ¬ ((4 : Int32) < (4 : Int32)) := Int32.lt_irrefl
    refine GoesH.st (B := s₁.setTop (mkF m 16 #[iv x0, iv (4 : Int32), jv x2, .second] [])) (fun t k => ?_) ?_
    · refine XS.icmpYes X0.here hx rfl (pc0 := 6) (pc' := 16) rfl (hb hby d1_6) rfl (flt hc6_2).2.1 (by decide) (by decide) ?_
      exact k
    refine GoesH.run X0 hx hown hci hcl hby (L := [(16, .iload_n 0, 1), (17, .iconst 1, 1)]) (by decide +kernel) rfl (g' := (mkF m 18 #[iv x0, iv (4 : Int32), jv x2, .second] [(.int (1 : Int32)), (.int x0)])) rfl ?_
    by_cases hc18_3 : x0 = (1 : Int32)
    · skip
      refine GoesH.st (B := s₁.setTop (mkF m 21 #[iv x0, iv (4 : Int32), jv x2, .second] [])) (fun t k => ?_) ?_
      · refine XS.icmpNo X0.here hx rfl (hb hby d1_18) rfl (teq hc18_3).2 ?_
        exact k
      refine GoesH.run X0 hx hown hci hcl hby (L := [(21, .iload_n 1, 1), (22, .bipush 7, 2)]) (by decide +kernel) rfl (g' := (mkF m 24 #[iv x0, iv (4 : Int32), jv x2, .second] [(.int (7 : Int32)), (.int (4 : Int32))])) rfl ?_
      have hc24_4 : (4 : Int32) < (7 : Int32) := by decide
      refine GoesH.st (B := s₁.setTop (mkF m 27 #[iv x0, iv (4 : Int32), jv x2, .second] [])) (fun t k => ?_) ?_
      · refine XS.icmpNo X0.here hx rfl (hb hby d1_24) rfl (tlt hc24_4).2.1 ?_
        exact k
      obtain ⟨sa5, T5, h5, kk5, sb5, kb5, X5, e5, E5, Sn5, hk5, hZ, hown, A5, C5, D5, V5, -, -, CHq5, lt5, nsf5, st5⟩ := ldcCH X0 hx hZ hown w_106 (own_wS hw) e0 Sn0 hk0 hEL (by decide : ("com/example/upcaster/upcaster/io/CodecNamedPinLaw", 43) ∈ consts_1) CH0.1 (vs := ((([100, 101, 102, 108, 97, 116, 101] : List Int32).map (fun c => c.toInt8.toInt32)).map Value.int)) (z := (7 : Int32)) ⟨by decide, by decide⟩ (by decide) (by decide) (g := (mkF m 27 #[iv x0, iv (4 : Int32), jv x2, .second] [])) rfl (hb hby d1_27) (n := 28) (by decide) (by decide) (by decide) (by decide)
      have Zn5 : n0 ≤ h5.size := Nat.le_trans Z0 E5.1
      have K5 := K0.ext E5
      have Od5 := O0.ext E5
      have hk5e := Nat.le_trans hk0 E5.1
      have CH5 := CH0.trans CHq5
      have hci : ∀ i v, (i, v) ∈ ([] : List (Nat × Int32)) → (Jvm.Cond.constant "com/example/upcaster/upcaster/io/CodecNamedPinLaw" i v).before #[(.int x0), (.int (4 : Int32)), (.long x2)] (s.setVm T5.vm) = true := own_ci0
      have hcl : ∀ i v, (i, v) ∈ ([(45, 255)] : List (Nat × Int64)) → (Jvm.Cond.constantLong "com/example/upcaster/upcaster/io/CodecNamedPinLaw" i v).before #[(.int x0), (.int (4 : Int32)), (.long x2)] (s.setVm T5.vm) = true := (own_ciS (mvT hZ w_38) own_ci0)
      have E_sa5 : Exa Z h5 sa5 "java/lang/String" := A5
      have F_coder_sa5 : Fld Z h5 sa5 "java/lang/String" "coder" "B" (.int (0 : Int32)) := C5
      have F_value_sa5 : Fld Z h5 sa5 "java/lang/String" "value" "[B" (.ref sb5) := D5
      have V_sb5 : Arv Z h5 sb5 kb5 .byte (7 : Int32) ((([100, 101, 102, 108, 97, 116, 101] : List Int32).map (fun c => c.toInt8.toInt32)).map Value.int) (.int (0 : Int32)) := V5
      refine GoesH.st (B := T5.setTop (mkF m 29 #[iv x0, iv (4 : Int32), jv x2, .second] [(.ref sa5)])) st5 ?_
      refine GoesH.run X5 hx hown hci hcl hby (L := [(29, .iload_n 1, 1)]) (by decide +kernel) rfl (g' := (mkF m 30 #[iv x0, iv (4 : Int32), jv x2, .second] [(.int (4 : Int32)), (.ref sa5)])) rfl ?_
      have hcd_sa5 : StrChars.Road.CodA ([100, 101, 102, 108, 97, 116, 101] : List Int32) 0 (7 : Int32) ((([100, 101, 102, 108, 97, 116, 101] : List Int32).map (fun c => c.toInt8.toInt32)).map Value.int) := StrChars.Road.codOf (n := 7) rfl (fun c hc => ((by decide : ∀ c ∈ ([100, 101, 102, 108, 97, 116, 101] : List Int32), ¬ c < 0 ∧ ¬ (255 : Int32) < c) c hc).2)
      have hbd_sa5 := own_up (by decide : ∀ c ∈ ([100, 101, 102, 108, 97, 116, 101] : List Int32), ¬ c < 0 ∧ ¬ (255 : Int32) < c)
      obtain ⟨cq6, kq6, q6a, q6b, q6c⟩ := isOf hZ e5 E_sa5
      obtain ⟨_, _, ⟨T6, L6, k6, n6⟩, -, X6, ⟨Lc6, hQ6, l6, y6, z6⟩, st6⟩ := X5.virtualBack hx (y := ym0) (z := ym0) hown (mvT hZ w_13) (mvT hZ w_14) (notFace_of_selects (args := #[]) (mvT hZ w_16)) (mvT hZ w_16) (mvT hZ w_15) (by decide) (StrChars.Road.chN (W := 0) hZ (own_hch hw) (kI := 4) w_7 E_sa5 F_value_sa5 F_coder_sa5 V_sb5 hcd_sa5 hbd_sa5 (O2.ext Od5.2) P5 (O4.ext Od5.2) rG3 (Nat.le_of_ble_eq_true rfl) (i := 4) (Nat.le_of_ble_eq_true rfl) (j := (4 : Int32)) rfl (by decide) (by decide)) q6a q6c (g := (mkF m 30 #[iv x0, iv (4 : Int32), jv x2, .second] [(.int (4 : Int32)), (.ref sa5)])) rfl (by rw [hml]; rfl) (Steps.refl _) (argsL := [(.int (4 : Int32))]) (rest := []) (lenOf pdA4_0 rfl) rfl (by show 2 * 0 + _ ≤ _; exact Nat.le_of_eq rfl) (hb hby d1_30) (fun _ _ => ⟨rfl, e5, (by decide : 2 + 0 ≤ _), (by decide : 32 + 0 ≤ _)⟩)
      dsimp only [Pt.U, Pt.locs, Pt.cells, Pt.slots] at X6 l6 y6 z6 st6 hQ6
      subst l6 y6 z6
      rw [show ([100, 101, 102, 108, 97, 116, 101] : List Int32).getD 4 0 = (97 : Int32) from rfl] at hQ6
      obtain ⟨rfl, rfl, e6⟩ := hQ6
      have N6 := Fr.app N0 (Fr.nil n0)
      refine GoesH.st (B := T6.setTop (mkF m 33 #[iv x0, iv (4 : Int32), jv x2, .second] [(.int (97 : Int32))])) (fun t k => st6.trans k) ?_
      exact GoesH.retB X6 Sn5 (by rw [e6]; exact hk5) (by rw [e6]; exact CH5) hZ hEL hx hlk (t := .char) Bd.returns (by simp) (hb hby d1_33) rfl ⟨(congrArg (fun z => some (Value.int z)) (show (rA4 x0 x2) = (97 : Int32) from ((if_pos hc1_1).trans (if_pos hc18_3))).symm), N6, (by rw [e6]; exact K5)⟩ (by decide) (by decide)
    · skip
      refine GoesH.st (B := s₁.setTop (mkF m 34 #[iv x0, iv (4 : Int32), jv x2, .second] [])) (fun t k => ?_) ?_
      · refine XS.icmpYes X0.here hx rfl (pc0 := 18) (pc' := 34) rfl (hb hby d1_18) rfl (feq hc18_3).2 (by decide) (by decide) ?_
        exact k
      refine GoesH.run X0 hx hown hci hcl hby (L := [(34, .lload_n 2, 1), (35, .bipush 8, 2), (37, .iload_n 1, 1), (38, .imul, 1), (39, .lushr, 1), (40, .ldc2_w 45, 3)]) (by decide +kernel) rfl (g' := (mkF m 43 #[iv x0, iv (4 : Int32), jv x2, .second] [(.long (255 : Int64)), (.long ((x2.toUInt64 >>> ((32 : Int32) &&& 0x3f).toInt64.toUInt64).toInt64))])) rfl ?_
      refine GoesH.run X0 hx hown hci hcl hby (L := [(43, .land, 1), (44, .l2i, 1), (45, .i2c, 1)]) (by decide +kernel) rfl (g' := (mkF m 46 #[iv x0, iv (4 : Int32), jv x2, .second] [(.int (((((x2.toUInt64 >>> ((32 : Int32) &&& 0x3f).toInt64.toUInt64).toInt64) &&& (255 : Int64)).toInt32).toUInt32.toUInt16.toUInt32.toInt32))])) rfl ?_
      exact GoesH.retB X0 Sn0 (by rw [e0]; exact hk0) (by rw [e0]; exact CH0) hZ hEL hx hlk (t := .char) Bd.returns (by simp) (hb hby d1_46) (own_narc _) ⟨(congrArg (fun z => some (Value.int z)) (show (rA4 x0 x2) = (((((x2.toUInt64 >>> ((32 : Int32) &&& 0x3f).toInt64.toUInt64).toInt64) &&& (255 : Int64)).toInt32).toUInt32.toUInt16.toUInt32.toInt32) from ((if_pos hc1_1).trans (if_neg hc18_3))).symm), N0, (by rw [e0]; exact K0)⟩ (by decide) (by decide)
  · skip
    refine GoesH.st (B := s₁.setTop (mkF m 16 #[iv x0, iv (4 : Int32), jv x2, .second] [])) (fun t k => ?_) ?_
    · refine XS.ifYes X0.here hx rfl (pc0 := 1) (pc' := 16) rfl (hb hby d1_1) rfl ((if0 _ _).trans (feq hc1_1).2) (by decide) (by decide) ?_
      exact k
    refine GoesH.run X0 hx hown hci hcl hby (L := [(16, .iload_n 0, 1), (17, .iconst 1, 1)]) (by decide +kernel) rfl (g' := (mkF m 18 #[iv x0, iv (4 : Int32), jv x2, .second] [(.int (1 : Int32)), (.int x0)])) rfl ?_
    by_cases hc18_7 : x0 = (1 : Int32)
    · skip
      refine GoesH.st (B := s₁.setTop (mkF m 21 #[iv x0, iv (4 : Int32), jv x2, .second] [])) (fun t k => ?_) ?_
      · refine XS.icmpNo X0.here hx rfl (hb hby d1_18) rfl (teq hc18_7).2 ?_
        exact k
      refine GoesH.run X0 hx hown hci hcl hby (L := [(21, .iload_n 1, 1), (22, .bipush 7, 2)]) (by decide +kernel) rfl (g' := (mkF m 24 #[iv x0, iv (4 : Int32), jv x2, .second] [(.int (7 : Int32)), (.int (4 : Int32))])) rfl ?_
      have hc24_8 : (4 : Int32) < (7 : Int32) := by decide
      refine GoesH.st (B := s₁.setTop (mkF m 27 #[iv x0, iv (4 : Int32), jv x2, .second] [])) (fun t k => ?_) ?_
      · refine XS.icmpNo X0.here hx rfl (hb hby d1_24) rfl (tlt hc24_8).2.1 ?_
        exact k
      obtain ⟨sa9, T9, h9, kk9, sb9, kb9, X9, e9, E9, Sn9, hk9, hZ, hown, A9, C9, D9, V9, -, -, CHq9, lt9, nsf9, st9⟩ := ldcCH X0 hx hZ hown w_106 (own_wS hw) e0 Sn0 hk0 hEL (by decide : ("com/example/upcaster/upcaster/io/CodecNamedPinLaw", 43) ∈ consts_1) CH0.1 (vs := ((([100, 101, 102, 108, 97, 116, 101] : List Int32).map (fun c => c.toInt8.toInt32)).map Value.int)) (z := (7 : Int32)) ⟨by decide, by decide⟩ (by decide) (by decide) (g := (mkF m 27 #[iv x0, iv (4 : Int32), jv x2, .second] [])) rfl (hb hby d1_27) (n := 28) (by decide) (by decide) (by decide) (by decide)
      have Zn9 : n0 ≤ h9.size := Nat.le_trans Z0 E9.1
      have K9 := K0.ext E9
      have Od9 := O0.ext E9
      have hk9e := Nat.le_trans hk0 E9.1
      have CH9 := CH0.trans CHq9
      have hci : ∀ i v, (i, v) ∈ ([] : List (Nat × Int32)) → (Jvm.Cond.constant "com/example/upcaster/upcaster/io/CodecNamedPinLaw" i v).before #[(.int x0), (.int (4 : Int32)), (.long x2)] (s.setVm T9.vm) = true := own_ci0
      have hcl : ∀ i v, (i, v) ∈ ([(45, 255)] : List (Nat × Int64)) → (Jvm.Cond.constantLong "com/example/upcaster/upcaster/io/CodecNamedPinLaw" i v).before #[(.int x0), (.int (4 : Int32)), (.long x2)] (s.setVm T9.vm) = true := (own_ciS (mvT hZ w_38) own_ci0)
      have E_sa9 : Exa Z h9 sa9 "java/lang/String" := A9
      have F_coder_sa9 : Fld Z h9 sa9 "java/lang/String" "coder" "B" (.int (0 : Int32)) := C9
      have F_value_sa9 : Fld Z h9 sa9 "java/lang/String" "value" "[B" (.ref sb9) := D9
      have V_sb9 : Arv Z h9 sb9 kb9 .byte (7 : Int32) ((([100, 101, 102, 108, 97, 116, 101] : List Int32).map (fun c => c.toInt8.toInt32)).map Value.int) (.int (0 : Int32)) := V9
      refine GoesH.st (B := T9.setTop (mkF m 29 #[iv x0, iv (4 : Int32), jv x2, .second] [(.ref sa9)])) st9 ?_
      refine GoesH.run X9 hx hown hci hcl hby (L := [(29, .iload_n 1, 1)]) (by decide +kernel) rfl (g' := (mkF m 30 #[iv x0, iv (4 : Int32), jv x2, .second] [(.int (4 : Int32)), (.ref sa9)])) rfl ?_
      have hcd_sa9 : StrChars.Road.CodA ([100, 101, 102, 108, 97, 116, 101] : List Int32) 0 (7 : Int32) ((([100, 101, 102, 108, 97, 116, 101] : List Int32).map (fun c => c.toInt8.toInt32)).map Value.int) := StrChars.Road.codOf (n := 7) rfl (fun c hc => ((by decide : ∀ c ∈ ([100, 101, 102, 108, 97, 116, 101] : List Int32), ¬ c < 0 ∧ ¬ (255 : Int32) < c) c hc).2)
      have hbd_sa9 := own_up (by decide : ∀ c ∈ ([100, 101, 102, 108, 97, 116, 101] : List Int32), ¬ c < 0 ∧ ¬ (255 : Int32) < c)
      obtain ⟨cq10, kq10, q10a, q10b, q10c⟩ := isOf hZ e9 E_sa9
      obtain ⟨_, _, ⟨T10, L10, k10, n10⟩, -, X10, ⟨Lc10, hQ10, l10, y10, z10⟩, st10⟩ := X9.virtualBack hx (y := ym0) (z := ym0) hown (mvT hZ w_13) (mvT hZ w_14) (notFace_of_selects (args := #[]) (mvT hZ w_16)) (mvT hZ w_16) (mvT hZ w_15) (by decide) (StrChars.Road.chN (W := 0) hZ (own_hch hw) (kI := 4) w_7 E_sa9 F_value_sa9 F_coder_sa9 V_sb9 hcd_sa9 hbd_sa9 (O2.ext Od9.2) P5 (O4.ext Od9.2) rG3 (Nat.le_of_ble_eq_true rfl) (i := 4) (Nat.le_of_ble_eq_true rfl) (j := (4 : Int32)) rfl (by decide) (by decide)) q10a q10c (g := (mkF m 30 #[iv x0, iv (4 : Int32), jv x2, .second] [(.int (4 : Int32)), (.ref sa9)])) rfl (by rw [hml]; rfl) (Steps.refl _) (argsL := [(.int (4 : Int32))]) (rest := []) (lenOf pdA4_0 rfl) rfl (by show 2 * 0 + _ ≤ _; exact Nat.le_of_eq rfl) (hb hby d1_30) (fun _ _ => ⟨rfl, e9, (by decide : 2 + 0 ≤ _), (by decide : 32 + 0 ≤ _)⟩)
      dsimp only [Pt.U, Pt.locs, Pt.cells, Pt.slots] at X10 l10 y10 z10 st10 hQ10
      subst l10 y10 z10
      rw [show ([100, 101, 102, 108, 97, 116, 101] : List Int32).getD 4 0 = (97 : Int32) from rfl] at hQ10
      obtain ⟨rfl, rfl, e10⟩ := hQ10
      have N10 := Fr.app N0 (Fr.nil n0)
      refine GoesH.st (B := T10.setTop (mkF m 33 #[iv x0, iv (4 : Int32), jv x2, .second] [(.int (97 : Int32))])) (fun t k => st10.trans k) ?_
      exact GoesH.retB X10 Sn9 (by rw [e10]; exact hk9) (by rw [e10]; exact CH9) hZ hEL hx hlk (t := .char) Bd.returns (by simp) (hb hby d1_33) rfl ⟨(congrArg (fun z => some (Value.int z)) (show (rA4 x0 x2) = (97 : Int32) from ((if_neg hc1_1).trans (if_pos hc18_7))).symm), N10, (by rw [e10]; exact K9)⟩ (by decide) (by decide)
    · skip
      refine GoesH.st (B := s₁.setTop (mkF m 34 #[iv x0, iv (4 : Int32), jv x2, .second] [])) (fun t k => ?_) ?_
      · refine XS.icmpYes X0.here hx rfl (pc0 := 18) (pc' := 34) rfl (hb hby d1_18) rfl (feq hc18_7).2 (by decide) (by decide) ?_
        exact k
      refine GoesH.run X0 hx hown hci hcl hby (L := [(34, .lload_n 2, 1), (35, .bipush 8, 2), (37, .iload_n 1, 1), (38, .imul, 1), (39, .lushr, 1), (40, .ldc2_w 45, 3)]) (by decide +kernel) rfl (g' := (mkF m 43 #[iv x0, iv (4 : Int32), jv x2, .second] [(.long (255 : Int64)), (.long ((x2.toUInt64 >>> ((32 : Int32) &&& 0x3f).toInt64.toUInt64).toInt64))])) rfl ?_
      refine GoesH.run X0 hx hown hci hcl hby (L := [(43, .land, 1), (44, .l2i, 1), (45, .i2c, 1)]) (by decide +kernel) rfl (g' := (mkF m 46 #[iv x0, iv (4 : Int32), jv x2, .second] [(.int (((((x2.toUInt64 >>> ((32 : Int32) &&& 0x3f).toInt64.toUInt64).toInt64) &&& (255 : Int64)).toInt32).toUInt32.toUInt16.toUInt32.toInt32))])) rfl ?_
      exact GoesH.retB X0 Sn0 (by rw [e0]; exact hk0) (by rw [e0]; exact CH0) hZ hEL hx hlk (t := .char) Bd.returns (by simp) (hb hby d1_46) (own_narc _) ⟨(congrArg (fun z => some (Value.int z)) (show (rA4 x0 x2) = (((((x2.toUInt64 >>> ((32 : Int32) &&& 0x3f).toInt64.toUInt64).toInt64) &&& (255 : Int64)).toInt32).toUInt32.toUInt16.toUInt32.toInt32) from ((if_neg hc1_1).trans (if_neg hc18_7))).symm), N0, (by rw [e0]; exact K0)⟩ (by decide) (by decide)
theorem pnA5 : plainName "com/example/upcaster/upcaster/io/CodecNamedPinLaw" = true := by first | (simp [plainName, overriddenIn]; done) | decide +kernel
theorem pdA5_0 : parseMethodDescriptor "(I)C" = some ⟨[.int], some .char⟩ := by decide +kernel
theorem efA5 (m : MethodId) (x0 : Int32) (x2 : Int64) : entryFrame m #[(.int x0), (.int (5 : Int32)), (.long x2)] 4 = (mkF m 0 #[iv x0, iv (5 : Int32), jv x2, .second] []) := by first | (simp [entryFrame, mkF, argsToLocals, Value.category]; done) | rfl
def rA5 (x0 : Int32) (x2 : Int64) : Int32 := (if x0 = (0 : Int32) then (if x0 = (1 : Int32) then (116 : Int32) else (((((x2.toUInt64 >>> ((40 : Int32) &&& 0x3f).toInt64.toUInt64).toInt64) &&& (255 : Int64)).toInt32).toUInt32.toUInt16.toUInt32.toInt32)) else (if x0 = (1 : Int32) then (116 : Int32) else (((((x2.toUInt64 >>> ((40 : Int32) &&& 0x3f).toInt64.toUInt64).toInt64) &&& (255 : Int64)).toInt32).toUInt32.toUInt16.toUInt32.toInt32)))
set_option maxRecDepth 65536 in
set_option maxHeartbeats 40000000 in
theorem rmA5 (l : Launch) (Z : State) (a0 : Array Value) (hw : ∀ d ∈ tables_1, d.before a0 Z = true) (ws : List Jvm.Cond) (x0 : Int32) (x2 : Int64) (G1 : Int32) (G3 : Value) (h0 : Heap) (n0 : Nat) (Z0 : n0 ≤ h0.size) (O0 : Old Z n0 h0) (O2 : Sta Z Z.heap "java/lang/String" "COMPACT_STRINGS" "Z" (.int G1)) (O4 : Sta Z Z.heap "jdk/internal/util/Preconditions" "SIOOBE_FORMATTER" "Ljava/util/function/BiFunction;" G3) (P5 : ¬ G1 = 0) (rG3 : G3.isRef = true) :
    MetFree l ym1 (head1 (Jvm.Cond.code ym1 method_3_code 4 (some .char) :: ws) ({ frames := 4, cells := 2, slots := 32, locals := 53 } : Room)) (fun a U => a = #[(.int x0), (.int (5 : Int32)), (.long x2)] ∧ Z.Warmed39 U.vm ∧ U.heap = h0 ∧ CHv Z consts_1 U.vm h0 ∧ ∀ x ∈ ([] : List Addr), Safe Z consts_1 U.vm h0 x) (fun _ _ _ _ _ => True) (fun _ U o U' => ∃ v L, o = .returned v ∧ (QH (some (.int (rA5 x0 x2))) h0 n0) v U'.heap L ∧ CHr Z consts_1 U.vm h0 U'.vm U'.heap ∧ ReturnedEndW U o U' L ({ frames := 4, cells := 2, slots := 32, locals := 53 } : Room).cells ({ frames := 4, cells := 2, slots := 32, locals := 53 } : Room).slots) := by
  refine MetFree.of_bodySF (plainFor_of_name pnA5) hisR ?_
  intro p e s m args below meth c s₁ Bd hml0 hP hK
  obtain ⟨rfl, hZ, hh, hCH0, hSF⟩ := hP
  have hx := Bd.exec
  have hby := Bd.bytes
  have hml : c.maxLocals = 4 := hml0
  have hlk : meth.locks = false := BodyLoose.notSynchronized Bd
  have hown : s.vm.findClass "com/example/upcaster/upcaster/io/CodecNamedPinLaw" = some m.cls := findClass_of_methodNamed Bd.named
  have hnm := (name_of_methodNamed Bd.named Bd.method).1
  have w_7 := hw _ (List.mem_of_getElem? (i := 7) rfl)
  have w_13 := hw _ (List.mem_of_getElem? (i := 13) rfl)
  have w_14 := hw _ (List.mem_of_getElem? (i := 14) rfl)
  have w_15 := hw _ (List.mem_of_getElem? (i := 15) rfl)
  have w_16 := hw _ (List.mem_of_getElem? (i := 16) rfl)
  have w_38 := hw _ (List.mem_of_getElem? (i := 38) rfl)
  have w_106 := hw _ (List.mem_of_getElem? (i := 106) rfl)
  have hci : ∀ i v, (i, v) ∈ ([] : List (Nat × Int32)) → (Jvm.Cond.constant "com/example/upcaster/upcaster/io/CodecNamedPinLaw" i v).before #[(.int x0), (.int (5 : Int32)), (.long x2)] s = true := own_ci0
  have hcl : ∀ i v, (i, v) ∈ ([(45, 255)] : List (Nat × Int64)) → (Jvm.Cond.constantLong "com/example/upcaster/upcaster/io/CodecNamedPinLaw" i v).before #[(.int x0), (.int (5 : Int32)), (.long x2)] s = true := (own_ciS (mvT hZ w_38) own_ci0)
  have X0 : Stand p l e ({ frames := 4, cells := 2, slots := 32, locals := 53 } : Room) s m #[(.int x0), (.int (5 : Int32)), (.long x2)] below meth c s₁ [] 0 0 := Stand.of_body Bd
  have e0 : s₁.heap = h0 := by rw [← hh, Bd.state]; rfl
  have N0 := Fr.nil n0
  show GoesH Z h0 p e below s (QH (some (.int (rA5 x0 x2))) h0 n0) ({ frames := 4, cells := 2, slots := 32, locals := 53 } : Room).cells ({ frames := 4, cells := 2, slots := 32, locals := 53 } : Room).slots (s₁.setTop (entryFrame m #[(.int x0), (.int (5 : Int32)), (.long x2)] 4))
  refine GoesH.cast (efA5 m x0 x2) ?_
  have hEL := own_EL hw
  have Sn0 : s.Since s.vm s.heap.size := own_since s
  have hk0 : s.heap.size ≤ h0.size := Nat.le_of_eq (congrArg Array.size hh)
  have X0 : Stand p l e ({ frames := 4, cells := 2, slots := 32, locals := 53 } : Room) (s.setVm s.vm) m #[(.int x0), (.int (5 : Int32)), (.long x2)] below meth c s₁ [] 0 0 := X0
  have CH0 : CHr Z consts_1 s.vm h0 s.vm h0 := CHr.refl hCH0
  have K0 : Keep h0 h0 [] := Keep.refl h0 _
  refine GoesH.run X0 hx hown hci hcl hby (L := [(0, .iload_n 0, 1)]) (by decide +kernel) rfl (g' := (mkF m 1 #[iv x0, iv (5 : Int32), jv x2, .second] [(.int x0)])) rfl ?_
  by_cases hc1_1 : x0 = (0 : Int32)
  · skip
    refine GoesH.st (B := s₁.setTop (mkF m 4 #[iv x0, iv (5 : Int32), jv x2, .second] [])) (fun t k => ?_) ?_
    · refine XS.ifNo X0.here hx rfl (hb hby d1_1) rfl ((if0 _ _).trans (teq hc1_1).2) ?_
      exact k
    refine GoesH.run X0 hx hown hci hcl hby (L := [(4, .iload_n 1, 1), (5, .iconst 4, 1)]) (by decide +kernel) rfl (g' := (mkF m 6 #[iv x0, iv (5 : Int32), jv x2, .second] [(.int (4 : Int32)), (.int (5 : Int32))])) rfl ?_
    have hc6_2 : ¬ ((5 : Int32) < (4 : Int32)) := by decide
    refine GoesH.st (B := s₁.setTop (mkF m 16 #[iv x0, iv (5 : Int32), jv x2, .second] [])) (fun t k => ?_) ?_
    · refine XS.icmpYes X0.here hx rfl (pc0 := 6) (pc' := 16) rfl (hb hby d1_6) rfl (flt hc6_2).2.1 (by decide) (by decide) ?_
      exact k
    refine GoesH.run X0 hx hown hci hcl hby (L := [(16, .iload_n 0, 1), (17, .iconst 1, 1)]) (by decide +kernel) rfl (g' := (mkF m 18 #[iv x0, iv (5 : Int32), jv x2, .second] [(.int (1 : Int32)), (.int x0)])) rfl ?_
    by_cases hc18_3 : x0 = (1 : Int32)
    · skip
      refine GoesH.st (B := s₁.setTop (mkF m 21 #[iv x0, iv (5 : Int32), jv x2, .second] [])) (fun t k => ?_) ?_
      · refine XS.icmpNo X0.here hx rfl (hb hby d1_18) rfl (teq hc18_3).2 ?_
        exact k
      refine GoesH.run X0 hx hown hci hcl hby (L := [(21, .iload_n 1, 1), (22, .bipush 7, 2)]) (by decide +kernel) rfl (g' := (mkF m 24 #[iv x0, iv (5 : Int32), jv x2, .second] [(.int (7 : Int32)), (.int (5 : Int32))])) rfl ?_
      have hc24_4 : (5 : Int32) < (7 : Int32) := by decide
      refine GoesH.st (B := s₁.setTop (mkF m 27 #[iv x0, iv (5 : Int32), jv x2, .second] [])) (fun t k => ?_) ?_
      · refine XS.icmpNo X0.here hx rfl (hb hby d1_24) rfl (tlt hc24_4).2.1 ?_
        exact k
      obtain ⟨sa5, T5, h5, kk5, sb5, kb5, X5, e5, E5, Sn5, hk5, hZ, hown, A5, C5, D5, V5, -, -, CHq5, lt5, nsf5, st5⟩ := ldcCH X0 hx hZ hown w_106 (own_wS hw) e0 Sn0 hk0 hEL (by decide : ("com/example/upcaster/upcaster/io/CodecNamedPinLaw", 43) ∈ consts_1) CH0.1 (vs := ((([100, 101, 102, 108, 97, 116, 101] : List Int32).map (fun c => c.toInt8.toInt32)).map Value.int)) (z := (7 : Int32)) ⟨by decide, by decide⟩ (by decide) (by decide) (g := (mkF m 27 #[iv x0, iv (5 : Int32), jv x2, .second] [])) rfl (hb hby d1_27) (n := 28) (by decide) (by decide) (by decide) (by decide)
      have Zn5 : n0 ≤ h5.size := Nat.le_trans Z0 E5.1
      have K5 := K0.ext E5
      have Od5 := O0.ext E5
      have hk5e := Nat.le_trans hk0 E5.1
      have CH5 := CH0.trans CHq5
      have hci : ∀ i v, (i, v) ∈ ([] : List (Nat × Int32)) → (Jvm.Cond.constant "com/example/upcaster/upcaster/io/CodecNamedPinLaw" i v).before #[(.int x0), (.int (5 : Int32)), (.long x2)] (s.setVm T5.vm) = true := own_ci0
      have hcl : ∀ i v, (i, v) ∈ ([(45, 255)] : List (Nat × Int64)) → (Jvm.Cond.constantLong "com/example/upcaster/upcaster/io/CodecNamedPinLaw" i v).before #[(.int x0), (.int (5 : Int32)), (.long x2)] (s.setVm T5.vm) = true := (own_ciS (mvT hZ w_38) own_ci0)
      have E_sa5 : Exa Z h5 sa5 "java/lang/String" := A5
      have F_coder_sa5 : Fld Z h5 sa5 "java/lang/String" "coder" "B" (.int (0 : Int32)) := C5
      have F_value_sa5 : Fld Z h5 sa5 "java/lang/String" "value" "[B" (.ref sb5) := D5
      have V_sb5 : Arv Z h5 sb5 kb5 .byte (7 : Int32) ((([100, 101, 102, 108, 97, 116, 101] : List Int32).map (fun c => c.toInt8.toInt32)).map Value.int) (.int (0 : Int32)) := V5
      refine GoesH.st (B := T5.setTop (mkF m 29 #[iv x0, iv (5 : Int32), jv x2, .second] [(.ref sa5)])) st5 ?_
      refine GoesH.run X5 hx hown hci hcl hby (L := [(29, .iload_n 1, 1)]) (by decide +kernel) rfl (g' := (mkF m 30 #[iv x0, iv (5 : Int32), jv x2, .second] [(.int (5 : Int32)), (.ref sa5)])) rfl ?_
      have hcd_sa5 : StrChars.Road.CodA ([100, 101, 102, 108, 97, 116, 101] : List Int32) 0 (7 : Int32) ((([100, 101, 102, 108, 97, 116, 101] : List Int32).map (fun c => c.toInt8.toInt32)).map Value.int) := StrChars.Road.codOf (n := 7) rfl (fun c hc => ((by decide : ∀ c ∈ ([100, 101, 102, 108, 97, 116, 101] : List Int32), ¬ c < 0 ∧ ¬ (255 : Int32) < c) c hc).2)
      have hbd_sa5 := own_up (by decide : ∀ c ∈ ([100, 101, 102, 108, 97, 116, 101] : List Int32), ¬ c < 0 ∧ ¬ (255 : Int32) < c)
      obtain ⟨cq6, kq6, q6a, q6b, q6c⟩ := isOf hZ e5 E_sa5
      obtain ⟨_, _, ⟨T6, L6, k6, n6⟩, -, X6, ⟨Lc6, hQ6, l6, y6, z6⟩, st6⟩ := X5.virtualBack hx (y := ym0) (z := ym0) hown (mvT hZ w_13) (mvT hZ w_14) (notFace_of_selects (args := #[]) (mvT hZ w_16)) (mvT hZ w_16) (mvT hZ w_15) (by decide) (StrChars.Road.chN (W := 0) hZ (own_hch hw) (kI := 4) w_7 E_sa5 F_value_sa5 F_coder_sa5 V_sb5 hcd_sa5 hbd_sa5 (O2.ext Od5.2) P5 (O4.ext Od5.2) rG3 (Nat.le_of_ble_eq_true rfl) (i := 5) (Nat.le_of_ble_eq_true rfl) (j := (5 : Int32)) rfl (by decide) (by decide)) q6a q6c (g := (mkF m 30 #[iv x0, iv (5 : Int32), jv x2, .second] [(.int (5 : Int32)), (.ref sa5)])) rfl (by rw [hml]; rfl) (Steps.refl _) (argsL := [(.int (5 : Int32))]) (rest := []) (lenOf pdA5_0 rfl) rfl (by show 2 * 0 + _ ≤ _; exact Nat.le_of_eq rfl) (hb hby d1_30) (fun _ _ => ⟨rfl, e5, (by decide : 2 + 0 ≤ _), (by decide : 32 + 0 ≤ _)⟩)
      dsimp only [Pt.U, Pt.locs, Pt.cells, Pt.slots] at X6 l6 y6 z6 st6 hQ6
      subst l6 y6 z6
      rw [show ([100, 101, 102, 108, 97, 116, 101] : List Int32).getD 5 0 = (116 : Int32) from rfl] at hQ6
      obtain ⟨rfl, rfl, e6⟩ := hQ6
      have N6 := Fr.app N0 (Fr.nil n0)
      refine GoesH.st (B := T6.setTop (mkF m 33 #[iv x0, iv (5 : Int32), jv x2, .second] [(.int (116 : Int32))])) (fun t k => st6.trans k) ?_
      exact GoesH.retB X6 Sn5 (by rw [e6]; exact hk5) (by rw [e6]; exact CH5) hZ hEL hx hlk (t := .char) Bd.returns (by simp) (hb hby d1_33) rfl ⟨(congrArg (fun z => some (Value.int z)) (show (rA5 x0 x2) = (116 : Int32) from ((if_pos hc1_1).trans (if_pos hc18_3))).symm), N6, (by rw [e6]; exact K5)⟩ (by decide) (by decide)
    · skip
      refine GoesH.st (B := s₁.setTop (mkF m 34 #[iv x0, iv (5 : Int32), jv x2, .second] [])) (fun t k => ?_) ?_
      · refine XS.icmpYes X0.here hx rfl (pc0 := 18) (pc' := 34) rfl (hb hby d1_18) rfl (feq hc18_3).2 (by decide) (by decide) ?_
        exact k
      refine GoesH.run X0 hx hown hci hcl hby (L := [(34, .lload_n 2, 1), (35, .bipush 8, 2), (37, .iload_n 1, 1), (38, .imul, 1), (39, .lushr, 1), (40, .ldc2_w 45, 3)]) (by decide +kernel) rfl (g' := (mkF m 43 #[iv x0, iv (5 : Int32), jv x2, .second] [(.long (255 : Int64)), (.long ((x2.toUInt64 >>> ((40 : Int32) &&& 0x3f).toInt64.toUInt64).toInt64))])) rfl ?_
      refine GoesH.run X0 hx hown hci hcl hby (L := [(43, .land, 1), (44, .l2i, 1), (45, .i2c, 1)]) (by decide +kernel) rfl (g' := (mkF m 46 #[iv x0, iv (5 : Int32), jv x2, .second] [(.int (((((x2.toUInt64 >>> ((40 : Int32) &&& 0x3f).toInt64.toUInt64).toInt64) &&& (255 : Int64)).toInt32).toUInt32.toUInt16.toUInt32.toInt32))])) rfl ?_
      exact GoesH.retB X0 Sn0 (by rw [e0]; exact hk0) (by rw [e0]; exact CH0) hZ hEL hx hlk (t := .char) Bd.returns (by simp) (hb hby d1_46) (own_narc _) ⟨(congrArg (fun z => some (Value.int z)) (show (rA5 x0 x2) = (((((x2.toUInt64 >>> ((40 : Int32) &&& 0x3f).toInt64.toUInt64).toInt64) &&& (255 : Int64)).toInt32).toUInt32.toUInt16.toUInt32.toInt32) from ((if_pos hc1_1).trans (if_neg hc18_3))).symm), N0, (by rw [e0]; exact K0)⟩ (by decide) (by decide)
  · skip
    refine GoesH.st (B := s₁.setTop (mkF m 16 #[iv x0, iv (5 : Int32), jv x2, .second] [])) (fun t k => ?_) ?_
    · refine XS.ifYes X0.here hx rfl (pc0 := 1) (pc' := 16) rfl (hb hby d1_1) rfl ((if0 _ _).trans (feq hc1_1).2) (by decide) (by decide) ?_
      exact k
    refine GoesH.run X0 hx hown hci hcl hby (L := [(16, .iload_n 0, 1), (17, .iconst 1, 1)]) (by decide +kernel) rfl (g' := (mkF m 18 #[iv x0, iv (5 : Int32), jv x2, .second] [(.int (1 : Int32)), (.int x0)])) rfl ?_
    by_cases hc18_7 : x0 = (1 : Int32)
    · skip
      refine GoesH.st (B := s₁.setTop (mkF m 21 #[iv x0, iv (5 : Int32), jv x2, .second] [])) (fun t k => ?_) ?_
      · refine XS.icmpNo X0.here hx rfl (hb hby d1_18) rfl (teq hc18_7).2 ?_
        exact k
      refine GoesH.run X0 hx hown hci hcl hby (L := [(21, .iload_n 1, 1), (22, .bipush 7, 2)]) (by decide +kernel) rfl (g' := (mkF m 24 #[iv x0, iv (5 : Int32), jv x2, .second] [(.int (7 : Int32)), (.int (5 : Int32))])) rfl ?_
      have hc24_8 : (5 : Int32) < (7 : Int32) := by decide
      refine GoesH.st (B := s₁.setTop (mkF m 27 #[iv x0, iv (5 : Int32), jv x2, .second] [])) (fun t k => ?_) ?_
      · refine XS.icmpNo X0.here hx rfl (hb hby d1_24) rfl (tlt hc24_8).2.1 ?_
        exact k
      obtain ⟨sa9, T9, h9, kk9, sb9, kb9, X9, e9, E9, Sn9, hk9, hZ, hown, A9, C9, D9, V9, -, -, CHq9, lt9, nsf9, st9⟩ := ldcCH X0 hx hZ hown w_106 (own_wS hw) e0 Sn0 hk0 hEL (by decide : ("com/example/upcaster/upcaster/io/CodecNamedPinLaw", 43) ∈ consts_1) CH0.1 (vs := ((([100, 101, 102, 108, 97, 116, 101] : List Int32).map (fun c => c.toInt8.toInt32)).map Value.int)) (z := (7 : Int32)) ⟨by decide, by decide⟩ (by decide) (by decide) (g := (mkF m 27 #[iv x0, iv (5 : Int32), jv x2, .second] [])) rfl (hb hby d1_27) (n := 28) (by decide) (by decide) (by decide) (by decide)
      have Zn9 : n0 ≤ h9.size := Nat.le_trans Z0 E9.1
      have K9 := K0.ext E9
      have Od9 := O0.ext E9
      have hk9e := Nat.le_trans hk0 E9.1
      have CH9 := CH0.trans CHq9
      have hci : ∀ i v, (i, v) ∈ ([] : List (Nat × Int32)) → (Jvm.Cond.constant "com/example/upcaster/upcaster/io/CodecNamedPinLaw" i v).before #[(.int x0), (.int (5 : Int32)), (.long x2)] (s.setVm T9.vm) = true := own_ci0
      have hcl : ∀ i v, (i, v) ∈ ([(45, 255)] : List (Nat × Int64)) → (Jvm.Cond.constantLong "com/example/upcaster/upcaster/io/CodecNamedPinLaw" i v).before #[(.int x0), (.int (5 : Int32)), (.long x2)] (s.setVm T9.vm) = true := (own_ciS (mvT hZ w_38) own_ci0)
      have E_sa9 : Exa Z h9 sa9 "java/lang/String" := A9
      have F_coder_sa9 : Fld Z h9 sa9 "java/lang/String" "coder" "B" (.int (0 : Int32)) := C9
      have F_value_sa9 : Fld Z h9 sa9 "java/lang/String" "value" "[B" (.ref sb9) := D9
      have V_sb9 : Arv Z h9 sb9 kb9 .byte (7 : Int32) ((([100, 101, 102, 108, 97, 116, 101] : List Int32).map (fun c => c.toInt8.toInt32)).map Value.int) (.int (0 : Int32)) := V9
      refine GoesH.st (B := T9.setTop (mkF m 29 #[iv x0, iv (5 : Int32), jv x2, .second] [(.ref sa9)])) st9 ?_
      refine GoesH.run X9 hx hown hci hcl hby (L := [(29, .iload_n 1, 1)]) (by decide +kernel) rfl (g' := (mkF m 30 #[iv x0, iv (5 : Int32), jv x2, .second] [(.int (5 : Int32)), (.ref sa9)])) rfl ?_
      have hcd_sa9 : StrChars.Road.CodA ([100, 101, 102, 108, 97, 116, 101] : List Int32) 0 (7 : Int32) ((([100, 101, 102, 108, 97, 116, 101] : List Int32).map (fun c => c.toInt8.toInt32)).map Value.int) := StrChars.Road.codOf (n := 7) rfl (fun c hc => ((by decide : ∀ c ∈ ([100, 101, 102, 108, 97, 116, 101] : List Int32), ¬ c < 0 ∧ ¬ (255 : Int32) < c) c hc).2)
      have hbd_sa9 := own_up (by decide : ∀ c ∈ ([100, 101, 102, 108, 97, 116, 101] : List Int32), ¬ c < 0 ∧ ¬ (255 : Int32) < c)
      obtain ⟨cq10, kq10, q10a, q10b, q10c⟩ := isOf hZ e9 E_sa9
      obtain ⟨_, _, ⟨T10, L10, k10, n10⟩, -, X10, ⟨Lc10, hQ10, l10, y10, z10⟩, st10⟩ := X9.virtualBack hx (y := ym0) (z := ym0) hown (mvT hZ w_13) (mvT hZ w_14) (notFace_of_selects (args := #[]) (mvT hZ w_16)) (mvT hZ w_16) (mvT hZ w_15) (by decide) (StrChars.Road.chN (W := 0) hZ (own_hch hw) (kI := 4) w_7 E_sa9 F_value_sa9 F_coder_sa9 V_sb9 hcd_sa9 hbd_sa9 (O2.ext Od9.2) P5 (O4.ext Od9.2) rG3 (Nat.le_of_ble_eq_true rfl) (i := 5) (Nat.le_of_ble_eq_true rfl) (j := (5 : Int32)) rfl (by decide) (by decide)) q10a q10c (g := (mkF m 30 #[iv x0, iv (5 : Int32), jv x2, .second] [(.int (5 : Int32)), (.ref sa9)])) rfl (by rw [hml]; rfl) (Steps.refl _) (argsL := [(.int (5 : Int32))]) (rest := []) (lenOf pdA5_0 rfl) rfl (by show 2 * 0 + _ ≤ _; exact Nat.le_of_eq rfl) (hb hby d1_30) (fun _ _ => ⟨rfl, e9, (by decide : 2 + 0 ≤ _), (by decide : 32 + 0 ≤ _)⟩)
      dsimp only [Pt.U, Pt.locs, Pt.cells, Pt.slots] at X10 l10 y10 z10 st10 hQ10
      subst l10 y10 z10
      rw [show ([100, 101, 102, 108, 97, 116, 101] : List Int32).getD 5 0 = (116 : Int32) from rfl] at hQ10
      obtain ⟨rfl, rfl, e10⟩ := hQ10
      have N10 := Fr.app N0 (Fr.nil n0)
      refine GoesH.st (B := T10.setTop (mkF m 33 #[iv x0, iv (5 : Int32), jv x2, .second] [(.int (116 : Int32))])) (fun t k => st10.trans k) ?_
      exact GoesH.retB X10 Sn9 (by rw [e10]; exact hk9) (by rw [e10]; exact CH9) hZ hEL hx hlk (t := .char) Bd.returns (by simp) (hb hby d1_33) rfl ⟨(congrArg (fun z => some (Value.int z)) (show (rA5 x0 x2) = (116 : Int32) from ((if_neg hc1_1).trans (if_pos hc18_7))).symm), N10, (by rw [e10]; exact K9)⟩ (by decide) (by decide)
    · skip
      refine GoesH.st (B := s₁.setTop (mkF m 34 #[iv x0, iv (5 : Int32), jv x2, .second] [])) (fun t k => ?_) ?_
      · refine XS.icmpYes X0.here hx rfl (pc0 := 18) (pc' := 34) rfl (hb hby d1_18) rfl (feq hc18_7).2 (by decide) (by decide) ?_
        exact k
      refine GoesH.run X0 hx hown hci hcl hby (L := [(34, .lload_n 2, 1), (35, .bipush 8, 2), (37, .iload_n 1, 1), (38, .imul, 1), (39, .lushr, 1), (40, .ldc2_w 45, 3)]) (by decide +kernel) rfl (g' := (mkF m 43 #[iv x0, iv (5 : Int32), jv x2, .second] [(.long (255 : Int64)), (.long ((x2.toUInt64 >>> ((40 : Int32) &&& 0x3f).toInt64.toUInt64).toInt64))])) rfl ?_
      refine GoesH.run X0 hx hown hci hcl hby (L := [(43, .land, 1), (44, .l2i, 1), (45, .i2c, 1)]) (by decide +kernel) rfl (g' := (mkF m 46 #[iv x0, iv (5 : Int32), jv x2, .second] [(.int (((((x2.toUInt64 >>> ((40 : Int32) &&& 0x3f).toInt64.toUInt64).toInt64) &&& (255 : Int64)).toInt32).toUInt32.toUInt16.toUInt32.toInt32))])) rfl ?_
      exact GoesH.retB X0 Sn0 (by rw [e0]; exact hk0) (by rw [e0]; exact CH0) hZ hEL hx hlk (t := .char) Bd.returns (by simp) (hb hby d1_46) (own_narc _) ⟨(congrArg (fun z => some (Value.int z)) (show (rA5 x0 x2) = (((((x2.toUInt64 >>> ((40 : Int32) &&& 0x3f).toInt64.toUInt64).toInt64) &&& (255 : Int64)).toInt32).toUInt32.toUInt16.toUInt32.toInt32) from ((if_neg hc1_1).trans (if_neg hc18_7))).symm), N0, (by rw [e0]; exact K0)⟩ (by decide) (by decide)
theorem pnA6 : plainName "com/example/upcaster/upcaster/io/CodecNamedPinLaw" = true := by first | (simp [plainName, overriddenIn]; done) | decide +kernel
theorem pdA6_0 : parseMethodDescriptor "(I)C" = some ⟨[.int], some .char⟩ := by decide +kernel
theorem efA6 (m : MethodId) (x0 : Int32) (x2 : Int64) : entryFrame m #[(.int x0), (.int (6 : Int32)), (.long x2)] 4 = (mkF m 0 #[iv x0, iv (6 : Int32), jv x2, .second] []) := by first | (simp [entryFrame, mkF, argsToLocals, Value.category]; done) | rfl
def rA6 (x0 : Int32) (x2 : Int64) : Int32 := (if x0 = (0 : Int32) then (if x0 = (1 : Int32) then (101 : Int32) else (((((x2.toUInt64 >>> ((48 : Int32) &&& 0x3f).toInt64.toUInt64).toInt64) &&& (255 : Int64)).toInt32).toUInt32.toUInt16.toUInt32.toInt32)) else (if x0 = (1 : Int32) then (101 : Int32) else (((((x2.toUInt64 >>> ((48 : Int32) &&& 0x3f).toInt64.toUInt64).toInt64) &&& (255 : Int64)).toInt32).toUInt32.toUInt16.toUInt32.toInt32)))
set_option maxRecDepth 65536 in
set_option maxHeartbeats 40000000 in
theorem rmA6 (l : Launch) (Z : State) (a0 : Array Value) (hw : ∀ d ∈ tables_1, d.before a0 Z = true) (ws : List Jvm.Cond) (x0 : Int32) (x2 : Int64) (G1 : Int32) (G3 : Value) (h0 : Heap) (n0 : Nat) (Z0 : n0 ≤ h0.size) (O0 : Old Z n0 h0) (O2 : Sta Z Z.heap "java/lang/String" "COMPACT_STRINGS" "Z" (.int G1)) (O4 : Sta Z Z.heap "jdk/internal/util/Preconditions" "SIOOBE_FORMATTER" "Ljava/util/function/BiFunction;" G3) (P5 : ¬ G1 = 0) (rG3 : G3.isRef = true) :
    MetFree l ym1 (head1 (Jvm.Cond.code ym1 method_3_code 4 (some .char) :: ws) ({ frames := 4, cells := 2, slots := 32, locals := 53 } : Room)) (fun a U => a = #[(.int x0), (.int (6 : Int32)), (.long x2)] ∧ Z.Warmed39 U.vm ∧ U.heap = h0 ∧ CHv Z consts_1 U.vm h0 ∧ ∀ x ∈ ([] : List Addr), Safe Z consts_1 U.vm h0 x) (fun _ _ _ _ _ => True) (fun _ U o U' => ∃ v L, o = .returned v ∧ (QH (some (.int (rA6 x0 x2))) h0 n0) v U'.heap L ∧ CHr Z consts_1 U.vm h0 U'.vm U'.heap ∧ ReturnedEndW U o U' L ({ frames := 4, cells := 2, slots := 32, locals := 53 } : Room).cells ({ frames := 4, cells := 2, slots := 32, locals := 53 } : Room).slots) := by
  refine MetFree.of_bodySF (plainFor_of_name pnA6) hisR ?_
  intro p e s m args below meth c s₁ Bd hml0 hP hK
  obtain ⟨rfl, hZ, hh, hCH0, hSF⟩ := hP
  have hx := Bd.exec
  have hby := Bd.bytes
  have hml : c.maxLocals = 4 := hml0
  have hlk : meth.locks = false := BodyLoose.notSynchronized Bd
  have hown : s.vm.findClass "com/example/upcaster/upcaster/io/CodecNamedPinLaw" = some m.cls := findClass_of_methodNamed Bd.named
  have hnm := (name_of_methodNamed Bd.named Bd.method).1
  have w_7 := hw _ (List.mem_of_getElem? (i := 7) rfl)
  have w_13 := hw _ (List.mem_of_getElem? (i := 13) rfl)
  have w_14 := hw _ (List.mem_of_getElem? (i := 14) rfl)
  have w_15 := hw _ (List.mem_of_getElem? (i := 15) rfl)
  have w_16 := hw _ (List.mem_of_getElem? (i := 16) rfl)
  have w_38 := hw _ (List.mem_of_getElem? (i := 38) rfl)
  have w_106 := hw _ (List.mem_of_getElem? (i := 106) rfl)
  have hci : ∀ i v, (i, v) ∈ ([] : List (Nat × Int32)) → (Jvm.Cond.constant "com/example/upcaster/upcaster/io/CodecNamedPinLaw" i v).before #[(.int x0), (.int (6 : Int32)), (.long x2)] s = true := own_ci0
  have hcl : ∀ i v, (i, v) ∈ ([(45, 255)] : List (Nat × Int64)) → (Jvm.Cond.constantLong "com/example/upcaster/upcaster/io/CodecNamedPinLaw" i v).before #[(.int x0), (.int (6 : Int32)), (.long x2)] s = true := (own_ciS (mvT hZ w_38) own_ci0)
  have X0 : Stand p l e ({ frames := 4, cells := 2, slots := 32, locals := 53 } : Room) s m #[(.int x0), (.int (6 : Int32)), (.long x2)] below meth c s₁ [] 0 0 := Stand.of_body Bd
  have e0 : s₁.heap = h0 := by rw [← hh, Bd.state]; rfl
  have N0 := Fr.nil n0
  show GoesH Z h0 p e below s (QH (some (.int (rA6 x0 x2))) h0 n0) ({ frames := 4, cells := 2, slots := 32, locals := 53 } : Room).cells ({ frames := 4, cells := 2, slots := 32, locals := 53 } : Room).slots (s₁.setTop (entryFrame m #[(.int x0), (.int (6 : Int32)), (.long x2)] 4))
  refine GoesH.cast (efA6 m x0 x2) ?_
  have hEL := own_EL hw
  have Sn0 : s.Since s.vm s.heap.size := own_since s
  have hk0 : s.heap.size ≤ h0.size := Nat.le_of_eq (congrArg Array.size hh)
  have X0 : Stand p l e ({ frames := 4, cells := 2, slots := 32, locals := 53 } : Room) (s.setVm s.vm) m #[(.int x0), (.int (6 : Int32)), (.long x2)] below meth c s₁ [] 0 0 := X0
  have CH0 : CHr Z consts_1 s.vm h0 s.vm h0 := CHr.refl hCH0
  have K0 : Keep h0 h0 [] := Keep.refl h0 _
  refine GoesH.run X0 hx hown hci hcl hby (L := [(0, .iload_n 0, 1)]) (by decide +kernel) rfl (g' := (mkF m 1 #[iv x0, iv (6 : Int32), jv x2, .second] [(.int x0)])) rfl ?_
  by_cases hc1_1 : x0 = (0 : Int32)
  · skip
    refine GoesH.st (B := s₁.setTop (mkF m 4 #[iv x0, iv (6 : Int32), jv x2, .second] [])) (fun t k => ?_) ?_
    · refine XS.ifNo X0.here hx rfl (hb hby d1_1) rfl ((if0 _ _).trans (teq hc1_1).2) ?_
      exact k
    refine GoesH.run X0 hx hown hci hcl hby (L := [(4, .iload_n 1, 1), (5, .iconst 4, 1)]) (by decide +kernel) rfl (g' := (mkF m 6 #[iv x0, iv (6 : Int32), jv x2, .second] [(.int (4 : Int32)), (.int (6 : Int32))])) rfl ?_
    have hc6_2 : ¬ ((6 : Int32) < (4 : Int32)) := by decide
    refine GoesH.st (B := s₁.setTop (mkF m 16 #[iv x0, iv (6 : Int32), jv x2, .second] [])) (fun t k => ?_) ?_
    · refine XS.icmpYes X0.here hx rfl (pc0 := 6) (pc' := 16) rfl (hb hby d1_6) rfl (flt hc6_2).2.1 (by decide) (by decide) ?_
      exact k
    refine GoesH.run X0 hx hown hci hcl hby (L := [(16, .iload_n 0, 1), (17, .iconst 1, 1)]) (by decide +kernel) rfl (g' := (mkF m 18 #[iv x0, iv (6 : Int32), jv x2, .second] [(.int (1 : Int32)), (.int x0)])) rfl ?_
    by_cases hc18_3 : x0 = (1 : Int32)
    · skip
      refine GoesH.st (B := s₁.setTop (mkF m 21 #[iv x0, iv (6 : Int32), jv x2, .second] [])) (fun t k => ?_) ?_
      · refine XS.icmpNo X0.here hx rfl (hb hby d1_18) rfl (teq hc18_3).2 ?_
        exact k
      refine GoesH.run X0 hx hown hci hcl hby (L := [(21, .iload_n 1, 1), (22, .bipush 7, 2)]) (by decide +kernel) rfl (g' := (mkF m 24 #[iv x0, iv (6 : Int32), jv x2, .second] [(.int (7 : Int32)), (.int (6 : Int32))])) rfl ?_
      have hc24_4 : (6 : Int32) < (7 : Int32) := by decide
      refine GoesH.st (B := s₁.setTop (mkF m 27 #[iv x0, iv (6 : Int32), jv x2, .second] [])) (fun t k => ?_) ?_
      · refine XS.icmpNo X0.here hx rfl (hb hby d1_24) rfl (tlt hc24_4).2.1 ?_
        exact k
      obtain ⟨sa5, T5, h5, kk5, sb5, kb5, X5, e5, E5, Sn5, hk5, hZ, hown, A5, C5, D5, V5, -, -, CHq5, lt5, nsf5, st5⟩ := ldcCH X0 hx hZ hown w_106 (own_wS hw) e0 Sn0 hk0 hEL (by decide : ("com/example/upcaster/upcaster/io/CodecNamedPinLaw", 43) ∈ consts_1) CH0.1 (vs := ((([100, 101, 102, 108, 97, 116, 101] : List Int32).map (fun c => c.toInt8.toInt32)).map Value.int)) (z := (7 : Int32)) ⟨by decide, by decide⟩ (by decide) (by decide) (g := (mkF m 27 #[iv x0, iv (6 : Int32), jv x2, .second] [])) rfl (hb hby d1_27) (n := 28) (by decide) (by decide) (by decide) (by decide)
      have Zn5 : n0 ≤ h5.size := Nat.le_trans Z0 E5.1
      have K5 := K0.ext E5
      have Od5 := O0.ext E5
      have hk5e := Nat.le_trans hk0 E5.1
      have CH5 := CH0.trans CHq5
      have hci : ∀ i v, (i, v) ∈ ([] : List (Nat × Int32)) → (Jvm.Cond.constant "com/example/upcaster/upcaster/io/CodecNamedPinLaw" i v).before #[(.int x0), (.int (6 : Int32)), (.long x2)] (s.setVm T5.vm) = true := own_ci0
      have hcl : ∀ i v, (i, v) ∈ ([(45, 255)] : List (Nat × Int64)) → (Jvm.Cond.constantLong "com/example/upcaster/upcaster/io/CodecNamedPinLaw" i v).before #[(.int x0), (.int (6 : Int32)), (.long x2)] (s.setVm T5.vm) = true := (own_ciS (mvT hZ w_38) own_ci0)
      have E_sa5 : Exa Z h5 sa5 "java/lang/String" := A5
      have F_coder_sa5 : Fld Z h5 sa5 "java/lang/String" "coder" "B" (.int (0 : Int32)) := C5
      have F_value_sa5 : Fld Z h5 sa5 "java/lang/String" "value" "[B" (.ref sb5) := D5
      have V_sb5 : Arv Z h5 sb5 kb5 .byte (7 : Int32) ((([100, 101, 102, 108, 97, 116, 101] : List Int32).map (fun c => c.toInt8.toInt32)).map Value.int) (.int (0 : Int32)) := V5
      refine GoesH.st (B := T5.setTop (mkF m 29 #[iv x0, iv (6 : Int32), jv x2, .second] [(.ref sa5)])) st5 ?_
      refine GoesH.run X5 hx hown hci hcl hby (L := [(29, .iload_n 1, 1)]) (by decide +kernel) rfl (g' := (mkF m 30 #[iv x0, iv (6 : Int32), jv x2, .second] [(.int (6 : Int32)), (.ref sa5)])) rfl ?_
      have hcd_sa5 : StrChars.Road.CodA ([100, 101, 102, 108, 97, 116, 101] : List Int32) 0 (7 : Int32) ((([100, 101, 102, 108, 97, 116, 101] : List Int32).map (fun c => c.toInt8.toInt32)).map Value.int) := StrChars.Road.codOf (n := 7) rfl (fun c hc => ((by decide : ∀ c ∈ ([100, 101, 102, 108, 97, 116, 101] : List Int32), ¬ c < 0 ∧ ¬ (255 : Int32) < c) c hc).2)
      have hbd_sa5 := own_up (by decide : ∀ c ∈ ([100, 101, 102, 108, 97, 116, 101] : List Int32), ¬ c < 0 ∧ ¬ (255 : Int32) < c)
      obtain ⟨cq6, kq6, q6a, q6b, q6c⟩ := isOf hZ e5 E_sa5
      obtain ⟨_, _, ⟨T6, L6, k6, n6⟩, -, X6, ⟨Lc6, hQ6, l6, y6, z6⟩, st6⟩ := X5.virtualBack hx (y := ym0) (z := ym0) hown (mvT hZ w_13) (mvT hZ w_14) (notFace_of_selects (args := #[]) (mvT hZ w_16)) (mvT hZ w_16) (mvT hZ w_15) (by decide) (StrChars.Road.chN (W := 0) hZ (own_hch hw) (kI := 4) w_7 E_sa5 F_value_sa5 F_coder_sa5 V_sb5 hcd_sa5 hbd_sa5 (O2.ext Od5.2) P5 (O4.ext Od5.2) rG3 (Nat.le_of_ble_eq_true rfl) (i := 6) (Nat.le_of_ble_eq_true rfl) (j := (6 : Int32)) rfl (by decide) (by decide)) q6a q6c (g := (mkF m 30 #[iv x0, iv (6 : Int32), jv x2, .second] [(.int (6 : Int32)), (.ref sa5)])) rfl (by rw [hml]; rfl) (Steps.refl _) (argsL := [(.int (6 : Int32))]) (rest := []) (lenOf pdA6_0 rfl) rfl (by show 2 * 0 + _ ≤ _; exact Nat.le_of_eq rfl) (hb hby d1_30) (fun _ _ => ⟨rfl, e5, (by decide : 2 + 0 ≤ _), (by decide : 32 + 0 ≤ _)⟩)
      dsimp only [Pt.U, Pt.locs, Pt.cells, Pt.slots] at X6 l6 y6 z6 st6 hQ6
      subst l6 y6 z6
      rw [show ([100, 101, 102, 108, 97, 116, 101] : List Int32).getD 6 0 = (101 : Int32) from rfl] at hQ6
      obtain ⟨rfl, rfl, e6⟩ := hQ6
      have N6 := Fr.app N0 (Fr.nil n0)
      refine GoesH.st (B := T6.setTop (mkF m 33 #[iv x0, iv (6 : Int32), jv x2, .second] [(.int (101 : Int32))])) (fun t k => st6.trans k) ?_
      exact GoesH.retB X6 Sn5 (by rw [e6]; exact hk5) (by rw [e6]; exact CH5) hZ hEL hx hlk (t := .char) Bd.returns (by simp) (hb hby d1_33) rfl ⟨(congrArg (fun z => some (Value.int z)) (show (rA6 x0 x2) = (101 : Int32) from ((if_pos hc1_1).trans (if_pos hc18_3))).symm), N6, (by rw [e6]; exact K5)⟩ (by decide) (by decide)
    · skip
      refine GoesH.st (B := s₁.setTop (mkF m 34 #[iv x0, iv (6 : Int32), jv x2, .second] [])) (fun t k => ?_) ?_
      · refine XS.icmpYes X0.here hx rfl (pc0 := 18) (pc' := 34) rfl (hb hby d1_18) rfl (feq hc18_3).2 (by decide) (by decide) ?_
        exact k
      refine GoesH.run X0 hx hown hci hcl hby (L := [(34, .lload_n 2, 1), (35, .bipush 8, 2), (37, .iload_n 1, 1), (38, .imul, 1), (39, .lushr, 1), (40, .ldc2_w 45, 3)]) (by decide +kernel) rfl (g' := (mkF m 43 #[iv x0, iv (6 : Int32), jv x2, .second] [(.long (255 : Int64)), (.long ((x2.toUInt64 >>> ((48 : Int32) &&& 0x3f).toInt64.toUInt64).toInt64))])) rfl ?_
      refine GoesH.run X0 hx hown hci hcl hby (L := [(43, .land, 1), (44, .l2i, 1), (45, .i2c, 1)]) (by decide +kernel) rfl (g' := (mkF m 46 #[iv x0, iv (6 : Int32), jv x2, .second] [(.int (((((x2.toUInt64 >>> ((48 : Int32) &&& 0x3f).toInt64.toUInt64).toInt64) &&& (255 : Int64)).toInt32).toUInt32.toUInt16.toUInt32.toInt32))])) rfl ?_
      exact GoesH.retB X0 Sn0 (by rw [e0]; exact hk0) (by rw [e0]; exact CH0) hZ hEL hx hlk (t := .char) Bd.returns (by simp) (hb hby d1_46) (own_narc _) ⟨(congrArg (fun z => some (Value.int z)) (show (rA6 x0 x2) = (((((x2.toUInt64 >>> ((48 : Int32) &&& 0x3f).toInt64.toUInt64).toInt64) &&& (255 : Int64)).toInt32).toUInt32.toUInt16.toUInt32.toInt32) from ((if_pos hc1_1).trans (if_neg hc18_3))).symm), N0, (by rw [e0]; exact K0)⟩ (by decide) (by decide)
  · skip
    refine GoesH.st (B := s₁.setTop (mkF m 16 #[iv x0, iv (6 : Int32), jv x2, .second] [])) (fun t k => ?_) ?_
    · refine XS.ifYes X0.here hx rfl (pc0 := 1) (pc' := 16) rfl (hb hby d1_1) rfl ((if0 _ _).trans (feq hc1_1).2) (by decide) (by decide) ?_
      exact k
    refine GoesH.run X0 hx hown hci hcl hby (L := [(16, .iload_n 0, 1), (17, .iconst 1, 1)]) (by decide +kernel) rfl (g' := (mkF m 18 #[iv x0, iv (6 : Int32), jv x2, .second] [(.int (1 : Int32)), (.int x0)])) rfl ?_
    by_cases hc18_7 : x0 = (1 : Int32)
    · skip
      refine GoesH.st (B := s₁.setTop (mkF m 21 #[iv x0, iv (6 : Int32), jv x2, .second] [])) (fun t k => ?_) ?_
      · refine XS.icmpNo X0.here hx rfl (hb hby d1_18) rfl (teq hc18_7).2 ?_
        exact k
      refine GoesH.run X0 hx hown hci hcl hby (L := [(21, .iload_n 1, 1), (22, .bipush 7, 2)]) (by decide +kernel) rfl (g' := (mkF m 24 #[iv x0, iv (6 : Int32), jv x2, .second] [(.int (7 : Int32)), (.int (6 : Int32))])) rfl ?_
      have hc24_8 : (6 : Int32) < (7 : Int32) := by decide
      refine GoesH.st (B := s₁.setTop (mkF m 27 #[iv x0, iv (6 : Int32), jv x2, .second] [])) (fun t k => ?_) ?_
      · refine XS.icmpNo X0.here hx rfl (hb hby d1_24) rfl (tlt hc24_8).2.1 ?_
        exact k
      obtain ⟨sa9, T9, h9, kk9, sb9, kb9, X9, e9, E9, Sn9, hk9, hZ, hown, A9, C9, D9, V9, -, -, CHq9, lt9, nsf9, st9⟩ := ldcCH X0 hx hZ hown w_106 (own_wS hw) e0 Sn0 hk0 hEL (by decide : ("com/example/upcaster/upcaster/io/CodecNamedPinLaw", 43) ∈ consts_1) CH0.1 (vs := ((([100, 101, 102, 108, 97, 116, 101] : List Int32).map (fun c => c.toInt8.toInt32)).map Value.int)) (z := (7 : Int32)) ⟨by decide, by decide⟩ (by decide) (by decide) (g := (mkF m 27 #[iv x0, iv (6 : Int32), jv x2, .second] [])) rfl (hb hby d1_27) (n := 28) (by decide) (by decide) (by decide) (by decide)
      have Zn9 : n0 ≤ h9.size := Nat.le_trans Z0 E9.1
      have K9 := K0.ext E9
      have Od9 := O0.ext E9
      have hk9e := Nat.le_trans hk0 E9.1
      have CH9 := CH0.trans CHq9
      have hci : ∀ i v, (i, v) ∈ ([] : List (Nat × Int32)) → (Jvm.Cond.constant "com/example/upcaster/upcaster/io/CodecNamedPinLaw" i v).before #[(.int x0), (.int (6 : Int32)), (.long x2)] (s.setVm T9.vm) = true := own_ci0
      have hcl : ∀ i v, (i, v) ∈ ([(45, 255)] : List (Nat × Int64)) → (Jvm.Cond.constantLong "com/example/upcaster/upcaster/io/CodecNamedPinLaw" i v).before #[(.int x0), (.int (6 : Int32)), (.long x2)] (s.setVm T9.vm) = true := (own_ciS (mvT hZ w_38) own_ci0)
      have E_sa9 : Exa Z h9 sa9 "java/lang/String" := A9
      have F_coder_sa9 : Fld Z h9 sa9 "java/lang/String" "coder" "B" (.int (0 : Int32)) := C9
      have F_value_sa9 : Fld Z h9 sa9 "java/lang/String" "value" "[B" (.ref sb9) := D9
      have V_sb9 : Arv Z h9 sb9 kb9 .byte (7 : Int32) ((([100, 101, 102, 108, 97, 116, 101] : List Int32).map (fun c => c.toInt8.toInt32)).map Value.int) (.int (0 : Int32)) := V9
      refine GoesH.st (B := T9.setTop (mkF m 29 #[iv x0, iv (6 : Int32), jv x2, .second] [(.ref sa9)])) st9 ?_
      refine GoesH.run X9 hx hown hci hcl hby (L := [(29, .iload_n 1, 1)]) (by decide +kernel) rfl (g' := (mkF m 30 #[iv x0, iv (6 : Int32), jv x2, .second] [(.int (6 : Int32)), (.ref sa9)])) rfl ?_
      have hcd_sa9 : StrChars.Road.CodA ([100, 101, 102, 108, 97, 116, 101] : List Int32) 0 (7 : Int32) ((([100, 101, 102, 108, 97, 116, 101] : List Int32).map (fun c => c.toInt8.toInt32)).map Value.int) := StrChars.Road.codOf (n := 7) rfl (fun c hc => ((by decide : ∀ c ∈ ([100, 101, 102, 108, 97, 116, 101] : List Int32), ¬ c < 0 ∧ ¬ (255 : Int32) < c) c hc).2)
      have hbd_sa9 := own_up (by decide : ∀ c ∈ ([100, 101, 102, 108, 97, 116, 101] : List Int32), ¬ c < 0 ∧ ¬ (255 : Int32) < c)
      obtain ⟨cq10, kq10, q10a, q10b, q10c⟩ := isOf hZ e9 E_sa9
      obtain ⟨_, _, ⟨T10, L10, k10, n10⟩, -, X10, ⟨Lc10, hQ10, l10, y10, z10⟩, st10⟩ := X9.virtualBack hx (y := ym0) (z := ym0) hown (mvT hZ w_13) (mvT hZ w_14) (notFace_of_selects (args := #[]) (mvT hZ w_16)) (mvT hZ w_16) (mvT hZ w_15) (by decide) (StrChars.Road.chN (W := 0) hZ (own_hch hw) (kI := 4) w_7 E_sa9 F_value_sa9 F_coder_sa9 V_sb9 hcd_sa9 hbd_sa9 (O2.ext Od9.2) P5 (O4.ext Od9.2) rG3 (Nat.le_of_ble_eq_true rfl) (i := 6) (Nat.le_of_ble_eq_true rfl) (j := (6 : Int32)) rfl (by decide) (by decide)) q10a q10c (g := (mkF m 30 #[iv x0, iv (6 : Int32), jv x2, .second] [(.int (6 : Int32)), (.ref sa9)])) rfl (by rw [hml]; rfl) (Steps.refl _) (argsL := [(.int (6 : Int32))]) (rest := []) (lenOf pdA6_0 rfl) rfl (by show 2 * 0 + _ ≤ _; exact Nat.le_of_eq rfl) (hb hby d1_30) (fun _ _ => ⟨rfl, e9, (by decide : 2 + 0 ≤ _), (by decide : 32 + 0 ≤ _)⟩)
      dsimp only [Pt.U, Pt.locs, Pt.cells, Pt.slots] at X10 l10 y10 z10 st10 hQ10
      subst l10 y10 z10
      rw [show ([100, 101, 102, 108, 97, 116, 101] : List Int32).getD 6 0 = (101 : Int32) from rfl] at hQ10
      obtain ⟨rfl, rfl, e10⟩ := hQ10
      have N10 := Fr.app N0 (Fr.nil n0)
      refine GoesH.st (B := T10.setTop (mkF m 33 #[iv x0, iv (6 : Int32), jv x2, .second] [(.int (101 : Int32))])) (fun t k => st10.trans k) ?_
      exact GoesH.retB X10 Sn9 (by rw [e10]; exact hk9) (by rw [e10]; exact CH9) hZ hEL hx hlk (t := .char) Bd.returns (by simp) (hb hby d1_33) rfl ⟨(congrArg (fun z => some (Value.int z)) (show (rA6 x0 x2) = (101 : Int32) from ((if_neg hc1_1).trans (if_pos hc18_7))).symm), N10, (by rw [e10]; exact K9)⟩ (by decide) (by decide)
    · skip
      refine GoesH.st (B := s₁.setTop (mkF m 34 #[iv x0, iv (6 : Int32), jv x2, .second] [])) (fun t k => ?_) ?_
      · refine XS.icmpYes X0.here hx rfl (pc0 := 18) (pc' := 34) rfl (hb hby d1_18) rfl (feq hc18_7).2 (by decide) (by decide) ?_
        exact k
      refine GoesH.run X0 hx hown hci hcl hby (L := [(34, .lload_n 2, 1), (35, .bipush 8, 2), (37, .iload_n 1, 1), (38, .imul, 1), (39, .lushr, 1), (40, .ldc2_w 45, 3)]) (by decide +kernel) rfl (g' := (mkF m 43 #[iv x0, iv (6 : Int32), jv x2, .second] [(.long (255 : Int64)), (.long ((x2.toUInt64 >>> ((48 : Int32) &&& 0x3f).toInt64.toUInt64).toInt64))])) rfl ?_
      refine GoesH.run X0 hx hown hci hcl hby (L := [(43, .land, 1), (44, .l2i, 1), (45, .i2c, 1)]) (by decide +kernel) rfl (g' := (mkF m 46 #[iv x0, iv (6 : Int32), jv x2, .second] [(.int (((((x2.toUInt64 >>> ((48 : Int32) &&& 0x3f).toInt64.toUInt64).toInt64) &&& (255 : Int64)).toInt32).toUInt32.toUInt16.toUInt32.toInt32))])) rfl ?_
      exact GoesH.retB X0 Sn0 (by rw [e0]; exact hk0) (by rw [e0]; exact CH0) hZ hEL hx hlk (t := .char) Bd.returns (by simp) (hb hby d1_46) (own_narc _) ⟨(congrArg (fun z => some (Value.int z)) (show (rA6 x0 x2) = (((((x2.toUInt64 >>> ((48 : Int32) &&& 0x3f).toInt64.toUInt64).toInt64) &&& (255 : Int64)).toInt32).toUInt32.toUInt16.toUInt32.toInt32) from ((if_neg hc1_1).trans (if_neg hc18_7))).symm), N0, (by rw [e0]; exact K0)⟩ (by decide) (by decide)
theorem pnA7 : plainName "com/example/upcaster/upcaster/io/CodecNamedPinLaw" = true := by first | (simp [plainName, overriddenIn]; done) | decide +kernel
theorem efA7 (m : MethodId) (x0 : Int32) (x2 : Int64) : entryFrame m #[(.int x0), (.int (7 : Int32)), (.long x2)] 4 = (mkF m 0 #[iv x0, iv (7 : Int32), jv x2, .second] []) := by first | (simp [entryFrame, mkF, argsToLocals, Value.category]; done) | rfl
def rA7 (x0 : Int32) (x2 : Int64) : Int32 := (if x0 = (0 : Int32) then (if x0 = (1 : Int32) then (((((x2.toUInt64 >>> ((56 : Int32) &&& 0x3f).toInt64.toUInt64).toInt64) &&& (255 : Int64)).toInt32).toUInt32.toUInt16.toUInt32.toInt32) else (((((x2.toUInt64 >>> ((56 : Int32) &&& 0x3f).toInt64.toUInt64).toInt64) &&& (255 : Int64)).toInt32).toUInt32.toUInt16.toUInt32.toInt32)) else (if x0 = (1 : Int32) then (((((x2.toUInt64 >>> ((56 : Int32) &&& 0x3f).toInt64.toUInt64).toInt64) &&& (255 : Int64)).toInt32).toUInt32.toUInt16.toUInt32.toInt32) else (((((x2.toUInt64 >>> ((56 : Int32) &&& 0x3f).toInt64.toUInt64).toInt64) &&& (255 : Int64)).toInt32).toUInt32.toUInt16.toUInt32.toInt32)))
set_option maxRecDepth 65536 in
set_option maxHeartbeats 40000000 in
theorem rmA7 (l : Launch) (Z : State) (a0 : Array Value) (hw : ∀ d ∈ tables_1, d.before a0 Z = true) (ws : List Jvm.Cond) (x0 : Int32) (x2 : Int64) (h0 : Heap) (n0 : Nat) (Z0 : n0 ≤ h0.size) :
    MetFree l ym1 (head1 (Jvm.Cond.code ym1 method_3_code 4 (some .char) :: ws) ({ frames := 0, cells := 0, slots := 0, locals := 0 } : Room)) (fun a U => a = #[(.int x0), (.int (7 : Int32)), (.long x2)] ∧ Z.Warmed39 U.vm ∧ U.heap = h0) (fun _ _ _ _ _ => True) (fun _ U o U' => ∃ v L, o = .returned v ∧ (QP (some (.int (rA7 x0 x2))) h0 n0) v U'.heap L ∧ FrameEnd U o U' L ({ frames := 0, cells := 0, slots := 0, locals := 0 } : Room).cells ({ frames := 0, cells := 0, slots := 0, locals := 0 } : Room).slots) := by
  refine MetFree.of_bodySF (plainFor_of_name pnA7) hisR ?_
  intro p e s m args below meth c s₁ Bd hml0 hP hK
  obtain ⟨rfl, hZ, hh⟩ := hP
  have hx := Bd.exec
  have hby := Bd.bytes
  have hml : c.maxLocals = 4 := hml0
  have hlk : meth.locks = false := BodyLoose.notSynchronized Bd
  have hown : s.vm.findClass "com/example/upcaster/upcaster/io/CodecNamedPinLaw" = some m.cls := findClass_of_methodNamed Bd.named
  have hnm := (name_of_methodNamed Bd.named Bd.method).1
  have w_38 := hw _ (List.mem_of_getElem? (i := 38) rfl)
  have hci : ∀ i v, (i, v) ∈ ([] : List (Nat × Int32)) → (Jvm.Cond.constant "com/example/upcaster/upcaster/io/CodecNamedPinLaw" i v).before #[(.int x0), (.int (7 : Int32)), (.long x2)] s = true := own_ci0
  have hcl : ∀ i v, (i, v) ∈ ([(45, 255)] : List (Nat × Int64)) → (Jvm.Cond.constantLong "com/example/upcaster/upcaster/io/CodecNamedPinLaw" i v).before #[(.int x0), (.int (7 : Int32)), (.long x2)] s = true := (own_ciS (mvT hZ w_38) own_ci0)
  have X0 : Stand p l e ({ frames := 0, cells := 0, slots := 0, locals := 0 } : Room) s m #[(.int x0), (.int (7 : Int32)), (.long x2)] below meth c s₁ [] 0 0 := Stand.of_body Bd
  have e0 : s₁.heap = h0 := by rw [← hh, Bd.state]; rfl
  have N0 := Fr.nil n0
  show Goes p e below s (QP (some (.int (rA7 x0 x2))) h0 n0) ({ frames := 0, cells := 0, slots := 0, locals := 0 } : Room).cells ({ frames := 0, cells := 0, slots := 0, locals := 0 } : Room).slots (s₁.setTop (entryFrame m #[(.int x0), (.int (7 : Int32)), (.long x2)] 4))
  refine Goes.cast (efA7 m x0 x2) ?_
  refine Goes.run X0 hx hown hci hcl hby (L := [(0, .iload_n 0, 1)]) (by decide +kernel) rfl (g' := (mkF m 1 #[iv x0, iv (7 : Int32), jv x2, .second] [(.int x0)])) rfl ?_
  by_cases hc1_1 : x0 = (0 : Int32)
  · skip
    refine Goes.st (B := s₁.setTop (mkF m 4 #[iv x0, iv (7 : Int32), jv x2, .second] [])) (fun t k => ?_) ?_
    · refine XS.ifNo X0.here hx rfl (hb hby d1_1) rfl ((if0 _ _).trans (teq hc1_1).2) ?_
      exact k
    refine Goes.run X0 hx hown hci hcl hby (L := [(4, .iload_n 1, 1), (5, .iconst 4, 1)]) (by decide +kernel) rfl (g' := (mkF m 6 #[iv x0, iv (7 : Int32), jv x2, .second] [(.int (4 : Int32)), (.int (7 : Int32))])) rfl ?_
    have hc6_2 : ¬ ((7 : Int32) < (4 : Int32)) := by decide
    refine Goes.st (B := s₁.setTop (mkF m 16 #[iv x0, iv (7 : Int32), jv x2, .second] [])) (fun t k => ?_) ?_
    · refine XS.icmpYes X0.here hx rfl (pc0 := 6) (pc' := 16) rfl (hb hby d1_6) rfl (flt hc6_2).2.1 (by decide) (by decide) ?_
      exact k
    refine Goes.run X0 hx hown hci hcl hby (L := [(16, .iload_n 0, 1), (17, .iconst 1, 1)]) (by decide +kernel) rfl (g' := (mkF m 18 #[iv x0, iv (7 : Int32), jv x2, .second] [(.int (1 : Int32)), (.int x0)])) rfl ?_
    by_cases hc18_3 : x0 = (1 : Int32)
    · skip
      refine Goes.st (B := s₁.setTop (mkF m 21 #[iv x0, iv (7 : Int32), jv x2, .second] [])) (fun t k => ?_) ?_
      · refine XS.icmpNo X0.here hx rfl (hb hby d1_18) rfl (teq hc18_3).2 ?_
        exact k
      refine Goes.run X0 hx hown hci hcl hby (L := [(21, .iload_n 1, 1), (22, .bipush 7, 2)]) (by decide +kernel) rfl (g' := (mkF m 24 #[iv x0, iv (7 : Int32), jv x2, .second] [(.int (7 : Int32)), (.int (7 : Int32))])) rfl ?_
      have hc24_4 : ¬ ((7 : Int32) < (7 : Int32)) := Int32.lt_irrefl
      refine Goes.st (B := s₁.setTop (mkF m 34 #[iv x0, iv (7 : Int32), jv x2, .second] [])) (fun t k => ?_) ?_
      · refine XS.icmpYes X0.here hx rfl (pc0 := 24) (pc' := 34) rfl (hb hby d1_24) rfl (flt hc24_4).2.1 (by decide) (by decide) ?_
        exact k
      refine Goes.run X0 hx hown hci hcl hby (L := [(34, .lload_n 2, 1), (35, .bipush 8, 2), (37, .iload_n 1, 1), (38, .imul, 1), (39, .lushr, 1), (40, .ldc2_w 45, 3)]) (by decide +kernel) rfl (g' := (mkF m 43 #[iv x0, iv (7 : Int32), jv x2, .second] [(.long (255 : Int64)), (.long ((x2.toUInt64 >>> ((56 : Int32) &&& 0x3f).toInt64.toUInt64).toInt64))])) rfl ?_
      refine Goes.run X0 hx hown hci hcl hby (L := [(43, .land, 1), (44, .l2i, 1), (45, .i2c, 1)]) (by decide +kernel) rfl (g' := (mkF m 46 #[iv x0, iv (7 : Int32), jv x2, .second] [(.int (((((x2.toUInt64 >>> ((56 : Int32) &&& 0x3f).toInt64.toUInt64).toInt64) &&& (255 : Int64)).toInt32).toUInt32.toUInt16.toUInt32.toInt32))])) rfl ?_
      exact Goes.retB X0 hx hlk (t := .char) Bd.returns (by simp) (hb hby d1_46) (own_narc _) ⟨(congrArg (fun z => some (Value.int z)) (show (rA7 x0 x2) = (((((x2.toUInt64 >>> ((56 : Int32) &&& 0x3f).toInt64.toUInt64).toInt64) &&& (255 : Int64)).toInt32).toUInt32.toUInt16.toUInt32.toInt32) from ((if_pos hc1_1).trans (if_pos hc18_3))).symm), N0, e0⟩ (by decide) (by decide)
    · skip
      refine Goes.st (B := s₁.setTop (mkF m 34 #[iv x0, iv (7 : Int32), jv x2, .second] [])) (fun t k => ?_) ?_
      · refine XS.icmpYes X0.here hx rfl (pc0 := 18) (pc' := 34) rfl (hb hby d1_18) rfl (feq hc18_3).2 (by decide) (by decide) ?_
        exact k
      refine Goes.run X0 hx hown hci hcl hby (L := [(34, .lload_n 2, 1), (35, .bipush 8, 2), (37, .iload_n 1, 1), (38, .imul, 1), (39, .lushr, 1), (40, .ldc2_w 45, 3)]) (by decide +kernel) rfl (g' := (mkF m 43 #[iv x0, iv (7 : Int32), jv x2, .second] [(.long (255 : Int64)), (.long ((x2.toUInt64 >>> ((56 : Int32) &&& 0x3f).toInt64.toUInt64).toInt64))])) rfl ?_
      refine Goes.run X0 hx hown hci hcl hby (L := [(43, .land, 1), (44, .l2i, 1), (45, .i2c, 1)]) (by decide +kernel) rfl (g' := (mkF m 46 #[iv x0, iv (7 : Int32), jv x2, .second] [(.int (((((x2.toUInt64 >>> ((56 : Int32) &&& 0x3f).toInt64.toUInt64).toInt64) &&& (255 : Int64)).toInt32).toUInt32.toUInt16.toUInt32.toInt32))])) rfl ?_
      exact Goes.retB X0 hx hlk (t := .char) Bd.returns (by simp) (hb hby d1_46) (own_narc _) ⟨(congrArg (fun z => some (Value.int z)) (show (rA7 x0 x2) = (((((x2.toUInt64 >>> ((56 : Int32) &&& 0x3f).toInt64.toUInt64).toInt64) &&& (255 : Int64)).toInt32).toUInt32.toUInt16.toUInt32.toInt32) from ((if_pos hc1_1).trans (if_neg hc18_3))).symm), N0, e0⟩ (by decide) (by decide)
  · skip
    refine Goes.st (B := s₁.setTop (mkF m 16 #[iv x0, iv (7 : Int32), jv x2, .second] [])) (fun t k => ?_) ?_
    · refine XS.ifYes X0.here hx rfl (pc0 := 1) (pc' := 16) rfl (hb hby d1_1) rfl ((if0 _ _).trans (feq hc1_1).2) (by decide) (by decide) ?_
      exact k
    refine Goes.run X0 hx hown hci hcl hby (L := [(16, .iload_n 0, 1), (17, .iconst 1, 1)]) (by decide +kernel) rfl (g' := (mkF m 18 #[iv x0, iv (7 : Int32), jv x2, .second] [(.int (1 : Int32)), (.int x0)])) rfl ?_
    by_cases hc18_5 : x0 = (1 : Int32)
    · skip
      refine Goes.st (B := s₁.setTop (mkF m 21 #[iv x0, iv (7 : Int32), jv x2, .second] [])) (fun t k => ?_) ?_
      · refine XS.icmpNo X0.here hx rfl (hb hby d1_18) rfl (teq hc18_5).2 ?_
        exact k
      refine Goes.run X0 hx hown hci hcl hby (L := [(21, .iload_n 1, 1), (22, .bipush 7, 2)]) (by decide +kernel) rfl (g' := (mkF m 24 #[iv x0, iv (7 : Int32), jv x2, .second] [(.int (7 : Int32)), (.int (7 : Int32))])) rfl ?_
      have hc24_6 : ¬ ((7 : Int32) < (7 : Int32)) := Int32.lt_irrefl
      refine Goes.st (B := s₁.setTop (mkF m 34 #[iv x0, iv (7 : Int32), jv x2, .second] [])) (fun t k => ?_) ?_
      · refine XS.icmpYes X0.here hx rfl (pc0 := 24) (pc' := 34) rfl (hb hby d1_24) rfl (flt hc24_6).2.1 (by decide) (by decide) ?_
        exact k
      refine Goes.run X0 hx hown hci hcl hby (L := [(34, .lload_n 2, 1), (35, .bipush 8, 2), (37, .iload_n 1, 1), (38, .imul, 1), (39, .lushr, 1), (40, .ldc2_w 45, 3)]) (by decide +kernel) rfl (g' := (mkF m 43 #[iv x0, iv (7 : Int32), jv x2, .second] [(.long (255 : Int64)), (.long ((x2.toUInt64 >>> ((56 : Int32) &&& 0x3f).toInt64.toUInt64).toInt64))])) rfl ?_
      refine Goes.run X0 hx hown hci hcl hby (L := [(43, .land, 1), (44, .l2i, 1), (45, .i2c, 1)]) (by decide +kernel) rfl (g' := (mkF m 46 #[iv x0, iv (7 : Int32), jv x2, .second] [(.int (((((x2.toUInt64 >>> ((56 : Int32) &&& 0x3f).toInt64.toUInt64).toInt64) &&& (255 : Int64)).toInt32).toUInt32.toUInt16.toUInt32.toInt32))])) rfl ?_
      exact Goes.retB X0 hx hlk (t := .char) Bd.returns (by simp) (hb hby d1_46) (own_narc _) ⟨(congrArg (fun z => some (Value.int z)) (show (rA7 x0 x2) = (((((x2.toUInt64 >>> ((56 : Int32) &&& 0x3f).toInt64.toUInt64).toInt64) &&& (255 : Int64)).toInt32).toUInt32.toUInt16.toUInt32.toInt32) from ((if_neg hc1_1).trans (if_pos hc18_5))).symm), N0, e0⟩ (by decide) (by decide)
    · skip
      refine Goes.st (B := s₁.setTop (mkF m 34 #[iv x0, iv (7 : Int32), jv x2, .second] [])) (fun t k => ?_) ?_
      · refine XS.icmpYes X0.here hx rfl (pc0 := 18) (pc' := 34) rfl (hb hby d1_18) rfl (feq hc18_5).2 (by decide) (by decide) ?_
        exact k
      refine Goes.run X0 hx hown hci hcl hby (L := [(34, .lload_n 2, 1), (35, .bipush 8, 2), (37, .iload_n 1, 1), (38, .imul, 1), (39, .lushr, 1), (40, .ldc2_w 45, 3)]) (by decide +kernel) rfl (g' := (mkF m 43 #[iv x0, iv (7 : Int32), jv x2, .second] [(.long (255 : Int64)), (.long ((x2.toUInt64 >>> ((56 : Int32) &&& 0x3f).toInt64.toUInt64).toInt64))])) rfl ?_
      refine Goes.run X0 hx hown hci hcl hby (L := [(43, .land, 1), (44, .l2i, 1), (45, .i2c, 1)]) (by decide +kernel) rfl (g' := (mkF m 46 #[iv x0, iv (7 : Int32), jv x2, .second] [(.int (((((x2.toUInt64 >>> ((56 : Int32) &&& 0x3f).toInt64.toUInt64).toInt64) &&& (255 : Int64)).toInt32).toUInt32.toUInt16.toUInt32.toInt32))])) rfl ?_
      exact Goes.retB X0 hx hlk (t := .char) Bd.returns (by simp) (hb hby d1_46) (own_narc _) ⟨(congrArg (fun z => some (Value.int z)) (show (rA7 x0 x2) = (((((x2.toUInt64 >>> ((56 : Int32) &&& 0x3f).toInt64.toUInt64).toInt64) &&& (255 : Int64)).toInt32).toUInt32.toUInt16.toUInt32.toInt32) from ((if_neg hc1_1).trans (if_neg hc18_5))).symm), N0, e0⟩ (by decide) (by decide)
theorem d2_2 : decode jdk_29_method_65_code 2 = .ok (.if_icmp .lt 7, 3) := by decide +kernel
theorem d2_10 : decode jdk_29_method_65_code 10 = .ok (.ireturn, 1) := by decide +kernel
theorem efB (m : MethodId) (x0 : Int32) (x1 : Int32) : entryFrame m #[(.int x0), (.int x1)] 2 = (mkF m 0 #[iv x0, iv x1] []) := by first | (simp [entryFrame, mkF, argsToLocals, Value.category]; done) | rfl
def rB (x0 : Int32) (x1 : Int32) : Int32 := (if x0 < x1 then x1 else x0)
set_option maxRecDepth 65536 in
set_option maxHeartbeats 40000000 in
theorem rmB (l : Launch) (Z : State) (a0 : Array Value) (hw : ∀ d ∈ tables_1, d.before a0 Z = true) (ws : List Jvm.Cond) (x0 : Int32) (x1 : Int32) (h0 : Heap) (n0 : Nat) (Z0 : n0 ≤ h0.size) :
    MetFree l ym2 (head1 (Jvm.Cond.code ym2 jdk_29_method_65_code 2 (some .int) :: ws) ({ frames := 0, cells := 0, slots := 0, locals := 0 } : Room)) (fun a U => a = #[(.int x0), (.int x1)] ∧ Z.Warmed39 U.vm ∧ U.heap = h0) (fun _ _ _ _ _ => True) (fun _ U o U' => ∃ v L, o = .returned v ∧ (QP (some (.int (rB x0 x1))) h0 n0) v U'.heap L ∧ FrameEnd U o U' L ({ frames := 0, cells := 0, slots := 0, locals := 0 } : Room).cells ({ frames := 0, cells := 0, slots := 0, locals := 0 } : Room).slots) := by
  refine MetFree.of_bodySF (Jvm.Free.JP.mathPlain rfl (by decide +kernel)) hisR ?_
  intro p e s m args below meth c s₁ Bd hml0 hP hK
  obtain ⟨rfl, hZ, hh⟩ := hP
  have hx := Bd.exec
  have hby := Bd.bytes
  have hml : c.maxLocals = 2 := hml0
  have hlk : meth.locks = false := BodyLoose.notSynchronized Bd
  have hown : s.vm.findClass "java/lang/Math" = some m.cls := findClass_of_methodNamed Bd.named
  have hnm := (name_of_methodNamed Bd.named Bd.method).1
  have hci : ∀ i v, (i, v) ∈ ([] : List (Nat × Int32)) → (Jvm.Cond.constant "java/lang/Math" i v).before #[(.int x0), (.int x1)] s = true := own_ci0
  have hcl : ∀ i v, (i, v) ∈ ([] : List (Nat × Int64)) → (Jvm.Cond.constantLong "java/lang/Math" i v).before #[(.int x0), (.int x1)] s = true := own_ci0
  have X0 : Stand p l e ({ frames := 0, cells := 0, slots := 0, locals := 0 } : Room) s m #[(.int x0), (.int x1)] below meth c s₁ [] 0 0 := Stand.of_body Bd
  have e0 : s₁.heap = h0 := by rw [← hh, Bd.state]; rfl
  have N0 := Fr.nil n0
  show Goes p e below s (QP (some (.int (rB x0 x1))) h0 n0) ({ frames := 0, cells := 0, slots := 0, locals := 0 } : Room).cells ({ frames := 0, cells := 0, slots := 0, locals := 0 } : Room).slots (s₁.setTop (entryFrame m #[(.int x0), (.int x1)] 2))
  refine Goes.cast (efB m x0 x1) ?_
  refine Goes.run X0 hx hown hci hcl hby (L := [(0, .iload_n 0, 1), (1, .iload_n 1, 1)]) (by decide +kernel) rfl (g' := (mkF m 2 #[iv x0, iv x1] [(.int x1), (.int x0)])) rfl ?_
  by_cases hc2_1 : x0 < x1
  · skip
    refine Goes.st (B := s₁.setTop (mkF m 9 #[iv x0, iv x1] [])) (fun t k => ?_) ?_
    · refine XS.icmpYes X0.here hx rfl (pc0 := 2) (pc' := 9) rfl (hb hby d2_2) rfl (tlt hc2_1).1 (by decide) (by decide) ?_
      exact k
    refine Goes.run X0 hx hown hci hcl hby (L := [(9, .iload_n 1, 1)]) (by decide +kernel) rfl (g' := (mkF m 10 #[iv x0, iv x1] [(.int x1)])) rfl ?_
    exact Goes.retI X0 hx hlk Bd.returns (hb hby d2_10) ⟨(congrArg (fun z => some (Value.int z)) (show (rB x0 x1) = x1 from (if_pos hc2_1)).symm), N0, e0⟩ (by decide) (by decide)
  · skip
    refine Goes.st (B := s₁.setTop (mkF m 5 #[iv x0, iv x1] [])) (fun t k => ?_) ?_
    · refine XS.icmpNo X0.here hx rfl (hb hby d2_2) rfl (flt hc2_1).1 ?_
      exact k
    refine Goes.run X0 hx hown hci hcl hby (L := [(5, .iload_n 0, 1), (6, .goto 4, 3)]) (by decide +kernel) rfl (g' := (mkF m 10 #[iv x0, iv x1] [(.int x0)])) rfl ?_
    exact Goes.retI X0 hx hlk Bd.returns (hb hby d2_10) ⟨(congrArg (fun z => some (Value.int z)) (show (rB x0 x1) = x0 from (if_neg hc2_1)).symm), N0, e0⟩ (by decide) (by decide)
theorem d3_2 : decode jdk_29_method_69_code 2 = .ok (.if_icmp .gt 7, 3) := by decide +kernel
theorem d3_10 : decode jdk_29_method_69_code 10 = .ok (.ireturn, 1) := by decide +kernel
theorem efC (m : MethodId) (x0 : Int32) (x1 : Int32) : entryFrame m #[(.int x0), (.int x1)] 2 = (mkF m 0 #[iv x0, iv x1] []) := by first | (simp [entryFrame, mkF, argsToLocals, Value.category]; done) | rfl
def rC (x0 : Int32) (x1 : Int32) : Int32 := (if x1 < x0 then x1 else x0)
set_option maxRecDepth 65536 in
set_option maxHeartbeats 40000000 in
theorem rmC (l : Launch) (Z : State) (a0 : Array Value) (hw : ∀ d ∈ tables_1, d.before a0 Z = true) (ws : List Jvm.Cond) (x0 : Int32) (x1 : Int32) (h0 : Heap) (n0 : Nat) (Z0 : n0 ≤ h0.size) :
    MetFree l ym3 (head1 (Jvm.Cond.code ym3 jdk_29_method_69_code 2 (some .int) :: ws) ({ frames := 0, cells := 0, slots := 0, locals := 0 } : Room)) (fun a U => a = #[(.int x0), (.int x1)] ∧ Z.Warmed39 U.vm ∧ U.heap = h0) (fun _ _ _ _ _ => True) (fun _ U o U' => ∃ v L, o = .returned v ∧ (QP (some (.int (rC x0 x1))) h0 n0) v U'.heap L ∧ FrameEnd U o U' L ({ frames := 0, cells := 0, slots := 0, locals := 0 } : Room).cells ({ frames := 0, cells := 0, slots := 0, locals := 0 } : Room).slots) := by
  refine MetFree.of_bodySF (Jvm.Free.JP.mathPlain rfl (by decide +kernel)) hisR ?_
  intro p e s m args below meth c s₁ Bd hml0 hP hK
  obtain ⟨rfl, hZ, hh⟩ := hP
  have hx := Bd.exec
  have hby := Bd.bytes
  have hml : c.maxLocals = 2 := hml0
  have hlk : meth.locks = false := BodyLoose.notSynchronized Bd
  have hown : s.vm.findClass "java/lang/Math" = some m.cls := findClass_of_methodNamed Bd.named
  have hnm := (name_of_methodNamed Bd.named Bd.method).1
  have hci : ∀ i v, (i, v) ∈ ([] : List (Nat × Int32)) → (Jvm.Cond.constant "java/lang/Math" i v).before #[(.int x0), (.int x1)] s = true := own_ci0
  have hcl : ∀ i v, (i, v) ∈ ([] : List (Nat × Int64)) → (Jvm.Cond.constantLong "java/lang/Math" i v).before #[(.int x0), (.int x1)] s = true := own_ci0
  have X0 : Stand p l e ({ frames := 0, cells := 0, slots := 0, locals := 0 } : Room) s m #[(.int x0), (.int x1)] below meth c s₁ [] 0 0 := Stand.of_body Bd
  have e0 : s₁.heap = h0 := by rw [← hh, Bd.state]; rfl
  have N0 := Fr.nil n0
  show Goes p e below s (QP (some (.int (rC x0 x1))) h0 n0) ({ frames := 0, cells := 0, slots := 0, locals := 0 } : Room).cells ({ frames := 0, cells := 0, slots := 0, locals := 0 } : Room).slots (s₁.setTop (entryFrame m #[(.int x0), (.int x1)] 2))
  refine Goes.cast (efC m x0 x1) ?_
  refine Goes.run X0 hx hown hci hcl hby (L := [(0, .iload_n 0, 1), (1, .iload_n 1, 1)]) (by decide +kernel) rfl (g' := (mkF m 2 #[iv x0, iv x1] [(.int x1), (.int x0)])) rfl ?_
  by_cases hc2_1 : x1 < x0
  · skip
    refine Goes.st (B := s₁.setTop (mkF m 9 #[iv x0, iv x1] [])) (fun t k => ?_) ?_
    · refine XS.icmpYes X0.here hx rfl (pc0 := 2) (pc' := 9) rfl (hb hby d3_2) rfl (tlt hc2_1).2.2.1 (by decide) (by decide) ?_
      exact k
    refine Goes.run X0 hx hown hci hcl hby (L := [(9, .iload_n 1, 1)]) (by decide +kernel) rfl (g' := (mkF m 10 #[iv x0, iv x1] [(.int x1)])) rfl ?_
    exact Goes.retI X0 hx hlk Bd.returns (hb hby d3_10) ⟨(congrArg (fun z => some (Value.int z)) (show (rC x0 x1) = x1 from (if_pos hc2_1)).symm), N0, e0⟩ (by decide) (by decide)
  · skip
    refine Goes.st (B := s₁.setTop (mkF m 5 #[iv x0, iv x1] [])) (fun t k => ?_) ?_
    · refine XS.icmpNo X0.here hx rfl (hb hby d3_2) rfl (flt hc2_1).2.2.1 ?_
      exact k
    refine Goes.run X0 hx hown hci hcl hby (L := [(5, .iload_n 0, 1), (6, .goto 4, 3)]) (by decide +kernel) rfl (g' := (mkF m 10 #[iv x0, iv x1] [(.int x0)])) rfl ?_
    exact Goes.retI X0 hx hlk Bd.returns (hb hby d3_10) ⟨(congrArg (fun z => some (Value.int z)) (show (rC x0 x1) = x0 from (if_neg hc2_1)).symm), N0, e0⟩ (by decide) (by decide)
theorem d4_1 : decode jdk_42_method_149_code 1 = .ok (.invokespecial 1, 3) := by decide +kernel
theorem d4_5 : decode jdk_42_method_149_code 5 = .ok (.ifCond .ne 22, 3) := by decide +kernel
theorem d4_9 : decode jdk_42_method_149_code 9 = .ok (.ldc 7, 2) := by decide +kernel
theorem d4_11 : decode jdk_42_method_149_code 11 = .ok (.getfield 9, 3) := by decide +kernel
theorem d4_14 : decode jdk_42_method_149_code 14 = .ok (.putfield 9, 3) := by decide +kernel
theorem d4_18 : decode jdk_42_method_149_code 18 = .ok (.ldc 7, 2) := by decide +kernel
theorem d4_20 : decode jdk_42_method_149_code 20 = .ok (.getfield 15, 3) := by decide +kernel
theorem d4_23 : decode jdk_42_method_149_code 23 = .ok (.putfield 15, 3) := by decide +kernel
theorem d4_26 : decode jdk_42_method_149_code 26 = .ok (.return_, 1) := by decide +kernel
theorem pnD : plainName "java/lang/String" = true := by first | (simp [plainName, overriddenIn]; done) | decide +kernel
theorem efD (m : MethodId) (x0 : Addr) (x1 : Addr) : entryFrame m #[(.ref x0), (.ref x1), (.int (0 : Int32)), (.int (0 : Int32)), .null] 6 = (mkF m 0 #[rv x0, rv x1, iv (0 : Int32), iv (0 : Int32), .val .null, .unset] []) := by first | (simp [entryFrame, mkF, argsToLocals, Value.category]; done) | rfl
def QSI (Z : State) (x0 : Addr) (h0 : Heap) (n0 : Nat) (v : Option Value) (h : Heap) (L : List Loc) : Prop := ∃ (t : Addr) (k : ClassId), v = none ∧ Fr n0 L ∧ Keep h0 h [x0] ∧ Exa Z h x0 "java/lang/String" ∧ Fld Z h x0 "java/lang/String" "coder" "B" (.int (0 : Int32)) ∧ Fld Z h x0 "java/lang/String" "value" "[B" (.ref t) ∧ Arv Z h t k .byte (0 : Int32) ((([] : List Int32).map (fun c => c.toInt8.toInt32)).map Value.int) (.int (0 : Int32))
set_option maxRecDepth 65536 in
set_option maxHeartbeats 40000000 in
theorem rmD (l : Launch) (Z : State) (a0 : Array Value) (hw : ∀ d ∈ tables_1, d.before a0 Z = true) (ws : List Jvm.Cond) (x0 : Addr) (x1 : Addr) (h0 : Heap) (n0 : Nat) (Z0 : n0 ≤ h0.size) (E_x0 : Exa Z h0 x0 "java/lang/String") (F_value_x0 : Fld Z h0 x0 "java/lang/String" "value" "[B" .null) (F_coder_x0 : Fld Z h0 x0 "java/lang/String" "coder" "B" (.int (0 : Int32))) (g_x0 : n0 ≤ x0) :
    MetFree l ym4 (head1 (Jvm.Cond.code ym4 jdk_42_method_149_code 6 none :: ws) ({ frames := 1, cells := 2, slots := 4, locals := 12 } : Room)) (fun a U => a = #[(.ref x0), (.ref x1), (.int (0 : Int32)), (.int (0 : Int32)), .null] ∧ Z.Warmed39 U.vm ∧ U.heap = h0 ∧ CHv Z consts_1 U.vm h0 ∧ ∀ x ∈ ([x0] : List Addr), Safe Z consts_1 U.vm h0 x) (fun _ _ _ _ _ => True) (fun _ U o U' => ∃ v L, o = .returned v ∧ (QSI Z x0 h0 n0) v U'.heap L ∧ CHr Z consts_1 U.vm h0 U'.vm U'.heap ∧ ReturnedEndW U o U' L ({ frames := 1, cells := 2, slots := 4, locals := 12 } : Room).cells ({ frames := 1, cells := 2, slots := 4, locals := 12 } : Room).slots) := by
  refine MetFree.of_bodySF (plainFor_of_name pnD) hisR ?_
  intro p e s m args below meth c s₁ Bd hml0 hP hK
  obtain ⟨rfl, hZ, hh, hCH0, hSF⟩ := hP
  have hx := Bd.exec
  have hby := Bd.bytes
  have hml : c.maxLocals = 6 := hml0
  have hlk : meth.locks = false := BodyLoose.notSynchronized Bd
  have hown : s.vm.findClass "java/lang/String" = some m.cls := findClass_of_methodNamed Bd.named
  have hnm := (name_of_methodNamed Bd.named Bd.method).1
  have w_7 := hw _ (List.mem_of_getElem? (i := 7) rfl)
  have w_9 := hw _ (List.mem_of_getElem? (i := 9) rfl)
  have w_10 := hw _ (List.mem_of_getElem? (i := 10) rfl)
  have w_24 := hw _ (List.mem_of_getElem? (i := 24) rfl)
  have w_25 := hw _ (List.mem_of_getElem? (i := 25) rfl)
  have w_57 := hw _ (List.mem_of_getElem? (i := 57) rfl)
  have w_58 := hw _ (List.mem_of_getElem? (i := 58) rfl)
  have w_59 := hw _ (List.mem_of_getElem? (i := 59) rfl)
  have w_108 := hw _ (List.mem_of_getElem? (i := 108) rfl)
  have hci : ∀ i v, (i, v) ∈ ([] : List (Nat × Int32)) → (Jvm.Cond.constant "java/lang/String" i v).before #[(.ref x0), (.ref x1), (.int (0 : Int32)), (.int (0 : Int32)), .null] s = true := own_ci0
  have hcl : ∀ i v, (i, v) ∈ ([] : List (Nat × Int64)) → (Jvm.Cond.constantLong "java/lang/String" i v).before #[(.ref x0), (.ref x1), (.int (0 : Int32)), (.int (0 : Int32)), .null] s = true := own_ci0
  have X0 : Stand p l e ({ frames := 1, cells := 2, slots := 4, locals := 12 } : Room) s m #[(.ref x0), (.ref x1), (.int (0 : Int32)), (.int (0 : Int32)), .null] below meth c s₁ [] 0 0 := Stand.of_body Bd
  have e0 : s₁.heap = h0 := by rw [← hh, Bd.state]; rfl
  have N0 := Fr.nil n0
  show GoesH Z h0 p e below s (QSI Z x0 h0 n0) ({ frames := 1, cells := 2, slots := 4, locals := 12 } : Room).cells ({ frames := 1, cells := 2, slots := 4, locals := 12 } : Room).slots (s₁.setTop (entryFrame m #[(.ref x0), (.ref x1), (.int (0 : Int32)), (.int (0 : Int32)), .null] 6))
  refine GoesH.cast (efD m x0 x1) ?_
  have hEL := own_EL hw
  have Sn0 : s.Since s.vm s.heap.size := own_since s
  have hk0 : s.heap.size ≤ h0.size := Nat.le_of_eq (congrArg Array.size hh)
  have X0 : Stand p l e ({ frames := 1, cells := 2, slots := 4, locals := 12 } : Room) (s.setVm s.vm) m #[(.ref x0), (.ref x1), (.int (0 : Int32)), (.int (0 : Int32)), .null] below meth c s₁ [] 0 0 := X0
  have CH0 : CHr Z consts_1 s.vm h0 s.vm h0 := CHr.refl hCH0
  have sf_x0 := hSF x0 (List.mem_of_getElem? (i := 0) rfl)
  have K0 : Keep h0 h0 [x0] := Keep.refl h0 _
  refine GoesH.run X0 hx hown hci hcl hby (L := [(0, .aload_n 0, 1)]) (by decide +kernel) rfl (g' := (mkF m 1 #[rv x0, rv x1, iv (0 : Int32), iv (0 : Int32), .val .null, .unset] [(.ref x0)])) rfl ?_
  obtain ⟨T1, X1, e1, st1⟩ := initO X0 hx hZ hown w_57 w_58 w_59 e0 (g := (mkF m 1 #[rv x0, rv x1, iv (0 : Int32), iv (0 : Int32), .val .null, .unset] [(.ref x0)])) rfl (by rw [hml]; rfl) rfl (hb hby d4_1) (by decide) (W := 0) (by show 2 * 0 + _ ≤ _; exact Nat.le_of_eq rfl) (by decide)
  refine GoesH.st (B := T1.setTop (mkF m 4 #[rv x0, rv x1, iv (0 : Int32), iv (0 : Int32), .val .null, .unset] [])) st1 ?_
  refine GoesH.run X1 hx hown hci hcl hby (L := [(4, .iload_n 3, 1)]) (by decide +kernel) rfl (g' := (mkF m 5 #[rv x0, rv x1, iv (0 : Int32), iv (0 : Int32), .val .null, .unset] [(.int (0 : Int32))])) rfl ?_
  have hc5_2 : (0 : Int32) = (0 : Int32) := rfl
  refine GoesH.st (B := T1.setTop (mkF m 8 #[rv x0, rv x1, iv (0 : Int32), iv (0 : Int32), .val .null, .unset] [])) (fun t k => ?_) ?_
  · refine XS.ifNo X1.here hx rfl (hb hby d4_5) rfl ((if0 _ _).trans (teq hc5_2).2) ?_
    exact k
  refine GoesH.run X1 hx hown hci hcl hby (L := [(8, .aload_n 0, 1)]) (by decide +kernel) rfl (g' := (mkF m 9 #[rv x0, rv x1, iv (0 : Int32), iv (0 : Int32), .val .null, .unset] [(.ref x0)])) rfl ?_
  obtain ⟨sa3, T3, h3, kk3, sb3, kb3, X3, e3, E3, Sn3, hk3, hZ, hown, A3, C3, D3, V3, -, -, CHq3, lt3, nsf3, st3⟩ := ldcCH X1 hx hZ hown w_108 (own_wS hw) e1 Sn0 hk0 hEL (by decide : ("java/lang/String", 7) ∈ consts_1) CH0.1 (vs := ((([] : List Int32).map (fun c => c.toInt8.toInt32)).map Value.int)) (z := (0 : Int32)) ⟨by decide, by decide⟩ (by decide) (by decide) (g := (mkF m 9 #[rv x0, rv x1, iv (0 : Int32), iv (0 : Int32), .val .null, .unset] [(.ref x0)])) rfl (hb hby d4_9) (n := 0) (by decide) (by decide) (by decide) (by decide)
  have sf_x0 := CHq3.safe E_x0.lt sf_x0
  have E_x0 := E_x0.ext E3
  have F_value_x0 := F_value_x0.ext E3
  have F_coder_x0 := F_coder_x0.ext E3
  have Zn3 : n0 ≤ h3.size := Nat.le_trans Z0 E3.1
  have K3 := K0.ext E3
  have hk3e := Nat.le_trans hk0 E3.1
  have CH3 := CH0.trans CHq3
  have hci : ∀ i v, (i, v) ∈ ([] : List (Nat × Int32)) → (Jvm.Cond.constant "java/lang/String" i v).before #[(.ref x0), (.ref x1), (.int (0 : Int32)), (.int (0 : Int32)), .null] (s.setVm T3.vm) = true := own_ci0
  have hcl : ∀ i v, (i, v) ∈ ([] : List (Nat × Int64)) → (Jvm.Cond.constantLong "java/lang/String" i v).before #[(.ref x0), (.ref x1), (.int (0 : Int32)), (.int (0 : Int32)), .null] (s.setVm T3.vm) = true := own_ci0
  have ne_x0_sa3 := (nsf3 _ sf_x0).1
  have ne_x0_sb3 := (nsf3 _ sf_x0).2
  have E_sa3 : Exa Z h3 sa3 "java/lang/String" := A3
  have F_coder_sa3 : Fld Z h3 sa3 "java/lang/String" "coder" "B" (.int (0 : Int32)) := C3
  have F_value_sa3 : Fld Z h3 sa3 "java/lang/String" "value" "[B" (.ref sb3) := D3
  have V_sb3 : Arv Z h3 sb3 kb3 .byte (0 : Int32) ((([] : List Int32).map (fun c => c.toInt8.toInt32)).map Value.int) (.int (0 : Int32)) := V3
  refine GoesH.st (B := T3.setTop (mkF m 11 #[rv x0, rv x1, iv (0 : Int32), iv (0 : Int32), .val .null, .unset] [(.ref sa3), (.ref x0)])) st3 ?_
  obtain ⟨T4, X4, e4, st4⟩ := getF X3 hx hZ hown (host := "") (Or.inl w_25) Via.refl e3 F_value_sa3 (g := (mkF m 11 #[rv x0, rv x1, iv (0 : Int32), iv (0 : Int32), .val .null, .unset] [(.ref sa3), (.ref x0)])) rfl rfl (hb hby d4_11)
  refine GoesH.st (B := T4.setTop (mkF m 14 #[rv x0, rv x1, iv (0 : Int32), iv (0 : Int32), .val .null, .unset] [(.ref sb3), (.ref x0)])) st4 ?_
  obtain ⟨T5, h5, X5, e5, W5, st5⟩ := putF X4 hx hZ hown (host := "") (Or.inl w_25) Via.refl e4 F_value_x0 E_x0 (Or.inr ⟨w_9, rfl, hnm⟩) w_7 (ty := (.array .byte)) (by decide) rfl rfl (g := (mkF m 14 #[rv x0, rv x1, iv (0 : Int32), iv (0 : Int32), .val .null, .unset] [(.ref sb3), (.ref x0)])) rfl rfl (hb hby d4_14)
  have sk5 := sf_x0
  have sf_x0 := Safe.wr W5 sk5 CH3.1 sf_x0
  have CH5 := CH3.trans (CHr.wr W5 sk5 CH3.1)
  have E_x0 := E_x0.wr W5
  have F_value_x0 : Fld Z h5 x0 "java/lang/String" "value" "[B" (.ref sb3) := F_value_x0.same W5
  have F_coder_x0 := F_coder_x0.other W5 (Or.inr (slot_ne (Or.inr w_10) (Or.inr w_9) (by decide) (t := .byte) (t' := (.array .byte)) (by decide) (by decide)))
  have E_sa3 := E_sa3.wr W5
  have F_coder_sa3 := F_coder_sa3.other W5 (Or.inl (Ne.symm ne_x0_sa3))
  have F_value_sa3 := F_value_sa3.other W5 (Or.inl (Ne.symm ne_x0_sa3))
  have V_sb3 := V_sb3.other W5 (Ne.symm ne_x0_sb3)
  have Zn5 : n0 ≤ h5.size := Nat.le_trans Zn3 (Keep.of_wr W5).1
  have K5 := K3.wr W5 (Or.inl (List.mem_of_getElem? (i := 0) rfl))
  have hk5e := Nat.le_trans hk3 (Keep.of_wr W5).1
  have N5 := Fr.snoc X5 N0 g_x0
  refine GoesH.st (B := T5.setTop (mkF m 17 #[rv x0, rv x1, iv (0 : Int32), iv (0 : Int32), .val .null, .unset] [])) st5 ?_
  refine GoesH.run X5 hx hown hci hcl hby (L := [(17, .aload_n 0, 1)]) (by decide +kernel) rfl (g' := (mkF m 18 #[rv x0, rv x1, iv (0 : Int32), iv (0 : Int32), .val .null, .unset] [(.ref x0)])) rfl ?_
  refine GoesH.st (B := T5.setTop (mkF m 20 #[rv x0, rv x1, iv (0 : Int32), iv (0 : Int32), .val .null, .unset] [(.ref sa3), (.ref x0)])) (ldcAgain X5 hx hZ hown w_108 lt3 (g := (mkF m 18 #[rv x0, rv x1, iv (0 : Int32), iv (0 : Int32), .val .null, .unset] [(.ref x0)])) rfl (hb hby d4_18)) ?_
  obtain ⟨T7, X7, e7, st7⟩ := getF X5 hx hZ hown (host := "") (Or.inl w_24) Via.refl e5 F_coder_sa3 (g := (mkF m 20 #[rv x0, rv x1, iv (0 : Int32), iv (0 : Int32), .val .null, .unset] [(.ref sa3), (.ref x0)])) rfl rfl (hb hby d4_20)
  refine GoesH.st (B := T7.setTop (mkF m 23 #[rv x0, rv x1, iv (0 : Int32), iv (0 : Int32), .val .null, .unset] [(.int (0 : Int32)), (.ref x0)])) st7 ?_
  obtain ⟨T8, h8, X8, e8, W8, st8⟩ := putFN X7 hx hZ hown w_24 Via.refl e7 F_coder_x0 E_x0 (Or.inr ⟨w_10, rfl, hnm⟩) w_7 (ty := .byte) (v' := (.int (0 : Int32))) (by decide) rfl rfl (g := (mkF m 23 #[rv x0, rv x1, iv (0 : Int32), iv (0 : Int32), .val .null, .unset] [(.int (0 : Int32)), (.ref x0)])) rfl rfl (hb hby d4_23)
  have sk8 := sf_x0
  have sf_x0 := Safe.wr W8 sk8 CH5.1 sf_x0
  have CH8 := CH5.trans (CHr.wr W8 sk8 CH5.1)
  have E_x0 := E_x0.wr W8
  have F_value_x0 := F_value_x0.other W8 (Or.inr (slot_ne (Or.inr w_9) (Or.inr w_10) (by decide) (t := (.array .byte)) (t' := .byte) (by decide) (by decide)))
  have F_coder_x0 : Fld Z h8 x0 "java/lang/String" "coder" "B" (.int (0 : Int32)) := F_coder_x0.same W8
  have E_sa3 := E_sa3.wr W8
  have F_coder_sa3 := F_coder_sa3.other W8 (Or.inl (Ne.symm ne_x0_sa3))
  have F_value_sa3 := F_value_sa3.other W8 (Or.inl (Ne.symm ne_x0_sa3))
  have V_sb3 := V_sb3.other W8 (Ne.symm ne_x0_sb3)
  have Zn8 : n0 ≤ h8.size := Nat.le_trans Zn5 (Keep.of_wr W8).1
  have K8 := K5.wr W8 (Or.inl (List.mem_of_getElem? (i := 0) rfl))
  have hk8e := Nat.le_trans hk5e (Keep.of_wr W8).1
  have N8 := Fr.snoc X8 N5 g_x0
  refine GoesH.st (B := T8.setTop (mkF m 26 #[rv x0, rv x1, iv (0 : Int32), iv (0 : Int32), .val .null, .unset] [])) st8 ?_
  exact GoesH.retV X8 Sn3 (by rw [e8]; exact hk8e) (by rw [e8]; exact CH8) hZ hEL hx hlk Bd.returns (hb hby d4_26) (by show QSI Z x0 h0 n0 _ _ _; rw [e8]; exact ⟨sb3, kb3, rfl, N8, K8, E_x0, F_coder_x0, F_value_x0, V_sb3⟩) (by decide) (by decide)
theorem d5_4 : decode jdk_42_method_3_code 4 = .ok (.arraylength, 1) := by decide +kernel
theorem d5_6 : decode jdk_42_method_3_code 6 = .ok (.invokespecial 27, 3) := by decide +kernel
theorem d5_9 : decode jdk_42_method_3_code 9 = .ok (.return_, 1) := by decide +kernel
theorem pnE : plainName "java/lang/String" = true := by first | (simp [plainName, overriddenIn]; done) | decide +kernel
theorem pdE_0 : parseMethodDescriptor "([CIILjava/lang/Void;)V" = some ⟨[(.array .char), .int, .int, (.object "java/lang/Void")], none⟩ := by decide +kernel
theorem efE (m : MethodId) (x0 : Addr) (x1 : Addr) : entryFrame m #[(.ref x0), (.ref x1)] 2 = (mkF m 0 #[rv x0, rv x1] []) := by first | (simp [entryFrame, mkF, argsToLocals, Value.category]; done) | rfl
set_option maxRecDepth 65536 in
set_option maxHeartbeats 40000000 in
theorem rmE (l : Launch) (Z : State) (a0 : Array Value) (hw : ∀ d ∈ tables_1, d.before a0 Z = true) (ws : List Jvm.Cond) (x0 : Addr) (x1 : Addr) (kx : ClassId) (h0 : Heap) (n0 : Nat) (Z0 : n0 ≤ h0.size) (E_x0 : Exa Z h0 x0 "java/lang/String") (F_value_x0 : Fld Z h0 x0 "java/lang/String" "value" "[B" .null) (F_coder_x0 : Fld Z h0 x0 "java/lang/String" "coder" "B" (.int (0 : Int32))) (V_x1 : Arv Z h0 x1 kx .char (0 : Int32) [] (.int (0 : Int32))) (g_x0 : n0 ≤ x0) (nx01 : x0 ≠ x1) :
    MetFree l ym5 (head1 (Jvm.Cond.code ym5 jdk_42_method_3_code 2 none :: ws) ({ frames := 2, cells := 2, slots := 4, locals := 29 } : Room)) (fun a U => a = #[(.ref x0), (.ref x1)] ∧ Z.Warmed39 U.vm ∧ U.heap = h0 ∧ CHv Z consts_1 U.vm h0 ∧ ∀ x ∈ ([x0] : List Addr), Safe Z consts_1 U.vm h0 x) (fun _ _ _ _ _ => True) (fun _ U o U' => ∃ v L, o = .returned v ∧ (QSI Z x0 h0 n0) v U'.heap L ∧ CHr Z consts_1 U.vm h0 U'.vm U'.heap ∧ ReturnedEndW U o U' L ({ frames := 2, cells := 2, slots := 4, locals := 29 } : Room).cells ({ frames := 2, cells := 2, slots := 4, locals := 29 } : Room).slots) := by
  refine MetFree.of_bodySF (plainFor_of_name pnE) hisR ?_
  intro p e s m args below meth c s₁ Bd hml0 hP hK
  obtain ⟨rfl, hZ, hh, hCH0, hSF⟩ := hP
  have hx := Bd.exec
  have hby := Bd.bytes
  have hml : c.maxLocals = 2 := hml0
  have hlk : meth.locks = false := BodyLoose.notSynchronized Bd
  have hown : s.vm.findClass "java/lang/String" = some m.cls := findClass_of_methodNamed Bd.named
  have hnm := (name_of_methodNamed Bd.named Bd.method).1
  have w_6 := hw _ (List.mem_of_getElem? (i := 6) rfl)
  have w_53 := hw _ (List.mem_of_getElem? (i := 53) rfl)
  have w_54 := hw _ (List.mem_of_getElem? (i := 54) rfl)
  have w_56 := hw _ (List.mem_of_getElem? (i := 56) rfl)
  have hci : ∀ i v, (i, v) ∈ ([] : List (Nat × Int32)) → (Jvm.Cond.constant "java/lang/String" i v).before #[(.ref x0), (.ref x1)] s = true := own_ci0
  have hcl : ∀ i v, (i, v) ∈ ([] : List (Nat × Int64)) → (Jvm.Cond.constantLong "java/lang/String" i v).before #[(.ref x0), (.ref x1)] s = true := own_ci0
  have X0 : Stand p l e ({ frames := 2, cells := 2, slots := 4, locals := 29 } : Room) s m #[(.ref x0), (.ref x1)] below meth c s₁ [] 0 0 := Stand.of_body Bd
  have e0 : s₁.heap = h0 := by rw [← hh, Bd.state]; rfl
  have N0 := Fr.nil n0
  show GoesH Z h0 p e below s (QSI Z x0 h0 n0) ({ frames := 2, cells := 2, slots := 4, locals := 29 } : Room).cells ({ frames := 2, cells := 2, slots := 4, locals := 29 } : Room).slots (s₁.setTop (entryFrame m #[(.ref x0), (.ref x1)] 2))
  refine GoesH.cast (efE m x0 x1) ?_
  have hEL := own_EL hw
  have Sn0 : s.Since s.vm s.heap.size := own_since s
  have hk0 : s.heap.size ≤ h0.size := Nat.le_of_eq (congrArg Array.size hh)
  have X0 : Stand p l e ({ frames := 2, cells := 2, slots := 4, locals := 29 } : Room) (s.setVm s.vm) m #[(.ref x0), (.ref x1)] below meth c s₁ [] 0 0 := X0
  have CH0 : CHr Z consts_1 s.vm h0 s.vm h0 := CHr.refl hCH0
  have sf_x0 := hSF x0 (List.mem_of_getElem? (i := 0) rfl)
  have K0 : Keep h0 h0 [x0] := Keep.refl h0 _
  refine GoesH.run X0 hx hown hci hcl hby (L := [(0, .aload_n 0, 1), (1, .aload_n 1, 1), (2, .iconst 0, 1), (3, .aload_n 1, 1)]) (by decide +kernel) rfl (g' := (mkF m 4 #[rv x0, rv x1] [(.ref x1), (.int (0 : Int32)), (.ref x1), (.ref x0)])) rfl ?_
  obtain ⟨cl1, Ar1, q1, S1, M1, Hs1, G1⟩ := id V_x1
  refine GoesH.st (B := s₁.setTop (mkF m 5 #[rv x0, rv x1] [(.int (0 : Int32)), (.int (0 : Int32)), (.ref x1), (.ref x0)])) (fun t k => ?_) ?_
  · refine X0.arraylength hx (cell := cl1) (by rw [e0]; exact Ar1.1) (State.isArrayOf_alike hZ.alike Ar1.2.1) (g := (mkF m 4 #[rv x0, rv x1] [(.ref x1), (.int (0 : Int32)), (.ref x1), (.ref x0)])) rfl (rest := [(.int (0 : Int32)), (.ref x1), (.ref x0)]) rfl (hb hby d5_4) _ ?_
    rw [len_of S1 M1]
    exact k
  refine GoesH.run X0 hx hown hci hcl hby (L := [(5, .aconst_null, 1)]) (by decide +kernel) rfl (g' := (mkF m 6 #[rv x0, rv x1] [.null, (.int (0 : Int32)), (.int (0 : Int32)), (.ref x1), (.ref x0)])) rfl ?_
  obtain ⟨_, _, ⟨T2, L2, k2, n2⟩, -, X2, Sq2, gq2, ⟨Lc2, hQ2, l2, y2, z2, CHq2⟩, st2⟩ := X0.specialBackS hx (y := ym4) rfl hown (mvT hZ w_53) (mvT hZ w_54) (mvT hZ w_56) (by decide) (own_backH (W := 0) (rmD l Z a0 hw [] x0 x1 h0 n0 Z0 E_x0 F_value_x0 F_coder_x0 g_x0) hZ w_56 w_6 (by decide) (by decide) hEL CH0.1 (own_sfS E_x0.lt sf_x0 own_sf0)) (g := (mkF m 6 #[rv x0, rv x1] [.null, (.int (0 : Int32)), (.int (0 : Int32)), (.ref x1), (.ref x0)])) rfl (by rw [hml]; rfl) (Steps.refl _) (a := x0) (argsL := [(.ref x1), (.int (0 : Int32)), (.int (0 : Int32)), .null]) (rest := []) (lenOf pdE_0 rfl) rfl (by show 2 * 0 + _ ≤ _; exact Nat.le_of_eq rfl) (hb hby d5_6) (fun _ _ => ⟨rfl, e0, (by decide : 0 + 2 ≤ _), (by decide : 0 + 4 ≤ _)⟩)
  dsimp only [Pt.U, Pt.locs, Pt.cells, Pt.slots] at X2 l2 y2 z2 st2 hQ2 Sq2 gq2 CHq2
  subst l2 y2 z2
  obtain ⟨h2, eh2⟩ : ∃ z, z = T2.heap := ⟨_, rfl⟩
  rw [← eh2] at hQ2 CHq2
  have e2 : T2.heap = h2 := eh2.symm
  have X2 := (show Stand p l e ({ frames := 2, cells := 2, slots := 4, locals := 29 } : Room) (s.setVm T2.vm) m #[(.ref x0), (.ref x1)] below meth c T2 _ _ _ from X2)
  have Sn2 : s.Since T2.vm h2.size := by rw [← e2]; exact foldS Sn0 (by rw [e0]; exact hk0) Sq2 gq2
  have hk2 : h2.size ≤ h2.size := Nat.le_refl _
  have hZ : Z.Warmed39 (s.setVm T2.vm).vm := State.Warmed39.trans (t := (s.setVm s.vm)) hZ Sq2.1
  have hown : (s.setVm T2.vm).vm.findClass "java/lang/String" = some m.cls := by rw [show (s.setVm T2.vm).vm = T2.vm from rfl, Sq2.1.alike.findClass]; exact hown
  have sf_x0 := CHq2.safe E_x0.lt sf_x0
  have CH2 := CH0.trans CHq2
  obtain ⟨t2, kt2, rfl, N2q, Kq2, o2_0, o2_1, o2_2, o2_3⟩ := hQ2
  have N2 := Fr.app N0 N2q
  have E_x0 := E_x0.keep Kq2
  have V_x1 := V_x1.keep Kq2 (ninS (Ne.symm nx01) nin0)
  have Zn2 : n0 ≤ h2.size := Nat.le_trans Z0 Kq2.1
  have hk2e := Nat.le_trans hk0 Kq2.1
  have K2 := K0.trans Kq2 ((allS (Or.inl (List.mem_of_getElem? (i := 0) rfl)) all0))
  have E_x0 : Exa Z h2 x0 "java/lang/String" := o2_0
  have F_coder_x0 : Fld Z h2 x0 "java/lang/String" "coder" "B" (.int (0 : Int32)) := o2_1
  have F_value_x0 : Fld Z h2 x0 "java/lang/String" "value" "[B" (.ref t2) := o2_2
  have V_t2 : Arv Z h2 t2 kt2 .byte (0 : Int32) ((([] : List Int32).map (fun c => c.toInt8.toInt32)).map Value.int) (.int (0 : Int32)) := o2_3
  have hci : ∀ i v, (i, v) ∈ ([] : List (Nat × Int32)) → (Jvm.Cond.constant "java/lang/String" i v).before #[(.ref x0), (.ref x1)] (s.setVm T2.vm) = true := own_ci0
  have hcl : ∀ i v, (i, v) ∈ ([] : List (Nat × Int64)) → (Jvm.Cond.constantLong "java/lang/String" i v).before #[(.ref x0), (.ref x1)] (s.setVm T2.vm) = true := own_ci0
  refine GoesH.st (B := T2.setTop (mkF m 9 #[rv x0, rv x1] [])) (fun t k => st2.trans k) ?_
  exact GoesH.retV X2 Sn2 (by rw [e2]; exact hk2) (by rw [e2]; exact CH2) hZ hEL hx hlk Bd.returns (hb hby d5_9) (by show QSI Z x0 h0 n0 _ _ _; rw [e2]; exact ⟨t2, kt2, rfl, N2, K2, E_x0, F_coder_x0, F_value_x0, V_t2⟩) (by decide) (by decide)
theorem d6_1 : decode method_5_code 1 = .ok (.ifCond .ne 14, 3) := by decide +kernel
theorem d6_4 : decode method_5_code 4 = .ok (.new 38, 3) := by decide +kernel
theorem d6_9 : decode method_5_code 9 = .ok (.newarray .char, 2) := by decide +kernel
theorem d6_11 : decode method_5_code 11 = .ok (.invokespecial 58, 3) := by decide +kernel
theorem d6_14 : decode method_5_code 14 = .ok (.areturn, 1) := by decide +kernel
theorem d6_17 : decode method_5_code 17 = .ok (.if_icmp .ne 20, 3) := by decide +kernel
theorem d6_20 : decode method_5_code 20 = .ok (.new 38, 3) := by decide +kernel
theorem d6_25 : decode method_5_code 25 = .ok (.newarray .char, 2) := by decide +kernel
theorem d6_31 : decode method_5_code 31 = .ok (.caload, 1) := by decide +kernel
theorem d6_32 : decode method_5_code 32 = .ok (.castore, 1) := by decide +kernel
theorem d6_33 : decode method_5_code 33 = .ok (.invokespecial 58, 3) := by decide +kernel
theorem d6_36 : decode method_5_code 36 = .ok (.areturn, 1) := by decide +kernel
theorem d6_39 : decode method_5_code 39 = .ok (.if_icmp .ne 26, 3) := by decide +kernel
theorem d6_42 : decode method_5_code 42 = .ok (.new 38, 3) := by decide +kernel
theorem d6_47 : decode method_5_code 47 = .ok (.newarray .char, 2) := by decide +kernel
theorem d6_53 : decode method_5_code 53 = .ok (.caload, 1) := by decide +kernel
theorem d6_54 : decode method_5_code 54 = .ok (.castore, 1) := by decide +kernel
theorem d6_59 : decode method_5_code 59 = .ok (.caload, 1) := by decide +kernel
theorem d6_60 : decode method_5_code 60 = .ok (.castore, 1) := by decide +kernel
theorem d6_61 : decode method_5_code 61 = .ok (.invokespecial 58, 3) := by decide +kernel
theorem d6_64 : decode method_5_code 64 = .ok (.areturn, 1) := by decide +kernel
theorem d6_67 : decode method_5_code 67 = .ok (.if_icmp .ne 32, 3) := by decide +kernel
theorem d6_70 : decode method_5_code 70 = .ok (.new 38, 3) := by decide +kernel
theorem d6_75 : decode method_5_code 75 = .ok (.newarray .char, 2) := by decide +kernel
theorem d6_81 : decode method_5_code 81 = .ok (.caload, 1) := by decide +kernel
theorem d6_82 : decode method_5_code 82 = .ok (.castore, 1) := by decide +kernel
theorem d6_87 : decode method_5_code 87 = .ok (.caload, 1) := by decide +kernel
theorem d6_88 : decode method_5_code 88 = .ok (.castore, 1) := by decide +kernel
theorem d6_93 : decode method_5_code 93 = .ok (.caload, 1) := by decide +kernel
theorem d6_94 : decode method_5_code 94 = .ok (.castore, 1) := by decide +kernel
theorem d6_95 : decode method_5_code 95 = .ok (.invokespecial 58, 3) := by decide +kernel
theorem d6_98 : decode method_5_code 98 = .ok (.areturn, 1) := by decide +kernel
theorem d6_101 : decode method_5_code 101 = .ok (.if_icmp .ne 38, 3) := by decide +kernel
theorem d6_104 : decode method_5_code 104 = .ok (.new 38, 3) := by decide +kernel
theorem d6_109 : decode method_5_code 109 = .ok (.newarray .char, 2) := by decide +kernel
theorem d6_115 : decode method_5_code 115 = .ok (.caload, 1) := by decide +kernel
theorem d6_116 : decode method_5_code 116 = .ok (.castore, 1) := by decide +kernel
theorem d6_121 : decode method_5_code 121 = .ok (.caload, 1) := by decide +kernel
theorem d6_122 : decode method_5_code 122 = .ok (.castore, 1) := by decide +kernel
theorem d6_127 : decode method_5_code 127 = .ok (.caload, 1) := by decide +kernel
theorem d6_128 : decode method_5_code 128 = .ok (.castore, 1) := by decide +kernel
theorem d6_133 : decode method_5_code 133 = .ok (.caload, 1) := by decide +kernel
theorem d6_134 : decode method_5_code 134 = .ok (.castore, 1) := by decide +kernel
theorem d6_135 : decode method_5_code 135 = .ok (.invokespecial 58, 3) := by decide +kernel
theorem d6_138 : decode method_5_code 138 = .ok (.areturn, 1) := by decide +kernel
theorem d6_141 : decode method_5_code 141 = .ok (.if_icmp .ne 44, 3) := by decide +kernel
theorem d6_144 : decode method_5_code 144 = .ok (.new 38, 3) := by decide +kernel
theorem d6_149 : decode method_5_code 149 = .ok (.newarray .char, 2) := by decide +kernel
theorem d6_155 : decode method_5_code 155 = .ok (.caload, 1) := by decide +kernel
theorem d6_156 : decode method_5_code 156 = .ok (.castore, 1) := by decide +kernel
theorem d6_161 : decode method_5_code 161 = .ok (.caload, 1) := by decide +kernel
theorem d6_162 : decode method_5_code 162 = .ok (.castore, 1) := by decide +kernel
theorem d6_167 : decode method_5_code 167 = .ok (.caload, 1) := by decide +kernel
theorem d6_168 : decode method_5_code 168 = .ok (.castore, 1) := by decide +kernel
theorem d6_173 : decode method_5_code 173 = .ok (.caload, 1) := by decide +kernel
theorem d6_174 : decode method_5_code 174 = .ok (.castore, 1) := by decide +kernel
theorem d6_179 : decode method_5_code 179 = .ok (.caload, 1) := by decide +kernel
theorem d6_180 : decode method_5_code 180 = .ok (.castore, 1) := by decide +kernel
theorem d6_181 : decode method_5_code 181 = .ok (.invokespecial 58, 3) := by decide +kernel
theorem d6_184 : decode method_5_code 184 = .ok (.areturn, 1) := by decide +kernel
theorem d6_188 : decode method_5_code 188 = .ok (.if_icmp .ne 51, 3) := by decide +kernel
theorem d6_191 : decode method_5_code 191 = .ok (.new 38, 3) := by decide +kernel
theorem d6_197 : decode method_5_code 197 = .ok (.newarray .char, 2) := by decide +kernel
theorem d6_203 : decode method_5_code 203 = .ok (.caload, 1) := by decide +kernel
theorem d6_204 : decode method_5_code 204 = .ok (.castore, 1) := by decide +kernel
theorem d6_209 : decode method_5_code 209 = .ok (.caload, 1) := by decide +kernel
theorem d6_210 : decode method_5_code 210 = .ok (.castore, 1) := by decide +kernel
theorem d6_215 : decode method_5_code 215 = .ok (.caload, 1) := by decide +kernel
theorem d6_216 : decode method_5_code 216 = .ok (.castore, 1) := by decide +kernel
theorem d6_221 : decode method_5_code 221 = .ok (.caload, 1) := by decide +kernel
theorem d6_222 : decode method_5_code 222 = .ok (.castore, 1) := by decide +kernel
theorem d6_227 : decode method_5_code 227 = .ok (.caload, 1) := by decide +kernel
theorem d6_228 : decode method_5_code 228 = .ok (.castore, 1) := by decide +kernel
theorem d6_233 : decode method_5_code 233 = .ok (.caload, 1) := by decide +kernel
theorem d6_234 : decode method_5_code 234 = .ok (.castore, 1) := by decide +kernel
theorem d6_235 : decode method_5_code 235 = .ok (.invokespecial 58, 3) := by decide +kernel
theorem d6_238 : decode method_5_code 238 = .ok (.areturn, 1) := by decide +kernel
theorem d6_242 : decode method_5_code 242 = .ok (.if_icmp .ne 59, 3) := by decide +kernel
theorem d6_245 : decode method_5_code 245 = .ok (.new 38, 3) := by decide +kernel
theorem d6_251 : decode method_5_code 251 = .ok (.newarray .char, 2) := by decide +kernel
theorem d6_257 : decode method_5_code 257 = .ok (.caload, 1) := by decide +kernel
theorem d6_258 : decode method_5_code 258 = .ok (.castore, 1) := by decide +kernel
theorem d6_263 : decode method_5_code 263 = .ok (.caload, 1) := by decide +kernel
theorem d6_264 : decode method_5_code 264 = .ok (.castore, 1) := by decide +kernel
theorem d6_269 : decode method_5_code 269 = .ok (.caload, 1) := by decide +kernel
theorem d6_270 : decode method_5_code 270 = .ok (.castore, 1) := by decide +kernel
theorem d6_275 : decode method_5_code 275 = .ok (.caload, 1) := by decide +kernel
theorem d6_276 : decode method_5_code 276 = .ok (.castore, 1) := by decide +kernel
theorem d6_281 : decode method_5_code 281 = .ok (.caload, 1) := by decide +kernel
theorem d6_282 : decode method_5_code 282 = .ok (.castore, 1) := by decide +kernel
theorem d6_287 : decode method_5_code 287 = .ok (.caload, 1) := by decide +kernel
theorem d6_288 : decode method_5_code 288 = .ok (.castore, 1) := by decide +kernel
theorem d6_295 : decode method_5_code 295 = .ok (.caload, 1) := by decide +kernel
theorem d6_296 : decode method_5_code 296 = .ok (.castore, 1) := by decide +kernel
theorem d6_297 : decode method_5_code 297 = .ok (.invokespecial 58, 3) := by decide +kernel
theorem d6_300 : decode method_5_code 300 = .ok (.areturn, 1) := by decide +kernel
theorem d6_301 : decode method_5_code 301 = .ok (.new 38, 3) := by decide +kernel
theorem d6_306 : decode method_5_code 306 = .ok (.invokespecial 58, 3) := by decide +kernel
theorem d6_309 : decode method_5_code 309 = .ok (.areturn, 1) := by decide +kernel
theorem pnF : plainName "com/example/upcaster/upcaster/io/CodecNamedPinLaw" = true := by first | (simp [plainName, overriddenIn]; done) | decide +kernel
theorem pdF_0 : parseMethodDescriptor "([C)V" = some ⟨[(.array .char)], none⟩ := by decide +kernel
theorem efF (m : MethodId) (x0 : Addr) (x1 : Int32) : entryFrame m #[(.ref x0), (.int x1)] 2 = (mkF m 0 #[rv x0, iv x1] []) := by first | (simp [entryFrame, mkF, argsToLocals, Value.category]; done) | rfl
def wF_32 (x1 : Int32) (ch0 : Int32) (ch1 : Int32) (ch2 : Int32) (ch3 : Int32) (ch4 : Int32) (ch5 : Int32) (ch6 : Int32) (ch7 : Int32) : Int32 := (nar .char ch0)
def csF_33 (x1 : Int32) (ch0 : Int32) (ch1 : Int32) (ch2 : Int32) (ch3 : Int32) (ch4 : Int32) (ch5 : Int32) (ch6 : Int32) (ch7 : Int32) : List Int32 := [(wF_32 x1 ch0 ch1 ch2 ch3 ch4 ch5 ch6 ch7)]
def wF_60 (x1 : Int32) (ch0 : Int32) (ch1 : Int32) (ch2 : Int32) (ch3 : Int32) (ch4 : Int32) (ch5 : Int32) (ch6 : Int32) (ch7 : Int32) : Int32 := (nar .char ch1)
def csF_61 (x1 : Int32) (ch0 : Int32) (ch1 : Int32) (ch2 : Int32) (ch3 : Int32) (ch4 : Int32) (ch5 : Int32) (ch6 : Int32) (ch7 : Int32) : List Int32 := [(wF_32 x1 ch0 ch1 ch2 ch3 ch4 ch5 ch6 ch7), (wF_60 x1 ch0 ch1 ch2 ch3 ch4 ch5 ch6 ch7)]
def wF_94 (x1 : Int32) (ch0 : Int32) (ch1 : Int32) (ch2 : Int32) (ch3 : Int32) (ch4 : Int32) (ch5 : Int32) (ch6 : Int32) (ch7 : Int32) : Int32 := (nar .char ch2)
def csF_95 (x1 : Int32) (ch0 : Int32) (ch1 : Int32) (ch2 : Int32) (ch3 : Int32) (ch4 : Int32) (ch5 : Int32) (ch6 : Int32) (ch7 : Int32) : List Int32 := [(wF_32 x1 ch0 ch1 ch2 ch3 ch4 ch5 ch6 ch7), (wF_60 x1 ch0 ch1 ch2 ch3 ch4 ch5 ch6 ch7), (wF_94 x1 ch0 ch1 ch2 ch3 ch4 ch5 ch6 ch7)]
def wF_134 (x1 : Int32) (ch0 : Int32) (ch1 : Int32) (ch2 : Int32) (ch3 : Int32) (ch4 : Int32) (ch5 : Int32) (ch6 : Int32) (ch7 : Int32) : Int32 := (nar .char ch3)
def csF_135 (x1 : Int32) (ch0 : Int32) (ch1 : Int32) (ch2 : Int32) (ch3 : Int32) (ch4 : Int32) (ch5 : Int32) (ch6 : Int32) (ch7 : Int32) : List Int32 := [(wF_32 x1 ch0 ch1 ch2 ch3 ch4 ch5 ch6 ch7), (wF_60 x1 ch0 ch1 ch2 ch3 ch4 ch5 ch6 ch7), (wF_94 x1 ch0 ch1 ch2 ch3 ch4 ch5 ch6 ch7), (wF_134 x1 ch0 ch1 ch2 ch3 ch4 ch5 ch6 ch7)]
def wF_180 (x1 : Int32) (ch0 : Int32) (ch1 : Int32) (ch2 : Int32) (ch3 : Int32) (ch4 : Int32) (ch5 : Int32) (ch6 : Int32) (ch7 : Int32) : Int32 := (nar .char ch4)
def csF_181 (x1 : Int32) (ch0 : Int32) (ch1 : Int32) (ch2 : Int32) (ch3 : Int32) (ch4 : Int32) (ch5 : Int32) (ch6 : Int32) (ch7 : Int32) : List Int32 := [(wF_32 x1 ch0 ch1 ch2 ch3 ch4 ch5 ch6 ch7), (wF_60 x1 ch0 ch1 ch2 ch3 ch4 ch5 ch6 ch7), (wF_94 x1 ch0 ch1 ch2 ch3 ch4 ch5 ch6 ch7), (wF_134 x1 ch0 ch1 ch2 ch3 ch4 ch5 ch6 ch7), (wF_180 x1 ch0 ch1 ch2 ch3 ch4 ch5 ch6 ch7)]
def wF_234 (x1 : Int32) (ch0 : Int32) (ch1 : Int32) (ch2 : Int32) (ch3 : Int32) (ch4 : Int32) (ch5 : Int32) (ch6 : Int32) (ch7 : Int32) : Int32 := (nar .char ch5)
def csF_235 (x1 : Int32) (ch0 : Int32) (ch1 : Int32) (ch2 : Int32) (ch3 : Int32) (ch4 : Int32) (ch5 : Int32) (ch6 : Int32) (ch7 : Int32) : List Int32 := [(wF_32 x1 ch0 ch1 ch2 ch3 ch4 ch5 ch6 ch7), (wF_60 x1 ch0 ch1 ch2 ch3 ch4 ch5 ch6 ch7), (wF_94 x1 ch0 ch1 ch2 ch3 ch4 ch5 ch6 ch7), (wF_134 x1 ch0 ch1 ch2 ch3 ch4 ch5 ch6 ch7), (wF_180 x1 ch0 ch1 ch2 ch3 ch4 ch5 ch6 ch7), (wF_234 x1 ch0 ch1 ch2 ch3 ch4 ch5 ch6 ch7)]
def wF_296 (x1 : Int32) (ch0 : Int32) (ch1 : Int32) (ch2 : Int32) (ch3 : Int32) (ch4 : Int32) (ch5 : Int32) (ch6 : Int32) (ch7 : Int32) : Int32 := (nar .char ch6)
def csF_297 (x1 : Int32) (ch0 : Int32) (ch1 : Int32) (ch2 : Int32) (ch3 : Int32) (ch4 : Int32) (ch5 : Int32) (ch6 : Int32) (ch7 : Int32) : List Int32 := [(wF_32 x1 ch0 ch1 ch2 ch3 ch4 ch5 ch6 ch7), (wF_60 x1 ch0 ch1 ch2 ch3 ch4 ch5 ch6 ch7), (wF_94 x1 ch0 ch1 ch2 ch3 ch4 ch5 ch6 ch7), (wF_134 x1 ch0 ch1 ch2 ch3 ch4 ch5 ch6 ch7), (wF_180 x1 ch0 ch1 ch2 ch3 ch4 ch5 ch6 ch7), (wF_234 x1 ch0 ch1 ch2 ch3 ch4 ch5 ch6 ch7), (wF_296 x1 ch0 ch1 ch2 ch3 ch4 ch5 ch6 ch7)]
def csF_306 (x1 : Int32) (ch0 : Int32) (ch1 : Int32) (ch2 : Int32) (ch3 : Int32) (ch4 : Int32) (ch5 : Int32) (ch6 : Int32) (ch7 : Int32) : List Int32 := [ch0, ch1, ch2, ch3, ch4, ch5, ch6, ch7]
def own_cs (x1 ch0 ch1 ch2 ch3 ch4 ch5 ch6 ch7 : Int32) : List Int32 := if x1 = (0 : Int32) then [] else (if x1 = (1 : Int32) then csF_33 x1 ch0 ch1 ch2 ch3 ch4 ch5 ch6 ch7 else (if x1 = (2 : Int32) then csF_61 x1 ch0 ch1 ch2 ch3 ch4 ch5 ch6 ch7 else (if x1 = (3 : Int32) then csF_95 x1 ch0 ch1 ch2 ch3 ch4 ch5 ch6 ch7 else (if x1 = (4 : Int32) then csF_135 x1 ch0 ch1 ch2 ch3 ch4 ch5 ch6 ch7 else (if x1 = (5 : Int32) then csF_181 x1 ch0 ch1 ch2 ch3 ch4 ch5 ch6 ch7 else (if x1 = (6 : Int32) then csF_235 x1 ch0 ch1 ch2 ch3 ch4 ch5 ch6 ch7 else (if x1 = (7 : Int32) then csF_297 x1 ch0 ch1 ch2 ch3 ch4 ch5 ch6 ch7 else (csF_306 x1 ch0 ch1 ch2 ch3 ch4 ch5 ch6 ch7))))))))
def QMK (Z : State) (x1 ch0 ch1 ch2 ch3 ch4 ch5 ch6 ch7 : Int32) (h0 : Heap) (n0 : Nat) (v : Option Value) (h : Heap) (L : List Loc) : Prop := ∃ (b t : Addr) (k : ClassId), v = some (.ref b) ∧ Fr n0 L ∧ Keep h0 h [] ∧ h0.size ≤ b ∧ Exa Z h b "java/lang/String" ∧ Fld Z h b "java/lang/String" "coder" "B" (.int (0 : Int32)) ∧ Fld Z h b "java/lang/String" "value" "[B" (.ref t) ∧ Arv Z h t k .byte (Int32.ofNat (own_cs x1 ch0 ch1 ch2 ch3 ch4 ch5 ch6 ch7).length) (((own_cs x1 ch0 ch1 ch2 ch3 ch4 ch5 ch6 ch7).map (fun c => c.toInt8.toInt32)).map Value.int) (.int (0 : Int32))
set_option maxRecDepth 65536 in
set_option maxHeartbeats 40000000 in
theorem rmF (l : Launch) (Z : State) (a0 : Array Value) (hw : ∀ d ∈ tables_1, d.before a0 Z = true) (ws : List Jvm.Cond) (x0 : Addr) (x1 : Int32) (kc : ClassId) (ch0 : Int32) (ch1 : Int32) (ch2 : Int32) (ch3 : Int32) (ch4 : Int32) (ch5 : Int32) (ch6 : Int32) (ch7 : Int32) (G1 : Int32) (G3 : Value) (h0 : Heap) (n0 : Nat) (Z0 : n0 ≤ h0.size) (V_x0 : Arv Z h0 x0 kc .char (8 : Int32) [(.int ch0), (.int ch1), (.int ch2), (.int ch3), (.int ch4), (.int ch5), (.int ch6), (.int ch7)] (.int (0 : Int32))) (O0 : Old Z n0 h0) (O2 : Sta Z Z.heap "java/lang/String" "COMPACT_STRINGS" "Z" (.int G1)) (O4 : Sta Z Z.heap "jdk/internal/util/Preconditions" "SIOOBE_FORMATTER" "Ljava/util/function/BiFunction;" G3) (P5 : ¬ G1 = 0) (rG3 : G3.isRef = true) (pq0 : ¬ ch0 < 0 ∧ ¬ (255 : Int32) < ch0) (pq1 : ¬ ch1 < 0 ∧ ¬ (255 : Int32) < ch1) (pq2 : ¬ ch2 < 0 ∧ ¬ (255 : Int32) < ch2) (pq3 : ¬ ch3 < 0 ∧ ¬ (255 : Int32) < ch3) (pq4 : ¬ ch4 < 0 ∧ ¬ (255 : Int32) < ch4) (pq5 : ¬ ch5 < 0 ∧ ¬ (255 : Int32) < ch5) (pq6 : ¬ ch6 < 0 ∧ ¬ (255 : Int32) < ch6) (pq7 : ¬ ch7 < 0 ∧ ¬ (255 : Int32) < ch7) (pz0 : ¬ nar .char ch0 < 0 ∧ ¬ (255 : Int32) < nar .char ch0) (pz1 : ¬ nar .char ch1 < 0 ∧ ¬ (255 : Int32) < nar .char ch1) (pz2 : ¬ nar .char ch2 < 0 ∧ ¬ (255 : Int32) < nar .char ch2) (pz3 : ¬ nar .char ch3 < 0 ∧ ¬ (255 : Int32) < nar .char ch3) (pz4 : ¬ nar .char ch4 < 0 ∧ ¬ (255 : Int32) < nar .char ch4) (pz5 : ¬ nar .char ch5 < 0 ∧ ¬ (255 : Int32) < nar .char ch5) (pz6 : ¬ nar .char ch6 < 0 ∧ ¬ (255 : Int32) < nar .char ch6) (pz7 : ¬ nar .char ch7 < 0 ∧ ¬ (255 : Int32) < nar .char ch7) :
    MetFree l ym6 (head1 (Jvm.Cond.code ym6 method_5_code 2 (some (.object "java/lang/String")) :: ws) ({ frames := 4, cells := 4, slots := 18, locals := 66 } : Room)) (fun a U => a = #[(.ref x0), (.int x1)] ∧ Z.Warmed39 U.vm ∧ U.heap = h0 ∧ CHv Z consts_1 U.vm h0 ∧ ∀ x ∈ ([] : List Addr), Safe Z consts_1 U.vm h0 x) (fun _ _ _ _ _ => True) (fun _ U o U' => ∃ v L, o = .returned v ∧ (QMK Z x1 ch0 ch1 ch2 ch3 ch4 ch5 ch6 ch7 h0 n0) v U'.heap L ∧ CHr Z consts_1 U.vm h0 U'.vm U'.heap ∧ ReturnedEndW U o U' L ({ frames := 4, cells := 4, slots := 18, locals := 66 } : Room).cells ({ frames := 4, cells := 4, slots := 18, locals := 66 } : Room).slots) := by
  refine MetFree.of_bodySF (plainFor_of_name pnF) hisR ?_
  intro p e s m args below meth c s₁ Bd hml0 hP hK
  obtain ⟨rfl, hZ, hh, hCH0, hSF⟩ := hP
  have hx := Bd.exec
  have hby := Bd.bytes
  have hml : c.maxLocals = 2 := hml0
  have hlk : meth.locks = false := BodyLoose.notSynchronized Bd
  have hown : s.vm.findClass "com/example/upcaster/upcaster/io/CodecNamedPinLaw" = some m.cls := findClass_of_methodNamed Bd.named
  have hnm := (name_of_methodNamed Bd.named Bd.method).1
  have w_0 := hw _ (List.mem_of_getElem? (i := 0) rfl)
  have w_6 := hw _ (List.mem_of_getElem? (i := 6) rfl)
  have w_7 := hw _ (List.mem_of_getElem? (i := 7) rfl)
  have w_9 := hw _ (List.mem_of_getElem? (i := 9) rfl)
  have w_10 := hw _ (List.mem_of_getElem? (i := 10) rfl)
  have w_38 := hw _ (List.mem_of_getElem? (i := 38) rfl)
  have w_49 := hw _ (List.mem_of_getElem? (i := 49) rfl)
  have w_50 := hw _ (List.mem_of_getElem? (i := 50) rfl)
  have w_51 := hw _ (List.mem_of_getElem? (i := 51) rfl)
  have w_52 := hw _ (List.mem_of_getElem? (i := 52) rfl)
  have hci : ∀ i v, (i, v) ∈ ([] : List (Nat × Int32)) → (Jvm.Cond.constant "com/example/upcaster/upcaster/io/CodecNamedPinLaw" i v).before #[(.ref x0), (.int x1)] s = true := own_ci0
  have hcl : ∀ i v, (i, v) ∈ ([(45, 255)] : List (Nat × Int64)) → (Jvm.Cond.constantLong "com/example/upcaster/upcaster/io/CodecNamedPinLaw" i v).before #[(.ref x0), (.int x1)] s = true := (own_ciS (mvT hZ w_38) own_ci0)
  have X0 : Stand p l e ({ frames := 4, cells := 4, slots := 18, locals := 66 } : Room) s m #[(.ref x0), (.int x1)] below meth c s₁ [] 0 0 := Stand.of_body Bd
  have e0 : s₁.heap = h0 := by rw [← hh, Bd.state]; rfl
  have N0 := Fr.nil n0
  show GoesH Z h0 p e below s (QMK Z x1 ch0 ch1 ch2 ch3 ch4 ch5 ch6 ch7 h0 n0) ({ frames := 4, cells := 4, slots := 18, locals := 66 } : Room).cells ({ frames := 4, cells := 4, slots := 18, locals := 66 } : Room).slots (s₁.setTop (entryFrame m #[(.ref x0), (.int x1)] 2))
  refine GoesH.cast (efF m x0 x1) ?_
  have hEL := own_EL hw
  have Sn0 : s.Since s.vm s.heap.size := own_since s
  have hk0 : s.heap.size ≤ h0.size := Nat.le_of_eq (congrArg Array.size hh)
  have X0 : Stand p l e ({ frames := 4, cells := 4, slots := 18, locals := 66 } : Room) (s.setVm s.vm) m #[(.ref x0), (.int x1)] below meth c s₁ [] 0 0 := X0
  have CH0 : CHr Z consts_1 s.vm h0 s.vm h0 := CHr.refl hCH0
  have K0 : Keep h0 h0 [] := Keep.refl h0 _
  refine GoesH.run X0 hx hown hci hcl hby (L := [(0, .iload_n 1, 1)]) (by decide +kernel) rfl (g' := (mkF m 1 #[rv x0, iv x1] [(.int x1)])) rfl ?_
  by_cases hc1_1 : x1 = (0 : Int32)
  · skip
    refine GoesH.st (B := s₁.setTop (mkF m 4 #[rv x0, iv x1] [])) (fun t k => ?_) ?_
    · refine XS.ifNo X0.here hx rfl (hb hby d6_1) rfl ((if0 _ _).trans (teq hc1_1).2) ?_
      exact k
    obtain ⟨T2, h2, X2, e2, E2, A2, D2, -, st2⟩ := newO X0 hx hZ hown w_49 w_7 w_6 e0 (g := (mkF m 4 #[rv x0, iv x1] [])) rfl (hb hby d6_4) (by decide) (by decide)
    obtain ⟨b2, g2⟩ : ∃ z, z = h0.size := ⟨_, rfl⟩
    rw [← g2] at A2 D2 st2
    have ne_x0_b2 : x0 ≠ b2 := Nat.ne_of_lt (Nat.lt_of_lt_of_le V_x0.lt (Nat.le_of_eq g2.symm))
    have g_b2 : n0 ≤ b2 := Nat.le_trans Z0 (Nat.le_of_eq g2.symm)
    have sz_b2 : h0.size ≤ b2 := Nat.le_trans K0.1 (Nat.le_of_eq g2.symm)
    have sf_b2 : Safe Z consts_1 s.vm h0 b2 := Safe.new (Nat.le_of_eq g2.symm)
    have sf_b2 := Safe.ext E2 CH0.1 sf_b2
    have CH2 := CH0.trans (CHr.ext E2 CH0.1)
    have V_x0 := V_x0.ext E2
    have Zn2 : n0 ≤ h2.size := Nat.le_trans Z0 E2.1
    have K2 := K0.ext E2
    have Od2 := O0.ext E2
    have hk2e := Nat.le_trans hk0 E2.1
    have E_b2 : Exa Z h2 b2 "java/lang/String" := A2
    have F_value_b2 : Fld Z h2 b2 "java/lang/String" "value" "[B" .null := D2 (Or.inr w_9) (ty := (.array .byte)) (by decide)
    have F_coder_b2 : Fld Z h2 b2 "java/lang/String" "coder" "B" (.int (0 : Int32)) := D2 (Or.inr w_10) (ty := .byte) (by decide)
    refine GoesH.st (B := T2.setTop (mkF m 7 #[rv x0, iv x1] [(.ref b2)])) st2 ?_
    refine GoesH.run X2 hx hown hci hcl hby (L := [(7, .dup, 1), (8, .iconst 0, 1)]) (by decide +kernel) rfl (g' := (mkF m 9 #[rv x0, iv x1] [(.int (0 : Int32)), (.ref b2), (.ref b2)])) rfl ?_
    obtain ⟨T3, h3, k3, X3, e3, E3, A3, B3, st3⟩ := newPE X2 hx hZ (aty := .char) w_0 e2 (g := (mkF m 9 #[rv x0, iv x1] [(.int (0 : Int32)), (.ref b2), (.ref b2)])) rfl (hb hby d6_9) rfl (by decide) (cap := 0) (by decide) (by decide) (by decide) (by decide) (ad := "[C") (by decide)
    obtain ⟨b3, g3⟩ : ∃ z, z = h2.size := ⟨_, rfl⟩
    rw [← g3] at A3 B3 st3
    have ne_x0_b3 : x0 ≠ b3 := Nat.ne_of_lt (Nat.lt_of_lt_of_le V_x0.lt (Nat.le_of_eq g3.symm))
    have ne_b2_b3 : b2 ≠ b3 := Nat.ne_of_lt (Nat.lt_of_lt_of_le E_b2.lt (Nat.le_of_eq g3.symm))
    have g_b3 : n0 ≤ b3 := Nat.le_trans Zn2 (Nat.le_of_eq g3.symm)
    have sz_b3 : h0.size ≤ b3 := Nat.le_trans K2.1 (Nat.le_of_eq g3.symm)
    have sf_b2 := Safe.ext E3 CH2.1 sf_b2
    have CH3 := CH2.trans (CHr.ext E3 CH2.1)
    have V_x0 := V_x0.ext E3
    have E_b2 := E_b2.ext E3
    have F_value_b2 := F_value_b2.ext E3
    have F_coder_b2 := F_coder_b2.ext E3
    have Zn3 : n0 ≤ h3.size := Nat.le_trans Zn2 E3.1
    have K3 := K2.ext E3
    have Od3 := Od2.ext E3
    have hk3e := Nat.le_trans hk2e E3.1
    have E_b3 : Exa Z h3 b3 "[C" := B3
    have V_b3 : Arv Z h3 b3 k3 .char (0 : Int32) [] (.int (0 : Int32)) := (Arv.new A3 (by decide)).pad (pad_rep [] (.int (0 : Int32)) 0)
    refine GoesH.st (B := T3.setTop (mkF m 11 #[rv x0, iv x1] [(.ref b3), (.ref b2), (.ref b2)])) st3 ?_
    obtain ⟨_, _, ⟨T4, L4, k4, n4⟩, -, X4, Sq4, gq4, ⟨Lc4, hQ4, l4, y4, z4, CHq4⟩, st4⟩ := X3.specialBackS hx (y := ym5) rfl hown (mvT hZ w_50) (mvT hZ w_51) (mvT hZ w_52) (by decide) (own_backH (W := 1) (rmE l Z a0 hw [] b2 b3 k3 h3 n0 Zn3 E_b2 F_value_b2 F_coder_b2 V_b3 g_b2 ne_b2_b3) hZ w_52 w_6 (by decide) (by decide) hEL CH3.1 (own_sfS E_b2.lt sf_b2 own_sf0)) (g := (mkF m 11 #[rv x0, iv x1] [(.ref b3), (.ref b2), (.ref b2)])) rfl (by rw [hml]; rfl) (Steps.refl _) (a := b2) (argsL := [(.ref b3)]) (rest := [(.ref b2)]) (lenOf pdF_0 rfl) rfl (by show 2 * 0 + _ ≤ _; exact Nat.le_of_eq rfl) (hb hby d6_11) (fun _ _ => ⟨rfl, e3, (by decide : 2 + 2 ≤ _), (by decide : 4 + 4 ≤ _)⟩)
    dsimp only [Pt.U, Pt.locs, Pt.cells, Pt.slots] at X4 l4 y4 z4 st4 hQ4 Sq4 gq4 CHq4
    subst l4 y4 z4
    obtain ⟨h4, eh4⟩ : ∃ z, z = T4.heap := ⟨_, rfl⟩
    rw [← eh4] at hQ4 CHq4
    have e4 : T4.heap = h4 := eh4.symm
    have X4 := (show Stand p l e ({ frames := 4, cells := 4, slots := 18, locals := 66 } : Room) (s.setVm T4.vm) m #[(.ref x0), (.int x1)] below meth c T4 _ _ _ from X4)
    have Sn4 : s.Since T4.vm h4.size := by rw [← e4]; exact foldS Sn0 (by rw [e3]; exact hk3e) Sq4 gq4
    have hk4 : h4.size ≤ h4.size := Nat.le_refl _
    have hZ : Z.Warmed39 (s.setVm T4.vm).vm := State.Warmed39.trans (t := (s.setVm s.vm)) hZ Sq4.1
    have hown : (s.setVm T4.vm).vm.findClass "com/example/upcaster/upcaster/io/CodecNamedPinLaw" = some m.cls := by rw [show (s.setVm T4.vm).vm = T4.vm from rfl, Sq4.1.alike.findClass]; exact hown
    have sf_b2 := CHq4.safe E_b2.lt sf_b2
    have CH4 := CH3.trans CHq4
    obtain ⟨t4, kt4, rfl, N4q, Kq4, o4_0, o4_1, o4_2, o4_3⟩ := hQ4
    have N4 := Fr.app N0 N4q
    have V_x0 := V_x0.keep Kq4 (ninS ne_x0_b2 nin0)
    have E_b2 := E_b2.keep Kq4
    have E_b3 := E_b3.keep Kq4
    have V_b3 := V_b3.keep Kq4 (ninS (Ne.symm ne_b2_b3) nin0)
    have Zn4 : n0 ≤ h4.size := Nat.le_trans Zn3 Kq4.1
    have hk4e := Nat.le_trans hk3e Kq4.1
    have K4 := K3.trans Kq4 ((allS (Or.inr sz_b2) all0))
    have Od4 := Od3.keep Kq4 (allS g_b2 all0)
    have E_b2 : Exa Z h4 b2 "java/lang/String" := o4_0
    have F_coder_b2 : Fld Z h4 b2 "java/lang/String" "coder" "B" (.int (0 : Int32)) := o4_1
    have F_value_b2 : Fld Z h4 b2 "java/lang/String" "value" "[B" (.ref t4) := o4_2
    have V_t4 : Arv Z h4 t4 kt4 .byte (0 : Int32) ((([] : List Int32).map (fun c => c.toInt8.toInt32)).map Value.int) (.int (0 : Int32)) := o4_3
    have hci : ∀ i v, (i, v) ∈ ([] : List (Nat × Int32)) → (Jvm.Cond.constant "com/example/upcaster/upcaster/io/CodecNamedPinLaw" i v).before #[(.ref x0), (.int x1)] (s.setVm T4.vm) = true := own_ci0
    have hcl : ∀ i v, (i, v) ∈ ([(45, 255)] : List (Nat × Int64)) → (Jvm.Cond.constantLong "com/example/upcaster/upcaster/io/CodecNamedPinLaw" i v).before #[(.ref x0), (.int x1)] (s.setVm T4.vm) = true := (own_ciS (mvT hZ w_38) own_ci0)
    refine GoesH.st (B := T4.setTop (mkF m 14 #[rv x0, iv x1] [(.ref b2)])) (fun t k => st4.trans k) ?_
    exact GoesH.retR X4 Sn4 (by rw [e4]; exact hk4) (by rw [e4]; exact CH4) hZ hEL hx hlk Bd.returns rfl rfl (hb hby d6_14) (by show QMK Z x1 ch0 ch1 ch2 ch3 ch4 ch5 ch6 ch7 h0 n0 _ _ _; rw [e4]; have q : own_cs x1 ch0 ch1 ch2 ch3 ch4 ch5 ch6 ch7 = ([] : List Int32) := (if_pos hc1_1); unfold QMK; rw [q]; exact ⟨b2, t4, kt4, rfl, N4, K4, sz_b2, E_b2, F_coder_b2, F_value_b2, V_t4⟩) (by decide) (by decide)
  · skip
    refine GoesH.st (B := s₁.setTop (mkF m 15 #[rv x0, iv x1] [])) (fun t k => ?_) ?_
    · refine XS.ifYes X0.here hx rfl (pc0 := 1) (pc' := 15) rfl (hb hby d6_1) rfl ((if0 _ _).trans (feq hc1_1).2) (by decide) (by decide) ?_
      exact k
    refine GoesH.run X0 hx hown hci hcl hby (L := [(15, .iload_n 1, 1), (16, .iconst 1, 1)]) (by decide +kernel) rfl (g' := (mkF m 17 #[rv x0, iv x1] [(.int (1 : Int32)), (.int x1)])) rfl ?_
    by_cases hc17_5 : x1 = (1 : Int32)
    · skip
      refine GoesH.st (B := s₁.setTop (mkF m 20 #[rv x0, iv x1] [])) (fun t k => ?_) ?_
      · refine XS.icmpNo X0.here hx rfl (hb hby d6_17) rfl (teq hc17_5).2 ?_
        exact k
      obtain ⟨T6, h6, X6, e6, E6, A6, D6, -, st6⟩ := newO X0 hx hZ hown w_49 w_7 w_6 e0 (g := (mkF m 20 #[rv x0, iv x1] [])) rfl (hb hby d6_20) (by decide) (by decide)
      obtain ⟨b6, g6⟩ : ∃ z, z = h0.size := ⟨_, rfl⟩
      rw [← g6] at A6 D6 st6
      have ne_x0_b6 : x0 ≠ b6 := Nat.ne_of_lt (Nat.lt_of_lt_of_le V_x0.lt (Nat.le_of_eq g6.symm))
      have g_b6 : n0 ≤ b6 := Nat.le_trans Z0 (Nat.le_of_eq g6.symm)
      have sz_b6 : h0.size ≤ b6 := Nat.le_trans K0.1 (Nat.le_of_eq g6.symm)
      have sf_b6 : Safe Z consts_1 s.vm h0 b6 := Safe.new (Nat.le_of_eq g6.symm)
      have sf_b6 := Safe.ext E6 CH0.1 sf_b6
      have CH6 := CH0.trans (CHr.ext E6 CH0.1)
      have V_x0 := V_x0.ext E6
      have Zn6 : n0 ≤ h6.size := Nat.le_trans Z0 E6.1
      have K6 := K0.ext E6
      have Od6 := O0.ext E6
      have hk6e := Nat.le_trans hk0 E6.1
      have E_b6 : Exa Z h6 b6 "java/lang/String" := A6
      have F_value_b6 : Fld Z h6 b6 "java/lang/String" "value" "[B" .null := D6 (Or.inr w_9) (ty := (.array .byte)) (by decide)
      have F_coder_b6 : Fld Z h6 b6 "java/lang/String" "coder" "B" (.int (0 : Int32)) := D6 (Or.inr w_10) (ty := .byte) (by decide)
      refine GoesH.st (B := T6.setTop (mkF m 23 #[rv x0, iv x1] [(.ref b6)])) st6 ?_
      refine GoesH.run X6 hx hown hci hcl hby (L := [(23, .dup, 1), (24, .iconst 1, 1)]) (by decide +kernel) rfl (g' := (mkF m 25 #[rv x0, iv x1] [(.int (1 : Int32)), (.ref b6), (.ref b6)])) rfl ?_
      obtain ⟨T7, h7, k7, X7, e7, E7, A7, B7, st7⟩ := newPE X6 hx hZ (aty := .char) w_0 e6 (g := (mkF m 25 #[rv x0, iv x1] [(.int (1 : Int32)), (.ref b6), (.ref b6)])) rfl (hb hby d6_25) rfl (by decide) (cap := 1) (by decide) (by decide) (by decide) (by decide) (ad := "[C") (by decide)
      obtain ⟨b7, g7⟩ : ∃ z, z = h6.size := ⟨_, rfl⟩
      rw [← g7] at A7 B7 st7
      have ne_b6_b7 : b6 ≠ b7 := Nat.ne_of_lt (Nat.lt_of_lt_of_le E_b6.lt (Nat.le_of_eq g7.symm))
      have ne_x0_b7 : x0 ≠ b7 := Nat.ne_of_lt (Nat.lt_of_lt_of_le V_x0.lt (Nat.le_of_eq g7.symm))
      have g_b7 : n0 ≤ b7 := Nat.le_trans Zn6 (Nat.le_of_eq g7.symm)
      have sz_b7 : h0.size ≤ b7 := Nat.le_trans K6.1 (Nat.le_of_eq g7.symm)
      have sf_b6 := Safe.ext E7 CH6.1 sf_b6
      have CH7 := CH6.trans (CHr.ext E7 CH6.1)
      have V_x0 := V_x0.ext E7
      have E_b6 := E_b6.ext E7
      have F_value_b6 := F_value_b6.ext E7
      have F_coder_b6 := F_coder_b6.ext E7
      have Zn7 : n0 ≤ h7.size := Nat.le_trans Zn6 E7.1
      have K7 := K6.ext E7
      have Od7 := Od6.ext E7
      have hk7e := Nat.le_trans hk6e E7.1
      have E_b7 : Exa Z h7 b7 "[C" := B7
      have V_b7 : Arv Z h7 b7 k7 .char (1 : Int32) [(.int (0 : Int32))] (.int (0 : Int32)) := (Arv.new A7 (by decide)).pad (pad_rep [] (.int (0 : Int32)) 1)
      refine GoesH.st (B := T7.setTop (mkF m 27 #[rv x0, iv x1] [(.ref b7), (.ref b6), (.ref b6)])) st7 ?_
      refine GoesH.run X7 hx hown hci hcl hby (L := [(27, .dup, 1), (28, .iconst 0, 1), (29, .aload_n 0, 1), (30, .iconst 0, 1)]) (by decide +kernel) rfl (g' := (mkF m 31 #[rv x0, iv x1] [(.int (0 : Int32)), (.ref x0), (.int (0 : Int32)), (.ref b7), (.ref b7), (.ref b6), (.ref b6)])) rfl ?_
      obtain ⟨cl8, Ar8, q8, S8, M8, Hs8, G8⟩ := id V_x0
      have hin8 : ¬ ((0 : Int32) < 0 ∨ cl8.slots.size ≤ ((0 : Int32)).toNatClampNeg) := inb_of S8 ⟨(by decide), (by decide)⟩
      have hat8 : cl8.slots[((0 : Int32)).toNatClampNeg]? = some (.int ch0) := Hs8.at hin8 rfl
      refine GoesH.st (B := T7.setTop (mkF m 32 #[rv x0, iv x1] [(.int ch0), (.int (0 : Int32)), (.ref b7), (.ref b7), (.ref b6), (.ref b6)])) (X7.caload hx (j := (0 : Int32)) (v := (.int ch0)) (by rw [e7]; exact Ar8.1) (State.isArrayOf_alike hZ.alike Ar8.2.1) Ar8.2.2 hin8 hat8 (g := (mkF m 31 #[rv x0, iv x1] [(.int (0 : Int32)), (.ref x0), (.int (0 : Int32)), (.ref b7), (.ref b7), (.ref b6), (.ref b6)])) rfl rfl (hb hby d6_31)) ?_
      obtain ⟨cl9, Ar9, q9, S9, M9, Hs9, G9⟩ := id V_b7
      have hin9 : ¬ ((0 : Int32) < 0 ∨ cl9.slots.size ≤ ((0 : Int32)).toNatClampNeg) := inb_of S9 ⟨(by decide), (by decide)⟩
      obtain ⟨T9, h9, X9, e9, W9, st9⟩ := stC X7 hx hZ e7 Ar9 (j := (0 : Int32)) hin9 (g := (mkF m 32 #[rv x0, iv x1] [(.int ch0), (.int (0 : Int32)), (.ref b7), (.ref b7), (.ref b6), (.ref b6)])) rfl rfl (hb hby d6_32)
      have sk9 := ((Safe.arv hZ.alike V_b7 (by decide)) : Safe Z consts_1 s.vm h7 b7)
      have sf_b6 := Safe.wr W9 sk9 CH7.1 sf_b6
      have CH9 := CH7.trans (CHr.wr W9 sk9 CH7.1)
      have V_x0 := V_x0.other W9 ne_x0_b7
      have E_b6 := E_b6.wr W9
      have F_value_b6 := F_value_b6.other W9 (Or.inl ne_b6_b7)
      have F_coder_b6 := F_coder_b6.other W9 (Or.inl ne_b6_b7)
      have E_b7 := E_b7.wr W9
      have Zn9 : n0 ≤ h9.size := Nat.le_trans Zn7 (Keep.of_wr W9).1
      have K9 := K7.wr W9 (Or.inr sz_b7)
      have Od9 := Od7.wr W9 g_b7
      have hk9e := Nat.le_trans hk7e (Keep.of_wr W9).1
      have N9 := Fr.snoc X9 N0 g_b7
      have V_b7 : Arv Z h9 b7 k7 .char (1 : Int32) [(.int (wF_32 x1 ch0 ch1 ch2 ch3 ch4 ch5 ch6 ch7))] (.int (0 : Int32)) := Arv.set Ar9 q9 S9 M9 Hs9 G9 (fits_nar_char _) W9 0 rfl (Nat.le_of_ble_eq_true rfl)
      refine GoesH.st (B := T9.setTop (mkF m 33 #[rv x0, iv x1] [(.ref b7), (.ref b6), (.ref b6)])) st9 ?_
      have hp_b6 : ∀ c ∈ (csF_33 x1 ch0 ch1 ch2 ch3 ch4 ch5 ch6 ch7), ¬ c < 0 ∧ ¬ (255 : Int32) < c := (own_alS pz0 own_al0)
      obtain ⟨_, _, ⟨T10, L10, k10, n10⟩, -, X10, ⟨Lc10, hQ10, l10, y10, z10⟩, st10⟩ := X9.specialBack hx (y := ym5) rfl hown (mvT hZ w_50) (mvT hZ w_51) (mvT hZ w_52) (by decide) (StrChars.Road.backV (W := 1) hZ (own_hws hw) (kI := 4) w_7 (cs := (csF_33 x1 ch0 ch1 ch2 ch3 ch4 ch5 ch6 ch7)) (bs := ((csF_33 x1 ch0 ch1 ch2 ch3 ch4 ch5 ch6 ch7).map (fun c => c.toInt8.toInt32))) (n := 1) g_b6 Zn9 E_b6 F_value_b6 F_coder_b6 V_b7 (O2.ext Od9.2) P5 rfl rfl (by decide) (by decide) hp_b6 rfl (by decide) (by decide)) (g := (mkF m 33 #[rv x0, iv x1] [(.ref b7), (.ref b6), (.ref b6)])) rfl (by rw [hml]; rfl) (Steps.refl _) (a := b6) (argsL := [(.ref b7)]) (rest := [(.ref b6)]) (lenOf pdF_0 rfl) rfl (by show 2 * 0 + _ ≤ _; exact Nat.le_of_eq rfl) (hb hby d6_33) (fun _ _ => ⟨rfl, e9, (by decide : 2 + 1 ≤ _), (by decide : 5 + 1 ≤ _)⟩)
      dsimp only [Pt.U, Pt.locs, Pt.cells, Pt.slots] at X10 l10 y10 z10 st10 hQ10
      subst l10 y10 z10
      obtain ⟨h10, eh10⟩ : ∃ z, z = T10.heap := ⟨_, rfl⟩
      rw [← eh10] at hQ10
      have e10 : T10.heap = h10 := eh10.symm
      obtain ⟨rfl, N10q, Kq10, o10_e, o10_c, t10, kb10, u10, szr10, nw10, o10_v, o10_a⟩ := hQ10
      have ne_b6_t10 : b6 ≠ t10 := Nat.ne_of_lt (Nat.lt_of_lt_of_le E_b6.lt szr10)
      have ne_b7_t10 : b7 ≠ t10 := Nat.ne_of_lt (Nat.lt_of_lt_of_le E_b7.lt szr10)
      have ne_x0_t10 : x0 ≠ t10 := Nat.ne_of_lt (Nat.lt_of_lt_of_le V_x0.lt szr10)
      have g_t10 : n0 ≤ t10 := Nat.le_trans Zn9 szr10
      have sz_t10 : h0.size ≤ t10 := Nat.le_trans K9.1 szr10
      have N10 := Fr.app N9 N10q
      have sk10 : ∀ x ∈ [b6], Safe Z consts_1 s.vm h9 x := (sfS sf_b6 sf0)
      have sf_b6 := Safe.keep Kq10 sk10 CH9.1 sf_b6
      have CH10 := CH9.trans (CHr.keep Kq10 sk10 CH9.1)
      have V_x0 := V_x0.keep Kq10 (ninS ne_x0_b6 nin0)
      have E_b6 := E_b6.keep Kq10
      have E_b7 := E_b7.keep Kq10
      have V_b7 := V_b7.keep Kq10 (ninS (Ne.symm ne_b6_b7) nin0)
      have Zn10 : n0 ≤ h10.size := Nat.le_trans Zn9 Kq10.1
      have hk10e := Nat.le_trans hk9e Kq10.1
      have K10 := K9.trans Kq10 ((allS (Or.inr sz_b6) all0))
      have Od10 := Od9.keep Kq10 (allS g_b6 all0)
      have F_coder_b6 : Fld Z h10 b6 "java/lang/String" "coder" "B" (.int (0 : Int32)) := o10_c
      have F_value_b6 : Fld Z h10 b6 "java/lang/String" "value" "[B" (.ref t10) := o10_v
      have V_t10 : Arv Z h10 t10 kb10 .byte (1 : Int32) (((csF_33 x1 ch0 ch1 ch2 ch3 ch4 ch5 ch6 ch7).map (fun c => c.toInt8.toInt32)).map Value.int) (.int (0 : Int32)) := o10_a
      refine GoesH.st (B := T10.setTop (mkF m 36 #[rv x0, iv x1] [(.ref b6)])) (fun t k => st10.trans k) ?_
      exact GoesH.retR X10 Sn0 (by rw [e10]; exact hk10e) (by rw [e10]; exact CH10) hZ hEL hx hlk Bd.returns rfl rfl (hb hby d6_36) (by show QMK Z x1 ch0 ch1 ch2 ch3 ch4 ch5 ch6 ch7 h0 n0 _ _ _; rw [e10]; have q : own_cs x1 ch0 ch1 ch2 ch3 ch4 ch5 ch6 ch7 = (csF_33 x1 ch0 ch1 ch2 ch3 ch4 ch5 ch6 ch7) := ((if_neg hc1_1).trans (if_pos hc17_5)); unfold QMK; rw [q]; exact ⟨b6, t10, kb10, rfl, N10, K10, sz_b6, E_b6, F_coder_b6, F_value_b6, V_t10⟩) (by decide) (by decide)
    · skip
      refine GoesH.st (B := s₁.setTop (mkF m 37 #[rv x0, iv x1] [])) (fun t k => ?_) ?_
      · refine XS.icmpYes X0.here hx rfl (pc0 := 17) (pc' := 37) rfl (hb hby d6_17) rfl (feq hc17_5).2 (by decide) (by decide) ?_
        exact k
      refine GoesH.run X0 hx hown hci hcl hby (L := [(37, .iload_n 1, 1), (38, .iconst 2, 1)]) (by decide +kernel) rfl (g' := (mkF m 39 #[rv x0, iv x1] [(.int (2 : Int32)), (.int x1)])) rfl ?_
      by_cases hc39_11 : x1 = (2 : Int32)
      · skip
        refine GoesH.st (B := s₁.setTop (mkF m 42 #[rv x0, iv x1] [])) (fun t k => ?_) ?_
        · refine XS.icmpNo X0.here hx rfl (hb hby d6_39) rfl (teq hc39_11).2 ?_
          exact k
        obtain ⟨T12, h12, X12, e12, E12, A12, D12, -, st12⟩ := newO X0 hx hZ hown w_49 w_7 w_6 e0 (g := (mkF m 42 #[rv x0, iv x1] [])) rfl (hb hby d6_42) (by decide) (by decide)
        obtain ⟨b12, g12⟩ : ∃ z, z = h0.size := ⟨_, rfl⟩
        rw [← g12] at A12 D12 st12
        have ne_x0_b12 : x0 ≠ b12 := Nat.ne_of_lt (Nat.lt_of_lt_of_le V_x0.lt (Nat.le_of_eq g12.symm))
        have g_b12 : n0 ≤ b12 := Nat.le_trans Z0 (Nat.le_of_eq g12.symm)
        have sz_b12 : h0.size ≤ b12 := Nat.le_trans K0.1 (Nat.le_of_eq g12.symm)
        have sf_b12 : Safe Z consts_1 s.vm h0 b12 := Safe.new (Nat.le_of_eq g12.symm)
        have sf_b12 := Safe.ext E12 CH0.1 sf_b12
        have CH12 := CH0.trans (CHr.ext E12 CH0.1)
        have V_x0 := V_x0.ext E12
        have Zn12 : n0 ≤ h12.size := Nat.le_trans Z0 E12.1
        have K12 := K0.ext E12
        have Od12 := O0.ext E12
        have hk12e := Nat.le_trans hk0 E12.1
        have E_b12 : Exa Z h12 b12 "java/lang/String" := A12
        have F_value_b12 : Fld Z h12 b12 "java/lang/String" "value" "[B" .null := D12 (Or.inr w_9) (ty := (.array .byte)) (by decide)
        have F_coder_b12 : Fld Z h12 b12 "java/lang/String" "coder" "B" (.int (0 : Int32)) := D12 (Or.inr w_10) (ty := .byte) (by decide)
        refine GoesH.st (B := T12.setTop (mkF m 45 #[rv x0, iv x1] [(.ref b12)])) st12 ?_
        refine GoesH.run X12 hx hown hci hcl hby (L := [(45, .dup, 1), (46, .iconst 2, 1)]) (by decide +kernel) rfl (g' := (mkF m 47 #[rv x0, iv x1] [(.int (2 : Int32)), (.ref b12), (.ref b12)])) rfl ?_
        obtain ⟨T13, h13, k13, X13, e13, E13, A13, B13, st13⟩ := newPE X12 hx hZ (aty := .char) w_0 e12 (g := (mkF m 47 #[rv x0, iv x1] [(.int (2 : Int32)), (.ref b12), (.ref b12)])) rfl (hb hby d6_47) rfl (by decide) (cap := 2) (by decide) (by decide) (by decide) (by decide) (ad := "[C") (by decide)
        obtain ⟨b13, g13⟩ : ∃ z, z = h12.size := ⟨_, rfl⟩
        rw [← g13] at A13 B13 st13
        have ne_b12_b13 : b12 ≠ b13 := Nat.ne_of_lt (Nat.lt_of_lt_of_le E_b12.lt (Nat.le_of_eq g13.symm))
        have ne_x0_b13 : x0 ≠ b13 := Nat.ne_of_lt (Nat.lt_of_lt_of_le V_x0.lt (Nat.le_of_eq g13.symm))
        have g_b13 : n0 ≤ b13 := Nat.le_trans Zn12 (Nat.le_of_eq g13.symm)
        have sz_b13 : h0.size ≤ b13 := Nat.le_trans K12.1 (Nat.le_of_eq g13.symm)
        have sf_b12 := Safe.ext E13 CH12.1 sf_b12
        have CH13 := CH12.trans (CHr.ext E13 CH12.1)
        have V_x0 := V_x0.ext E13
        have E_b12 := E_b12.ext E13
        have F_value_b12 := F_value_b12.ext E13
        have F_coder_b12 := F_coder_b12.ext E13
        have Zn13 : n0 ≤ h13.size := Nat.le_trans Zn12 E13.1
        have K13 := K12.ext E13
        have Od13 := Od12.ext E13
        have hk13e := Nat.le_trans hk12e E13.1
        have E_b13 : Exa Z h13 b13 "[C" := B13
        have V_b13 : Arv Z h13 b13 k13 .char (2 : Int32) [(.int (0 : Int32)), (.int (0 : Int32))] (.int (0 : Int32)) := (Arv.new A13 (by decide)).pad (pad_rep [] (.int (0 : Int32)) 2)
        refine GoesH.st (B := T13.setTop (mkF m 49 #[rv x0, iv x1] [(.ref b13), (.ref b12), (.ref b12)])) st13 ?_
        refine GoesH.run X13 hx hown hci hcl hby (L := [(49, .dup, 1), (50, .iconst 0, 1), (51, .aload_n 0, 1), (52, .iconst 0, 1)]) (by decide +kernel) rfl (g' := (mkF m 53 #[rv x0, iv x1] [(.int (0 : Int32)), (.ref x0), (.int (0 : Int32)), (.ref b13), (.ref b13), (.ref b12), (.ref b12)])) rfl ?_
        obtain ⟨cl14, Ar14, q14, S14, M14, Hs14, G14⟩ := id V_x0
        have hin14 : ¬ ((0 : Int32) < 0 ∨ cl14.slots.size ≤ ((0 : Int32)).toNatClampNeg) := inb_of S14 ⟨(by decide), (by decide)⟩
        have hat14 : cl14.slots[((0 : Int32)).toNatClampNeg]? = some (.int ch0) := Hs14.at hin14 rfl
        refine GoesH.st (B := T13.setTop (mkF m 54 #[rv x0, iv x1] [(.int ch0), (.int (0 : Int32)), (.ref b13), (.ref b13), (.ref b12), (.ref b12)])) (X13.caload hx (j := (0 : Int32)) (v := (.int ch0)) (by rw [e13]; exact Ar14.1) (State.isArrayOf_alike hZ.alike Ar14.2.1) Ar14.2.2 hin14 hat14 (g := (mkF m 53 #[rv x0, iv x1] [(.int (0 : Int32)), (.ref x0), (.int (0 : Int32)), (.ref b13), (.ref b13), (.ref b12), (.ref b12)])) rfl rfl (hb hby d6_53)) ?_
        obtain ⟨cl15, Ar15, q15, S15, M15, Hs15, G15⟩ := id V_b13
        have hin15 : ¬ ((0 : Int32) < 0 ∨ cl15.slots.size ≤ ((0 : Int32)).toNatClampNeg) := inb_of S15 ⟨(by decide), (by decide)⟩
        obtain ⟨T15, h15, X15, e15, W15, st15⟩ := stC X13 hx hZ e13 Ar15 (j := (0 : Int32)) hin15 (g := (mkF m 54 #[rv x0, iv x1] [(.int ch0), (.int (0 : Int32)), (.ref b13), (.ref b13), (.ref b12), (.ref b12)])) rfl rfl (hb hby d6_54)
        have sk15 := ((Safe.arv hZ.alike V_b13 (by decide)) : Safe Z consts_1 s.vm h13 b13)
        have sf_b12 := Safe.wr W15 sk15 CH13.1 sf_b12
        have CH15 := CH13.trans (CHr.wr W15 sk15 CH13.1)
        have V_x0 := V_x0.other W15 ne_x0_b13
        have E_b12 := E_b12.wr W15
        have F_value_b12 := F_value_b12.other W15 (Or.inl ne_b12_b13)
        have F_coder_b12 := F_coder_b12.other W15 (Or.inl ne_b12_b13)
        have E_b13 := E_b13.wr W15
        have Zn15 : n0 ≤ h15.size := Nat.le_trans Zn13 (Keep.of_wr W15).1
        have K15 := K13.wr W15 (Or.inr sz_b13)
        have Od15 := Od13.wr W15 g_b13
        have hk15e := Nat.le_trans hk13e (Keep.of_wr W15).1
        have N15 := Fr.snoc X15 N0 g_b13
        have V_b13 : Arv Z h15 b13 k13 .char (2 : Int32) [(.int (wF_32 x1 ch0 ch1 ch2 ch3 ch4 ch5 ch6 ch7)), (.int (0 : Int32))] (.int (0 : Int32)) := Arv.set Ar15 q15 S15 M15 Hs15 G15 (fits_nar_char _) W15 0 rfl (Nat.le_of_ble_eq_true rfl)
        refine GoesH.st (B := T15.setTop (mkF m 55 #[rv x0, iv x1] [(.ref b13), (.ref b12), (.ref b12)])) st15 ?_
        refine GoesH.run X15 hx hown hci hcl hby (L := [(55, .dup, 1), (56, .iconst 1, 1), (57, .aload_n 0, 1), (58, .iconst 1, 1)]) (by decide +kernel) rfl (g' := (mkF m 59 #[rv x0, iv x1] [(.int (1 : Int32)), (.ref x0), (.int (1 : Int32)), (.ref b13), (.ref b13), (.ref b12), (.ref b12)])) rfl ?_
        obtain ⟨cl16, Ar16, q16, S16, M16, Hs16, G16⟩ := id V_x0
        have hin16 : ¬ ((1 : Int32) < 0 ∨ cl16.slots.size ≤ ((1 : Int32)).toNatClampNeg) := inb_of S16 ⟨(by decide), (by decide)⟩
        have hat16 : cl16.slots[((1 : Int32)).toNatClampNeg]? = some (.int ch1) := Hs16.at hin16 rfl
        refine GoesH.st (B := T15.setTop (mkF m 60 #[rv x0, iv x1] [(.int ch1), (.int (1 : Int32)), (.ref b13), (.ref b13), (.ref b12), (.ref b12)])) (X15.caload hx (j := (1 : Int32)) (v := (.int ch1)) (by rw [e15]; exact Ar16.1) (State.isArrayOf_alike hZ.alike Ar16.2.1) Ar16.2.2 hin16 hat16 (g := (mkF m 59 #[rv x0, iv x1] [(.int (1 : Int32)), (.ref x0), (.int (1 : Int32)), (.ref b13), (.ref b13), (.ref b12), (.ref b12)])) rfl rfl (hb hby d6_59)) ?_
        obtain ⟨cl17, Ar17, q17, S17, M17, Hs17, G17⟩ := id V_b13
        have hin17 : ¬ ((1 : Int32) < 0 ∨ cl17.slots.size ≤ ((1 : Int32)).toNatClampNeg) := inb_of S17 ⟨(by decide), (by decide)⟩
        obtain ⟨T17, h17, X17, e17, W17, st17⟩ := stC X15 hx hZ e15 Ar17 (j := (1 : Int32)) hin17 (g := (mkF m 60 #[rv x0, iv x1] [(.int ch1), (.int (1 : Int32)), (.ref b13), (.ref b13), (.ref b12), (.ref b12)])) rfl rfl (hb hby d6_60)
        have sk17 := ((Safe.arv hZ.alike V_b13 (by decide)) : Safe Z consts_1 s.vm h15 b13)
        have sf_b12 := Safe.wr W17 sk17 CH15.1 sf_b12
        have CH17 := CH15.trans (CHr.wr W17 sk17 CH15.1)
        have V_x0 := V_x0.other W17 ne_x0_b13
        have E_b12 := E_b12.wr W17
        have F_value_b12 := F_value_b12.other W17 (Or.inl ne_b12_b13)
        have F_coder_b12 := F_coder_b12.other W17 (Or.inl ne_b12_b13)
        have E_b13 := E_b13.wr W17
        have Zn17 : n0 ≤ h17.size := Nat.le_trans Zn15 (Keep.of_wr W17).1
        have K17 := K15.wr W17 (Or.inr sz_b13)
        have Od17 := Od15.wr W17 g_b13
        have hk17e := Nat.le_trans hk15e (Keep.of_wr W17).1
        have N17 := Fr.snoc X17 N15 g_b13
        have V_b13 : Arv Z h17 b13 k13 .char (2 : Int32) [(.int (wF_32 x1 ch0 ch1 ch2 ch3 ch4 ch5 ch6 ch7)), (.int (wF_60 x1 ch0 ch1 ch2 ch3 ch4 ch5 ch6 ch7))] (.int (0 : Int32)) := Arv.set Ar17 q17 S17 M17 Hs17 G17 (fits_nar_char _) W17 1 rfl (Nat.le_of_ble_eq_true rfl)
        refine GoesH.st (B := T17.setTop (mkF m 61 #[rv x0, iv x1] [(.ref b13), (.ref b12), (.ref b12)])) st17 ?_
        have hp_b12 : ∀ c ∈ (csF_61 x1 ch0 ch1 ch2 ch3 ch4 ch5 ch6 ch7), ¬ c < 0 ∧ ¬ (255 : Int32) < c := (own_alS pz0 (own_alS pz1 own_al0))
        obtain ⟨_, _, ⟨T18, L18, k18, n18⟩, -, X18, ⟨Lc18, hQ18, l18, y18, z18⟩, st18⟩ := X17.specialBack hx (y := ym5) rfl hown (mvT hZ w_50) (mvT hZ w_51) (mvT hZ w_52) (by decide) (StrChars.Road.backV (W := 1) hZ (own_hws hw) (kI := 4) w_7 (cs := (csF_61 x1 ch0 ch1 ch2 ch3 ch4 ch5 ch6 ch7)) (bs := ((csF_61 x1 ch0 ch1 ch2 ch3 ch4 ch5 ch6 ch7).map (fun c => c.toInt8.toInt32))) (n := 2) g_b12 Zn17 E_b12 F_value_b12 F_coder_b12 V_b13 (O2.ext Od17.2) P5 rfl rfl (by decide) (by decide) hp_b12 rfl (by decide) (by decide)) (g := (mkF m 61 #[rv x0, iv x1] [(.ref b13), (.ref b12), (.ref b12)])) rfl (by rw [hml]; rfl) (Steps.refl _) (a := b12) (argsL := [(.ref b13)]) (rest := [(.ref b12)]) (lenOf pdF_0 rfl) rfl (by show 2 * 0 + _ ≤ _; exact Nat.le_of_eq rfl) (hb hby d6_61) (fun _ _ => ⟨rfl, e17, (by decide : 2 + 1 ≤ _), (by decide : 6 + 2 ≤ _)⟩)
        dsimp only [Pt.U, Pt.locs, Pt.cells, Pt.slots] at X18 l18 y18 z18 st18 hQ18
        subst l18 y18 z18
        obtain ⟨h18, eh18⟩ : ∃ z, z = T18.heap := ⟨_, rfl⟩
        rw [← eh18] at hQ18
        have e18 : T18.heap = h18 := eh18.symm
        obtain ⟨rfl, N18q, Kq18, o18_e, o18_c, t18, kb18, u18, szr18, nw18, o18_v, o18_a⟩ := hQ18
        have ne_b12_t18 : b12 ≠ t18 := Nat.ne_of_lt (Nat.lt_of_lt_of_le E_b12.lt szr18)
        have ne_b13_t18 : b13 ≠ t18 := Nat.ne_of_lt (Nat.lt_of_lt_of_le E_b13.lt szr18)
        have ne_x0_t18 : x0 ≠ t18 := Nat.ne_of_lt (Nat.lt_of_lt_of_le V_x0.lt szr18)
        have g_t18 : n0 ≤ t18 := Nat.le_trans Zn17 szr18
        have sz_t18 : h0.size ≤ t18 := Nat.le_trans K17.1 szr18
        have N18 := Fr.app N17 N18q
        have sk18 : ∀ x ∈ [b12], Safe Z consts_1 s.vm h17 x := (sfS sf_b12 sf0)
        have sf_b12 := Safe.keep Kq18 sk18 CH17.1 sf_b12
        have CH18 := CH17.trans (CHr.keep Kq18 sk18 CH17.1)
        have V_x0 := V_x0.keep Kq18 (ninS ne_x0_b12 nin0)
        have E_b12 := E_b12.keep Kq18
        have E_b13 := E_b13.keep Kq18
        have V_b13 := V_b13.keep Kq18 (ninS (Ne.symm ne_b12_b13) nin0)
        have Zn18 : n0 ≤ h18.size := Nat.le_trans Zn17 Kq18.1
        have hk18e := Nat.le_trans hk17e Kq18.1
        have K18 := K17.trans Kq18 ((allS (Or.inr sz_b12) all0))
        have Od18 := Od17.keep Kq18 (allS g_b12 all0)
        have F_coder_b12 : Fld Z h18 b12 "java/lang/String" "coder" "B" (.int (0 : Int32)) := o18_c
        have F_value_b12 : Fld Z h18 b12 "java/lang/String" "value" "[B" (.ref t18) := o18_v
        have V_t18 : Arv Z h18 t18 kb18 .byte (2 : Int32) (((csF_61 x1 ch0 ch1 ch2 ch3 ch4 ch5 ch6 ch7).map (fun c => c.toInt8.toInt32)).map Value.int) (.int (0 : Int32)) := o18_a
        refine GoesH.st (B := T18.setTop (mkF m 64 #[rv x0, iv x1] [(.ref b12)])) (fun t k => st18.trans k) ?_
        exact GoesH.retR X18 Sn0 (by rw [e18]; exact hk18e) (by rw [e18]; exact CH18) hZ hEL hx hlk Bd.returns rfl rfl (hb hby d6_64) (by show QMK Z x1 ch0 ch1 ch2 ch3 ch4 ch5 ch6 ch7 h0 n0 _ _ _; rw [e18]; have q : own_cs x1 ch0 ch1 ch2 ch3 ch4 ch5 ch6 ch7 = (csF_61 x1 ch0 ch1 ch2 ch3 ch4 ch5 ch6 ch7) := (((if_neg hc1_1).trans (if_neg hc17_5)).trans (if_pos hc39_11)); unfold QMK; rw [q]; exact ⟨b12, t18, kb18, rfl, N18, K18, sz_b12, E_b12, F_coder_b12, F_value_b12, V_t18⟩) (by decide) (by decide)
      · skip
        refine GoesH.st (B := s₁.setTop (mkF m 65 #[rv x0, iv x1] [])) (fun t k => ?_) ?_
        · refine XS.icmpYes X0.here hx rfl (pc0 := 39) (pc' := 65) rfl (hb hby d6_39) rfl (feq hc39_11).2 (by decide) (by decide) ?_
          exact k
        refine GoesH.run X0 hx hown hci hcl hby (L := [(65, .iload_n 1, 1), (66, .iconst 3, 1)]) (by decide +kernel) rfl (g' := (mkF m 67 #[rv x0, iv x1] [(.int (3 : Int32)), (.int x1)])) rfl ?_
        by_cases hc67_19 : x1 = (3 : Int32)
        · skip
          refine GoesH.st (B := s₁.setTop (mkF m 70 #[rv x0, iv x1] [])) (fun t k => ?_) ?_
          · refine XS.icmpNo X0.here hx rfl (hb hby d6_67) rfl (teq hc67_19).2 ?_
            exact k
          obtain ⟨T20, h20, X20, e20, E20, A20, D20, -, st20⟩ := newO X0 hx hZ hown w_49 w_7 w_6 e0 (g := (mkF m 70 #[rv x0, iv x1] [])) rfl (hb hby d6_70) (by decide) (by decide)
          obtain ⟨b20, g20⟩ : ∃ z, z = h0.size := ⟨_, rfl⟩
          rw [← g20] at A20 D20 st20
          have ne_x0_b20 : x0 ≠ b20 := Nat.ne_of_lt (Nat.lt_of_lt_of_le V_x0.lt (Nat.le_of_eq g20.symm))
          have g_b20 : n0 ≤ b20 := Nat.le_trans Z0 (Nat.le_of_eq g20.symm)
          have sz_b20 : h0.size ≤ b20 := Nat.le_trans K0.1 (Nat.le_of_eq g20.symm)
          have sf_b20 : Safe Z consts_1 s.vm h0 b20 := Safe.new (Nat.le_of_eq g20.symm)
          have sf_b20 := Safe.ext E20 CH0.1 sf_b20
          have CH20 := CH0.trans (CHr.ext E20 CH0.1)
          have V_x0 := V_x0.ext E20
          have Zn20 : n0 ≤ h20.size := Nat.le_trans Z0 E20.1
          have K20 := K0.ext E20
          have Od20 := O0.ext E20
          have hk20e := Nat.le_trans hk0 E20.1
          have E_b20 : Exa Z h20 b20 "java/lang/String" := A20
          have F_value_b20 : Fld Z h20 b20 "java/lang/String" "value" "[B" .null := D20 (Or.inr w_9) (ty := (.array .byte)) (by decide)
          have F_coder_b20 : Fld Z h20 b20 "java/lang/String" "coder" "B" (.int (0 : Int32)) := D20 (Or.inr w_10) (ty := .byte) (by decide)
          refine GoesH.st (B := T20.setTop (mkF m 73 #[rv x0, iv x1] [(.ref b20)])) st20 ?_
          refine GoesH.run X20 hx hown hci hcl hby (L := [(73, .dup, 1), (74, .iconst 3, 1)]) (by decide +kernel) rfl (g' := (mkF m 75 #[rv x0, iv x1] [(.int (3 : Int32)), (.ref b20), (.ref b20)])) rfl ?_
          obtain ⟨T21, h21, k21, X21, e21, E21, A21, B21, st21⟩ := newPE X20 hx hZ (aty := .char) w_0 e20 (g := (mkF m 75 #[rv x0, iv x1] [(.int (3 : Int32)), (.ref b20), (.ref b20)])) rfl (hb hby d6_75) rfl (by decide) (cap := 3) (by decide) (by decide) (by decide) (by decide) (ad := "[C") (by decide)
          obtain ⟨b21, g21⟩ : ∃ z, z = h20.size := ⟨_, rfl⟩
          rw [← g21] at A21 B21 st21
          have ne_b20_b21 : b20 ≠ b21 := Nat.ne_of_lt (Nat.lt_of_lt_of_le E_b20.lt (Nat.le_of_eq g21.symm))
          have ne_x0_b21 : x0 ≠ b21 := Nat.ne_of_lt (Nat.lt_of_lt_of_le V_x0.lt (Nat.le_of_eq g21.symm))
          have g_b21 : n0 ≤ b21 := Nat.le_trans Zn20 (Nat.le_of_eq g21.symm)
          have sz_b21 : h0.size ≤ b21 := Nat.le_trans K20.1 (Nat.le_of_eq g21.symm)
          have sf_b20 := Safe.ext E21 CH20.1 sf_b20
          have CH21 := CH20.trans (CHr.ext E21 CH20.1)
          have V_x0 := V_x0.ext E21
          have E_b20 := E_b20.ext E21
          have F_value_b20 := F_value_b20.ext E21
          have F_coder_b20 := F_coder_b20.ext E21
          have Zn21 : n0 ≤ h21.size := Nat.le_trans Zn20 E21.1
          have K21 := K20.ext E21
          have Od21 := Od20.ext E21
          have hk21e := Nat.le_trans hk20e E21.1
          have E_b21 : Exa Z h21 b21 "[C" := B21
          have V_b21 : Arv Z h21 b21 k21 .char (3 : Int32) [(.int (0 : Int32)), (.int (0 : Int32)), (.int (0 : Int32))] (.int (0 : Int32)) := (Arv.new A21 (by decide)).pad (pad_rep [] (.int (0 : Int32)) 3)
          refine GoesH.st (B := T21.setTop (mkF m 77 #[rv x0, iv x1] [(.ref b21), (.ref b20), (.ref b20)])) st21 ?_
          refine GoesH.run X21 hx hown hci hcl hby (L := [(77, .dup, 1), (78, .iconst 0, 1), (79, .aload_n 0, 1), (80, .iconst 0, 1)]) (by decide +kernel) rfl (g' := (mkF m 81 #[rv x0, iv x1] [(.int (0 : Int32)), (.ref x0), (.int (0 : Int32)), (.ref b21), (.ref b21), (.ref b20), (.ref b20)])) rfl ?_
          obtain ⟨cl22, Ar22, q22, S22, M22, Hs22, G22⟩ := id V_x0
          have hin22 : ¬ ((0 : Int32) < 0 ∨ cl22.slots.size ≤ ((0 : Int32)).toNatClampNeg) := inb_of S22 ⟨(by decide), (by decide)⟩
          have hat22 : cl22.slots[((0 : Int32)).toNatClampNeg]? = some (.int ch0) := Hs22.at hin22 rfl
          refine GoesH.st (B := T21.setTop (mkF m 82 #[rv x0, iv x1] [(.int ch0), (.int (0 : Int32)), (.ref b21), (.ref b21), (.ref b20), (.ref b20)])) (X21.caload hx (j := (0 : Int32)) (v := (.int ch0)) (by rw [e21]; exact Ar22.1) (State.isArrayOf_alike hZ.alike Ar22.2.1) Ar22.2.2 hin22 hat22 (g := (mkF m 81 #[rv x0, iv x1] [(.int (0 : Int32)), (.ref x0), (.int (0 : Int32)), (.ref b21), (.ref b21), (.ref b20), (.ref b20)])) rfl rfl (hb hby d6_81)) ?_
          obtain ⟨cl23, Ar23, q23, S23, M23, Hs23, G23⟩ := id V_b21
          have hin23 : ¬ ((0 : Int32) < 0 ∨ cl23.slots.size ≤ ((0 : Int32)).toNatClampNeg) := inb_of S23 ⟨(by decide), (by decide)⟩
          obtain ⟨T23, h23, X23, e23, W23, st23⟩ := stC X21 hx hZ e21 Ar23 (j := (0 : Int32)) hin23 (g := (mkF m 82 #[rv x0, iv x1] [(.int ch0), (.int (0 : Int32)), (.ref b21), (.ref b21), (.ref b20), (.ref b20)])) rfl rfl (hb hby d6_82)
          have sk23 := ((Safe.arv hZ.alike V_b21 (by decide)) : Safe Z consts_1 s.vm h21 b21)
          have sf_b20 := Safe.wr W23 sk23 CH21.1 sf_b20
          have CH23 := CH21.trans (CHr.wr W23 sk23 CH21.1)
          have V_x0 := V_x0.other W23 ne_x0_b21
          have E_b20 := E_b20.wr W23
          have F_value_b20 := F_value_b20.other W23 (Or.inl ne_b20_b21)
          have F_coder_b20 := F_coder_b20.other W23 (Or.inl ne_b20_b21)
          have E_b21 := E_b21.wr W23
          have Zn23 : n0 ≤ h23.size := Nat.le_trans Zn21 (Keep.of_wr W23).1
          have K23 := K21.wr W23 (Or.inr sz_b21)
          have Od23 := Od21.wr W23 g_b21
          have hk23e := Nat.le_trans hk21e (Keep.of_wr W23).1
          have N23 := Fr.snoc X23 N0 g_b21
          have V_b21 : Arv Z h23 b21 k21 .char (3 : Int32) [(.int (wF_32 x1 ch0 ch1 ch2 ch3 ch4 ch5 ch6 ch7)), (.int (0 : Int32)), (.int (0 : Int32))] (.int (0 : Int32)) := Arv.set Ar23 q23 S23 M23 Hs23 G23 (fits_nar_char _) W23 0 rfl (Nat.le_of_ble_eq_true rfl)
          refine GoesH.st (B := T23.setTop (mkF m 83 #[rv x0, iv x1] [(.ref b21), (.ref b20), (.ref b20)])) st23 ?_
          refine GoesH.run X23 hx hown hci hcl hby (L := [(83, .dup, 1), (84, .iconst 1, 1), (85, .aload_n 0, 1), (86, .iconst 1, 1)]) (by decide +kernel) rfl (g' := (mkF m 87 #[rv x0, iv x1] [(.int (1 : Int32)), (.ref x0), (.int (1 : Int32)), (.ref b21), (.ref b21), (.ref b20), (.ref b20)])) rfl ?_
          obtain ⟨cl24, Ar24, q24, S24, M24, Hs24, G24⟩ := id V_x0
          have hin24 : ¬ ((1 : Int32) < 0 ∨ cl24.slots.size ≤ ((1 : Int32)).toNatClampNeg) := inb_of S24 ⟨(by decide), (by decide)⟩
          have hat24 : cl24.slots[((1 : Int32)).toNatClampNeg]? = some (.int ch1) := Hs24.at hin24 rfl
          refine GoesH.st (B := T23.setTop (mkF m 88 #[rv x0, iv x1] [(.int ch1), (.int (1 : Int32)), (.ref b21), (.ref b21), (.ref b20), (.ref b20)])) (X23.caload hx (j := (1 : Int32)) (v := (.int ch1)) (by rw [e23]; exact Ar24.1) (State.isArrayOf_alike hZ.alike Ar24.2.1) Ar24.2.2 hin24 hat24 (g := (mkF m 87 #[rv x0, iv x1] [(.int (1 : Int32)), (.ref x0), (.int (1 : Int32)), (.ref b21), (.ref b21), (.ref b20), (.ref b20)])) rfl rfl (hb hby d6_87)) ?_
          obtain ⟨cl25, Ar25, q25, S25, M25, Hs25, G25⟩ := id V_b21
          have hin25 : ¬ ((1 : Int32) < 0 ∨ cl25.slots.size ≤ ((1 : Int32)).toNatClampNeg) := inb_of S25 ⟨(by decide), (by decide)⟩
          obtain ⟨T25, h25, X25, e25, W25, st25⟩ := stC X23 hx hZ e23 Ar25 (j := (1 : Int32)) hin25 (g := (mkF m 88 #[rv x0, iv x1] [(.int ch1), (.int (1 : Int32)), (.ref b21), (.ref b21), (.ref b20), (.ref b20)])) rfl rfl (hb hby d6_88)
          have sk25 := ((Safe.arv hZ.alike V_b21 (by decide)) : Safe Z consts_1 s.vm h23 b21)
          have sf_b20 := Safe.wr W25 sk25 CH23.1 sf_b20
          have CH25 := CH23.trans (CHr.wr W25 sk25 CH23.1)
          have V_x0 := V_x0.other W25 ne_x0_b21
          have E_b20 := E_b20.wr W25
          have F_value_b20 := F_value_b20.other W25 (Or.inl ne_b20_b21)
          have F_coder_b20 := F_coder_b20.other W25 (Or.inl ne_b20_b21)
          have E_b21 := E_b21.wr W25
          have Zn25 : n0 ≤ h25.size := Nat.le_trans Zn23 (Keep.of_wr W25).1
          have K25 := K23.wr W25 (Or.inr sz_b21)
          have Od25 := Od23.wr W25 g_b21
          have hk25e := Nat.le_trans hk23e (Keep.of_wr W25).1
          have N25 := Fr.snoc X25 N23 g_b21
          have V_b21 : Arv Z h25 b21 k21 .char (3 : Int32) [(.int (wF_32 x1 ch0 ch1 ch2 ch3 ch4 ch5 ch6 ch7)), (.int (wF_60 x1 ch0 ch1 ch2 ch3 ch4 ch5 ch6 ch7)), (.int (0 : Int32))] (.int (0 : Int32)) := Arv.set Ar25 q25 S25 M25 Hs25 G25 (fits_nar_char _) W25 1 rfl (Nat.le_of_ble_eq_true rfl)
          refine GoesH.st (B := T25.setTop (mkF m 89 #[rv x0, iv x1] [(.ref b21), (.ref b20), (.ref b20)])) st25 ?_
          refine GoesH.run X25 hx hown hci hcl hby (L := [(89, .dup, 1), (90, .iconst 2, 1), (91, .aload_n 0, 1), (92, .iconst 2, 1)]) (by decide +kernel) rfl (g' := (mkF m 93 #[rv x0, iv x1] [(.int (2 : Int32)), (.ref x0), (.int (2 : Int32)), (.ref b21), (.ref b21), (.ref b20), (.ref b20)])) rfl ?_
          obtain ⟨cl26, Ar26, q26, S26, M26, Hs26, G26⟩ := id V_x0
          have hin26 : ¬ ((2 : Int32) < 0 ∨ cl26.slots.size ≤ ((2 : Int32)).toNatClampNeg) := inb_of S26 ⟨(by decide), (by decide)⟩
          have hat26 : cl26.slots[((2 : Int32)).toNatClampNeg]? = some (.int ch2) := Hs26.at hin26 rfl
          refine GoesH.st (B := T25.setTop (mkF m 94 #[rv x0, iv x1] [(.int ch2), (.int (2 : Int32)), (.ref b21), (.ref b21), (.ref b20), (.ref b20)])) (X25.caload hx (j := (2 : Int32)) (v := (.int ch2)) (by rw [e25]; exact Ar26.1) (State.isArrayOf_alike hZ.alike Ar26.2.1) Ar26.2.2 hin26 hat26 (g := (mkF m 93 #[rv x0, iv x1] [(.int (2 : Int32)), (.ref x0), (.int (2 : Int32)), (.ref b21), (.ref b21), (.ref b20), (.ref b20)])) rfl rfl (hb hby d6_93)) ?_
          obtain ⟨cl27, Ar27, q27, S27, M27, Hs27, G27⟩ := id V_b21
          have hin27 : ¬ ((2 : Int32) < 0 ∨ cl27.slots.size ≤ ((2 : Int32)).toNatClampNeg) := inb_of S27 ⟨(by decide), (by decide)⟩
          obtain ⟨T27, h27, X27, e27, W27, st27⟩ := stC X25 hx hZ e25 Ar27 (j := (2 : Int32)) hin27 (g := (mkF m 94 #[rv x0, iv x1] [(.int ch2), (.int (2 : Int32)), (.ref b21), (.ref b21), (.ref b20), (.ref b20)])) rfl rfl (hb hby d6_94)
          have sk27 := ((Safe.arv hZ.alike V_b21 (by decide)) : Safe Z consts_1 s.vm h25 b21)
          have sf_b20 := Safe.wr W27 sk27 CH25.1 sf_b20
          have CH27 := CH25.trans (CHr.wr W27 sk27 CH25.1)
          have V_x0 := V_x0.other W27 ne_x0_b21
          have E_b20 := E_b20.wr W27
          have F_value_b20 := F_value_b20.other W27 (Or.inl ne_b20_b21)
          have F_coder_b20 := F_coder_b20.other W27 (Or.inl ne_b20_b21)
          have E_b21 := E_b21.wr W27
          have Zn27 : n0 ≤ h27.size := Nat.le_trans Zn25 (Keep.of_wr W27).1
          have K27 := K25.wr W27 (Or.inr sz_b21)
          have Od27 := Od25.wr W27 g_b21
          have hk27e := Nat.le_trans hk25e (Keep.of_wr W27).1
          have N27 := Fr.snoc X27 N25 g_b21
          have V_b21 : Arv Z h27 b21 k21 .char (3 : Int32) [(.int (wF_32 x1 ch0 ch1 ch2 ch3 ch4 ch5 ch6 ch7)), (.int (wF_60 x1 ch0 ch1 ch2 ch3 ch4 ch5 ch6 ch7)), (.int (wF_94 x1 ch0 ch1 ch2 ch3 ch4 ch5 ch6 ch7))] (.int (0 : Int32)) := Arv.set Ar27 q27 S27 M27 Hs27 G27 (fits_nar_char _) W27 2 rfl (Nat.le_of_ble_eq_true rfl)
          refine GoesH.st (B := T27.setTop (mkF m 95 #[rv x0, iv x1] [(.ref b21), (.ref b20), (.ref b20)])) st27 ?_
          have hp_b20 : ∀ c ∈ (csF_95 x1 ch0 ch1 ch2 ch3 ch4 ch5 ch6 ch7), ¬ c < 0 ∧ ¬ (255 : Int32) < c := (own_alS pz0 (own_alS pz1 (own_alS pz2 own_al0)))
          obtain ⟨_, _, ⟨T28, L28, k28, n28⟩, -, X28, ⟨Lc28, hQ28, l28, y28, z28⟩, st28⟩ := X27.specialBack hx (y := ym5) rfl hown (mvT hZ w_50) (mvT hZ w_51) (mvT hZ w_52) (by decide) (StrChars.Road.backV (W := 1) hZ (own_hws hw) (kI := 4) w_7 (cs := (csF_95 x1 ch0 ch1 ch2 ch3 ch4 ch5 ch6 ch7)) (bs := ((csF_95 x1 ch0 ch1 ch2 ch3 ch4 ch5 ch6 ch7).map (fun c => c.toInt8.toInt32))) (n := 3) g_b20 Zn27 E_b20 F_value_b20 F_coder_b20 V_b21 (O2.ext Od27.2) P5 rfl rfl (by decide) (by decide) hp_b20 rfl (by decide) (by decide)) (g := (mkF m 95 #[rv x0, iv x1] [(.ref b21), (.ref b20), (.ref b20)])) rfl (by rw [hml]; rfl) (Steps.refl _) (a := b20) (argsL := [(.ref b21)]) (rest := [(.ref b20)]) (lenOf pdF_0 rfl) rfl (by show 2 * 0 + _ ≤ _; exact Nat.le_of_eq rfl) (hb hby d6_95) (fun _ _ => ⟨rfl, e27, (by decide : 2 + 1 ≤ _), (by decide : 7 + 3 ≤ _)⟩)
          dsimp only [Pt.U, Pt.locs, Pt.cells, Pt.slots] at X28 l28 y28 z28 st28 hQ28
          subst l28 y28 z28
          obtain ⟨h28, eh28⟩ : ∃ z, z = T28.heap := ⟨_, rfl⟩
          rw [← eh28] at hQ28
          have e28 : T28.heap = h28 := eh28.symm
          obtain ⟨rfl, N28q, Kq28, o28_e, o28_c, t28, kb28, u28, szr28, nw28, o28_v, o28_a⟩ := hQ28
          have ne_b20_t28 : b20 ≠ t28 := Nat.ne_of_lt (Nat.lt_of_lt_of_le E_b20.lt szr28)
          have ne_b21_t28 : b21 ≠ t28 := Nat.ne_of_lt (Nat.lt_of_lt_of_le E_b21.lt szr28)
          have ne_x0_t28 : x0 ≠ t28 := Nat.ne_of_lt (Nat.lt_of_lt_of_le V_x0.lt szr28)
          have g_t28 : n0 ≤ t28 := Nat.le_trans Zn27 szr28
          have sz_t28 : h0.size ≤ t28 := Nat.le_trans K27.1 szr28
          have N28 := Fr.app N27 N28q
          have sk28 : ∀ x ∈ [b20], Safe Z consts_1 s.vm h27 x := (sfS sf_b20 sf0)
          have sf_b20 := Safe.keep Kq28 sk28 CH27.1 sf_b20
          have CH28 := CH27.trans (CHr.keep Kq28 sk28 CH27.1)
          have V_x0 := V_x0.keep Kq28 (ninS ne_x0_b20 nin0)
          have E_b20 := E_b20.keep Kq28
          have E_b21 := E_b21.keep Kq28
          have V_b21 := V_b21.keep Kq28 (ninS (Ne.symm ne_b20_b21) nin0)
          have Zn28 : n0 ≤ h28.size := Nat.le_trans Zn27 Kq28.1
          have hk28e := Nat.le_trans hk27e Kq28.1
          have K28 := K27.trans Kq28 ((allS (Or.inr sz_b20) all0))
          have Od28 := Od27.keep Kq28 (allS g_b20 all0)
          have F_coder_b20 : Fld Z h28 b20 "java/lang/String" "coder" "B" (.int (0 : Int32)) := o28_c
          have F_value_b20 : Fld Z h28 b20 "java/lang/String" "value" "[B" (.ref t28) := o28_v
          have V_t28 : Arv Z h28 t28 kb28 .byte (3 : Int32) (((csF_95 x1 ch0 ch1 ch2 ch3 ch4 ch5 ch6 ch7).map (fun c => c.toInt8.toInt32)).map Value.int) (.int (0 : Int32)) := o28_a
          refine GoesH.st (B := T28.setTop (mkF m 98 #[rv x0, iv x1] [(.ref b20)])) (fun t k => st28.trans k) ?_
          exact GoesH.retR X28 Sn0 (by rw [e28]; exact hk28e) (by rw [e28]; exact CH28) hZ hEL hx hlk Bd.returns rfl rfl (hb hby d6_98) (by show QMK Z x1 ch0 ch1 ch2 ch3 ch4 ch5 ch6 ch7 h0 n0 _ _ _; rw [e28]; have q : own_cs x1 ch0 ch1 ch2 ch3 ch4 ch5 ch6 ch7 = (csF_95 x1 ch0 ch1 ch2 ch3 ch4 ch5 ch6 ch7) := ((((if_neg hc1_1).trans (if_neg hc17_5)).trans (if_neg hc39_11)).trans (if_pos hc67_19)); unfold QMK; rw [q]; exact ⟨b20, t28, kb28, rfl, N28, K28, sz_b20, E_b20, F_coder_b20, F_value_b20, V_t28⟩) (by decide) (by decide)
        · skip
          refine GoesH.st (B := s₁.setTop (mkF m 99 #[rv x0, iv x1] [])) (fun t k => ?_) ?_
          · refine XS.icmpYes X0.here hx rfl (pc0 := 67) (pc' := 99) rfl (hb hby d6_67) rfl (feq hc67_19).2 (by decide) (by decide) ?_
            exact k
          refine GoesH.run X0 hx hown hci hcl hby (L := [(99, .iload_n 1, 1), (100, .iconst 4, 1)]) (by decide +kernel) rfl (g' := (mkF m 101 #[rv x0, iv x1] [(.int (4 : Int32)), (.int x1)])) rfl ?_
          by_cases hc101_29 : x1 = (4 : Int32)
          · skip
            refine GoesH.st (B := s₁.setTop (mkF m 104 #[rv x0, iv x1] [])) (fun t k => ?_) ?_
            · refine XS.icmpNo X0.here hx rfl (hb hby d6_101) rfl (teq hc101_29).2 ?_
              exact k
            obtain ⟨T30, h30, X30, e30, E30, A30, D30, -, st30⟩ := newO X0 hx hZ hown w_49 w_7 w_6 e0 (g := (mkF m 104 #[rv x0, iv x1] [])) rfl (hb hby d6_104) (by decide) (by decide)
            obtain ⟨b30, g30⟩ : ∃ z, z = h0.size := ⟨_, rfl⟩
            rw [← g30] at A30 D30 st30
            have ne_x0_b30 : x0 ≠ b30 := Nat.ne_of_lt (Nat.lt_of_lt_of_le V_x0.lt (Nat.le_of_eq g30.symm))
            have g_b30 : n0 ≤ b30 := Nat.le_trans Z0 (Nat.le_of_eq g30.symm)
            have sz_b30 : h0.size ≤ b30 := Nat.le_trans K0.1 (Nat.le_of_eq g30.symm)
            have sf_b30 : Safe Z consts_1 s.vm h0 b30 := Safe.new (Nat.le_of_eq g30.symm)
            have sf_b30 := Safe.ext E30 CH0.1 sf_b30
            have CH30 := CH0.trans (CHr.ext E30 CH0.1)
            have V_x0 := V_x0.ext E30
            have Zn30 : n0 ≤ h30.size := Nat.le_trans Z0 E30.1
            have K30 := K0.ext E30
            have Od30 := O0.ext E30
            have hk30e := Nat.le_trans hk0 E30.1
            have E_b30 : Exa Z h30 b30 "java/lang/String" := A30
            have F_value_b30 : Fld Z h30 b30 "java/lang/String" "value" "[B" .null := D30 (Or.inr w_9) (ty := (.array .byte)) (by decide)
            have F_coder_b30 : Fld Z h30 b30 "java/lang/String" "coder" "B" (.int (0 : Int32)) := D30 (Or.inr w_10) (ty := .byte) (by decide)
            refine GoesH.st (B := T30.setTop (mkF m 107 #[rv x0, iv x1] [(.ref b30)])) st30 ?_
            refine GoesH.run X30 hx hown hci hcl hby (L := [(107, .dup, 1), (108, .iconst 4, 1)]) (by decide +kernel) rfl (g' := (mkF m 109 #[rv x0, iv x1] [(.int (4 : Int32)), (.ref b30), (.ref b30)])) rfl ?_
            obtain ⟨T31, h31, k31, X31, e31, E31, A31, B31, st31⟩ := newPE X30 hx hZ (aty := .char) w_0 e30 (g := (mkF m 109 #[rv x0, iv x1] [(.int (4 : Int32)), (.ref b30), (.ref b30)])) rfl (hb hby d6_109) rfl (by decide) (cap := 4) (by decide) (by decide) (by decide) (by decide) (ad := "[C") (by decide)
            obtain ⟨b31, g31⟩ : ∃ z, z = h30.size := ⟨_, rfl⟩
            rw [← g31] at A31 B31 st31
            have ne_b30_b31 : b30 ≠ b31 := Nat.ne_of_lt (Nat.lt_of_lt_of_le E_b30.lt (Nat.le_of_eq g31.symm))
            have ne_x0_b31 : x0 ≠ b31 := Nat.ne_of_lt (Nat.lt_of_lt_of_le V_x0.lt (Nat.le_of_eq g31.symm))
            have g_b31 : n0 ≤ b31 := Nat.le_trans Zn30 (Nat.le_of_eq g31.symm)
            have sz_b31 : h0.size ≤ b31 := Nat.le_trans K30.1 (Nat.le_of_eq g31.symm)
            have sf_b30 := Safe.ext E31 CH30.1 sf_b30
            have CH31 := CH30.trans (CHr.ext E31 CH30.1)
            have V_x0 := V_x0.ext E31
            have E_b30 := E_b30.ext E31
            have F_value_b30 := F_value_b30.ext E31
            have F_coder_b30 := F_coder_b30.ext E31
            have Zn31 : n0 ≤ h31.size := Nat.le_trans Zn30 E31.1
            have K31 := K30.ext E31
            have Od31 := Od30.ext E31
            have hk31e := Nat.le_trans hk30e E31.1
            have E_b31 : Exa Z h31 b31 "[C" := B31
            have V_b31 : Arv Z h31 b31 k31 .char (4 : Int32) [(.int (0 : Int32)), (.int (0 : Int32)), (.int (0 : Int32)), (.int (0 : Int32))] (.int (0 : Int32)) := (Arv.new A31 (by decide)).pad (pad_rep [] (.int (0 : Int32)) 4)
            refine GoesH.st (B := T31.setTop (mkF m 111 #[rv x0, iv x1] [(.ref b31), (.ref b30), (.ref b30)])) st31 ?_
            refine GoesH.run X31 hx hown hci hcl hby (L := [(111, .dup, 1), (112, .iconst 0, 1), (113, .aload_n 0, 1), (114, .iconst 0, 1)]) (by decide +kernel) rfl (g' := (mkF m 115 #[rv x0, iv x1] [(.int (0 : Int32)), (.ref x0), (.int (0 : Int32)), (.ref b31), (.ref b31), (.ref b30), (.ref b30)])) rfl ?_
            obtain ⟨cl32, Ar32, q32, S32, M32, Hs32, G32⟩ := id V_x0
            have hin32 : ¬ ((0 : Int32) < 0 ∨ cl32.slots.size ≤ ((0 : Int32)).toNatClampNeg) := inb_of S32 ⟨(by decide), (by decide)⟩
            have hat32 : cl32.slots[((0 : Int32)).toNatClampNeg]? = some (.int ch0) := Hs32.at hin32 rfl
            refine GoesH.st (B := T31.setTop (mkF m 116 #[rv x0, iv x1] [(.int ch0), (.int (0 : Int32)), (.ref b31), (.ref b31), (.ref b30), (.ref b30)])) (X31.caload hx (j := (0 : Int32)) (v := (.int ch0)) (by rw [e31]; exact Ar32.1) (State.isArrayOf_alike hZ.alike Ar32.2.1) Ar32.2.2 hin32 hat32 (g := (mkF m 115 #[rv x0, iv x1] [(.int (0 : Int32)), (.ref x0), (.int (0 : Int32)), (.ref b31), (.ref b31), (.ref b30), (.ref b30)])) rfl rfl (hb hby d6_115)) ?_
            obtain ⟨cl33, Ar33, q33, S33, M33, Hs33, G33⟩ := id V_b31
            have hin33 : ¬ ((0 : Int32) < 0 ∨ cl33.slots.size ≤ ((0 : Int32)).toNatClampNeg) := inb_of S33 ⟨(by decide), (by decide)⟩
            obtain ⟨T33, h33, X33, e33, W33, st33⟩ := stC X31 hx hZ e31 Ar33 (j := (0 : Int32)) hin33 (g := (mkF m 116 #[rv x0, iv x1] [(.int ch0), (.int (0 : Int32)), (.ref b31), (.ref b31), (.ref b30), (.ref b30)])) rfl rfl (hb hby d6_116)
            have sk33 := ((Safe.arv hZ.alike V_b31 (by decide)) : Safe Z consts_1 s.vm h31 b31)
            have sf_b30 := Safe.wr W33 sk33 CH31.1 sf_b30
            have CH33 := CH31.trans (CHr.wr W33 sk33 CH31.1)
            have V_x0 := V_x0.other W33 ne_x0_b31
            have E_b30 := E_b30.wr W33
            have F_value_b30 := F_value_b30.other W33 (Or.inl ne_b30_b31)
            have F_coder_b30 := F_coder_b30.other W33 (Or.inl ne_b30_b31)
            have E_b31 := E_b31.wr W33
            have Zn33 : n0 ≤ h33.size := Nat.le_trans Zn31 (Keep.of_wr W33).1
            have K33 := K31.wr W33 (Or.inr sz_b31)
            have Od33 := Od31.wr W33 g_b31
            have hk33e := Nat.le_trans hk31e (Keep.of_wr W33).1
            have N33 := Fr.snoc X33 N0 g_b31
            have V_b31 : Arv Z h33 b31 k31 .char (4 : Int32) [(.int (wF_32 x1 ch0 ch1 ch2 ch3 ch4 ch5 ch6 ch7)), (.int (0 : Int32)), (.int (0 : Int32)), (.int (0 : Int32))] (.int (0 : Int32)) := Arv.set Ar33 q33 S33 M33 Hs33 G33 (fits_nar_char _) W33 0 rfl (Nat.le_of_ble_eq_true rfl)
            refine GoesH.st (B := T33.setTop (mkF m 117 #[rv x0, iv x1] [(.ref b31), (.ref b30), (.ref b30)])) st33 ?_
            refine GoesH.run X33 hx hown hci hcl hby (L := [(117, .dup, 1), (118, .iconst 1, 1), (119, .aload_n 0, 1), (120, .iconst 1, 1)]) (by decide +kernel) rfl (g' := (mkF m 121 #[rv x0, iv x1] [(.int (1 : Int32)), (.ref x0), (.int (1 : Int32)), (.ref b31), (.ref b31), (.ref b30), (.ref b30)])) rfl ?_
            obtain ⟨cl34, Ar34, q34, S34, M34, Hs34, G34⟩ := id V_x0
            have hin34 : ¬ ((1 : Int32) < 0 ∨ cl34.slots.size ≤ ((1 : Int32)).toNatClampNeg) := inb_of S34 ⟨(by decide), (by decide)⟩
            have hat34 : cl34.slots[((1 : Int32)).toNatClampNeg]? = some (.int ch1) := Hs34.at hin34 rfl
            refine GoesH.st (B := T33.setTop (mkF m 122 #[rv x0, iv x1] [(.int ch1), (.int (1 : Int32)), (.ref b31), (.ref b31), (.ref b30), (.ref b30)])) (X33.caload hx (j := (1 : Int32)) (v := (.int ch1)) (by rw [e33]; exact Ar34.1) (State.isArrayOf_alike hZ.alike Ar34.2.1) Ar34.2.2 hin34 hat34 (g := (mkF m 121 #[rv x0, iv x1] [(.int (1 : Int32)), (.ref x0), (.int (1 : Int32)), (.ref b31), (.ref b31), (.ref b30), (.ref b30)])) rfl rfl (hb hby d6_121)) ?_
            obtain ⟨cl35, Ar35, q35, S35, M35, Hs35, G35⟩ := id V_b31
            have hin35 : ¬ ((1 : Int32) < 0 ∨ cl35.slots.size ≤ ((1 : Int32)).toNatClampNeg) := inb_of S35 ⟨(by decide), (by decide)⟩
            obtain ⟨T35, h35, X35, e35, W35, st35⟩ := stC X33 hx hZ e33 Ar35 (j := (1 : Int32)) hin35 (g := (mkF m 122 #[rv x0, iv x1] [(.int ch1), (.int (1 : Int32)), (.ref b31), (.ref b31), (.ref b30), (.ref b30)])) rfl rfl (hb hby d6_122)
            have sk35 := ((Safe.arv hZ.alike V_b31 (by decide)) : Safe Z consts_1 s.vm h33 b31)
            have sf_b30 := Safe.wr W35 sk35 CH33.1 sf_b30
            have CH35 := CH33.trans (CHr.wr W35 sk35 CH33.1)
            have V_x0 := V_x0.other W35 ne_x0_b31
            have E_b30 := E_b30.wr W35
            have F_value_b30 := F_value_b30.other W35 (Or.inl ne_b30_b31)
            have F_coder_b30 := F_coder_b30.other W35 (Or.inl ne_b30_b31)
            have E_b31 := E_b31.wr W35
            have Zn35 : n0 ≤ h35.size := Nat.le_trans Zn33 (Keep.of_wr W35).1
            have K35 := K33.wr W35 (Or.inr sz_b31)
            have Od35 := Od33.wr W35 g_b31
            have hk35e := Nat.le_trans hk33e (Keep.of_wr W35).1
            have N35 := Fr.snoc X35 N33 g_b31
            have V_b31 : Arv Z h35 b31 k31 .char (4 : Int32) [(.int (wF_32 x1 ch0 ch1 ch2 ch3 ch4 ch5 ch6 ch7)), (.int (wF_60 x1 ch0 ch1 ch2 ch3 ch4 ch5 ch6 ch7)), (.int (0 : Int32)), (.int (0 : Int32))] (.int (0 : Int32)) := Arv.set Ar35 q35 S35 M35 Hs35 G35 (fits_nar_char _) W35 1 rfl (Nat.le_of_ble_eq_true rfl)
            refine GoesH.st (B := T35.setTop (mkF m 123 #[rv x0, iv x1] [(.ref b31), (.ref b30), (.ref b30)])) st35 ?_
            refine GoesH.run X35 hx hown hci hcl hby (L := [(123, .dup, 1), (124, .iconst 2, 1), (125, .aload_n 0, 1), (126, .iconst 2, 1)]) (by decide +kernel) rfl (g' := (mkF m 127 #[rv x0, iv x1] [(.int (2 : Int32)), (.ref x0), (.int (2 : Int32)), (.ref b31), (.ref b31), (.ref b30), (.ref b30)])) rfl ?_
            obtain ⟨cl36, Ar36, q36, S36, M36, Hs36, G36⟩ := id V_x0
            have hin36 : ¬ ((2 : Int32) < 0 ∨ cl36.slots.size ≤ ((2 : Int32)).toNatClampNeg) := inb_of S36 ⟨(by decide), (by decide)⟩
            have hat36 : cl36.slots[((2 : Int32)).toNatClampNeg]? = some (.int ch2) := Hs36.at hin36 rfl
            refine GoesH.st (B := T35.setTop (mkF m 128 #[rv x0, iv x1] [(.int ch2), (.int (2 : Int32)), (.ref b31), (.ref b31), (.ref b30), (.ref b30)])) (X35.caload hx (j := (2 : Int32)) (v := (.int ch2)) (by rw [e35]; exact Ar36.1) (State.isArrayOf_alike hZ.alike Ar36.2.1) Ar36.2.2 hin36 hat36 (g := (mkF m 127 #[rv x0, iv x1] [(.int (2 : Int32)), (.ref x0), (.int (2 : Int32)), (.ref b31), (.ref b31), (.ref b30), (.ref b30)])) rfl rfl (hb hby d6_127)) ?_
            obtain ⟨cl37, Ar37, q37, S37, M37, Hs37, G37⟩ := id V_b31
            have hin37 : ¬ ((2 : Int32) < 0 ∨ cl37.slots.size ≤ ((2 : Int32)).toNatClampNeg) := inb_of S37 ⟨(by decide), (by decide)⟩
            obtain ⟨T37, h37, X37, e37, W37, st37⟩ := stC X35 hx hZ e35 Ar37 (j := (2 : Int32)) hin37 (g := (mkF m 128 #[rv x0, iv x1] [(.int ch2), (.int (2 : Int32)), (.ref b31), (.ref b31), (.ref b30), (.ref b30)])) rfl rfl (hb hby d6_128)
            have sk37 := ((Safe.arv hZ.alike V_b31 (by decide)) : Safe Z consts_1 s.vm h35 b31)
            have sf_b30 := Safe.wr W37 sk37 CH35.1 sf_b30
            have CH37 := CH35.trans (CHr.wr W37 sk37 CH35.1)
            have V_x0 := V_x0.other W37 ne_x0_b31
            have E_b30 := E_b30.wr W37
            have F_value_b30 := F_value_b30.other W37 (Or.inl ne_b30_b31)
            have F_coder_b30 := F_coder_b30.other W37 (Or.inl ne_b30_b31)
            have E_b31 := E_b31.wr W37
            have Zn37 : n0 ≤ h37.size := Nat.le_trans Zn35 (Keep.of_wr W37).1
            have K37 := K35.wr W37 (Or.inr sz_b31)
            have Od37 := Od35.wr W37 g_b31
            have hk37e := Nat.le_trans hk35e (Keep.of_wr W37).1
            have N37 := Fr.snoc X37 N35 g_b31
            have V_b31 : Arv Z h37 b31 k31 .char (4 : Int32) [(.int (wF_32 x1 ch0 ch1 ch2 ch3 ch4 ch5 ch6 ch7)), (.int (wF_60 x1 ch0 ch1 ch2 ch3 ch4 ch5 ch6 ch7)), (.int (wF_94 x1 ch0 ch1 ch2 ch3 ch4 ch5 ch6 ch7)), (.int (0 : Int32))] (.int (0 : Int32)) := Arv.set Ar37 q37 S37 M37 Hs37 G37 (fits_nar_char _) W37 2 rfl (Nat.le_of_ble_eq_true rfl)
            refine GoesH.st (B := T37.setTop (mkF m 129 #[rv x0, iv x1] [(.ref b31), (.ref b30), (.ref b30)])) st37 ?_
            refine GoesH.run X37 hx hown hci hcl hby (L := [(129, .dup, 1), (130, .iconst 3, 1), (131, .aload_n 0, 1), (132, .iconst 3, 1)]) (by decide +kernel) rfl (g' := (mkF m 133 #[rv x0, iv x1] [(.int (3 : Int32)), (.ref x0), (.int (3 : Int32)), (.ref b31), (.ref b31), (.ref b30), (.ref b30)])) rfl ?_
            obtain ⟨cl38, Ar38, q38, S38, M38, Hs38, G38⟩ := id V_x0
            have hin38 : ¬ ((3 : Int32) < 0 ∨ cl38.slots.size ≤ ((3 : Int32)).toNatClampNeg) := inb_of S38 ⟨(by decide), (by decide)⟩
            have hat38 : cl38.slots[((3 : Int32)).toNatClampNeg]? = some (.int ch3) := Hs38.at hin38 rfl
            refine GoesH.st (B := T37.setTop (mkF m 134 #[rv x0, iv x1] [(.int ch3), (.int (3 : Int32)), (.ref b31), (.ref b31), (.ref b30), (.ref b30)])) (X37.caload hx (j := (3 : Int32)) (v := (.int ch3)) (by rw [e37]; exact Ar38.1) (State.isArrayOf_alike hZ.alike Ar38.2.1) Ar38.2.2 hin38 hat38 (g := (mkF m 133 #[rv x0, iv x1] [(.int (3 : Int32)), (.ref x0), (.int (3 : Int32)), (.ref b31), (.ref b31), (.ref b30), (.ref b30)])) rfl rfl (hb hby d6_133)) ?_
            obtain ⟨cl39, Ar39, q39, S39, M39, Hs39, G39⟩ := id V_b31
            have hin39 : ¬ ((3 : Int32) < 0 ∨ cl39.slots.size ≤ ((3 : Int32)).toNatClampNeg) := inb_of S39 ⟨(by decide), (by decide)⟩
            obtain ⟨T39, h39, X39, e39, W39, st39⟩ := stC X37 hx hZ e37 Ar39 (j := (3 : Int32)) hin39 (g := (mkF m 134 #[rv x0, iv x1] [(.int ch3), (.int (3 : Int32)), (.ref b31), (.ref b31), (.ref b30), (.ref b30)])) rfl rfl (hb hby d6_134)
            have sk39 := ((Safe.arv hZ.alike V_b31 (by decide)) : Safe Z consts_1 s.vm h37 b31)
            have sf_b30 := Safe.wr W39 sk39 CH37.1 sf_b30
            have CH39 := CH37.trans (CHr.wr W39 sk39 CH37.1)
            have V_x0 := V_x0.other W39 ne_x0_b31
            have E_b30 := E_b30.wr W39
            have F_value_b30 := F_value_b30.other W39 (Or.inl ne_b30_b31)
            have F_coder_b30 := F_coder_b30.other W39 (Or.inl ne_b30_b31)
            have E_b31 := E_b31.wr W39
            have Zn39 : n0 ≤ h39.size := Nat.le_trans Zn37 (Keep.of_wr W39).1
            have K39 := K37.wr W39 (Or.inr sz_b31)
            have Od39 := Od37.wr W39 g_b31
            have hk39e := Nat.le_trans hk37e (Keep.of_wr W39).1
            have N39 := Fr.snoc X39 N37 g_b31
            have V_b31 : Arv Z h39 b31 k31 .char (4 : Int32) [(.int (wF_32 x1 ch0 ch1 ch2 ch3 ch4 ch5 ch6 ch7)), (.int (wF_60 x1 ch0 ch1 ch2 ch3 ch4 ch5 ch6 ch7)), (.int (wF_94 x1 ch0 ch1 ch2 ch3 ch4 ch5 ch6 ch7)), (.int (wF_134 x1 ch0 ch1 ch2 ch3 ch4 ch5 ch6 ch7))] (.int (0 : Int32)) := Arv.set Ar39 q39 S39 M39 Hs39 G39 (fits_nar_char _) W39 3 rfl (Nat.le_of_ble_eq_true rfl)
            refine GoesH.st (B := T39.setTop (mkF m 135 #[rv x0, iv x1] [(.ref b31), (.ref b30), (.ref b30)])) st39 ?_
            have hp_b30 : ∀ c ∈ (csF_135 x1 ch0 ch1 ch2 ch3 ch4 ch5 ch6 ch7), ¬ c < 0 ∧ ¬ (255 : Int32) < c := (own_alS pz0 (own_alS pz1 (own_alS pz2 (own_alS pz3 own_al0))))
            obtain ⟨_, _, ⟨T40, L40, k40, n40⟩, -, X40, ⟨Lc40, hQ40, l40, y40, z40⟩, st40⟩ := X39.specialBack hx (y := ym5) rfl hown (mvT hZ w_50) (mvT hZ w_51) (mvT hZ w_52) (by decide) (StrChars.Road.backV (W := 1) hZ (own_hws hw) (kI := 4) w_7 (cs := (csF_135 x1 ch0 ch1 ch2 ch3 ch4 ch5 ch6 ch7)) (bs := ((csF_135 x1 ch0 ch1 ch2 ch3 ch4 ch5 ch6 ch7).map (fun c => c.toInt8.toInt32))) (n := 4) g_b30 Zn39 E_b30 F_value_b30 F_coder_b30 V_b31 (O2.ext Od39.2) P5 rfl rfl (by decide) (by decide) hp_b30 rfl (by decide) (by decide)) (g := (mkF m 135 #[rv x0, iv x1] [(.ref b31), (.ref b30), (.ref b30)])) rfl (by rw [hml]; rfl) (Steps.refl _) (a := b30) (argsL := [(.ref b31)]) (rest := [(.ref b30)]) (lenOf pdF_0 rfl) rfl (by show 2 * 0 + _ ≤ _; exact Nat.le_of_eq rfl) (hb hby d6_135) (fun _ _ => ⟨rfl, e39, (by decide : 2 + 1 ≤ _), (by decide : 8 + 4 ≤ _)⟩)
            dsimp only [Pt.U, Pt.locs, Pt.cells, Pt.slots] at X40 l40 y40 z40 st40 hQ40
            subst l40 y40 z40
            obtain ⟨h40, eh40⟩ : ∃ z, z = T40.heap := ⟨_, rfl⟩
            rw [← eh40] at hQ40
            have e40 : T40.heap = h40 := eh40.symm
            obtain ⟨rfl, N40q, Kq40, o40_e, o40_c, t40, kb40, u40, szr40, nw40, o40_v, o40_a⟩ := hQ40
            have ne_b30_t40 : b30 ≠ t40 := Nat.ne_of_lt (Nat.lt_of_lt_of_le E_b30.lt szr40)
            have ne_b31_t40 : b31 ≠ t40 := Nat.ne_of_lt (Nat.lt_of_lt_of_le E_b31.lt szr40)
            have ne_x0_t40 : x0 ≠ t40 := Nat.ne_of_lt (Nat.lt_of_lt_of_le V_x0.lt szr40)
            have g_t40 : n0 ≤ t40 := Nat.le_trans Zn39 szr40
            have sz_t40 : h0.size ≤ t40 := Nat.le_trans K39.1 szr40
            have N40 := Fr.app N39 N40q
            have sk40 : ∀ x ∈ [b30], Safe Z consts_1 s.vm h39 x := (sfS sf_b30 sf0)
            have sf_b30 := Safe.keep Kq40 sk40 CH39.1 sf_b30
            have CH40 := CH39.trans (CHr.keep Kq40 sk40 CH39.1)
            have V_x0 := V_x0.keep Kq40 (ninS ne_x0_b30 nin0)
            have E_b30 := E_b30.keep Kq40
            have E_b31 := E_b31.keep Kq40
            have V_b31 := V_b31.keep Kq40 (ninS (Ne.symm ne_b30_b31) nin0)
            have Zn40 : n0 ≤ h40.size := Nat.le_trans Zn39 Kq40.1
            have hk40e := Nat.le_trans hk39e Kq40.1
            have K40 := K39.trans Kq40 ((allS (Or.inr sz_b30) all0))
            have Od40 := Od39.keep Kq40 (allS g_b30 all0)
            have F_coder_b30 : Fld Z h40 b30 "java/lang/String" "coder" "B" (.int (0 : Int32)) := o40_c
            have F_value_b30 : Fld Z h40 b30 "java/lang/String" "value" "[B" (.ref t40) := o40_v
            have V_t40 : Arv Z h40 t40 kb40 .byte (4 : Int32) (((csF_135 x1 ch0 ch1 ch2 ch3 ch4 ch5 ch6 ch7).map (fun c => c.toInt8.toInt32)).map Value.int) (.int (0 : Int32)) := o40_a
            refine GoesH.st (B := T40.setTop (mkF m 138 #[rv x0, iv x1] [(.ref b30)])) (fun t k => st40.trans k) ?_
            exact GoesH.retR X40 Sn0 (by rw [e40]; exact hk40e) (by rw [e40]; exact CH40) hZ hEL hx hlk Bd.returns rfl rfl (hb hby d6_138) (by show QMK Z x1 ch0 ch1 ch2 ch3 ch4 ch5 ch6 ch7 h0 n0 _ _ _; rw [e40]; have q : own_cs x1 ch0 ch1 ch2 ch3 ch4 ch5 ch6 ch7 = (csF_135 x1 ch0 ch1 ch2 ch3 ch4 ch5 ch6 ch7) := (((((if_neg hc1_1).trans (if_neg hc17_5)).trans (if_neg hc39_11)).trans (if_neg hc67_19)).trans (if_pos hc101_29)); unfold QMK; rw [q]; exact ⟨b30, t40, kb40, rfl, N40, K40, sz_b30, E_b30, F_coder_b30, F_value_b30, V_t40⟩) (by decide) (by decide)
          · skip
            refine GoesH.st (B := s₁.setTop (mkF m 139 #[rv x0, iv x1] [])) (fun t k => ?_) ?_
            · refine XS.icmpYes X0.here hx rfl (pc0 := 101) (pc' := 139) rfl (hb hby d6_101) rfl (feq hc101_29).2 (by decide) (by decide) ?_
              exact k
            refine GoesH.run X0 hx hown hci hcl hby (L := [(139, .iload_n 1, 1), (140, .iconst 5, 1)]) (by decide +kernel) rfl (g' := (mkF m 141 #[rv x0, iv x1] [(.int (5 : Int32)), (.int x1)])) rfl ?_
            by_cases hc141_41 : x1 = (5 : Int32)
            · skip
              refine GoesH.st (B := s₁.setTop (mkF m 144 #[rv x0, iv x1] [])) (fun t k => ?_) ?_
              · refine XS.icmpNo X0.here hx rfl (hb hby d6_141) rfl (teq hc141_41).2 ?_
                exact k
              obtain ⟨T42, h42, X42, e42, E42, A42, D42, -, st42⟩ := newO X0 hx hZ hown w_49 w_7 w_6 e0 (g := (mkF m 144 #[rv x0, iv x1] [])) rfl (hb hby d6_144) (by decide) (by decide)
              obtain ⟨b42, g42⟩ : ∃ z, z = h0.size := ⟨_, rfl⟩
              rw [← g42] at A42 D42 st42
              have ne_x0_b42 : x0 ≠ b42 := Nat.ne_of_lt (Nat.lt_of_lt_of_le V_x0.lt (Nat.le_of_eq g42.symm))
              have g_b42 : n0 ≤ b42 := Nat.le_trans Z0 (Nat.le_of_eq g42.symm)
              have sz_b42 : h0.size ≤ b42 := Nat.le_trans K0.1 (Nat.le_of_eq g42.symm)
              have sf_b42 : Safe Z consts_1 s.vm h0 b42 := Safe.new (Nat.le_of_eq g42.symm)
              have sf_b42 := Safe.ext E42 CH0.1 sf_b42
              have CH42 := CH0.trans (CHr.ext E42 CH0.1)
              have V_x0 := V_x0.ext E42
              have Zn42 : n0 ≤ h42.size := Nat.le_trans Z0 E42.1
              have K42 := K0.ext E42
              have Od42 := O0.ext E42
              have hk42e := Nat.le_trans hk0 E42.1
              have E_b42 : Exa Z h42 b42 "java/lang/String" := A42
              have F_value_b42 : Fld Z h42 b42 "java/lang/String" "value" "[B" .null := D42 (Or.inr w_9) (ty := (.array .byte)) (by decide)
              have F_coder_b42 : Fld Z h42 b42 "java/lang/String" "coder" "B" (.int (0 : Int32)) := D42 (Or.inr w_10) (ty := .byte) (by decide)
              refine GoesH.st (B := T42.setTop (mkF m 147 #[rv x0, iv x1] [(.ref b42)])) st42 ?_
              refine GoesH.run X42 hx hown hci hcl hby (L := [(147, .dup, 1), (148, .iconst 5, 1)]) (by decide +kernel) rfl (g' := (mkF m 149 #[rv x0, iv x1] [(.int (5 : Int32)), (.ref b42), (.ref b42)])) rfl ?_
              obtain ⟨T43, h43, k43, X43, e43, E43, A43, B43, st43⟩ := newPE X42 hx hZ (aty := .char) w_0 e42 (g := (mkF m 149 #[rv x0, iv x1] [(.int (5 : Int32)), (.ref b42), (.ref b42)])) rfl (hb hby d6_149) rfl (by decide) (cap := 5) (by decide) (by decide) (by decide) (by decide) (ad := "[C") (by decide)
              obtain ⟨b43, g43⟩ : ∃ z, z = h42.size := ⟨_, rfl⟩
              rw [← g43] at A43 B43 st43
              have ne_b42_b43 : b42 ≠ b43 := Nat.ne_of_lt (Nat.lt_of_lt_of_le E_b42.lt (Nat.le_of_eq g43.symm))
              have ne_x0_b43 : x0 ≠ b43 := Nat.ne_of_lt (Nat.lt_of_lt_of_le V_x0.lt (Nat.le_of_eq g43.symm))
              have g_b43 : n0 ≤ b43 := Nat.le_trans Zn42 (Nat.le_of_eq g43.symm)
              have sz_b43 : h0.size ≤ b43 := Nat.le_trans K42.1 (Nat.le_of_eq g43.symm)
              have sf_b42 := Safe.ext E43 CH42.1 sf_b42
              have CH43 := CH42.trans (CHr.ext E43 CH42.1)
              have V_x0 := V_x0.ext E43
              have E_b42 := E_b42.ext E43
              have F_value_b42 := F_value_b42.ext E43
              have F_coder_b42 := F_coder_b42.ext E43
              have Zn43 : n0 ≤ h43.size := Nat.le_trans Zn42 E43.1
              have K43 := K42.ext E43
              have Od43 := Od42.ext E43
              have hk43e := Nat.le_trans hk42e E43.1
              have E_b43 : Exa Z h43 b43 "[C" := B43
              have V_b43 : Arv Z h43 b43 k43 .char (5 : Int32) [(.int (0 : Int32)), (.int (0 : Int32)), (.int (0 : Int32)), (.int (0 : Int32)), (.int (0 : Int32))] (.int (0 : Int32)) := (Arv.new A43 (by decide)).pad (pad_rep [] (.int (0 : Int32)) 5)
              refine GoesH.st (B := T43.setTop (mkF m 151 #[rv x0, iv x1] [(.ref b43), (.ref b42), (.ref b42)])) st43 ?_
              refine GoesH.run X43 hx hown hci hcl hby (L := [(151, .dup, 1), (152, .iconst 0, 1), (153, .aload_n 0, 1), (154, .iconst 0, 1)]) (by decide +kernel) rfl (g' := (mkF m 155 #[rv x0, iv x1] [(.int (0 : Int32)), (.ref x0), (.int (0 : Int32)), (.ref b43), (.ref b43), (.ref b42), (.ref b42)])) rfl ?_
              obtain ⟨cl44, Ar44, q44, S44, M44, Hs44, G44⟩ := id V_x0
              have hin44 : ¬ ((0 : Int32) < 0 ∨ cl44.slots.size ≤ ((0 : Int32)).toNatClampNeg) := inb_of S44 ⟨(by decide), (by decide)⟩
              have hat44 : cl44.slots[((0 : Int32)).toNatClampNeg]? = some (.int ch0) := Hs44.at hin44 rfl
              refine GoesH.st (B := T43.setTop (mkF m 156 #[rv x0, iv x1] [(.int ch0), (.int (0 : Int32)), (.ref b43), (.ref b43), (.ref b42), (.ref b42)])) (X43.caload hx (j := (0 : Int32)) (v := (.int ch0)) (by rw [e43]; exact Ar44.1) (State.isArrayOf_alike hZ.alike Ar44.2.1) Ar44.2.2 hin44 hat44 (g := (mkF m 155 #[rv x0, iv x1] [(.int (0 : Int32)), (.ref x0), (.int (0 : Int32)), (.ref b43), (.ref b43), (.ref b42), (.ref b42)])) rfl rfl (hb hby d6_155)) ?_
              obtain ⟨cl45, Ar45, q45, S45, M45, Hs45, G45⟩ := id V_b43
              have hin45 : ¬ ((0 : Int32) < 0 ∨ cl45.slots.size ≤ ((0 : Int32)).toNatClampNeg) := inb_of S45 ⟨(by decide), (by decide)⟩
              obtain ⟨T45, h45, X45, e45, W45, st45⟩ := stC X43 hx hZ e43 Ar45 (j := (0 : Int32)) hin45 (g := (mkF m 156 #[rv x0, iv x1] [(.int ch0), (.int (0 : Int32)), (.ref b43), (.ref b43), (.ref b42), (.ref b42)])) rfl rfl (hb hby d6_156)
              have sk45 := ((Safe.arv hZ.alike V_b43 (by decide)) : Safe Z consts_1 s.vm h43 b43)
              have sf_b42 := Safe.wr W45 sk45 CH43.1 sf_b42
              have CH45 := CH43.trans (CHr.wr W45 sk45 CH43.1)
              have V_x0 := V_x0.other W45 ne_x0_b43
              have E_b42 := E_b42.wr W45
              have F_value_b42 := F_value_b42.other W45 (Or.inl ne_b42_b43)
              have F_coder_b42 := F_coder_b42.other W45 (Or.inl ne_b42_b43)
              have E_b43 := E_b43.wr W45
              have Zn45 : n0 ≤ h45.size := Nat.le_trans Zn43 (Keep.of_wr W45).1
              have K45 := K43.wr W45 (Or.inr sz_b43)
              have Od45 := Od43.wr W45 g_b43
              have hk45e := Nat.le_trans hk43e (Keep.of_wr W45).1
              have N45 := Fr.snoc X45 N0 g_b43
              have V_b43 : Arv Z h45 b43 k43 .char (5 : Int32) [(.int (wF_32 x1 ch0 ch1 ch2 ch3 ch4 ch5 ch6 ch7)), (.int (0 : Int32)), (.int (0 : Int32)), (.int (0 : Int32)), (.int (0 : Int32))] (.int (0 : Int32)) := Arv.set Ar45 q45 S45 M45 Hs45 G45 (fits_nar_char _) W45 0 rfl (Nat.le_of_ble_eq_true rfl)
              refine GoesH.st (B := T45.setTop (mkF m 157 #[rv x0, iv x1] [(.ref b43), (.ref b42), (.ref b42)])) st45 ?_
              refine GoesH.run X45 hx hown hci hcl hby (L := [(157, .dup, 1), (158, .iconst 1, 1), (159, .aload_n 0, 1), (160, .iconst 1, 1)]) (by decide +kernel) rfl (g' := (mkF m 161 #[rv x0, iv x1] [(.int (1 : Int32)), (.ref x0), (.int (1 : Int32)), (.ref b43), (.ref b43), (.ref b42), (.ref b42)])) rfl ?_
              obtain ⟨cl46, Ar46, q46, S46, M46, Hs46, G46⟩ := id V_x0
              have hin46 : ¬ ((1 : Int32) < 0 ∨ cl46.slots.size ≤ ((1 : Int32)).toNatClampNeg) := inb_of S46 ⟨(by decide), (by decide)⟩
              have hat46 : cl46.slots[((1 : Int32)).toNatClampNeg]? = some (.int ch1) := Hs46.at hin46 rfl
              refine GoesH.st (B := T45.setTop (mkF m 162 #[rv x0, iv x1] [(.int ch1), (.int (1 : Int32)), (.ref b43), (.ref b43), (.ref b42), (.ref b42)])) (X45.caload hx (j := (1 : Int32)) (v := (.int ch1)) (by rw [e45]; exact Ar46.1) (State.isArrayOf_alike hZ.alike Ar46.2.1) Ar46.2.2 hin46 hat46 (g := (mkF m 161 #[rv x0, iv x1] [(.int (1 : Int32)), (.ref x0), (.int (1 : Int32)), (.ref b43), (.ref b43), (.ref b42), (.ref b42)])) rfl rfl (hb hby d6_161)) ?_
              obtain ⟨cl47, Ar47, q47, S47, M47, Hs47, G47⟩ := id V_b43
              have hin47 : ¬ ((1 : Int32) < 0 ∨ cl47.slots.size ≤ ((1 : Int32)).toNatClampNeg) := inb_of S47 ⟨(by decide), (by decide)⟩
              obtain ⟨T47, h47, X47, e47, W47, st47⟩ := stC X45 hx hZ e45 Ar47 (j := (1 : Int32)) hin47 (g := (mkF m 162 #[rv x0, iv x1] [(.int ch1), (.int (1 : Int32)), (.ref b43), (.ref b43), (.ref b42), (.ref b42)])) rfl rfl (hb hby d6_162)
              have sk47 := ((Safe.arv hZ.alike V_b43 (by decide)) : Safe Z consts_1 s.vm h45 b43)
              have sf_b42 := Safe.wr W47 sk47 CH45.1 sf_b42
              have CH47 := CH45.trans (CHr.wr W47 sk47 CH45.1)
              have V_x0 := V_x0.other W47 ne_x0_b43
              have E_b42 := E_b42.wr W47
              have F_value_b42 := F_value_b42.other W47 (Or.inl ne_b42_b43)
              have F_coder_b42 := F_coder_b42.other W47 (Or.inl ne_b42_b43)
              have E_b43 := E_b43.wr W47
              have Zn47 : n0 ≤ h47.size := Nat.le_trans Zn45 (Keep.of_wr W47).1
              have K47 := K45.wr W47 (Or.inr sz_b43)
              have Od47 := Od45.wr W47 g_b43
              have hk47e := Nat.le_trans hk45e (Keep.of_wr W47).1
              have N47 := Fr.snoc X47 N45 g_b43
              have V_b43 : Arv Z h47 b43 k43 .char (5 : Int32) [(.int (wF_32 x1 ch0 ch1 ch2 ch3 ch4 ch5 ch6 ch7)), (.int (wF_60 x1 ch0 ch1 ch2 ch3 ch4 ch5 ch6 ch7)), (.int (0 : Int32)), (.int (0 : Int32)), (.int (0 : Int32))] (.int (0 : Int32)) := Arv.set Ar47 q47 S47 M47 Hs47 G47 (fits_nar_char _) W47 1 rfl (Nat.le_of_ble_eq_true rfl)
              refine GoesH.st (B := T47.setTop (mkF m 163 #[rv x0, iv x1] [(.ref b43), (.ref b42), (.ref b42)])) st47 ?_
              refine GoesH.run X47 hx hown hci hcl hby (L := [(163, .dup, 1), (164, .iconst 2, 1), (165, .aload_n 0, 1), (166, .iconst 2, 1)]) (by decide +kernel) rfl (g' := (mkF m 167 #[rv x0, iv x1] [(.int (2 : Int32)), (.ref x0), (.int (2 : Int32)), (.ref b43), (.ref b43), (.ref b42), (.ref b42)])) rfl ?_
              obtain ⟨cl48, Ar48, q48, S48, M48, Hs48, G48⟩ := id V_x0
              have hin48 : ¬ ((2 : Int32) < 0 ∨ cl48.slots.size ≤ ((2 : Int32)).toNatClampNeg) := inb_of S48 ⟨(by decide), (by decide)⟩
              have hat48 : cl48.slots[((2 : Int32)).toNatClampNeg]? = some (.int ch2) := Hs48.at hin48 rfl
              refine GoesH.st (B := T47.setTop (mkF m 168 #[rv x0, iv x1] [(.int ch2), (.int (2 : Int32)), (.ref b43), (.ref b43), (.ref b42), (.ref b42)])) (X47.caload hx (j := (2 : Int32)) (v := (.int ch2)) (by rw [e47]; exact Ar48.1) (State.isArrayOf_alike hZ.alike Ar48.2.1) Ar48.2.2 hin48 hat48 (g := (mkF m 167 #[rv x0, iv x1] [(.int (2 : Int32)), (.ref x0), (.int (2 : Int32)), (.ref b43), (.ref b43), (.ref b42), (.ref b42)])) rfl rfl (hb hby d6_167)) ?_
              obtain ⟨cl49, Ar49, q49, S49, M49, Hs49, G49⟩ := id V_b43
              have hin49 : ¬ ((2 : Int32) < 0 ∨ cl49.slots.size ≤ ((2 : Int32)).toNatClampNeg) := inb_of S49 ⟨(by decide), (by decide)⟩
              obtain ⟨T49, h49, X49, e49, W49, st49⟩ := stC X47 hx hZ e47 Ar49 (j := (2 : Int32)) hin49 (g := (mkF m 168 #[rv x0, iv x1] [(.int ch2), (.int (2 : Int32)), (.ref b43), (.ref b43), (.ref b42), (.ref b42)])) rfl rfl (hb hby d6_168)
              have sk49 := ((Safe.arv hZ.alike V_b43 (by decide)) : Safe Z consts_1 s.vm h47 b43)
              have sf_b42 := Safe.wr W49 sk49 CH47.1 sf_b42
              have CH49 := CH47.trans (CHr.wr W49 sk49 CH47.1)
              have V_x0 := V_x0.other W49 ne_x0_b43
              have E_b42 := E_b42.wr W49
              have F_value_b42 := F_value_b42.other W49 (Or.inl ne_b42_b43)
              have F_coder_b42 := F_coder_b42.other W49 (Or.inl ne_b42_b43)
              have E_b43 := E_b43.wr W49
              have Zn49 : n0 ≤ h49.size := Nat.le_trans Zn47 (Keep.of_wr W49).1
              have K49 := K47.wr W49 (Or.inr sz_b43)
              have Od49 := Od47.wr W49 g_b43
              have hk49e := Nat.le_trans hk47e (Keep.of_wr W49).1
              have N49 := Fr.snoc X49 N47 g_b43
              have V_b43 : Arv Z h49 b43 k43 .char (5 : Int32) [(.int (wF_32 x1 ch0 ch1 ch2 ch3 ch4 ch5 ch6 ch7)), (.int (wF_60 x1 ch0 ch1 ch2 ch3 ch4 ch5 ch6 ch7)), (.int (wF_94 x1 ch0 ch1 ch2 ch3 ch4 ch5 ch6 ch7)), (.int (0 : Int32)), (.int (0 : Int32))] (.int (0 : Int32)) := Arv.set Ar49 q49 S49 M49 Hs49 G49 (fits_nar_char _) W49 2 rfl (Nat.le_of_ble_eq_true rfl)
              refine GoesH.st (B := T49.setTop (mkF m 169 #[rv x0, iv x1] [(.ref b43), (.ref b42), (.ref b42)])) st49 ?_
              refine GoesH.run X49 hx hown hci hcl hby (L := [(169, .dup, 1), (170, .iconst 3, 1), (171, .aload_n 0, 1), (172, .iconst 3, 1)]) (by decide +kernel) rfl (g' := (mkF m 173 #[rv x0, iv x1] [(.int (3 : Int32)), (.ref x0), (.int (3 : Int32)), (.ref b43), (.ref b43), (.ref b42), (.ref b42)])) rfl ?_
              obtain ⟨cl50, Ar50, q50, S50, M50, Hs50, G50⟩ := id V_x0
              have hin50 : ¬ ((3 : Int32) < 0 ∨ cl50.slots.size ≤ ((3 : Int32)).toNatClampNeg) := inb_of S50 ⟨(by decide), (by decide)⟩
              have hat50 : cl50.slots[((3 : Int32)).toNatClampNeg]? = some (.int ch3) := Hs50.at hin50 rfl
              refine GoesH.st (B := T49.setTop (mkF m 174 #[rv x0, iv x1] [(.int ch3), (.int (3 : Int32)), (.ref b43), (.ref b43), (.ref b42), (.ref b42)])) (X49.caload hx (j := (3 : Int32)) (v := (.int ch3)) (by rw [e49]; exact Ar50.1) (State.isArrayOf_alike hZ.alike Ar50.2.1) Ar50.2.2 hin50 hat50 (g := (mkF m 173 #[rv x0, iv x1] [(.int (3 : Int32)), (.ref x0), (.int (3 : Int32)), (.ref b43), (.ref b43), (.ref b42), (.ref b42)])) rfl rfl (hb hby d6_173)) ?_
              obtain ⟨cl51, Ar51, q51, S51, M51, Hs51, G51⟩ := id V_b43
              have hin51 : ¬ ((3 : Int32) < 0 ∨ cl51.slots.size ≤ ((3 : Int32)).toNatClampNeg) := inb_of S51 ⟨(by decide), (by decide)⟩
              obtain ⟨T51, h51, X51, e51, W51, st51⟩ := stC X49 hx hZ e49 Ar51 (j := (3 : Int32)) hin51 (g := (mkF m 174 #[rv x0, iv x1] [(.int ch3), (.int (3 : Int32)), (.ref b43), (.ref b43), (.ref b42), (.ref b42)])) rfl rfl (hb hby d6_174)
              have sk51 := ((Safe.arv hZ.alike V_b43 (by decide)) : Safe Z consts_1 s.vm h49 b43)
              have sf_b42 := Safe.wr W51 sk51 CH49.1 sf_b42
              have CH51 := CH49.trans (CHr.wr W51 sk51 CH49.1)
              have V_x0 := V_x0.other W51 ne_x0_b43
              have E_b42 := E_b42.wr W51
              have F_value_b42 := F_value_b42.other W51 (Or.inl ne_b42_b43)
              have F_coder_b42 := F_coder_b42.other W51 (Or.inl ne_b42_b43)
              have E_b43 := E_b43.wr W51
              have Zn51 : n0 ≤ h51.size := Nat.le_trans Zn49 (Keep.of_wr W51).1
              have K51 := K49.wr W51 (Or.inr sz_b43)
              have Od51 := Od49.wr W51 g_b43
              have hk51e := Nat.le_trans hk49e (Keep.of_wr W51).1
              have N51 := Fr.snoc X51 N49 g_b43
              have V_b43 : Arv Z h51 b43 k43 .char (5 : Int32) [(.int (wF_32 x1 ch0 ch1 ch2 ch3 ch4 ch5 ch6 ch7)), (.int (wF_60 x1 ch0 ch1 ch2 ch3 ch4 ch5 ch6 ch7)), (.int (wF_94 x1 ch0 ch1 ch2 ch3 ch4 ch5 ch6 ch7)), (.int (wF_134 x1 ch0 ch1 ch2 ch3 ch4 ch5 ch6 ch7)), (.int (0 : Int32))] (.int (0 : Int32)) := Arv.set Ar51 q51 S51 M51 Hs51 G51 (fits_nar_char _) W51 3 rfl (Nat.le_of_ble_eq_true rfl)
              refine GoesH.st (B := T51.setTop (mkF m 175 #[rv x0, iv x1] [(.ref b43), (.ref b42), (.ref b42)])) st51 ?_
              refine GoesH.run X51 hx hown hci hcl hby (L := [(175, .dup, 1), (176, .iconst 4, 1), (177, .aload_n 0, 1), (178, .iconst 4, 1)]) (by decide +kernel) rfl (g' := (mkF m 179 #[rv x0, iv x1] [(.int (4 : Int32)), (.ref x0), (.int (4 : Int32)), (.ref b43), (.ref b43), (.ref b42), (.ref b42)])) rfl ?_
              obtain ⟨cl52, Ar52, q52, S52, M52, Hs52, G52⟩ := id V_x0
              have hin52 : ¬ ((4 : Int32) < 0 ∨ cl52.slots.size ≤ ((4 : Int32)).toNatClampNeg) := inb_of S52 ⟨(by decide), (by decide)⟩
              have hat52 : cl52.slots[((4 : Int32)).toNatClampNeg]? = some (.int ch4) := Hs52.at hin52 rfl
              refine GoesH.st (B := T51.setTop (mkF m 180 #[rv x0, iv x1] [(.int ch4), (.int (4 : Int32)), (.ref b43), (.ref b43), (.ref b42), (.ref b42)])) (X51.caload hx (j := (4 : Int32)) (v := (.int ch4)) (by rw [e51]; exact Ar52.1) (State.isArrayOf_alike hZ.alike Ar52.2.1) Ar52.2.2 hin52 hat52 (g := (mkF m 179 #[rv x0, iv x1] [(.int (4 : Int32)), (.ref x0), (.int (4 : Int32)), (.ref b43), (.ref b43), (.ref b42), (.ref b42)])) rfl rfl (hb hby d6_179)) ?_
              obtain ⟨cl53, Ar53, q53, S53, M53, Hs53, G53⟩ := id V_b43
              have hin53 : ¬ ((4 : Int32) < 0 ∨ cl53.slots.size ≤ ((4 : Int32)).toNatClampNeg) := inb_of S53 ⟨(by decide), (by decide)⟩
              obtain ⟨T53, h53, X53, e53, W53, st53⟩ := stC X51 hx hZ e51 Ar53 (j := (4 : Int32)) hin53 (g := (mkF m 180 #[rv x0, iv x1] [(.int ch4), (.int (4 : Int32)), (.ref b43), (.ref b43), (.ref b42), (.ref b42)])) rfl rfl (hb hby d6_180)
              have sk53 := ((Safe.arv hZ.alike V_b43 (by decide)) : Safe Z consts_1 s.vm h51 b43)
              have sf_b42 := Safe.wr W53 sk53 CH51.1 sf_b42
              have CH53 := CH51.trans (CHr.wr W53 sk53 CH51.1)
              have V_x0 := V_x0.other W53 ne_x0_b43
              have E_b42 := E_b42.wr W53
              have F_value_b42 := F_value_b42.other W53 (Or.inl ne_b42_b43)
              have F_coder_b42 := F_coder_b42.other W53 (Or.inl ne_b42_b43)
              have E_b43 := E_b43.wr W53
              have Zn53 : n0 ≤ h53.size := Nat.le_trans Zn51 (Keep.of_wr W53).1
              have K53 := K51.wr W53 (Or.inr sz_b43)
              have Od53 := Od51.wr W53 g_b43
              have hk53e := Nat.le_trans hk51e (Keep.of_wr W53).1
              have N53 := Fr.snoc X53 N51 g_b43
              have V_b43 : Arv Z h53 b43 k43 .char (5 : Int32) [(.int (wF_32 x1 ch0 ch1 ch2 ch3 ch4 ch5 ch6 ch7)), (.int (wF_60 x1 ch0 ch1 ch2 ch3 ch4 ch5 ch6 ch7)), (.int (wF_94 x1 ch0 ch1 ch2 ch3 ch4 ch5 ch6 ch7)), (.int (wF_134 x1 ch0 ch1 ch2 ch3 ch4 ch5 ch6 ch7)), (.int (wF_180 x1 ch0 ch1 ch2 ch3 ch4 ch5 ch6 ch7))] (.int (0 : Int32)) := Arv.set Ar53 q53 S53 M53 Hs53 G53 (fits_nar_char _) W53 4 rfl (Nat.le_of_ble_eq_true rfl)
              refine GoesH.st (B := T53.setTop (mkF m 181 #[rv x0, iv x1] [(.ref b43), (.ref b42), (.ref b42)])) st53 ?_
              have hp_b42 : ∀ c ∈ (csF_181 x1 ch0 ch1 ch2 ch3 ch4 ch5 ch6 ch7), ¬ c < 0 ∧ ¬ (255 : Int32) < c := (own_alS pz0 (own_alS pz1 (own_alS pz2 (own_alS pz3 (own_alS pz4 own_al0)))))
              obtain ⟨_, _, ⟨T54, L54, k54, n54⟩, -, X54, ⟨Lc54, hQ54, l54, y54, z54⟩, st54⟩ := X53.specialBack hx (y := ym5) rfl hown (mvT hZ w_50) (mvT hZ w_51) (mvT hZ w_52) (by decide) (StrChars.Road.backV (W := 1) hZ (own_hws hw) (kI := 4) w_7 (cs := (csF_181 x1 ch0 ch1 ch2 ch3 ch4 ch5 ch6 ch7)) (bs := ((csF_181 x1 ch0 ch1 ch2 ch3 ch4 ch5 ch6 ch7).map (fun c => c.toInt8.toInt32))) (n := 5) g_b42 Zn53 E_b42 F_value_b42 F_coder_b42 V_b43 (O2.ext Od53.2) P5 rfl rfl (by decide) (by decide) hp_b42 rfl (by decide) (by decide)) (g := (mkF m 181 #[rv x0, iv x1] [(.ref b43), (.ref b42), (.ref b42)])) rfl (by rw [hml]; rfl) (Steps.refl _) (a := b42) (argsL := [(.ref b43)]) (rest := [(.ref b42)]) (lenOf pdF_0 rfl) rfl (by show 2 * 0 + _ ≤ _; exact Nat.le_of_eq rfl) (hb hby d6_181) (fun _ _ => ⟨rfl, e53, (by decide : 2 + 1 ≤ _), (by decide : 9 + 5 ≤ _)⟩)
              dsimp only [Pt.U, Pt.locs, Pt.cells, Pt.slots] at X54 l54 y54 z54 st54 hQ54
              subst l54 y54 z54
              obtain ⟨h54, eh54⟩ : ∃ z, z = T54.heap := ⟨_, rfl⟩
              rw [← eh54] at hQ54
              have e54 : T54.heap = h54 := eh54.symm
              obtain ⟨rfl, N54q, Kq54, o54_e, o54_c, t54, kb54, u54, szr54, nw54, o54_v, o54_a⟩ := hQ54
              have ne_b42_t54 : b42 ≠ t54 := Nat.ne_of_lt (Nat.lt_of_lt_of_le E_b42.lt szr54)
              have ne_b43_t54 : b43 ≠ t54 := Nat.ne_of_lt (Nat.lt_of_lt_of_le E_b43.lt szr54)
              have ne_x0_t54 : x0 ≠ t54 := Nat.ne_of_lt (Nat.lt_of_lt_of_le V_x0.lt szr54)
              have g_t54 : n0 ≤ t54 := Nat.le_trans Zn53 szr54
              have sz_t54 : h0.size ≤ t54 := Nat.le_trans K53.1 szr54
              have N54 := Fr.app N53 N54q
              have sk54 : ∀ x ∈ [b42], Safe Z consts_1 s.vm h53 x := (sfS sf_b42 sf0)
              have sf_b42 := Safe.keep Kq54 sk54 CH53.1 sf_b42
              have CH54 := CH53.trans (CHr.keep Kq54 sk54 CH53.1)
              have V_x0 := V_x0.keep Kq54 (ninS ne_x0_b42 nin0)
              have E_b42 := E_b42.keep Kq54
              have E_b43 := E_b43.keep Kq54
              have V_b43 := V_b43.keep Kq54 (ninS (Ne.symm ne_b42_b43) nin0)
              have Zn54 : n0 ≤ h54.size := Nat.le_trans Zn53 Kq54.1
              have hk54e := Nat.le_trans hk53e Kq54.1
              have K54 := K53.trans Kq54 ((allS (Or.inr sz_b42) all0))
              have Od54 := Od53.keep Kq54 (allS g_b42 all0)
              have F_coder_b42 : Fld Z h54 b42 "java/lang/String" "coder" "B" (.int (0 : Int32)) := o54_c
              have F_value_b42 : Fld Z h54 b42 "java/lang/String" "value" "[B" (.ref t54) := o54_v
              have V_t54 : Arv Z h54 t54 kb54 .byte (5 : Int32) (((csF_181 x1 ch0 ch1 ch2 ch3 ch4 ch5 ch6 ch7).map (fun c => c.toInt8.toInt32)).map Value.int) (.int (0 : Int32)) := o54_a
              refine GoesH.st (B := T54.setTop (mkF m 184 #[rv x0, iv x1] [(.ref b42)])) (fun t k => st54.trans k) ?_
              exact GoesH.retR X54 Sn0 (by rw [e54]; exact hk54e) (by rw [e54]; exact CH54) hZ hEL hx hlk Bd.returns rfl rfl (hb hby d6_184) (by show QMK Z x1 ch0 ch1 ch2 ch3 ch4 ch5 ch6 ch7 h0 n0 _ _ _; rw [e54]; have q : own_cs x1 ch0 ch1 ch2 ch3 ch4 ch5 ch6 ch7 = (csF_181 x1 ch0 ch1 ch2 ch3 ch4 ch5 ch6 ch7) := ((((((if_neg hc1_1).trans (if_neg hc17_5)).trans (if_neg hc39_11)).trans (if_neg hc67_19)).trans (if_neg hc101_29)).trans (if_pos hc141_41)); unfold QMK; rw [q]; exact ⟨b42, t54, kb54, rfl, N54, K54, sz_b42, E_b42, F_coder_b42, F_value_b42, V_t54⟩) (by decide) (by decide)
            · skip
              refine GoesH.st (B := s₁.setTop (mkF m 185 #[rv x0, iv x1] [])) (fun t k => ?_) ?_
              · refine XS.icmpYes X0.here hx rfl (pc0 := 141) (pc' := 185) rfl (hb hby d6_141) rfl (feq hc141_41).2 (by decide) (by decide) ?_
                exact k
              refine GoesH.run X0 hx hown hci hcl hby (L := [(185, .iload_n 1, 1), (186, .bipush 6, 2)]) (by decide +kernel) rfl (g' := (mkF m 188 #[rv x0, iv x1] [(.int (6 : Int32)), (.int x1)])) rfl ?_
              by_cases hc188_55 : x1 = (6 : Int32)
              · skip
                refine GoesH.st (B := s₁.setTop (mkF m 191 #[rv x0, iv x1] [])) (fun t k => ?_) ?_
                · refine XS.icmpNo X0.here hx rfl (hb hby d6_188) rfl (teq hc188_55).2 ?_
                  exact k
                obtain ⟨T56, h56, X56, e56, E56, A56, D56, -, st56⟩ := newO X0 hx hZ hown w_49 w_7 w_6 e0 (g := (mkF m 191 #[rv x0, iv x1] [])) rfl (hb hby d6_191) (by decide) (by decide)
                obtain ⟨b56, g56⟩ : ∃ z, z = h0.size := ⟨_, rfl⟩
                rw [← g56] at A56 D56 st56
                have ne_x0_b56 : x0 ≠ b56 := Nat.ne_of_lt (Nat.lt_of_lt_of_le V_x0.lt (Nat.le_of_eq g56.symm))
                have g_b56 : n0 ≤ b56 := Nat.le_trans Z0 (Nat.le_of_eq g56.symm)
                have sz_b56 : h0.size ≤ b56 := Nat.le_trans K0.1 (Nat.le_of_eq g56.symm)
                have sf_b56 : Safe Z consts_1 s.vm h0 b56 := Safe.new (Nat.le_of_eq g56.symm)
                have sf_b56 := Safe.ext E56 CH0.1 sf_b56
                have CH56 := CH0.trans (CHr.ext E56 CH0.1)
                have V_x0 := V_x0.ext E56
                have Zn56 : n0 ≤ h56.size := Nat.le_trans Z0 E56.1
                have K56 := K0.ext E56
                have Od56 := O0.ext E56
                have hk56e := Nat.le_trans hk0 E56.1
                have E_b56 : Exa Z h56 b56 "java/lang/String" := A56
                have F_value_b56 : Fld Z h56 b56 "java/lang/String" "value" "[B" .null := D56 (Or.inr w_9) (ty := (.array .byte)) (by decide)
                have F_coder_b56 : Fld Z h56 b56 "java/lang/String" "coder" "B" (.int (0 : Int32)) := D56 (Or.inr w_10) (ty := .byte) (by decide)
                refine GoesH.st (B := T56.setTop (mkF m 194 #[rv x0, iv x1] [(.ref b56)])) st56 ?_
                refine GoesH.run X56 hx hown hci hcl hby (L := [(194, .dup, 1), (195, .bipush 6, 2)]) (by decide +kernel) rfl (g' := (mkF m 197 #[rv x0, iv x1] [(.int (6 : Int32)), (.ref b56), (.ref b56)])) rfl ?_
                obtain ⟨T57, h57, k57, X57, e57, E57, A57, B57, st57⟩ := newPE X56 hx hZ (aty := .char) w_0 e56 (g := (mkF m 197 #[rv x0, iv x1] [(.int (6 : Int32)), (.ref b56), (.ref b56)])) rfl (hb hby d6_197) rfl (by decide) (cap := 6) (by decide) (by decide) (by decide) (by decide) (ad := "[C") (by decide)
                obtain ⟨b57, g57⟩ : ∃ z, z = h56.size := ⟨_, rfl⟩
                rw [← g57] at A57 B57 st57
                have ne_b56_b57 : b56 ≠ b57 := Nat.ne_of_lt (Nat.lt_of_lt_of_le E_b56.lt (Nat.le_of_eq g57.symm))
                have ne_x0_b57 : x0 ≠ b57 := Nat.ne_of_lt (Nat.lt_of_lt_of_le V_x0.lt (Nat.le_of_eq g57.symm))
                have g_b57 : n0 ≤ b57 := Nat.le_trans Zn56 (Nat.le_of_eq g57.symm)
                have sz_b57 : h0.size ≤ b57 := Nat.le_trans K56.1 (Nat.le_of_eq g57.symm)
                have sf_b56 := Safe.ext E57 CH56.1 sf_b56
                have CH57 := CH56.trans (CHr.ext E57 CH56.1)
                have V_x0 := V_x0.ext E57
                have E_b56 := E_b56.ext E57
                have F_value_b56 := F_value_b56.ext E57
                have F_coder_b56 := F_coder_b56.ext E57
                have Zn57 : n0 ≤ h57.size := Nat.le_trans Zn56 E57.1
                have K57 := K56.ext E57
                have Od57 := Od56.ext E57
                have hk57e := Nat.le_trans hk56e E57.1
                have E_b57 : Exa Z h57 b57 "[C" := B57
                have V_b57 : Arv Z h57 b57 k57 .char (6 : Int32) [(.int (0 : Int32)), (.int (0 : Int32)), (.int (0 : Int32)), (.int (0 : Int32)), (.int (0 : Int32)), (.int (0 : Int32))] (.int (0 : Int32)) := (Arv.new A57 (by decide)).pad (pad_rep [] (.int (0 : Int32)) 6)
                refine GoesH.st (B := T57.setTop (mkF m 199 #[rv x0, iv x1] [(.ref b57), (.ref b56), (.ref b56)])) st57 ?_
                refine GoesH.run X57 hx hown hci hcl hby (L := [(199, .dup, 1), (200, .iconst 0, 1), (201, .aload_n 0, 1), (202, .iconst 0, 1)]) (by decide +kernel) rfl (g' := (mkF m 203 #[rv x0, iv x1] [(.int (0 : Int32)), (.ref x0), (.int (0 : Int32)), (.ref b57), (.ref b57), (.ref b56), (.ref b56)])) rfl ?_
                obtain ⟨cl58, Ar58, q58, S58, M58, Hs58, G58⟩ := id V_x0
                have hin58 : ¬ ((0 : Int32) < 0 ∨ cl58.slots.size ≤ ((0 : Int32)).toNatClampNeg) := inb_of S58 ⟨(by decide), (by decide)⟩
                have hat58 : cl58.slots[((0 : Int32)).toNatClampNeg]? = some (.int ch0) := Hs58.at hin58 rfl
                refine GoesH.st (B := T57.setTop (mkF m 204 #[rv x0, iv x1] [(.int ch0), (.int (0 : Int32)), (.ref b57), (.ref b57), (.ref b56), (.ref b56)])) (X57.caload hx (j := (0 : Int32)) (v := (.int ch0)) (by rw [e57]; exact Ar58.1) (State.isArrayOf_alike hZ.alike Ar58.2.1) Ar58.2.2 hin58 hat58 (g := (mkF m 203 #[rv x0, iv x1] [(.int (0 : Int32)), (.ref x0), (.int (0 : Int32)), (.ref b57), (.ref b57), (.ref b56), (.ref b56)])) rfl rfl (hb hby d6_203)) ?_
                obtain ⟨cl59, Ar59, q59, S59, M59, Hs59, G59⟩ := id V_b57
                have hin59 : ¬ ((0 : Int32) < 0 ∨ cl59.slots.size ≤ ((0 : Int32)).toNatClampNeg) := inb_of S59 ⟨(by decide), (by decide)⟩
                obtain ⟨T59, h59, X59, e59, W59, st59⟩ := stC X57 hx hZ e57 Ar59 (j := (0 : Int32)) hin59 (g := (mkF m 204 #[rv x0, iv x1] [(.int ch0), (.int (0 : Int32)), (.ref b57), (.ref b57), (.ref b56), (.ref b56)])) rfl rfl (hb hby d6_204)
                have sk59 := ((Safe.arv hZ.alike V_b57 (by decide)) : Safe Z consts_1 s.vm h57 b57)
                have sf_b56 := Safe.wr W59 sk59 CH57.1 sf_b56
                have CH59 := CH57.trans (CHr.wr W59 sk59 CH57.1)
                have V_x0 := V_x0.other W59 ne_x0_b57
                have E_b56 := E_b56.wr W59
                have F_value_b56 := F_value_b56.other W59 (Or.inl ne_b56_b57)
                have F_coder_b56 := F_coder_b56.other W59 (Or.inl ne_b56_b57)
                have E_b57 := E_b57.wr W59
                have Zn59 : n0 ≤ h59.size := Nat.le_trans Zn57 (Keep.of_wr W59).1
                have K59 := K57.wr W59 (Or.inr sz_b57)
                have Od59 := Od57.wr W59 g_b57
                have hk59e := Nat.le_trans hk57e (Keep.of_wr W59).1
                have N59 := Fr.snoc X59 N0 g_b57
                have V_b57 : Arv Z h59 b57 k57 .char (6 : Int32) [(.int (wF_32 x1 ch0 ch1 ch2 ch3 ch4 ch5 ch6 ch7)), (.int (0 : Int32)), (.int (0 : Int32)), (.int (0 : Int32)), (.int (0 : Int32)), (.int (0 : Int32))] (.int (0 : Int32)) := Arv.set Ar59 q59 S59 M59 Hs59 G59 (fits_nar_char _) W59 0 rfl (Nat.le_of_ble_eq_true rfl)
                refine GoesH.st (B := T59.setTop (mkF m 205 #[rv x0, iv x1] [(.ref b57), (.ref b56), (.ref b56)])) st59 ?_
                refine GoesH.run X59 hx hown hci hcl hby (L := [(205, .dup, 1), (206, .iconst 1, 1), (207, .aload_n 0, 1), (208, .iconst 1, 1)]) (by decide +kernel) rfl (g' := (mkF m 209 #[rv x0, iv x1] [(.int (1 : Int32)), (.ref x0), (.int (1 : Int32)), (.ref b57), (.ref b57), (.ref b56), (.ref b56)])) rfl ?_
                obtain ⟨cl60, Ar60, q60, S60, M60, Hs60, G60⟩ := id V_x0
                have hin60 : ¬ ((1 : Int32) < 0 ∨ cl60.slots.size ≤ ((1 : Int32)).toNatClampNeg) := inb_of S60 ⟨(by decide), (by decide)⟩
                have hat60 : cl60.slots[((1 : Int32)).toNatClampNeg]? = some (.int ch1) := Hs60.at hin60 rfl
                refine GoesH.st (B := T59.setTop (mkF m 210 #[rv x0, iv x1] [(.int ch1), (.int (1 : Int32)), (.ref b57), (.ref b57), (.ref b56), (.ref b56)])) (X59.caload hx (j := (1 : Int32)) (v := (.int ch1)) (by rw [e59]; exact Ar60.1) (State.isArrayOf_alike hZ.alike Ar60.2.1) Ar60.2.2 hin60 hat60 (g := (mkF m 209 #[rv x0, iv x1] [(.int (1 : Int32)), (.ref x0), (.int (1 : Int32)), (.ref b57), (.ref b57), (.ref b56), (.ref b56)])) rfl rfl (hb hby d6_209)) ?_
                obtain ⟨cl61, Ar61, q61, S61, M61, Hs61, G61⟩ := id V_b57
                have hin61 : ¬ ((1 : Int32) < 0 ∨ cl61.slots.size ≤ ((1 : Int32)).toNatClampNeg) := inb_of S61 ⟨(by decide), (by decide)⟩
                obtain ⟨T61, h61, X61, e61, W61, st61⟩ := stC X59 hx hZ e59 Ar61 (j := (1 : Int32)) hin61 (g := (mkF m 210 #[rv x0, iv x1] [(.int ch1), (.int (1 : Int32)), (.ref b57), (.ref b57), (.ref b56), (.ref b56)])) rfl rfl (hb hby d6_210)
                have sk61 := ((Safe.arv hZ.alike V_b57 (by decide)) : Safe Z consts_1 s.vm h59 b57)
                have sf_b56 := Safe.wr W61 sk61 CH59.1 sf_b56
                have CH61 := CH59.trans (CHr.wr W61 sk61 CH59.1)
                have V_x0 := V_x0.other W61 ne_x0_b57
                have E_b56 := E_b56.wr W61
                have F_value_b56 := F_value_b56.other W61 (Or.inl ne_b56_b57)
                have F_coder_b56 := F_coder_b56.other W61 (Or.inl ne_b56_b57)
                have E_b57 := E_b57.wr W61
                have Zn61 : n0 ≤ h61.size := Nat.le_trans Zn59 (Keep.of_wr W61).1
                have K61 := K59.wr W61 (Or.inr sz_b57)
                have Od61 := Od59.wr W61 g_b57
                have hk61e := Nat.le_trans hk59e (Keep.of_wr W61).1
                have N61 := Fr.snoc X61 N59 g_b57
                have V_b57 : Arv Z h61 b57 k57 .char (6 : Int32) [(.int (wF_32 x1 ch0 ch1 ch2 ch3 ch4 ch5 ch6 ch7)), (.int (wF_60 x1 ch0 ch1 ch2 ch3 ch4 ch5 ch6 ch7)), (.int (0 : Int32)), (.int (0 : Int32)), (.int (0 : Int32)), (.int (0 : Int32))] (.int (0 : Int32)) := Arv.set Ar61 q61 S61 M61 Hs61 G61 (fits_nar_char _) W61 1 rfl (Nat.le_of_ble_eq_true rfl)
                refine GoesH.st (B := T61.setTop (mkF m 211 #[rv x0, iv x1] [(.ref b57), (.ref b56), (.ref b56)])) st61 ?_
                refine GoesH.run X61 hx hown hci hcl hby (L := [(211, .dup, 1), (212, .iconst 2, 1), (213, .aload_n 0, 1), (214, .iconst 2, 1)]) (by decide +kernel) rfl (g' := (mkF m 215 #[rv x0, iv x1] [(.int (2 : Int32)), (.ref x0), (.int (2 : Int32)), (.ref b57), (.ref b57), (.ref b56), (.ref b56)])) rfl ?_
                obtain ⟨cl62, Ar62, q62, S62, M62, Hs62, G62⟩ := id V_x0
                have hin62 : ¬ ((2 : Int32) < 0 ∨ cl62.slots.size ≤ ((2 : Int32)).toNatClampNeg) := inb_of S62 ⟨(by decide), (by decide)⟩
                have hat62 : cl62.slots[((2 : Int32)).toNatClampNeg]? = some (.int ch2) := Hs62.at hin62 rfl
                refine GoesH.st (B := T61.setTop (mkF m 216 #[rv x0, iv x1] [(.int ch2), (.int (2 : Int32)), (.ref b57), (.ref b57), (.ref b56), (.ref b56)])) (X61.caload hx (j := (2 : Int32)) (v := (.int ch2)) (by rw [e61]; exact Ar62.1) (State.isArrayOf_alike hZ.alike Ar62.2.1) Ar62.2.2 hin62 hat62 (g := (mkF m 215 #[rv x0, iv x1] [(.int (2 : Int32)), (.ref x0), (.int (2 : Int32)), (.ref b57), (.ref b57), (.ref b56), (.ref b56)])) rfl rfl (hb hby d6_215)) ?_
                obtain ⟨cl63, Ar63, q63, S63, M63, Hs63, G63⟩ := id V_b57
                have hin63 : ¬ ((2 : Int32) < 0 ∨ cl63.slots.size ≤ ((2 : Int32)).toNatClampNeg) := inb_of S63 ⟨(by decide), (by decide)⟩
                obtain ⟨T63, h63, X63, e63, W63, st63⟩ := stC X61 hx hZ e61 Ar63 (j := (2 : Int32)) hin63 (g := (mkF m 216 #[rv x0, iv x1] [(.int ch2), (.int (2 : Int32)), (.ref b57), (.ref b57), (.ref b56), (.ref b56)])) rfl rfl (hb hby d6_216)
                have sk63 := ((Safe.arv hZ.alike V_b57 (by decide)) : Safe Z consts_1 s.vm h61 b57)
                have sf_b56 := Safe.wr W63 sk63 CH61.1 sf_b56
                have CH63 := CH61.trans (CHr.wr W63 sk63 CH61.1)
                have V_x0 := V_x0.other W63 ne_x0_b57
                have E_b56 := E_b56.wr W63
                have F_value_b56 := F_value_b56.other W63 (Or.inl ne_b56_b57)
                have F_coder_b56 := F_coder_b56.other W63 (Or.inl ne_b56_b57)
                have E_b57 := E_b57.wr W63
                have Zn63 : n0 ≤ h63.size := Nat.le_trans Zn61 (Keep.of_wr W63).1
                have K63 := K61.wr W63 (Or.inr sz_b57)
                have Od63 := Od61.wr W63 g_b57
                have hk63e := Nat.le_trans hk61e (Keep.of_wr W63).1
                have N63 := Fr.snoc X63 N61 g_b57
                have V_b57 : Arv Z h63 b57 k57 .char (6 : Int32) [(.int (wF_32 x1 ch0 ch1 ch2 ch3 ch4 ch5 ch6 ch7)), (.int (wF_60 x1 ch0 ch1 ch2 ch3 ch4 ch5 ch6 ch7)), (.int (wF_94 x1 ch0 ch1 ch2 ch3 ch4 ch5 ch6 ch7)), (.int (0 : Int32)), (.int (0 : Int32)), (.int (0 : Int32))] (.int (0 : Int32)) := Arv.set Ar63 q63 S63 M63 Hs63 G63 (fits_nar_char _) W63 2 rfl (Nat.le_of_ble_eq_true rfl)
                refine GoesH.st (B := T63.setTop (mkF m 217 #[rv x0, iv x1] [(.ref b57), (.ref b56), (.ref b56)])) st63 ?_
                refine GoesH.run X63 hx hown hci hcl hby (L := [(217, .dup, 1), (218, .iconst 3, 1), (219, .aload_n 0, 1), (220, .iconst 3, 1)]) (by decide +kernel) rfl (g' := (mkF m 221 #[rv x0, iv x1] [(.int (3 : Int32)), (.ref x0), (.int (3 : Int32)), (.ref b57), (.ref b57), (.ref b56), (.ref b56)])) rfl ?_
                obtain ⟨cl64, Ar64, q64, S64, M64, Hs64, G64⟩ := id V_x0
                have hin64 : ¬ ((3 : Int32) < 0 ∨ cl64.slots.size ≤ ((3 : Int32)).toNatClampNeg) := inb_of S64 ⟨(by decide), (by decide)⟩
                have hat64 : cl64.slots[((3 : Int32)).toNatClampNeg]? = some (.int ch3) := Hs64.at hin64 rfl
                refine GoesH.st (B := T63.setTop (mkF m 222 #[rv x0, iv x1] [(.int ch3), (.int (3 : Int32)), (.ref b57), (.ref b57), (.ref b56), (.ref b56)])) (X63.caload hx (j := (3 : Int32)) (v := (.int ch3)) (by rw [e63]; exact Ar64.1) (State.isArrayOf_alike hZ.alike Ar64.2.1) Ar64.2.2 hin64 hat64 (g := (mkF m 221 #[rv x0, iv x1] [(.int (3 : Int32)), (.ref x0), (.int (3 : Int32)), (.ref b57), (.ref b57), (.ref b56), (.ref b56)])) rfl rfl (hb hby d6_221)) ?_
                obtain ⟨cl65, Ar65, q65, S65, M65, Hs65, G65⟩ := id V_b57
                have hin65 : ¬ ((3 : Int32) < 0 ∨ cl65.slots.size ≤ ((3 : Int32)).toNatClampNeg) := inb_of S65 ⟨(by decide), (by decide)⟩
                obtain ⟨T65, h65, X65, e65, W65, st65⟩ := stC X63 hx hZ e63 Ar65 (j := (3 : Int32)) hin65 (g := (mkF m 222 #[rv x0, iv x1] [(.int ch3), (.int (3 : Int32)), (.ref b57), (.ref b57), (.ref b56), (.ref b56)])) rfl rfl (hb hby d6_222)
                have sk65 := ((Safe.arv hZ.alike V_b57 (by decide)) : Safe Z consts_1 s.vm h63 b57)
                have sf_b56 := Safe.wr W65 sk65 CH63.1 sf_b56
                have CH65 := CH63.trans (CHr.wr W65 sk65 CH63.1)
                have V_x0 := V_x0.other W65 ne_x0_b57
                have E_b56 := E_b56.wr W65
                have F_value_b56 := F_value_b56.other W65 (Or.inl ne_b56_b57)
                have F_coder_b56 := F_coder_b56.other W65 (Or.inl ne_b56_b57)
                have E_b57 := E_b57.wr W65
                have Zn65 : n0 ≤ h65.size := Nat.le_trans Zn63 (Keep.of_wr W65).1
                have K65 := K63.wr W65 (Or.inr sz_b57)
                have Od65 := Od63.wr W65 g_b57
                have hk65e := Nat.le_trans hk63e (Keep.of_wr W65).1
                have N65 := Fr.snoc X65 N63 g_b57
                have V_b57 : Arv Z h65 b57 k57 .char (6 : Int32) [(.int (wF_32 x1 ch0 ch1 ch2 ch3 ch4 ch5 ch6 ch7)), (.int (wF_60 x1 ch0 ch1 ch2 ch3 ch4 ch5 ch6 ch7)), (.int (wF_94 x1 ch0 ch1 ch2 ch3 ch4 ch5 ch6 ch7)), (.int (wF_134 x1 ch0 ch1 ch2 ch3 ch4 ch5 ch6 ch7)), (.int (0 : Int32)), (.int (0 : Int32))] (.int (0 : Int32)) := Arv.set Ar65 q65 S65 M65 Hs65 G65 (fits_nar_char _) W65 3 rfl (Nat.le_of_ble_eq_true rfl)
                refine GoesH.st (B := T65.setTop (mkF m 223 #[rv x0, iv x1] [(.ref b57), (.ref b56), (.ref b56)])) st65 ?_
                refine GoesH.run X65 hx hown hci hcl hby (L := [(223, .dup, 1), (224, .iconst 4, 1), (225, .aload_n 0, 1), (226, .iconst 4, 1)]) (by decide +kernel) rfl (g' := (mkF m 227 #[rv x0, iv x1] [(.int (4 : Int32)), (.ref x0), (.int (4 : Int32)), (.ref b57), (.ref b57), (.ref b56), (.ref b56)])) rfl ?_
                obtain ⟨cl66, Ar66, q66, S66, M66, Hs66, G66⟩ := id V_x0
                have hin66 : ¬ ((4 : Int32) < 0 ∨ cl66.slots.size ≤ ((4 : Int32)).toNatClampNeg) := inb_of S66 ⟨(by decide), (by decide)⟩
                have hat66 : cl66.slots[((4 : Int32)).toNatClampNeg]? = some (.int ch4) := Hs66.at hin66 rfl
                refine GoesH.st (B := T65.setTop (mkF m 228 #[rv x0, iv x1] [(.int ch4), (.int (4 : Int32)), (.ref b57), (.ref b57), (.ref b56), (.ref b56)])) (X65.caload hx (j := (4 : Int32)) (v := (.int ch4)) (by rw [e65]; exact Ar66.1) (State.isArrayOf_alike hZ.alike Ar66.2.1) Ar66.2.2 hin66 hat66 (g := (mkF m 227 #[rv x0, iv x1] [(.int (4 : Int32)), (.ref x0), (.int (4 : Int32)), (.ref b57), (.ref b57), (.ref b56), (.ref b56)])) rfl rfl (hb hby d6_227)) ?_
                obtain ⟨cl67, Ar67, q67, S67, M67, Hs67, G67⟩ := id V_b57
                have hin67 : ¬ ((4 : Int32) < 0 ∨ cl67.slots.size ≤ ((4 : Int32)).toNatClampNeg) := inb_of S67 ⟨(by decide), (by decide)⟩
                obtain ⟨T67, h67, X67, e67, W67, st67⟩ := stC X65 hx hZ e65 Ar67 (j := (4 : Int32)) hin67 (g := (mkF m 228 #[rv x0, iv x1] [(.int ch4), (.int (4 : Int32)), (.ref b57), (.ref b57), (.ref b56), (.ref b56)])) rfl rfl (hb hby d6_228)
                have sk67 := ((Safe.arv hZ.alike V_b57 (by decide)) : Safe Z consts_1 s.vm h65 b57)
                have sf_b56 := Safe.wr W67 sk67 CH65.1 sf_b56
                have CH67 := CH65.trans (CHr.wr W67 sk67 CH65.1)
                have V_x0 := V_x0.other W67 ne_x0_b57
                have E_b56 := E_b56.wr W67
                have F_value_b56 := F_value_b56.other W67 (Or.inl ne_b56_b57)
                have F_coder_b56 := F_coder_b56.other W67 (Or.inl ne_b56_b57)
                have E_b57 := E_b57.wr W67
                have Zn67 : n0 ≤ h67.size := Nat.le_trans Zn65 (Keep.of_wr W67).1
                have K67 := K65.wr W67 (Or.inr sz_b57)
                have Od67 := Od65.wr W67 g_b57
                have hk67e := Nat.le_trans hk65e (Keep.of_wr W67).1
                have N67 := Fr.snoc X67 N65 g_b57
                have V_b57 : Arv Z h67 b57 k57 .char (6 : Int32) [(.int (wF_32 x1 ch0 ch1 ch2 ch3 ch4 ch5 ch6 ch7)), (.int (wF_60 x1 ch0 ch1 ch2 ch3 ch4 ch5 ch6 ch7)), (.int (wF_94 x1 ch0 ch1 ch2 ch3 ch4 ch5 ch6 ch7)), (.int (wF_134 x1 ch0 ch1 ch2 ch3 ch4 ch5 ch6 ch7)), (.int (wF_180 x1 ch0 ch1 ch2 ch3 ch4 ch5 ch6 ch7)), (.int (0 : Int32))] (.int (0 : Int32)) := Arv.set Ar67 q67 S67 M67 Hs67 G67 (fits_nar_char _) W67 4 rfl (Nat.le_of_ble_eq_true rfl)
                refine GoesH.st (B := T67.setTop (mkF m 229 #[rv x0, iv x1] [(.ref b57), (.ref b56), (.ref b56)])) st67 ?_
                refine GoesH.run X67 hx hown hci hcl hby (L := [(229, .dup, 1), (230, .iconst 5, 1), (231, .aload_n 0, 1), (232, .iconst 5, 1)]) (by decide +kernel) rfl (g' := (mkF m 233 #[rv x0, iv x1] [(.int (5 : Int32)), (.ref x0), (.int (5 : Int32)), (.ref b57), (.ref b57), (.ref b56), (.ref b56)])) rfl ?_
                obtain ⟨cl68, Ar68, q68, S68, M68, Hs68, G68⟩ := id V_x0
                have hin68 : ¬ ((5 : Int32) < 0 ∨ cl68.slots.size ≤ ((5 : Int32)).toNatClampNeg) := inb_of S68 ⟨(by decide), (by decide)⟩
                have hat68 : cl68.slots[((5 : Int32)).toNatClampNeg]? = some (.int ch5) := Hs68.at hin68 rfl
                refine GoesH.st (B := T67.setTop (mkF m 234 #[rv x0, iv x1] [(.int ch5), (.int (5 : Int32)), (.ref b57), (.ref b57), (.ref b56), (.ref b56)])) (X67.caload hx (j := (5 : Int32)) (v := (.int ch5)) (by rw [e67]; exact Ar68.1) (State.isArrayOf_alike hZ.alike Ar68.2.1) Ar68.2.2 hin68 hat68 (g := (mkF m 233 #[rv x0, iv x1] [(.int (5 : Int32)), (.ref x0), (.int (5 : Int32)), (.ref b57), (.ref b57), (.ref b56), (.ref b56)])) rfl rfl (hb hby d6_233)) ?_
                obtain ⟨cl69, Ar69, q69, S69, M69, Hs69, G69⟩ := id V_b57
                have hin69 : ¬ ((5 : Int32) < 0 ∨ cl69.slots.size ≤ ((5 : Int32)).toNatClampNeg) := inb_of S69 ⟨(by decide), (by decide)⟩
                obtain ⟨T69, h69, X69, e69, W69, st69⟩ := stC X67 hx hZ e67 Ar69 (j := (5 : Int32)) hin69 (g := (mkF m 234 #[rv x0, iv x1] [(.int ch5), (.int (5 : Int32)), (.ref b57), (.ref b57), (.ref b56), (.ref b56)])) rfl rfl (hb hby d6_234)
                have sk69 := ((Safe.arv hZ.alike V_b57 (by decide)) : Safe Z consts_1 s.vm h67 b57)
                have sf_b56 := Safe.wr W69 sk69 CH67.1 sf_b56
                have CH69 := CH67.trans (CHr.wr W69 sk69 CH67.1)
                have V_x0 := V_x0.other W69 ne_x0_b57
                have E_b56 := E_b56.wr W69
                have F_value_b56 := F_value_b56.other W69 (Or.inl ne_b56_b57)
                have F_coder_b56 := F_coder_b56.other W69 (Or.inl ne_b56_b57)
                have E_b57 := E_b57.wr W69
                have Zn69 : n0 ≤ h69.size := Nat.le_trans Zn67 (Keep.of_wr W69).1
                have K69 := K67.wr W69 (Or.inr sz_b57)
                have Od69 := Od67.wr W69 g_b57
                have hk69e := Nat.le_trans hk67e (Keep.of_wr W69).1
                have N69 := Fr.snoc X69 N67 g_b57
                have V_b57 : Arv Z h69 b57 k57 .char (6 : Int32) [(.int (wF_32 x1 ch0 ch1 ch2 ch3 ch4 ch5 ch6 ch7)), (.int (wF_60 x1 ch0 ch1 ch2 ch3 ch4 ch5 ch6 ch7)), (.int (wF_94 x1 ch0 ch1 ch2 ch3 ch4 ch5 ch6 ch7)), (.int (wF_134 x1 ch0 ch1 ch2 ch3 ch4 ch5 ch6 ch7)), (.int (wF_180 x1 ch0 ch1 ch2 ch3 ch4 ch5 ch6 ch7)), (.int (wF_234 x1 ch0 ch1 ch2 ch3 ch4 ch5 ch6 ch7))] (.int (0 : Int32)) := Arv.set Ar69 q69 S69 M69 Hs69 G69 (fits_nar_char _) W69 5 rfl (Nat.le_of_ble_eq_true rfl)
                refine GoesH.st (B := T69.setTop (mkF m 235 #[rv x0, iv x1] [(.ref b57), (.ref b56), (.ref b56)])) st69 ?_
                have hp_b56 : ∀ c ∈ (csF_235 x1 ch0 ch1 ch2 ch3 ch4 ch5 ch6 ch7), ¬ c < 0 ∧ ¬ (255 : Int32) < c := (own_alS pz0 (own_alS pz1 (own_alS pz2 (own_alS pz3 (own_alS pz4 (own_alS pz5 own_al0))))))
                obtain ⟨_, _, ⟨T70, L70, k70, n70⟩, -, X70, ⟨Lc70, hQ70, l70, y70, z70⟩, st70⟩ := X69.specialBack hx (y := ym5) rfl hown (mvT hZ w_50) (mvT hZ w_51) (mvT hZ w_52) (by decide) (StrChars.Road.backV (W := 1) hZ (own_hws hw) (kI := 4) w_7 (cs := (csF_235 x1 ch0 ch1 ch2 ch3 ch4 ch5 ch6 ch7)) (bs := ((csF_235 x1 ch0 ch1 ch2 ch3 ch4 ch5 ch6 ch7).map (fun c => c.toInt8.toInt32))) (n := 6) g_b56 Zn69 E_b56 F_value_b56 F_coder_b56 V_b57 (O2.ext Od69.2) P5 rfl rfl (by decide) (by decide) hp_b56 rfl (by decide) (by decide)) (g := (mkF m 235 #[rv x0, iv x1] [(.ref b57), (.ref b56), (.ref b56)])) rfl (by rw [hml]; rfl) (Steps.refl _) (a := b56) (argsL := [(.ref b57)]) (rest := [(.ref b56)]) (lenOf pdF_0 rfl) rfl (by show 2 * 0 + _ ≤ _; exact Nat.le_of_eq rfl) (hb hby d6_235) (fun _ _ => ⟨rfl, e69, (by decide : 2 + 1 ≤ _), (by decide : 10 + 6 ≤ _)⟩)
                dsimp only [Pt.U, Pt.locs, Pt.cells, Pt.slots] at X70 l70 y70 z70 st70 hQ70
                subst l70 y70 z70
                obtain ⟨h70, eh70⟩ : ∃ z, z = T70.heap := ⟨_, rfl⟩
                rw [← eh70] at hQ70
                have e70 : T70.heap = h70 := eh70.symm
                obtain ⟨rfl, N70q, Kq70, o70_e, o70_c, t70, kb70, u70, szr70, nw70, o70_v, o70_a⟩ := hQ70
                have ne_b56_t70 : b56 ≠ t70 := Nat.ne_of_lt (Nat.lt_of_lt_of_le E_b56.lt szr70)
                have ne_b57_t70 : b57 ≠ t70 := Nat.ne_of_lt (Nat.lt_of_lt_of_le E_b57.lt szr70)
                have ne_x0_t70 : x0 ≠ t70 := Nat.ne_of_lt (Nat.lt_of_lt_of_le V_x0.lt szr70)
                have g_t70 : n0 ≤ t70 := Nat.le_trans Zn69 szr70
                have sz_t70 : h0.size ≤ t70 := Nat.le_trans K69.1 szr70
                have N70 := Fr.app N69 N70q
                have sk70 : ∀ x ∈ [b56], Safe Z consts_1 s.vm h69 x := (sfS sf_b56 sf0)
                have sf_b56 := Safe.keep Kq70 sk70 CH69.1 sf_b56
                have CH70 := CH69.trans (CHr.keep Kq70 sk70 CH69.1)
                have V_x0 := V_x0.keep Kq70 (ninS ne_x0_b56 nin0)
                have E_b56 := E_b56.keep Kq70
                have E_b57 := E_b57.keep Kq70
                have V_b57 := V_b57.keep Kq70 (ninS (Ne.symm ne_b56_b57) nin0)
                have Zn70 : n0 ≤ h70.size := Nat.le_trans Zn69 Kq70.1
                have hk70e := Nat.le_trans hk69e Kq70.1
                have K70 := K69.trans Kq70 ((allS (Or.inr sz_b56) all0))
                have Od70 := Od69.keep Kq70 (allS g_b56 all0)
                have F_coder_b56 : Fld Z h70 b56 "java/lang/String" "coder" "B" (.int (0 : Int32)) := o70_c
                have F_value_b56 : Fld Z h70 b56 "java/lang/String" "value" "[B" (.ref t70) := o70_v
                have V_t70 : Arv Z h70 t70 kb70 .byte (6 : Int32) (((csF_235 x1 ch0 ch1 ch2 ch3 ch4 ch5 ch6 ch7).map (fun c => c.toInt8.toInt32)).map Value.int) (.int (0 : Int32)) := o70_a
                refine GoesH.st (B := T70.setTop (mkF m 238 #[rv x0, iv x1] [(.ref b56)])) (fun t k => st70.trans k) ?_
                exact GoesH.retR X70 Sn0 (by rw [e70]; exact hk70e) (by rw [e70]; exact CH70) hZ hEL hx hlk Bd.returns rfl rfl (hb hby d6_238) (by show QMK Z x1 ch0 ch1 ch2 ch3 ch4 ch5 ch6 ch7 h0 n0 _ _ _; rw [e70]; have q : own_cs x1 ch0 ch1 ch2 ch3 ch4 ch5 ch6 ch7 = (csF_235 x1 ch0 ch1 ch2 ch3 ch4 ch5 ch6 ch7) := (((((((if_neg hc1_1).trans (if_neg hc17_5)).trans (if_neg hc39_11)).trans (if_neg hc67_19)).trans (if_neg hc101_29)).trans (if_neg hc141_41)).trans (if_pos hc188_55)); unfold QMK; rw [q]; exact ⟨b56, t70, kb70, rfl, N70, K70, sz_b56, E_b56, F_coder_b56, F_value_b56, V_t70⟩) (by decide) (by decide)
              · skip
                refine GoesH.st (B := s₁.setTop (mkF m 239 #[rv x0, iv x1] [])) (fun t k => ?_) ?_
                · refine XS.icmpYes X0.here hx rfl (pc0 := 188) (pc' := 239) rfl (hb hby d6_188) rfl (feq hc188_55).2 (by decide) (by decide) ?_
                  exact k
                refine GoesH.run X0 hx hown hci hcl hby (L := [(239, .iload_n 1, 1), (240, .bipush 7, 2)]) (by decide +kernel) rfl (g' := (mkF m 242 #[rv x0, iv x1] [(.int (7 : Int32)), (.int x1)])) rfl ?_
                by_cases hc242_71 : x1 = (7 : Int32)
                · skip
                  refine GoesH.st (B := s₁.setTop (mkF m 245 #[rv x0, iv x1] [])) (fun t k => ?_) ?_
                  · refine XS.icmpNo X0.here hx rfl (hb hby d6_242) rfl (teq hc242_71).2 ?_
                    exact k
                  obtain ⟨T72, h72, X72, e72, E72, A72, D72, -, st72⟩ := newO X0 hx hZ hown w_49 w_7 w_6 e0 (g := (mkF m 245 #[rv x0, iv x1] [])) rfl (hb hby d6_245) (by decide) (by decide)
                  obtain ⟨b72, g72⟩ : ∃ z, z = h0.size := ⟨_, rfl⟩
                  rw [← g72] at A72 D72 st72
                  have ne_x0_b72 : x0 ≠ b72 := Nat.ne_of_lt (Nat.lt_of_lt_of_le V_x0.lt (Nat.le_of_eq g72.symm))
                  have g_b72 : n0 ≤ b72 := Nat.le_trans Z0 (Nat.le_of_eq g72.symm)
                  have sz_b72 : h0.size ≤ b72 := Nat.le_trans K0.1 (Nat.le_of_eq g72.symm)
                  have sf_b72 : Safe Z consts_1 s.vm h0 b72 := Safe.new (Nat.le_of_eq g72.symm)
                  have sf_b72 := Safe.ext E72 CH0.1 sf_b72
                  have CH72 := CH0.trans (CHr.ext E72 CH0.1)
                  have V_x0 := V_x0.ext E72
                  have Zn72 : n0 ≤ h72.size := Nat.le_trans Z0 E72.1
                  have K72 := K0.ext E72
                  have Od72 := O0.ext E72
                  have hk72e := Nat.le_trans hk0 E72.1
                  have E_b72 : Exa Z h72 b72 "java/lang/String" := A72
                  have F_value_b72 : Fld Z h72 b72 "java/lang/String" "value" "[B" .null := D72 (Or.inr w_9) (ty := (.array .byte)) (by decide)
                  have F_coder_b72 : Fld Z h72 b72 "java/lang/String" "coder" "B" (.int (0 : Int32)) := D72 (Or.inr w_10) (ty := .byte) (by decide)
                  refine GoesH.st (B := T72.setTop (mkF m 248 #[rv x0, iv x1] [(.ref b72)])) st72 ?_
                  refine GoesH.run X72 hx hown hci hcl hby (L := [(248, .dup, 1), (249, .bipush 7, 2)]) (by decide +kernel) rfl (g' := (mkF m 251 #[rv x0, iv x1] [(.int (7 : Int32)), (.ref b72), (.ref b72)])) rfl ?_
                  obtain ⟨T73, h73, k73, X73, e73, E73, A73, B73, st73⟩ := newPE X72 hx hZ (aty := .char) w_0 e72 (g := (mkF m 251 #[rv x0, iv x1] [(.int (7 : Int32)), (.ref b72), (.ref b72)])) rfl (hb hby d6_251) rfl (by decide) (cap := 7) (by decide) (by decide) (by decide) (by decide) (ad := "[C") (by decide)
                  obtain ⟨b73, g73⟩ : ∃ z, z = h72.size := ⟨_, rfl⟩
                  rw [← g73] at A73 B73 st73
                  have ne_b72_b73 : b72 ≠ b73 := Nat.ne_of_lt (Nat.lt_of_lt_of_le E_b72.lt (Nat.le_of_eq g73.symm))
                  have ne_x0_b73 : x0 ≠ b73 := Nat.ne_of_lt (Nat.lt_of_lt_of_le V_x0.lt (Nat.le_of_eq g73.symm))
                  have g_b73 : n0 ≤ b73 := Nat.le_trans Zn72 (Nat.le_of_eq g73.symm)
                  have sz_b73 : h0.size ≤ b73 := Nat.le_trans K72.1 (Nat.le_of_eq g73.symm)
                  have sf_b72 := Safe.ext E73 CH72.1 sf_b72
                  have CH73 := CH72.trans (CHr.ext E73 CH72.1)
                  have V_x0 := V_x0.ext E73
                  have E_b72 := E_b72.ext E73
                  have F_value_b72 := F_value_b72.ext E73
                  have F_coder_b72 := F_coder_b72.ext E73
                  have Zn73 : n0 ≤ h73.size := Nat.le_trans Zn72 E73.1
                  have K73 := K72.ext E73
                  have Od73 := Od72.ext E73
                  have hk73e := Nat.le_trans hk72e E73.1
                  have E_b73 : Exa Z h73 b73 "[C" := B73
                  have V_b73 : Arv Z h73 b73 k73 .char (7 : Int32) [(.int (0 : Int32)), (.int (0 : Int32)), (.int (0 : Int32)), (.int (0 : Int32)), (.int (0 : Int32)), (.int (0 : Int32)), (.int (0 : Int32))] (.int (0 : Int32)) := (Arv.new A73 (by decide)).pad (pad_rep [] (.int (0 : Int32)) 7)
                  refine GoesH.st (B := T73.setTop (mkF m 253 #[rv x0, iv x1] [(.ref b73), (.ref b72), (.ref b72)])) st73 ?_
                  refine GoesH.run X73 hx hown hci hcl hby (L := [(253, .dup, 1), (254, .iconst 0, 1), (255, .aload_n 0, 1), (256, .iconst 0, 1)]) (by decide +kernel) rfl (g' := (mkF m 257 #[rv x0, iv x1] [(.int (0 : Int32)), (.ref x0), (.int (0 : Int32)), (.ref b73), (.ref b73), (.ref b72), (.ref b72)])) rfl ?_
                  obtain ⟨cl74, Ar74, q74, S74, M74, Hs74, G74⟩ := id V_x0
                  have hin74 : ¬ ((0 : Int32) < 0 ∨ cl74.slots.size ≤ ((0 : Int32)).toNatClampNeg) := inb_of S74 ⟨(by decide), (by decide)⟩
                  have hat74 : cl74.slots[((0 : Int32)).toNatClampNeg]? = some (.int ch0) := Hs74.at hin74 rfl
                  refine GoesH.st (B := T73.setTop (mkF m 258 #[rv x0, iv x1] [(.int ch0), (.int (0 : Int32)), (.ref b73), (.ref b73), (.ref b72), (.ref b72)])) (X73.caload hx (j := (0 : Int32)) (v := (.int ch0)) (by rw [e73]; exact Ar74.1) (State.isArrayOf_alike hZ.alike Ar74.2.1) Ar74.2.2 hin74 hat74 (g := (mkF m 257 #[rv x0, iv x1] [(.int (0 : Int32)), (.ref x0), (.int (0 : Int32)), (.ref b73), (.ref b73), (.ref b72), (.ref b72)])) rfl rfl (hb hby d6_257)) ?_
                  obtain ⟨cl75, Ar75, q75, S75, M75, Hs75, G75⟩ := id V_b73
                  have hin75 : ¬ ((0 : Int32) < 0 ∨ cl75.slots.size ≤ ((0 : Int32)).toNatClampNeg) := inb_of S75 ⟨(by decide), (by decide)⟩
                  obtain ⟨T75, h75, X75, e75, W75, st75⟩ := stC X73 hx hZ e73 Ar75 (j := (0 : Int32)) hin75 (g := (mkF m 258 #[rv x0, iv x1] [(.int ch0), (.int (0 : Int32)), (.ref b73), (.ref b73), (.ref b72), (.ref b72)])) rfl rfl (hb hby d6_258)
                  have sk75 := ((Safe.arv hZ.alike V_b73 (by decide)) : Safe Z consts_1 s.vm h73 b73)
                  have sf_b72 := Safe.wr W75 sk75 CH73.1 sf_b72
                  have CH75 := CH73.trans (CHr.wr W75 sk75 CH73.1)
                  have V_x0 := V_x0.other W75 ne_x0_b73
                  have E_b72 := E_b72.wr W75
                  have F_value_b72 := F_value_b72.other W75 (Or.inl ne_b72_b73)
                  have F_coder_b72 := F_coder_b72.other W75 (Or.inl ne_b72_b73)
                  have E_b73 := E_b73.wr W75
                  have Zn75 : n0 ≤ h75.size := Nat.le_trans Zn73 (Keep.of_wr W75).1
                  have K75 := K73.wr W75 (Or.inr sz_b73)
                  have Od75 := Od73.wr W75 g_b73
                  have hk75e := Nat.le_trans hk73e (Keep.of_wr W75).1
                  have N75 := Fr.snoc X75 N0 g_b73
                  have V_b73 : Arv Z h75 b73 k73 .char (7 : Int32) [(.int (wF_32 x1 ch0 ch1 ch2 ch3 ch4 ch5 ch6 ch7)), (.int (0 : Int32)), (.int (0 : Int32)), (.int (0 : Int32)), (.int (0 : Int32)), (.int (0 : Int32)), (.int (0 : Int32))] (.int (0 : Int32)) := Arv.set Ar75 q75 S75 M75 Hs75 G75 (fits_nar_char _) W75 0 rfl (Nat.le_of_ble_eq_true rfl)
                  refine GoesH.st (B := T75.setTop (mkF m 259 #[rv x0, iv x1] [(.ref b73), (.ref b72), (.ref b72)])) st75 ?_
                  refine GoesH.run X75 hx hown hci hcl hby (L := [(259, .dup, 1), (260, .iconst 1, 1), (261, .aload_n 0, 1), (262, .iconst 1, 1)]) (by decide +kernel) rfl (g' := (mkF m 263 #[rv x0, iv x1] [(.int (1 : Int32)), (.ref x0), (.int (1 : Int32)), (.ref b73), (.ref b73), (.ref b72), (.ref b72)])) rfl ?_
                  obtain ⟨cl76, Ar76, q76, S76, M76, Hs76, G76⟩ := id V_x0
                  have hin76 : ¬ ((1 : Int32) < 0 ∨ cl76.slots.size ≤ ((1 : Int32)).toNatClampNeg) := inb_of S76 ⟨(by decide), (by decide)⟩
                  have hat76 : cl76.slots[((1 : Int32)).toNatClampNeg]? = some (.int ch1) := Hs76.at hin76 rfl
                  refine GoesH.st (B := T75.setTop (mkF m 264 #[rv x0, iv x1] [(.int ch1), (.int (1 : Int32)), (.ref b73), (.ref b73), (.ref b72), (.ref b72)])) (X75.caload hx (j := (1 : Int32)) (v := (.int ch1)) (by rw [e75]; exact Ar76.1) (State.isArrayOf_alike hZ.alike Ar76.2.1) Ar76.2.2 hin76 hat76 (g := (mkF m 263 #[rv x0, iv x1] [(.int (1 : Int32)), (.ref x0), (.int (1 : Int32)), (.ref b73), (.ref b73), (.ref b72), (.ref b72)])) rfl rfl (hb hby d6_263)) ?_
                  obtain ⟨cl77, Ar77, q77, S77, M77, Hs77, G77⟩ := id V_b73
                  have hin77 : ¬ ((1 : Int32) < 0 ∨ cl77.slots.size ≤ ((1 : Int32)).toNatClampNeg) := inb_of S77 ⟨(by decide), (by decide)⟩
                  obtain ⟨T77, h77, X77, e77, W77, st77⟩ := stC X75 hx hZ e75 Ar77 (j := (1 : Int32)) hin77 (g := (mkF m 264 #[rv x0, iv x1] [(.int ch1), (.int (1 : Int32)), (.ref b73), (.ref b73), (.ref b72), (.ref b72)])) rfl rfl (hb hby d6_264)
                  have sk77 := ((Safe.arv hZ.alike V_b73 (by decide)) : Safe Z consts_1 s.vm h75 b73)
                  have sf_b72 := Safe.wr W77 sk77 CH75.1 sf_b72
                  have CH77 := CH75.trans (CHr.wr W77 sk77 CH75.1)
                  have V_x0 := V_x0.other W77 ne_x0_b73
                  have E_b72 := E_b72.wr W77
                  have F_value_b72 := F_value_b72.other W77 (Or.inl ne_b72_b73)
                  have F_coder_b72 := F_coder_b72.other W77 (Or.inl ne_b72_b73)
                  have E_b73 := E_b73.wr W77
                  have Zn77 : n0 ≤ h77.size := Nat.le_trans Zn75 (Keep.of_wr W77).1
                  have K77 := K75.wr W77 (Or.inr sz_b73)
                  have Od77 := Od75.wr W77 g_b73
                  have hk77e := Nat.le_trans hk75e (Keep.of_wr W77).1
                  have N77 := Fr.snoc X77 N75 g_b73
                  have V_b73 : Arv Z h77 b73 k73 .char (7 : Int32) [(.int (wF_32 x1 ch0 ch1 ch2 ch3 ch4 ch5 ch6 ch7)), (.int (wF_60 x1 ch0 ch1 ch2 ch3 ch4 ch5 ch6 ch7)), (.int (0 : Int32)), (.int (0 : Int32)), (.int (0 : Int32)), (.int (0 : Int32)), (.int (0 : Int32))] (.int (0 : Int32)) := Arv.set Ar77 q77 S77 M77 Hs77 G77 (fits_nar_char _) W77 1 rfl (Nat.le_of_ble_eq_true rfl)
                  refine GoesH.st (B := T77.setTop (mkF m 265 #[rv x0, iv x1] [(.ref b73), (.ref b72), (.ref b72)])) st77 ?_
                  refine GoesH.run X77 hx hown hci hcl hby (L := [(265, .dup, 1), (266, .iconst 2, 1), (267, .aload_n 0, 1), (268, .iconst 2, 1)]) (by decide +kernel) rfl (g' := (mkF m 269 #[rv x0, iv x1] [(.int (2 : Int32)), (.ref x0), (.int (2 : Int32)), (.ref b73), (.ref b73), (.ref b72), (.ref b72)])) rfl ?_
                  obtain ⟨cl78, Ar78, q78, S78, M78, Hs78, G78⟩ := id V_x0
                  have hin78 : ¬ ((2 : Int32) < 0 ∨ cl78.slots.size ≤ ((2 : Int32)).toNatClampNeg) := inb_of S78 ⟨(by decide), (by decide)⟩
                  have hat78 : cl78.slots[((2 : Int32)).toNatClampNeg]? = some (.int ch2) := Hs78.at hin78 rfl
                  refine GoesH.st (B := T77.setTop (mkF m 270 #[rv x0, iv x1] [(.int ch2), (.int (2 : Int32)), (.ref b73), (.ref b73), (.ref b72), (.ref b72)])) (X77.caload hx (j := (2 : Int32)) (v := (.int ch2)) (by rw [e77]; exact Ar78.1) (State.isArrayOf_alike hZ.alike Ar78.2.1) Ar78.2.2 hin78 hat78 (g := (mkF m 269 #[rv x0, iv x1] [(.int (2 : Int32)), (.ref x0), (.int (2 : Int32)), (.ref b73), (.ref b73), (.ref b72), (.ref b72)])) rfl rfl (hb hby d6_269)) ?_
                  obtain ⟨cl79, Ar79, q79, S79, M79, Hs79, G79⟩ := id V_b73
                  have hin79 : ¬ ((2 : Int32) < 0 ∨ cl79.slots.size ≤ ((2 : Int32)).toNatClampNeg) := inb_of S79 ⟨(by decide), (by decide)⟩
                  obtain ⟨T79, h79, X79, e79, W79, st79⟩ := stC X77 hx hZ e77 Ar79 (j := (2 : Int32)) hin79 (g := (mkF m 270 #[rv x0, iv x1] [(.int ch2), (.int (2 : Int32)), (.ref b73), (.ref b73), (.ref b72), (.ref b72)])) rfl rfl (hb hby d6_270)
                  have sk79 := ((Safe.arv hZ.alike V_b73 (by decide)) : Safe Z consts_1 s.vm h77 b73)
                  have sf_b72 := Safe.wr W79 sk79 CH77.1 sf_b72
                  have CH79 := CH77.trans (CHr.wr W79 sk79 CH77.1)
                  have V_x0 := V_x0.other W79 ne_x0_b73
                  have E_b72 := E_b72.wr W79
                  have F_value_b72 := F_value_b72.other W79 (Or.inl ne_b72_b73)
                  have F_coder_b72 := F_coder_b72.other W79 (Or.inl ne_b72_b73)
                  have E_b73 := E_b73.wr W79
                  have Zn79 : n0 ≤ h79.size := Nat.le_trans Zn77 (Keep.of_wr W79).1
                  have K79 := K77.wr W79 (Or.inr sz_b73)
                  have Od79 := Od77.wr W79 g_b73
                  have hk79e := Nat.le_trans hk77e (Keep.of_wr W79).1
                  have N79 := Fr.snoc X79 N77 g_b73
                  have V_b73 : Arv Z h79 b73 k73 .char (7 : Int32) [(.int (wF_32 x1 ch0 ch1 ch2 ch3 ch4 ch5 ch6 ch7)), (.int (wF_60 x1 ch0 ch1 ch2 ch3 ch4 ch5 ch6 ch7)), (.int (wF_94 x1 ch0 ch1 ch2 ch3 ch4 ch5 ch6 ch7)), (.int (0 : Int32)), (.int (0 : Int32)), (.int (0 : Int32)), (.int (0 : Int32))] (.int (0 : Int32)) := Arv.set Ar79 q79 S79 M79 Hs79 G79 (fits_nar_char _) W79 2 rfl (Nat.le_of_ble_eq_true rfl)
                  refine GoesH.st (B := T79.setTop (mkF m 271 #[rv x0, iv x1] [(.ref b73), (.ref b72), (.ref b72)])) st79 ?_
                  refine GoesH.run X79 hx hown hci hcl hby (L := [(271, .dup, 1), (272, .iconst 3, 1), (273, .aload_n 0, 1), (274, .iconst 3, 1)]) (by decide +kernel) rfl (g' := (mkF m 275 #[rv x0, iv x1] [(.int (3 : Int32)), (.ref x0), (.int (3 : Int32)), (.ref b73), (.ref b73), (.ref b72), (.ref b72)])) rfl ?_
                  obtain ⟨cl80, Ar80, q80, S80, M80, Hs80, G80⟩ := id V_x0
                  have hin80 : ¬ ((3 : Int32) < 0 ∨ cl80.slots.size ≤ ((3 : Int32)).toNatClampNeg) := inb_of S80 ⟨(by decide), (by decide)⟩
                  have hat80 : cl80.slots[((3 : Int32)).toNatClampNeg]? = some (.int ch3) := Hs80.at hin80 rfl
                  refine GoesH.st (B := T79.setTop (mkF m 276 #[rv x0, iv x1] [(.int ch3), (.int (3 : Int32)), (.ref b73), (.ref b73), (.ref b72), (.ref b72)])) (X79.caload hx (j := (3 : Int32)) (v := (.int ch3)) (by rw [e79]; exact Ar80.1) (State.isArrayOf_alike hZ.alike Ar80.2.1) Ar80.2.2 hin80 hat80 (g := (mkF m 275 #[rv x0, iv x1] [(.int (3 : Int32)), (.ref x0), (.int (3 : Int32)), (.ref b73), (.ref b73), (.ref b72), (.ref b72)])) rfl rfl (hb hby d6_275)) ?_
                  obtain ⟨cl81, Ar81, q81, S81, M81, Hs81, G81⟩ := id V_b73
                  have hin81 : ¬ ((3 : Int32) < 0 ∨ cl81.slots.size ≤ ((3 : Int32)).toNatClampNeg) := inb_of S81 ⟨(by decide), (by decide)⟩
                  obtain ⟨T81, h81, X81, e81, W81, st81⟩ := stC X79 hx hZ e79 Ar81 (j := (3 : Int32)) hin81 (g := (mkF m 276 #[rv x0, iv x1] [(.int ch3), (.int (3 : Int32)), (.ref b73), (.ref b73), (.ref b72), (.ref b72)])) rfl rfl (hb hby d6_276)
                  have sk81 := ((Safe.arv hZ.alike V_b73 (by decide)) : Safe Z consts_1 s.vm h79 b73)
                  have sf_b72 := Safe.wr W81 sk81 CH79.1 sf_b72
                  have CH81 := CH79.trans (CHr.wr W81 sk81 CH79.1)
                  have V_x0 := V_x0.other W81 ne_x0_b73
                  have E_b72 := E_b72.wr W81
                  have F_value_b72 := F_value_b72.other W81 (Or.inl ne_b72_b73)
                  have F_coder_b72 := F_coder_b72.other W81 (Or.inl ne_b72_b73)
                  have E_b73 := E_b73.wr W81
                  have Zn81 : n0 ≤ h81.size := Nat.le_trans Zn79 (Keep.of_wr W81).1
                  have K81 := K79.wr W81 (Or.inr sz_b73)
                  have Od81 := Od79.wr W81 g_b73
                  have hk81e := Nat.le_trans hk79e (Keep.of_wr W81).1
                  have N81 := Fr.snoc X81 N79 g_b73
                  have V_b73 : Arv Z h81 b73 k73 .char (7 : Int32) [(.int (wF_32 x1 ch0 ch1 ch2 ch3 ch4 ch5 ch6 ch7)), (.int (wF_60 x1 ch0 ch1 ch2 ch3 ch4 ch5 ch6 ch7)), (.int (wF_94 x1 ch0 ch1 ch2 ch3 ch4 ch5 ch6 ch7)), (.int (wF_134 x1 ch0 ch1 ch2 ch3 ch4 ch5 ch6 ch7)), (.int (0 : Int32)), (.int (0 : Int32)), (.int (0 : Int32))] (.int (0 : Int32)) := Arv.set Ar81 q81 S81 M81 Hs81 G81 (fits_nar_char _) W81 3 rfl (Nat.le_of_ble_eq_true rfl)
                  refine GoesH.st (B := T81.setTop (mkF m 277 #[rv x0, iv x1] [(.ref b73), (.ref b72), (.ref b72)])) st81 ?_
                  refine GoesH.run X81 hx hown hci hcl hby (L := [(277, .dup, 1), (278, .iconst 4, 1), (279, .aload_n 0, 1), (280, .iconst 4, 1)]) (by decide +kernel) rfl (g' := (mkF m 281 #[rv x0, iv x1] [(.int (4 : Int32)), (.ref x0), (.int (4 : Int32)), (.ref b73), (.ref b73), (.ref b72), (.ref b72)])) rfl ?_
                  obtain ⟨cl82, Ar82, q82, S82, M82, Hs82, G82⟩ := id V_x0
                  have hin82 : ¬ ((4 : Int32) < 0 ∨ cl82.slots.size ≤ ((4 : Int32)).toNatClampNeg) := inb_of S82 ⟨(by decide), (by decide)⟩
                  have hat82 : cl82.slots[((4 : Int32)).toNatClampNeg]? = some (.int ch4) := Hs82.at hin82 rfl
                  refine GoesH.st (B := T81.setTop (mkF m 282 #[rv x0, iv x1] [(.int ch4), (.int (4 : Int32)), (.ref b73), (.ref b73), (.ref b72), (.ref b72)])) (X81.caload hx (j := (4 : Int32)) (v := (.int ch4)) (by rw [e81]; exact Ar82.1) (State.isArrayOf_alike hZ.alike Ar82.2.1) Ar82.2.2 hin82 hat82 (g := (mkF m 281 #[rv x0, iv x1] [(.int (4 : Int32)), (.ref x0), (.int (4 : Int32)), (.ref b73), (.ref b73), (.ref b72), (.ref b72)])) rfl rfl (hb hby d6_281)) ?_
                  obtain ⟨cl83, Ar83, q83, S83, M83, Hs83, G83⟩ := id V_b73
                  have hin83 : ¬ ((4 : Int32) < 0 ∨ cl83.slots.size ≤ ((4 : Int32)).toNatClampNeg) := inb_of S83 ⟨(by decide), (by decide)⟩
                  obtain ⟨T83, h83, X83, e83, W83, st83⟩ := stC X81 hx hZ e81 Ar83 (j := (4 : Int32)) hin83 (g := (mkF m 282 #[rv x0, iv x1] [(.int ch4), (.int (4 : Int32)), (.ref b73), (.ref b73), (.ref b72), (.ref b72)])) rfl rfl (hb hby d6_282)
                  have sk83 := ((Safe.arv hZ.alike V_b73 (by decide)) : Safe Z consts_1 s.vm h81 b73)
                  have sf_b72 := Safe.wr W83 sk83 CH81.1 sf_b72
                  have CH83 := CH81.trans (CHr.wr W83 sk83 CH81.1)
                  have V_x0 := V_x0.other W83 ne_x0_b73
                  have E_b72 := E_b72.wr W83
                  have F_value_b72 := F_value_b72.other W83 (Or.inl ne_b72_b73)
                  have F_coder_b72 := F_coder_b72.other W83 (Or.inl ne_b72_b73)
                  have E_b73 := E_b73.wr W83
                  have Zn83 : n0 ≤ h83.size := Nat.le_trans Zn81 (Keep.of_wr W83).1
                  have K83 := K81.wr W83 (Or.inr sz_b73)
                  have Od83 := Od81.wr W83 g_b73
                  have hk83e := Nat.le_trans hk81e (Keep.of_wr W83).1
                  have N83 := Fr.snoc X83 N81 g_b73
                  have V_b73 : Arv Z h83 b73 k73 .char (7 : Int32) [(.int (wF_32 x1 ch0 ch1 ch2 ch3 ch4 ch5 ch6 ch7)), (.int (wF_60 x1 ch0 ch1 ch2 ch3 ch4 ch5 ch6 ch7)), (.int (wF_94 x1 ch0 ch1 ch2 ch3 ch4 ch5 ch6 ch7)), (.int (wF_134 x1 ch0 ch1 ch2 ch3 ch4 ch5 ch6 ch7)), (.int (wF_180 x1 ch0 ch1 ch2 ch3 ch4 ch5 ch6 ch7)), (.int (0 : Int32)), (.int (0 : Int32))] (.int (0 : Int32)) := Arv.set Ar83 q83 S83 M83 Hs83 G83 (fits_nar_char _) W83 4 rfl (Nat.le_of_ble_eq_true rfl)
                  refine GoesH.st (B := T83.setTop (mkF m 283 #[rv x0, iv x1] [(.ref b73), (.ref b72), (.ref b72)])) st83 ?_
                  refine GoesH.run X83 hx hown hci hcl hby (L := [(283, .dup, 1), (284, .iconst 5, 1), (285, .aload_n 0, 1), (286, .iconst 5, 1)]) (by decide +kernel) rfl (g' := (mkF m 287 #[rv x0, iv x1] [(.int (5 : Int32)), (.ref x0), (.int (5 : Int32)), (.ref b73), (.ref b73), (.ref b72), (.ref b72)])) rfl ?_
                  obtain ⟨cl84, Ar84, q84, S84, M84, Hs84, G84⟩ := id V_x0
                  have hin84 : ¬ ((5 : Int32) < 0 ∨ cl84.slots.size ≤ ((5 : Int32)).toNatClampNeg) := inb_of S84 ⟨(by decide), (by decide)⟩
                  have hat84 : cl84.slots[((5 : Int32)).toNatClampNeg]? = some (.int ch5) := Hs84.at hin84 rfl
                  refine GoesH.st (B := T83.setTop (mkF m 288 #[rv x0, iv x1] [(.int ch5), (.int (5 : Int32)), (.ref b73), (.ref b73), (.ref b72), (.ref b72)])) (X83.caload hx (j := (5 : Int32)) (v := (.int ch5)) (by rw [e83]; exact Ar84.1) (State.isArrayOf_alike hZ.alike Ar84.2.1) Ar84.2.2 hin84 hat84 (g := (mkF m 287 #[rv x0, iv x1] [(.int (5 : Int32)), (.ref x0), (.int (5 : Int32)), (.ref b73), (.ref b73), (.ref b72), (.ref b72)])) rfl rfl (hb hby d6_287)) ?_
                  obtain ⟨cl85, Ar85, q85, S85, M85, Hs85, G85⟩ := id V_b73
                  have hin85 : ¬ ((5 : Int32) < 0 ∨ cl85.slots.size ≤ ((5 : Int32)).toNatClampNeg) := inb_of S85 ⟨(by decide), (by decide)⟩
                  obtain ⟨T85, h85, X85, e85, W85, st85⟩ := stC X83 hx hZ e83 Ar85 (j := (5 : Int32)) hin85 (g := (mkF m 288 #[rv x0, iv x1] [(.int ch5), (.int (5 : Int32)), (.ref b73), (.ref b73), (.ref b72), (.ref b72)])) rfl rfl (hb hby d6_288)
                  have sk85 := ((Safe.arv hZ.alike V_b73 (by decide)) : Safe Z consts_1 s.vm h83 b73)
                  have sf_b72 := Safe.wr W85 sk85 CH83.1 sf_b72
                  have CH85 := CH83.trans (CHr.wr W85 sk85 CH83.1)
                  have V_x0 := V_x0.other W85 ne_x0_b73
                  have E_b72 := E_b72.wr W85
                  have F_value_b72 := F_value_b72.other W85 (Or.inl ne_b72_b73)
                  have F_coder_b72 := F_coder_b72.other W85 (Or.inl ne_b72_b73)
                  have E_b73 := E_b73.wr W85
                  have Zn85 : n0 ≤ h85.size := Nat.le_trans Zn83 (Keep.of_wr W85).1
                  have K85 := K83.wr W85 (Or.inr sz_b73)
                  have Od85 := Od83.wr W85 g_b73
                  have hk85e := Nat.le_trans hk83e (Keep.of_wr W85).1
                  have N85 := Fr.snoc X85 N83 g_b73
                  have V_b73 : Arv Z h85 b73 k73 .char (7 : Int32) [(.int (wF_32 x1 ch0 ch1 ch2 ch3 ch4 ch5 ch6 ch7)), (.int (wF_60 x1 ch0 ch1 ch2 ch3 ch4 ch5 ch6 ch7)), (.int (wF_94 x1 ch0 ch1 ch2 ch3 ch4 ch5 ch6 ch7)), (.int (wF_134 x1 ch0 ch1 ch2 ch3 ch4 ch5 ch6 ch7)), (.int (wF_180 x1 ch0 ch1 ch2 ch3 ch4 ch5 ch6 ch7)), (.int (wF_234 x1 ch0 ch1 ch2 ch3 ch4 ch5 ch6 ch7)), (.int (0 : Int32))] (.int (0 : Int32)) := Arv.set Ar85 q85 S85 M85 Hs85 G85 (fits_nar_char _) W85 5 rfl (Nat.le_of_ble_eq_true rfl)
                  refine GoesH.st (B := T85.setTop (mkF m 289 #[rv x0, iv x1] [(.ref b73), (.ref b72), (.ref b72)])) st85 ?_
                  refine GoesH.run X85 hx hown hci hcl hby (L := [(289, .dup, 1), (290, .bipush 6, 2), (292, .aload_n 0, 1), (293, .bipush 6, 2)]) (by decide +kernel) rfl (g' := (mkF m 295 #[rv x0, iv x1] [(.int (6 : Int32)), (.ref x0), (.int (6 : Int32)), (.ref b73), (.ref b73), (.ref b72), (.ref b72)])) rfl ?_
                  obtain ⟨cl86, Ar86, q86, S86, M86, Hs86, G86⟩ := id V_x0
                  have hin86 : ¬ ((6 : Int32) < 0 ∨ cl86.slots.size ≤ ((6 : Int32)).toNatClampNeg) := inb_of S86 ⟨(by decide), (by decide)⟩
                  have hat86 : cl86.slots[((6 : Int32)).toNatClampNeg]? = some (.int ch6) := Hs86.at hin86 rfl
                  refine GoesH.st (B := T85.setTop (mkF m 296 #[rv x0, iv x1] [(.int ch6), (.int (6 : Int32)), (.ref b73), (.ref b73), (.ref b72), (.ref b72)])) (X85.caload hx (j := (6 : Int32)) (v := (.int ch6)) (by rw [e85]; exact Ar86.1) (State.isArrayOf_alike hZ.alike Ar86.2.1) Ar86.2.2 hin86 hat86 (g := (mkF m 295 #[rv x0, iv x1] [(.int (6 : Int32)), (.ref x0), (.int (6 : Int32)), (.ref b73), (.ref b73), (.ref b72), (.ref b72)])) rfl rfl (hb hby d6_295)) ?_
                  obtain ⟨cl87, Ar87, q87, S87, M87, Hs87, G87⟩ := id V_b73
                  have hin87 : ¬ ((6 : Int32) < 0 ∨ cl87.slots.size ≤ ((6 : Int32)).toNatClampNeg) := inb_of S87 ⟨(by decide), (by decide)⟩
                  obtain ⟨T87, h87, X87, e87, W87, st87⟩ := stC X85 hx hZ e85 Ar87 (j := (6 : Int32)) hin87 (g := (mkF m 296 #[rv x0, iv x1] [(.int ch6), (.int (6 : Int32)), (.ref b73), (.ref b73), (.ref b72), (.ref b72)])) rfl rfl (hb hby d6_296)
                  have sk87 := ((Safe.arv hZ.alike V_b73 (by decide)) : Safe Z consts_1 s.vm h85 b73)
                  have sf_b72 := Safe.wr W87 sk87 CH85.1 sf_b72
                  have CH87 := CH85.trans (CHr.wr W87 sk87 CH85.1)
                  have V_x0 := V_x0.other W87 ne_x0_b73
                  have E_b72 := E_b72.wr W87
                  have F_value_b72 := F_value_b72.other W87 (Or.inl ne_b72_b73)
                  have F_coder_b72 := F_coder_b72.other W87 (Or.inl ne_b72_b73)
                  have E_b73 := E_b73.wr W87
                  have Zn87 : n0 ≤ h87.size := Nat.le_trans Zn85 (Keep.of_wr W87).1
                  have K87 := K85.wr W87 (Or.inr sz_b73)
                  have Od87 := Od85.wr W87 g_b73
                  have hk87e := Nat.le_trans hk85e (Keep.of_wr W87).1
                  have N87 := Fr.snoc X87 N85 g_b73
                  have V_b73 : Arv Z h87 b73 k73 .char (7 : Int32) [(.int (wF_32 x1 ch0 ch1 ch2 ch3 ch4 ch5 ch6 ch7)), (.int (wF_60 x1 ch0 ch1 ch2 ch3 ch4 ch5 ch6 ch7)), (.int (wF_94 x1 ch0 ch1 ch2 ch3 ch4 ch5 ch6 ch7)), (.int (wF_134 x1 ch0 ch1 ch2 ch3 ch4 ch5 ch6 ch7)), (.int (wF_180 x1 ch0 ch1 ch2 ch3 ch4 ch5 ch6 ch7)), (.int (wF_234 x1 ch0 ch1 ch2 ch3 ch4 ch5 ch6 ch7)), (.int (wF_296 x1 ch0 ch1 ch2 ch3 ch4 ch5 ch6 ch7))] (.int (0 : Int32)) := Arv.set Ar87 q87 S87 M87 Hs87 G87 (fits_nar_char _) W87 6 rfl (Nat.le_of_ble_eq_true rfl)
                  refine GoesH.st (B := T87.setTop (mkF m 297 #[rv x0, iv x1] [(.ref b73), (.ref b72), (.ref b72)])) st87 ?_
                  have hp_b72 : ∀ c ∈ (csF_297 x1 ch0 ch1 ch2 ch3 ch4 ch5 ch6 ch7), ¬ c < 0 ∧ ¬ (255 : Int32) < c := (own_alS pz0 (own_alS pz1 (own_alS pz2 (own_alS pz3 (own_alS pz4 (own_alS pz5 (own_alS pz6 own_al0)))))))
                  obtain ⟨_, _, ⟨T88, L88, k88, n88⟩, -, X88, ⟨Lc88, hQ88, l88, y88, z88⟩, st88⟩ := X87.specialBack hx (y := ym5) rfl hown (mvT hZ w_50) (mvT hZ w_51) (mvT hZ w_52) (by decide) (StrChars.Road.backV (W := 1) hZ (own_hws hw) (kI := 4) w_7 (cs := (csF_297 x1 ch0 ch1 ch2 ch3 ch4 ch5 ch6 ch7)) (bs := ((csF_297 x1 ch0 ch1 ch2 ch3 ch4 ch5 ch6 ch7).map (fun c => c.toInt8.toInt32))) (n := 7) g_b72 Zn87 E_b72 F_value_b72 F_coder_b72 V_b73 (O2.ext Od87.2) P5 rfl rfl (by decide) (by decide) hp_b72 rfl (by decide) (by decide)) (g := (mkF m 297 #[rv x0, iv x1] [(.ref b73), (.ref b72), (.ref b72)])) rfl (by rw [hml]; rfl) (Steps.refl _) (a := b72) (argsL := [(.ref b73)]) (rest := [(.ref b72)]) (lenOf pdF_0 rfl) rfl (by show 2 * 0 + _ ≤ _; exact Nat.le_of_eq rfl) (hb hby d6_297) (fun _ _ => ⟨rfl, e87, (by decide : 2 + 1 ≤ _), (by decide : 11 + 7 ≤ _)⟩)
                  dsimp only [Pt.U, Pt.locs, Pt.cells, Pt.slots] at X88 l88 y88 z88 st88 hQ88
                  subst l88 y88 z88
                  obtain ⟨h88, eh88⟩ : ∃ z, z = T88.heap := ⟨_, rfl⟩
                  rw [← eh88] at hQ88
                  have e88 : T88.heap = h88 := eh88.symm
                  obtain ⟨rfl, N88q, Kq88, o88_e, o88_c, t88, kb88, u88, szr88, nw88, o88_v, o88_a⟩ := hQ88
                  have ne_b72_t88 : b72 ≠ t88 := Nat.ne_of_lt (Nat.lt_of_lt_of_le E_b72.lt szr88)
                  have ne_b73_t88 : b73 ≠ t88 := Nat.ne_of_lt (Nat.lt_of_lt_of_le E_b73.lt szr88)
                  have ne_x0_t88 : x0 ≠ t88 := Nat.ne_of_lt (Nat.lt_of_lt_of_le V_x0.lt szr88)
                  have g_t88 : n0 ≤ t88 := Nat.le_trans Zn87 szr88
                  have sz_t88 : h0.size ≤ t88 := Nat.le_trans K87.1 szr88
                  have N88 := Fr.app N87 N88q
                  have sk88 : ∀ x ∈ [b72], Safe Z consts_1 s.vm h87 x := (sfS sf_b72 sf0)
                  have sf_b72 := Safe.keep Kq88 sk88 CH87.1 sf_b72
                  have CH88 := CH87.trans (CHr.keep Kq88 sk88 CH87.1)
                  have V_x0 := V_x0.keep Kq88 (ninS ne_x0_b72 nin0)
                  have E_b72 := E_b72.keep Kq88
                  have E_b73 := E_b73.keep Kq88
                  have V_b73 := V_b73.keep Kq88 (ninS (Ne.symm ne_b72_b73) nin0)
                  have Zn88 : n0 ≤ h88.size := Nat.le_trans Zn87 Kq88.1
                  have hk88e := Nat.le_trans hk87e Kq88.1
                  have K88 := K87.trans Kq88 ((allS (Or.inr sz_b72) all0))
                  have Od88 := Od87.keep Kq88 (allS g_b72 all0)
                  have F_coder_b72 : Fld Z h88 b72 "java/lang/String" "coder" "B" (.int (0 : Int32)) := o88_c
                  have F_value_b72 : Fld Z h88 b72 "java/lang/String" "value" "[B" (.ref t88) := o88_v
                  have V_t88 : Arv Z h88 t88 kb88 .byte (7 : Int32) (((csF_297 x1 ch0 ch1 ch2 ch3 ch4 ch5 ch6 ch7).map (fun c => c.toInt8.toInt32)).map Value.int) (.int (0 : Int32)) := o88_a
                  refine GoesH.st (B := T88.setTop (mkF m 300 #[rv x0, iv x1] [(.ref b72)])) (fun t k => st88.trans k) ?_
                  exact GoesH.retR X88 Sn0 (by rw [e88]; exact hk88e) (by rw [e88]; exact CH88) hZ hEL hx hlk Bd.returns rfl rfl (hb hby d6_300) (by show QMK Z x1 ch0 ch1 ch2 ch3 ch4 ch5 ch6 ch7 h0 n0 _ _ _; rw [e88]; have q : own_cs x1 ch0 ch1 ch2 ch3 ch4 ch5 ch6 ch7 = (csF_297 x1 ch0 ch1 ch2 ch3 ch4 ch5 ch6 ch7) := ((((((((if_neg hc1_1).trans (if_neg hc17_5)).trans (if_neg hc39_11)).trans (if_neg hc67_19)).trans (if_neg hc101_29)).trans (if_neg hc141_41)).trans (if_neg hc188_55)).trans (if_pos hc242_71)); unfold QMK; rw [q]; exact ⟨b72, t88, kb88, rfl, N88, K88, sz_b72, E_b72, F_coder_b72, F_value_b72, V_t88⟩) (by decide) (by decide)
                · skip
                  refine GoesH.st (B := s₁.setTop (mkF m 301 #[rv x0, iv x1] [])) (fun t k => ?_) ?_
                  · refine XS.icmpYes X0.here hx rfl (pc0 := 242) (pc' := 301) rfl (hb hby d6_242) rfl (feq hc242_71).2 (by decide) (by decide) ?_
                    exact k
                  obtain ⟨T89, h89, X89, e89, E89, A89, D89, -, st89⟩ := newO X0 hx hZ hown w_49 w_7 w_6 e0 (g := (mkF m 301 #[rv x0, iv x1] [])) rfl (hb hby d6_301) (by decide) (by decide)
                  obtain ⟨b89, g89⟩ : ∃ z, z = h0.size := ⟨_, rfl⟩
                  rw [← g89] at A89 D89 st89
                  have ne_x0_b89 : x0 ≠ b89 := Nat.ne_of_lt (Nat.lt_of_lt_of_le V_x0.lt (Nat.le_of_eq g89.symm))
                  have g_b89 : n0 ≤ b89 := Nat.le_trans Z0 (Nat.le_of_eq g89.symm)
                  have sz_b89 : h0.size ≤ b89 := Nat.le_trans K0.1 (Nat.le_of_eq g89.symm)
                  have sf_b89 : Safe Z consts_1 s.vm h0 b89 := Safe.new (Nat.le_of_eq g89.symm)
                  have sf_b89 := Safe.ext E89 CH0.1 sf_b89
                  have CH89 := CH0.trans (CHr.ext E89 CH0.1)
                  have V_x0 := V_x0.ext E89
                  have Zn89 : n0 ≤ h89.size := Nat.le_trans Z0 E89.1
                  have K89 := K0.ext E89
                  have Od89 := O0.ext E89
                  have hk89e := Nat.le_trans hk0 E89.1
                  have E_b89 : Exa Z h89 b89 "java/lang/String" := A89
                  have F_value_b89 : Fld Z h89 b89 "java/lang/String" "value" "[B" .null := D89 (Or.inr w_9) (ty := (.array .byte)) (by decide)
                  have F_coder_b89 : Fld Z h89 b89 "java/lang/String" "coder" "B" (.int (0 : Int32)) := D89 (Or.inr w_10) (ty := .byte) (by decide)
                  refine GoesH.st (B := T89.setTop (mkF m 304 #[rv x0, iv x1] [(.ref b89)])) st89 ?_
                  refine GoesH.run X89 hx hown hci hcl hby (L := [(304, .dup, 1), (305, .aload_n 0, 1)]) (by decide +kernel) rfl (g' := (mkF m 306 #[rv x0, iv x1] [(.ref x0), (.ref b89), (.ref b89)])) rfl ?_
                  have hp_b89 : ∀ c ∈ (csF_306 x1 ch0 ch1 ch2 ch3 ch4 ch5 ch6 ch7), ¬ c < 0 ∧ ¬ (255 : Int32) < c := (own_alS pq0 (own_alS pq1 (own_alS pq2 (own_alS pq3 (own_alS pq4 (own_alS pq5 (own_alS pq6 (own_alS pq7 own_al0))))))))
                  obtain ⟨_, _, ⟨T90, L90, k90, n90⟩, -, X90, ⟨Lc90, hQ90, l90, y90, z90⟩, st90⟩ := X89.specialBack hx (y := ym5) rfl hown (mvT hZ w_50) (mvT hZ w_51) (mvT hZ w_52) (by decide) (StrChars.Road.backV (W := 1) hZ (own_hws hw) (kI := 4) w_7 (cs := (csF_306 x1 ch0 ch1 ch2 ch3 ch4 ch5 ch6 ch7)) (bs := ((csF_306 x1 ch0 ch1 ch2 ch3 ch4 ch5 ch6 ch7).map (fun c => c.toInt8.toInt32))) (n := 8) g_b89 Zn89 E_b89 F_value_b89 F_coder_b89 V_x0 (O2.ext Od89.2) P5 rfl rfl (by decide) (by decide) hp_b89 rfl (by decide) (by decide)) (g := (mkF m 306 #[rv x0, iv x1] [(.ref x0), (.ref b89), (.ref b89)])) rfl (by rw [hml]; rfl) (Steps.refl _) (a := b89) (argsL := [(.ref x0)]) (rest := [(.ref b89)]) (lenOf pdF_0 rfl) rfl (by show 2 * 0 + _ ≤ _; exact Nat.le_of_eq rfl) (hb hby d6_306) (fun _ _ => ⟨rfl, e89, (by decide : 1 + 1 ≤ _), (by decide : 4 + 8 ≤ _)⟩)
                  dsimp only [Pt.U, Pt.locs, Pt.cells, Pt.slots] at X90 l90 y90 z90 st90 hQ90
                  subst l90 y90 z90
                  obtain ⟨h90, eh90⟩ : ∃ z, z = T90.heap := ⟨_, rfl⟩
                  rw [← eh90] at hQ90
                  have e90 : T90.heap = h90 := eh90.symm
                  obtain ⟨rfl, N90q, Kq90, o90_e, o90_c, t90, kb90, u90, szr90, nw90, o90_v, o90_a⟩ := hQ90
                  have ne_b89_t90 : b89 ≠ t90 := Nat.ne_of_lt (Nat.lt_of_lt_of_le E_b89.lt szr90)
                  have ne_x0_t90 : x0 ≠ t90 := Nat.ne_of_lt (Nat.lt_of_lt_of_le V_x0.lt szr90)
                  have g_t90 : n0 ≤ t90 := Nat.le_trans Zn89 szr90
                  have sz_t90 : h0.size ≤ t90 := Nat.le_trans K89.1 szr90
                  have N90 := Fr.app N0 N90q
                  have sk90 : ∀ x ∈ [b89], Safe Z consts_1 s.vm h89 x := (sfS sf_b89 sf0)
                  have sf_b89 := Safe.keep Kq90 sk90 CH89.1 sf_b89
                  have CH90 := CH89.trans (CHr.keep Kq90 sk90 CH89.1)
                  have V_x0 := V_x0.keep Kq90 (ninS ne_x0_b89 nin0)
                  have E_b89 := E_b89.keep Kq90
                  have Zn90 : n0 ≤ h90.size := Nat.le_trans Zn89 Kq90.1
                  have hk90e := Nat.le_trans hk89e Kq90.1
                  have K90 := K89.trans Kq90 ((allS (Or.inr sz_b89) all0))
                  have Od90 := Od89.keep Kq90 (allS g_b89 all0)
                  have F_coder_b89 : Fld Z h90 b89 "java/lang/String" "coder" "B" (.int (0 : Int32)) := o90_c
                  have F_value_b89 : Fld Z h90 b89 "java/lang/String" "value" "[B" (.ref t90) := o90_v
                  have V_t90 : Arv Z h90 t90 kb90 .byte (8 : Int32) (((csF_306 x1 ch0 ch1 ch2 ch3 ch4 ch5 ch6 ch7).map (fun c => c.toInt8.toInt32)).map Value.int) (.int (0 : Int32)) := o90_a
                  refine GoesH.st (B := T90.setTop (mkF m 309 #[rv x0, iv x1] [(.ref b89)])) (fun t k => st90.trans k) ?_
                  exact GoesH.retR X90 Sn0 (by rw [e90]; exact hk90e) (by rw [e90]; exact CH90) hZ hEL hx hlk Bd.returns rfl rfl (hb hby d6_309) (by show QMK Z x1 ch0 ch1 ch2 ch3 ch4 ch5 ch6 ch7 h0 n0 _ _ _; rw [e90]; have q : own_cs x1 ch0 ch1 ch2 ch3 ch4 ch5 ch6 ch7 = (csF_306 x1 ch0 ch1 ch2 ch3 ch4 ch5 ch6 ch7) := ((((((((if_neg hc1_1).trans (if_neg hc17_5)).trans (if_neg hc39_11)).trans (if_neg hc67_19)).trans (if_neg hc101_29)).trans (if_neg hc141_41)).trans (if_neg hc188_55)).trans (if_neg hc242_71)); unfold QMK; rw [q]; exact ⟨b89, t90, kb90, rfl, N90, K90, sz_b89, E_b89, F_coder_b89, F_value_b89, V_t90⟩) (by decide) (by decide)
theorem d7_1 : decode method_4_code 1 = .ok (.ifnonnull 5, 3) := by decide +kernel
theorem d7_7 : decode method_4_code 7 = .ok (.ldc 35, 2) := by decide +kernel
theorem d7_9 : decode method_4_code 9 = .ok (.invokevirtual 47, 3) := by decide +kernel
theorem d7_12 : decode method_4_code 12 = .ok (.ifCond .eq 7, 3) := by decide +kernel
theorem d7_15 : decode method_4_code 15 = .ok (.getstatic 51, 3) := by decide +kernel
theorem d7_18 : decode method_4_code 18 = .ok (.areturn, 1) := by decide +kernel
theorem d7_20 : decode method_4_code 20 = .ok (.ldc 43, 2) := by decide +kernel
theorem d7_22 : decode method_4_code 22 = .ok (.invokevirtual 47, 3) := by decide +kernel
theorem d7_25 : decode method_4_code 25 = .ok (.ifCond .eq 7, 3) := by decide +kernel
theorem d7_28 : decode method_4_code 28 = .ok (.getstatic 55, 3) := by decide +kernel
theorem d7_31 : decode method_4_code 31 = .ok (.areturn, 1) := by decide +kernel
theorem d7_33 : decode method_4_code 33 = .ok (.areturn, 1) := by decide +kernel
theorem pnG : plainName "com/example/upcaster/upcaster/io/CodecNamedPinLaw" = true := by first | (simp [plainName, overriddenIn]; done) | decide +kernel
theorem pdG_0 : parseMethodDescriptor "(Ljava/lang/Object;)Z" = some ⟨[(.object "java/lang/Object")], some .boolean⟩ := by decide +kernel
theorem efG (m : MethodId) (x0 : Addr) : entryFrame m #[(.ref x0)] 1 = (mkF m 0 #[rv x0] []) := by first | (simp [entryFrame, mkF, argsToLocals, Value.category]; done) | rfl
set_option maxRecDepth 65536 in
set_option maxHeartbeats 40000000 in
theorem rmG (l : Launch) (Z : State) (a0 : Array Value) (hw : ∀ d ∈ tables_1, d.before a0 Z = true) (ws : List Jvm.Cond) (x0 : Addr) (cA : Addr) (cB : Addr) (tS : Addr) (kS : ClassId) (cs : List Int32) (G1 : Int32) (G3 : Value) (h0 : Heap) (n0 : Nat) (Z0 : n0 ≤ h0.size) (E_x0 : Exa Z h0 x0 "java/lang/String") (F_coder_x0 : Fld Z h0 x0 "java/lang/String" "coder" "B" (.int (0 : Int32))) (F_value_x0 : Fld Z h0 x0 "java/lang/String" "value" "[B" (.ref tS)) (V_tS : Arv Z h0 tS kS .byte (Int32.ofNat cs.length) ((cs.map (fun c => c.toInt8.toInt32)).map Value.int) (.int (0 : Int32))) (O0 : Old Z n0 h0) (O2 : Sta Z Z.heap "java/lang/String" "COMPACT_STRINGS" "Z" (.int G1)) (O4 : Sta Z Z.heap "jdk/internal/util/Preconditions" "SIOOBE_FORMATTER" "Ljava/util/function/BiFunction;" G3) (P5 : ¬ G1 = 0) (rG3 : G3.isRef = true) (SN : Sta Z Z.heap "com/example/upcaster/upcaster/io/Codec" "NULL" "Lcom/example/upcaster/upcaster/io/Codec;" (.ref cA)) (SD : Sta Z Z.heap "com/example/upcaster/upcaster/io/Codec" "DEFLATE" "Lcom/example/upcaster/upcaster/io/Codec;" (.ref cB)) (hpS : ∀ c ∈ cs, ¬ c < 0 ∧ ¬ (255 : Int32) < c) (hlS : cs.length ≤ 4000) :
    MetFree l ym8 (head1 (Jvm.Cond.code ym8 method_4_code 1 (some (.object "com/example/upcaster/upcaster/io/Codec")) :: ws) ({ frames := 2, cells := 4, slots := 52, locals := 28 } : Room)) (fun a U => a = #[(.ref x0)] ∧ Z.Warmed39 U.vm ∧ U.heap = h0 ∧ CHv Z consts_1 U.vm h0 ∧ ∀ x ∈ ([] : List Addr), Safe Z consts_1 U.vm h0 x) (fun _ _ _ _ _ => True) (fun _ U o U' => ∃ v L, o = .returned v ∧ (QH (some (own_val cA cB (own_eqr cs ([110, 117, 108, 108] : List Int32)) (own_eqr cs ([100, 101, 102, 108, 97, 116, 101] : List Int32)))) h0 n0) v U'.heap L ∧ CHr Z consts_1 U.vm h0 U'.vm U'.heap ∧ ReturnedEndW U o U' L ({ frames := 2, cells := 4, slots := 52, locals := 28 } : Room).cells ({ frames := 2, cells := 4, slots := 52, locals := 28 } : Room).slots) := by
  refine MetFree.of_bodySF (plainFor_of_name pnG) hisR ?_
  intro p e s m args below meth c s₁ Bd hml0 hP hK
  obtain ⟨rfl, hZ, hh, hCH0, hSF⟩ := hP
  have hx := Bd.exec
  have hby := Bd.bytes
  have hml : c.maxLocals = 1 := hml0
  have hlk : meth.locks = false := BodyLoose.notSynchronized Bd
  have hown : s.vm.findClass "com/example/upcaster/upcaster/io/CodecNamedPinLaw" = some m.cls := findClass_of_methodNamed Bd.named
  have hnm := (name_of_methodNamed Bd.named Bd.method).1
  have w_5 := hw _ (List.mem_of_getElem? (i := 5) rfl)
  have w_7 := hw _ (List.mem_of_getElem? (i := 7) rfl)
  have w_38 := hw _ (List.mem_of_getElem? (i := 38) rfl)
  have w_73 := hw _ (List.mem_of_getElem? (i := 73) rfl)
  have w_74 := hw _ (List.mem_of_getElem? (i := 74) rfl)
  have w_75 := hw _ (List.mem_of_getElem? (i := 75) rfl)
  have w_76 := hw _ (List.mem_of_getElem? (i := 76) rfl)
  have w_82 := hw _ (List.mem_of_getElem? (i := 82) rfl)
  have w_106 := hw _ (List.mem_of_getElem? (i := 106) rfl)
  have w_109 := hw _ (List.mem_of_getElem? (i := 109) rfl)
  have hci : ∀ i v, (i, v) ∈ ([] : List (Nat × Int32)) → (Jvm.Cond.constant "com/example/upcaster/upcaster/io/CodecNamedPinLaw" i v).before #[(.ref x0)] s = true := own_ci0
  have hcl : ∀ i v, (i, v) ∈ ([(45, 255)] : List (Nat × Int64)) → (Jvm.Cond.constantLong "com/example/upcaster/upcaster/io/CodecNamedPinLaw" i v).before #[(.ref x0)] s = true := (own_ciS (mvT hZ w_38) own_ci0)
  have X0 : Stand p l e ({ frames := 2, cells := 4, slots := 52, locals := 28 } : Room) s m #[(.ref x0)] below meth c s₁ [] 0 0 := Stand.of_body Bd
  have e0 : s₁.heap = h0 := by rw [← hh, Bd.state]; rfl
  have N0 := Fr.nil n0
  show GoesH Z h0 p e below s (QH (some (own_val cA cB (own_eqr cs ([110, 117, 108, 108] : List Int32)) (own_eqr cs ([100, 101, 102, 108, 97, 116, 101] : List Int32)))) h0 n0) ({ frames := 2, cells := 4, slots := 52, locals := 28 } : Room).cells ({ frames := 2, cells := 4, slots := 52, locals := 28 } : Room).slots (s₁.setTop (entryFrame m #[(.ref x0)] 1))
  refine GoesH.cast (efG m x0) ?_
  have hEL := own_EL hw
  have Sn0 : s.Since s.vm s.heap.size := own_since s
  have hk0 : s.heap.size ≤ h0.size := Nat.le_of_eq (congrArg Array.size hh)
  have X0 : Stand p l e ({ frames := 2, cells := 4, slots := 52, locals := 28 } : Room) (s.setVm s.vm) m #[(.ref x0)] below meth c s₁ [] 0 0 := X0
  have CH0 : CHr Z consts_1 s.vm h0 s.vm h0 := CHr.refl hCH0
  have K0 : Keep h0 h0 [] := Keep.refl h0 _
  refine GoesH.run X0 hx hown hci hcl hby (L := [(0, .aload_n 0, 1)]) (by decide +kernel) rfl (g' := (mkF m 1 #[rv x0] [(.ref x0)])) rfl ?_
  refine GoesH.st (B := s₁.setTop (mkF m 6 #[rv x0] [])) (fun t k => ?_) ?_
  · refine Jvm.Free.XT.ifnonnullYes X0.here hx rfl (pc0 := 1) (pc' := 6) rfl (hb hby d7_1) rfl (by decide) (by decide) ?_
    exact k
  refine GoesH.run X0 hx hown hci hcl hby (L := [(6, .aload_n 0, 1)]) (by decide +kernel) rfl (g' := (mkF m 7 #[rv x0] [(.ref x0)])) rfl ?_
  obtain ⟨sa1, T1, h1, kk1, sb1, kb1, X1, e1, E1, Sn1, hk1, hZ, hown, A1, C1, D1, V1, -, -, CHq1, lt1, nsf1, st1⟩ := ldcCH X0 hx hZ hown w_5 (own_wS hw) e0 Sn0 hk0 hEL (by decide : ("com/example/upcaster/upcaster/io/CodecNamedPinLaw", 35) ∈ consts_1) CH0.1 (vs := ((([110, 117, 108, 108] : List Int32).map (fun c => c.toInt8.toInt32)).map Value.int)) (z := (4 : Int32)) ⟨by decide, by decide⟩ (by decide) (by decide) (g := (mkF m 7 #[rv x0] [(.ref x0)])) rfl (hb hby d7_7) (n := 16) (by decide) (by decide) (by decide) (by decide)
  have E_x0 := E_x0.ext E1
  have F_coder_x0 := F_coder_x0.ext E1
  have F_value_x0 := F_value_x0.ext E1
  have V_tS := V_tS.ext E1
  have Zn1 : n0 ≤ h1.size := Nat.le_trans Z0 E1.1
  have K1 := K0.ext E1
  have Od1 := O0.ext E1
  have hk1e := Nat.le_trans hk0 E1.1
  have CH1 := CH0.trans CHq1
  have hci : ∀ i v, (i, v) ∈ ([] : List (Nat × Int32)) → (Jvm.Cond.constant "com/example/upcaster/upcaster/io/CodecNamedPinLaw" i v).before #[(.ref x0)] (s.setVm T1.vm) = true := own_ci0
  have hcl : ∀ i v, (i, v) ∈ ([(45, 255)] : List (Nat × Int64)) → (Jvm.Cond.constantLong "com/example/upcaster/upcaster/io/CodecNamedPinLaw" i v).before #[(.ref x0)] (s.setVm T1.vm) = true := (own_ciS (mvT hZ w_38) own_ci0)
  have E_sa1 : Exa Z h1 sa1 "java/lang/String" := A1
  have F_coder_sa1 : Fld Z h1 sa1 "java/lang/String" "coder" "B" (.int (0 : Int32)) := C1
  have F_value_sa1 : Fld Z h1 sa1 "java/lang/String" "value" "[B" (.ref sb1) := D1
  have V_sb1 : Arv Z h1 sb1 kb1 .byte (4 : Int32) ((([110, 117, 108, 108] : List Int32).map (fun c => c.toInt8.toInt32)).map Value.int) (.int (0 : Int32)) := V1
  refine GoesH.st (B := T1.setTop (mkF m 9 #[rv x0] [(.ref sa1), (.ref x0)])) st1 ?_
  have hcd_x0 : StrChars.Road.CodA cs 0 (Int32.ofNat cs.length) ((cs.map (fun c => c.toInt8.toInt32)).map Value.int) := StrChars.Road.codOf (n := cs.length) rfl (fun c hc => (hpS c hc).2)
  have hbd_x0 := own_up hpS
  have hcd_sa1 : StrChars.Road.CodA ([110, 117, 108, 108] : List Int32) 0 (4 : Int32) ((([110, 117, 108, 108] : List Int32).map (fun c => c.toInt8.toInt32)).map Value.int) := StrChars.Road.codOf (n := 4) rfl (fun c hc => ((by decide : ∀ c ∈ ([110, 117, 108, 108] : List Int32), ¬ c < 0 ∧ ¬ (255 : Int32) < c) c hc).2)
  have hbd_sa1 := own_up (by decide : ∀ c ∈ ([110, 117, 108, 108] : List Int32), ¬ c < 0 ∧ ¬ (255 : Int32) < c)
  obtain ⟨cq2, kq2, q2a, q2b, q2c⟩ := isOf hZ e1 E_x0
  obtain ⟨_, _, ⟨T2, L2, k2, n2⟩, -, X2, ⟨Lc2, hQ2, l2, y2, z2⟩, st2⟩ := X1.virtualBack hx (y := ym7) (z := ym7) hown (mvT hZ w_73) (mvT hZ w_74) (notFace_of_selects (args := #[]) (mvT hZ w_76)) (mvT hZ w_76) (mvT hZ w_75) (by decide) (StrChars.Road.eqW (W := 0) hZ (own_heq hw) (kI := 4) w_7 E_x0 F_value_x0 F_coder_x0 V_tS hcd_x0 hbd_x0 (hlS) E_sa1 F_value_sa1 F_coder_sa1 V_sb1 hcd_sa1 hbd_sa1 (Nat.le_of_ble_eq_true rfl) (O2.ext Od1.2) P5 (by decide) (by decide)) q2a q2c (g := (mkF m 9 #[rv x0] [(.ref sa1), (.ref x0)])) rfl (by rw [hml]; rfl) (Steps.refl _) (argsL := [(.ref sa1)]) (rest := []) (lenOf pdG_0 rfl) rfl (by show 2 * 0 + _ ≤ _; exact Nat.le_of_eq rfl) (hb hby d7_9) (fun _ _ => ⟨rfl, e1, (by decide : 2 + 0 ≤ _), (by decide : 20 + 0 ≤ _)⟩)
  dsimp only [Pt.U, Pt.locs, Pt.cells, Pt.slots] at X2 l2 y2 z2 st2 hQ2
  subst l2 y2 z2
  obtain ⟨hv2, rfl, e2⟩ := hQ2
  obtain rfl := own_eqv hv2
  have N2 := Fr.app N0 (Fr.nil n0)
  refine GoesH.st (B := T2.setTop (mkF m 12 #[rv x0] [(.int (own_eqr cs ([110, 117, 108, 108] : List Int32)))])) (fun t k => st2.trans k) ?_
  by_cases hc12_3 : (own_eqr cs ([110, 117, 108, 108] : List Int32)) = (0 : Int32)
  · skip
    refine GoesH.st (B := T2.setTop (mkF m 19 #[rv x0] [])) (fun t k => ?_) ?_
    · refine XS.ifYes X2.here hx rfl (pc0 := 12) (pc' := 19) rfl (hb hby d7_12) rfl ((if0 _ _).trans (teq hc12_3).1) (by decide) (by decide) ?_
      exact k
    refine GoesH.run X2 hx hown hci hcl hby (L := [(19, .aload_n 0, 1)]) (by decide +kernel) rfl (g' := (mkF m 20 #[rv x0] [(.ref x0)])) rfl ?_
    obtain ⟨sa4, T4, h4, kk4, sb4, kb4, X4, e4, E4, Sn4, hk4, hZ, hown, A4, C4, D4, V4, -, -, CHq4, lt4, nsf4, st4⟩ := ldcCH X2 hx hZ hown w_106 (own_wS hw) e2 Sn1 hk1 hEL (by decide : ("com/example/upcaster/upcaster/io/CodecNamedPinLaw", 43) ∈ consts_1) CH1.1 (vs := ((([100, 101, 102, 108, 97, 116, 101] : List Int32).map (fun c => c.toInt8.toInt32)).map Value.int)) (z := (7 : Int32)) ⟨by decide, by decide⟩ (by decide) (by decide) (g := (mkF m 20 #[rv x0] [(.ref x0)])) rfl (hb hby d7_20) (n := 28) (by decide) (by decide) (by decide) (by decide)
    have E_x0 := E_x0.ext E4
    have F_coder_x0 := F_coder_x0.ext E4
    have F_value_x0 := F_value_x0.ext E4
    have V_tS := V_tS.ext E4
    have E_sa1 := E_sa1.ext E4
    have F_coder_sa1 := F_coder_sa1.ext E4
    have F_value_sa1 := F_value_sa1.ext E4
    have V_sb1 := V_sb1.ext E4
    have Zn4 : n0 ≤ h4.size := Nat.le_trans Zn1 E4.1
    have K4 := K1.ext E4
    have Od4 := Od1.ext E4
    have hk4e := Nat.le_trans hk1 E4.1
    have CH4 := CH1.trans CHq4
    have hci : ∀ i v, (i, v) ∈ ([] : List (Nat × Int32)) → (Jvm.Cond.constant "com/example/upcaster/upcaster/io/CodecNamedPinLaw" i v).before #[(.ref x0)] (s.setVm T4.vm) = true := own_ci0
    have hcl : ∀ i v, (i, v) ∈ ([(45, 255)] : List (Nat × Int64)) → (Jvm.Cond.constantLong "com/example/upcaster/upcaster/io/CodecNamedPinLaw" i v).before #[(.ref x0)] (s.setVm T4.vm) = true := (own_ciS (mvT hZ w_38) own_ci0)
    have E_sa4 : Exa Z h4 sa4 "java/lang/String" := A4
    have F_coder_sa4 : Fld Z h4 sa4 "java/lang/String" "coder" "B" (.int (0 : Int32)) := C4
    have F_value_sa4 : Fld Z h4 sa4 "java/lang/String" "value" "[B" (.ref sb4) := D4
    have V_sb4 : Arv Z h4 sb4 kb4 .byte (7 : Int32) ((([100, 101, 102, 108, 97, 116, 101] : List Int32).map (fun c => c.toInt8.toInt32)).map Value.int) (.int (0 : Int32)) := V4
    refine GoesH.st (B := T4.setTop (mkF m 22 #[rv x0] [(.ref sa4), (.ref x0)])) st4 ?_
    have hcd_x0 : StrChars.Road.CodA cs 0 (Int32.ofNat cs.length) ((cs.map (fun c => c.toInt8.toInt32)).map Value.int) := StrChars.Road.codOf (n := cs.length) rfl (fun c hc => (hpS c hc).2)
    have hbd_x0 := own_up hpS
    have hcd_sa4 : StrChars.Road.CodA ([100, 101, 102, 108, 97, 116, 101] : List Int32) 0 (7 : Int32) ((([100, 101, 102, 108, 97, 116, 101] : List Int32).map (fun c => c.toInt8.toInt32)).map Value.int) := StrChars.Road.codOf (n := 7) rfl (fun c hc => ((by decide : ∀ c ∈ ([100, 101, 102, 108, 97, 116, 101] : List Int32), ¬ c < 0 ∧ ¬ (255 : Int32) < c) c hc).2)
    have hbd_sa4 := own_up (by decide : ∀ c ∈ ([100, 101, 102, 108, 97, 116, 101] : List Int32), ¬ c < 0 ∧ ¬ (255 : Int32) < c)
    obtain ⟨cq5, kq5, q5a, q5b, q5c⟩ := isOf hZ e4 E_x0
    obtain ⟨_, _, ⟨T5, L5, k5, n5⟩, -, X5, ⟨Lc5, hQ5, l5, y5, z5⟩, st5⟩ := X4.virtualBack hx (y := ym7) (z := ym7) hown (mvT hZ w_73) (mvT hZ w_74) (notFace_of_selects (args := #[]) (mvT hZ w_76)) (mvT hZ w_76) (mvT hZ w_75) (by decide) (StrChars.Road.eqW (W := 0) hZ (own_heq hw) (kI := 4) w_7 E_x0 F_value_x0 F_coder_x0 V_tS hcd_x0 hbd_x0 (hlS) E_sa4 F_value_sa4 F_coder_sa4 V_sb4 hcd_sa4 hbd_sa4 (Nat.le_of_ble_eq_true rfl) (O2.ext Od4.2) P5 (by decide) (by decide)) q5a q5c (g := (mkF m 22 #[rv x0] [(.ref sa4), (.ref x0)])) rfl (by rw [hml]; rfl) (Steps.refl _) (argsL := [(.ref sa4)]) (rest := []) (lenOf pdG_0 rfl) rfl (by show 2 * 0 + _ ≤ _; exact Nat.le_of_eq rfl) (hb hby d7_22) (fun _ _ => ⟨rfl, e4, (by decide : 4 + 0 ≤ _), (by decide : 52 + 0 ≤ _)⟩)
    dsimp only [Pt.U, Pt.locs, Pt.cells, Pt.slots] at X5 l5 y5 z5 st5 hQ5
    subst l5 y5 z5
    obtain ⟨hv5, rfl, e5⟩ := hQ5
    obtain rfl := own_eqv hv5
    have N5 := Fr.app N2 (Fr.nil n0)
    refine GoesH.st (B := T5.setTop (mkF m 25 #[rv x0] [(.int (own_eqr cs ([100, 101, 102, 108, 97, 116, 101] : List Int32)))])) (fun t k => st5.trans k) ?_
    by_cases hc25_6 : (own_eqr cs ([100, 101, 102, 108, 97, 116, 101] : List Int32)) = (0 : Int32)
    · skip
      refine GoesH.st (B := T5.setTop (mkF m 32 #[rv x0] [])) (fun t k => ?_) ?_
      · refine XS.ifYes X5.here hx rfl (pc0 := 25) (pc' := 32) rfl (hb hby d7_25) rfl ((if0 _ _).trans (teq hc25_6).1) (by decide) (by decide) ?_
        exact k
      refine GoesH.run X5 hx hown hci hcl hby (L := [(32, .aconst_null, 1)]) (by decide +kernel) rfl (g' := (mkF m 33 #[rv x0] [.null])) rfl ?_
      exact GoesH.retR X5 Sn4 (by rw [e5]; exact hk4) (by rw [e5]; exact CH4) hZ hEL hx hlk Bd.returns rfl rfl (hb hby d7_33) ⟨(by unfold own_val; rw [if_pos hc12_3, if_pos hc25_6]), N5, (by rw [e5]; exact K4)⟩ (by decide) (by decide)
    · skip
      refine GoesH.st (B := T5.setTop (mkF m 28 #[rv x0] [])) (fun t k => ?_) ?_
      · refine XS.ifNo X5.here hx rfl (hb hby d7_25) rfl ((if0 _ _).trans (feq hc25_6).1) ?_
        exact k
      have S_DEFLATE := SD.ext Od4.2
      obtain ⟨T7, X7, e7, st7⟩ := getS2 X5 hx hZ hown (host := "") (Or.inl w_109) Via.refl e5 S_DEFLATE (g := (mkF m 28 #[rv x0] [])) rfl (hb hby d7_28)
      refine GoesH.st (B := T7.setTop (mkF m 31 #[rv x0] [(.ref cB)])) st7 ?_
      exact GoesH.retR X7 Sn4 (by rw [e7]; exact hk4) (by rw [e7]; exact CH4) hZ hEL hx hlk Bd.returns rfl rfl (hb hby d7_31) ⟨(by unfold own_val; rw [if_pos hc12_3, if_neg hc25_6]), N5, (by rw [e7]; exact K4)⟩ (by decide) (by decide)
  · skip
    refine GoesH.st (B := T2.setTop (mkF m 15 #[rv x0] [])) (fun t k => ?_) ?_
    · refine XS.ifNo X2.here hx rfl (hb hby d7_12) rfl ((if0 _ _).trans (feq hc12_3).1) ?_
      exact k
    have S_NULL := SN.ext Od1.2
    obtain ⟨T8, X8, e8, st8⟩ := getS2 X2 hx hZ hown (host := "") (Or.inl w_82) Via.refl e2 S_NULL (g := (mkF m 15 #[rv x0] [])) rfl (hb hby d7_15)
    refine GoesH.st (B := T8.setTop (mkF m 18 #[rv x0] [(.ref cA)])) st8 ?_
    exact GoesH.retR X8 Sn1 (by rw [e8]; exact hk1) (by rw [e8]; exact CH1) hZ hEL hx hlk Bd.returns rfl rfl (hb hby d7_18) ⟨(by unfold own_val; rw [if_neg hc12_3]), N2, (by rw [e8]; exact K1)⟩ (by decide) (by decide)
theorem d7_5 : decode method_4_code 5 = .ok (.areturn, 1) := by decide +kernel
theorem pnH : plainName "com/example/upcaster/upcaster/io/CodecNamedPinLaw" = true := by first | (simp [plainName, overriddenIn]; done) | decide +kernel
theorem efH (m : MethodId)  : entryFrame m #[.null] 1 = (mkF m 0 #[.val .null] []) := by first | (simp [entryFrame, mkF, argsToLocals, Value.category]; done) | rfl
set_option maxRecDepth 65536 in
set_option maxHeartbeats 40000000 in
theorem rmH (l : Launch) (Z : State) (a0 : Array Value) (hw : ∀ d ∈ tables_1, d.before a0 Z = true) (ws : List Jvm.Cond)  (h0 : Heap) (n0 : Nat) (Z0 : n0 ≤ h0.size) :
    MetFree l ym8 (head1 (Jvm.Cond.code ym8 method_4_code 1 (some (.object "com/example/upcaster/upcaster/io/Codec")) :: ws) ({ frames := 0, cells := 0, slots := 0, locals := 0 } : Room)) (fun a U => a = #[.null] ∧ Z.Warmed39 U.vm ∧ U.heap = h0) (fun _ _ _ _ _ => True) (fun _ U o U' => ∃ v L, o = .returned v ∧ (QP (some .null) h0 n0) v U'.heap L ∧ FrameEnd U o U' L ({ frames := 0, cells := 0, slots := 0, locals := 0 } : Room).cells ({ frames := 0, cells := 0, slots := 0, locals := 0 } : Room).slots) := by
  refine MetFree.of_bodySF (plainFor_of_name pnH) hisR ?_
  intro p e s m args below meth c s₁ Bd hml0 hP hK
  obtain ⟨rfl, hZ, hh⟩ := hP
  have hx := Bd.exec
  have hby := Bd.bytes
  have hml : c.maxLocals = 1 := hml0
  have hlk : meth.locks = false := BodyLoose.notSynchronized Bd
  have hown : s.vm.findClass "com/example/upcaster/upcaster/io/CodecNamedPinLaw" = some m.cls := findClass_of_methodNamed Bd.named
  have hnm := (name_of_methodNamed Bd.named Bd.method).1
  have w_38 := hw _ (List.mem_of_getElem? (i := 38) rfl)
  have hci : ∀ i v, (i, v) ∈ ([] : List (Nat × Int32)) → (Jvm.Cond.constant "com/example/upcaster/upcaster/io/CodecNamedPinLaw" i v).before #[.null] s = true := own_ci0
  have hcl : ∀ i v, (i, v) ∈ ([(45, 255)] : List (Nat × Int64)) → (Jvm.Cond.constantLong "com/example/upcaster/upcaster/io/CodecNamedPinLaw" i v).before #[.null] s = true := (own_ciS (mvT hZ w_38) own_ci0)
  have X0 : Stand p l e ({ frames := 0, cells := 0, slots := 0, locals := 0 } : Room) s m #[.null] below meth c s₁ [] 0 0 := Stand.of_body Bd
  have e0 : s₁.heap = h0 := by rw [← hh, Bd.state]; rfl
  have N0 := Fr.nil n0
  show Goes p e below s (QP (some .null) h0 n0) ({ frames := 0, cells := 0, slots := 0, locals := 0 } : Room).cells ({ frames := 0, cells := 0, slots := 0, locals := 0 } : Room).slots (s₁.setTop (entryFrame m #[.null] 1))
  refine Goes.cast (efH m ) ?_
  refine Goes.run X0 hx hown hci hcl hby (L := [(0, .aload_n 0, 1)]) (by decide +kernel) rfl (g' := (mkF m 1 #[.val .null] [.null])) rfl ?_
  refine Goes.st (B := s₁.setTop (mkF m 4 #[.val .null] [])) (fun t k => ?_) ?_
  · refine Jvm.Free.XT.ifnonnullNo X0.here hx rfl (hb hby d7_1) rfl ?_
    exact k
  refine Goes.run X0 hx hown hci hcl hby (L := [(4, .aconst_null, 1)]) (by decide +kernel) rfl (g' := (mkF m 5 #[.val .null] [.null])) rfl ?_
  exact Goes.retR X0 hx hlk Bd.returns rfl rfl (hb hby d7_5) ⟨rfl, N0, e0⟩ (by decide) (by decide)
theorem d8_0 : decode prog_8_method_1_code 0 = .ok (.getstatic 10, 3) := by decide +kernel
theorem d8_3 : decode prog_8_method_1_code 3 = .ok (.invokevirtual 14, 3) := by decide +kernel
theorem d8_6 : decode prog_8_method_1_code 6 = .ok (.checkcast 15, 3) := by decide +kernel
theorem d8_9 : decode prog_8_method_1_code 9 = .ok (.areturn, 1) := by decide +kernel
theorem pnI : plainName "com/example/upcaster/upcaster/io/Codec" = true := by first | (simp [plainName, overriddenIn]; done) | decide +kernel
theorem efI (m : MethodId)  : entryFrame m #[] 0 = (mkF m 0 #[] []) := by first | (simp [entryFrame, mkF, argsToLocals, Value.category]; done) | rfl
def QI (Z : State) (va : Addr) (kva : ClassId) (cA : Addr) (cB : Addr) (h0 : Heap) (n0 : Nat) (v : Option Value) (h : Heap) (L : List Loc) : Prop := ∃ (nv : Addr) (k_nv : ClassId), v = some (.ref nv) ∧ Fr n0 L ∧ Keep h0 h [] ∧ h0.size ≤ nv ∧ Exa Z h nv "[Lcom/example/upcaster/upcaster/io/Codec;" ∧ Arv Z h nv k_nv (.object "com/example/upcaster/upcaster/io/Codec") (2 : Int32) [(.ref cA), (.ref cB)] .null
set_option maxRecDepth 65536 in
set_option maxHeartbeats 40000000 in
theorem rmI (l : Launch) (Z : State) (a0 : Array Value) (hw : ∀ d ∈ tables_1, d.before a0 Z = true) (ws : List Jvm.Cond) (va : Addr) (kva : ClassId) (cA : Addr) (cB : Addr) (h0 : Heap) (n0 : Nat) (Z0 : n0 ≤ h0.size) (E_va : Exa Z h0 va "[Lcom/example/upcaster/upcaster/io/Codec;") (V_va : Arv Z h0 va kva (.object "com/example/upcaster/upcaster/io/Codec") (2 : Int32) [(.ref cA), (.ref cB)] .null) (O0 : Old Z n0 h0) (SV : Sta Z Z.heap "com/example/upcaster/upcaster/io/Codec" "$VALUES" "[Lcom/example/upcaster/upcaster/io/Codec;" (.ref va)) :
    MetFree l ym9 (head1 (Jvm.Cond.code ym9 prog_8_method_1_code 0 (some (.array (.object "com/example/upcaster/upcaster/io/Codec"))) :: ws) ({ frames := 1, cells := 1, slots := 2, locals := 14 } : Room)) (fun a U => a = #[] ∧ Z.Warmed39 U.vm ∧ U.heap = h0) (fun _ _ _ _ _ => True) (fun _ U o U' => ∃ v L, o = .returned v ∧ (QI Z va kva cA cB h0 n0) v U'.heap L ∧ FrameEnd U o U' L ({ frames := 1, cells := 1, slots := 2, locals := 14 } : Room).cells ({ frames := 1, cells := 1, slots := 2, locals := 14 } : Room).slots) := by
  refine MetFree.of_bodySF (plainFor_of_name pnI) hisR ?_
  intro p e s m args below meth c s₁ Bd hml0 hP hK
  obtain ⟨rfl, hZ, hh⟩ := hP
  have hx := Bd.exec
  have hby := Bd.bytes
  have hml : c.maxLocals = 0 := hml0
  have hlk : meth.locks = false := BodyLoose.notSynchronized Bd
  have hown : s.vm.findClass "com/example/upcaster/upcaster/io/Codec" = some m.cls := findClass_of_methodNamed Bd.named
  have hnm := (name_of_methodNamed Bd.named Bd.method).1
  have w_91 := hw _ (List.mem_of_getElem? (i := 91) rfl)
  have w_93 := hw _ (List.mem_of_getElem? (i := 93) rfl)
  have w_94 := hw _ (List.mem_of_getElem? (i := 94) rfl)
  have w_96 := hw _ (List.mem_of_getElem? (i := 96) rfl)
  have w_97 := hw _ (List.mem_of_getElem? (i := 97) rfl)
  have w_98 := hw _ (List.mem_of_getElem? (i := 98) rfl)
  have w_99 := hw _ (List.mem_of_getElem? (i := 99) rfl)
  have w_101 := hw _ (List.mem_of_getElem? (i := 101) rfl)
  have hci : ∀ i v, (i, v) ∈ ([] : List (Nat × Int32)) → (Jvm.Cond.constant "com/example/upcaster/upcaster/io/Codec" i v).before #[] s = true := own_ci0
  have hcl : ∀ i v, (i, v) ∈ ([] : List (Nat × Int64)) → (Jvm.Cond.constantLong "com/example/upcaster/upcaster/io/Codec" i v).before #[] s = true := own_ci0
  have X0 : Stand p l e ({ frames := 1, cells := 1, slots := 2, locals := 14 } : Room) s m #[] below meth c s₁ [] 0 0 := Stand.of_body Bd
  have e0 : s₁.heap = h0 := by rw [← hh, Bd.state]; rfl
  have N0 := Fr.nil n0
  show Goes p e below s (QI Z va kva cA cB h0 n0) ({ frames := 1, cells := 1, slots := 2, locals := 14 } : Room).cells ({ frames := 1, cells := 1, slots := 2, locals := 14 } : Room).slots (s₁.setTop (entryFrame m #[] 0))
  refine Goes.cast (efI m ) ?_
  have K0 : Keep h0 h0 [] := Keep.refl h0 _
  have S__VALUES := SV.ext O0.2
  obtain ⟨T1, X1, e1, st1⟩ := getS2 X0 hx hZ hown (host := "") (Or.inl w_91) Via.refl e0 S__VALUES (g := (mkF m 0 #[] [])) rfl (hb hby d8_0)
  refine Goes.st (B := T1.setTop (mkF m 3 #[] [(.ref va)])) st1 ?_
  obtain ⟨T2, h2, X2, e2, E2, A2, B2, st2⟩ := cloneH X1 hx hZ hown w_93 w_94 w_98 w_96 w_97 w_99 e1 V_va.arh E_va (g := (mkF m 3 #[] [(.ref va)])) rfl (by rw [hml]; rfl) rfl (hb hby d8_3) (by decide) (W := 0) (cap := 2) (by show 2 * 0 + _ ≤ _; exact Nat.le_of_eq rfl) (by decide) (by decide) (by decide) (by decide)
  obtain ⟨b2, g2⟩ : ∃ z, z = h0.size := ⟨_, rfl⟩
  rw [← g2] at A2 B2 st2
  have ne_va_b2 : va ≠ b2 := Nat.ne_of_lt (Nat.lt_of_lt_of_le E_va.lt (Nat.le_of_eq g2.symm))
  have g_b2 : n0 ≤ b2 := Nat.le_trans Z0 (Nat.le_of_eq g2.symm)
  have sz_b2 : h0.size ≤ b2 := Nat.le_trans K0.1 (Nat.le_of_eq g2.symm)
  have E_va := E_va.ext E2
  have V_va := V_va.ext E2
  have Zn2 : n0 ≤ h2.size := Nat.le_trans Z0 E2.1
  have K2 := K0.ext E2
  have Od2 := O0.ext E2
  have E_b2 : Exa Z h2 b2 "[Lcom/example/upcaster/upcaster/io/Codec;" := B2
  have V_b2 : Arv Z h2 b2 kva (.object "com/example/upcaster/upcaster/io/Codec") (2 : Int32) [(.ref cA), (.ref cB)] .null := A2
  refine Goes.st (B := T2.setTop (mkF m 6 #[] [(.ref b2)])) st2 ?_
  obtain ⟨T3, X3, e3, st3⟩ := castY X2 hx hZ hown w_101 e2 (Ins.self E_b2) (g := (mkF m 6 #[] [(.ref b2)])) rfl rfl (hb hby d8_6)
  refine Goes.st (B := T3.setTop (mkF m 9 #[] [(.ref b2)])) st3 ?_
  refine Goes.retR X3 hx hlk Bd.returns rfl rfl (hb hby d8_9) ?_ (by decide) (by decide)
  show (QI Z va kva cA cB h0 n0) _ _ _
  rw [e3]
  exact ⟨b2, kva, rfl, N0, K2, sz_b2, E_b2, V_b2⟩
theorem d9_2 : decode jdk_42_method_66_code 2 = .ok (.if_acmp .ne 5, 3) := by decide +kernel
theorem d9_8 : decode jdk_42_method_66_code 8 = .ok (.instanceof 10, 3) := by decide +kernel
theorem d9_11 : decode jdk_42_method_66_code 11 = .ok (.ifCond .eq 43, 3) := by decide +kernel
theorem d9_55 : decode jdk_42_method_66_code 55 = .ok (.ireturn, 1) := by decide +kernel
theorem pnJ : plainName "java/lang/String" = true := by first | (simp [plainName, overriddenIn]; done) | decide +kernel
theorem efJ (m : MethodId) (x0 : Addr) : entryFrame m #[(.ref x0), .null] 3 = (mkF m 0 #[rv x0, .val .null, .unset] []) := by first | (simp [entryFrame, mkF, argsToLocals, Value.category]; done) | rfl
def rJ  : Int32 := (0 : Int32)
set_option maxRecDepth 65536 in
set_option maxHeartbeats 40000000 in
theorem rmJ (l : Launch) (Z : State) (a0 : Array Value) (hw : ∀ d ∈ tables_1, d.before a0 Z = true) (ws : List Jvm.Cond) (x0 : Addr) (h0 : Heap) (n0 : Nat) (Z0 : n0 ≤ h0.size) :
    MetFree l ym7 (head1 (Jvm.Cond.code ym7 jdk_42_method_66_code 3 (some .boolean) :: ws) ({ frames := 0, cells := 0, slots := 0, locals := 0 } : Room)) (fun a U => a = #[(.ref x0), .null] ∧ Z.Warmed39 U.vm ∧ U.heap = h0) (fun _ _ _ _ _ => True) (fun _ U o U' => ∃ v L, o = .returned v ∧ (QP (some (.int (rJ ))) h0 n0) v U'.heap L ∧ FrameEnd U o U' L ({ frames := 0, cells := 0, slots := 0, locals := 0 } : Room).cells ({ frames := 0, cells := 0, slots := 0, locals := 0 } : Room).slots) := by
  refine MetFree.of_bodySF (plainFor_of_name pnJ) hisR ?_
  intro p e s m args below meth c s₁ Bd hml0 hP hK
  obtain ⟨rfl, hZ, hh⟩ := hP
  have hx := Bd.exec
  have hby := Bd.bytes
  have hml : c.maxLocals = 3 := hml0
  have hlk : meth.locks = false := BodyLoose.notSynchronized Bd
  have hown : s.vm.findClass "java/lang/String" = some m.cls := findClass_of_methodNamed Bd.named
  have hnm := (name_of_methodNamed Bd.named Bd.method).1
  have hci : ∀ i v, (i, v) ∈ ([] : List (Nat × Int32)) → (Jvm.Cond.constant "java/lang/String" i v).before #[(.ref x0), .null] s = true := own_ci0
  have hcl : ∀ i v, (i, v) ∈ ([] : List (Nat × Int64)) → (Jvm.Cond.constantLong "java/lang/String" i v).before #[(.ref x0), .null] s = true := own_ci0
  have X0 : Stand p l e ({ frames := 0, cells := 0, slots := 0, locals := 0 } : Room) s m #[(.ref x0), .null] below meth c s₁ [] 0 0 := Stand.of_body Bd
  have e0 : s₁.heap = h0 := by rw [← hh, Bd.state]; rfl
  have N0 := Fr.nil n0
  show Goes p e below s (QP (some (.int (rJ ))) h0 n0) ({ frames := 0, cells := 0, slots := 0, locals := 0 } : Room).cells ({ frames := 0, cells := 0, slots := 0, locals := 0 } : Room).slots (s₁.setTop (entryFrame m #[(.ref x0), .null] 3))
  refine Goes.cast (efJ m x0) ?_
  refine Goes.run X0 hx hown hci hcl hby (L := [(0, .aload_n 0, 1), (1, .aload_n 1, 1)]) (by decide +kernel) rfl (g' := (mkF m 2 #[rv x0, .val .null, .unset] [.null, (.ref x0)])) rfl ?_
  refine Goes.st (B := s₁.setTop (mkF m 7 #[rv x0, .val .null, .unset] [])) (fun t k => ?_) ?_
  · refine Jvm.RoadKit.acmp (g := (mkF m 2 #[rv x0, .val .null, .unset] [.null, (.ref x0)])) X0 hx rfl rfl rfl (pc0 := 2) (pc' := 7) (same := false) rfl (hb hby d9_2) rfl (decide_eq_false nofun) (by decide) (by decide) ?_
    exact k
  refine Goes.run X0 hx hown hci hcl hby (L := [(7, .aload_n 1, 1)]) (by decide +kernel) rfl (g' := (mkF m 8 #[rv x0, .val .null, .unset] [.null])) rfl ?_
  refine Goes.st (B := s₁.setTop (mkF m 11 #[rv x0, .val .null, .unset] [(.int (0 : Int32))])) (X0.instanceofNull hx (g := (mkF m 8 #[rv x0, .val .null, .unset] [.null])) rfl rfl (hb hby d9_8)) ?_
  have hc11_2 : (0 : Int32) = (0 : Int32) := rfl
  refine Goes.st (B := s₁.setTop (mkF m 54 #[rv x0, .val .null, .unset] [])) (fun t k => ?_) ?_
  · refine XS.ifYes X0.here hx rfl (pc0 := 11) (pc' := 54) rfl (hb hby d9_11) rfl ((if0 _ _).trans (teq hc11_2).1) (by decide) (by decide) ?_
    exact k
  refine Goes.run X0 hx hown hci hcl hby (L := [(54, .iconst 0, 1)]) (by decide +kernel) rfl (g' := (mkF m 55 #[rv x0, .val .null, .unset] [(.int (0 : Int32))])) rfl ?_
  exact Goes.retB X0 hx hlk (t := .boolean) Bd.returns (by simp) (hb hby d9_55) rfl ⟨(congrArg (fun z => some (Value.int z)) (show (rJ ) = (0 : Int32) from rfl).symm), N0, e0⟩ (by decide) (by decide)
theorem d10_0 : decode prog_8_method_5_code 0 = .ok (.invokestatic 33, 3) := by decide +kernel
theorem d10_5 : decode prog_8_method_5_code 5 = .ok (.arraylength, 1) := by decide +kernel
theorem d10_11 : decode prog_8_method_5_code 11 = .ok (.if_icmp .ge 29, 3) := by decide +kernel
theorem d10_16 : decode prog_8_method_5_code 16 = .ok (.aaload, 1) := by decide +kernel
theorem d10_21 : decode prog_8_method_5_code 21 = .ok (.getfield 29, 3) := by decide +kernel
theorem d10_25 : decode prog_8_method_5_code 25 = .ok (.invokevirtual 37, 3) := by decide +kernel
theorem d10_28 : decode prog_8_method_5_code 28 = .ok (.ifCond .eq 6, 3) := by decide +kernel
theorem d10_33 : decode prog_8_method_5_code 33 = .ok (.areturn, 1) := by decide +kernel
theorem d10_41 : decode prog_8_method_5_code 41 = .ok (.areturn, 1) := by decide +kernel
theorem pnK : plainName "com/example/upcaster/upcaster/io/Codec" = true := by first | (simp [plainName, overriddenIn]; done) | decide +kernel
theorem pdK_0 : parseMethodDescriptor "()[Lcom/example/upcaster/upcaster/io/Codec;" = some ⟨[], some (.array (.object "com/example/upcaster/upcaster/io/Codec"))⟩ := by decide +kernel
theorem pdK_1 : parseMethodDescriptor "(Ljava/lang/Object;)Z" = some ⟨[(.object "java/lang/Object")], some .boolean⟩ := by decide +kernel
theorem efK (m : MethodId) (x0 : Addr) : entryFrame m #[(.ref x0)] 5 = (mkF m 0 #[rv x0, .unset, .unset, .unset, .unset] []) := by first | (simp [entryFrame, mkF, argsToLocals, Value.category]; done) | rfl
set_option maxRecDepth 65536 in
set_option maxHeartbeats 40000000 in
theorem rmK (l : Launch) (Z : State) (a0 : Array Value) (hw : ∀ d ∈ tables_1, d.before a0 Z = true) (ws : List Jvm.Cond) (x0 : Addr) (va : Addr) (kva : ClassId) (cA : Addr) (cB : Addr) (wA : Addr) (tA : Addr) (kA : ClassId) (wB : Addr) (tB : Addr) (kB : ClassId) (tS : Addr) (kS : ClassId) (cs : List Int32) (G1 : Int32) (G3 : Value) (h0 : Heap) (n0 : Nat) (Z0 : n0 ≤ h0.size) (E_va : Exa Z h0 va "[Lcom/example/upcaster/upcaster/io/Codec;") (V_va : Arv Z h0 va kva (.object "com/example/upcaster/upcaster/io/Codec") (2 : Int32) [(.ref cA), (.ref cB)] .null) (F_headerName_cA : Fld Z h0 cA "com/example/upcaster/upcaster/io/Codec" "headerName" "Ljava/lang/String;" (.ref wA)) (F_headerName_cB : Fld Z h0 cB "com/example/upcaster/upcaster/io/Codec" "headerName" "Ljava/lang/String;" (.ref wB)) (E_wA : Exa Z h0 wA "java/lang/String") (F_coder_wA : Fld Z h0 wA "java/lang/String" "coder" "B" (.int (0 : Int32))) (F_value_wA : Fld Z h0 wA "java/lang/String" "value" "[B" (.ref tA)) (V_tA : Arv Z h0 tA kA .byte (4 : Int32) ((([110, 117, 108, 108] : List Int32).map (fun c => c.toInt8.toInt32)).map Value.int) (.int (0 : Int32))) (E_wB : Exa Z h0 wB "java/lang/String") (F_coder_wB : Fld Z h0 wB "java/lang/String" "coder" "B" (.int (0 : Int32))) (F_value_wB : Fld Z h0 wB "java/lang/String" "value" "[B" (.ref tB)) (V_tB : Arv Z h0 tB kB .byte (7 : Int32) ((([100, 101, 102, 108, 97, 116, 101] : List Int32).map (fun c => c.toInt8.toInt32)).map Value.int) (.int (0 : Int32))) (E_x0 : Exa Z h0 x0 "java/lang/String") (F_coder_x0 : Fld Z h0 x0 "java/lang/String" "coder" "B" (.int (0 : Int32))) (F_value_x0 : Fld Z h0 x0 "java/lang/String" "value" "[B" (.ref tS)) (V_tS : Arv Z h0 tS kS .byte (Int32.ofNat cs.length) ((cs.map (fun c => c.toInt8.toInt32)).map Value.int) (.int (0 : Int32))) (O0 : Old Z n0 h0) (O2 : Sta Z Z.heap "java/lang/String" "COMPACT_STRINGS" "Z" (.int G1)) (O4 : Sta Z Z.heap "jdk/internal/util/Preconditions" "SIOOBE_FORMATTER" "Ljava/util/function/BiFunction;" G3) (P5 : ¬ G1 = 0) (rG3 : G3.isRef = true) (SV : Sta Z Z.heap "com/example/upcaster/upcaster/io/Codec" "$VALUES" "[Lcom/example/upcaster/upcaster/io/Codec;" (.ref va)) (hpS : ∀ c ∈ cs, ¬ c < 0 ∧ ¬ (255 : Int32) < c) (hlS : cs.length ≤ 4000) :
    MetFree l ym10 (head1 (Jvm.Cond.code ym10 prog_8_method_5_code 5 (some (.object "com/example/upcaster/upcaster/io/Codec")) :: ws) ({ frames := 2, cells := 1, slots := 2, locals := 28 } : Room)) (fun a U => a = #[(.ref x0)] ∧ Z.Warmed39 U.vm ∧ U.heap = h0) (fun _ _ _ _ _ => True) (fun _ U o U' => ∃ v L, o = .returned v ∧ (QH (some (own_val cA cB (own_eqr ([110, 117, 108, 108] : List Int32) cs) (own_eqr ([100, 101, 102, 108, 97, 116, 101] : List Int32) cs))) h0 n0) v U'.heap L ∧ FrameEnd U o U' L ({ frames := 2, cells := 1, slots := 2, locals := 28 } : Room).cells ({ frames := 2, cells := 1, slots := 2, locals := 28 } : Room).slots) := by
  refine MetFree.of_bodySF (plainFor_of_name pnK) hisR ?_
  intro p e s m args below meth c s₁ Bd hml0 hP hK
  obtain ⟨rfl, hZ, hh⟩ := hP
  have hx := Bd.exec
  have hby := Bd.bytes
  have hml : c.maxLocals = 5 := hml0
  have hlk : meth.locks = false := BodyLoose.notSynchronized Bd
  have hown : s.vm.findClass "com/example/upcaster/upcaster/io/Codec" = some m.cls := findClass_of_methodNamed Bd.named
  have hnm := (name_of_methodNamed Bd.named Bd.method).1
  have w_7 := hw _ (List.mem_of_getElem? (i := 7) rfl)
  have w_74 := hw _ (List.mem_of_getElem? (i := 74) rfl)
  have w_75 := hw _ (List.mem_of_getElem? (i := 75) rfl)
  have w_76 := hw _ (List.mem_of_getElem? (i := 76) rfl)
  have w_83 := hw _ (List.mem_of_getElem? (i := 83) rfl)
  have w_88 := hw _ (List.mem_of_getElem? (i := 88) rfl)
  have w_89 := hw _ (List.mem_of_getElem? (i := 89) rfl)
  have w_90 := hw _ (List.mem_of_getElem? (i := 90) rfl)
  have w_103 := hw _ (List.mem_of_getElem? (i := 103) rfl)
  have w_105 := hw _ (List.mem_of_getElem? (i := 105) rfl)
  have hci : ∀ i v, (i, v) ∈ ([] : List (Nat × Int32)) → (Jvm.Cond.constant "com/example/upcaster/upcaster/io/Codec" i v).before #[(.ref x0)] s = true := own_ci0
  have hcl : ∀ i v, (i, v) ∈ ([] : List (Nat × Int64)) → (Jvm.Cond.constantLong "com/example/upcaster/upcaster/io/Codec" i v).before #[(.ref x0)] s = true := own_ci0
  have X0 : Stand p l e ({ frames := 2, cells := 1, slots := 2, locals := 28 } : Room) s m #[(.ref x0)] below meth c s₁ [] 0 0 := Stand.of_body Bd
  have e0 : s₁.heap = h0 := by rw [← hh, Bd.state]; rfl
  have N0 := Fr.nil n0
  show Goes p e below s (QH (some (own_val cA cB (own_eqr ([110, 117, 108, 108] : List Int32) cs) (own_eqr ([100, 101, 102, 108, 97, 116, 101] : List Int32) cs))) h0 n0) ({ frames := 2, cells := 1, slots := 2, locals := 28 } : Room).cells ({ frames := 2, cells := 1, slots := 2, locals := 28 } : Room).slots (s₁.setTop (entryFrame m #[(.ref x0)] 5))
  refine Goes.cast (efK m x0) ?_
  have K0 : Keep h0 h0 [] := Keep.refl h0 _
  obtain ⟨_, _, ⟨T1, L1, k1, n1⟩, -, X1, ⟨Lc1, hQ1, l1, y1, z1⟩, st1⟩ := Jvm.LawKit.callS X0 hx (y := ym9) hown (mvT hZ w_88) (mvT hZ w_89) (mvT hZ w_83) (mvT hZ w_90) (by decide) (backOf (W := 0) (rmI l Z a0 hw [] va kva cA cB h0 n0 Z0 E_va V_va O0 SV) hZ w_90 w_83 (by decide) (by decide)) (g := (mkF m 0 #[rv x0, .unset, .unset, .unset, .unset] [])) rfl (by rw [hml]; rfl) (argsL := []) (rest := []) (lenOf pdK_0 rfl) rfl (by show 2 * 0 + _ ≤ _; exact Nat.le_of_eq rfl) (hb hby d10_0) (fun _ _ => ⟨rfl, e0, (by decide : 0 + 1 ≤ _), (by decide : 0 + 2 ≤ _)⟩)
  dsimp only [Pt.U, Pt.locs, Pt.cells, Pt.slots] at X1 l1 y1 z1 st1 hQ1
  subst l1 y1 z1
  obtain ⟨h1, eh1⟩ : ∃ z, z = T1.heap := ⟨_, rfl⟩
  rw [← eh1] at hQ1
  have e1 : T1.heap = h1 := eh1.symm
  obtain ⟨nv1, k_nv1, rfl, N1q, Kq1, sq_nv1, o1_0, o1_1⟩ := hQ1
  have ne_cA_nv1 : cA ≠ nv1 := Nat.ne_of_lt (Nat.lt_of_lt_of_le F_headerName_cA.lt sq_nv1)
  have ne_cB_nv1 : cB ≠ nv1 := Nat.ne_of_lt (Nat.lt_of_lt_of_le F_headerName_cB.lt sq_nv1)
  have ne_tA_nv1 : tA ≠ nv1 := Nat.ne_of_lt (Nat.lt_of_lt_of_le V_tA.lt sq_nv1)
  have ne_tB_nv1 : tB ≠ nv1 := Nat.ne_of_lt (Nat.lt_of_lt_of_le V_tB.lt sq_nv1)
  have ne_tS_nv1 : tS ≠ nv1 := Nat.ne_of_lt (Nat.lt_of_lt_of_le V_tS.lt sq_nv1)
  have ne_va_nv1 : va ≠ nv1 := Nat.ne_of_lt (Nat.lt_of_lt_of_le E_va.lt sq_nv1)
  have ne_wA_nv1 : wA ≠ nv1 := Nat.ne_of_lt (Nat.lt_of_lt_of_le E_wA.lt sq_nv1)
  have ne_wB_nv1 : wB ≠ nv1 := Nat.ne_of_lt (Nat.lt_of_lt_of_le E_wB.lt sq_nv1)
  have ne_x0_nv1 : x0 ≠ nv1 := Nat.ne_of_lt (Nat.lt_of_lt_of_le E_x0.lt sq_nv1)
  have g_nv1 : n0 ≤ nv1 := Nat.le_trans Z0 sq_nv1
  have sz_nv1 : h0.size ≤ nv1 := Nat.le_trans K0.1 sq_nv1
  have N1 := Fr.app N0 N1q
  have E_va := E_va.keep Kq1
  have V_va := V_va.keep Kq1 nin0
  have F_headerName_cA := F_headerName_cA.keep Kq1 nin0
  have F_headerName_cB := F_headerName_cB.keep Kq1 nin0
  have E_wA := E_wA.keep Kq1
  have F_coder_wA := F_coder_wA.keep Kq1 nin0
  have F_value_wA := F_value_wA.keep Kq1 nin0
  have V_tA := V_tA.keep Kq1 nin0
  have E_wB := E_wB.keep Kq1
  have F_coder_wB := F_coder_wB.keep Kq1 nin0
  have F_value_wB := F_value_wB.keep Kq1 nin0
  have V_tB := V_tB.keep Kq1 nin0
  have E_x0 := E_x0.keep Kq1
  have F_coder_x0 := F_coder_x0.keep Kq1 nin0
  have F_value_x0 := F_value_x0.keep Kq1 nin0
  have V_tS := V_tS.keep Kq1 nin0
  have Zn1 : n0 ≤ h1.size := Nat.le_trans Z0 Kq1.1
  have K1 := K0.trans Kq1 (all0)
  have Od1 := O0.keep Kq1 all0
  have E_nv1 : Exa Z h1 nv1 "[Lcom/example/upcaster/upcaster/io/Codec;" := o1_0
  have V_nv1 : Arv Z h1 nv1 k_nv1 (.object "com/example/upcaster/upcaster/io/Codec") (2 : Int32) [(.ref cA), (.ref cB)] .null := o1_1
  refine Goes.st (B := T1.setTop (mkF m 3 #[rv x0, .unset, .unset, .unset, .unset] [(.ref nv1)])) st1 ?_
  refine Goes.run X1 hx hown hci hcl hby (L := [(3, .astore_n 1, 1), (4, .aload_n 1, 1)]) (by decide +kernel) rfl (g' := (mkF m 5 #[rv x0, rv nv1, .unset, .unset, .unset] [(.ref nv1)])) rfl ?_
  obtain ⟨cl2, Ar2, q2, S2, M2, Hs2, G2⟩ := id V_nv1
  refine Goes.st (B := T1.setTop (mkF m 6 #[rv x0, rv nv1, .unset, .unset, .unset] [(.int (2 : Int32))])) (fun t k => ?_) ?_
  · refine X1.arraylength hx (cell := cl2) (by rw [e1]; exact Ar2.1) (State.isArrayOf_alike hZ.alike Ar2.2.1) (g := (mkF m 5 #[rv x0, rv nv1, .unset, .unset, .unset] [(.ref nv1)])) rfl (rest := []) rfl (hb hby d10_5) _ ?_
    rw [len_of S2 M2]
    exact k
  refine Goes.run X1 hx hown hci hcl hby (L := [(6, .istore_n 2, 1), (7, .iconst 0, 1), (8, .istore_n 3, 1), (9, .iload_n 3, 1), (10, .iload_n 2, 1)]) (by decide +kernel) rfl (g' := (mkF m 11 #[rv x0, rv nv1, iv (2 : Int32), iv (0 : Int32), .unset] [(.int (2 : Int32)), (.int (0 : Int32))])) rfl ?_
  have hc11_3 : (0 : Int32) < (2 : Int32) := by decide
  refine Goes.st (B := T1.setTop (mkF m 14 #[rv x0, rv nv1, iv (2 : Int32), iv (0 : Int32), .unset] [])) (fun t k => ?_) ?_
  · refine XS.icmpNo X1.here hx rfl (hb hby d10_11) rfl (tlt hc11_3).2.1 ?_
    exact k
  refine Goes.run X1 hx hown hci hcl hby (L := [(14, .aload_n 1, 1), (15, .iload_n 3, 1)]) (by decide +kernel) rfl (g' := (mkF m 16 #[rv x0, rv nv1, iv (2 : Int32), iv (0 : Int32), .unset] [(.int (0 : Int32)), (.ref nv1)])) rfl ?_
  obtain ⟨cl4, Ar4, q4, S4, M4, Hs4, G4⟩ := id V_nv1
  have hin4 : ¬ ((0 : Int32) < 0 ∨ cl4.slots.size ≤ ((0 : Int32)).toNatClampNeg) := inb_of S4 ⟨(by decide), (by decide)⟩
  have hat4 : cl4.slots[((0 : Int32)).toNatClampNeg]? = some (.ref cA) := Hs4.at hin4 rfl
  refine Goes.st (B := T1.setTop (mkF m 17 #[rv x0, rv nv1, iv (2 : Int32), iv (0 : Int32), .unset] [(.ref cA)])) (X1.aaload hx (j := (0 : Int32)) (v := (.ref cA)) (by rw [e1]; exact Ar4.1) (State.isArrayOf_alike hZ.alike Ar4.2.1) rfl Ar4.2.2 hin4 hat4 (g := (mkF m 16 #[rv x0, rv nv1, iv (2 : Int32), iv (0 : Int32), .unset] [(.int (0 : Int32)), (.ref nv1)])) rfl rfl (hb hby d10_16)) ?_
  refine Goes.run X1 hx hown hci hcl hby (L := [(17, .astore 4, 2), (19, .aload 4, 2)]) (by decide +kernel) rfl (g' := (mkF m 21 #[rv x0, rv nv1, iv (2 : Int32), iv (0 : Int32), rv cA] [(.ref cA)])) rfl ?_
  obtain ⟨T5, X5, e5, st5⟩ := getF X1 hx hZ hown (host := "") (Or.inl w_103) Via.refl e1 F_headerName_cA (g := (mkF m 21 #[rv x0, rv nv1, iv (2 : Int32), iv (0 : Int32), rv cA] [(.ref cA)])) rfl rfl (hb hby d10_21)
  refine Goes.st (B := T5.setTop (mkF m 24 #[rv x0, rv nv1, iv (2 : Int32), iv (0 : Int32), rv cA] [(.ref wA)])) st5 ?_
  refine Goes.run X5 hx hown hci hcl hby (L := [(24, .aload_n 0, 1)]) (by decide +kernel) rfl (g' := (mkF m 25 #[rv x0, rv nv1, iv (2 : Int32), iv (0 : Int32), rv cA] [(.ref x0), (.ref wA)])) rfl ?_
  have hcd_wA : StrChars.Road.CodA ([110, 117, 108, 108] : List Int32) 0 (4 : Int32) ((([110, 117, 108, 108] : List Int32).map (fun c => c.toInt8.toInt32)).map Value.int) := StrChars.Road.codOf (n := 4) rfl (fun c hc => (own_hN c hc).2)
  have hbd_wA := own_up own_hN
  have hcd_x0 : StrChars.Road.CodA cs 0 (Int32.ofNat cs.length) ((cs.map (fun c => c.toInt8.toInt32)).map Value.int) := StrChars.Road.codOf (n := cs.length) rfl (fun c hc => (hpS c hc).2)
  have hbd_x0 := own_up hpS
  obtain ⟨cq6, kq6, q6a, q6b, q6c⟩ := isOf hZ e5 E_wA
  obtain ⟨_, _, ⟨T6, L6, k6, n6⟩, -, X6, ⟨Lc6, hQ6, l6, y6, z6⟩, st6⟩ := X5.virtualBack hx (y := ym7) (z := ym7) hown (mvT hZ w_105) (mvT hZ w_74) (notFace_of_selects (args := #[]) (mvT hZ w_76)) (mvT hZ w_76) (mvT hZ w_75) (by decide) (StrChars.Road.eqW (W := 0) hZ (own_heq hw) (kI := 4) w_7 E_wA F_value_wA F_coder_wA V_tA hcd_wA hbd_wA (Nat.le_of_ble_eq_true rfl) E_x0 F_value_x0 F_coder_x0 V_tS hcd_x0 hbd_x0 (hlS) (O2.ext Od1.2) P5 (by decide) (by decide)) q6a q6c (g := (mkF m 25 #[rv x0, rv nv1, iv (2 : Int32), iv (0 : Int32), rv cA] [(.ref x0), (.ref wA)])) rfl (by rw [hml]; rfl) (Steps.refl _) (argsL := [(.ref x0)]) (rest := []) (lenOf pdK_1 rfl) rfl (by show 2 * 0 + _ ≤ _; exact Nat.le_of_eq rfl) (hb hby d10_25) (fun _ _ => ⟨rfl, e5, (by decide : 1 + 0 ≤ _), (by decide : 2 + 0 ≤ _)⟩)
  dsimp only [Pt.U, Pt.locs, Pt.cells, Pt.slots] at X6 l6 y6 z6 st6 hQ6
  subst l6 y6 z6
  obtain ⟨hv6, rfl, e6⟩ := hQ6
  obtain rfl := own_eqv hv6
  have N6 := Fr.app N1 (Fr.nil n0)
  refine Goes.st (B := T6.setTop (mkF m 28 #[rv x0, rv nv1, iv (2 : Int32), iv (0 : Int32), rv cA] [(.int (own_eqr ([110, 117, 108, 108] : List Int32) cs))])) (fun t k => st6.trans k) ?_
  by_cases hc28_7 : (own_eqr ([110, 117, 108, 108] : List Int32) cs) = (0 : Int32)
  · skip
    refine Goes.st (B := T6.setTop (mkF m 34 #[rv x0, rv nv1, iv (2 : Int32), iv (0 : Int32), rv cA] [])) (fun t k => ?_) ?_
    · refine XS.ifYes X6.here hx rfl (pc0 := 28) (pc' := 34) rfl (hb hby d10_28) rfl ((if0 _ _).trans (teq hc28_7).1) (by decide) (by decide) ?_
      exact k
    refine Goes.run X6 hx hown hci hcl hby (L := [(34, .iinc 3 1, 3), (37, .goto (-28), 3), (9, .iload_n 3, 1), (10, .iload_n 2, 1)]) (by decide +kernel) rfl (g' := (mkF m 11 #[rv x0, rv nv1, iv (2 : Int32), iv (1 : Int32), rv cA] [(.int (2 : Int32)), (.int (1 : Int32))])) rfl ?_
    have hc11_8 : (1 : Int32) < (2 : Int32) := by decide
    refine Goes.st (B := T6.setTop (mkF m 14 #[rv x0, rv nv1, iv (2 : Int32), iv (1 : Int32), rv cA] [])) (fun t k => ?_) ?_
    · refine XS.icmpNo X6.here hx rfl (hb hby d10_11) rfl (tlt hc11_8).2.1 ?_
      exact k
    refine Goes.run X6 hx hown hci hcl hby (L := [(14, .aload_n 1, 1), (15, .iload_n 3, 1)]) (by decide +kernel) rfl (g' := (mkF m 16 #[rv x0, rv nv1, iv (2 : Int32), iv (1 : Int32), rv cA] [(.int (1 : Int32)), (.ref nv1)])) rfl ?_
    obtain ⟨cl9, Ar9, q9, S9, M9, Hs9, G9⟩ := id V_nv1
    have hin9 : ¬ ((1 : Int32) < 0 ∨ cl9.slots.size ≤ ((1 : Int32)).toNatClampNeg) := inb_of S9 ⟨(by decide), (by decide)⟩
    have hat9 : cl9.slots[((1 : Int32)).toNatClampNeg]? = some (.ref cB) := Hs9.at hin9 rfl
    refine Goes.st (B := T6.setTop (mkF m 17 #[rv x0, rv nv1, iv (2 : Int32), iv (1 : Int32), rv cA] [(.ref cB)])) (X6.aaload hx (j := (1 : Int32)) (v := (.ref cB)) (by rw [e6]; exact Ar9.1) (State.isArrayOf_alike hZ.alike Ar9.2.1) rfl Ar9.2.2 hin9 hat9 (g := (mkF m 16 #[rv x0, rv nv1, iv (2 : Int32), iv (1 : Int32), rv cA] [(.int (1 : Int32)), (.ref nv1)])) rfl rfl (hb hby d10_16)) ?_
    refine Goes.run X6 hx hown hci hcl hby (L := [(17, .astore 4, 2), (19, .aload 4, 2)]) (by decide +kernel) rfl (g' := (mkF m 21 #[rv x0, rv nv1, iv (2 : Int32), iv (1 : Int32), rv cB] [(.ref cB)])) rfl ?_
    obtain ⟨T10, X10, e10, st10⟩ := getF X6 hx hZ hown (host := "") (Or.inl w_103) Via.refl e6 F_headerName_cB (g := (mkF m 21 #[rv x0, rv nv1, iv (2 : Int32), iv (1 : Int32), rv cB] [(.ref cB)])) rfl rfl (hb hby d10_21)
    refine Goes.st (B := T10.setTop (mkF m 24 #[rv x0, rv nv1, iv (2 : Int32), iv (1 : Int32), rv cB] [(.ref wB)])) st10 ?_
    refine Goes.run X10 hx hown hci hcl hby (L := [(24, .aload_n 0, 1)]) (by decide +kernel) rfl (g' := (mkF m 25 #[rv x0, rv nv1, iv (2 : Int32), iv (1 : Int32), rv cB] [(.ref x0), (.ref wB)])) rfl ?_
    have hcd_wB : StrChars.Road.CodA ([100, 101, 102, 108, 97, 116, 101] : List Int32) 0 (7 : Int32) ((([100, 101, 102, 108, 97, 116, 101] : List Int32).map (fun c => c.toInt8.toInt32)).map Value.int) := StrChars.Road.codOf (n := 7) rfl (fun c hc => (own_hD c hc).2)
    have hbd_wB := own_up own_hD
    have hcd_x0 : StrChars.Road.CodA cs 0 (Int32.ofNat cs.length) ((cs.map (fun c => c.toInt8.toInt32)).map Value.int) := StrChars.Road.codOf (n := cs.length) rfl (fun c hc => (hpS c hc).2)
    have hbd_x0 := own_up hpS
    obtain ⟨cq11, kq11, q11a, q11b, q11c⟩ := isOf hZ e10 E_wB
    obtain ⟨_, _, ⟨T11, L11, k11, n11⟩, -, X11, ⟨Lc11, hQ11, l11, y11, z11⟩, st11⟩ := X10.virtualBack hx (y := ym7) (z := ym7) hown (mvT hZ w_105) (mvT hZ w_74) (notFace_of_selects (args := #[]) (mvT hZ w_76)) (mvT hZ w_76) (mvT hZ w_75) (by decide) (StrChars.Road.eqW (W := 0) hZ (own_heq hw) (kI := 4) w_7 E_wB F_value_wB F_coder_wB V_tB hcd_wB hbd_wB (Nat.le_of_ble_eq_true rfl) E_x0 F_value_x0 F_coder_x0 V_tS hcd_x0 hbd_x0 (hlS) (O2.ext Od1.2) P5 (by decide) (by decide)) q11a q11c (g := (mkF m 25 #[rv x0, rv nv1, iv (2 : Int32), iv (1 : Int32), rv cB] [(.ref x0), (.ref wB)])) rfl (by rw [hml]; rfl) (Steps.refl _) (argsL := [(.ref x0)]) (rest := []) (lenOf pdK_1 rfl) rfl (by show 2 * 0 + _ ≤ _; exact Nat.le_of_eq rfl) (hb hby d10_25) (fun _ _ => ⟨rfl, e10, (by decide : 1 + 0 ≤ _), (by decide : 2 + 0 ≤ _)⟩)
    dsimp only [Pt.U, Pt.locs, Pt.cells, Pt.slots] at X11 l11 y11 z11 st11 hQ11
    subst l11 y11 z11
    obtain ⟨hv11, rfl, e11⟩ := hQ11
    obtain rfl := own_eqv hv11
    have N11 := Fr.app N6 (Fr.nil n0)
    refine Goes.st (B := T11.setTop (mkF m 28 #[rv x0, rv nv1, iv (2 : Int32), iv (1 : Int32), rv cB] [(.int (own_eqr ([100, 101, 102, 108, 97, 116, 101] : List Int32) cs))])) (fun t k => st11.trans k) ?_
    by_cases hc28_12 : (own_eqr ([100, 101, 102, 108, 97, 116, 101] : List Int32) cs) = (0 : Int32)
    · skip
      refine Goes.st (B := T11.setTop (mkF m 34 #[rv x0, rv nv1, iv (2 : Int32), iv (1 : Int32), rv cB] [])) (fun t k => ?_) ?_
      · refine XS.ifYes X11.here hx rfl (pc0 := 28) (pc' := 34) rfl (hb hby d10_28) rfl ((if0 _ _).trans (teq hc28_12).1) (by decide) (by decide) ?_
        exact k
      refine Goes.run X11 hx hown hci hcl hby (L := [(34, .iinc 3 1, 3), (37, .goto (-28), 3), (9, .iload_n 3, 1), (10, .iload_n 2, 1)]) (by decide +kernel) rfl (g' := (mkF m 11 #[rv x0, rv nv1, iv (2 : Int32), iv (2 : Int32), rv cB] [(.int (2 : Int32)), (.int (2 : Int32))])) rfl ?_
      have hc11_13 : ¬ ((2 : Int32) < (2 : Int32)) := Int32.lt_irrefl
      refine Goes.st (B := T11.setTop (mkF m 40 #[rv x0, rv nv1, iv (2 : Int32), iv (2 : Int32), rv cB] [])) (fun t k => ?_) ?_
      · refine XS.icmpYes X11.here hx rfl (pc0 := 11) (pc' := 40) rfl (hb hby d10_11) rfl (flt hc11_13).2.1 (by decide) (by decide) ?_
        exact k
      refine Goes.run X11 hx hown hci hcl hby (L := [(40, .aconst_null, 1)]) (by decide +kernel) rfl (g' := (mkF m 41 #[rv x0, rv nv1, iv (2 : Int32), iv (2 : Int32), rv cB] [.null])) rfl ?_
      exact Goes.retR X11 hx hlk Bd.returns rfl rfl (hb hby d10_41) ⟨(by unfold own_val; rw [if_pos hc28_7, if_pos hc28_12]), N11, (by rw [e11]; exact K1)⟩ (by decide) (by decide)
    · skip
      refine Goes.st (B := T11.setTop (mkF m 31 #[rv x0, rv nv1, iv (2 : Int32), iv (1 : Int32), rv cB] [])) (fun t k => ?_) ?_
      · refine XS.ifNo X11.here hx rfl (hb hby d10_28) rfl ((if0 _ _).trans (feq hc28_12).1) ?_
        exact k
      refine Goes.run X11 hx hown hci hcl hby (L := [(31, .aload 4, 2)]) (by decide +kernel) rfl (g' := (mkF m 33 #[rv x0, rv nv1, iv (2 : Int32), iv (1 : Int32), rv cB] [(.ref cB)])) rfl ?_
      exact Goes.retR X11 hx hlk Bd.returns rfl rfl (hb hby d10_33) ⟨(by unfold own_val; rw [if_pos hc28_7, if_neg hc28_12]), N11, (by rw [e11]; exact K1)⟩ (by decide) (by decide)
  · skip
    refine Goes.st (B := T6.setTop (mkF m 31 #[rv x0, rv nv1, iv (2 : Int32), iv (0 : Int32), rv cA] [])) (fun t k => ?_) ?_
    · refine XS.ifNo X6.here hx rfl (hb hby d10_28) rfl ((if0 _ _).trans (feq hc28_7).1) ?_
      exact k
    refine Goes.run X6 hx hown hci hcl hby (L := [(31, .aload 4, 2)]) (by decide +kernel) rfl (g' := (mkF m 33 #[rv x0, rv nv1, iv (2 : Int32), iv (0 : Int32), rv cA] [(.ref cA)])) rfl ?_
    exact Goes.retR X6 hx hlk Bd.returns rfl rfl (hb hby d10_33) ⟨(by unfold own_val; rw [if_neg hc28_7]), N6, (by rw [e6]; exact K1)⟩ (by decide) (by decide)
theorem pnL : plainName "com/example/upcaster/upcaster/io/Codec" = true := by first | (simp [plainName, overriddenIn]; done) | decide +kernel
theorem pdL_0 : parseMethodDescriptor "()[Lcom/example/upcaster/upcaster/io/Codec;" = some ⟨[], some (.array (.object "com/example/upcaster/upcaster/io/Codec"))⟩ := by decide +kernel
theorem pdL_1 : parseMethodDescriptor "(Ljava/lang/Object;)Z" = some ⟨[(.object "java/lang/Object")], some .boolean⟩ := by decide +kernel
theorem efL (m : MethodId)  : entryFrame m #[.null] 5 = (mkF m 0 #[.val .null, .unset, .unset, .unset, .unset] []) := by first | (simp [entryFrame, mkF, argsToLocals, Value.category]; done) | rfl
set_option maxRecDepth 65536 in
set_option maxHeartbeats 40000000 in
theorem rmL (l : Launch) (Z : State) (a0 : Array Value) (hw : ∀ d ∈ tables_1, d.before a0 Z = true) (ws : List Jvm.Cond) (va : Addr) (kva : ClassId) (cA : Addr) (cB : Addr) (wA : Addr) (tA : Addr) (kA : ClassId) (wB : Addr) (tB : Addr) (kB : ClassId) (h0 : Heap) (n0 : Nat) (Z0 : n0 ≤ h0.size) (E_va : Exa Z h0 va "[Lcom/example/upcaster/upcaster/io/Codec;") (V_va : Arv Z h0 va kva (.object "com/example/upcaster/upcaster/io/Codec") (2 : Int32) [(.ref cA), (.ref cB)] .null) (F_headerName_cA : Fld Z h0 cA "com/example/upcaster/upcaster/io/Codec" "headerName" "Ljava/lang/String;" (.ref wA)) (F_headerName_cB : Fld Z h0 cB "com/example/upcaster/upcaster/io/Codec" "headerName" "Ljava/lang/String;" (.ref wB)) (E_wA : Exa Z h0 wA "java/lang/String") (F_coder_wA : Fld Z h0 wA "java/lang/String" "coder" "B" (.int (0 : Int32))) (F_value_wA : Fld Z h0 wA "java/lang/String" "value" "[B" (.ref tA)) (V_tA : Arv Z h0 tA kA .byte (4 : Int32) ((([110, 117, 108, 108] : List Int32).map (fun c => c.toInt8.toInt32)).map Value.int) (.int (0 : Int32))) (E_wB : Exa Z h0 wB "java/lang/String") (F_coder_wB : Fld Z h0 wB "java/lang/String" "coder" "B" (.int (0 : Int32))) (F_value_wB : Fld Z h0 wB "java/lang/String" "value" "[B" (.ref tB)) (V_tB : Arv Z h0 tB kB .byte (7 : Int32) ((([100, 101, 102, 108, 97, 116, 101] : List Int32).map (fun c => c.toInt8.toInt32)).map Value.int) (.int (0 : Int32))) (O0 : Old Z n0 h0) (SV : Sta Z Z.heap "com/example/upcaster/upcaster/io/Codec" "$VALUES" "[Lcom/example/upcaster/upcaster/io/Codec;" (.ref va)) :
    MetFree l ym10 (head1 (Jvm.Cond.code ym10 prog_8_method_5_code 5 (some (.object "com/example/upcaster/upcaster/io/Codec")) :: ws) ({ frames := 2, cells := 1, slots := 2, locals := 25 } : Room)) (fun a U => a = #[.null] ∧ Z.Warmed39 U.vm ∧ U.heap = h0) (fun _ _ _ _ _ => True) (fun _ U o U' => ∃ v L, o = .returned v ∧ (QH (some .null) h0 n0) v U'.heap L ∧ FrameEnd U o U' L ({ frames := 2, cells := 1, slots := 2, locals := 25 } : Room).cells ({ frames := 2, cells := 1, slots := 2, locals := 25 } : Room).slots) := by
  refine MetFree.of_bodySF (plainFor_of_name pnL) hisR ?_
  intro p e s m args below meth c s₁ Bd hml0 hP hK
  obtain ⟨rfl, hZ, hh⟩ := hP
  have hx := Bd.exec
  have hby := Bd.bytes
  have hml : c.maxLocals = 5 := hml0
  have hlk : meth.locks = false := BodyLoose.notSynchronized Bd
  have hown : s.vm.findClass "com/example/upcaster/upcaster/io/Codec" = some m.cls := findClass_of_methodNamed Bd.named
  have hnm := (name_of_methodNamed Bd.named Bd.method).1
  have w_6 := hw _ (List.mem_of_getElem? (i := 6) rfl)
  have w_74 := hw _ (List.mem_of_getElem? (i := 74) rfl)
  have w_75 := hw _ (List.mem_of_getElem? (i := 75) rfl)
  have w_76 := hw _ (List.mem_of_getElem? (i := 76) rfl)
  have w_77 := hw _ (List.mem_of_getElem? (i := 77) rfl)
  have w_83 := hw _ (List.mem_of_getElem? (i := 83) rfl)
  have w_88 := hw _ (List.mem_of_getElem? (i := 88) rfl)
  have w_89 := hw _ (List.mem_of_getElem? (i := 89) rfl)
  have w_90 := hw _ (List.mem_of_getElem? (i := 90) rfl)
  have w_103 := hw _ (List.mem_of_getElem? (i := 103) rfl)
  have w_105 := hw _ (List.mem_of_getElem? (i := 105) rfl)
  have hci : ∀ i v, (i, v) ∈ ([] : List (Nat × Int32)) → (Jvm.Cond.constant "com/example/upcaster/upcaster/io/Codec" i v).before #[.null] s = true := own_ci0
  have hcl : ∀ i v, (i, v) ∈ ([] : List (Nat × Int64)) → (Jvm.Cond.constantLong "com/example/upcaster/upcaster/io/Codec" i v).before #[.null] s = true := own_ci0
  have X0 : Stand p l e ({ frames := 2, cells := 1, slots := 2, locals := 25 } : Room) s m #[.null] below meth c s₁ [] 0 0 := Stand.of_body Bd
  have e0 : s₁.heap = h0 := by rw [← hh, Bd.state]; rfl
  have N0 := Fr.nil n0
  show Goes p e below s (QH (some .null) h0 n0) ({ frames := 2, cells := 1, slots := 2, locals := 25 } : Room).cells ({ frames := 2, cells := 1, slots := 2, locals := 25 } : Room).slots (s₁.setTop (entryFrame m #[.null] 5))
  refine Goes.cast (efL m ) ?_
  have K0 : Keep h0 h0 [] := Keep.refl h0 _
  obtain ⟨_, _, ⟨T1, L1, k1, n1⟩, -, X1, ⟨Lc1, hQ1, l1, y1, z1⟩, st1⟩ := Jvm.LawKit.callS X0 hx (y := ym9) hown (mvT hZ w_88) (mvT hZ w_89) (mvT hZ w_83) (mvT hZ w_90) (by decide) (backOf (W := 0) (rmI l Z a0 hw [] va kva cA cB h0 n0 Z0 E_va V_va O0 SV) hZ w_90 w_83 (by decide) (by decide)) (g := (mkF m 0 #[.val .null, .unset, .unset, .unset, .unset] [])) rfl (by rw [hml]; rfl) (argsL := []) (rest := []) (lenOf pdL_0 rfl) rfl (by show 2 * 0 + _ ≤ _; exact Nat.le_of_eq rfl) (hb hby d10_0) (fun _ _ => ⟨rfl, e0, (by decide : 0 + 1 ≤ _), (by decide : 0 + 2 ≤ _)⟩)
  dsimp only [Pt.U, Pt.locs, Pt.cells, Pt.slots] at X1 l1 y1 z1 st1 hQ1
  subst l1 y1 z1
  obtain ⟨h1, eh1⟩ : ∃ z, z = T1.heap := ⟨_, rfl⟩
  rw [← eh1] at hQ1
  have e1 : T1.heap = h1 := eh1.symm
  obtain ⟨nv1, k_nv1, rfl, N1q, Kq1, sq_nv1, o1_0, o1_1⟩ := hQ1
  have ne_cA_nv1 : cA ≠ nv1 := Nat.ne_of_lt (Nat.lt_of_lt_of_le F_headerName_cA.lt sq_nv1)
  have ne_cB_nv1 : cB ≠ nv1 := Nat.ne_of_lt (Nat.lt_of_lt_of_le F_headerName_cB.lt sq_nv1)
  have ne_tA_nv1 : tA ≠ nv1 := Nat.ne_of_lt (Nat.lt_of_lt_of_le V_tA.lt sq_nv1)
  have ne_tB_nv1 : tB ≠ nv1 := Nat.ne_of_lt (Nat.lt_of_lt_of_le V_tB.lt sq_nv1)
  have ne_va_nv1 : va ≠ nv1 := Nat.ne_of_lt (Nat.lt_of_lt_of_le E_va.lt sq_nv1)
  have ne_wA_nv1 : wA ≠ nv1 := Nat.ne_of_lt (Nat.lt_of_lt_of_le E_wA.lt sq_nv1)
  have ne_wB_nv1 : wB ≠ nv1 := Nat.ne_of_lt (Nat.lt_of_lt_of_le E_wB.lt sq_nv1)
  have g_nv1 : n0 ≤ nv1 := Nat.le_trans Z0 sq_nv1
  have sz_nv1 : h0.size ≤ nv1 := Nat.le_trans K0.1 sq_nv1
  have N1 := Fr.app N0 N1q
  have E_va := E_va.keep Kq1
  have V_va := V_va.keep Kq1 nin0
  have F_headerName_cA := F_headerName_cA.keep Kq1 nin0
  have F_headerName_cB := F_headerName_cB.keep Kq1 nin0
  have E_wA := E_wA.keep Kq1
  have F_coder_wA := F_coder_wA.keep Kq1 nin0
  have F_value_wA := F_value_wA.keep Kq1 nin0
  have V_tA := V_tA.keep Kq1 nin0
  have E_wB := E_wB.keep Kq1
  have F_coder_wB := F_coder_wB.keep Kq1 nin0
  have F_value_wB := F_value_wB.keep Kq1 nin0
  have V_tB := V_tB.keep Kq1 nin0
  have Zn1 : n0 ≤ h1.size := Nat.le_trans Z0 Kq1.1
  have K1 := K0.trans Kq1 (all0)
  have Od1 := O0.keep Kq1 all0
  have E_nv1 : Exa Z h1 nv1 "[Lcom/example/upcaster/upcaster/io/Codec;" := o1_0
  have V_nv1 : Arv Z h1 nv1 k_nv1 (.object "com/example/upcaster/upcaster/io/Codec") (2 : Int32) [(.ref cA), (.ref cB)] .null := o1_1
  refine Goes.st (B := T1.setTop (mkF m 3 #[.val .null, .unset, .unset, .unset, .unset] [(.ref nv1)])) st1 ?_
  refine Goes.run X1 hx hown hci hcl hby (L := [(3, .astore_n 1, 1), (4, .aload_n 1, 1)]) (by decide +kernel) rfl (g' := (mkF m 5 #[.val .null, rv nv1, .unset, .unset, .unset] [(.ref nv1)])) rfl ?_
  obtain ⟨cl2, Ar2, q2, S2, M2, Hs2, G2⟩ := id V_nv1
  refine Goes.st (B := T1.setTop (mkF m 6 #[.val .null, rv nv1, .unset, .unset, .unset] [(.int (2 : Int32))])) (fun t k => ?_) ?_
  · refine X1.arraylength hx (cell := cl2) (by rw [e1]; exact Ar2.1) (State.isArrayOf_alike hZ.alike Ar2.2.1) (g := (mkF m 5 #[.val .null, rv nv1, .unset, .unset, .unset] [(.ref nv1)])) rfl (rest := []) rfl (hb hby d10_5) _ ?_
    rw [len_of S2 M2]
    exact k
  refine Goes.run X1 hx hown hci hcl hby (L := [(6, .istore_n 2, 1), (7, .iconst 0, 1), (8, .istore_n 3, 1), (9, .iload_n 3, 1), (10, .iload_n 2, 1)]) (by decide +kernel) rfl (g' := (mkF m 11 #[.val .null, rv nv1, iv (2 : Int32), iv (0 : Int32), .unset] [(.int (2 : Int32)), (.int (0 : Int32))])) rfl ?_
  have hc11_3 : (0 : Int32) < (2 : Int32) := by decide
  refine Goes.st (B := T1.setTop (mkF m 14 #[.val .null, rv nv1, iv (2 : Int32), iv (0 : Int32), .unset] [])) (fun t k => ?_) ?_
  · refine XS.icmpNo X1.here hx rfl (hb hby d10_11) rfl (tlt hc11_3).2.1 ?_
    exact k
  refine Goes.run X1 hx hown hci hcl hby (L := [(14, .aload_n 1, 1), (15, .iload_n 3, 1)]) (by decide +kernel) rfl (g' := (mkF m 16 #[.val .null, rv nv1, iv (2 : Int32), iv (0 : Int32), .unset] [(.int (0 : Int32)), (.ref nv1)])) rfl ?_
  obtain ⟨cl4, Ar4, q4, S4, M4, Hs4, G4⟩ := id V_nv1
  have hin4 : ¬ ((0 : Int32) < 0 ∨ cl4.slots.size ≤ ((0 : Int32)).toNatClampNeg) := inb_of S4 ⟨(by decide), (by decide)⟩
  have hat4 : cl4.slots[((0 : Int32)).toNatClampNeg]? = some (.ref cA) := Hs4.at hin4 rfl
  refine Goes.st (B := T1.setTop (mkF m 17 #[.val .null, rv nv1, iv (2 : Int32), iv (0 : Int32), .unset] [(.ref cA)])) (X1.aaload hx (j := (0 : Int32)) (v := (.ref cA)) (by rw [e1]; exact Ar4.1) (State.isArrayOf_alike hZ.alike Ar4.2.1) rfl Ar4.2.2 hin4 hat4 (g := (mkF m 16 #[.val .null, rv nv1, iv (2 : Int32), iv (0 : Int32), .unset] [(.int (0 : Int32)), (.ref nv1)])) rfl rfl (hb hby d10_16)) ?_
  refine Goes.run X1 hx hown hci hcl hby (L := [(17, .astore 4, 2), (19, .aload 4, 2)]) (by decide +kernel) rfl (g' := (mkF m 21 #[.val .null, rv nv1, iv (2 : Int32), iv (0 : Int32), rv cA] [(.ref cA)])) rfl ?_
  obtain ⟨T5, X5, e5, st5⟩ := getF X1 hx hZ hown (host := "") (Or.inl w_103) Via.refl e1 F_headerName_cA (g := (mkF m 21 #[.val .null, rv nv1, iv (2 : Int32), iv (0 : Int32), rv cA] [(.ref cA)])) rfl rfl (hb hby d10_21)
  refine Goes.st (B := T5.setTop (mkF m 24 #[.val .null, rv nv1, iv (2 : Int32), iv (0 : Int32), rv cA] [(.ref wA)])) st5 ?_
  refine Goes.run X5 hx hown hci hcl hby (L := [(24, .aload_n 0, 1)]) (by decide +kernel) rfl (g' := (mkF m 25 #[.val .null, rv nv1, iv (2 : Int32), iv (0 : Int32), rv cA] [.null, (.ref wA)])) rfl ?_
  obtain ⟨cq6, kq6, q6a, q6b, q6c⟩ := isOf hZ e5 E_wA
  obtain ⟨_, _, ⟨T6, L6, k6, n6⟩, -, X6, ⟨Lc6, hQ6, l6, y6, z6⟩, st6⟩ := X5.virtualBack hx (y := ym7) (z := ym7) hown (mvT hZ w_105) (mvT hZ w_74) (notFace_of_selects (args := #[]) (mvT hZ w_76)) (mvT hZ w_76) (mvT hZ w_75) (by decide) (backOf (W := 0) (rmJ l Z a0 hw [] wA h1 n0 Zn1 ) hZ w_77 w_6 (by decide) (by decide)) q6a q6c (g := (mkF m 25 #[.val .null, rv nv1, iv (2 : Int32), iv (0 : Int32), rv cA] [.null, (.ref wA)])) rfl (by rw [hml]; rfl) (Steps.refl _) (argsL := [.null]) (rest := []) (lenOf pdL_1 rfl) rfl (by show 2 * 0 + _ ≤ _; exact Nat.le_of_eq rfl) (hb hby d10_25) (fun _ _ => ⟨rfl, e5, (by decide : 1 + 0 ≤ _), (by decide : 2 + 0 ≤ _)⟩)
  dsimp only [Pt.U, Pt.locs, Pt.cells, Pt.slots] at X6 l6 y6 z6 st6 hQ6
  subst l6 y6 z6
  obtain ⟨rfl, N6q, e6⟩ := hQ6
  have N6 := Fr.app N1 N6q
  refine Goes.st (B := T6.setTop (mkF m 28 #[.val .null, rv nv1, iv (2 : Int32), iv (0 : Int32), rv cA] [(.int (0 : Int32))])) (fun t k => st6.trans k) ?_
  have hc28_7 : (0 : Int32) = (0 : Int32) := rfl
  refine Goes.st (B := T6.setTop (mkF m 34 #[.val .null, rv nv1, iv (2 : Int32), iv (0 : Int32), rv cA] [])) (fun t k => ?_) ?_
  · refine XS.ifYes X6.here hx rfl (pc0 := 28) (pc' := 34) rfl (hb hby d10_28) rfl ((if0 _ _).trans (teq hc28_7).1) (by decide) (by decide) ?_
    exact k
  refine Goes.run X6 hx hown hci hcl hby (L := [(34, .iinc 3 1, 3), (37, .goto (-28), 3), (9, .iload_n 3, 1), (10, .iload_n 2, 1)]) (by decide +kernel) rfl (g' := (mkF m 11 #[.val .null, rv nv1, iv (2 : Int32), iv (1 : Int32), rv cA] [(.int (2 : Int32)), (.int (1 : Int32))])) rfl ?_
  have hc11_8 : (1 : Int32) < (2 : Int32) := by decide
  refine Goes.st (B := T6.setTop (mkF m 14 #[.val .null, rv nv1, iv (2 : Int32), iv (1 : Int32), rv cA] [])) (fun t k => ?_) ?_
  · refine XS.icmpNo X6.here hx rfl (hb hby d10_11) rfl (tlt hc11_8).2.1 ?_
    exact k
  refine Goes.run X6 hx hown hci hcl hby (L := [(14, .aload_n 1, 1), (15, .iload_n 3, 1)]) (by decide +kernel) rfl (g' := (mkF m 16 #[.val .null, rv nv1, iv (2 : Int32), iv (1 : Int32), rv cA] [(.int (1 : Int32)), (.ref nv1)])) rfl ?_
  obtain ⟨cl9, Ar9, q9, S9, M9, Hs9, G9⟩ := id V_nv1
  have hin9 : ¬ ((1 : Int32) < 0 ∨ cl9.slots.size ≤ ((1 : Int32)).toNatClampNeg) := inb_of S9 ⟨(by decide), (by decide)⟩
  have hat9 : cl9.slots[((1 : Int32)).toNatClampNeg]? = some (.ref cB) := Hs9.at hin9 rfl
  refine Goes.st (B := T6.setTop (mkF m 17 #[.val .null, rv nv1, iv (2 : Int32), iv (1 : Int32), rv cA] [(.ref cB)])) (X6.aaload hx (j := (1 : Int32)) (v := (.ref cB)) (by rw [e6]; exact Ar9.1) (State.isArrayOf_alike hZ.alike Ar9.2.1) rfl Ar9.2.2 hin9 hat9 (g := (mkF m 16 #[.val .null, rv nv1, iv (2 : Int32), iv (1 : Int32), rv cA] [(.int (1 : Int32)), (.ref nv1)])) rfl rfl (hb hby d10_16)) ?_
  refine Goes.run X6 hx hown hci hcl hby (L := [(17, .astore 4, 2), (19, .aload 4, 2)]) (by decide +kernel) rfl (g' := (mkF m 21 #[.val .null, rv nv1, iv (2 : Int32), iv (1 : Int32), rv cB] [(.ref cB)])) rfl ?_
  obtain ⟨T10, X10, e10, st10⟩ := getF X6 hx hZ hown (host := "") (Or.inl w_103) Via.refl e6 F_headerName_cB (g := (mkF m 21 #[.val .null, rv nv1, iv (2 : Int32), iv (1 : Int32), rv cB] [(.ref cB)])) rfl rfl (hb hby d10_21)
  refine Goes.st (B := T10.setTop (mkF m 24 #[.val .null, rv nv1, iv (2 : Int32), iv (1 : Int32), rv cB] [(.ref wB)])) st10 ?_
  refine Goes.run X10 hx hown hci hcl hby (L := [(24, .aload_n 0, 1)]) (by decide +kernel) rfl (g' := (mkF m 25 #[.val .null, rv nv1, iv (2 : Int32), iv (1 : Int32), rv cB] [.null, (.ref wB)])) rfl ?_
  obtain ⟨cq11, kq11, q11a, q11b, q11c⟩ := isOf hZ e10 E_wB
  obtain ⟨_, _, ⟨T11, L11, k11, n11⟩, -, X11, ⟨Lc11, hQ11, l11, y11, z11⟩, st11⟩ := X10.virtualBack hx (y := ym7) (z := ym7) hown (mvT hZ w_105) (mvT hZ w_74) (notFace_of_selects (args := #[]) (mvT hZ w_76)) (mvT hZ w_76) (mvT hZ w_75) (by decide) (backOf (W := 0) (rmJ l Z a0 hw [] wB h1 n0 Zn1 ) hZ w_77 w_6 (by decide) (by decide)) q11a q11c (g := (mkF m 25 #[.val .null, rv nv1, iv (2 : Int32), iv (1 : Int32), rv cB] [.null, (.ref wB)])) rfl (by rw [hml]; rfl) (Steps.refl _) (argsL := [.null]) (rest := []) (lenOf pdL_1 rfl) rfl (by show 2 * 0 + _ ≤ _; exact Nat.le_of_eq rfl) (hb hby d10_25) (fun _ _ => ⟨rfl, e10, (by decide : 1 + 0 ≤ _), (by decide : 2 + 0 ≤ _)⟩)
  dsimp only [Pt.U, Pt.locs, Pt.cells, Pt.slots] at X11 l11 y11 z11 st11 hQ11
  subst l11 y11 z11
  obtain ⟨rfl, N11q, e11⟩ := hQ11
  have N11 := Fr.app N6 N11q
  refine Goes.st (B := T11.setTop (mkF m 28 #[.val .null, rv nv1, iv (2 : Int32), iv (1 : Int32), rv cB] [(.int (0 : Int32))])) (fun t k => st11.trans k) ?_
  have hc28_12 : (0 : Int32) = (0 : Int32) := rfl
  refine Goes.st (B := T11.setTop (mkF m 34 #[.val .null, rv nv1, iv (2 : Int32), iv (1 : Int32), rv cB] [])) (fun t k => ?_) ?_
  · refine XS.ifYes X11.here hx rfl (pc0 := 28) (pc' := 34) rfl (hb hby d10_28) rfl ((if0 _ _).trans (teq hc28_12).1) (by decide) (by decide) ?_
    exact k
  refine Goes.run X11 hx hown hci hcl hby (L := [(34, .iinc 3 1, 3), (37, .goto (-28), 3), (9, .iload_n 3, 1), (10, .iload_n 2, 1)]) (by decide +kernel) rfl (g' := (mkF m 11 #[.val .null, rv nv1, iv (2 : Int32), iv (2 : Int32), rv cB] [(.int (2 : Int32)), (.int (2 : Int32))])) rfl ?_
  have hc11_13 : ¬ ((2 : Int32) < (2 : Int32)) := Int32.lt_irrefl
  refine Goes.st (B := T11.setTop (mkF m 40 #[.val .null, rv nv1, iv (2 : Int32), iv (2 : Int32), rv cB] [])) (fun t k => ?_) ?_
  · refine XS.icmpYes X11.here hx rfl (pc0 := 11) (pc' := 40) rfl (hb hby d10_11) rfl (flt hc11_13).2.1 (by decide) (by decide) ?_
    exact k
  refine Goes.run X11 hx hown hci hcl hby (L := [(40, .aconst_null, 1)]) (by decide +kernel) rfl (g' := (mkF m 41 #[.val .null, rv nv1, iv (2 : Int32), iv (2 : Int32), rv cB] [.null])) rfl ?_
  exact Goes.retR X11 hx hlk Bd.returns rfl rfl (hb hby d10_41) ⟨rfl, N11, (by rw [e11]; exact K1)⟩ (by decide) (by decide)
theorem pn0 : plainName "com/example/upcaster/upcaster/io/CodecNamedPinLaw" = true := by first | (simp [plainName, overriddenIn]; done) | decide +kernel
theorem pd0_0 : parseMethodDescriptor "(IIJ)C" = some ⟨[.int, .int, .long], some .char⟩ := by decide +kernel
theorem pd0_1 : parseMethodDescriptor "(II)I" = some ⟨[.int, .int], some .int⟩ := by decide +kernel
theorem pd0_2 : parseMethodDescriptor "(Ljava/lang/String;)Lcom/example/upcaster/upcaster/io/Codec;" = some ⟨[(.object "java/lang/String")], some (.object "com/example/upcaster/upcaster/io/Codec")⟩ := by decide +kernel
theorem pd0_3 : parseMethodDescriptor "([CI)Ljava/lang/String;" = some ⟨[(.array .char), .int], some (.object "java/lang/String")⟩ := by decide +kernel
theorem ef0 (m : MethodId) (x0 : Int32) (x1 : Int32) (x2 : Int32) (x3 : Int64) : entryFrame m #[(.int x0), (.int x1), (.int x2), (.long x3)] maxLocals = (mkF m 0 #[iv x0, iv x1, iv x2, jv x3, .second, .unset, .unset, .unset, .unset, .unset, .unset, .unset, .unset, .unset] []) := by first | (simp [entryFrame, mkF, argsToLocals, Value.category, maxLocals]; done) | rfl
def w0_3 (x0 : Int32) (x1 : Int32) (x2 : Int32) (x3 : Int64) : Int32 := (x0 &&& (3 : Int32))
def w0_10 (x0 : Int32) (x1 : Int32) (x2 : Int32) (x3 : Int64) : Int32 := (((x0.toUInt32 >>> ((2 : Int32) &&& 31).toUInt32).toInt32) &&& (3 : Int32))
def j0_25_s0 (x0 : Int32) (x1 : Int32) (x2 : Int32) (x3 : Int64) : Int32 := (if (((x0.toUInt32 >>> ((4 : Int32) &&& 31).toUInt32).toInt32) &&& (1 : Int32)) = (0 : Int32) then (0 : Int32) else (1 : Int32))
def w0_43 (x0 : Int32) (x1 : Int32) (x2 : Int32) (x3 : Int64) : Int32 := (nar .char (rA0 (w0_3 x0 x1 x2 x3) x3))
def w0_54 (x0 : Int32) (x1 : Int32) (x2 : Int32) (x3 : Int64) : Int32 := (nar .char (rA1 (w0_3 x0 x1 x2 x3) x3))
def w0_65 (x0 : Int32) (x1 : Int32) (x2 : Int32) (x3 : Int64) : Int32 := (nar .char (rA2 (w0_3 x0 x1 x2 x3) x3))
def w0_76 (x0 : Int32) (x1 : Int32) (x2 : Int32) (x3 : Int64) : Int32 := (nar .char (rA3 (w0_3 x0 x1 x2 x3) x3))
def w0_87 (x0 : Int32) (x1 : Int32) (x2 : Int32) (x3 : Int64) : Int32 := (nar .char (rA4 (w0_3 x0 x1 x2 x3) x3))
def w0_98 (x0 : Int32) (x1 : Int32) (x2 : Int32) (x3 : Int64) : Int32 := (nar .char (rA5 (w0_3 x0 x1 x2 x3) x3))
def w0_111 (x0 : Int32) (x1 : Int32) (x2 : Int32) (x3 : Int64) : Int32 := (nar .char (rA6 (w0_3 x0 x1 x2 x3) x3))
def w0_124 (x0 : Int32) (x1 : Int32) (x2 : Int32) (x3 : Int64) : Int32 := (nar .char (rA7 (w0_3 x0 x1 x2 x3) x3))
def w0_142 (x0 : Int32) (x1 : Int32) (x2 : Int32) (x3 : Int64) : Int32 := (nar .char ((x2 &&& (255 : Int32)).toUInt32.toUInt16.toUInt32.toInt32))
def j0_143_e0 (x0 : Int32) (x1 : Int32) (x2 : Int32) (x3 : Int64) : Int32 := (if (j0_25_s0 x0 x1 x2 x3) = (0 : Int32) then (w0_43 x0 x1 x2 x3) else (if (x1 &&& (7 : Int32)) = (0 : Int32) then (w0_142 x0 x1 x2 x3) else (w0_43 x0 x1 x2 x3)))
def j0_143_e1 (x0 : Int32) (x1 : Int32) (x2 : Int32) (x3 : Int64) : Int32 := (if (j0_25_s0 x0 x1 x2 x3) = (0 : Int32) then (w0_54 x0 x1 x2 x3) else (if (x1 &&& (7 : Int32)) = (1 : Int32) then (w0_142 x0 x1 x2 x3) else (w0_54 x0 x1 x2 x3)))
def j0_143_e2 (x0 : Int32) (x1 : Int32) (x2 : Int32) (x3 : Int64) : Int32 := (if (j0_25_s0 x0 x1 x2 x3) = (0 : Int32) then (w0_65 x0 x1 x2 x3) else (if (x1 &&& (7 : Int32)) = (2 : Int32) then (w0_142 x0 x1 x2 x3) else (w0_65 x0 x1 x2 x3)))
def j0_143_e3 (x0 : Int32) (x1 : Int32) (x2 : Int32) (x3 : Int64) : Int32 := (if (j0_25_s0 x0 x1 x2 x3) = (0 : Int32) then (w0_76 x0 x1 x2 x3) else (if (x1 &&& (7 : Int32)) = (3 : Int32) then (w0_142 x0 x1 x2 x3) else (w0_76 x0 x1 x2 x3)))
def j0_143_e4 (x0 : Int32) (x1 : Int32) (x2 : Int32) (x3 : Int64) : Int32 := (if (j0_25_s0 x0 x1 x2 x3) = (0 : Int32) then (w0_87 x0 x1 x2 x3) else (if (x1 &&& (7 : Int32)) = (4 : Int32) then (w0_142 x0 x1 x2 x3) else (w0_87 x0 x1 x2 x3)))
def j0_143_e5 (x0 : Int32) (x1 : Int32) (x2 : Int32) (x3 : Int64) : Int32 := (if (j0_25_s0 x0 x1 x2 x3) = (0 : Int32) then (w0_98 x0 x1 x2 x3) else (if (x1 &&& (7 : Int32)) = (5 : Int32) then (w0_142 x0 x1 x2 x3) else (w0_98 x0 x1 x2 x3)))
def j0_143_e6 (x0 : Int32) (x1 : Int32) (x2 : Int32) (x3 : Int64) : Int32 := (if (j0_25_s0 x0 x1 x2 x3) = (0 : Int32) then (w0_111 x0 x1 x2 x3) else (if (x1 &&& (7 : Int32)) = (6 : Int32) then (w0_142 x0 x1 x2 x3) else (w0_111 x0 x1 x2 x3)))
def j0_143_e7 (x0 : Int32) (x1 : Int32) (x2 : Int32) (x3 : Int64) : Int32 := (if (j0_25_s0 x0 x1 x2 x3) = (0 : Int32) then (w0_124 x0 x1 x2 x3) else (if (x1 &&& (7 : Int32)) = (7 : Int32) then (w0_142 x0 x1 x2 x3) else (w0_124 x0 x1 x2 x3)))
def j0_169_s0 (x0 : Int32) (x1 : Int32) (x2 : Int32) (x3 : Int64) : Int32 := (if (w0_3 x0 x1 x2 x3) = (0 : Int32) then (4 : Int32) else (if (w0_3 x0 x1 x2 x3) = (1 : Int32) then (7 : Int32) else (((x1.toUInt32 >>> ((3 : Int32) &&& 31).toUInt32).toInt32) &&& (7 : Int32))))
def j0_202_s0 (x0 : Int32) (x1 : Int32) (x2 : Int32) (x3 : Int64) : Int32 := (if (w0_10 x0 x1 x2 x3) = (1 : Int32) then (-1 : Int32) else (if (w0_10 x0 x1 x2 x3) = (2 : Int32) then (1 : Int32) else (if (w0_10 x0 x1 x2 x3) = (3 : Int32) then (2 : Int32) else (0 : Int32))))
def c0_212_0 (x0 : Int32) (x1 : Int32) (x2 : Int32) (x3 : Int64) : Int32 := ((j0_169_s0 x0 x1 x2 x3) + (j0_202_s0 x0 x1 x2 x3))
def c0_215_0 (x0 : Int32) (x1 : Int32) (x2 : Int32) (x3 : Int64) : Int32 := (rB (0 : Int32) (c0_212_0 x0 x1 x2 x3))
def w0_218 (x0 : Int32) (x1 : Int32) (x2 : Int32) (x3 : Int64) : Int32 := (rC (8 : Int32) (c0_215_0 x0 x1 x2 x3))
def r0 (x0 : Int32) (x1 : Int32) (x2 : Int32) (x3 : Int64) : Int32 := (if (w0_3 x0 x1 x2 x3) = (3 : Int32) then (1 : Int32) else (if (own_eqr (own_cs (w0_218 x0 x1 x2 x3) (j0_143_e0 x0 x1 x2 x3) (j0_143_e1 x0 x1 x2 x3) (j0_143_e2 x0 x1 x2 x3) (j0_143_e3 x0 x1 x2 x3) (j0_143_e4 x0 x1 x2 x3) (j0_143_e5 x0 x1 x2 x3) (j0_143_e6 x0 x1 x2 x3) (j0_143_e7 x0 x1 x2 x3)) ([110, 117, 108, 108] : List Int32)) = (0 : Int32) then (if (own_eqr (own_cs (w0_218 x0 x1 x2 x3) (j0_143_e0 x0 x1 x2 x3) (j0_143_e1 x0 x1 x2 x3) (j0_143_e2 x0 x1 x2 x3) (j0_143_e3 x0 x1 x2 x3) (j0_143_e4 x0 x1 x2 x3) (j0_143_e5 x0 x1 x2 x3) (j0_143_e6 x0 x1 x2 x3) (j0_143_e7 x0 x1 x2 x3)) ([100, 101, 102, 108, 97, 116, 101] : List Int32)) = (0 : Int32) then (1 : Int32) else (1 : Int32)) else (1 : Int32)))
theorem own_ix (x1 : Int32) : (x1 &&& (7 : Int32)) = (0 : Int32) ∨ (x1 &&& (7 : Int32)) = (1 : Int32) ∨ (x1 &&& (7 : Int32)) = (2 : Int32) ∨ (x1 &&& (7 : Int32)) = (3 : Int32) ∨ (x1 &&& (7 : Int32)) = (4 : Int32) ∨ (x1 &&& (7 : Int32)) = (5 : Int32) ∨ (x1 &&& (7 : Int32)) = (6 : Int32) ∨ (x1 &&& (7 : Int32)) = (7 : Int32) := by
  obtain ⟨A, m0, a0, a1, -⟩ := own_m32 x1 (7 : Int32) (k := 3) (by decide) (by decide)
  obtain ⟨k, hk, q, -⟩ := own_nat32 m0 a0 (N := 8) (by omega)
  rw [q]
  exact (by decide +kernel : ∀ n : Nat, n < 8 → Int32.ofNat n = (0 : Int32) ∨ Int32.ofNat n = (1 : Int32) ∨ Int32.ofNat n = (2 : Int32) ∨ Int32.ofNat n = (3 : Int32) ∨ Int32.ofNat n = (4 : Int32) ∨ Int32.ofNat n = (5 : Int32) ∨ Int32.ofNat n = (6 : Int32) ∨ Int32.ofNat n = (7 : Int32)) k hk
section
variable (x0 x1 x2 : Int32) (x3 : Int64)
theorem own_a0 (k : Int32) (x : Int64) : Bd (rA0 k x) := Bd.ite (own_bl _ (by decide)) (Bd.ite (own_bl _ (by decide)) (Bd.ch (Bd.andL _)))
theorem own_a1 (k : Int32) (x : Int64) : Bd (rA1 k x) := Bd.ite (own_bl _ (by decide)) (Bd.ite (own_bl _ (by decide)) (Bd.ch (Bd.andL _)))
theorem own_a2 (k : Int32) (x : Int64) : Bd (rA2 k x) := Bd.ite (own_bl _ (by decide)) (Bd.ite (own_bl _ (by decide)) (Bd.ch (Bd.andL _)))
theorem own_a3 (k : Int32) (x : Int64) : Bd (rA3 k x) := Bd.ite (own_bl _ (by decide)) (Bd.ite (own_bl _ (by decide)) (Bd.ch (Bd.andL _)))
theorem own_a4 (k : Int32) (x : Int64) : Bd (rA4 k x) := Bd.ite (Bd.ite (own_bl _ (by decide)) (Bd.ch (Bd.andL _))) (Bd.ite (own_bl _ (by decide)) (Bd.ch (Bd.andL _)))
theorem own_a5 (k : Int32) (x : Int64) : Bd (rA5 k x) := Bd.ite (Bd.ite (own_bl _ (by decide)) (Bd.ch (Bd.andL _))) (Bd.ite (own_bl _ (by decide)) (Bd.ch (Bd.andL _)))
theorem own_a6 (k : Int32) (x : Int64) : Bd (rA6 k x) := Bd.ite (Bd.ite (own_bl _ (by decide)) (Bd.ch (Bd.andL _))) (Bd.ite (own_bl _ (by decide)) (Bd.ch (Bd.andL _)))
theorem own_a7 (k : Int32) (x : Int64) : Bd (rA7 k x) := Bd.ite (Bd.ite (Bd.ch (Bd.andL _)) (Bd.ch (Bd.andL _))) (Bd.ite (Bd.ch (Bd.andL _)) (Bd.ch (Bd.andL _)))
theorem own_e0 : Bd (j0_143_e0 x0 x1 x2 x3) := Bd.ite (own_a0 _ _).nar (Bd.ite (Bd.nar (Bd.ch (Bd.and _))) (own_a0 _ _).nar)
theorem own_e1 : Bd (j0_143_e1 x0 x1 x2 x3) := Bd.ite (own_a1 _ _).nar (Bd.ite (Bd.nar (Bd.ch (Bd.and _))) (own_a1 _ _).nar)
theorem own_e2 : Bd (j0_143_e2 x0 x1 x2 x3) := Bd.ite (own_a2 _ _).nar (Bd.ite (Bd.nar (Bd.ch (Bd.and _))) (own_a2 _ _).nar)
theorem own_e3 : Bd (j0_143_e3 x0 x1 x2 x3) := Bd.ite (own_a3 _ _).nar (Bd.ite (Bd.nar (Bd.ch (Bd.and _))) (own_a3 _ _).nar)
theorem own_e4 : Bd (j0_143_e4 x0 x1 x2 x3) := Bd.ite (own_a4 _ _).nar (Bd.ite (Bd.nar (Bd.ch (Bd.and _))) (own_a4 _ _).nar)
theorem own_e5 : Bd (j0_143_e5 x0 x1 x2 x3) := Bd.ite (own_a5 _ _).nar (Bd.ite (Bd.nar (Bd.ch (Bd.and _))) (own_a5 _ _).nar)
theorem own_e6 : Bd (j0_143_e6 x0 x1 x2 x3) := Bd.ite (own_a6 _ _).nar (Bd.ite (Bd.nar (Bd.ch (Bd.and _))) (own_a6 _ _).nar)
theorem own_e7 : Bd (j0_143_e7 x0 x1 x2 x3) := Bd.ite (own_a7 _ _).nar (Bd.ite (Bd.nar (Bd.ch (Bd.and _))) (own_a7 _ _).nar)
end
theorem own_hpM (x1 ch0 ch1 ch2 ch3 ch4 ch5 ch6 ch7 : Int32) (e0' : Bd ch0) (e1' : Bd ch1) (e2' : Bd ch2) (e3' : Bd ch3) (e4' : Bd ch4) (e5' : Bd ch5) (e6' : Bd ch6) (e7' : Bd ch7) : ∀ c ∈ own_cs x1 ch0 ch1 ch2 ch3 ch4 ch5 ch6 ch7, ¬ c < 0 ∧ ¬ (255 : Int32) < c := by
  have e0 := e0'.hp
  have pq0 := e0'.hp
  have pz0 := e0'.nar.hp
  have pq1 := e1'.hp
  have pz1 := e1'.nar.hp
  have pq2 := e2'.hp
  have pz2 := e2'.nar.hp
  have pq3 := e3'.hp
  have pz3 := e3'.nar.hp
  have pq4 := e4'.hp
  have pz4 := e4'.nar.hp
  have pq5 := e5'.hp
  have pz5 := e5'.nar.hp
  have pq6 := e6'.hp
  have pz6 := e6'.nar.hp
  have pq7 := e7'.hp
  have pz7 := e7'.nar.hp
  unfold own_cs
  split
  · exact own_al0
  split
  · exact (own_alS pz0 own_al0)
  split
  · exact (own_alS pz0 (own_alS pz1 own_al0))
  split
  · exact (own_alS pz0 (own_alS pz1 (own_alS pz2 own_al0)))
  split
  · exact (own_alS pz0 (own_alS pz1 (own_alS pz2 (own_alS pz3 own_al0))))
  split
  · exact (own_alS pz0 (own_alS pz1 (own_alS pz2 (own_alS pz3 (own_alS pz4 own_al0)))))
  split
  · exact (own_alS pz0 (own_alS pz1 (own_alS pz2 (own_alS pz3 (own_alS pz4 (own_alS pz5 own_al0))))))
  split
  · exact (own_alS pz0 (own_alS pz1 (own_alS pz2 (own_alS pz3 (own_alS pz4 (own_alS pz5 (own_alS pz6 own_al0)))))))
  exact (own_alS pq0 (own_alS pq1 (own_alS pq2 (own_alS pq3 (own_alS pq4 (own_alS pq5 (own_alS pq6 (own_alS pq7 own_al0))))))))
theorem own_hlM (x1 ch0 ch1 ch2 ch3 ch4 ch5 ch6 ch7 : Int32) : (own_cs x1 ch0 ch1 ch2 ch3 ch4 ch5 ch6 ch7).length ≤ 4000 := by
  unfold own_cs
  repeat' split
  all_goals exact Nat.le_of_ble_eq_true rfl
theorem law_true (x0 x1 x2 : Int32) (x3 : Int64) : r0 x0 x1 x2 x3 = 1 := by
  unfold r0
  repeat' split
  all_goals rfl
set_option maxRecDepth 65536 in
set_option maxHeartbeats 40000000 in
theorem rm0 (l : Launch) (Z : State) (a0 : Array Value) (hw : ∀ d ∈ tables_1, d.before a0 Z = true) (ws : List Jvm.Cond) (x0 : Int32) (x1 : Int32) (x2 : Int32) (x3 : Int64) (va : Addr) (kva : ClassId) (cA : Addr) (cB : Addr) (wA : Addr) (tA : Addr) (kA : ClassId) (wB : Addr) (tB : Addr) (kB : ClassId) (G1 : Int32) (G3 : Value) (h0 : Heap) (n0 : Nat) (Z0 : n0 ≤ h0.size) (O0 : Old Z n0 h0) (O2 : Sta Z Z.heap "java/lang/String" "COMPACT_STRINGS" "Z" (.int G1)) (O4 : Sta Z Z.heap "jdk/internal/util/Preconditions" "SIOOBE_FORMATTER" "Ljava/util/function/BiFunction;" G3) (P5 : ¬ G1 = 0) (rG3 : G3.isRef = true) (zE_va : Exa Z Z.heap va "[Lcom/example/upcaster/upcaster/io/Codec;") (zV_va : Arv Z Z.heap va kva (.object "com/example/upcaster/upcaster/io/Codec") (2 : Int32) [(.ref cA), (.ref cB)] .null) (zF_headerName_cA : Fld Z Z.heap cA "com/example/upcaster/upcaster/io/Codec" "headerName" "Ljava/lang/String;" (.ref wA)) (zF_headerName_cB : Fld Z Z.heap cB "com/example/upcaster/upcaster/io/Codec" "headerName" "Ljava/lang/String;" (.ref wB)) (zE_wA : Exa Z Z.heap wA "java/lang/String") (zF_coder_wA : Fld Z Z.heap wA "java/lang/String" "coder" "B" (.int (0 : Int32))) (zF_value_wA : Fld Z Z.heap wA "java/lang/String" "value" "[B" (.ref tA)) (zV_tA : Arv Z Z.heap tA kA .byte (4 : Int32) ((([110, 117, 108, 108] : List Int32).map (fun c => c.toInt8.toInt32)).map Value.int) (.int (0 : Int32))) (zE_wB : Exa Z Z.heap wB "java/lang/String") (zF_coder_wB : Fld Z Z.heap wB "java/lang/String" "coder" "B" (.int (0 : Int32))) (zF_value_wB : Fld Z Z.heap wB "java/lang/String" "value" "[B" (.ref tB)) (zV_tB : Arv Z Z.heap tB kB .byte (7 : Int32) ((([100, 101, 102, 108, 97, 116, 101] : List Int32).map (fun c => c.toInt8.toInt32)).map Value.int) (.int (0 : Int32))) (SV : Sta Z Z.heap "com/example/upcaster/upcaster/io/Codec" "$VALUES" "[Lcom/example/upcaster/upcaster/io/Codec;" (.ref va)) (SN : Sta Z Z.heap "com/example/upcaster/upcaster/io/Codec" "NULL" "Lcom/example/upcaster/upcaster/io/Codec;" (.ref cA)) (SD : Sta Z Z.heap "com/example/upcaster/upcaster/io/Codec" "DEFLATE" "Lcom/example/upcaster/upcaster/io/Codec;" (.ref cB)) :
    MetFree l x (head1 (Jvm.Cond.code x code maxLocals ret :: ws) room_1) (fun a U => a = #[(.int x0), (.int x1), (.int x2), (.long x3)] ∧ Z.Warmed39 U.vm ∧ U.heap = h0 ∧ CHv Z consts_1 U.vm h0 ∧ ∀ x ∈ ([] : List Addr), Safe Z consts_1 U.vm h0 x) (fun _ _ _ _ _ => True) (fun _ U o U' => ∃ v L, o = .returned v ∧ (QL (some (.int (r0 x0 x1 x2 x3))) n0) v U'.heap L ∧ CHr Z consts_1 U.vm h0 U'.vm U'.heap ∧ ReturnedEndW U o U' L room_1.cells room_1.slots) := by
  refine MetFree.of_bodySF (plainFor_of_name pn0) hisR ?_
  intro p e s m args below meth c s₁ Bd hml0 hP hK
  obtain ⟨rfl, hZ, hh, hCH0, hSF⟩ := hP
  have hx := Bd.exec
  have hby := Bd.bytes
  have hml : c.maxLocals = 14 := hml0
  have hlk : meth.locks = false := BodyLoose.notSynchronized Bd
  have hown : s.vm.findClass "com/example/upcaster/upcaster/io/CodecNamedPinLaw" = some m.cls := findClass_of_methodNamed Bd.named
  have hnm := (name_of_methodNamed Bd.named Bd.method).1
  have w_0 := hw _ (List.mem_of_getElem? (i := 0) rfl)
  have w_1 := hw _ (List.mem_of_getElem? (i := 1) rfl)
  have w_2 := hw _ (List.mem_of_getElem? (i := 2) rfl)
  have w_3 := hw _ (List.mem_of_getElem? (i := 3) rfl)
  have w_4 := hw _ (List.mem_of_getElem? (i := 4) rfl)
  have w_38 := hw _ (List.mem_of_getElem? (i := 38) rfl)
  have w_39 := hw _ (List.mem_of_getElem? (i := 39) rfl)
  have w_40 := hw _ (List.mem_of_getElem? (i := 40) rfl)
  have w_41 := hw _ (List.mem_of_getElem? (i := 41) rfl)
  have w_42 := hw _ (List.mem_of_getElem? (i := 42) rfl)
  have w_43 := hw _ (List.mem_of_getElem? (i := 43) rfl)
  have w_44 := hw _ (List.mem_of_getElem? (i := 44) rfl)
  have w_45 := hw _ (List.mem_of_getElem? (i := 45) rfl)
  have w_46 := hw _ (List.mem_of_getElem? (i := 46) rfl)
  have w_47 := hw _ (List.mem_of_getElem? (i := 47) rfl)
  have w_48 := hw _ (List.mem_of_getElem? (i := 48) rfl)
  have w_70 := hw _ (List.mem_of_getElem? (i := 70) rfl)
  have w_71 := hw _ (List.mem_of_getElem? (i := 71) rfl)
  have w_72 := hw _ (List.mem_of_getElem? (i := 72) rfl)
  have w_83 := hw _ (List.mem_of_getElem? (i := 83) rfl)
  have w_85 := hw _ (List.mem_of_getElem? (i := 85) rfl)
  have w_86 := hw _ (List.mem_of_getElem? (i := 86) rfl)
  have w_87 := hw _ (List.mem_of_getElem? (i := 87) rfl)
  have hci : ∀ i v, (i, v) ∈ ([] : List (Nat × Int32)) → (Jvm.Cond.constant "com/example/upcaster/upcaster/io/CodecNamedPinLaw" i v).before #[(.int x0), (.int x1), (.int x2), (.long x3)] s = true := own_ci0
  have hcl : ∀ i v, (i, v) ∈ ([(45, 255)] : List (Nat × Int64)) → (Jvm.Cond.constantLong "com/example/upcaster/upcaster/io/CodecNamedPinLaw" i v).before #[(.int x0), (.int x1), (.int x2), (.long x3)] s = true := (own_ciS (mvT hZ w_38) own_ci0)
  have X0 : Stand p l e room_1 s m #[(.int x0), (.int x1), (.int x2), (.long x3)] below meth c s₁ [] 0 0 := Stand.of_body Bd
  have e0 : s₁.heap = h0 := by rw [← hh, Bd.state]; rfl
  have N0 := Fr.nil n0
  show GoesH Z h0 p e below s (QL (some (.int (r0 x0 x1 x2 x3))) n0) room_1.cells room_1.slots (s₁.setTop (entryFrame m #[(.int x0), (.int x1), (.int x2), (.long x3)] maxLocals))
  refine GoesH.cast (ef0 m x0 x1 x2 x3) ?_
  have hEL := own_EL hw
  have Sn0 : s.Since s.vm s.heap.size := own_since s
  have hk0 : s.heap.size ≤ h0.size := Nat.le_of_eq (congrArg Array.size hh)
  have X0 : Stand p l e room_1 (s.setVm s.vm) m #[(.int x0), (.int x1), (.int x2), (.long x3)] below meth c s₁ [] 0 0 := X0
  have CH0 : CHr Z consts_1 s.vm h0 s.vm h0 := CHr.refl hCH0
  refine GoesH.run X0 hx hown hci hcl hby (L := [(0, .iload_n 0, 1), (1, .iconst 3, 1), (2, .iand, 1), (3, .istore 5, 2), (5, .iload_n 0, 1), (6, .iconst 2, 1)]) (by decide +kernel) rfl (g' := (mkF m 7 #[iv x0, iv x1, iv x2, jv x3, .second, iv (w0_3 x0 x1 x2 x3), .unset, .unset, .unset, .unset, .unset, .unset, .unset, .unset] [(.int (2 : Int32)), (.int x0)])) rfl ?_
  refine GoesH.run X0 hx hown hci hcl hby (L := [(7, .iushr, 1), (8, .iconst 3, 1), (9, .iand, 1), (10, .istore 6, 2), (12, .iload_n 0, 1), (13, .iconst 4, 1)]) (by decide +kernel) rfl (g' := (mkF m 14 #[iv x0, iv x1, iv x2, jv x3, .second, iv (w0_3 x0 x1 x2 x3), iv (w0_10 x0 x1 x2 x3), .unset, .unset, .unset, .unset, .unset, .unset, .unset] [(.int (4 : Int32)), (.int x0)])) rfl ?_
  refine GoesH.run X0 hx hown hci hcl hby (L := [(14, .iushr, 1), (15, .iconst 1, 1), (16, .iand, 1)]) (by decide +kernel) rfl (g' := (mkF m 17 #[iv x0, iv x1, iv x2, jv x3, .second, iv (w0_3 x0 x1 x2 x3), iv (w0_10 x0 x1 x2 x3), .unset, .unset, .unset, .unset, .unset, .unset, .unset] [(.int (((x0.toUInt32 >>> ((4 : Int32) &&& 31).toUInt32).toInt32) &&& (1 : Int32)))])) rfl ?_
  have jn25_2 : GoesH Z h0 p e below s (QL (some (.int (r0 x0 x1 x2 x3))) n0) room_1.cells room_1.slots (s₁.setTop (mkF m 25 #[iv x0, iv x1, iv x2, jv x3, .second, iv (w0_3 x0 x1 x2 x3), iv (w0_10 x0 x1 x2 x3), .unset, .unset, .unset, .unset, .unset, .unset, .unset] [(.int (j0_25_s0 x0 x1 x2 x3))])) := by
    refine GoesH.run X0 hx hown hci hcl hby (L := [(25, .istore 7, 2), (27, .bipush 8, 2)]) (by decide +kernel) rfl (g' := (mkF m 29 #[iv x0, iv x1, iv x2, jv x3, .second, iv (w0_3 x0 x1 x2 x3), iv (w0_10 x0 x1 x2 x3), iv (j0_25_s0 x0 x1 x2 x3), .unset, .unset, .unset, .unset, .unset, .unset] [(.int (8 : Int32))])) rfl ?_
    obtain ⟨T3, h3, k3, X3, e3, E3, A3, B3, st3⟩ := newPE X0 hx hZ (aty := .char) w_0 e0 (g := (mkF m 29 #[iv x0, iv x1, iv x2, jv x3, .second, iv (w0_3 x0 x1 x2 x3), iv (w0_10 x0 x1 x2 x3), iv (j0_25_s0 x0 x1 x2 x3), .unset, .unset, .unset, .unset, .unset, .unset] [(.int (8 : Int32))])) rfl (hb hby at_29) rfl (by decide) (cap := 8) (by decide) (by decide) (by decide) (by decide) (ad := "[C") (by decide)
    obtain ⟨b3, g3⟩ : ∃ z, z = h0.size := ⟨_, rfl⟩
    rw [← g3] at A3 B3 st3
    have g_b3 : n0 ≤ b3 := Nat.le_trans Z0 (Nat.le_of_eq g3.symm)
    have CH3 := CH0.trans (CHr.ext E3 CH0.1)
    have Zn3 : n0 ≤ h3.size := Nat.le_trans Z0 E3.1
    have Od3 := O0.ext E3
    have hk3e := Nat.le_trans hk0 E3.1
    have E_b3 : Exa Z h3 b3 "[C" := B3
    have V_b3 : Arv Z h3 b3 k3 .char (8 : Int32) [(.int (0 : Int32)), (.int (0 : Int32)), (.int (0 : Int32)), (.int (0 : Int32)), (.int (0 : Int32)), (.int (0 : Int32)), (.int (0 : Int32)), (.int (0 : Int32))] (.int (0 : Int32)) := (Arv.new A3 (by decide)).pad (pad_rep [] (.int (0 : Int32)) 8)
    refine GoesH.st (B := T3.setTop (mkF m 31 #[iv x0, iv x1, iv x2, jv x3, .second, iv (w0_3 x0 x1 x2 x3), iv (w0_10 x0 x1 x2 x3), iv (j0_25_s0 x0 x1 x2 x3), .unset, .unset, .unset, .unset, .unset, .unset] [(.ref b3)])) st3 ?_
    refine GoesH.run X3 hx hown hci hcl hby (L := [(31, .astore 8, 2), (33, .aload 8, 2), (35, .iconst 0, 1), (36, .iload 5, 2), (38, .iconst 0, 1), (39, .lload_n 3, 1)]) (by decide +kernel) rfl (g' := (mkF m 40 #[iv x0, iv x1, iv x2, jv x3, .second, iv (w0_3 x0 x1 x2 x3), iv (w0_10 x0 x1 x2 x3), iv (j0_25_s0 x0 x1 x2 x3), rv b3, .unset, .unset, .unset, .unset, .unset] [(.long x3), (.int (0 : Int32)), (.int (w0_3 x0 x1 x2 x3)), (.int (0 : Int32)), (.ref b3)])) rfl ?_
    obtain ⟨_, _, ⟨T4, L4, k4, n4⟩, -, X4, Sq4, gq4, ⟨Lc4, hQ4, l4, y4, z4, CHq4⟩, st4⟩ := callSS X3 hx (y := ym1) hown (mvT hZ w_1) (mvT hZ w_2) (mvT hZ w_3) (mvT hZ w_4) (by decide) (own_backH (W := 2) (rmA0 l Z a0 hw [] (w0_3 x0 x1 x2 x3) x3 G1 G3 h3 n0 Zn3 Od3 O2 O4 P5 rG3) hZ w_4 w_3 (by decide) (by decide) hEL CH3.1 own_sf0) (g := (mkF m 40 #[iv x0, iv x1, iv x2, jv x3, .second, iv (w0_3 x0 x1 x2 x3), iv (w0_10 x0 x1 x2 x3), iv (j0_25_s0 x0 x1 x2 x3), rv b3, .unset, .unset, .unset, .unset, .unset] [(.long x3), (.int (0 : Int32)), (.int (w0_3 x0 x1 x2 x3)), (.int (0 : Int32)), (.ref b3)])) rfl (by rw [hml]; rfl) (argsL := [(.int (w0_3 x0 x1 x2 x3)), (.int (0 : Int32)), (.long x3)]) (rest := [(.int (0 : Int32)), (.ref b3)]) (lenOf pd0_0 rfl) rfl (by show 2 * 0 + _ ≤ _; exact Nat.le_of_eq rfl) (hb hby at_40) (fun _ _ => ⟨rfl, e3, (by decide : 1 + 2 ≤ _), (by decide : 8 + 32 ≤ _)⟩)
    dsimp only [Pt.U, Pt.locs, Pt.cells, Pt.slots] at X4 l4 y4 z4 st4 hQ4 Sq4 gq4 CHq4
    subst l4 y4 z4
    obtain ⟨h4, eh4⟩ : ∃ z, z = T4.heap := ⟨_, rfl⟩
    rw [← eh4] at hQ4 CHq4
    have e4 : T4.heap = h4 := eh4.symm
    have X4 := (show Stand p l e room_1 (s.setVm T4.vm) m #[(.int x0), (.int x1), (.int x2), (.long x3)] below meth c T4 _ _ _ from X4)
    have Sn4 : s.Since T4.vm h4.size := by rw [← e4]; exact foldS Sn0 (by rw [e3]; exact hk3e) Sq4 gq4
    have hk4 : h4.size ≤ h4.size := Nat.le_refl _
    have hZ : Z.Warmed39 (s.setVm T4.vm).vm := State.Warmed39.trans (t := (s.setVm s.vm)) hZ Sq4.1
    have hown : (s.setVm T4.vm).vm.findClass "com/example/upcaster/upcaster/io/CodecNamedPinLaw" = some m.cls := by rw [show (s.setVm T4.vm).vm = T4.vm from rfl, Sq4.1.alike.findClass]; exact hown
    have CH4 := CH3.trans CHq4
    obtain ⟨rfl, N4q, Kq4⟩ := hQ4
    have N4 := Fr.app N0 N4q
    have E_b3 := E_b3.keep Kq4
    have V_b3 := V_b3.keep Kq4 nin0
    have Zn4 : n0 ≤ h4.size := Nat.le_trans Zn3 Kq4.1
    have hk4e := Nat.le_trans hk3e Kq4.1
    have Od4 := Od3.keep Kq4 all0
    have hci : ∀ i v, (i, v) ∈ ([] : List (Nat × Int32)) → (Jvm.Cond.constant "com/example/upcaster/upcaster/io/CodecNamedPinLaw" i v).before #[(.int x0), (.int x1), (.int x2), (.long x3)] (s.setVm T4.vm) = true := own_ci0
    have hcl : ∀ i v, (i, v) ∈ ([(45, 255)] : List (Nat × Int64)) → (Jvm.Cond.constantLong "com/example/upcaster/upcaster/io/CodecNamedPinLaw" i v).before #[(.int x0), (.int x1), (.int x2), (.long x3)] (s.setVm T4.vm) = true := (own_ciS (mvT hZ w_38) own_ci0)
    refine GoesH.st (B := T4.setTop (mkF m 43 #[iv x0, iv x1, iv x2, jv x3, .second, iv (w0_3 x0 x1 x2 x3), iv (w0_10 x0 x1 x2 x3), iv (j0_25_s0 x0 x1 x2 x3), rv b3, .unset, .unset, .unset, .unset, .unset] [(.int (rA0 (w0_3 x0 x1 x2 x3) x3)), (.int (0 : Int32)), (.ref b3)])) (fun t k => st4.trans k) ?_
    obtain ⟨cl5, Ar5, q5, S5, M5, Hs5, G5⟩ := id V_b3
    have hin5 : ¬ ((0 : Int32) < 0 ∨ cl5.slots.size ≤ ((0 : Int32)).toNatClampNeg) := inb_of S5 ⟨(by decide), (by decide)⟩
    obtain ⟨T5, h5, X5, e5, W5, st5⟩ := stC X4 hx hZ e4 Ar5 (j := (0 : Int32)) hin5 (g := (mkF m 43 #[iv x0, iv x1, iv x2, jv x3, .second, iv (w0_3 x0 x1 x2 x3), iv (w0_10 x0 x1 x2 x3), iv (j0_25_s0 x0 x1 x2 x3), rv b3, .unset, .unset, .unset, .unset, .unset] [(.int (rA0 (w0_3 x0 x1 x2 x3) x3)), (.int (0 : Int32)), (.ref b3)])) rfl rfl (hb hby at_43)
    have sk5 := ((Safe.arv hZ.alike V_b3 (by decide)) : Safe Z consts_1 T4.vm h4 b3)
    have CH5 := CH4.trans (CHr.wr W5 sk5 CH4.1)
    have E_b3 := E_b3.wr W5
    have Zn5 : n0 ≤ h5.size := Nat.le_trans Zn4 (Keep.of_wr W5).1
    have Od5 := Od4.wr W5 g_b3
    have hk5e := Nat.le_trans hk4 (Keep.of_wr W5).1
    have N5 := Fr.snoc X5 N4 g_b3
    have V_b3 : Arv Z h5 b3 k3 .char (8 : Int32) [(.int (w0_43 x0 x1 x2 x3)), (.int (0 : Int32)), (.int (0 : Int32)), (.int (0 : Int32)), (.int (0 : Int32)), (.int (0 : Int32)), (.int (0 : Int32)), (.int (0 : Int32))] (.int (0 : Int32)) := Arv.set Ar5 q5 S5 M5 Hs5 G5 (fits_nar_char _) W5 0 rfl (Nat.le_of_ble_eq_true rfl)
    refine GoesH.st (B := T5.setTop (mkF m 44 #[iv x0, iv x1, iv x2, jv x3, .second, iv (w0_3 x0 x1 x2 x3), iv (w0_10 x0 x1 x2 x3), iv (j0_25_s0 x0 x1 x2 x3), rv b3, .unset, .unset, .unset, .unset, .unset] [])) st5 ?_
    refine GoesH.run X5 hx hown hci hcl hby (L := [(44, .aload 8, 2), (46, .iconst 1, 1), (47, .iload 5, 2), (49, .iconst 1, 1), (50, .lload_n 3, 1)]) (by decide +kernel) rfl (g' := (mkF m 51 #[iv x0, iv x1, iv x2, jv x3, .second, iv (w0_3 x0 x1 x2 x3), iv (w0_10 x0 x1 x2 x3), iv (j0_25_s0 x0 x1 x2 x3), rv b3, .unset, .unset, .unset, .unset, .unset] [(.long x3), (.int (1 : Int32)), (.int (w0_3 x0 x1 x2 x3)), (.int (1 : Int32)), (.ref b3)])) rfl ?_
    obtain ⟨_, _, ⟨T6, L6, k6, n6⟩, -, X6, Sq6, gq6, ⟨Lc6, hQ6, l6, y6, z6, CHq6⟩, st6⟩ := callSS X5 hx (y := ym1) hown (mvT hZ w_1) (mvT hZ w_2) (mvT hZ w_3) (mvT hZ w_4) (by decide) (own_backH (W := 2) (rmA1 l Z a0 hw [] (w0_3 x0 x1 x2 x3) x3 G1 G3 h5 n0 Zn5 Od5 O2 O4 P5 rG3) hZ w_4 w_3 (by decide) (by decide) hEL CH5.1 own_sf0) (g := (mkF m 51 #[iv x0, iv x1, iv x2, jv x3, .second, iv (w0_3 x0 x1 x2 x3), iv (w0_10 x0 x1 x2 x3), iv (j0_25_s0 x0 x1 x2 x3), rv b3, .unset, .unset, .unset, .unset, .unset] [(.long x3), (.int (1 : Int32)), (.int (w0_3 x0 x1 x2 x3)), (.int (1 : Int32)), (.ref b3)])) rfl (by rw [hml]; rfl) (argsL := [(.int (w0_3 x0 x1 x2 x3)), (.int (1 : Int32)), (.long x3)]) (rest := [(.int (1 : Int32)), (.ref b3)]) (lenOf pd0_0 rfl) rfl (by show 2 * 0 + _ ≤ _; exact Nat.le_of_eq rfl) (hb hby at_51) (fun _ _ => ⟨rfl, e5, (by decide : 3 + 2 ≤ _), (by decide : 40 + 32 ≤ _)⟩)
    dsimp only [Pt.U, Pt.locs, Pt.cells, Pt.slots] at X6 l6 y6 z6 st6 hQ6 Sq6 gq6 CHq6
    subst l6 y6 z6
    obtain ⟨h6, eh6⟩ : ∃ z, z = T6.heap := ⟨_, rfl⟩
    rw [← eh6] at hQ6 CHq6
    have e6 : T6.heap = h6 := eh6.symm
    have X6 := (show Stand p l e room_1 (s.setVm T6.vm) m #[(.int x0), (.int x1), (.int x2), (.long x3)] below meth c T6 _ _ _ from X6)
    have Sn6 : s.Since T6.vm h6.size := by rw [← e6]; exact foldS Sn4 (by rw [e5]; exact hk5e) Sq6 gq6
    have hk6 : h6.size ≤ h6.size := Nat.le_refl _
    have hZ : Z.Warmed39 (s.setVm T6.vm).vm := State.Warmed39.trans (t := (s.setVm T4.vm)) hZ Sq6.1
    have hown : (s.setVm T6.vm).vm.findClass "com/example/upcaster/upcaster/io/CodecNamedPinLaw" = some m.cls := by rw [show (s.setVm T6.vm).vm = T6.vm from rfl, Sq6.1.alike.findClass]; exact hown
    have CH6 := CH5.trans CHq6
    obtain ⟨rfl, N6q, Kq6⟩ := hQ6
    have N6 := Fr.app N5 N6q
    have E_b3 := E_b3.keep Kq6
    have V_b3 := V_b3.keep Kq6 nin0
    have Zn6 : n0 ≤ h6.size := Nat.le_trans Zn5 Kq6.1
    have hk6e := Nat.le_trans hk5e Kq6.1
    have Od6 := Od5.keep Kq6 all0
    have hci : ∀ i v, (i, v) ∈ ([] : List (Nat × Int32)) → (Jvm.Cond.constant "com/example/upcaster/upcaster/io/CodecNamedPinLaw" i v).before #[(.int x0), (.int x1), (.int x2), (.long x3)] (s.setVm T6.vm) = true := own_ci0
    have hcl : ∀ i v, (i, v) ∈ ([(45, 255)] : List (Nat × Int64)) → (Jvm.Cond.constantLong "com/example/upcaster/upcaster/io/CodecNamedPinLaw" i v).before #[(.int x0), (.int x1), (.int x2), (.long x3)] (s.setVm T6.vm) = true := (own_ciS (mvT hZ w_38) own_ci0)
    refine GoesH.st (B := T6.setTop (mkF m 54 #[iv x0, iv x1, iv x2, jv x3, .second, iv (w0_3 x0 x1 x2 x3), iv (w0_10 x0 x1 x2 x3), iv (j0_25_s0 x0 x1 x2 x3), rv b3, .unset, .unset, .unset, .unset, .unset] [(.int (rA1 (w0_3 x0 x1 x2 x3) x3)), (.int (1 : Int32)), (.ref b3)])) (fun t k => st6.trans k) ?_
    obtain ⟨cl7, Ar7, q7, S7, M7, Hs7, G7⟩ := id V_b3
    have hin7 : ¬ ((1 : Int32) < 0 ∨ cl7.slots.size ≤ ((1 : Int32)).toNatClampNeg) := inb_of S7 ⟨(by decide), (by decide)⟩
    obtain ⟨T7, h7, X7, e7, W7, st7⟩ := stC X6 hx hZ e6 Ar7 (j := (1 : Int32)) hin7 (g := (mkF m 54 #[iv x0, iv x1, iv x2, jv x3, .second, iv (w0_3 x0 x1 x2 x3), iv (w0_10 x0 x1 x2 x3), iv (j0_25_s0 x0 x1 x2 x3), rv b3, .unset, .unset, .unset, .unset, .unset] [(.int (rA1 (w0_3 x0 x1 x2 x3) x3)), (.int (1 : Int32)), (.ref b3)])) rfl rfl (hb hby at_54)
    have sk7 := ((Safe.arv hZ.alike V_b3 (by decide)) : Safe Z consts_1 T6.vm h6 b3)
    have CH7 := CH6.trans (CHr.wr W7 sk7 CH6.1)
    have E_b3 := E_b3.wr W7
    have Zn7 : n0 ≤ h7.size := Nat.le_trans Zn6 (Keep.of_wr W7).1
    have Od7 := Od6.wr W7 g_b3
    have hk7e := Nat.le_trans hk6 (Keep.of_wr W7).1
    have N7 := Fr.snoc X7 N6 g_b3
    have V_b3 : Arv Z h7 b3 k3 .char (8 : Int32) [(.int (w0_43 x0 x1 x2 x3)), (.int (w0_54 x0 x1 x2 x3)), (.int (0 : Int32)), (.int (0 : Int32)), (.int (0 : Int32)), (.int (0 : Int32)), (.int (0 : Int32)), (.int (0 : Int32))] (.int (0 : Int32)) := Arv.set Ar7 q7 S7 M7 Hs7 G7 (fits_nar_char _) W7 1 rfl (Nat.le_of_ble_eq_true rfl)
    refine GoesH.st (B := T7.setTop (mkF m 55 #[iv x0, iv x1, iv x2, jv x3, .second, iv (w0_3 x0 x1 x2 x3), iv (w0_10 x0 x1 x2 x3), iv (j0_25_s0 x0 x1 x2 x3), rv b3, .unset, .unset, .unset, .unset, .unset] [])) st7 ?_
    refine GoesH.run X7 hx hown hci hcl hby (L := [(55, .aload 8, 2), (57, .iconst 2, 1), (58, .iload 5, 2), (60, .iconst 2, 1), (61, .lload_n 3, 1)]) (by decide +kernel) rfl (g' := (mkF m 62 #[iv x0, iv x1, iv x2, jv x3, .second, iv (w0_3 x0 x1 x2 x3), iv (w0_10 x0 x1 x2 x3), iv (j0_25_s0 x0 x1 x2 x3), rv b3, .unset, .unset, .unset, .unset, .unset] [(.long x3), (.int (2 : Int32)), (.int (w0_3 x0 x1 x2 x3)), (.int (2 : Int32)), (.ref b3)])) rfl ?_
    obtain ⟨_, _, ⟨T8, L8, k8, n8⟩, -, X8, Sq8, gq8, ⟨Lc8, hQ8, l8, y8, z8, CHq8⟩, st8⟩ := callSS X7 hx (y := ym1) hown (mvT hZ w_1) (mvT hZ w_2) (mvT hZ w_3) (mvT hZ w_4) (by decide) (own_backH (W := 2) (rmA2 l Z a0 hw [] (w0_3 x0 x1 x2 x3) x3 G1 G3 h7 n0 Zn7 Od7 O2 O4 P5 rG3) hZ w_4 w_3 (by decide) (by decide) hEL CH7.1 own_sf0) (g := (mkF m 62 #[iv x0, iv x1, iv x2, jv x3, .second, iv (w0_3 x0 x1 x2 x3), iv (w0_10 x0 x1 x2 x3), iv (j0_25_s0 x0 x1 x2 x3), rv b3, .unset, .unset, .unset, .unset, .unset] [(.long x3), (.int (2 : Int32)), (.int (w0_3 x0 x1 x2 x3)), (.int (2 : Int32)), (.ref b3)])) rfl (by rw [hml]; rfl) (argsL := [(.int (w0_3 x0 x1 x2 x3)), (.int (2 : Int32)), (.long x3)]) (rest := [(.int (2 : Int32)), (.ref b3)]) (lenOf pd0_0 rfl) rfl (by show 2 * 0 + _ ≤ _; exact Nat.le_of_eq rfl) (hb hby at_62) (fun _ _ => ⟨rfl, e7, (by decide : 5 + 2 ≤ _), (by decide : 72 + 32 ≤ _)⟩)
    dsimp only [Pt.U, Pt.locs, Pt.cells, Pt.slots] at X8 l8 y8 z8 st8 hQ8 Sq8 gq8 CHq8
    subst l8 y8 z8
    obtain ⟨h8, eh8⟩ : ∃ z, z = T8.heap := ⟨_, rfl⟩
    rw [← eh8] at hQ8 CHq8
    have e8 : T8.heap = h8 := eh8.symm
    have X8 := (show Stand p l e room_1 (s.setVm T8.vm) m #[(.int x0), (.int x1), (.int x2), (.long x3)] below meth c T8 _ _ _ from X8)
    have Sn8 : s.Since T8.vm h8.size := by rw [← e8]; exact foldS Sn6 (by rw [e7]; exact hk7e) Sq8 gq8
    have hk8 : h8.size ≤ h8.size := Nat.le_refl _
    have hZ : Z.Warmed39 (s.setVm T8.vm).vm := State.Warmed39.trans (t := (s.setVm T6.vm)) hZ Sq8.1
    have hown : (s.setVm T8.vm).vm.findClass "com/example/upcaster/upcaster/io/CodecNamedPinLaw" = some m.cls := by rw [show (s.setVm T8.vm).vm = T8.vm from rfl, Sq8.1.alike.findClass]; exact hown
    have CH8 := CH7.trans CHq8
    obtain ⟨rfl, N8q, Kq8⟩ := hQ8
    have N8 := Fr.app N7 N8q
    have E_b3 := E_b3.keep Kq8
    have V_b3 := V_b3.keep Kq8 nin0
    have Zn8 : n0 ≤ h8.size := Nat.le_trans Zn7 Kq8.1
    have hk8e := Nat.le_trans hk7e Kq8.1
    have Od8 := Od7.keep Kq8 all0
    have hci : ∀ i v, (i, v) ∈ ([] : List (Nat × Int32)) → (Jvm.Cond.constant "com/example/upcaster/upcaster/io/CodecNamedPinLaw" i v).before #[(.int x0), (.int x1), (.int x2), (.long x3)] (s.setVm T8.vm) = true := own_ci0
    have hcl : ∀ i v, (i, v) ∈ ([(45, 255)] : List (Nat × Int64)) → (Jvm.Cond.constantLong "com/example/upcaster/upcaster/io/CodecNamedPinLaw" i v).before #[(.int x0), (.int x1), (.int x2), (.long x3)] (s.setVm T8.vm) = true := (own_ciS (mvT hZ w_38) own_ci0)
    refine GoesH.st (B := T8.setTop (mkF m 65 #[iv x0, iv x1, iv x2, jv x3, .second, iv (w0_3 x0 x1 x2 x3), iv (w0_10 x0 x1 x2 x3), iv (j0_25_s0 x0 x1 x2 x3), rv b3, .unset, .unset, .unset, .unset, .unset] [(.int (rA2 (w0_3 x0 x1 x2 x3) x3)), (.int (2 : Int32)), (.ref b3)])) (fun t k => st8.trans k) ?_
    obtain ⟨cl9, Ar9, q9, S9, M9, Hs9, G9⟩ := id V_b3
    have hin9 : ¬ ((2 : Int32) < 0 ∨ cl9.slots.size ≤ ((2 : Int32)).toNatClampNeg) := inb_of S9 ⟨(by decide), (by decide)⟩
    obtain ⟨T9, h9, X9, e9, W9, st9⟩ := stC X8 hx hZ e8 Ar9 (j := (2 : Int32)) hin9 (g := (mkF m 65 #[iv x0, iv x1, iv x2, jv x3, .second, iv (w0_3 x0 x1 x2 x3), iv (w0_10 x0 x1 x2 x3), iv (j0_25_s0 x0 x1 x2 x3), rv b3, .unset, .unset, .unset, .unset, .unset] [(.int (rA2 (w0_3 x0 x1 x2 x3) x3)), (.int (2 : Int32)), (.ref b3)])) rfl rfl (hb hby at_65)
    have sk9 := ((Safe.arv hZ.alike V_b3 (by decide)) : Safe Z consts_1 T8.vm h8 b3)
    have CH9 := CH8.trans (CHr.wr W9 sk9 CH8.1)
    have E_b3 := E_b3.wr W9
    have Zn9 : n0 ≤ h9.size := Nat.le_trans Zn8 (Keep.of_wr W9).1
    have Od9 := Od8.wr W9 g_b3
    have hk9e := Nat.le_trans hk8 (Keep.of_wr W9).1
    have N9 := Fr.snoc X9 N8 g_b3
    have V_b3 : Arv Z h9 b3 k3 .char (8 : Int32) [(.int (w0_43 x0 x1 x2 x3)), (.int (w0_54 x0 x1 x2 x3)), (.int (w0_65 x0 x1 x2 x3)), (.int (0 : Int32)), (.int (0 : Int32)), (.int (0 : Int32)), (.int (0 : Int32)), (.int (0 : Int32))] (.int (0 : Int32)) := Arv.set Ar9 q9 S9 M9 Hs9 G9 (fits_nar_char _) W9 2 rfl (Nat.le_of_ble_eq_true rfl)
    refine GoesH.st (B := T9.setTop (mkF m 66 #[iv x0, iv x1, iv x2, jv x3, .second, iv (w0_3 x0 x1 x2 x3), iv (w0_10 x0 x1 x2 x3), iv (j0_25_s0 x0 x1 x2 x3), rv b3, .unset, .unset, .unset, .unset, .unset] [])) st9 ?_
    refine GoesH.run X9 hx hown hci hcl hby (L := [(66, .aload 8, 2), (68, .iconst 3, 1), (69, .iload 5, 2), (71, .iconst 3, 1), (72, .lload_n 3, 1)]) (by decide +kernel) rfl (g' := (mkF m 73 #[iv x0, iv x1, iv x2, jv x3, .second, iv (w0_3 x0 x1 x2 x3), iv (w0_10 x0 x1 x2 x3), iv (j0_25_s0 x0 x1 x2 x3), rv b3, .unset, .unset, .unset, .unset, .unset] [(.long x3), (.int (3 : Int32)), (.int (w0_3 x0 x1 x2 x3)), (.int (3 : Int32)), (.ref b3)])) rfl ?_
    obtain ⟨_, _, ⟨T10, L10, k10, n10⟩, -, X10, Sq10, gq10, ⟨Lc10, hQ10, l10, y10, z10, CHq10⟩, st10⟩ := callSS X9 hx (y := ym1) hown (mvT hZ w_1) (mvT hZ w_2) (mvT hZ w_3) (mvT hZ w_4) (by decide) (own_backH (W := 2) (rmA3 l Z a0 hw [] (w0_3 x0 x1 x2 x3) x3 G1 G3 h9 n0 Zn9 Od9 O2 O4 P5 rG3) hZ w_4 w_3 (by decide) (by decide) hEL CH9.1 own_sf0) (g := (mkF m 73 #[iv x0, iv x1, iv x2, jv x3, .second, iv (w0_3 x0 x1 x2 x3), iv (w0_10 x0 x1 x2 x3), iv (j0_25_s0 x0 x1 x2 x3), rv b3, .unset, .unset, .unset, .unset, .unset] [(.long x3), (.int (3 : Int32)), (.int (w0_3 x0 x1 x2 x3)), (.int (3 : Int32)), (.ref b3)])) rfl (by rw [hml]; rfl) (argsL := [(.int (w0_3 x0 x1 x2 x3)), (.int (3 : Int32)), (.long x3)]) (rest := [(.int (3 : Int32)), (.ref b3)]) (lenOf pd0_0 rfl) rfl (by show 2 * 0 + _ ≤ _; exact Nat.le_of_eq rfl) (hb hby at_73) (fun _ _ => ⟨rfl, e9, (by decide : 7 + 2 ≤ _), (by decide : 104 + 32 ≤ _)⟩)
    dsimp only [Pt.U, Pt.locs, Pt.cells, Pt.slots] at X10 l10 y10 z10 st10 hQ10 Sq10 gq10 CHq10
    subst l10 y10 z10
    obtain ⟨h10, eh10⟩ : ∃ z, z = T10.heap := ⟨_, rfl⟩
    rw [← eh10] at hQ10 CHq10
    have e10 : T10.heap = h10 := eh10.symm
    have X10 := (show Stand p l e room_1 (s.setVm T10.vm) m #[(.int x0), (.int x1), (.int x2), (.long x3)] below meth c T10 _ _ _ from X10)
    have Sn10 : s.Since T10.vm h10.size := by rw [← e10]; exact foldS Sn8 (by rw [e9]; exact hk9e) Sq10 gq10
    have hk10 : h10.size ≤ h10.size := Nat.le_refl _
    have hZ : Z.Warmed39 (s.setVm T10.vm).vm := State.Warmed39.trans (t := (s.setVm T8.vm)) hZ Sq10.1
    have hown : (s.setVm T10.vm).vm.findClass "com/example/upcaster/upcaster/io/CodecNamedPinLaw" = some m.cls := by rw [show (s.setVm T10.vm).vm = T10.vm from rfl, Sq10.1.alike.findClass]; exact hown
    have CH10 := CH9.trans CHq10
    obtain ⟨rfl, N10q, Kq10⟩ := hQ10
    have N10 := Fr.app N9 N10q
    have E_b3 := E_b3.keep Kq10
    have V_b3 := V_b3.keep Kq10 nin0
    have Zn10 : n0 ≤ h10.size := Nat.le_trans Zn9 Kq10.1
    have hk10e := Nat.le_trans hk9e Kq10.1
    have Od10 := Od9.keep Kq10 all0
    have hci : ∀ i v, (i, v) ∈ ([] : List (Nat × Int32)) → (Jvm.Cond.constant "com/example/upcaster/upcaster/io/CodecNamedPinLaw" i v).before #[(.int x0), (.int x1), (.int x2), (.long x3)] (s.setVm T10.vm) = true := own_ci0
    have hcl : ∀ i v, (i, v) ∈ ([(45, 255)] : List (Nat × Int64)) → (Jvm.Cond.constantLong "com/example/upcaster/upcaster/io/CodecNamedPinLaw" i v).before #[(.int x0), (.int x1), (.int x2), (.long x3)] (s.setVm T10.vm) = true := (own_ciS (mvT hZ w_38) own_ci0)
    refine GoesH.st (B := T10.setTop (mkF m 76 #[iv x0, iv x1, iv x2, jv x3, .second, iv (w0_3 x0 x1 x2 x3), iv (w0_10 x0 x1 x2 x3), iv (j0_25_s0 x0 x1 x2 x3), rv b3, .unset, .unset, .unset, .unset, .unset] [(.int (rA3 (w0_3 x0 x1 x2 x3) x3)), (.int (3 : Int32)), (.ref b3)])) (fun t k => st10.trans k) ?_
    obtain ⟨cl11, Ar11, q11, S11, M11, Hs11, G11⟩ := id V_b3
    have hin11 : ¬ ((3 : Int32) < 0 ∨ cl11.slots.size ≤ ((3 : Int32)).toNatClampNeg) := inb_of S11 ⟨(by decide), (by decide)⟩
    obtain ⟨T11, h11, X11, e11, W11, st11⟩ := stC X10 hx hZ e10 Ar11 (j := (3 : Int32)) hin11 (g := (mkF m 76 #[iv x0, iv x1, iv x2, jv x3, .second, iv (w0_3 x0 x1 x2 x3), iv (w0_10 x0 x1 x2 x3), iv (j0_25_s0 x0 x1 x2 x3), rv b3, .unset, .unset, .unset, .unset, .unset] [(.int (rA3 (w0_3 x0 x1 x2 x3) x3)), (.int (3 : Int32)), (.ref b3)])) rfl rfl (hb hby at_76)
    have sk11 := ((Safe.arv hZ.alike V_b3 (by decide)) : Safe Z consts_1 T10.vm h10 b3)
    have CH11 := CH10.trans (CHr.wr W11 sk11 CH10.1)
    have E_b3 := E_b3.wr W11
    have Zn11 : n0 ≤ h11.size := Nat.le_trans Zn10 (Keep.of_wr W11).1
    have Od11 := Od10.wr W11 g_b3
    have hk11e := Nat.le_trans hk10 (Keep.of_wr W11).1
    have N11 := Fr.snoc X11 N10 g_b3
    have V_b3 : Arv Z h11 b3 k3 .char (8 : Int32) [(.int (w0_43 x0 x1 x2 x3)), (.int (w0_54 x0 x1 x2 x3)), (.int (w0_65 x0 x1 x2 x3)), (.int (w0_76 x0 x1 x2 x3)), (.int (0 : Int32)), (.int (0 : Int32)), (.int (0 : Int32)), (.int (0 : Int32))] (.int (0 : Int32)) := Arv.set Ar11 q11 S11 M11 Hs11 G11 (fits_nar_char _) W11 3 rfl (Nat.le_of_ble_eq_true rfl)
    refine GoesH.st (B := T11.setTop (mkF m 77 #[iv x0, iv x1, iv x2, jv x3, .second, iv (w0_3 x0 x1 x2 x3), iv (w0_10 x0 x1 x2 x3), iv (j0_25_s0 x0 x1 x2 x3), rv b3, .unset, .unset, .unset, .unset, .unset] [])) st11 ?_
    refine GoesH.run X11 hx hown hci hcl hby (L := [(77, .aload 8, 2), (79, .iconst 4, 1), (80, .iload 5, 2), (82, .iconst 4, 1), (83, .lload_n 3, 1)]) (by decide +kernel) rfl (g' := (mkF m 84 #[iv x0, iv x1, iv x2, jv x3, .second, iv (w0_3 x0 x1 x2 x3), iv (w0_10 x0 x1 x2 x3), iv (j0_25_s0 x0 x1 x2 x3), rv b3, .unset, .unset, .unset, .unset, .unset] [(.long x3), (.int (4 : Int32)), (.int (w0_3 x0 x1 x2 x3)), (.int (4 : Int32)), (.ref b3)])) rfl ?_
    obtain ⟨_, _, ⟨T12, L12, k12, n12⟩, -, X12, Sq12, gq12, ⟨Lc12, hQ12, l12, y12, z12, CHq12⟩, st12⟩ := callSS X11 hx (y := ym1) hown (mvT hZ w_1) (mvT hZ w_2) (mvT hZ w_3) (mvT hZ w_4) (by decide) (own_backH (W := 2) (rmA4 l Z a0 hw [] (w0_3 x0 x1 x2 x3) x3 G1 G3 h11 n0 Zn11 Od11 O2 O4 P5 rG3) hZ w_4 w_3 (by decide) (by decide) hEL CH11.1 own_sf0) (g := (mkF m 84 #[iv x0, iv x1, iv x2, jv x3, .second, iv (w0_3 x0 x1 x2 x3), iv (w0_10 x0 x1 x2 x3), iv (j0_25_s0 x0 x1 x2 x3), rv b3, .unset, .unset, .unset, .unset, .unset] [(.long x3), (.int (4 : Int32)), (.int (w0_3 x0 x1 x2 x3)), (.int (4 : Int32)), (.ref b3)])) rfl (by rw [hml]; rfl) (argsL := [(.int (w0_3 x0 x1 x2 x3)), (.int (4 : Int32)), (.long x3)]) (rest := [(.int (4 : Int32)), (.ref b3)]) (lenOf pd0_0 rfl) rfl (by show 2 * 0 + _ ≤ _; exact Nat.le_of_eq rfl) (hb hby at_84) (fun _ _ => ⟨rfl, e11, (by decide : 9 + 2 ≤ _), (by decide : 136 + 32 ≤ _)⟩)
    dsimp only [Pt.U, Pt.locs, Pt.cells, Pt.slots] at X12 l12 y12 z12 st12 hQ12 Sq12 gq12 CHq12
    subst l12 y12 z12
    obtain ⟨h12, eh12⟩ : ∃ z, z = T12.heap := ⟨_, rfl⟩
    rw [← eh12] at hQ12 CHq12
    have e12 : T12.heap = h12 := eh12.symm
    have X12 := (show Stand p l e room_1 (s.setVm T12.vm) m #[(.int x0), (.int x1), (.int x2), (.long x3)] below meth c T12 _ _ _ from X12)
    have Sn12 : s.Since T12.vm h12.size := by rw [← e12]; exact foldS Sn10 (by rw [e11]; exact hk11e) Sq12 gq12
    have hk12 : h12.size ≤ h12.size := Nat.le_refl _
    have hZ : Z.Warmed39 (s.setVm T12.vm).vm := State.Warmed39.trans (t := (s.setVm T10.vm)) hZ Sq12.1
    have hown : (s.setVm T12.vm).vm.findClass "com/example/upcaster/upcaster/io/CodecNamedPinLaw" = some m.cls := by rw [show (s.setVm T12.vm).vm = T12.vm from rfl, Sq12.1.alike.findClass]; exact hown
    have CH12 := CH11.trans CHq12
    obtain ⟨rfl, N12q, Kq12⟩ := hQ12
    have N12 := Fr.app N11 N12q
    have E_b3 := E_b3.keep Kq12
    have V_b3 := V_b3.keep Kq12 nin0
    have Zn12 : n0 ≤ h12.size := Nat.le_trans Zn11 Kq12.1
    have hk12e := Nat.le_trans hk11e Kq12.1
    have Od12 := Od11.keep Kq12 all0
    have hci : ∀ i v, (i, v) ∈ ([] : List (Nat × Int32)) → (Jvm.Cond.constant "com/example/upcaster/upcaster/io/CodecNamedPinLaw" i v).before #[(.int x0), (.int x1), (.int x2), (.long x3)] (s.setVm T12.vm) = true := own_ci0
    have hcl : ∀ i v, (i, v) ∈ ([(45, 255)] : List (Nat × Int64)) → (Jvm.Cond.constantLong "com/example/upcaster/upcaster/io/CodecNamedPinLaw" i v).before #[(.int x0), (.int x1), (.int x2), (.long x3)] (s.setVm T12.vm) = true := (own_ciS (mvT hZ w_38) own_ci0)
    refine GoesH.st (B := T12.setTop (mkF m 87 #[iv x0, iv x1, iv x2, jv x3, .second, iv (w0_3 x0 x1 x2 x3), iv (w0_10 x0 x1 x2 x3), iv (j0_25_s0 x0 x1 x2 x3), rv b3, .unset, .unset, .unset, .unset, .unset] [(.int (rA4 (w0_3 x0 x1 x2 x3) x3)), (.int (4 : Int32)), (.ref b3)])) (fun t k => st12.trans k) ?_
    obtain ⟨cl13, Ar13, q13, S13, M13, Hs13, G13⟩ := id V_b3
    have hin13 : ¬ ((4 : Int32) < 0 ∨ cl13.slots.size ≤ ((4 : Int32)).toNatClampNeg) := inb_of S13 ⟨(by decide), (by decide)⟩
    obtain ⟨T13, h13, X13, e13, W13, st13⟩ := stC X12 hx hZ e12 Ar13 (j := (4 : Int32)) hin13 (g := (mkF m 87 #[iv x0, iv x1, iv x2, jv x3, .second, iv (w0_3 x0 x1 x2 x3), iv (w0_10 x0 x1 x2 x3), iv (j0_25_s0 x0 x1 x2 x3), rv b3, .unset, .unset, .unset, .unset, .unset] [(.int (rA4 (w0_3 x0 x1 x2 x3) x3)), (.int (4 : Int32)), (.ref b3)])) rfl rfl (hb hby at_87)
    have sk13 := ((Safe.arv hZ.alike V_b3 (by decide)) : Safe Z consts_1 T12.vm h12 b3)
    have CH13 := CH12.trans (CHr.wr W13 sk13 CH12.1)
    have E_b3 := E_b3.wr W13
    have Zn13 : n0 ≤ h13.size := Nat.le_trans Zn12 (Keep.of_wr W13).1
    have Od13 := Od12.wr W13 g_b3
    have hk13e := Nat.le_trans hk12 (Keep.of_wr W13).1
    have N13 := Fr.snoc X13 N12 g_b3
    have V_b3 : Arv Z h13 b3 k3 .char (8 : Int32) [(.int (w0_43 x0 x1 x2 x3)), (.int (w0_54 x0 x1 x2 x3)), (.int (w0_65 x0 x1 x2 x3)), (.int (w0_76 x0 x1 x2 x3)), (.int (w0_87 x0 x1 x2 x3)), (.int (0 : Int32)), (.int (0 : Int32)), (.int (0 : Int32))] (.int (0 : Int32)) := Arv.set Ar13 q13 S13 M13 Hs13 G13 (fits_nar_char _) W13 4 rfl (Nat.le_of_ble_eq_true rfl)
    refine GoesH.st (B := T13.setTop (mkF m 88 #[iv x0, iv x1, iv x2, jv x3, .second, iv (w0_3 x0 x1 x2 x3), iv (w0_10 x0 x1 x2 x3), iv (j0_25_s0 x0 x1 x2 x3), rv b3, .unset, .unset, .unset, .unset, .unset] [])) st13 ?_
    refine GoesH.run X13 hx hown hci hcl hby (L := [(88, .aload 8, 2), (90, .iconst 5, 1), (91, .iload 5, 2), (93, .iconst 5, 1), (94, .lload_n 3, 1)]) (by decide +kernel) rfl (g' := (mkF m 95 #[iv x0, iv x1, iv x2, jv x3, .second, iv (w0_3 x0 x1 x2 x3), iv (w0_10 x0 x1 x2 x3), iv (j0_25_s0 x0 x1 x2 x3), rv b3, .unset, .unset, .unset, .unset, .unset] [(.long x3), (.int (5 : Int32)), (.int (w0_3 x0 x1 x2 x3)), (.int (5 : Int32)), (.ref b3)])) rfl ?_
    obtain ⟨_, _, ⟨T14, L14, k14, n14⟩, -, X14, Sq14, gq14, ⟨Lc14, hQ14, l14, y14, z14, CHq14⟩, st14⟩ := callSS X13 hx (y := ym1) hown (mvT hZ w_1) (mvT hZ w_2) (mvT hZ w_3) (mvT hZ w_4) (by decide) (own_backH (W := 2) (rmA5 l Z a0 hw [] (w0_3 x0 x1 x2 x3) x3 G1 G3 h13 n0 Zn13 Od13 O2 O4 P5 rG3) hZ w_4 w_3 (by decide) (by decide) hEL CH13.1 own_sf0) (g := (mkF m 95 #[iv x0, iv x1, iv x2, jv x3, .second, iv (w0_3 x0 x1 x2 x3), iv (w0_10 x0 x1 x2 x3), iv (j0_25_s0 x0 x1 x2 x3), rv b3, .unset, .unset, .unset, .unset, .unset] [(.long x3), (.int (5 : Int32)), (.int (w0_3 x0 x1 x2 x3)), (.int (5 : Int32)), (.ref b3)])) rfl (by rw [hml]; rfl) (argsL := [(.int (w0_3 x0 x1 x2 x3)), (.int (5 : Int32)), (.long x3)]) (rest := [(.int (5 : Int32)), (.ref b3)]) (lenOf pd0_0 rfl) rfl (by show 2 * 0 + _ ≤ _; exact Nat.le_of_eq rfl) (hb hby at_95) (fun _ _ => ⟨rfl, e13, (by decide : 11 + 2 ≤ _), (by decide : 168 + 32 ≤ _)⟩)
    dsimp only [Pt.U, Pt.locs, Pt.cells, Pt.slots] at X14 l14 y14 z14 st14 hQ14 Sq14 gq14 CHq14
    subst l14 y14 z14
    obtain ⟨h14, eh14⟩ : ∃ z, z = T14.heap := ⟨_, rfl⟩
    rw [← eh14] at hQ14 CHq14
    have e14 : T14.heap = h14 := eh14.symm
    have X14 := (show Stand p l e room_1 (s.setVm T14.vm) m #[(.int x0), (.int x1), (.int x2), (.long x3)] below meth c T14 _ _ _ from X14)
    have Sn14 : s.Since T14.vm h14.size := by rw [← e14]; exact foldS Sn12 (by rw [e13]; exact hk13e) Sq14 gq14
    have hk14 : h14.size ≤ h14.size := Nat.le_refl _
    have hZ : Z.Warmed39 (s.setVm T14.vm).vm := State.Warmed39.trans (t := (s.setVm T12.vm)) hZ Sq14.1
    have hown : (s.setVm T14.vm).vm.findClass "com/example/upcaster/upcaster/io/CodecNamedPinLaw" = some m.cls := by rw [show (s.setVm T14.vm).vm = T14.vm from rfl, Sq14.1.alike.findClass]; exact hown
    have CH14 := CH13.trans CHq14
    obtain ⟨rfl, N14q, Kq14⟩ := hQ14
    have N14 := Fr.app N13 N14q
    have E_b3 := E_b3.keep Kq14
    have V_b3 := V_b3.keep Kq14 nin0
    have Zn14 : n0 ≤ h14.size := Nat.le_trans Zn13 Kq14.1
    have hk14e := Nat.le_trans hk13e Kq14.1
    have Od14 := Od13.keep Kq14 all0
    have hci : ∀ i v, (i, v) ∈ ([] : List (Nat × Int32)) → (Jvm.Cond.constant "com/example/upcaster/upcaster/io/CodecNamedPinLaw" i v).before #[(.int x0), (.int x1), (.int x2), (.long x3)] (s.setVm T14.vm) = true := own_ci0
    have hcl : ∀ i v, (i, v) ∈ ([(45, 255)] : List (Nat × Int64)) → (Jvm.Cond.constantLong "com/example/upcaster/upcaster/io/CodecNamedPinLaw" i v).before #[(.int x0), (.int x1), (.int x2), (.long x3)] (s.setVm T14.vm) = true := (own_ciS (mvT hZ w_38) own_ci0)
    refine GoesH.st (B := T14.setTop (mkF m 98 #[iv x0, iv x1, iv x2, jv x3, .second, iv (w0_3 x0 x1 x2 x3), iv (w0_10 x0 x1 x2 x3), iv (j0_25_s0 x0 x1 x2 x3), rv b3, .unset, .unset, .unset, .unset, .unset] [(.int (rA5 (w0_3 x0 x1 x2 x3) x3)), (.int (5 : Int32)), (.ref b3)])) (fun t k => st14.trans k) ?_
    obtain ⟨cl15, Ar15, q15, S15, M15, Hs15, G15⟩ := id V_b3
    have hin15 : ¬ ((5 : Int32) < 0 ∨ cl15.slots.size ≤ ((5 : Int32)).toNatClampNeg) := inb_of S15 ⟨(by decide), (by decide)⟩
    obtain ⟨T15, h15, X15, e15, W15, st15⟩ := stC X14 hx hZ e14 Ar15 (j := (5 : Int32)) hin15 (g := (mkF m 98 #[iv x0, iv x1, iv x2, jv x3, .second, iv (w0_3 x0 x1 x2 x3), iv (w0_10 x0 x1 x2 x3), iv (j0_25_s0 x0 x1 x2 x3), rv b3, .unset, .unset, .unset, .unset, .unset] [(.int (rA5 (w0_3 x0 x1 x2 x3) x3)), (.int (5 : Int32)), (.ref b3)])) rfl rfl (hb hby at_98)
    have sk15 := ((Safe.arv hZ.alike V_b3 (by decide)) : Safe Z consts_1 T14.vm h14 b3)
    have CH15 := CH14.trans (CHr.wr W15 sk15 CH14.1)
    have E_b3 := E_b3.wr W15
    have Zn15 : n0 ≤ h15.size := Nat.le_trans Zn14 (Keep.of_wr W15).1
    have Od15 := Od14.wr W15 g_b3
    have hk15e := Nat.le_trans hk14 (Keep.of_wr W15).1
    have N15 := Fr.snoc X15 N14 g_b3
    have V_b3 : Arv Z h15 b3 k3 .char (8 : Int32) [(.int (w0_43 x0 x1 x2 x3)), (.int (w0_54 x0 x1 x2 x3)), (.int (w0_65 x0 x1 x2 x3)), (.int (w0_76 x0 x1 x2 x3)), (.int (w0_87 x0 x1 x2 x3)), (.int (w0_98 x0 x1 x2 x3)), (.int (0 : Int32)), (.int (0 : Int32))] (.int (0 : Int32)) := Arv.set Ar15 q15 S15 M15 Hs15 G15 (fits_nar_char _) W15 5 rfl (Nat.le_of_ble_eq_true rfl)
    refine GoesH.st (B := T15.setTop (mkF m 99 #[iv x0, iv x1, iv x2, jv x3, .second, iv (w0_3 x0 x1 x2 x3), iv (w0_10 x0 x1 x2 x3), iv (j0_25_s0 x0 x1 x2 x3), rv b3, .unset, .unset, .unset, .unset, .unset] [])) st15 ?_
    refine GoesH.run X15 hx hown hci hcl hby (L := [(99, .aload 8, 2), (101, .bipush 6, 2), (103, .iload 5, 2), (105, .bipush 6, 2), (107, .lload_n 3, 1)]) (by decide +kernel) rfl (g' := (mkF m 108 #[iv x0, iv x1, iv x2, jv x3, .second, iv (w0_3 x0 x1 x2 x3), iv (w0_10 x0 x1 x2 x3), iv (j0_25_s0 x0 x1 x2 x3), rv b3, .unset, .unset, .unset, .unset, .unset] [(.long x3), (.int (6 : Int32)), (.int (w0_3 x0 x1 x2 x3)), (.int (6 : Int32)), (.ref b3)])) rfl ?_
    obtain ⟨_, _, ⟨T16, L16, k16, n16⟩, -, X16, Sq16, gq16, ⟨Lc16, hQ16, l16, y16, z16, CHq16⟩, st16⟩ := callSS X15 hx (y := ym1) hown (mvT hZ w_1) (mvT hZ w_2) (mvT hZ w_3) (mvT hZ w_4) (by decide) (own_backH (W := 2) (rmA6 l Z a0 hw [] (w0_3 x0 x1 x2 x3) x3 G1 G3 h15 n0 Zn15 Od15 O2 O4 P5 rG3) hZ w_4 w_3 (by decide) (by decide) hEL CH15.1 own_sf0) (g := (mkF m 108 #[iv x0, iv x1, iv x2, jv x3, .second, iv (w0_3 x0 x1 x2 x3), iv (w0_10 x0 x1 x2 x3), iv (j0_25_s0 x0 x1 x2 x3), rv b3, .unset, .unset, .unset, .unset, .unset] [(.long x3), (.int (6 : Int32)), (.int (w0_3 x0 x1 x2 x3)), (.int (6 : Int32)), (.ref b3)])) rfl (by rw [hml]; rfl) (argsL := [(.int (w0_3 x0 x1 x2 x3)), (.int (6 : Int32)), (.long x3)]) (rest := [(.int (6 : Int32)), (.ref b3)]) (lenOf pd0_0 rfl) rfl (by show 2 * 0 + _ ≤ _; exact Nat.le_of_eq rfl) (hb hby at_108) (fun _ _ => ⟨rfl, e15, (by decide : 13 + 2 ≤ _), (by decide : 200 + 32 ≤ _)⟩)
    dsimp only [Pt.U, Pt.locs, Pt.cells, Pt.slots] at X16 l16 y16 z16 st16 hQ16 Sq16 gq16 CHq16
    subst l16 y16 z16
    obtain ⟨h16, eh16⟩ : ∃ z, z = T16.heap := ⟨_, rfl⟩
    rw [← eh16] at hQ16 CHq16
    have e16 : T16.heap = h16 := eh16.symm
    have X16 := (show Stand p l e room_1 (s.setVm T16.vm) m #[(.int x0), (.int x1), (.int x2), (.long x3)] below meth c T16 _ _ _ from X16)
    have Sn16 : s.Since T16.vm h16.size := by rw [← e16]; exact foldS Sn14 (by rw [e15]; exact hk15e) Sq16 gq16
    have hk16 : h16.size ≤ h16.size := Nat.le_refl _
    have hZ : Z.Warmed39 (s.setVm T16.vm).vm := State.Warmed39.trans (t := (s.setVm T14.vm)) hZ Sq16.1
    have hown : (s.setVm T16.vm).vm.findClass "com/example/upcaster/upcaster/io/CodecNamedPinLaw" = some m.cls := by rw [show (s.setVm T16.vm).vm = T16.vm from rfl, Sq16.1.alike.findClass]; exact hown
    have CH16 := CH15.trans CHq16
    obtain ⟨rfl, N16q, Kq16⟩ := hQ16
    have N16 := Fr.app N15 N16q
    have E_b3 := E_b3.keep Kq16
    have V_b3 := V_b3.keep Kq16 nin0
    have Zn16 : n0 ≤ h16.size := Nat.le_trans Zn15 Kq16.1
    have hk16e := Nat.le_trans hk15e Kq16.1
    have Od16 := Od15.keep Kq16 all0
    have hci : ∀ i v, (i, v) ∈ ([] : List (Nat × Int32)) → (Jvm.Cond.constant "com/example/upcaster/upcaster/io/CodecNamedPinLaw" i v).before #[(.int x0), (.int x1), (.int x2), (.long x3)] (s.setVm T16.vm) = true := own_ci0
    have hcl : ∀ i v, (i, v) ∈ ([(45, 255)] : List (Nat × Int64)) → (Jvm.Cond.constantLong "com/example/upcaster/upcaster/io/CodecNamedPinLaw" i v).before #[(.int x0), (.int x1), (.int x2), (.long x3)] (s.setVm T16.vm) = true := (own_ciS (mvT hZ w_38) own_ci0)
    refine GoesH.st (B := T16.setTop (mkF m 111 #[iv x0, iv x1, iv x2, jv x3, .second, iv (w0_3 x0 x1 x2 x3), iv (w0_10 x0 x1 x2 x3), iv (j0_25_s0 x0 x1 x2 x3), rv b3, .unset, .unset, .unset, .unset, .unset] [(.int (rA6 (w0_3 x0 x1 x2 x3) x3)), (.int (6 : Int32)), (.ref b3)])) (fun t k => st16.trans k) ?_
    obtain ⟨cl17, Ar17, q17, S17, M17, Hs17, G17⟩ := id V_b3
    have hin17 : ¬ ((6 : Int32) < 0 ∨ cl17.slots.size ≤ ((6 : Int32)).toNatClampNeg) := inb_of S17 ⟨(by decide), (by decide)⟩
    obtain ⟨T17, h17, X17, e17, W17, st17⟩ := stC X16 hx hZ e16 Ar17 (j := (6 : Int32)) hin17 (g := (mkF m 111 #[iv x0, iv x1, iv x2, jv x3, .second, iv (w0_3 x0 x1 x2 x3), iv (w0_10 x0 x1 x2 x3), iv (j0_25_s0 x0 x1 x2 x3), rv b3, .unset, .unset, .unset, .unset, .unset] [(.int (rA6 (w0_3 x0 x1 x2 x3) x3)), (.int (6 : Int32)), (.ref b3)])) rfl rfl (hb hby at_111)
    have sk17 := ((Safe.arv hZ.alike V_b3 (by decide)) : Safe Z consts_1 T16.vm h16 b3)
    have CH17 := CH16.trans (CHr.wr W17 sk17 CH16.1)
    have E_b3 := E_b3.wr W17
    have Zn17 : n0 ≤ h17.size := Nat.le_trans Zn16 (Keep.of_wr W17).1
    have Od17 := Od16.wr W17 g_b3
    have hk17e := Nat.le_trans hk16 (Keep.of_wr W17).1
    have N17 := Fr.snoc X17 N16 g_b3
    have V_b3 : Arv Z h17 b3 k3 .char (8 : Int32) [(.int (w0_43 x0 x1 x2 x3)), (.int (w0_54 x0 x1 x2 x3)), (.int (w0_65 x0 x1 x2 x3)), (.int (w0_76 x0 x1 x2 x3)), (.int (w0_87 x0 x1 x2 x3)), (.int (w0_98 x0 x1 x2 x3)), (.int (w0_111 x0 x1 x2 x3)), (.int (0 : Int32))] (.int (0 : Int32)) := Arv.set Ar17 q17 S17 M17 Hs17 G17 (fits_nar_char _) W17 6 rfl (Nat.le_of_ble_eq_true rfl)
    refine GoesH.st (B := T17.setTop (mkF m 112 #[iv x0, iv x1, iv x2, jv x3, .second, iv (w0_3 x0 x1 x2 x3), iv (w0_10 x0 x1 x2 x3), iv (j0_25_s0 x0 x1 x2 x3), rv b3, .unset, .unset, .unset, .unset, .unset] [])) st17 ?_
    refine GoesH.run X17 hx hown hci hcl hby (L := [(112, .aload 8, 2), (114, .bipush 7, 2), (116, .iload 5, 2), (118, .bipush 7, 2), (120, .lload_n 3, 1)]) (by decide +kernel) rfl (g' := (mkF m 121 #[iv x0, iv x1, iv x2, jv x3, .second, iv (w0_3 x0 x1 x2 x3), iv (w0_10 x0 x1 x2 x3), iv (j0_25_s0 x0 x1 x2 x3), rv b3, .unset, .unset, .unset, .unset, .unset] [(.long x3), (.int (7 : Int32)), (.int (w0_3 x0 x1 x2 x3)), (.int (7 : Int32)), (.ref b3)])) rfl ?_
    obtain ⟨_, _, ⟨T18, L18, k18, n18⟩, -, X18, ⟨Lc18, hQ18, l18, y18, z18⟩, st18⟩ := Jvm.LawKit.callS X17 hx (y := ym1) hown (mvT hZ w_1) (mvT hZ w_2) (mvT hZ w_3) (mvT hZ w_4) (by decide) (backOf (W := 2) (rmA7 l Z a0 hw [] (w0_3 x0 x1 x2 x3) x3 h17 n0 Zn17 ) hZ w_4 w_3 (by decide) (by decide)) (g := (mkF m 121 #[iv x0, iv x1, iv x2, jv x3, .second, iv (w0_3 x0 x1 x2 x3), iv (w0_10 x0 x1 x2 x3), iv (j0_25_s0 x0 x1 x2 x3), rv b3, .unset, .unset, .unset, .unset, .unset] [(.long x3), (.int (7 : Int32)), (.int (w0_3 x0 x1 x2 x3)), (.int (7 : Int32)), (.ref b3)])) rfl (by rw [hml]; rfl) (argsL := [(.int (w0_3 x0 x1 x2 x3)), (.int (7 : Int32)), (.long x3)]) (rest := [(.int (7 : Int32)), (.ref b3)]) (lenOf pd0_0 rfl) rfl (by show 2 * 0 + _ ≤ _; exact Nat.le_of_eq rfl) (hb hby at_121) (fun _ _ => ⟨rfl, e17, (by decide : 15 + 0 ≤ _), (by decide : 232 + 0 ≤ _)⟩)
    dsimp only [Pt.U, Pt.locs, Pt.cells, Pt.slots] at X18 l18 y18 z18 st18 hQ18
    subst l18 y18 z18
    obtain ⟨rfl, N18q, e18⟩ := hQ18
    have N18 := Fr.app N17 N18q
    refine GoesH.st (B := T18.setTop (mkF m 124 #[iv x0, iv x1, iv x2, jv x3, .second, iv (w0_3 x0 x1 x2 x3), iv (w0_10 x0 x1 x2 x3), iv (j0_25_s0 x0 x1 x2 x3), rv b3, .unset, .unset, .unset, .unset, .unset] [(.int (rA7 (w0_3 x0 x1 x2 x3) x3)), (.int (7 : Int32)), (.ref b3)])) st18 ?_
    obtain ⟨cl19, Ar19, q19, S19, M19, Hs19, G19⟩ := id V_b3
    have hin19 : ¬ ((7 : Int32) < 0 ∨ cl19.slots.size ≤ ((7 : Int32)).toNatClampNeg) := inb_of S19 ⟨(by decide), (by decide)⟩
    obtain ⟨T19, h19, X19, e19, W19, st19⟩ := stC X18 hx hZ e18 Ar19 (j := (7 : Int32)) hin19 (g := (mkF m 124 #[iv x0, iv x1, iv x2, jv x3, .second, iv (w0_3 x0 x1 x2 x3), iv (w0_10 x0 x1 x2 x3), iv (j0_25_s0 x0 x1 x2 x3), rv b3, .unset, .unset, .unset, .unset, .unset] [(.int (rA7 (w0_3 x0 x1 x2 x3) x3)), (.int (7 : Int32)), (.ref b3)])) rfl rfl (hb hby at_124)
    have sk19 := ((Safe.arv hZ.alike V_b3 (by decide)) : Safe Z consts_1 T16.vm h17 b3)
    have CH19 := CH17.trans (CHr.wr W19 sk19 CH17.1)
    have E_b3 := E_b3.wr W19
    have Zn19 : n0 ≤ h19.size := Nat.le_trans Zn17 (Keep.of_wr W19).1
    have Od19 := Od17.wr W19 g_b3
    have hk19e := Nat.le_trans hk17e (Keep.of_wr W19).1
    have N19 := Fr.snoc X19 N18 g_b3
    have V_b3 : Arv Z h19 b3 k3 .char (8 : Int32) [(.int (w0_43 x0 x1 x2 x3)), (.int (w0_54 x0 x1 x2 x3)), (.int (w0_65 x0 x1 x2 x3)), (.int (w0_76 x0 x1 x2 x3)), (.int (w0_87 x0 x1 x2 x3)), (.int (w0_98 x0 x1 x2 x3)), (.int (w0_111 x0 x1 x2 x3)), (.int (w0_124 x0 x1 x2 x3))] (.int (0 : Int32)) := Arv.set Ar19 q19 S19 M19 Hs19 G19 (fits_nar_char _) W19 7 rfl (Nat.le_of_ble_eq_true rfl)
    refine GoesH.st (B := T19.setTop (mkF m 125 #[iv x0, iv x1, iv x2, jv x3, .second, iv (w0_3 x0 x1 x2 x3), iv (w0_10 x0 x1 x2 x3), iv (j0_25_s0 x0 x1 x2 x3), rv b3, .unset, .unset, .unset, .unset, .unset] [])) st19 ?_
    refine GoesH.run X19 hx hown hci hcl hby (L := [(125, .iload 7, 2)]) (by decide +kernel) rfl (g' := (mkF m 127 #[iv x0, iv x1, iv x2, jv x3, .second, iv (w0_3 x0 x1 x2 x3), iv (w0_10 x0 x1 x2 x3), iv (j0_25_s0 x0 x1 x2 x3), rv b3, .unset, .unset, .unset, .unset, .unset] [(.int (j0_25_s0 x0 x1 x2 x3))])) rfl ?_
    have jn143_23 : ∀ (T22 : State) (L22 : List Loc) (h22 : Heap) (vm22 : Vm) (X22 : Stand p l e room_1 (s.setVm vm22) m #[(.int x0), (.int x1), (.int x2), (.long x3)] below meth c T22 L22 15 232) (e22 : T22.heap = h22) (N22 : Fr n0 L22) (Zn22 : n0 ≤ h22.size) (kk22 : Nat) (Sn22 : s.Since vm22 kk22) (hk22 : kk22 ≤ h22.size) (hZ : Z.Warmed39 (s.setVm vm22).vm) (hown : (s.setVm vm22).vm.findClass "com/example/upcaster/upcaster/io/CodecNamedPinLaw" = some m.cls) (CH22 : CHr Z consts_1 s.vm h0 vm22 h22) (Od22 : Old Z n0 h22) (E_b3 : Exa Z h22 b3 "[C") (V_b3 : Arv Z h22 b3 k3 .char (8 : Int32) [(.int (j0_143_e0 x0 x1 x2 x3)), (.int (j0_143_e1 x0 x1 x2 x3)), (.int (j0_143_e2 x0 x1 x2 x3)), (.int (j0_143_e3 x0 x1 x2 x3)), (.int (j0_143_e4 x0 x1 x2 x3)), (.int (j0_143_e5 x0 x1 x2 x3)), (.int (j0_143_e6 x0 x1 x2 x3)), (.int (j0_143_e7 x0 x1 x2 x3))] (.int (0 : Int32))), GoesH Z h0 p e below s (QL (some (.int (r0 x0 x1 x2 x3))) n0) room_1.cells room_1.slots (T22.setTop (mkF m 143 #[iv x0, iv x1, iv x2, jv x3, .second, iv (w0_3 x0 x1 x2 x3), iv (w0_10 x0 x1 x2 x3), iv (j0_25_s0 x0 x1 x2 x3), rv b3, .unset, .unset, .unset, .unset, .unset] [])) := by
      intro T22 L22 h22 vm22 X22 e22 N22 Zn22 kk22 Sn22 hk22 hZ hown CH22 Od22 E_b3 V_b3
      have hci : ∀ i v, (i, v) ∈ ([] : List (Nat × Int32)) → (Jvm.Cond.constant "com/example/upcaster/upcaster/io/CodecNamedPinLaw" i v).before #[(.int x0), (.int x1), (.int x2), (.long x3)] (s.setVm vm22) = true := own_ci0
      have hcl : ∀ i v, (i, v) ∈ ([(45, 255)] : List (Nat × Int64)) → (Jvm.Cond.constantLong "com/example/upcaster/upcaster/io/CodecNamedPinLaw" i v).before #[(.int x0), (.int x1), (.int x2), (.long x3)] (s.setVm vm22) = true := (own_ciS (mvT hZ w_38) own_ci0)
      refine GoesH.run X22 hx hown hci hcl hby (L := [(143, .iload 5, 2)]) (by decide +kernel) rfl (g' := (mkF m 145 #[iv x0, iv x1, iv x2, jv x3, .second, iv (w0_3 x0 x1 x2 x3), iv (w0_10 x0 x1 x2 x3), iv (j0_25_s0 x0 x1 x2 x3), rv b3, .unset, .unset, .unset, .unset, .unset] [(.int (w0_3 x0 x1 x2 x3))])) rfl ?_
      have jn169_26 : GoesH Z h0 p e below s (QL (some (.int (r0 x0 x1 x2 x3))) n0) room_1.cells room_1.slots (T22.setTop (mkF m 169 #[iv x0, iv x1, iv x2, jv x3, .second, iv (w0_3 x0 x1 x2 x3), iv (w0_10 x0 x1 x2 x3), iv (j0_25_s0 x0 x1 x2 x3), rv b3, .unset, .unset, .unset, .unset, .unset] [(.int (j0_169_s0 x0 x1 x2 x3))])) := by
        refine GoesH.run X22 hx hown hci hcl hby (L := [(169, .istore 9, 2), (171, .iload 6, 2), (173, .iconst 1, 1)]) (by decide +kernel) rfl (g' := (mkF m 174 #[iv x0, iv x1, iv x2, jv x3, .second, iv (w0_3 x0 x1 x2 x3), iv (w0_10 x0 x1 x2 x3), iv (j0_25_s0 x0 x1 x2 x3), rv b3, iv (j0_169_s0 x0 x1 x2 x3), .unset, .unset, .unset, .unset] [(.int (1 : Int32)), (.int (w0_10 x0 x1 x2 x3))])) rfl ?_
        have jn202_30 : GoesH Z h0 p e below s (QL (some (.int (r0 x0 x1 x2 x3))) n0) room_1.cells room_1.slots (T22.setTop (mkF m 202 #[iv x0, iv x1, iv x2, jv x3, .second, iv (w0_3 x0 x1 x2 x3), iv (w0_10 x0 x1 x2 x3), iv (j0_25_s0 x0 x1 x2 x3), rv b3, iv (j0_169_s0 x0 x1 x2 x3), .unset, .unset, .unset, .unset] [(.int (j0_202_s0 x0 x1 x2 x3))])) := by
          refine GoesH.run X22 hx hown hci hcl hby (L := [(202, .istore 10, 2), (204, .bipush 8, 2), (206, .iconst 0, 1), (207, .iload 9, 2), (209, .iload 10, 2), (211, .iadd, 1)]) (by decide +kernel) rfl (g' := (mkF m 212 #[iv x0, iv x1, iv x2, jv x3, .second, iv (w0_3 x0 x1 x2 x3), iv (w0_10 x0 x1 x2 x3), iv (j0_25_s0 x0 x1 x2 x3), rv b3, iv (j0_169_s0 x0 x1 x2 x3), iv (j0_202_s0 x0 x1 x2 x3), .unset, .unset, .unset] [(.int (c0_212_0 x0 x1 x2 x3)), (.int (0 : Int32)), (.int (8 : Int32))])) rfl ?_
          obtain ⟨_, _, ⟨T31, L31, k31, n31⟩, -, X31, ⟨Lc31, hQ31, l31, y31, z31⟩, st31⟩ := Jvm.LawKit.callS X22 hx (y := ym2) hown (mvT hZ w_39) (mvT hZ w_40) (mvT hZ w_41) (mvT hZ w_42) (by decide) (backOf (W := 1) (rmB l Z a0 hw [] (0 : Int32) (c0_212_0 x0 x1 x2 x3) h22 n0 Zn22 ) hZ w_42 w_41 (by decide) (by decide)) (g := (mkF m 212 #[iv x0, iv x1, iv x2, jv x3, .second, iv (w0_3 x0 x1 x2 x3), iv (w0_10 x0 x1 x2 x3), iv (j0_25_s0 x0 x1 x2 x3), rv b3, iv (j0_169_s0 x0 x1 x2 x3), iv (j0_202_s0 x0 x1 x2 x3), .unset, .unset, .unset] [(.int (c0_212_0 x0 x1 x2 x3)), (.int (0 : Int32)), (.int (8 : Int32))])) rfl (by rw [hml]; rfl) (argsL := [(.int (0 : Int32)), (.int (c0_212_0 x0 x1 x2 x3))]) (rest := [(.int (8 : Int32))]) (lenOf pd0_1 rfl) rfl (by show 2 * 0 + _ ≤ _; exact Nat.le_of_eq rfl) (hb hby at_212) (fun _ _ => ⟨rfl, e22, (by decide : 15 + 0 ≤ _), (by decide : 232 + 0 ≤ _)⟩)
          dsimp only [Pt.U, Pt.locs, Pt.cells, Pt.slots] at X31 l31 y31 z31 st31 hQ31
          subst l31 y31 z31
          obtain ⟨rfl, N31q, e31⟩ := hQ31
          have N31 := Fr.app N22 N31q
          refine GoesH.st (B := T31.setTop (mkF m 215 #[iv x0, iv x1, iv x2, jv x3, .second, iv (w0_3 x0 x1 x2 x3), iv (w0_10 x0 x1 x2 x3), iv (j0_25_s0 x0 x1 x2 x3), rv b3, iv (j0_169_s0 x0 x1 x2 x3), iv (j0_202_s0 x0 x1 x2 x3), .unset, .unset, .unset] [(.int (rB (0 : Int32) (c0_212_0 x0 x1 x2 x3))), (.int (8 : Int32))])) st31 ?_
          obtain ⟨_, _, ⟨T32, L32, k32, n32⟩, -, X32, ⟨Lc32, hQ32, l32, y32, z32⟩, st32⟩ := Jvm.LawKit.callS X31 hx (y := ym3) hown (mvT hZ w_43) (mvT hZ w_44) (mvT hZ w_41) (mvT hZ w_45) (by decide) (backOf (W := 0) (rmC l Z a0 hw [] (8 : Int32) (c0_215_0 x0 x1 x2 x3) h22 n0 Zn22 ) hZ w_45 w_41 (by decide) (by decide)) (g := (mkF m 215 #[iv x0, iv x1, iv x2, jv x3, .second, iv (w0_3 x0 x1 x2 x3), iv (w0_10 x0 x1 x2 x3), iv (j0_25_s0 x0 x1 x2 x3), rv b3, iv (j0_169_s0 x0 x1 x2 x3), iv (j0_202_s0 x0 x1 x2 x3), .unset, .unset, .unset] [(.int (c0_215_0 x0 x1 x2 x3)), (.int (8 : Int32))])) rfl (by rw [hml]; rfl) (argsL := [(.int (8 : Int32)), (.int (c0_215_0 x0 x1 x2 x3))]) (rest := []) (lenOf pd0_1 rfl) rfl (by show 2 * 0 + _ ≤ _; exact Nat.le_of_eq rfl) (hb hby at_215) (fun _ _ => ⟨rfl, e31, (by decide : 15 + 0 ≤ _), (by decide : 232 + 0 ≤ _)⟩)
          dsimp only [Pt.U, Pt.locs, Pt.cells, Pt.slots] at X32 l32 y32 z32 st32 hQ32
          subst l32 y32 z32
          obtain ⟨rfl, N32q, e32⟩ := hQ32
          have N32 := Fr.app N31 N32q
          refine GoesH.st (B := T32.setTop (mkF m 218 #[iv x0, iv x1, iv x2, jv x3, .second, iv (w0_3 x0 x1 x2 x3), iv (w0_10 x0 x1 x2 x3), iv (j0_25_s0 x0 x1 x2 x3), rv b3, iv (j0_169_s0 x0 x1 x2 x3), iv (j0_202_s0 x0 x1 x2 x3), .unset, .unset, .unset] [(.int (rC (8 : Int32) (c0_215_0 x0 x1 x2 x3)))])) st32 ?_
          refine GoesH.run X32 hx hown hci hcl hby (L := [(218, .istore 11, 2), (220, .iload 5, 2), (222, .iconst 3, 1)]) (by decide +kernel) rfl (g' := (mkF m 223 #[iv x0, iv x1, iv x2, jv x3, .second, iv (w0_3 x0 x1 x2 x3), iv (w0_10 x0 x1 x2 x3), iv (j0_25_s0 x0 x1 x2 x3), rv b3, iv (j0_169_s0 x0 x1 x2 x3), iv (j0_202_s0 x0 x1 x2 x3), iv (w0_218 x0 x1 x2 x3), .unset, .unset] [(.int (3 : Int32)), (.int (w0_3 x0 x1 x2 x3))])) rfl ?_
          by_cases hc223_33 : (w0_3 x0 x1 x2 x3) = (3 : Int32)
          · skip
            refine GoesH.st (B := T32.setTop (mkF m 226 #[iv x0, iv x1, iv x2, jv x3, .second, iv (w0_3 x0 x1 x2 x3), iv (w0_10 x0 x1 x2 x3), iv (j0_25_s0 x0 x1 x2 x3), rv b3, iv (j0_169_s0 x0 x1 x2 x3), iv (j0_202_s0 x0 x1 x2 x3), iv (w0_218 x0 x1 x2 x3), .unset, .unset] [])) (fun t k => ?_) ?_
            · refine XS.icmpNo X32.here hx rfl (hb hby at_223) rfl (teq hc223_33).2 ?_
              exact k
            refine GoesH.run X32 hx hown hci hcl hby (L := [(226, .aconst_null, 1), (227, .goto 10, 3), (237, .astore 12, 2), (239, .aload 12, 2)]) (by decide +kernel) rfl (g' := (mkF m 241 #[iv x0, iv x1, iv x2, jv x3, .second, iv (w0_3 x0 x1 x2 x3), iv (w0_10 x0 x1 x2 x3), iv (j0_25_s0 x0 x1 x2 x3), rv b3, iv (j0_169_s0 x0 x1 x2 x3), iv (j0_202_s0 x0 x1 x2 x3), iv (w0_218 x0 x1 x2 x3), .val .null, .unset] [.null])) rfl ?_
            obtain ⟨_, _, ⟨T34, L34, k34, n34⟩, -, X34, ⟨Lc34, hQ34, l34, y34, z34⟩, st34⟩ := Jvm.LawKit.callS X32 hx (y := ym8) hown (mvT hZ w_70) (mvT hZ w_71) (mvT hZ w_3) (mvT hZ w_72) (by decide) (backOf (W := 0) (rmH l Z a0 hw []  h22 n0 Zn22 ) hZ w_72 w_3 (by decide) (by decide)) (g := (mkF m 241 #[iv x0, iv x1, iv x2, jv x3, .second, iv (w0_3 x0 x1 x2 x3), iv (w0_10 x0 x1 x2 x3), iv (j0_25_s0 x0 x1 x2 x3), rv b3, iv (j0_169_s0 x0 x1 x2 x3), iv (j0_202_s0 x0 x1 x2 x3), iv (w0_218 x0 x1 x2 x3), .val .null, .unset] [.null])) rfl (by rw [hml]; rfl) (argsL := [.null]) (rest := []) (lenOf pd0_2 rfl) rfl (by show 2 * 0 + _ ≤ _; exact Nat.le_of_eq rfl) (hb hby at_241) (fun _ _ => ⟨rfl, e32, (by decide : 15 + 0 ≤ _), (by decide : 232 + 0 ≤ _)⟩)
            dsimp only [Pt.U, Pt.locs, Pt.cells, Pt.slots] at X34 l34 y34 z34 st34 hQ34
            subst l34 y34 z34
            obtain ⟨rfl, N34q, e34⟩ := hQ34
            have N34 := Fr.app N32 N34q
            refine GoesH.st (B := T34.setTop (mkF m 244 #[iv x0, iv x1, iv x2, jv x3, .second, iv (w0_3 x0 x1 x2 x3), iv (w0_10 x0 x1 x2 x3), iv (j0_25_s0 x0 x1 x2 x3), rv b3, iv (j0_169_s0 x0 x1 x2 x3), iv (j0_202_s0 x0 x1 x2 x3), iv (w0_218 x0 x1 x2 x3), .val .null, .unset] [.null])) st34 ?_
            refine GoesH.run X34 hx hown hci hcl hby (L := [(244, .astore 13, 2), (246, .aload 12, 2)]) (by decide +kernel) rfl (g' := (mkF m 248 #[iv x0, iv x1, iv x2, jv x3, .second, iv (w0_3 x0 x1 x2 x3), iv (w0_10 x0 x1 x2 x3), iv (j0_25_s0 x0 x1 x2 x3), rv b3, iv (j0_169_s0 x0 x1 x2 x3), iv (j0_202_s0 x0 x1 x2 x3), iv (w0_218 x0 x1 x2 x3), .val .null, .val .null] [.null])) rfl ?_
            obtain ⟨_, _, ⟨T35, L35, k35, n35⟩, -, X35, ⟨Lc35, hQ35, l35, y35, z35⟩, st35⟩ := Jvm.LawKit.callS X34 hx (y := ym10) hown (mvT hZ w_85) (mvT hZ w_86) (mvT hZ w_83) (mvT hZ w_87) (by decide) (backOf (W := 0) (rmL l Z a0 hw [] va kva cA cB wA tA kA wB tB kB h22 n0 Zn22 (zE_va.ext Od22.2) (zV_va.ext Od22.2) (zF_headerName_cA.ext Od22.2) (zF_headerName_cB.ext Od22.2) (zE_wA.ext Od22.2) (zF_coder_wA.ext Od22.2) (zF_value_wA.ext Od22.2) (zV_tA.ext Od22.2) (zE_wB.ext Od22.2) (zF_coder_wB.ext Od22.2) (zF_value_wB.ext Od22.2) (zV_tB.ext Od22.2) Od22 SV) hZ w_87 w_83 (by decide) (by decide)) (g := (mkF m 248 #[iv x0, iv x1, iv x2, jv x3, .second, iv (w0_3 x0 x1 x2 x3), iv (w0_10 x0 x1 x2 x3), iv (j0_25_s0 x0 x1 x2 x3), rv b3, iv (j0_169_s0 x0 x1 x2 x3), iv (j0_202_s0 x0 x1 x2 x3), iv (w0_218 x0 x1 x2 x3), .val .null, .val .null] [.null])) rfl (by rw [hml]; rfl) (argsL := [.null]) (rest := []) (lenOf pd0_2 rfl) rfl (by show 2 * 0 + _ ≤ _; exact Nat.le_of_eq rfl) (hb hby at_248) (fun _ _ => ⟨rfl, e34, (by decide : 15 + 1 ≤ _), (by decide : 232 + 2 ≤ _)⟩)
            dsimp only [Pt.U, Pt.locs, Pt.cells, Pt.slots] at X35 l35 y35 z35 st35 hQ35
            subst l35 y35 z35
            obtain ⟨h35, eh35⟩ : ∃ z, z = T35.heap := ⟨_, rfl⟩
            rw [← eh35] at hQ35
            have e35 : T35.heap = h35 := eh35.symm
            obtain ⟨rfl, N35q, Kq35⟩ := hQ35
            have N35 := Fr.app N34 N35q
            have sk35 : ∀ x ∈ ([] : List Addr), Safe Z consts_1 vm22 h22 x := sf0
            have CH35 := CH22.trans (CHr.keep Kq35 sk35 CH22.1)
            have E_b3 := E_b3.keep Kq35
            have V_b3 := V_b3.keep Kq35 nin0
            have Zn35 : n0 ≤ h35.size := Nat.le_trans Zn22 Kq35.1
            have hk35e := Nat.le_trans hk22 Kq35.1
            have Od35 := Od22.keep Kq35 all0
            refine GoesH.st (B := T35.setTop (mkF m 251 #[iv x0, iv x1, iv x2, jv x3, .second, iv (w0_3 x0 x1 x2 x3), iv (w0_10 x0 x1 x2 x3), iv (j0_25_s0 x0 x1 x2 x3), rv b3, iv (j0_169_s0 x0 x1 x2 x3), iv (j0_202_s0 x0 x1 x2 x3), iv (w0_218 x0 x1 x2 x3), .val .null, .val .null] [.null])) st35 ?_
            refine GoesH.run X35 hx hown hci hcl hby (L := [(251, .aload 13, 2)]) (by decide +kernel) rfl (g' := (mkF m 253 #[iv x0, iv x1, iv x2, jv x3, .second, iv (w0_3 x0 x1 x2 x3), iv (w0_10 x0 x1 x2 x3), iv (j0_25_s0 x0 x1 x2 x3), rv b3, iv (j0_169_s0 x0 x1 x2 x3), iv (j0_202_s0 x0 x1 x2 x3), iv (w0_218 x0 x1 x2 x3), .val .null, .val .null] [.null, .null])) rfl ?_
            refine GoesH.st (B := T35.setTop (mkF m 256 #[iv x0, iv x1, iv x2, jv x3, .second, iv (w0_3 x0 x1 x2 x3), iv (w0_10 x0 x1 x2 x3), iv (j0_25_s0 x0 x1 x2 x3), rv b3, iv (j0_169_s0 x0 x1 x2 x3), iv (j0_202_s0 x0 x1 x2 x3), iv (w0_218 x0 x1 x2 x3), .val .null, .val .null] [])) (fun t k => ?_) ?_
            · refine Jvm.RoadKit.acmp (g := (mkF m 253 #[iv x0, iv x1, iv x2, jv x3, .second, iv (w0_3 x0 x1 x2 x3), iv (w0_10 x0 x1 x2 x3), iv (j0_25_s0 x0 x1 x2 x3), rv b3, iv (j0_169_s0 x0 x1 x2 x3), iv (j0_202_s0 x0 x1 x2 x3), iv (w0_218 x0 x1 x2 x3), .val .null, .val .null] [.null, .null])) X35 hx rfl rfl rfl (pc0 := 253) (pc' := 256) (same := true) rfl (hb hby at_253) rfl (decide_eq_true rfl) (by decide) (by decide) ?_
              exact k
            refine GoesH.run X35 hx hown hci hcl hby (L := [(256, .iconst 1, 1), (257, .goto 4, 3)]) (by decide +kernel) rfl (g' := (mkF m 261 #[iv x0, iv x1, iv x2, jv x3, .second, iv (w0_3 x0 x1 x2 x3), iv (w0_10 x0 x1 x2 x3), iv (j0_25_s0 x0 x1 x2 x3), rv b3, iv (j0_169_s0 x0 x1 x2 x3), iv (j0_202_s0 x0 x1 x2 x3), iv (w0_218 x0 x1 x2 x3), .val .null, .val .null] [(.int (1 : Int32))])) rfl ?_
            exact GoesH.retB X35 Sn22 (by rw [e35]; exact hk35e) (by rw [e35]; exact CH35) hZ hEL hx hlk (t := .boolean) Bd.returns (by simp) (hb hby at_261) rfl ⟨(congrArg (fun z => some (Value.int z)) (show (r0 x0 x1 x2 x3) = (1 : Int32) from (if_pos hc223_33)).symm), N35⟩ (by decide) (by decide)
          · skip
            refine GoesH.st (B := T32.setTop (mkF m 230 #[iv x0, iv x1, iv x2, jv x3, .second, iv (w0_3 x0 x1 x2 x3), iv (w0_10 x0 x1 x2 x3), iv (j0_25_s0 x0 x1 x2 x3), rv b3, iv (j0_169_s0 x0 x1 x2 x3), iv (j0_202_s0 x0 x1 x2 x3), iv (w0_218 x0 x1 x2 x3), .unset, .unset] [])) (fun t k => ?_) ?_
            · refine XS.icmpYes X32.here hx rfl (pc0 := 223) (pc' := 230) rfl (hb hby at_223) rfl (feq hc223_33).2 (by decide) (by decide) ?_
              exact k
            refine GoesH.run X32 hx hown hci hcl hby (L := [(230, .aload 8, 2), (232, .iload 11, 2)]) (by decide +kernel) rfl (g' := (mkF m 234 #[iv x0, iv x1, iv x2, jv x3, .second, iv (w0_3 x0 x1 x2 x3), iv (w0_10 x0 x1 x2 x3), iv (j0_25_s0 x0 x1 x2 x3), rv b3, iv (j0_169_s0 x0 x1 x2 x3), iv (j0_202_s0 x0 x1 x2 x3), iv (w0_218 x0 x1 x2 x3), .unset, .unset] [(.int (w0_218 x0 x1 x2 x3)), (.ref b3)])) rfl ?_
            have hpM := own_hpM (w0_218 x0 x1 x2 x3) (j0_143_e0 x0 x1 x2 x3) (j0_143_e1 x0 x1 x2 x3) (j0_143_e2 x0 x1 x2 x3) (j0_143_e3 x0 x1 x2 x3) (j0_143_e4 x0 x1 x2 x3) (j0_143_e5 x0 x1 x2 x3) (j0_143_e6 x0 x1 x2 x3) (j0_143_e7 x0 x1 x2 x3) (own_e0 x0 x1 x2 x3) (own_e1 x0 x1 x2 x3) (own_e2 x0 x1 x2 x3) (own_e3 x0 x1 x2 x3) (own_e4 x0 x1 x2 x3) (own_e5 x0 x1 x2 x3) (own_e6 x0 x1 x2 x3) (own_e7 x0 x1 x2 x3)
            obtain ⟨_, _, ⟨T36, L36, k36, n36⟩, -, X36, Sq36, gq36, ⟨Lc36, hQ36, l36, y36, z36, CHq36⟩, st36⟩ := callSS X32 hx (y := ym6) hown (mvT hZ w_46) (mvT hZ w_47) (mvT hZ w_3) (mvT hZ w_48) (by decide) (own_backH (W := 0) (rmF l Z a0 hw [] b3 (w0_218 x0 x1 x2 x3) k3 (j0_143_e0 x0 x1 x2 x3) (j0_143_e1 x0 x1 x2 x3) (j0_143_e2 x0 x1 x2 x3) (j0_143_e3 x0 x1 x2 x3) (j0_143_e4 x0 x1 x2 x3) (j0_143_e5 x0 x1 x2 x3) (j0_143_e6 x0 x1 x2 x3) (j0_143_e7 x0 x1 x2 x3) G1 G3 h22 n0 Zn22 V_b3 Od22 O2 O4 P5 rG3 (own_e0 x0 x1 x2 x3).hp (own_e1 x0 x1 x2 x3).hp (own_e2 x0 x1 x2 x3).hp (own_e3 x0 x1 x2 x3).hp (own_e4 x0 x1 x2 x3).hp (own_e5 x0 x1 x2 x3).hp (own_e6 x0 x1 x2 x3).hp (own_e7 x0 x1 x2 x3).hp (own_e0 x0 x1 x2 x3).nar.hp (own_e1 x0 x1 x2 x3).nar.hp (own_e2 x0 x1 x2 x3).nar.hp (own_e3 x0 x1 x2 x3).nar.hp (own_e4 x0 x1 x2 x3).nar.hp (own_e5 x0 x1 x2 x3).nar.hp (own_e6 x0 x1 x2 x3).nar.hp (own_e7 x0 x1 x2 x3).nar.hp) hZ w_48 w_3 (by decide) (by decide) hEL CH22.1 own_sf0) (g := (mkF m 234 #[iv x0, iv x1, iv x2, jv x3, .second, iv (w0_3 x0 x1 x2 x3), iv (w0_10 x0 x1 x2 x3), iv (j0_25_s0 x0 x1 x2 x3), rv b3, iv (j0_169_s0 x0 x1 x2 x3), iv (j0_202_s0 x0 x1 x2 x3), iv (w0_218 x0 x1 x2 x3), .unset, .unset] [(.int (w0_218 x0 x1 x2 x3)), (.ref b3)])) rfl (by rw [hml]; rfl) (argsL := [(.ref b3), (.int (w0_218 x0 x1 x2 x3))]) (rest := []) (lenOf pd0_3 rfl) rfl (by show 2 * 0 + _ ≤ _; exact Nat.le_of_eq rfl) (hb hby at_234) (fun _ _ => ⟨rfl, e32, (by decide : 15 + 4 ≤ _), (by decide : 232 + 18 ≤ _)⟩)
            dsimp only [Pt.U, Pt.locs, Pt.cells, Pt.slots] at X36 l36 y36 z36 st36 hQ36 Sq36 gq36 CHq36
            subst l36 y36 z36
            obtain ⟨h36, eh36⟩ : ∃ z, z = T36.heap := ⟨_, rfl⟩
            rw [← eh36] at hQ36 CHq36
            have e36 : T36.heap = h36 := eh36.symm
            have X36 := (show Stand p l e room_1 (s.setVm T36.vm) m #[(.int x0), (.int x1), (.int x2), (.long x3)] below meth c T36 _ _ _ from X36)
            have Sn36 : s.Since T36.vm h36.size := by rw [← e36]; exact foldS Sn22 (by rw [e32]; exact hk22) Sq36 gq36
            have hk36 : h36.size ≤ h36.size := Nat.le_refl _
            have hZ : Z.Warmed39 (s.setVm T36.vm).vm := State.Warmed39.trans (t := (s.setVm vm22)) hZ Sq36.1
            have hown : (s.setVm T36.vm).vm.findClass "com/example/upcaster/upcaster/io/CodecNamedPinLaw" = some m.cls := by rw [show (s.setVm T36.vm).vm = T36.vm from rfl, Sq36.1.alike.findClass]; exact hown
            have CH36 := CH22.trans CHq36
            obtain ⟨b36, t36, kt36, rfl, N36q, Kq36, szq36, o36_0, o36_1, o36_2, o36_3⟩ := hQ36
            have ne_b3_b36 : b3 ≠ b36 := Nat.ne_of_lt (Nat.lt_of_lt_of_le E_b3.lt szq36)
            have g_b36 : n0 ≤ b36 := Nat.le_trans Zn22 szq36
            have N36 := Fr.app N32 N36q
            have E_b3 := E_b3.keep Kq36
            have V_b3 := V_b3.keep Kq36 nin0
            have Zn36 : n0 ≤ h36.size := Nat.le_trans Zn22 Kq36.1
            have hk36e := Nat.le_trans hk22 Kq36.1
            have Od36 := Od22.keep Kq36 all0
            have E_b36 : Exa Z h36 b36 "java/lang/String" := o36_0
            have F_coder_b36 : Fld Z h36 b36 "java/lang/String" "coder" "B" (.int (0 : Int32)) := o36_1
            have F_value_b36 : Fld Z h36 b36 "java/lang/String" "value" "[B" (.ref t36) := o36_2
            have V_t36 : Arv Z h36 t36 kt36 .byte (Int32.ofNat (own_cs (w0_218 x0 x1 x2 x3) (j0_143_e0 x0 x1 x2 x3) (j0_143_e1 x0 x1 x2 x3) (j0_143_e2 x0 x1 x2 x3) (j0_143_e3 x0 x1 x2 x3) (j0_143_e4 x0 x1 x2 x3) (j0_143_e5 x0 x1 x2 x3) (j0_143_e6 x0 x1 x2 x3) (j0_143_e7 x0 x1 x2 x3)).length) (((own_cs (w0_218 x0 x1 x2 x3) (j0_143_e0 x0 x1 x2 x3) (j0_143_e1 x0 x1 x2 x3) (j0_143_e2 x0 x1 x2 x3) (j0_143_e3 x0 x1 x2 x3) (j0_143_e4 x0 x1 x2 x3) (j0_143_e5 x0 x1 x2 x3) (j0_143_e6 x0 x1 x2 x3) (j0_143_e7 x0 x1 x2 x3)).map (fun c => c.toInt8.toInt32)).map Value.int) (.int (0 : Int32)) := o36_3
            have hci : ∀ i v, (i, v) ∈ ([] : List (Nat × Int32)) → (Jvm.Cond.constant "com/example/upcaster/upcaster/io/CodecNamedPinLaw" i v).before #[(.int x0), (.int x1), (.int x2), (.long x3)] (s.setVm T36.vm) = true := own_ci0
            have hcl : ∀ i v, (i, v) ∈ ([(45, 255)] : List (Nat × Int64)) → (Jvm.Cond.constantLong "com/example/upcaster/upcaster/io/CodecNamedPinLaw" i v).before #[(.int x0), (.int x1), (.int x2), (.long x3)] (s.setVm T36.vm) = true := (own_ciS (mvT hZ w_38) own_ci0)
            refine GoesH.st (B := T36.setTop (mkF m 237 #[iv x0, iv x1, iv x2, jv x3, .second, iv (w0_3 x0 x1 x2 x3), iv (w0_10 x0 x1 x2 x3), iv (j0_25_s0 x0 x1 x2 x3), rv b3, iv (j0_169_s0 x0 x1 x2 x3), iv (j0_202_s0 x0 x1 x2 x3), iv (w0_218 x0 x1 x2 x3), .unset, .unset] [(.ref b36)])) (fun t k => st36.trans k) ?_
            refine GoesH.run X36 hx hown hci hcl hby (L := [(237, .astore 12, 2), (239, .aload 12, 2)]) (by decide +kernel) rfl (g' := (mkF m 241 #[iv x0, iv x1, iv x2, jv x3, .second, iv (w0_3 x0 x1 x2 x3), iv (w0_10 x0 x1 x2 x3), iv (j0_25_s0 x0 x1 x2 x3), rv b3, iv (j0_169_s0 x0 x1 x2 x3), iv (j0_202_s0 x0 x1 x2 x3), iv (w0_218 x0 x1 x2 x3), rv b36, .unset] [(.ref b36)])) rfl ?_
            obtain ⟨_, _, ⟨T37, L37, k37, n37⟩, -, X37, Sq37, gq37, ⟨Lc37, hQ37, l37, y37, z37, CHq37⟩, st37⟩ := callSS X36 hx (y := ym8) hown (mvT hZ w_70) (mvT hZ w_71) (mvT hZ w_3) (mvT hZ w_72) (by decide) (own_backH (W := 0) (rmG l Z a0 hw [] b36 cA cB t36 kt36 (own_cs (w0_218 x0 x1 x2 x3) (j0_143_e0 x0 x1 x2 x3) (j0_143_e1 x0 x1 x2 x3) (j0_143_e2 x0 x1 x2 x3) (j0_143_e3 x0 x1 x2 x3) (j0_143_e4 x0 x1 x2 x3) (j0_143_e5 x0 x1 x2 x3) (j0_143_e6 x0 x1 x2 x3) (j0_143_e7 x0 x1 x2 x3)) G1 G3 h36 n0 Zn36 E_b36 F_coder_b36 F_value_b36 V_t36 Od36 O2 O4 P5 rG3 SN SD hpM (own_hlM (w0_218 x0 x1 x2 x3) (j0_143_e0 x0 x1 x2 x3) (j0_143_e1 x0 x1 x2 x3) (j0_143_e2 x0 x1 x2 x3) (j0_143_e3 x0 x1 x2 x3) (j0_143_e4 x0 x1 x2 x3) (j0_143_e5 x0 x1 x2 x3) (j0_143_e6 x0 x1 x2 x3) (j0_143_e7 x0 x1 x2 x3))) hZ w_72 w_3 (by decide) (by decide) hEL CH36.1 own_sf0) (g := (mkF m 241 #[iv x0, iv x1, iv x2, jv x3, .second, iv (w0_3 x0 x1 x2 x3), iv (w0_10 x0 x1 x2 x3), iv (j0_25_s0 x0 x1 x2 x3), rv b3, iv (j0_169_s0 x0 x1 x2 x3), iv (j0_202_s0 x0 x1 x2 x3), iv (w0_218 x0 x1 x2 x3), rv b36, .unset] [(.ref b36)])) rfl (by rw [hml]; rfl) (argsL := [(.ref b36)]) (rest := []) (lenOf pd0_2 rfl) rfl (by show 2 * 0 + _ ≤ _; exact Nat.le_of_eq rfl) (hb hby at_241) (fun _ _ => ⟨rfl, e36, (by decide : 19 + 4 ≤ _), (by decide : 250 + 52 ≤ _)⟩)
            dsimp only [Pt.U, Pt.locs, Pt.cells, Pt.slots] at X37 l37 y37 z37 st37 hQ37 Sq37 gq37 CHq37
            subst l37 y37 z37
            obtain ⟨h37, eh37⟩ : ∃ z, z = T37.heap := ⟨_, rfl⟩
            rw [← eh37] at hQ37 CHq37
            have e37 : T37.heap = h37 := eh37.symm
            have X37 := (show Stand p l e room_1 (s.setVm T37.vm) m #[(.int x0), (.int x1), (.int x2), (.long x3)] below meth c T37 _ _ _ from X37)
            have Sn37 : s.Since T37.vm h37.size := by rw [← e37]; exact foldS Sn36 (by rw [e36]; exact hk36) Sq37 gq37
            have hk37 : h37.size ≤ h37.size := Nat.le_refl _
            have hZ : Z.Warmed39 (s.setVm T37.vm).vm := State.Warmed39.trans (t := (s.setVm T36.vm)) hZ Sq37.1
            have hown : (s.setVm T37.vm).vm.findClass "com/example/upcaster/upcaster/io/CodecNamedPinLaw" = some m.cls := by rw [show (s.setVm T37.vm).vm = T37.vm from rfl, Sq37.1.alike.findClass]; exact hown
            have CH37 := CH36.trans CHq37
            obtain ⟨rfl, N37q, Kq37⟩ := hQ37
            have N37 := Fr.app N36 N37q
            have E_b3 := E_b3.keep Kq37
            have V_b3 := V_b3.keep Kq37 nin0
            have E_b36 := E_b36.keep Kq37
            have F_coder_b36 := F_coder_b36.keep Kq37 nin0
            have F_value_b36 := F_value_b36.keep Kq37 nin0
            have V_t36 := V_t36.keep Kq37 nin0
            have Zn37 : n0 ≤ h37.size := Nat.le_trans Zn36 Kq37.1
            have hk37e := Nat.le_trans hk36 Kq37.1
            have Od37 := Od36.keep Kq37 all0
            have hci : ∀ i v, (i, v) ∈ ([] : List (Nat × Int32)) → (Jvm.Cond.constant "com/example/upcaster/upcaster/io/CodecNamedPinLaw" i v).before #[(.int x0), (.int x1), (.int x2), (.long x3)] (s.setVm T37.vm) = true := own_ci0
            have hcl : ∀ i v, (i, v) ∈ ([(45, 255)] : List (Nat × Int64)) → (Jvm.Cond.constantLong "com/example/upcaster/upcaster/io/CodecNamedPinLaw" i v).before #[(.int x0), (.int x1), (.int x2), (.long x3)] (s.setVm T37.vm) = true := (own_ciS (mvT hZ w_38) own_ci0)
            refine GoesH.st (B := T37.setTop (mkF m 244 #[iv x0, iv x1, iv x2, jv x3, .second, iv (w0_3 x0 x1 x2 x3), iv (w0_10 x0 x1 x2 x3), iv (j0_25_s0 x0 x1 x2 x3), rv b3, iv (j0_169_s0 x0 x1 x2 x3), iv (j0_202_s0 x0 x1 x2 x3), iv (w0_218 x0 x1 x2 x3), rv b36, .unset] [(own_val cA cB (own_eqr (own_cs (w0_218 x0 x1 x2 x3) (j0_143_e0 x0 x1 x2 x3) (j0_143_e1 x0 x1 x2 x3) (j0_143_e2 x0 x1 x2 x3) (j0_143_e3 x0 x1 x2 x3) (j0_143_e4 x0 x1 x2 x3) (j0_143_e5 x0 x1 x2 x3) (j0_143_e6 x0 x1 x2 x3) (j0_143_e7 x0 x1 x2 x3)) ([110, 117, 108, 108] : List Int32)) (own_eqr (own_cs (w0_218 x0 x1 x2 x3) (j0_143_e0 x0 x1 x2 x3) (j0_143_e1 x0 x1 x2 x3) (j0_143_e2 x0 x1 x2 x3) (j0_143_e3 x0 x1 x2 x3) (j0_143_e4 x0 x1 x2 x3) (j0_143_e5 x0 x1 x2 x3) (j0_143_e6 x0 x1 x2 x3) (j0_143_e7 x0 x1 x2 x3)) ([100, 101, 102, 108, 97, 116, 101] : List Int32)))])) (fun t k => st37.trans k) ?_
            by_cases hs244_38 : (own_eqr (own_cs (w0_218 x0 x1 x2 x3) (j0_143_e0 x0 x1 x2 x3) (j0_143_e1 x0 x1 x2 x3) (j0_143_e2 x0 x1 x2 x3) (j0_143_e3 x0 x1 x2 x3) (j0_143_e4 x0 x1 x2 x3) (j0_143_e5 x0 x1 x2 x3) (j0_143_e6 x0 x1 x2 x3) (j0_143_e7 x0 x1 x2 x3)) ([110, 117, 108, 108] : List Int32)) = (0 : Int32)
            · skip
              refine GoesH.cast (show (mkF m 244 #[iv x0, iv x1, iv x2, jv x3, .second, iv (w0_3 x0 x1 x2 x3), iv (w0_10 x0 x1 x2 x3), iv (j0_25_s0 x0 x1 x2 x3), rv b3, iv (j0_169_s0 x0 x1 x2 x3), iv (j0_202_s0 x0 x1 x2 x3), iv (w0_218 x0 x1 x2 x3), rv b36, .unset] [(own_val cA cB (own_eqr (own_cs (w0_218 x0 x1 x2 x3) (j0_143_e0 x0 x1 x2 x3) (j0_143_e1 x0 x1 x2 x3) (j0_143_e2 x0 x1 x2 x3) (j0_143_e3 x0 x1 x2 x3) (j0_143_e4 x0 x1 x2 x3) (j0_143_e5 x0 x1 x2 x3) (j0_143_e6 x0 x1 x2 x3) (j0_143_e7 x0 x1 x2 x3)) ([110, 117, 108, 108] : List Int32)) (own_eqr (own_cs (w0_218 x0 x1 x2 x3) (j0_143_e0 x0 x1 x2 x3) (j0_143_e1 x0 x1 x2 x3) (j0_143_e2 x0 x1 x2 x3) (j0_143_e3 x0 x1 x2 x3) (j0_143_e4 x0 x1 x2 x3) (j0_143_e5 x0 x1 x2 x3) (j0_143_e6 x0 x1 x2 x3) (j0_143_e7 x0 x1 x2 x3)) ([100, 101, 102, 108, 97, 116, 101] : List Int32)))]) = (mkF m 244 #[iv x0, iv x1, iv x2, jv x3, .second, iv (w0_3 x0 x1 x2 x3), iv (w0_10 x0 x1 x2 x3), iv (j0_25_s0 x0 x1 x2 x3), rv b3, iv (j0_169_s0 x0 x1 x2 x3), iv (j0_202_s0 x0 x1 x2 x3), iv (w0_218 x0 x1 x2 x3), rv b36, .unset] [(own_val cA cB (0 : Int32) (own_eqr (own_cs (w0_218 x0 x1 x2 x3) (j0_143_e0 x0 x1 x2 x3) (j0_143_e1 x0 x1 x2 x3) (j0_143_e2 x0 x1 x2 x3) (j0_143_e3 x0 x1 x2 x3) (j0_143_e4 x0 x1 x2 x3) (j0_143_e5 x0 x1 x2 x3) (j0_143_e6 x0 x1 x2 x3) (j0_143_e7 x0 x1 x2 x3)) ([100, 101, 102, 108, 97, 116, 101] : List Int32)))]) by rw [hs244_38]) ?_
              by_cases hs244_39 : (own_eqr (own_cs (w0_218 x0 x1 x2 x3) (j0_143_e0 x0 x1 x2 x3) (j0_143_e1 x0 x1 x2 x3) (j0_143_e2 x0 x1 x2 x3) (j0_143_e3 x0 x1 x2 x3) (j0_143_e4 x0 x1 x2 x3) (j0_143_e5 x0 x1 x2 x3) (j0_143_e6 x0 x1 x2 x3) (j0_143_e7 x0 x1 x2 x3)) ([100, 101, 102, 108, 97, 116, 101] : List Int32)) = (0 : Int32)
              · skip
                refine GoesH.cast (show (mkF m 244 #[iv x0, iv x1, iv x2, jv x3, .second, iv (w0_3 x0 x1 x2 x3), iv (w0_10 x0 x1 x2 x3), iv (j0_25_s0 x0 x1 x2 x3), rv b3, iv (j0_169_s0 x0 x1 x2 x3), iv (j0_202_s0 x0 x1 x2 x3), iv (w0_218 x0 x1 x2 x3), rv b36, .unset] [(own_val cA cB (0 : Int32) (own_eqr (own_cs (w0_218 x0 x1 x2 x3) (j0_143_e0 x0 x1 x2 x3) (j0_143_e1 x0 x1 x2 x3) (j0_143_e2 x0 x1 x2 x3) (j0_143_e3 x0 x1 x2 x3) (j0_143_e4 x0 x1 x2 x3) (j0_143_e5 x0 x1 x2 x3) (j0_143_e6 x0 x1 x2 x3) (j0_143_e7 x0 x1 x2 x3)) ([100, 101, 102, 108, 97, 116, 101] : List Int32)))]) = (mkF m 244 #[iv x0, iv x1, iv x2, jv x3, .second, iv (w0_3 x0 x1 x2 x3), iv (w0_10 x0 x1 x2 x3), iv (j0_25_s0 x0 x1 x2 x3), rv b3, iv (j0_169_s0 x0 x1 x2 x3), iv (j0_202_s0 x0 x1 x2 x3), iv (w0_218 x0 x1 x2 x3), rv b36, .unset] [(own_val cA cB (0 : Int32) (0 : Int32))]) by rw [hs244_39]) ?_
                refine GoesH.cast (show (mkF m 244 #[iv x0, iv x1, iv x2, jv x3, .second, iv (w0_3 x0 x1 x2 x3), iv (w0_10 x0 x1 x2 x3), iv (j0_25_s0 x0 x1 x2 x3), rv b3, iv (j0_169_s0 x0 x1 x2 x3), iv (j0_202_s0 x0 x1 x2 x3), iv (w0_218 x0 x1 x2 x3), rv b36, .unset] [(own_val cA cB (0 : Int32) (0 : Int32))]) = (mkF m 244 #[iv x0, iv x1, iv x2, jv x3, .second, iv (w0_3 x0 x1 x2 x3), iv (w0_10 x0 x1 x2 x3), iv (j0_25_s0 x0 x1 x2 x3), rv b3, iv (j0_169_s0 x0 x1 x2 x3), iv (j0_202_s0 x0 x1 x2 x3), iv (w0_218 x0 x1 x2 x3), rv b36, .unset] [.null]) from rfl) ?_
                refine GoesH.run X37 hx hown hci hcl hby (L := [(244, .astore 13, 2), (246, .aload 12, 2)]) (by decide +kernel) rfl (g' := (mkF m 248 #[iv x0, iv x1, iv x2, jv x3, .second, iv (w0_3 x0 x1 x2 x3), iv (w0_10 x0 x1 x2 x3), iv (j0_25_s0 x0 x1 x2 x3), rv b3, iv (j0_169_s0 x0 x1 x2 x3), iv (j0_202_s0 x0 x1 x2 x3), iv (w0_218 x0 x1 x2 x3), rv b36, .val .null] [(.ref b36)])) rfl ?_
                obtain ⟨_, _, ⟨T40, L40, k40, n40⟩, -, X40, ⟨Lc40, hQ40, l40, y40, z40⟩, st40⟩ := Jvm.LawKit.callS X37 hx (y := ym10) hown (mvT hZ w_85) (mvT hZ w_86) (mvT hZ w_83) (mvT hZ w_87) (by decide) (backOf (W := 0) (rmK l Z a0 hw [] b36 va kva cA cB wA tA kA wB tB kB t36 kt36 (own_cs (w0_218 x0 x1 x2 x3) (j0_143_e0 x0 x1 x2 x3) (j0_143_e1 x0 x1 x2 x3) (j0_143_e2 x0 x1 x2 x3) (j0_143_e3 x0 x1 x2 x3) (j0_143_e4 x0 x1 x2 x3) (j0_143_e5 x0 x1 x2 x3) (j0_143_e6 x0 x1 x2 x3) (j0_143_e7 x0 x1 x2 x3)) G1 G3 h37 n0 Zn37 (zE_va.ext Od37.2) (zV_va.ext Od37.2) (zF_headerName_cA.ext Od37.2) (zF_headerName_cB.ext Od37.2) (zE_wA.ext Od37.2) (zF_coder_wA.ext Od37.2) (zF_value_wA.ext Od37.2) (zV_tA.ext Od37.2) (zE_wB.ext Od37.2) (zF_coder_wB.ext Od37.2) (zF_value_wB.ext Od37.2) (zV_tB.ext Od37.2) E_b36 F_coder_b36 F_value_b36 V_t36 Od37 O2 O4 P5 rG3 SV hpM (own_hlM (w0_218 x0 x1 x2 x3) (j0_143_e0 x0 x1 x2 x3) (j0_143_e1 x0 x1 x2 x3) (j0_143_e2 x0 x1 x2 x3) (j0_143_e3 x0 x1 x2 x3) (j0_143_e4 x0 x1 x2 x3) (j0_143_e5 x0 x1 x2 x3) (j0_143_e6 x0 x1 x2 x3) (j0_143_e7 x0 x1 x2 x3))) hZ w_87 w_83 (by decide) (by decide)) (g := (mkF m 248 #[iv x0, iv x1, iv x2, jv x3, .second, iv (w0_3 x0 x1 x2 x3), iv (w0_10 x0 x1 x2 x3), iv (j0_25_s0 x0 x1 x2 x3), rv b3, iv (j0_169_s0 x0 x1 x2 x3), iv (j0_202_s0 x0 x1 x2 x3), iv (w0_218 x0 x1 x2 x3), rv b36, .val .null] [(.ref b36)])) rfl (by rw [hml]; rfl) (argsL := [(.ref b36)]) (rest := []) (lenOf pd0_2 rfl) rfl (by show 2 * 0 + _ ≤ _; exact Nat.le_of_eq rfl) (hb hby at_248) (fun _ _ => ⟨rfl, e37, (by decide : 23 + 1 ≤ _), (by decide : 302 + 2 ≤ _)⟩)
                dsimp only [Pt.U, Pt.locs, Pt.cells, Pt.slots] at X40 l40 y40 z40 st40 hQ40
                subst l40 y40 z40
                obtain ⟨h40, eh40⟩ : ∃ z, z = T40.heap := ⟨_, rfl⟩
                rw [← eh40] at hQ40
                have e40 : T40.heap = h40 := eh40.symm
                obtain ⟨rfl, N40q, Kq40⟩ := hQ40
                have N40 := Fr.app N37 N40q
                have sk40 : ∀ x ∈ ([] : List Addr), Safe Z consts_1 T37.vm h37 x := sf0
                have CH40 := CH37.trans (CHr.keep Kq40 sk40 CH37.1)
                have E_b3 := E_b3.keep Kq40
                have V_b3 := V_b3.keep Kq40 nin0
                have E_b36 := E_b36.keep Kq40
                have F_coder_b36 := F_coder_b36.keep Kq40 nin0
                have F_value_b36 := F_value_b36.keep Kq40 nin0
                have V_t36 := V_t36.keep Kq40 nin0
                have Zn40 : n0 ≤ h40.size := Nat.le_trans Zn37 Kq40.1
                have hk40e := Nat.le_trans hk37 Kq40.1
                have Od40 := Od37.keep Kq40 all0
                refine GoesH.st (B := T40.setTop (mkF m 251 #[iv x0, iv x1, iv x2, jv x3, .second, iv (w0_3 x0 x1 x2 x3), iv (w0_10 x0 x1 x2 x3), iv (j0_25_s0 x0 x1 x2 x3), rv b3, iv (j0_169_s0 x0 x1 x2 x3), iv (j0_202_s0 x0 x1 x2 x3), iv (w0_218 x0 x1 x2 x3), rv b36, .val .null] [(own_val cA cB (own_eqr ([110, 117, 108, 108] : List Int32) (own_cs (w0_218 x0 x1 x2 x3) (j0_143_e0 x0 x1 x2 x3) (j0_143_e1 x0 x1 x2 x3) (j0_143_e2 x0 x1 x2 x3) (j0_143_e3 x0 x1 x2 x3) (j0_143_e4 x0 x1 x2 x3) (j0_143_e5 x0 x1 x2 x3) (j0_143_e6 x0 x1 x2 x3) (j0_143_e7 x0 x1 x2 x3))) (own_eqr ([100, 101, 102, 108, 97, 116, 101] : List Int32) (own_cs (w0_218 x0 x1 x2 x3) (j0_143_e0 x0 x1 x2 x3) (j0_143_e1 x0 x1 x2 x3) (j0_143_e2 x0 x1 x2 x3) (j0_143_e3 x0 x1 x2 x3) (j0_143_e4 x0 x1 x2 x3) (j0_143_e5 x0 x1 x2 x3) (j0_143_e6 x0 x1 x2 x3) (j0_143_e7 x0 x1 x2 x3))))])) st40 ?_
                refine GoesH.run X40 hx hown hci hcl hby (L := [(251, .aload 13, 2)]) (by decide +kernel) rfl (g' := (mkF m 253 #[iv x0, iv x1, iv x2, jv x3, .second, iv (w0_3 x0 x1 x2 x3), iv (w0_10 x0 x1 x2 x3), iv (j0_25_s0 x0 x1 x2 x3), rv b3, iv (j0_169_s0 x0 x1 x2 x3), iv (j0_202_s0 x0 x1 x2 x3), iv (w0_218 x0 x1 x2 x3), rv b36, .val .null] [.null, (own_val cA cB (own_eqr ([110, 117, 108, 108] : List Int32) (own_cs (w0_218 x0 x1 x2 x3) (j0_143_e0 x0 x1 x2 x3) (j0_143_e1 x0 x1 x2 x3) (j0_143_e2 x0 x1 x2 x3) (j0_143_e3 x0 x1 x2 x3) (j0_143_e4 x0 x1 x2 x3) (j0_143_e5 x0 x1 x2 x3) (j0_143_e6 x0 x1 x2 x3) (j0_143_e7 x0 x1 x2 x3))) (own_eqr ([100, 101, 102, 108, 97, 116, 101] : List Int32) (own_cs (w0_218 x0 x1 x2 x3) (j0_143_e0 x0 x1 x2 x3) (j0_143_e1 x0 x1 x2 x3) (j0_143_e2 x0 x1 x2 x3) (j0_143_e3 x0 x1 x2 x3) (j0_143_e4 x0 x1 x2 x3) (j0_143_e5 x0 x1 x2 x3) (j0_143_e6 x0 x1 x2 x3) (j0_143_e7 x0 x1 x2 x3))))])) rfl ?_
                refine GoesH.st (B := T40.setTop (mkF m 256 #[iv x0, iv x1, iv x2, jv x3, .second, iv (w0_3 x0 x1 x2 x3), iv (w0_10 x0 x1 x2 x3), iv (j0_25_s0 x0 x1 x2 x3), rv b3, iv (j0_169_s0 x0 x1 x2 x3), iv (j0_202_s0 x0 x1 x2 x3), iv (w0_218 x0 x1 x2 x3), rv b36, .val .null] [])) (fun t k => ?_) ?_
                · refine Jvm.RoadKit.acmp (g := (mkF m 253 #[iv x0, iv x1, iv x2, jv x3, .second, iv (w0_3 x0 x1 x2 x3), iv (w0_10 x0 x1 x2 x3), iv (j0_25_s0 x0 x1 x2 x3), rv b3, iv (j0_169_s0 x0 x1 x2 x3), iv (j0_202_s0 x0 x1 x2 x3), iv (w0_218 x0 x1 x2 x3), rv b36, .val .null] [.null, (own_val cA cB (own_eqr ([110, 117, 108, 108] : List Int32) (own_cs (w0_218 x0 x1 x2 x3) (j0_143_e0 x0 x1 x2 x3) (j0_143_e1 x0 x1 x2 x3) (j0_143_e2 x0 x1 x2 x3) (j0_143_e3 x0 x1 x2 x3) (j0_143_e4 x0 x1 x2 x3) (j0_143_e5 x0 x1 x2 x3) (j0_143_e6 x0 x1 x2 x3) (j0_143_e7 x0 x1 x2 x3))) (own_eqr ([100, 101, 102, 108, 97, 116, 101] : List Int32) (own_cs (w0_218 x0 x1 x2 x3) (j0_143_e0 x0 x1 x2 x3) (j0_143_e1 x0 x1 x2 x3) (j0_143_e2 x0 x1 x2 x3) (j0_143_e3 x0 x1 x2 x3) (j0_143_e4 x0 x1 x2 x3) (j0_143_e5 x0 x1 x2 x3) (j0_143_e6 x0 x1 x2 x3) (j0_143_e7 x0 x1 x2 x3))))])) X40 hx rfl (own_valR _ _ _ _) rfl (pc0 := 253) (pc' := 256) (same := true) rfl (hb hby at_253) rfl (decide_eq_true ((own_veq _ _ _).trans (by rw [(by assumption : own_eqr (own_cs (w0_218 x0 x1 x2 x3) (j0_143_e0 x0 x1 x2 x3) (j0_143_e1 x0 x1 x2 x3) (j0_143_e2 x0 x1 x2 x3) (j0_143_e3 x0 x1 x2 x3) (j0_143_e4 x0 x1 x2 x3) (j0_143_e5 x0 x1 x2 x3) (j0_143_e6 x0 x1 x2 x3) (j0_143_e7 x0 x1 x2 x3)) ([110, 117, 108, 108] : List Int32) = (0 : Int32)), (by assumption : own_eqr (own_cs (w0_218 x0 x1 x2 x3) (j0_143_e0 x0 x1 x2 x3) (j0_143_e1 x0 x1 x2 x3) (j0_143_e2 x0 x1 x2 x3) (j0_143_e3 x0 x1 x2 x3) (j0_143_e4 x0 x1 x2 x3) (j0_143_e5 x0 x1 x2 x3) (j0_143_e6 x0 x1 x2 x3) (j0_143_e7 x0 x1 x2 x3)) ([100, 101, 102, 108, 97, 116, 101] : List Int32) = (0 : Int32))]; rfl))) (by decide) (by decide) ?_
                  exact k
                refine GoesH.run X40 hx hown hci hcl hby (L := [(256, .iconst 1, 1), (257, .goto 4, 3)]) (by decide +kernel) rfl (g' := (mkF m 261 #[iv x0, iv x1, iv x2, jv x3, .second, iv (w0_3 x0 x1 x2 x3), iv (w0_10 x0 x1 x2 x3), iv (j0_25_s0 x0 x1 x2 x3), rv b3, iv (j0_169_s0 x0 x1 x2 x3), iv (j0_202_s0 x0 x1 x2 x3), iv (w0_218 x0 x1 x2 x3), rv b36, .val .null] [(.int (1 : Int32))])) rfl ?_
                exact GoesH.retB X40 Sn37 (by rw [e40]; exact hk40e) (by rw [e40]; exact CH40) hZ hEL hx hlk (t := .boolean) Bd.returns (by simp) (hb hby at_261) rfl ⟨(congrArg (fun z => some (Value.int z)) (show (r0 x0 x1 x2 x3) = (1 : Int32) from (((if_neg hc223_33).trans (if_pos hs244_38)).trans (if_pos hs244_39))).symm), N40⟩ (by decide) (by decide)
              · skip
                have hs244_41 : (own_eqr (own_cs (w0_218 x0 x1 x2 x3) (j0_143_e0 x0 x1 x2 x3) (j0_143_e1 x0 x1 x2 x3) (j0_143_e2 x0 x1 x2 x3) (j0_143_e3 x0 x1 x2 x3) (j0_143_e4 x0 x1 x2 x3) (j0_143_e5 x0 x1 x2 x3) (j0_143_e6 x0 x1 x2 x3) (j0_143_e7 x0 x1 x2 x3)) ([100, 101, 102, 108, 97, 116, 101] : List Int32)) = (1 : Int32) := own_eq01 _ _ hs244_39
                refine GoesH.cast (show (mkF m 244 #[iv x0, iv x1, iv x2, jv x3, .second, iv (w0_3 x0 x1 x2 x3), iv (w0_10 x0 x1 x2 x3), iv (j0_25_s0 x0 x1 x2 x3), rv b3, iv (j0_169_s0 x0 x1 x2 x3), iv (j0_202_s0 x0 x1 x2 x3), iv (w0_218 x0 x1 x2 x3), rv b36, .unset] [(own_val cA cB (0 : Int32) (own_eqr (own_cs (w0_218 x0 x1 x2 x3) (j0_143_e0 x0 x1 x2 x3) (j0_143_e1 x0 x1 x2 x3) (j0_143_e2 x0 x1 x2 x3) (j0_143_e3 x0 x1 x2 x3) (j0_143_e4 x0 x1 x2 x3) (j0_143_e5 x0 x1 x2 x3) (j0_143_e6 x0 x1 x2 x3) (j0_143_e7 x0 x1 x2 x3)) ([100, 101, 102, 108, 97, 116, 101] : List Int32)))]) = (mkF m 244 #[iv x0, iv x1, iv x2, jv x3, .second, iv (w0_3 x0 x1 x2 x3), iv (w0_10 x0 x1 x2 x3), iv (j0_25_s0 x0 x1 x2 x3), rv b3, iv (j0_169_s0 x0 x1 x2 x3), iv (j0_202_s0 x0 x1 x2 x3), iv (w0_218 x0 x1 x2 x3), rv b36, .unset] [(own_val cA cB (0 : Int32) (1 : Int32))]) by rw [hs244_41]) ?_
                refine GoesH.cast (show (mkF m 244 #[iv x0, iv x1, iv x2, jv x3, .second, iv (w0_3 x0 x1 x2 x3), iv (w0_10 x0 x1 x2 x3), iv (j0_25_s0 x0 x1 x2 x3), rv b3, iv (j0_169_s0 x0 x1 x2 x3), iv (j0_202_s0 x0 x1 x2 x3), iv (w0_218 x0 x1 x2 x3), rv b36, .unset] [(own_val cA cB (0 : Int32) (1 : Int32))]) = (mkF m 244 #[iv x0, iv x1, iv x2, jv x3, .second, iv (w0_3 x0 x1 x2 x3), iv (w0_10 x0 x1 x2 x3), iv (j0_25_s0 x0 x1 x2 x3), rv b3, iv (j0_169_s0 x0 x1 x2 x3), iv (j0_202_s0 x0 x1 x2 x3), iv (w0_218 x0 x1 x2 x3), rv b36, .unset] [(.ref cB)]) from rfl) ?_
                refine GoesH.run X37 hx hown hci hcl hby (L := [(244, .astore 13, 2), (246, .aload 12, 2)]) (by decide +kernel) rfl (g' := (mkF m 248 #[iv x0, iv x1, iv x2, jv x3, .second, iv (w0_3 x0 x1 x2 x3), iv (w0_10 x0 x1 x2 x3), iv (j0_25_s0 x0 x1 x2 x3), rv b3, iv (j0_169_s0 x0 x1 x2 x3), iv (j0_202_s0 x0 x1 x2 x3), iv (w0_218 x0 x1 x2 x3), rv b36, rv cB] [(.ref b36)])) rfl ?_
                obtain ⟨_, _, ⟨T42, L42, k42, n42⟩, -, X42, ⟨Lc42, hQ42, l42, y42, z42⟩, st42⟩ := Jvm.LawKit.callS X37 hx (y := ym10) hown (mvT hZ w_85) (mvT hZ w_86) (mvT hZ w_83) (mvT hZ w_87) (by decide) (backOf (W := 0) (rmK l Z a0 hw [] b36 va kva cA cB wA tA kA wB tB kB t36 kt36 (own_cs (w0_218 x0 x1 x2 x3) (j0_143_e0 x0 x1 x2 x3) (j0_143_e1 x0 x1 x2 x3) (j0_143_e2 x0 x1 x2 x3) (j0_143_e3 x0 x1 x2 x3) (j0_143_e4 x0 x1 x2 x3) (j0_143_e5 x0 x1 x2 x3) (j0_143_e6 x0 x1 x2 x3) (j0_143_e7 x0 x1 x2 x3)) G1 G3 h37 n0 Zn37 (zE_va.ext Od37.2) (zV_va.ext Od37.2) (zF_headerName_cA.ext Od37.2) (zF_headerName_cB.ext Od37.2) (zE_wA.ext Od37.2) (zF_coder_wA.ext Od37.2) (zF_value_wA.ext Od37.2) (zV_tA.ext Od37.2) (zE_wB.ext Od37.2) (zF_coder_wB.ext Od37.2) (zF_value_wB.ext Od37.2) (zV_tB.ext Od37.2) E_b36 F_coder_b36 F_value_b36 V_t36 Od37 O2 O4 P5 rG3 SV hpM (own_hlM (w0_218 x0 x1 x2 x3) (j0_143_e0 x0 x1 x2 x3) (j0_143_e1 x0 x1 x2 x3) (j0_143_e2 x0 x1 x2 x3) (j0_143_e3 x0 x1 x2 x3) (j0_143_e4 x0 x1 x2 x3) (j0_143_e5 x0 x1 x2 x3) (j0_143_e6 x0 x1 x2 x3) (j0_143_e7 x0 x1 x2 x3))) hZ w_87 w_83 (by decide) (by decide)) (g := (mkF m 248 #[iv x0, iv x1, iv x2, jv x3, .second, iv (w0_3 x0 x1 x2 x3), iv (w0_10 x0 x1 x2 x3), iv (j0_25_s0 x0 x1 x2 x3), rv b3, iv (j0_169_s0 x0 x1 x2 x3), iv (j0_202_s0 x0 x1 x2 x3), iv (w0_218 x0 x1 x2 x3), rv b36, rv cB] [(.ref b36)])) rfl (by rw [hml]; rfl) (argsL := [(.ref b36)]) (rest := []) (lenOf pd0_2 rfl) rfl (by show 2 * 0 + _ ≤ _; exact Nat.le_of_eq rfl) (hb hby at_248) (fun _ _ => ⟨rfl, e37, (by decide : 23 + 1 ≤ _), (by decide : 302 + 2 ≤ _)⟩)
                dsimp only [Pt.U, Pt.locs, Pt.cells, Pt.slots] at X42 l42 y42 z42 st42 hQ42
                subst l42 y42 z42
                obtain ⟨h42, eh42⟩ : ∃ z, z = T42.heap := ⟨_, rfl⟩
                rw [← eh42] at hQ42
                have e42 : T42.heap = h42 := eh42.symm
                obtain ⟨rfl, N42q, Kq42⟩ := hQ42
                have N42 := Fr.app N37 N42q
                have sk42 : ∀ x ∈ ([] : List Addr), Safe Z consts_1 T37.vm h37 x := sf0
                have CH42 := CH37.trans (CHr.keep Kq42 sk42 CH37.1)
                have E_b3 := E_b3.keep Kq42
                have V_b3 := V_b3.keep Kq42 nin0
                have E_b36 := E_b36.keep Kq42
                have F_coder_b36 := F_coder_b36.keep Kq42 nin0
                have F_value_b36 := F_value_b36.keep Kq42 nin0
                have V_t36 := V_t36.keep Kq42 nin0
                have Zn42 : n0 ≤ h42.size := Nat.le_trans Zn37 Kq42.1
                have hk42e := Nat.le_trans hk37 Kq42.1
                have Od42 := Od37.keep Kq42 all0
                refine GoesH.st (B := T42.setTop (mkF m 251 #[iv x0, iv x1, iv x2, jv x3, .second, iv (w0_3 x0 x1 x2 x3), iv (w0_10 x0 x1 x2 x3), iv (j0_25_s0 x0 x1 x2 x3), rv b3, iv (j0_169_s0 x0 x1 x2 x3), iv (j0_202_s0 x0 x1 x2 x3), iv (w0_218 x0 x1 x2 x3), rv b36, rv cB] [(own_val cA cB (own_eqr ([110, 117, 108, 108] : List Int32) (own_cs (w0_218 x0 x1 x2 x3) (j0_143_e0 x0 x1 x2 x3) (j0_143_e1 x0 x1 x2 x3) (j0_143_e2 x0 x1 x2 x3) (j0_143_e3 x0 x1 x2 x3) (j0_143_e4 x0 x1 x2 x3) (j0_143_e5 x0 x1 x2 x3) (j0_143_e6 x0 x1 x2 x3) (j0_143_e7 x0 x1 x2 x3))) (own_eqr ([100, 101, 102, 108, 97, 116, 101] : List Int32) (own_cs (w0_218 x0 x1 x2 x3) (j0_143_e0 x0 x1 x2 x3) (j0_143_e1 x0 x1 x2 x3) (j0_143_e2 x0 x1 x2 x3) (j0_143_e3 x0 x1 x2 x3) (j0_143_e4 x0 x1 x2 x3) (j0_143_e5 x0 x1 x2 x3) (j0_143_e6 x0 x1 x2 x3) (j0_143_e7 x0 x1 x2 x3))))])) st42 ?_
                refine GoesH.run X42 hx hown hci hcl hby (L := [(251, .aload 13, 2)]) (by decide +kernel) rfl (g' := (mkF m 253 #[iv x0, iv x1, iv x2, jv x3, .second, iv (w0_3 x0 x1 x2 x3), iv (w0_10 x0 x1 x2 x3), iv (j0_25_s0 x0 x1 x2 x3), rv b3, iv (j0_169_s0 x0 x1 x2 x3), iv (j0_202_s0 x0 x1 x2 x3), iv (w0_218 x0 x1 x2 x3), rv b36, rv cB] [(.ref cB), (own_val cA cB (own_eqr ([110, 117, 108, 108] : List Int32) (own_cs (w0_218 x0 x1 x2 x3) (j0_143_e0 x0 x1 x2 x3) (j0_143_e1 x0 x1 x2 x3) (j0_143_e2 x0 x1 x2 x3) (j0_143_e3 x0 x1 x2 x3) (j0_143_e4 x0 x1 x2 x3) (j0_143_e5 x0 x1 x2 x3) (j0_143_e6 x0 x1 x2 x3) (j0_143_e7 x0 x1 x2 x3))) (own_eqr ([100, 101, 102, 108, 97, 116, 101] : List Int32) (own_cs (w0_218 x0 x1 x2 x3) (j0_143_e0 x0 x1 x2 x3) (j0_143_e1 x0 x1 x2 x3) (j0_143_e2 x0 x1 x2 x3) (j0_143_e3 x0 x1 x2 x3) (j0_143_e4 x0 x1 x2 x3) (j0_143_e5 x0 x1 x2 x3) (j0_143_e6 x0 x1 x2 x3) (j0_143_e7 x0 x1 x2 x3))))])) rfl ?_
                refine GoesH.st (B := T42.setTop (mkF m 256 #[iv x0, iv x1, iv x2, jv x3, .second, iv (w0_3 x0 x1 x2 x3), iv (w0_10 x0 x1 x2 x3), iv (j0_25_s0 x0 x1 x2 x3), rv b3, iv (j0_169_s0 x0 x1 x2 x3), iv (j0_202_s0 x0 x1 x2 x3), iv (w0_218 x0 x1 x2 x3), rv b36, rv cB] [])) (fun t k => ?_) ?_
                · refine Jvm.RoadKit.acmp (g := (mkF m 253 #[iv x0, iv x1, iv x2, jv x3, .second, iv (w0_3 x0 x1 x2 x3), iv (w0_10 x0 x1 x2 x3), iv (j0_25_s0 x0 x1 x2 x3), rv b3, iv (j0_169_s0 x0 x1 x2 x3), iv (j0_202_s0 x0 x1 x2 x3), iv (w0_218 x0 x1 x2 x3), rv b36, rv cB] [(.ref cB), (own_val cA cB (own_eqr ([110, 117, 108, 108] : List Int32) (own_cs (w0_218 x0 x1 x2 x3) (j0_143_e0 x0 x1 x2 x3) (j0_143_e1 x0 x1 x2 x3) (j0_143_e2 x0 x1 x2 x3) (j0_143_e3 x0 x1 x2 x3) (j0_143_e4 x0 x1 x2 x3) (j0_143_e5 x0 x1 x2 x3) (j0_143_e6 x0 x1 x2 x3) (j0_143_e7 x0 x1 x2 x3))) (own_eqr ([100, 101, 102, 108, 97, 116, 101] : List Int32) (own_cs (w0_218 x0 x1 x2 x3) (j0_143_e0 x0 x1 x2 x3) (j0_143_e1 x0 x1 x2 x3) (j0_143_e2 x0 x1 x2 x3) (j0_143_e3 x0 x1 x2 x3) (j0_143_e4 x0 x1 x2 x3) (j0_143_e5 x0 x1 x2 x3) (j0_143_e6 x0 x1 x2 x3) (j0_143_e7 x0 x1 x2 x3))))])) X42 hx rfl (own_valR _ _ _ _) rfl (pc0 := 253) (pc' := 256) (same := true) rfl (hb hby at_253) rfl (decide_eq_true ((own_veq _ _ _).trans (by rw [(by assumption : own_eqr (own_cs (w0_218 x0 x1 x2 x3) (j0_143_e0 x0 x1 x2 x3) (j0_143_e1 x0 x1 x2 x3) (j0_143_e2 x0 x1 x2 x3) (j0_143_e3 x0 x1 x2 x3) (j0_143_e4 x0 x1 x2 x3) (j0_143_e5 x0 x1 x2 x3) (j0_143_e6 x0 x1 x2 x3) (j0_143_e7 x0 x1 x2 x3)) ([110, 117, 108, 108] : List Int32) = (0 : Int32)), (by assumption : own_eqr (own_cs (w0_218 x0 x1 x2 x3) (j0_143_e0 x0 x1 x2 x3) (j0_143_e1 x0 x1 x2 x3) (j0_143_e2 x0 x1 x2 x3) (j0_143_e3 x0 x1 x2 x3) (j0_143_e4 x0 x1 x2 x3) (j0_143_e5 x0 x1 x2 x3) (j0_143_e6 x0 x1 x2 x3) (j0_143_e7 x0 x1 x2 x3)) ([100, 101, 102, 108, 97, 116, 101] : List Int32) = (1 : Int32))]; rfl))) (by decide) (by decide) ?_
                  exact k
                refine GoesH.run X42 hx hown hci hcl hby (L := [(256, .iconst 1, 1), (257, .goto 4, 3)]) (by decide +kernel) rfl (g' := (mkF m 261 #[iv x0, iv x1, iv x2, jv x3, .second, iv (w0_3 x0 x1 x2 x3), iv (w0_10 x0 x1 x2 x3), iv (j0_25_s0 x0 x1 x2 x3), rv b3, iv (j0_169_s0 x0 x1 x2 x3), iv (j0_202_s0 x0 x1 x2 x3), iv (w0_218 x0 x1 x2 x3), rv b36, rv cB] [(.int (1 : Int32))])) rfl ?_
                exact GoesH.retB X42 Sn37 (by rw [e42]; exact hk42e) (by rw [e42]; exact CH42) hZ hEL hx hlk (t := .boolean) Bd.returns (by simp) (hb hby at_261) rfl ⟨(congrArg (fun z => some (Value.int z)) (show (r0 x0 x1 x2 x3) = (1 : Int32) from (((if_neg hc223_33).trans (if_pos hs244_38)).trans (if_neg hs244_39))).symm), N42⟩ (by decide) (by decide)
            · skip
              have hs244_43 : (own_eqr (own_cs (w0_218 x0 x1 x2 x3) (j0_143_e0 x0 x1 x2 x3) (j0_143_e1 x0 x1 x2 x3) (j0_143_e2 x0 x1 x2 x3) (j0_143_e3 x0 x1 x2 x3) (j0_143_e4 x0 x1 x2 x3) (j0_143_e5 x0 x1 x2 x3) (j0_143_e6 x0 x1 x2 x3) (j0_143_e7 x0 x1 x2 x3)) ([110, 117, 108, 108] : List Int32)) = (1 : Int32) := own_eq01 _ _ hs244_38
              refine GoesH.cast (show (mkF m 244 #[iv x0, iv x1, iv x2, jv x3, .second, iv (w0_3 x0 x1 x2 x3), iv (w0_10 x0 x1 x2 x3), iv (j0_25_s0 x0 x1 x2 x3), rv b3, iv (j0_169_s0 x0 x1 x2 x3), iv (j0_202_s0 x0 x1 x2 x3), iv (w0_218 x0 x1 x2 x3), rv b36, .unset] [(own_val cA cB (own_eqr (own_cs (w0_218 x0 x1 x2 x3) (j0_143_e0 x0 x1 x2 x3) (j0_143_e1 x0 x1 x2 x3) (j0_143_e2 x0 x1 x2 x3) (j0_143_e3 x0 x1 x2 x3) (j0_143_e4 x0 x1 x2 x3) (j0_143_e5 x0 x1 x2 x3) (j0_143_e6 x0 x1 x2 x3) (j0_143_e7 x0 x1 x2 x3)) ([110, 117, 108, 108] : List Int32)) (own_eqr (own_cs (w0_218 x0 x1 x2 x3) (j0_143_e0 x0 x1 x2 x3) (j0_143_e1 x0 x1 x2 x3) (j0_143_e2 x0 x1 x2 x3) (j0_143_e3 x0 x1 x2 x3) (j0_143_e4 x0 x1 x2 x3) (j0_143_e5 x0 x1 x2 x3) (j0_143_e6 x0 x1 x2 x3) (j0_143_e7 x0 x1 x2 x3)) ([100, 101, 102, 108, 97, 116, 101] : List Int32)))]) = (mkF m 244 #[iv x0, iv x1, iv x2, jv x3, .second, iv (w0_3 x0 x1 x2 x3), iv (w0_10 x0 x1 x2 x3), iv (j0_25_s0 x0 x1 x2 x3), rv b3, iv (j0_169_s0 x0 x1 x2 x3), iv (j0_202_s0 x0 x1 x2 x3), iv (w0_218 x0 x1 x2 x3), rv b36, .unset] [(own_val cA cB (1 : Int32) (own_eqr (own_cs (w0_218 x0 x1 x2 x3) (j0_143_e0 x0 x1 x2 x3) (j0_143_e1 x0 x1 x2 x3) (j0_143_e2 x0 x1 x2 x3) (j0_143_e3 x0 x1 x2 x3) (j0_143_e4 x0 x1 x2 x3) (j0_143_e5 x0 x1 x2 x3) (j0_143_e6 x0 x1 x2 x3) (j0_143_e7 x0 x1 x2 x3)) ([100, 101, 102, 108, 97, 116, 101] : List Int32)))]) by rw [hs244_43]) ?_
              refine GoesH.cast (show (mkF m 244 #[iv x0, iv x1, iv x2, jv x3, .second, iv (w0_3 x0 x1 x2 x3), iv (w0_10 x0 x1 x2 x3), iv (j0_25_s0 x0 x1 x2 x3), rv b3, iv (j0_169_s0 x0 x1 x2 x3), iv (j0_202_s0 x0 x1 x2 x3), iv (w0_218 x0 x1 x2 x3), rv b36, .unset] [(own_val cA cB (1 : Int32) (own_eqr (own_cs (w0_218 x0 x1 x2 x3) (j0_143_e0 x0 x1 x2 x3) (j0_143_e1 x0 x1 x2 x3) (j0_143_e2 x0 x1 x2 x3) (j0_143_e3 x0 x1 x2 x3) (j0_143_e4 x0 x1 x2 x3) (j0_143_e5 x0 x1 x2 x3) (j0_143_e6 x0 x1 x2 x3) (j0_143_e7 x0 x1 x2 x3)) ([100, 101, 102, 108, 97, 116, 101] : List Int32)))]) = (mkF m 244 #[iv x0, iv x1, iv x2, jv x3, .second, iv (w0_3 x0 x1 x2 x3), iv (w0_10 x0 x1 x2 x3), iv (j0_25_s0 x0 x1 x2 x3), rv b3, iv (j0_169_s0 x0 x1 x2 x3), iv (j0_202_s0 x0 x1 x2 x3), iv (w0_218 x0 x1 x2 x3), rv b36, .unset] [(.ref cA)]) from rfl) ?_
              refine GoesH.run X37 hx hown hci hcl hby (L := [(244, .astore 13, 2), (246, .aload 12, 2)]) (by decide +kernel) rfl (g' := (mkF m 248 #[iv x0, iv x1, iv x2, jv x3, .second, iv (w0_3 x0 x1 x2 x3), iv (w0_10 x0 x1 x2 x3), iv (j0_25_s0 x0 x1 x2 x3), rv b3, iv (j0_169_s0 x0 x1 x2 x3), iv (j0_202_s0 x0 x1 x2 x3), iv (w0_218 x0 x1 x2 x3), rv b36, rv cA] [(.ref b36)])) rfl ?_
              obtain ⟨_, _, ⟨T44, L44, k44, n44⟩, -, X44, ⟨Lc44, hQ44, l44, y44, z44⟩, st44⟩ := Jvm.LawKit.callS X37 hx (y := ym10) hown (mvT hZ w_85) (mvT hZ w_86) (mvT hZ w_83) (mvT hZ w_87) (by decide) (backOf (W := 0) (rmK l Z a0 hw [] b36 va kva cA cB wA tA kA wB tB kB t36 kt36 (own_cs (w0_218 x0 x1 x2 x3) (j0_143_e0 x0 x1 x2 x3) (j0_143_e1 x0 x1 x2 x3) (j0_143_e2 x0 x1 x2 x3) (j0_143_e3 x0 x1 x2 x3) (j0_143_e4 x0 x1 x2 x3) (j0_143_e5 x0 x1 x2 x3) (j0_143_e6 x0 x1 x2 x3) (j0_143_e7 x0 x1 x2 x3)) G1 G3 h37 n0 Zn37 (zE_va.ext Od37.2) (zV_va.ext Od37.2) (zF_headerName_cA.ext Od37.2) (zF_headerName_cB.ext Od37.2) (zE_wA.ext Od37.2) (zF_coder_wA.ext Od37.2) (zF_value_wA.ext Od37.2) (zV_tA.ext Od37.2) (zE_wB.ext Od37.2) (zF_coder_wB.ext Od37.2) (zF_value_wB.ext Od37.2) (zV_tB.ext Od37.2) E_b36 F_coder_b36 F_value_b36 V_t36 Od37 O2 O4 P5 rG3 SV hpM (own_hlM (w0_218 x0 x1 x2 x3) (j0_143_e0 x0 x1 x2 x3) (j0_143_e1 x0 x1 x2 x3) (j0_143_e2 x0 x1 x2 x3) (j0_143_e3 x0 x1 x2 x3) (j0_143_e4 x0 x1 x2 x3) (j0_143_e5 x0 x1 x2 x3) (j0_143_e6 x0 x1 x2 x3) (j0_143_e7 x0 x1 x2 x3))) hZ w_87 w_83 (by decide) (by decide)) (g := (mkF m 248 #[iv x0, iv x1, iv x2, jv x3, .second, iv (w0_3 x0 x1 x2 x3), iv (w0_10 x0 x1 x2 x3), iv (j0_25_s0 x0 x1 x2 x3), rv b3, iv (j0_169_s0 x0 x1 x2 x3), iv (j0_202_s0 x0 x1 x2 x3), iv (w0_218 x0 x1 x2 x3), rv b36, rv cA] [(.ref b36)])) rfl (by rw [hml]; rfl) (argsL := [(.ref b36)]) (rest := []) (lenOf pd0_2 rfl) rfl (by show 2 * 0 + _ ≤ _; exact Nat.le_of_eq rfl) (hb hby at_248) (fun _ _ => ⟨rfl, e37, (by decide : 23 + 1 ≤ _), (by decide : 302 + 2 ≤ _)⟩)
              dsimp only [Pt.U, Pt.locs, Pt.cells, Pt.slots] at X44 l44 y44 z44 st44 hQ44
              subst l44 y44 z44
              obtain ⟨h44, eh44⟩ : ∃ z, z = T44.heap := ⟨_, rfl⟩
              rw [← eh44] at hQ44
              have e44 : T44.heap = h44 := eh44.symm
              obtain ⟨rfl, N44q, Kq44⟩ := hQ44
              have N44 := Fr.app N37 N44q
              have sk44 : ∀ x ∈ ([] : List Addr), Safe Z consts_1 T37.vm h37 x := sf0
              have CH44 := CH37.trans (CHr.keep Kq44 sk44 CH37.1)
              have E_b3 := E_b3.keep Kq44
              have V_b3 := V_b3.keep Kq44 nin0
              have E_b36 := E_b36.keep Kq44
              have F_coder_b36 := F_coder_b36.keep Kq44 nin0
              have F_value_b36 := F_value_b36.keep Kq44 nin0
              have V_t36 := V_t36.keep Kq44 nin0
              have Zn44 : n0 ≤ h44.size := Nat.le_trans Zn37 Kq44.1
              have hk44e := Nat.le_trans hk37 Kq44.1
              have Od44 := Od37.keep Kq44 all0
              refine GoesH.st (B := T44.setTop (mkF m 251 #[iv x0, iv x1, iv x2, jv x3, .second, iv (w0_3 x0 x1 x2 x3), iv (w0_10 x0 x1 x2 x3), iv (j0_25_s0 x0 x1 x2 x3), rv b3, iv (j0_169_s0 x0 x1 x2 x3), iv (j0_202_s0 x0 x1 x2 x3), iv (w0_218 x0 x1 x2 x3), rv b36, rv cA] [(own_val cA cB (own_eqr ([110, 117, 108, 108] : List Int32) (own_cs (w0_218 x0 x1 x2 x3) (j0_143_e0 x0 x1 x2 x3) (j0_143_e1 x0 x1 x2 x3) (j0_143_e2 x0 x1 x2 x3) (j0_143_e3 x0 x1 x2 x3) (j0_143_e4 x0 x1 x2 x3) (j0_143_e5 x0 x1 x2 x3) (j0_143_e6 x0 x1 x2 x3) (j0_143_e7 x0 x1 x2 x3))) (own_eqr ([100, 101, 102, 108, 97, 116, 101] : List Int32) (own_cs (w0_218 x0 x1 x2 x3) (j0_143_e0 x0 x1 x2 x3) (j0_143_e1 x0 x1 x2 x3) (j0_143_e2 x0 x1 x2 x3) (j0_143_e3 x0 x1 x2 x3) (j0_143_e4 x0 x1 x2 x3) (j0_143_e5 x0 x1 x2 x3) (j0_143_e6 x0 x1 x2 x3) (j0_143_e7 x0 x1 x2 x3))))])) st44 ?_
              refine GoesH.run X44 hx hown hci hcl hby (L := [(251, .aload 13, 2)]) (by decide +kernel) rfl (g' := (mkF m 253 #[iv x0, iv x1, iv x2, jv x3, .second, iv (w0_3 x0 x1 x2 x3), iv (w0_10 x0 x1 x2 x3), iv (j0_25_s0 x0 x1 x2 x3), rv b3, iv (j0_169_s0 x0 x1 x2 x3), iv (j0_202_s0 x0 x1 x2 x3), iv (w0_218 x0 x1 x2 x3), rv b36, rv cA] [(.ref cA), (own_val cA cB (own_eqr ([110, 117, 108, 108] : List Int32) (own_cs (w0_218 x0 x1 x2 x3) (j0_143_e0 x0 x1 x2 x3) (j0_143_e1 x0 x1 x2 x3) (j0_143_e2 x0 x1 x2 x3) (j0_143_e3 x0 x1 x2 x3) (j0_143_e4 x0 x1 x2 x3) (j0_143_e5 x0 x1 x2 x3) (j0_143_e6 x0 x1 x2 x3) (j0_143_e7 x0 x1 x2 x3))) (own_eqr ([100, 101, 102, 108, 97, 116, 101] : List Int32) (own_cs (w0_218 x0 x1 x2 x3) (j0_143_e0 x0 x1 x2 x3) (j0_143_e1 x0 x1 x2 x3) (j0_143_e2 x0 x1 x2 x3) (j0_143_e3 x0 x1 x2 x3) (j0_143_e4 x0 x1 x2 x3) (j0_143_e5 x0 x1 x2 x3) (j0_143_e6 x0 x1 x2 x3) (j0_143_e7 x0 x1 x2 x3))))])) rfl ?_
              refine GoesH.st (B := T44.setTop (mkF m 256 #[iv x0, iv x1, iv x2, jv x3, .second, iv (w0_3 x0 x1 x2 x3), iv (w0_10 x0 x1 x2 x3), iv (j0_25_s0 x0 x1 x2 x3), rv b3, iv (j0_169_s0 x0 x1 x2 x3), iv (j0_202_s0 x0 x1 x2 x3), iv (w0_218 x0 x1 x2 x3), rv b36, rv cA] [])) (fun t k => ?_) ?_
              · refine Jvm.RoadKit.acmp (g := (mkF m 253 #[iv x0, iv x1, iv x2, jv x3, .second, iv (w0_3 x0 x1 x2 x3), iv (w0_10 x0 x1 x2 x3), iv (j0_25_s0 x0 x1 x2 x3), rv b3, iv (j0_169_s0 x0 x1 x2 x3), iv (j0_202_s0 x0 x1 x2 x3), iv (w0_218 x0 x1 x2 x3), rv b36, rv cA] [(.ref cA), (own_val cA cB (own_eqr ([110, 117, 108, 108] : List Int32) (own_cs (w0_218 x0 x1 x2 x3) (j0_143_e0 x0 x1 x2 x3) (j0_143_e1 x0 x1 x2 x3) (j0_143_e2 x0 x1 x2 x3) (j0_143_e3 x0 x1 x2 x3) (j0_143_e4 x0 x1 x2 x3) (j0_143_e5 x0 x1 x2 x3) (j0_143_e6 x0 x1 x2 x3) (j0_143_e7 x0 x1 x2 x3))) (own_eqr ([100, 101, 102, 108, 97, 116, 101] : List Int32) (own_cs (w0_218 x0 x1 x2 x3) (j0_143_e0 x0 x1 x2 x3) (j0_143_e1 x0 x1 x2 x3) (j0_143_e2 x0 x1 x2 x3) (j0_143_e3 x0 x1 x2 x3) (j0_143_e4 x0 x1 x2 x3) (j0_143_e5 x0 x1 x2 x3) (j0_143_e6 x0 x1 x2 x3) (j0_143_e7 x0 x1 x2 x3))))])) X44 hx rfl (own_valR _ _ _ _) rfl (pc0 := 253) (pc' := 256) (same := true) rfl (hb hby at_253) rfl (decide_eq_true ((own_veq _ _ _).trans (by rw [(by assumption : own_eqr (own_cs (w0_218 x0 x1 x2 x3) (j0_143_e0 x0 x1 x2 x3) (j0_143_e1 x0 x1 x2 x3) (j0_143_e2 x0 x1 x2 x3) (j0_143_e3 x0 x1 x2 x3) (j0_143_e4 x0 x1 x2 x3) (j0_143_e5 x0 x1 x2 x3) (j0_143_e6 x0 x1 x2 x3) (j0_143_e7 x0 x1 x2 x3)) ([110, 117, 108, 108] : List Int32) = (1 : Int32))]; rfl))) (by decide) (by decide) ?_
                exact k
              refine GoesH.run X44 hx hown hci hcl hby (L := [(256, .iconst 1, 1), (257, .goto 4, 3)]) (by decide +kernel) rfl (g' := (mkF m 261 #[iv x0, iv x1, iv x2, jv x3, .second, iv (w0_3 x0 x1 x2 x3), iv (w0_10 x0 x1 x2 x3), iv (j0_25_s0 x0 x1 x2 x3), rv b3, iv (j0_169_s0 x0 x1 x2 x3), iv (j0_202_s0 x0 x1 x2 x3), iv (w0_218 x0 x1 x2 x3), rv b36, rv cA] [(.int (1 : Int32))])) rfl ?_
              exact GoesH.retB X44 Sn37 (by rw [e44]; exact hk44e) (by rw [e44]; exact CH44) hZ hEL hx hlk (t := .boolean) Bd.returns (by simp) (hb hby at_261) rfl ⟨(congrArg (fun z => some (Value.int z)) (show (r0 x0 x1 x2 x3) = (1 : Int32) from ((if_neg hc223_33).trans (if_neg hs244_38))).symm), N44⟩ (by decide) (by decide)
        by_cases hc174_27 : (w0_10 x0 x1 x2 x3) = (1 : Int32)
        · skip
          refine GoesH.st (B := T22.setTop (mkF m 177 #[iv x0, iv x1, iv x2, jv x3, .second, iv (w0_3 x0 x1 x2 x3), iv (w0_10 x0 x1 x2 x3), iv (j0_25_s0 x0 x1 x2 x3), rv b3, iv (j0_169_s0 x0 x1 x2 x3), .unset, .unset, .unset, .unset] [])) (fun t k => ?_) ?_
          · refine XS.icmpNo X22.here hx rfl (hb hby at_174) rfl (teq hc174_27).2 ?_
            exact k
          refine GoesH.run X22 hx hown hci hcl hby (L := [(177, .iconst (-1), 1), (178, .goto 24, 3)]) (by decide +kernel) rfl (g' := (mkF m 202 #[iv x0, iv x1, iv x2, jv x3, .second, iv (w0_3 x0 x1 x2 x3), iv (w0_10 x0 x1 x2 x3), iv (j0_25_s0 x0 x1 x2 x3), rv b3, iv (j0_169_s0 x0 x1 x2 x3), .unset, .unset, .unset, .unset] [(.int (-1 : Int32))])) rfl ?_
          have q := jn202_30
          rw [show (j0_202_s0 x0 x1 x2 x3) = (-1 : Int32) from (if_pos hc174_27)] at q
          exact q
        · skip
          refine GoesH.st (B := T22.setTop (mkF m 181 #[iv x0, iv x1, iv x2, jv x3, .second, iv (w0_3 x0 x1 x2 x3), iv (w0_10 x0 x1 x2 x3), iv (j0_25_s0 x0 x1 x2 x3), rv b3, iv (j0_169_s0 x0 x1 x2 x3), .unset, .unset, .unset, .unset] [])) (fun t k => ?_) ?_
          · refine XS.icmpYes X22.here hx rfl (pc0 := 174) (pc' := 181) rfl (hb hby at_174) rfl (feq hc174_27).2 (by decide) (by decide) ?_
            exact k
          refine GoesH.run X22 hx hown hci hcl hby (L := [(181, .iload 6, 2), (183, .iconst 2, 1)]) (by decide +kernel) rfl (g' := (mkF m 184 #[iv x0, iv x1, iv x2, jv x3, .second, iv (w0_3 x0 x1 x2 x3), iv (w0_10 x0 x1 x2 x3), iv (j0_25_s0 x0 x1 x2 x3), rv b3, iv (j0_169_s0 x0 x1 x2 x3), .unset, .unset, .unset, .unset] [(.int (2 : Int32)), (.int (w0_10 x0 x1 x2 x3))])) rfl ?_
          by_cases hc184_45 : (w0_10 x0 x1 x2 x3) = (2 : Int32)
          · skip
            refine GoesH.st (B := T22.setTop (mkF m 187 #[iv x0, iv x1, iv x2, jv x3, .second, iv (w0_3 x0 x1 x2 x3), iv (w0_10 x0 x1 x2 x3), iv (j0_25_s0 x0 x1 x2 x3), rv b3, iv (j0_169_s0 x0 x1 x2 x3), .unset, .unset, .unset, .unset] [])) (fun t k => ?_) ?_
            · refine XS.icmpNo X22.here hx rfl (hb hby at_184) rfl (teq hc184_45).2 ?_
              exact k
            refine GoesH.run X22 hx hown hci hcl hby (L := [(187, .iconst 1, 1), (188, .goto 14, 3)]) (by decide +kernel) rfl (g' := (mkF m 202 #[iv x0, iv x1, iv x2, jv x3, .second, iv (w0_3 x0 x1 x2 x3), iv (w0_10 x0 x1 x2 x3), iv (j0_25_s0 x0 x1 x2 x3), rv b3, iv (j0_169_s0 x0 x1 x2 x3), .unset, .unset, .unset, .unset] [(.int (1 : Int32))])) rfl ?_
            have q := jn202_30
            rw [show (j0_202_s0 x0 x1 x2 x3) = (1 : Int32) from ((if_neg hc174_27).trans (if_pos hc184_45))] at q
            exact q
          · skip
            refine GoesH.st (B := T22.setTop (mkF m 191 #[iv x0, iv x1, iv x2, jv x3, .second, iv (w0_3 x0 x1 x2 x3), iv (w0_10 x0 x1 x2 x3), iv (j0_25_s0 x0 x1 x2 x3), rv b3, iv (j0_169_s0 x0 x1 x2 x3), .unset, .unset, .unset, .unset] [])) (fun t k => ?_) ?_
            · refine XS.icmpYes X22.here hx rfl (pc0 := 184) (pc' := 191) rfl (hb hby at_184) rfl (feq hc184_45).2 (by decide) (by decide) ?_
              exact k
            refine GoesH.run X22 hx hown hci hcl hby (L := [(191, .iload 6, 2), (193, .iconst 3, 1)]) (by decide +kernel) rfl (g' := (mkF m 194 #[iv x0, iv x1, iv x2, jv x3, .second, iv (w0_3 x0 x1 x2 x3), iv (w0_10 x0 x1 x2 x3), iv (j0_25_s0 x0 x1 x2 x3), rv b3, iv (j0_169_s0 x0 x1 x2 x3), .unset, .unset, .unset, .unset] [(.int (3 : Int32)), (.int (w0_10 x0 x1 x2 x3))])) rfl ?_
            by_cases hc194_46 : (w0_10 x0 x1 x2 x3) = (3 : Int32)
            · skip
              refine GoesH.st (B := T22.setTop (mkF m 197 #[iv x0, iv x1, iv x2, jv x3, .second, iv (w0_3 x0 x1 x2 x3), iv (w0_10 x0 x1 x2 x3), iv (j0_25_s0 x0 x1 x2 x3), rv b3, iv (j0_169_s0 x0 x1 x2 x3), .unset, .unset, .unset, .unset] [])) (fun t k => ?_) ?_
              · refine XS.icmpNo X22.here hx rfl (hb hby at_194) rfl (teq hc194_46).2 ?_
                exact k
              refine GoesH.run X22 hx hown hci hcl hby (L := [(197, .iconst 2, 1), (198, .goto 4, 3)]) (by decide +kernel) rfl (g' := (mkF m 202 #[iv x0, iv x1, iv x2, jv x3, .second, iv (w0_3 x0 x1 x2 x3), iv (w0_10 x0 x1 x2 x3), iv (j0_25_s0 x0 x1 x2 x3), rv b3, iv (j0_169_s0 x0 x1 x2 x3), .unset, .unset, .unset, .unset] [(.int (2 : Int32))])) rfl ?_
              have q := jn202_30
              rw [show (j0_202_s0 x0 x1 x2 x3) = (2 : Int32) from (((if_neg hc174_27).trans (if_neg hc184_45)).trans (if_pos hc194_46))] at q
              exact q
            · skip
              refine GoesH.st (B := T22.setTop (mkF m 201 #[iv x0, iv x1, iv x2, jv x3, .second, iv (w0_3 x0 x1 x2 x3), iv (w0_10 x0 x1 x2 x3), iv (j0_25_s0 x0 x1 x2 x3), rv b3, iv (j0_169_s0 x0 x1 x2 x3), .unset, .unset, .unset, .unset] [])) (fun t k => ?_) ?_
              · refine XS.icmpYes X22.here hx rfl (pc0 := 194) (pc' := 201) rfl (hb hby at_194) rfl (feq hc194_46).2 (by decide) (by decide) ?_
                exact k
              refine GoesH.run X22 hx hown hci hcl hby (L := [(201, .iconst 0, 1)]) (by decide +kernel) rfl (g' := (mkF m 202 #[iv x0, iv x1, iv x2, jv x3, .second, iv (w0_3 x0 x1 x2 x3), iv (w0_10 x0 x1 x2 x3), iv (j0_25_s0 x0 x1 x2 x3), rv b3, iv (j0_169_s0 x0 x1 x2 x3), .unset, .unset, .unset, .unset] [(.int (0 : Int32))])) rfl ?_
              have q := jn202_30
              rw [show (j0_202_s0 x0 x1 x2 x3) = (0 : Int32) from (((if_neg hc174_27).trans (if_neg hc184_45)).trans (if_neg hc194_46))] at q
              exact q
      by_cases hc145_24 : (w0_3 x0 x1 x2 x3) = (0 : Int32)
      · skip
        refine GoesH.st (B := T22.setTop (mkF m 148 #[iv x0, iv x1, iv x2, jv x3, .second, iv (w0_3 x0 x1 x2 x3), iv (w0_10 x0 x1 x2 x3), iv (j0_25_s0 x0 x1 x2 x3), rv b3, .unset, .unset, .unset, .unset, .unset] [])) (fun t k => ?_) ?_
        · refine XS.ifNo X22.here hx rfl (hb hby at_145) rfl ((if0 _ _).trans (teq hc145_24).2) ?_
          exact k
        refine GoesH.run X22 hx hown hci hcl hby (L := [(148, .iconst 4, 1), (149, .goto 20, 3)]) (by decide +kernel) rfl (g' := (mkF m 169 #[iv x0, iv x1, iv x2, jv x3, .second, iv (w0_3 x0 x1 x2 x3), iv (w0_10 x0 x1 x2 x3), iv (j0_25_s0 x0 x1 x2 x3), rv b3, .unset, .unset, .unset, .unset, .unset] [(.int (4 : Int32))])) rfl ?_
        have q := jn169_26
        rw [show (j0_169_s0 x0 x1 x2 x3) = (4 : Int32) from (if_pos hc145_24)] at q
        exact q
      · skip
        refine GoesH.st (B := T22.setTop (mkF m 152 #[iv x0, iv x1, iv x2, jv x3, .second, iv (w0_3 x0 x1 x2 x3), iv (w0_10 x0 x1 x2 x3), iv (j0_25_s0 x0 x1 x2 x3), rv b3, .unset, .unset, .unset, .unset, .unset] [])) (fun t k => ?_) ?_
        · refine XS.ifYes X22.here hx rfl (pc0 := 145) (pc' := 152) rfl (hb hby at_145) rfl ((if0 _ _).trans (feq hc145_24).2) (by decide) (by decide) ?_
          exact k
        refine GoesH.run X22 hx hown hci hcl hby (L := [(152, .iload 5, 2), (154, .iconst 1, 1)]) (by decide +kernel) rfl (g' := (mkF m 155 #[iv x0, iv x1, iv x2, jv x3, .second, iv (w0_3 x0 x1 x2 x3), iv (w0_10 x0 x1 x2 x3), iv (j0_25_s0 x0 x1 x2 x3), rv b3, .unset, .unset, .unset, .unset, .unset] [(.int (1 : Int32)), (.int (w0_3 x0 x1 x2 x3))])) rfl ?_
        by_cases hc155_47 : (w0_3 x0 x1 x2 x3) = (1 : Int32)
        · skip
          refine GoesH.st (B := T22.setTop (mkF m 158 #[iv x0, iv x1, iv x2, jv x3, .second, iv (w0_3 x0 x1 x2 x3), iv (w0_10 x0 x1 x2 x3), iv (j0_25_s0 x0 x1 x2 x3), rv b3, .unset, .unset, .unset, .unset, .unset] [])) (fun t k => ?_) ?_
          · refine XS.icmpNo X22.here hx rfl (hb hby at_155) rfl (teq hc155_47).2 ?_
            exact k
          refine GoesH.run X22 hx hown hci hcl hby (L := [(158, .bipush 7, 2), (160, .goto 9, 3)]) (by decide +kernel) rfl (g' := (mkF m 169 #[iv x0, iv x1, iv x2, jv x3, .second, iv (w0_3 x0 x1 x2 x3), iv (w0_10 x0 x1 x2 x3), iv (j0_25_s0 x0 x1 x2 x3), rv b3, .unset, .unset, .unset, .unset, .unset] [(.int (7 : Int32))])) rfl ?_
          have q := jn169_26
          rw [show (j0_169_s0 x0 x1 x2 x3) = (7 : Int32) from ((if_neg hc145_24).trans (if_pos hc155_47))] at q
          exact q
        · skip
          refine GoesH.st (B := T22.setTop (mkF m 163 #[iv x0, iv x1, iv x2, jv x3, .second, iv (w0_3 x0 x1 x2 x3), iv (w0_10 x0 x1 x2 x3), iv (j0_25_s0 x0 x1 x2 x3), rv b3, .unset, .unset, .unset, .unset, .unset] [])) (fun t k => ?_) ?_
          · refine XS.icmpYes X22.here hx rfl (pc0 := 155) (pc' := 163) rfl (hb hby at_155) rfl (feq hc155_47).2 (by decide) (by decide) ?_
            exact k
          refine GoesH.run X22 hx hown hci hcl hby (L := [(163, .iload_n 1, 1), (164, .iconst 3, 1), (165, .iushr, 1), (166, .bipush 7, 2), (168, .iand, 1)]) (by decide +kernel) rfl (g' := (mkF m 169 #[iv x0, iv x1, iv x2, jv x3, .second, iv (w0_3 x0 x1 x2 x3), iv (w0_10 x0 x1 x2 x3), iv (j0_25_s0 x0 x1 x2 x3), rv b3, .unset, .unset, .unset, .unset, .unset] [(.int (((x1.toUInt32 >>> ((3 : Int32) &&& 31).toUInt32).toInt32) &&& (7 : Int32)))])) rfl ?_
          have q := jn169_26
          rw [show (j0_169_s0 x0 x1 x2 x3) = (((x1.toUInt32 >>> ((3 : Int32) &&& 31).toUInt32).toInt32) &&& (7 : Int32)) from ((if_neg hc145_24).trans (if_neg hc155_47))] at q
          exact q
    by_cases hc127_20 : (j0_25_s0 x0 x1 x2 x3) = (0 : Int32)
    · skip
      refine GoesH.st (B := T19.setTop (mkF m 143 #[iv x0, iv x1, iv x2, jv x3, .second, iv (w0_3 x0 x1 x2 x3), iv (w0_10 x0 x1 x2 x3), iv (j0_25_s0 x0 x1 x2 x3), rv b3, .unset, .unset, .unset, .unset, .unset] [])) (fun t k => ?_) ?_
      · refine XS.ifYes X19.here hx rfl (pc0 := 127) (pc' := 143) rfl (hb hby at_127) rfl ((if0 _ _).trans (teq hc127_20).1) (by decide) (by decide) ?_
        exact k
      have q := jn143_23
      rw [show (j0_143_e0 x0 x1 x2 x3) = (w0_43 x0 x1 x2 x3) from (if_pos hc127_20), show (j0_143_e1 x0 x1 x2 x3) = (w0_54 x0 x1 x2 x3) from (if_pos hc127_20), show (j0_143_e2 x0 x1 x2 x3) = (w0_65 x0 x1 x2 x3) from (if_pos hc127_20), show (j0_143_e3 x0 x1 x2 x3) = (w0_76 x0 x1 x2 x3) from (if_pos hc127_20), show (j0_143_e4 x0 x1 x2 x3) = (w0_87 x0 x1 x2 x3) from (if_pos hc127_20), show (j0_143_e5 x0 x1 x2 x3) = (w0_98 x0 x1 x2 x3) from (if_pos hc127_20), show (j0_143_e6 x0 x1 x2 x3) = (w0_111 x0 x1 x2 x3) from (if_pos hc127_20), show (j0_143_e7 x0 x1 x2 x3) = (w0_124 x0 x1 x2 x3) from (if_pos hc127_20)] at q
      exact q _ _ _ _ X19 e19 N19 Zn19 _ Sn16 hk19e hZ hown CH19 Od19 E_b3 V_b3
    · skip
      refine GoesH.st (B := T19.setTop (mkF m 130 #[iv x0, iv x1, iv x2, jv x3, .second, iv (w0_3 x0 x1 x2 x3), iv (w0_10 x0 x1 x2 x3), iv (j0_25_s0 x0 x1 x2 x3), rv b3, .unset, .unset, .unset, .unset, .unset] [])) (fun t k => ?_) ?_
      · refine XS.ifNo X19.here hx rfl (hb hby at_127) rfl ((if0 _ _).trans (feq hc127_20).1) ?_
        exact k
      refine GoesH.run X19 hx hown hci hcl hby (L := [(130, .aload 8, 2), (132, .iload_n 1, 1), (133, .bipush 7, 2), (135, .iand, 1), (136, .iload_n 2, 1), (137, .sipush 255, 3)]) (by decide +kernel) rfl (g' := (mkF m 140 #[iv x0, iv x1, iv x2, jv x3, .second, iv (w0_3 x0 x1 x2 x3), iv (w0_10 x0 x1 x2 x3), iv (j0_25_s0 x0 x1 x2 x3), rv b3, .unset, .unset, .unset, .unset, .unset] [(.int (255 : Int32)), (.int x2), (.int (x1 &&& (7 : Int32))), (.ref b3)])) rfl ?_
      refine GoesH.run X19 hx hown hci hcl hby (L := [(140, .iand, 1), (141, .i2c, 1)]) (by decide +kernel) rfl (g' := (mkF m 142 #[iv x0, iv x1, iv x2, jv x3, .second, iv (w0_3 x0 x1 x2 x3), iv (w0_10 x0 x1 x2 x3), iv (j0_25_s0 x0 x1 x2 x3), rv b3, .unset, .unset, .unset, .unset, .unset] [(.int ((x2 &&& (255 : Int32)).toUInt32.toUInt16.toUInt32.toInt32)), (.int (x1 &&& (7 : Int32))), (.ref b3)])) rfl ?_
      obtain ⟨cl48, Ar48, q48, S48, M48, Hs48, G48⟩ := id V_b3
      have hin48 : ¬ ((x1 &&& (7 : Int32)) < 0 ∨ cl48.slots.size ≤ ((x1 &&& (7 : Int32))).toNatClampNeg) := inb_of S48 ⟨(by rcases own_ix x1 with h | h | h | h | h | h | h | h <;> rw [h] <;> decide), (by rcases own_ix x1 with h | h | h | h | h | h | h | h <;> rw [h] <;> decide)⟩
      obtain ⟨T48, h48, X48, e48, W48, st48⟩ := stC X19 hx hZ e19 Ar48 (j := (x1 &&& (7 : Int32))) hin48 (g := (mkF m 142 #[iv x0, iv x1, iv x2, jv x3, .second, iv (w0_3 x0 x1 x2 x3), iv (w0_10 x0 x1 x2 x3), iv (j0_25_s0 x0 x1 x2 x3), rv b3, .unset, .unset, .unset, .unset, .unset] [(.int ((x2 &&& (255 : Int32)).toUInt32.toUInt16.toUInt32.toInt32)), (.int (x1 &&& (7 : Int32))), (.ref b3)])) rfl rfl (hb hby at_142)
      have sk48 := ((Safe.arv hZ.alike V_b3 (by decide)) : Safe Z consts_1 T16.vm h19 b3)
      have CH48 := CH19.trans (CHr.wr W48 sk48 CH19.1)
      have E_b3 := E_b3.wr W48
      have Zn48 : n0 ≤ h48.size := Nat.le_trans Zn19 (Keep.of_wr W48).1
      have Od48 := Od19.wr W48 g_b3
      have hk48e := Nat.le_trans hk19e (Keep.of_wr W48).1
      have N48 := Fr.snoc X48 N19 g_b3
      have V_b3 : Arv Z h48 b3 k3 .char (8 : Int32) [(.int (if (x1 &&& (7 : Int32)) = (0 : Int32) then (w0_142 x0 x1 x2 x3) else (w0_43 x0 x1 x2 x3))), (.int (if (x1 &&& (7 : Int32)) = (1 : Int32) then (w0_142 x0 x1 x2 x3) else (w0_54 x0 x1 x2 x3))), (.int (if (x1 &&& (7 : Int32)) = (2 : Int32) then (w0_142 x0 x1 x2 x3) else (w0_65 x0 x1 x2 x3))), (.int (if (x1 &&& (7 : Int32)) = (3 : Int32) then (w0_142 x0 x1 x2 x3) else (w0_76 x0 x1 x2 x3))), (.int (if (x1 &&& (7 : Int32)) = (4 : Int32) then (w0_142 x0 x1 x2 x3) else (w0_87 x0 x1 x2 x3))), (.int (if (x1 &&& (7 : Int32)) = (5 : Int32) then (w0_142 x0 x1 x2 x3) else (w0_98 x0 x1 x2 x3))), (.int (if (x1 &&& (7 : Int32)) = (6 : Int32) then (w0_142 x0 x1 x2 x3) else (w0_111 x0 x1 x2 x3))), (.int (if (x1 &&& (7 : Int32)) = (7 : Int32) then (w0_142 x0 x1 x2 x3) else (w0_124 x0 x1 x2 x3)))] (.int (0 : Int32)) := by
        rcases own_ix x1 with h | h | h | h | h | h | h | h
        · rw [h] at W48 ⊢; exact Arv.set Ar48 q48 S48 M48 Hs48 G48 (fits_nar_char _) W48 0 rfl (Nat.le_of_ble_eq_true rfl)
        · rw [h] at W48 ⊢; exact Arv.set Ar48 q48 S48 M48 Hs48 G48 (fits_nar_char _) W48 1 rfl (Nat.le_of_ble_eq_true rfl)
        · rw [h] at W48 ⊢; exact Arv.set Ar48 q48 S48 M48 Hs48 G48 (fits_nar_char _) W48 2 rfl (Nat.le_of_ble_eq_true rfl)
        · rw [h] at W48 ⊢; exact Arv.set Ar48 q48 S48 M48 Hs48 G48 (fits_nar_char _) W48 3 rfl (Nat.le_of_ble_eq_true rfl)
        · rw [h] at W48 ⊢; exact Arv.set Ar48 q48 S48 M48 Hs48 G48 (fits_nar_char _) W48 4 rfl (Nat.le_of_ble_eq_true rfl)
        · rw [h] at W48 ⊢; exact Arv.set Ar48 q48 S48 M48 Hs48 G48 (fits_nar_char _) W48 5 rfl (Nat.le_of_ble_eq_true rfl)
        · rw [h] at W48 ⊢; exact Arv.set Ar48 q48 S48 M48 Hs48 G48 (fits_nar_char _) W48 6 rfl (Nat.le_of_ble_eq_true rfl)
        · rw [h] at W48 ⊢; exact Arv.set Ar48 q48 S48 M48 Hs48 G48 (fits_nar_char _) W48 7 rfl (Nat.le_of_ble_eq_true rfl)
      refine GoesH.st (B := T48.setTop (mkF m 143 #[iv x0, iv x1, iv x2, jv x3, .second, iv (w0_3 x0 x1 x2 x3), iv (w0_10 x0 x1 x2 x3), iv (j0_25_s0 x0 x1 x2 x3), rv b3, .unset, .unset, .unset, .unset, .unset] [])) st48 ?_
      have q := jn143_23
      rw [show (j0_143_e0 x0 x1 x2 x3) = (if (x1 &&& (7 : Int32)) = (0 : Int32) then (w0_142 x0 x1 x2 x3) else (w0_43 x0 x1 x2 x3)) from (if_neg hc127_20), show (j0_143_e1 x0 x1 x2 x3) = (if (x1 &&& (7 : Int32)) = (1 : Int32) then (w0_142 x0 x1 x2 x3) else (w0_54 x0 x1 x2 x3)) from (if_neg hc127_20), show (j0_143_e2 x0 x1 x2 x3) = (if (x1 &&& (7 : Int32)) = (2 : Int32) then (w0_142 x0 x1 x2 x3) else (w0_65 x0 x1 x2 x3)) from (if_neg hc127_20), show (j0_143_e3 x0 x1 x2 x3) = (if (x1 &&& (7 : Int32)) = (3 : Int32) then (w0_142 x0 x1 x2 x3) else (w0_76 x0 x1 x2 x3)) from (if_neg hc127_20), show (j0_143_e4 x0 x1 x2 x3) = (if (x1 &&& (7 : Int32)) = (4 : Int32) then (w0_142 x0 x1 x2 x3) else (w0_87 x0 x1 x2 x3)) from (if_neg hc127_20), show (j0_143_e5 x0 x1 x2 x3) = (if (x1 &&& (7 : Int32)) = (5 : Int32) then (w0_142 x0 x1 x2 x3) else (w0_98 x0 x1 x2 x3)) from (if_neg hc127_20), show (j0_143_e6 x0 x1 x2 x3) = (if (x1 &&& (7 : Int32)) = (6 : Int32) then (w0_142 x0 x1 x2 x3) else (w0_111 x0 x1 x2 x3)) from (if_neg hc127_20), show (j0_143_e7 x0 x1 x2 x3) = (if (x1 &&& (7 : Int32)) = (7 : Int32) then (w0_142 x0 x1 x2 x3) else (w0_124 x0 x1 x2 x3)) from (if_neg hc127_20)] at q
      exact q _ _ _ _ X48 e48 N48 Zn48 _ Sn16 hk48e hZ hown CH48 Od48 E_b3 V_b3
  by_cases hc17_1 : (((x0.toUInt32 >>> ((4 : Int32) &&& 31).toUInt32).toInt32) &&& (1 : Int32)) = (0 : Int32)
  · skip
    refine GoesH.st (B := s₁.setTop (mkF m 24 #[iv x0, iv x1, iv x2, jv x3, .second, iv (w0_3 x0 x1 x2 x3), iv (w0_10 x0 x1 x2 x3), .unset, .unset, .unset, .unset, .unset, .unset, .unset] [])) (fun t k => ?_) ?_
    · refine XS.ifYes X0.here hx rfl (pc0 := 17) (pc' := 24) rfl (hb hby at_17) rfl ((if0 _ _).trans (teq hc17_1).1) (by decide) (by decide) ?_
      exact k
    refine GoesH.run X0 hx hown hci hcl hby (L := [(24, .iconst 0, 1)]) (by decide +kernel) rfl (g' := (mkF m 25 #[iv x0, iv x1, iv x2, jv x3, .second, iv (w0_3 x0 x1 x2 x3), iv (w0_10 x0 x1 x2 x3), .unset, .unset, .unset, .unset, .unset, .unset, .unset] [(.int (0 : Int32))])) rfl ?_
    have q := jn25_2
    rw [show (j0_25_s0 x0 x1 x2 x3) = (0 : Int32) from (if_pos hc17_1)] at q
    exact q
  · skip
    refine GoesH.st (B := s₁.setTop (mkF m 20 #[iv x0, iv x1, iv x2, jv x3, .second, iv (w0_3 x0 x1 x2 x3), iv (w0_10 x0 x1 x2 x3), .unset, .unset, .unset, .unset, .unset, .unset, .unset] [])) (fun t k => ?_) ?_
    · refine XS.ifNo X0.here hx rfl (hb hby at_17) rfl ((if0 _ _).trans (feq hc17_1).1) ?_
      exact k
    refine GoesH.run X0 hx hown hci hcl hby (L := [(20, .iconst 1, 1), (21, .goto 4, 3)]) (by decide +kernel) rfl (g' := (mkF m 25 #[iv x0, iv x1, iv x2, jv x3, .second, iv (w0_3 x0 x1 x2 x3), iv (w0_10 x0 x1 x2 x3), .unset, .unset, .unset, .unset, .unset, .unset, .unset] [(.int (1 : Int32))])) rfl ?_
    have q := jn25_2
    rw [show (j0_25_s0 x0 x1 x2 x3) = (1 : Int32) from (if_neg hc17_1)] at q
    exact q
theorem own_size {Z : State} {args : Array Value} {t : Term} {a : Addr} {cl : Cell} {z : Int32} (ev : t.eval args Z none [] Z = some (.ref a)) (ha : Z.arrayAt? a = some cl) (h : (Term.length t).eval args Z none [] Z = some (.int z)) : cl.slots.size < 2 ^ 31 ∧ cl.slots.size.toInt32 = z := by
  simp only [Term.eval, ev, ha, Option.bind_eq_bind, Option.bind_some, Option.pure_def] at h
  split at h
  · rename_i q
    exact ⟨q, Value.int.inj (Option.some.inj h)⟩
  · cases h
theorem own_str4 {Z : State} {args : Array Value} {t : Term} {x : Addr} (hf : Fit Z) (et : t.eval args Z none [] Z = some (.ref x)) {c0 c1 c2 c3 : Int32} (h1 : (Cond.exactly (.field t "com/example/upcaster/upcaster/io/Codec" "headerName" "Ljava/lang/String;") "java/lang/String").value args Z none Z [] = some true) (h2 : (Cond.eq (.field (.field t "com/example/upcaster/upcaster/io/Codec" "headerName" "Ljava/lang/String;") "java/lang/String" "coder" "B") (.int 0)).value args Z none Z [] = some true) (h3 : (Cond.arrayOf (.field (.field t "com/example/upcaster/upcaster/io/Codec" "headerName" "Ljava/lang/String;") "java/lang/String" "value" "[B") .byte).value args Z none Z [] = some true) (h4 : (Cond.eq (.length (.field (.field t "com/example/upcaster/upcaster/io/Codec" "headerName" "Ljava/lang/String;") "java/lang/String" "value" "[B")) (.int 4)).value args Z none Z [] = some true)
    (k0 : (Cond.eq (.elem (.field (.field t "com/example/upcaster/upcaster/io/Codec" "headerName" "Ljava/lang/String;") "java/lang/String" "value" "[B") (.int 0)) (.int c0)).value args Z none Z [] = some true) (k1 : (Cond.eq (.elem (.field (.field t "com/example/upcaster/upcaster/io/Codec" "headerName" "Ljava/lang/String;") "java/lang/String" "value" "[B") (.int 1)) (.int c1)).value args Z none Z [] = some true) (k2 : (Cond.eq (.elem (.field (.field t "com/example/upcaster/upcaster/io/Codec" "headerName" "Ljava/lang/String;") "java/lang/String" "value" "[B") (.int 2)) (.int c2)).value args Z none Z [] = some true) (k3 : (Cond.eq (.elem (.field (.field t "com/example/upcaster/upcaster/io/Codec" "headerName" "Ljava/lang/String;") "java/lang/String" "value" "[B") (.int 3)) (.int c3)).value args Z none Z [] = some true) :
    ∃ (w b : Addr) (k : ClassId), Fld Z Z.heap x "com/example/upcaster/upcaster/io/Codec" "headerName" "Ljava/lang/String;" (.ref w) ∧ Exa Z Z.heap w "java/lang/String" ∧ Fld Z Z.heap w "java/lang/String" "coder" "B" (.int 0) ∧ Fld Z Z.heap w "java/lang/String" "value" "[B" (.ref b) ∧ Arv Z Z.heap b k .byte 4 [.int c0, .int c1, .int c2, .int c3] (.int 0) := by
  obtain ⟨w, ew⟩ := exa_v h1
  obtain ⟨b, eb⟩ := arr_v h3
  obtain ⟨cl, A⟩ := Arr.start eb h3
  have af := A.fin (Vm.Alike.refl _)
  obtain ⟨z1, z2⟩ := own_size eb af (eqv_i (Term.int_eval (4)) h4)
  have el : ∀ (i c : Int32), ¬ i < 0 → (Cond.eq (.elem (.field (.field t "com/example/upcaster/upcaster/io/Codec" "headerName" "Ljava/lang/String;") "java/lang/String" "value" "[B") (.int i)) (.int c)).value args Z none Z [] = some true → cl.slots[i.toNatClampNeg]? = some (.int c) := fun i c hi h => (elem_f eb (Term.int_eval i) af hi).symm.trans (eqv_i (Term.int_eval c) h)
  exact ⟨w, b, cl.cls, Fld.start ((fld_at et).symm.trans ew), Exa.start ew h1, Fld.start ((fld_at ew).symm.trans (eqv_i (Term.int_eval (0)) h2)), Fld.start ((fld_at ew).symm.trans eb), Arv.start hf A z1 z2 (by decide) rfl ⟨el 0 _ (by decide) k0, el 1 _ (by decide) k1, el 2 _ (by decide) k2, el 3 _ (by decide) k3, trivial⟩⟩
theorem own_str7 {Z : State} {args : Array Value} {t : Term} {x : Addr} (hf : Fit Z) (et : t.eval args Z none [] Z = some (.ref x)) {c0 c1 c2 c3 c4 c5 c6 : Int32} (h1 : (Cond.exactly (.field t "com/example/upcaster/upcaster/io/Codec" "headerName" "Ljava/lang/String;") "java/lang/String").value args Z none Z [] = some true) (h2 : (Cond.eq (.field (.field t "com/example/upcaster/upcaster/io/Codec" "headerName" "Ljava/lang/String;") "java/lang/String" "coder" "B") (.int 0)).value args Z none Z [] = some true) (h3 : (Cond.arrayOf (.field (.field t "com/example/upcaster/upcaster/io/Codec" "headerName" "Ljava/lang/String;") "java/lang/String" "value" "[B") .byte).value args Z none Z [] = some true) (h4 : (Cond.eq (.length (.field (.field t "com/example/upcaster/upcaster/io/Codec" "headerName" "Ljava/lang/String;") "java/lang/String" "value" "[B")) (.int 7)).value args Z none Z [] = some true)
    (k0 : (Cond.eq (.elem (.field (.field t "com/example/upcaster/upcaster/io/Codec" "headerName" "Ljava/lang/String;") "java/lang/String" "value" "[B") (.int 0)) (.int c0)).value args Z none Z [] = some true) (k1 : (Cond.eq (.elem (.field (.field t "com/example/upcaster/upcaster/io/Codec" "headerName" "Ljava/lang/String;") "java/lang/String" "value" "[B") (.int 1)) (.int c1)).value args Z none Z [] = some true) (k2 : (Cond.eq (.elem (.field (.field t "com/example/upcaster/upcaster/io/Codec" "headerName" "Ljava/lang/String;") "java/lang/String" "value" "[B") (.int 2)) (.int c2)).value args Z none Z [] = some true) (k3 : (Cond.eq (.elem (.field (.field t "com/example/upcaster/upcaster/io/Codec" "headerName" "Ljava/lang/String;") "java/lang/String" "value" "[B") (.int 3)) (.int c3)).value args Z none Z [] = some true) (k4 : (Cond.eq (.elem (.field (.field t "com/example/upcaster/upcaster/io/Codec" "headerName" "Ljava/lang/String;") "java/lang/String" "value" "[B") (.int 4)) (.int c4)).value args Z none Z [] = some true) (k5 : (Cond.eq (.elem (.field (.field t "com/example/upcaster/upcaster/io/Codec" "headerName" "Ljava/lang/String;") "java/lang/String" "value" "[B") (.int 5)) (.int c5)).value args Z none Z [] = some true) (k6 : (Cond.eq (.elem (.field (.field t "com/example/upcaster/upcaster/io/Codec" "headerName" "Ljava/lang/String;") "java/lang/String" "value" "[B") (.int 6)) (.int c6)).value args Z none Z [] = some true) :
    ∃ (w b : Addr) (k : ClassId), Fld Z Z.heap x "com/example/upcaster/upcaster/io/Codec" "headerName" "Ljava/lang/String;" (.ref w) ∧ Exa Z Z.heap w "java/lang/String" ∧ Fld Z Z.heap w "java/lang/String" "coder" "B" (.int 0) ∧ Fld Z Z.heap w "java/lang/String" "value" "[B" (.ref b) ∧ Arv Z Z.heap b k .byte 7 [.int c0, .int c1, .int c2, .int c3, .int c4, .int c5, .int c6] (.int 0) := by
  obtain ⟨w, ew⟩ := exa_v h1
  obtain ⟨b, eb⟩ := arr_v h3
  obtain ⟨cl, A⟩ := Arr.start eb h3
  have af := A.fin (Vm.Alike.refl _)
  obtain ⟨z1, z2⟩ := own_size eb af (eqv_i (Term.int_eval (7)) h4)
  have el : ∀ (i c : Int32), ¬ i < 0 → (Cond.eq (.elem (.field (.field t "com/example/upcaster/upcaster/io/Codec" "headerName" "Ljava/lang/String;") "java/lang/String" "value" "[B") (.int i)) (.int c)).value args Z none Z [] = some true → cl.slots[i.toNatClampNeg]? = some (.int c) := fun i c hi h => (elem_f eb (Term.int_eval i) af hi).symm.trans (eqv_i (Term.int_eval c) h)
  exact ⟨w, b, cl.cls, Fld.start ((fld_at et).symm.trans ew), Exa.start ew h1, Fld.start ((fld_at ew).symm.trans (eqv_i (Term.int_eval (0)) h2)), Fld.start ((fld_at ew).symm.trans eb), Arv.start hf A z1 z2 (by decide) rfl ⟨el 0 _ (by decide) k0, el 1 _ (by decide) k1, el 2 _ (by decide) k2, el 3 _ (by decide) k3, el 4 _ (by decide) k4, el 5 _ (by decide) k5, el 6 _ (by decide) k6, trivial⟩⟩
set_option maxRecDepth 65536 in
set_option maxHeartbeats 40000000 in
theorem comes_1 {Post : Tables → Env → Array Value → State → Outcome → State → Prop} (hpost : ∀ tb e args s v u, (limb_1_1.after args s (.returned v) u = true ∧ limb_1_2.after args s (.returned v) u = true ∧ True) → FramedW s (.returned v) u (Jvm.fieldLocs frame_1_writes args s ++ Jvm.arrayLocs frame_1_arrays args s ++ Jvm.staticLocs frame_1_statics s) 24 3264 → Post tb e args s (.returned v) u) :
    ArmFor flags0 classFile x code maxLocals ret World_1 tables_1 room_1 Calls_1 rest_1 Pre_1 Post := by
  intro l hfl _ _ p e ha hc hk s m args below hf hA hF happ hP
  obtain ⟨hcalls, hrest, hpre⟩ := hP
  obtain ⟨-, -, -, hnamed, -, -, -, hat⟩ := (Spec.applies_iff hf).mp happ
  obtain ⟨hg, hn⟩ := and_e (Cond.before_iff.mp (show (Jvm.Cond.and given_1 narrow_1).before args s = true from hpre))
  obtain ⟨g0, g0r⟩ := and_e hg
  obtain ⟨g1, g1r⟩ := and_e g0r
  obtain ⟨g2, g2r⟩ := and_e g1r
  obtain ⟨g3, g4⟩ := and_e g2r
  obtain ⟨w0, w1, w2, w3, rfl⟩ : ∃ w0 w1 w2 w3 : Value, args = #[w0, w1, w2, w3] := by
    have hs : args.size = 4 := by simpa [Cond.value, given_1] using g0
    obtain ⟨L⟩ := args
    match L, hs with
    | [w0, w1, w2, w3], _ => exact ⟨w0, w1, w2, w3, rfl⟩
  have hw := fun d (hd : d ∈ tables_1) => atoms_spec (ws := Jvm.Cond.code x code maxLocals ret :: tables_1) hat d (List.mem_cons_of_mem _ hd)
  have hfit : Fit s := fun {y c} hc i hi => by
    obtain ⟨ha, rfl⟩ := Array.getElem?_eq_some_iff.mp hc
    have q := List.all_eq_true.mp ((Array.all_eq_true_iff_forall_mem.mp hF) _ (Array.getElem_mem ha)) i (List.mem_range.mpr hi)
    simpa [Array.getElem?_eq_getElem hi] using q
  obtain ⟨i0, ei0⟩ := is_v g1
  obtain rfl : w0 = (.int i0) := Option.some.inj ei0
  obtain ⟨i1, ei1⟩ := is_v g2
  obtain rfl : w1 = (.int i1) := Option.some.inj ei1
  obtain ⟨i2, ei2⟩ := is_v g3
  obtain rfl : w2 = (.int i2) := Option.some.inj ei2
  obtain ⟨i3, ei3⟩ := isL_v g4
  obtain rfl : w3 = (.long i3) := Option.some.inj ei3
  obtain ⟨hsets, hown0⟩ := atoms_of _ (rest_1_c_eq ▸ (show rest_1_c.before _ s = true from hrest))
  have hr0 := Cond.before_iff.mp hown0
  have n3 := not_v (Cond.before_iff.mp (hsets _ (List.mem_of_getElem? (i := 2) rfl)))
  obtain ⟨i7, e6⟩ := is_v (Cond.before_iff.mp (hsets _ (List.mem_of_getElem? (i := 1) rfl)))
  have S8 : Sta s s.heap "java/lang/String" "COMPACT_STRINGS" "Z" (.int i7) := Sta.start e6 (Or.inl (hsets _ (List.mem_of_getElem? (i := 0) rfl)))
  obtain ⟨v9, e10, r11⟩ := isR_v (Cond.before_iff.mp (hsets _ (List.mem_of_getElem? (i := 8) rfl)))
  have S12 : Sta s s.heap "jdk/internal/util/Preconditions" "SIOOBE_FORMATTER" "Ljava/util/function/BiFunction;" v9 := Sta.start e10 (Or.inl (hsets _ (List.mem_of_getElem? (i := 7) rfl)))
  have c13 : ¬ (i7 = (0 : Int32)) := gotF (Cond.eq_ints e6 (Term.int_eval (0))) n3
  obtain ⟨n1, nr1⟩ := and_e hn
  obtain ⟨n2, nr2⟩ := and_e nr1
  obtain ⟨n3, nr3⟩ := and_e nr2
  obtain ⟨n4, nr4⟩ := and_e nr3
  obtain ⟨n5, nr5⟩ := and_e nr4
  obtain ⟨n6, nr6⟩ := and_e nr5
  obtain ⟨n7, nr7⟩ := and_e nr6
  obtain ⟨n8, nr8⟩ := and_e nr7
  obtain ⟨n9, nr9⟩ := and_e nr8
  obtain ⟨n10, nr10⟩ := and_e nr9
  obtain ⟨n11, nr11⟩ := and_e nr10
  obtain ⟨n12, nr12⟩ := and_e nr11
  obtain ⟨n13, nr13⟩ := and_e nr12
  obtain ⟨n14, nr14⟩ := and_e nr13
  obtain ⟨n15, nr15⟩ := and_e nr14
  obtain ⟨n16, nr16⟩ := and_e nr15
  obtain ⟨n17, nr17⟩ := and_e nr16
  obtain ⟨n18, nr18⟩ := and_e nr17
  obtain ⟨n19, nr19⟩ := and_e nr18
  obtain ⟨n20, nr20⟩ := and_e nr19
  obtain ⟨n21, nr21⟩ := and_e nr20
  obtain ⟨n22, nr22⟩ := and_e nr21
  obtain ⟨n23, nr23⟩ := and_e nr22
  obtain ⟨n24, nr24⟩ := and_e nr23
  obtain ⟨n25, nr25⟩ := and_e nr24
  obtain ⟨va, ev⟩ := arr_v n2
  obtain ⟨clv, AV⟩ := Arr.start ev n2
  have afv := AV.fin (Vm.Alike.refl _)
  obtain ⟨zv1, zv2⟩ := own_size ev afv (eqv_i (Term.int_eval (2)) n4)
  obtain ⟨cA, eA⟩ := exa_v n1
  obtain ⟨cB, eB⟩ := exa_v n6
  have m0 : clv.slots[(0 : Int32).toNatClampNeg]? = some (.ref cA) := (elem_f ev (Term.int_eval 0) afv (by decide)).symm.trans (Cond.eq_refs (Cond.before_iff.mpr n5) eA rfl)
  have m1 : clv.slots[(1 : Int32).toNatClampNeg]? = some (.ref cB) := (elem_f ev (Term.int_eval 1) afv (by decide)).symm.trans eB
  have VV : Arv s s.heap va clv.cls (.object "com/example/upcaster/upcaster/io/Codec") 2 [.ref cA, .ref cB] .null := Arv.start hfit AV zv1 zv2 (by decide) rfl ⟨m0, m1, trivial⟩
  obtain ⟨wA, tA, kA, a1, a2, a3, a4, a5⟩ := own_str4 hfit eA n7 n8 n9 n10 n11 n12 n13 n14
  obtain ⟨wB, tB, kB, b1, b2, b3, b4, b5⟩ := own_str7 hfit eB n15 n16 n17 n18 n20 n21 n22 n23 n24 n25 nr25
  have SV := Sta.start ev (Or.inl (hw _ (List.mem_of_getElem? (i := 100) rfl)))
  have SN := Sta.start eA (Or.inr ⟨(hw _ (List.mem_of_getElem? (i := 83) rfl)), (hw _ (List.mem_of_getElem? (i := 84) rfl))⟩)
  have SD := Sta.start (Cond.eq_refs (Cond.before_iff.mpr n19) eB rfl) (Or.inr ⟨(hw _ (List.mem_of_getElem? (i := 83) rfl)), (hw _ (List.mem_of_getElem? (i := 110) rfl))⟩)
  obtain ⟨n, o, h1, h2, h3, v, L, rfl, hv, -, hq⟩ := rm0 l s _ hw tables_1 i0 i1 i2 i3 va clv.cls cA cB wA tA kA wB tB kB i7 v9 s.heap s.heap.size (Nat.le_refl _) (Old.start s) S8 S12 c13 r11 (Exa.start ev n3) VV a1 b1 a2 a3 a4 a5 b2 b3 b4 b5 SV SN SD p e ha hc hk s m _ below hf ((Spec.applies_iff_loose hf).mp happ).1 ⟨rfl, State.Warmed39.refl s, rfl, CHv.start (own_EL hw) (fun p hp => hcalls.1 p hp) (hsets _ (List.mem_of_getElem? (i := 2) rfl)) (hw _ (List.mem_of_getElem? (i := 8) rfl)) (hw _ (List.mem_of_getElem? (i := 7) rfl)), own_sfn⟩ trivial
  have N := hv.2
  have hv1 : v = some (.int 1) := hv.1.trans (congrArg (fun z => some (Value.int z)) (law_true i0 i1 i2 i3))
  subst hv1
  refine ⟨n, _, h1, h2, h3, hpost _ _ _ _ _ _ ⟨Cond.after_iff.mpr rfl, Cond.after_iff.mpr (eq_i res_at (Term.int_eval (1)) rfl), trivial⟩ ⟨hq.1, hq.2.1, hq.2.2.1, (hq.2.2.2.sift fun y hy => Or.inr (N y hy)).mono (by decide) (by decide)⟩⟩
theorem main_1_1 : Claimed_1_1 := comes_1 fun _ _ _ _ _ _ h hF => ⟨h.1, hF⟩
theorem main_1_2 : Claimed_1_2 := comes_1 fun _ _ _ _ _ _ h hF => ⟨h.2.1, hF⟩
end Jvm.Pilot.@@N@@
namespace Jvm.Pilot.@@N@@
open Jvm Jvm.ClassFile Sem Op Lib Jvm.Free Jvm.Stand Jvm.Pilot.@@N@@.Jvm.D
/-! MADE BY PROGRAM (witnessworld.py) out of the Statement's table words and the real class files: 25 classes; the members and pool entries that the words name. The judged class is class 1, her method 1. -/
namespace start1
open Jvm.ClassFile
def u (s : String) : CpInfo := .utf8 (stringToUtf16 s)
/-- a pool by its gaps: so many unusable entries, then the entry; so many at the end -/
def gap : Nat → List CpInfo → List CpInfo
  | 0, r => r
  | n + 1, r => .unusable :: gap n r
def poolList (es : List (Nat × CpInfo)) (last : Nat) : List CpInfo := es.foldr (fun e r => gap e.1 (e.2 :: r)) (gap last [])
def pool (es : List (Nat × CpInfo)) (last : Nat) : Array CpInfo := ⟨poolList es last⟩
def fileOf (pool : Array CpInfo) (this : Nat) (attrs : Array Attribute := #[]) (ms : Array MethodInfo := #[]) (fl : Nat := 33) (sup : Nat := 0) (ifs : Array Nat := #[]) (fds : Array FieldInfo := #[]) : ClassFile where
  minorVersion := 0
  majorVersion := 65
  constantPool := pool
  accessFlags := fl
  thisClass := this
  superClass := sup
  interfaces := ifs
  fields := fds
  methods := ms
  attributes := attrs
def plain (name : String) (sup : Option ClassId) : Class where
  name := name
  kind := .ordinary
  loader := none
  accessFlags := 33
  super := sup
  interfaces := #[]
  cf := none
  fields := #[]
  methods := #[]
  instanceTypes := #[]
  staticTypes := #[]
  resolved := #[]
  callSites := []
  init := .initialized
  statics := none
  mirror := none

def pool0 : Array CpInfo := pool [(5, u "<init>"), (0, u "()V"), (1, .class_ 10), (1, u "java/lang/Object"), (85, u "clone"), (0, u "()Ljava/lang/Object;")] 26

def k0c0 : Code := { maxStack := 0, maxLocals := 1, code := object_method_1_code, exceptionTable := #[], attributes := #[] }
def k0m0 : Method := { name := "<init>", desc := "()V", sig := { parameters := [], returnType := none }, accessFlags := 1, code := some k0c0 }
def k0m1 : Method := { name := "clone", desc := "()Ljava/lang/Object;", sig := { parameters := [], returnType := some (.object "java/lang/Object") }, accessFlags := 260, code := none }
/-- java/lang/Object -/
def k0 : Class := { plain "java/lang/Object" none with
  accessFlags := 33
  interfaces := #[]
  cf := some (fileOf pool0 8 #[] #[{ accessFlags := 1, nameIndex := 5, descriptorIndex := 6, attributes := #[] }, { accessFlags := 260, nameIndex := 96, descriptorIndex := 97, attributes := #[] }] 33 0 #[] #[])
  fields := #[]
  methods := #[k0m0, k0m1]
  instanceTypes := #[]
  staticTypes := #[]
  resolved := Array.replicate 124 none
  statics := none }

def pool1 : Array CpInfo := pool [(2, .class_ 4), (1, u "java/lang/Object"), (0, u "<init>"), (0, u "()V"), (0, .methodref 8 9), (0, .class_ 10), (0, .nameAndType 11 12), (0, u "com/example/upcaster/upcaster/io/CodecNamedPinLaw"), (0, u "at"), (0, u "(IIJ)C"), (0, .methodref 14 15), (0, .class_ 16), (0, .nameAndType 17 18), (0, u "java/lang/Math"), (0, u "max"), (0, u "(II)I"), (0, .methodref 14 20), (0, .nameAndType 21 18), (0, u "min"), (0, .methodref 8 23), (0, .nameAndType 24 25), (0, u "make"), (0, u "([CI)Ljava/lang/String;"), (0, .methodref 8 27), (0, .nameAndType 28 29), (0, u "expected"), (0, u "(Ljava/lang/String;)Lcom/example/upcaster/upcaster/io/Codec;"), (0, .methodref 31 32), (0, .class_ 33), (0, .nameAndType 34 29), (0, u "com/example/upcaster/upcaster/io/Codec"), (0, u "named"), (0, .string 36), (0, u "null"), (0, .methodref 38 39), (0, .class_ 40), (0, .nameAndType 41 42), (0, u "java/lang/String"), (0, u "charAt"), (0, u "(I)C"), (0, .string 44), (0, u "deflate"), (0, .long 255), (1, .methodref 38 48), (0, .nameAndType 49 50), (0, u "equals"), (0, u "(Ljava/lang/Object;)Z"), (0, .fieldref 31 52), (0, .nameAndType 53 54), (0, u "NULL"), (0, u "Lcom/example/upcaster/upcaster/io/Codec;"), (0, .fieldref 31 56), (0, .nameAndType 57 54), (0, u "DEFLATE"), (0, .methodref 38 59), (0, .nameAndType 5 60), (0, u "([C)V"), (2, u "law"), (0, u "(IIIJ)Z")] 5

def k1m0 : Method := { name := "<init>", desc := "()V", sig := { parameters := [], returnType := none }, accessFlags := 1, code := none }
def k1c1 : Code := { maxStack := 6, maxLocals := 14, code := code, exceptionTable := #[], attributes := #[] }
def k1m1 : Method := { name := "law", desc := "(IIIJ)Z", sig := { parameters := [.int, .int, .int, .long], returnType := some .boolean }, accessFlags := 9, code := some k1c1 }
def k1c2 : Code := { maxStack := 4, maxLocals := 4, code := method_3_code, exceptionTable := #[], attributes := #[] }
def k1m2 : Method := { name := "at", desc := "(IIJ)C", sig := { parameters := [.int, .int, .long], returnType := some .char }, accessFlags := 10, code := some k1c2 }
def k1c3 : Code := { maxStack := 2, maxLocals := 1, code := method_4_code, exceptionTable := #[], attributes := #[] }
def k1m3 : Method := { name := "expected", desc := "(Ljava/lang/String;)Lcom/example/upcaster/upcaster/io/Codec;", sig := { parameters := [(.object "java/lang/String")], returnType := some (.object "com/example/upcaster/upcaster/io/Codec") }, accessFlags := 10, code := some k1c3 }
def k1c4 : Code := { maxStack := 7, maxLocals := 2, code := method_5_code, exceptionTable := #[], attributes := #[] }
def k1m4 : Method := { name := "make", desc := "([CI)Ljava/lang/String;", sig := { parameters := [(.array .char), .int], returnType := some (.object "java/lang/String") }, accessFlags := 10, code := some k1c4 }
/-- com/example/upcaster/upcaster/io/CodecNamedPinLaw -/
def k1 : Class := { plain "com/example/upcaster/upcaster/io/CodecNamedPinLaw" (some 0) with
  accessFlags := 49
  interfaces := #[]
  cf := some (fileOf pool1 8 #[] #[{ accessFlags := 1, nameIndex := 5, descriptorIndex := 6, attributes := #[] }, { accessFlags := 9, nameIndex := 63, descriptorIndex := 64, attributes := #[] }, { accessFlags := 10, nameIndex := 11, descriptorIndex := 12, attributes := #[] }, { accessFlags := 10, nameIndex := 28, descriptorIndex := 29, attributes := #[] }, { accessFlags := 10, nameIndex := 24, descriptorIndex := 25, attributes := #[] }] 49 2 #[] #[])
  fields := #[]
  methods := #[k1m0, k1m1, k1m2, k1m3, k1m4]
  instanceTypes := #[]
  staticTypes := #[]
  resolved := Array.replicate 70 none
  statics := none }

def pool2 : Array CpInfo := pool [(1, .class_ 2), (0, u "java/io/Serializable"), (0, .class_ 4), (0, u "java/lang/Object")] 2

/-- java/io/Serializable -/
def k2 : Class := { plain "java/io/Serializable" (some 0) with
  accessFlags := 1537
  interfaces := #[]
  cf := some (fileOf pool2 1 #[] #[] 1537 3 #[] #[])
  fields := #[]
  methods := #[]
  instanceTypes := #[]
  staticTypes := #[]
  resolved := Array.replicate 7 none
  statics := none }

def pool3 : Array CpInfo := pool [(1, .class_ 2), (0, u "java/lang/Comparable"), (0, .class_ 4), (0, u "java/lang/Object")] 7

/-- java/lang/Comparable -/
def k3 : Class := { plain "java/lang/Comparable" (some 0) with
  accessFlags := 1537
  interfaces := #[]
  cf := some (fileOf pool3 1 #[] #[] 1537 3 #[] #[])
  fields := #[]
  methods := #[]
  instanceTypes := #[]
  staticTypes := #[]
  resolved := Array.replicate 12 none
  statics := none }

def pool4 : Array CpInfo := pool [(2, .class_ 4), (1, u "java/lang/CharSequence"), (42, .class_ 48), (0, u "java/lang/CharSequence$1CodePointIterator"), (10, .class_ 60), (0, u "java/lang/CharSequence$1CharIterator"), (5, .class_ 67), (0, u "java/lang/Object")] 63

/-- java/lang/CharSequence -/
def k4 : Class := { plain "java/lang/CharSequence" (some 0) with
  accessFlags := 1537
  interfaces := #[]
  cf := some (fileOf pool4 2 #[.nestMembers #[47, 59]] #[] 1537 66 #[] #[])
  fields := #[]
  methods := #[]
  instanceTypes := #[]
  staticTypes := #[]
  resolved := Array.replicate 131 none
  statics := none }

def pool5 : Array CpInfo := pool [(1, .class_ 2), (0, u "java/lang/constant/Constable"), (0, .class_ 4), (0, u "java/lang/Object")] 6

/-- java/lang/constant/Constable -/
def k5 : Class := { plain "java/lang/constant/Constable" (some 0) with
  accessFlags := 1537
  interfaces := #[]
  cf := some (fileOf pool5 1 #[] #[] 1537 3 #[] #[])
  fields := #[]
  methods := #[]
  instanceTypes := #[]
  staticTypes := #[]
  resolved := Array.replicate 11 none
  statics := none }

def pool6 : Array CpInfo := pool [(1, .class_ 2), (0, u "java/lang/constant/ConstantDesc"), (0, .class_ 4), (0, u "java/lang/Object")] 32

/-- java/lang/constant/ConstantDesc -/
def k6 : Class := { plain "java/lang/constant/ConstantDesc" (some 0) with
  accessFlags := 1537
  interfaces := #[]
  cf := some (fileOf pool6 1 #[] #[] 1537 3 #[] #[])
  fields := #[]
  methods := #[]
  instanceTypes := #[]
  staticTypes := #[]
  resolved := Array.replicate 37 none
  statics := none }

def pool7 : Array CpInfo := pool [(1, .methodref 2 3), (0, .class_ 4), (0, .nameAndType 5 6), (0, u "java/lang/Object"), (0, u "<init>"), (0, u "()V"), (0, .string 8), (0, u ""), (0, .fieldref 10 11), (0, .class_ 12), (0, .nameAndType 13 14), (0, u "java/lang/String"), (0, u "value"), (0, u "[B"), (0, .fieldref 10 16), (0, .nameAndType 17 18), (0, u "coder"), (0, u "B"), (2, u "hash"), (0, u "I"), (2, u "hashIsZero"), (0, u "Z"), (0, .methodref 10 28), (0, .nameAndType 5 29), (0, u "([CIILjava/lang/Void;)V"), (8, .fieldref 10 39), (0, .nameAndType 40 26), (0, u "COMPACT_STRINGS"), (1, .class_ 44), (1, u "java/lang/StringUTF16"), (0, u "compress"), (1, .methodref 42 48), (0, .nameAndType 49 50), (0, u "coderFromArrayLen"), (0, u "([BI)B"), (56, .class_ 109), (1, u "java/lang/StringLatin1"), (32, u "()Z"), (34, .methodref 42 178), (0, .nameAndType 45 179), (0, u "([CII)[B"), (183, u "([BI)C"), (27, u "(II)V"), (35, u "(I)C"), (64, .methodref 10 493), (0, .nameAndType 494 142), (0, u "isLatin1"), (0, .methodref 107 496), (0, .nameAndType 497 363), (0, u "charAt"), (3, u "checkIndex"), (39, .methodref 107 542), (0, .nameAndType 543 544), (0, u "equals"), (0, u "([B[B)Z"), (28, u "(Ljava/lang/Object;)Z"), (1, .class_ 576), (0, u "java/lang/CharSequence"), (22, u "CASE_INSENSITIVE_ORDER"), (0, u "Ljava/util/Comparator;"), (409, u "([C)V"), (42, .fieldref 1054 1055), (0, .class_ 1056), (0, .nameAndType 1057 1058), (0, u "jdk/internal/util/Preconditions"), (0, u "SIOOBE_FORMATTER"), (0, u "Ljava/util/function/BiFunction;"), (0, .methodref 1054 1060), (0, .nameAndType 501 1061), (0, u "(IILjava/util/function/BiFunction;)I"), (39, u "serialPersistentFields"), (0, u "[Ljava/io/ObjectStreamField;"), (0, .class_ 1104), (0, u "java/lang/String$CaseInsensitiveComparator"), (1, .class_ 1107), (0, u "java/io/Serializable"), (0, .class_ 1109), (0, u "java/lang/Comparable"), (0, .class_ 1111), (0, u "java/lang/constant/Constable"), (0, .class_ 1113), (0, u "java/lang/constant/ConstantDesc"), (2, u "serialVersionUID"), (0, u "J"), (3, u "REPL"), (0, u "C"), (2, u "LATIN1"), (1, u "UTF16")] 323

def k7m0 : Method := { name := "<init>", desc := "()V", sig := { parameters := [], returnType := none }, accessFlags := 1, code := none }
def k7c1 : Code := { maxStack := 5, maxLocals := 2, code := jdk_42_method_3_code, exceptionTable := #[], attributes := #[] }
def k7m1 : Method := { name := "<init>", desc := "([C)V", sig := { parameters := [(.array .char)], returnType := none }, accessFlags := 1, code := some k7c1 }
def k7c2 : Code := { maxStack := 2, maxLocals := 2, code := jdk_42_method_56_code, exceptionTable := #[], attributes := #[] }
def k7m2 : Method := { name := "charAt", desc := "(I)C", sig := { parameters := [.int], returnType := some .char }, accessFlags := 1, code := some k7c2 }
def k7c3 : Code := { maxStack := 2, maxLocals := 3, code := jdk_42_method_66_code, exceptionTable := #[], attributes := #[] }
def k7m3 : Method := { name := "equals", desc := "(Ljava/lang/Object;)Z", sig := { parameters := [(.object "java/lang/Object")], returnType := some .boolean }, accessFlags := 1, code := some k7c3 }
def k7c4 : Code := { maxStack := 4, maxLocals := 6, code := jdk_42_method_149_code, exceptionTable := #[], attributes := #[] }
def k7m4 : Method := { name := "<init>", desc := "([CIILjava/lang/Void;)V", sig := { parameters := [(.array .char), .int, .int, (.object "java/lang/Void")], returnType := none }, accessFlags := 2, code := some k7c4 }
def k7c5 : Code := { maxStack := 1, maxLocals := 1, code := jdk_42_method_154_code, exceptionTable := #[], attributes := #[] }
def k7m5 : Method := { name := "isLatin1", desc := "()Z", sig := { parameters := [], returnType := some .boolean }, accessFlags := 0, code := some k7c5 }
def k7c6 : Code := { maxStack := 3, maxLocals := 2, code := jdk_42_method_155_code, exceptionTable := #[], attributes := #[] }
def k7m6 : Method := { name := "checkIndex", desc := "(II)V", sig := { parameters := [.int, .int], returnType := none }, accessFlags := 8, code := some k7c6 }
/-- java/lang/String -/
def k7 : Class := { plain "java/lang/String" (some 0) with
  accessFlags := 49
  interfaces := #[2, 3, 4, 5, 6]
  cf := some (fileOf pool7 10 #[.nestMembers #[1103]] #[{ accessFlags := 1, nameIndex := 5, descriptorIndex := 6, attributes := #[] }, { accessFlags := 1, nameIndex := 5, descriptorIndex := 1010, attributes := #[] }, { accessFlags := 1, nameIndex := 497, descriptorIndex := 427, attributes := #[] }, { accessFlags := 1, nameIndex := 543, descriptorIndex := 573, attributes := #[] }, { accessFlags := 2, nameIndex := 5, descriptorIndex := 29, attributes := #[] }, { accessFlags := 0, nameIndex := 494, descriptorIndex := 142, attributes := #[] }, { accessFlags := 8, nameIndex := 501, descriptorIndex := 391, attributes := #[] }] 49 2 #[1106, 1108, 575, 1110, 1112] #[{ accessFlags := 18, nameIndex := 13, descriptorIndex := 14, attributes := #[] }, { accessFlags := 18, nameIndex := 17, descriptorIndex := 18, attributes := #[] }, { accessFlags := 2, nameIndex := 21, descriptorIndex := 22, attributes := #[] }, { accessFlags := 2, nameIndex := 25, descriptorIndex := 26, attributes := #[] }, { accessFlags := 26, nameIndex := 1116, descriptorIndex := 1117, attributes := #[] }, { accessFlags := 24, nameIndex := 40, descriptorIndex := 26, attributes := #[] }, { accessFlags := 26, nameIndex := 1101, descriptorIndex := 1102, attributes := #[] }, { accessFlags := 26, nameIndex := 1121, descriptorIndex := 1122, attributes := #[] }, { accessFlags := 25, nameIndex := 599, descriptorIndex := 600, attributes := #[] }, { accessFlags := 24, nameIndex := 1125, descriptorIndex := 18, attributes := #[] }, { accessFlags := 24, nameIndex := 1127, descriptorIndex := 18, attributes := #[] }])
  fields := #[{ name := "value", type := (.array .byte), accessFlags := 18, slot := 0, constantValue := 0 }, { name := "coder", type := .byte, accessFlags := 18, slot := 1, constantValue := 0 }, { name := "hash", type := .int, accessFlags := 2, slot := 2, constantValue := 0 }, { name := "hashIsZero", type := .boolean, accessFlags := 2, slot := 3, constantValue := 0 }, { name := "serialVersionUID", type := .long, accessFlags := 26, slot := 0, constantValue := 0 }, { name := "COMPACT_STRINGS", type := .boolean, accessFlags := 24, slot := 1, constantValue := 0 }, { name := "serialPersistentFields", type := (.array (.object "java/io/ObjectStreamField")), accessFlags := 26, slot := 2, constantValue := 0 }, { name := "REPL", type := .char, accessFlags := 26, slot := 3, constantValue := 0 }, { name := "CASE_INSENSITIVE_ORDER", type := (.object "java/util/Comparator"), accessFlags := 25, slot := 4, constantValue := 0 }, { name := "LATIN1", type := .byte, accessFlags := 24, slot := 5, constantValue := 0 }, { name := "UTF16", type := .byte, accessFlags := 24, slot := 6, constantValue := 0 }]
  methods := #[k7m0, k7m1, k7m2, k7m3, k7m4, k7m5, k7m6]
  instanceTypes := #[(.array .byte), .byte, .int, .boolean]
  staticTypes := #[.long, .boolean, (.array (.object "java/io/ObjectStreamField")), .char, (.object "java/util/Comparator"), .byte, .byte]
  resolved := Array.replicate 1451 none
  statics := some 0 }

def pool8 : Array CpInfo := pool [(1, .class_ 2), (0, u "java/lang/String"), (1, .class_ 6), (1, u "java/lang/Object"), (0, u "<init>"), (0, u "()V"), (0, .methodref 1 10), (0, .nameAndType 11 12), (0, u "checkIndex"), (0, u "(II)V"), (1, .class_ 16), (1, u "java/lang/StringLatin1"), (36, u "([BI)C"), (67, u "$assertionsDisabled"), (0, u "Z"), (98, .class_ 223), (1, u "java/lang/StringLatin1$LinesSpliterator"), (28, u "charAt"), (28, u "equals"), (0, u "([B[B)Z"), (107, .class_ 391), (0, u "java/lang/StringLatin1$CharsSpliterator")] 3

def k8m0 : Method := { name := "<init>", desc := "()V", sig := { parameters := [], returnType := none }, accessFlags := 0, code := none }
def k8c1 : Code := { maxStack := 2, maxLocals := 2, code := jdk_43_method_2_code, exceptionTable := #[], attributes := #[] }
def k8m1 : Method := { name := "charAt", desc := "([BI)C", sig := { parameters := [(.array .byte), .int], returnType := some .char }, accessFlags := 9, code := some k8c1 }
def k8c2 : Code := { maxStack := 3, maxLocals := 3, code := jdk_43_method_13_code, exceptionTable := #[], attributes := #[] }
def k8m2 : Method := { name := "equals", desc := "([B[B)Z", sig := { parameters := [(.array .byte), (.array .byte)], returnType := some .boolean }, accessFlags := 9, code := some k8c2 }
/-- java/lang/StringLatin1 -/
def k8 : Class := { plain "java/lang/StringLatin1" (some 0) with
  accessFlags := 48
  interfaces := #[]
  cf := some (fileOf pool8 14 #[.nestMembers #[390, 221]] #[{ accessFlags := 0, nameIndex := 7, descriptorIndex := 8, attributes := #[] }, { accessFlags := 9, nameIndex := 252, descriptorIndex := 53, attributes := #[] }, { accessFlags := 9, nameIndex := 281, descriptorIndex := 282, attributes := #[] }] 48 4 #[] #[{ accessFlags := 4120, nameIndex := 121, descriptorIndex := 122, attributes := #[] }])
  fields := #[{ name := "$assertionsDisabled", type := .boolean, accessFlags := 4120, slot := 0, constantValue := 0 }]
  methods := #[k8m0, k8m1, k8m2]
  instanceTypes := #[]
  staticTypes := #[.boolean]
  resolved := Array.replicate 395 none
  statics := none }

def pool9 : Array CpInfo := pool [(2, .class_ 4), (1, u "java/lang/Object"), (0, u "<init>"), (0, u "()V"), (17, .class_ 26), (1, u "jdk/internal/util/Preconditions"), (6, u "checkIndex"), (21, .class_ 56), (0, u "jdk/internal/util/Preconditions$4"), (57, .class_ 115), (0, u "jdk/internal/util/Preconditions$1"), (7, u "SIOOBE_FORMATTER"), (0, u "Ljava/util/function/BiFunction;"), (0, .class_ 126), (0, u "jdk/internal/util/Preconditions$2"), (3, u "AIOOBE_FORMATTER"), (0, .class_ 132), (0, u "jdk/internal/util/Preconditions$3"), (3, u "IOOBE_FORMATTER"), (41, u "(IILjava/util/function/BiFunction;)I")] 15

def k9m0 : Method := { name := "<init>", desc := "()V", sig := { parameters := [], returnType := none }, accessFlags := 1, code := none }
def k9c1 : Code := { maxStack := 3, maxLocals := 3, code := jdk_41_method_11_code, exceptionTable := #[], attributes := #[] }
def k9m1 : Method := { name := "checkIndex", desc := "(IILjava/util/function/BiFunction;)I", sig := { parameters := [.int, .int, (.object "java/util/function/BiFunction")], returnType := some .int }, accessFlags := 9, code := some k9c1 }
/-- jdk/internal/util/Preconditions -/
def k9 : Class := { plain "jdk/internal/util/Preconditions" (some 0) with
  accessFlags := 33
  interfaces := #[]
  cf := some (fileOf pool9 24 #[.nestMembers #[55, 131, 125, 114]] #[{ accessFlags := 1, nameIndex := 5, descriptorIndex := 6, attributes := #[] }, { accessFlags := 9, nameIndex := 33, descriptorIndex := 178, attributes := #[] }] 33 2 #[] #[{ accessFlags := 25, nameIndex := 123, descriptorIndex := 124, attributes := #[] }, { accessFlags := 25, nameIndex := 130, descriptorIndex := 124, attributes := #[] }, { accessFlags := 25, nameIndex := 136, descriptorIndex := 124, attributes := #[] }])
  fields := #[{ name := "SIOOBE_FORMATTER", type := (.object "java/util/function/BiFunction"), accessFlags := 25, slot := 0, constantValue := 0 }, { name := "AIOOBE_FORMATTER", type := (.object "java/util/function/BiFunction"), accessFlags := 25, slot := 1, constantValue := 0 }, { name := "IOOBE_FORMATTER", type := (.object "java/util/function/BiFunction"), accessFlags := 25, slot := 2, constantValue := 0 }]
  methods := #[k9m0, k9m1]
  instanceTypes := #[]
  staticTypes := #[(.object "java/util/function/BiFunction"), (.object "java/util/function/BiFunction"), (.object "java/util/function/BiFunction")]
  resolved := Array.replicate 194 none
  statics := some 1 }

def pool10 : Array CpInfo := pool [(1, .class_ 2), (0, u "java/lang/Math"), (1, .class_ 6), (1, u "java/lang/Object"), (0, u "<init>"), (0, u "()V"), (89, .class_ 100), (1, u "java/lang/Math$RandomNumberGeneratorHolder"), (71, u "negativeZeroFloatBits"), (0, u "J"), (2, u "negativeZeroDoubleBits"), (21, u "max"), (2, u "min"), (43, u "$assertionsDisabled"), (0, u "Z"), (88, u "(II)I"), (2, u "twoToTheDoubleScaleDown"), (0, u "D"), (4, u "twoToTheDoubleScaleUp"), (9, u "E"), (3, u "PI"), (2, u "TAU"), (2, u "DEGREES_TO_RADIANS"), (0, u "RADIANS_TO_DEGREES")] 94

def k10m0 : Method := { name := "<init>", desc := "()V", sig := { parameters := [], returnType := none }, accessFlags := 2, code := none }
def k10c1 : Code := { maxStack := 2, maxLocals := 2, code := jdk_29_method_65_code, exceptionTable := #[], attributes := #[] }
def k10m1 : Method := { name := "max", desc := "(II)I", sig := { parameters := [.int, .int], returnType := some .int }, accessFlags := 9, code := some k10c1 }
def k10c2 : Code := { maxStack := 2, maxLocals := 2, code := jdk_29_method_69_code, exceptionTable := #[], attributes := #[] }
def k10m2 : Method := { name := "min", desc := "(II)I", sig := { parameters := [.int, .int], returnType := some .int }, accessFlags := 9, code := some k10c2 }
/-- java/lang/Math -/
def k10 : Class := { plain "java/lang/Math" (some 0) with
  accessFlags := 49
  interfaces := #[]
  cf := some (fileOf pool10 1 #[.nestMembers #[98]] #[{ accessFlags := 2, nameIndex := 7, descriptorIndex := 8, attributes := #[] }, { accessFlags := 9, nameIndex := 198, descriptorIndex := 335, attributes := #[] }, { accessFlags := 9, nameIndex := 201, descriptorIndex := 335, attributes := #[] }] 49 4 #[] #[{ accessFlags := 25, nameIndex := 354, descriptorIndex := 339, attributes := #[] }, { accessFlags := 25, nameIndex := 358, descriptorIndex := 339, attributes := #[] }, { accessFlags := 25, nameIndex := 361, descriptorIndex := 339, attributes := #[] }, { accessFlags := 26, nameIndex := 364, descriptorIndex := 339, attributes := #[] }, { accessFlags := 26, nameIndex := 365, descriptorIndex := 339, attributes := #[] }, { accessFlags := 26, nameIndex := 172, descriptorIndex := 173, attributes := #[] }, { accessFlags := 26, nameIndex := 176, descriptorIndex := 173, attributes := #[] }, { accessFlags := 8, nameIndex := 344, descriptorIndex := 339, attributes := #[] }, { accessFlags := 8, nameIndex := 338, descriptorIndex := 339, attributes := #[] }, { accessFlags := 4120, nameIndex := 245, descriptorIndex := 246, attributes := #[] }])
  fields := #[{ name := "E", type := .double, accessFlags := 25, slot := 0, constantValue := 0 }, { name := "PI", type := .double, accessFlags := 25, slot := 1, constantValue := 0 }, { name := "TAU", type := .double, accessFlags := 25, slot := 2, constantValue := 0 }, { name := "DEGREES_TO_RADIANS", type := .double, accessFlags := 26, slot := 3, constantValue := 0 }, { name := "RADIANS_TO_DEGREES", type := .double, accessFlags := 26, slot := 4, constantValue := 0 }, { name := "negativeZeroFloatBits", type := .long, accessFlags := 26, slot := 5, constantValue := 0 }, { name := "negativeZeroDoubleBits", type := .long, accessFlags := 26, slot := 6, constantValue := 0 }, { name := "twoToTheDoubleScaleUp", type := .double, accessFlags := 8, slot := 7, constantValue := 0 }, { name := "twoToTheDoubleScaleDown", type := .double, accessFlags := 8, slot := 8, constantValue := 0 }, { name := "$assertionsDisabled", type := .boolean, accessFlags := 4120, slot := 9, constantValue := 0 }]
  methods := #[k10m0, k10m1, k10m2]
  instanceTypes := #[]
  staticTypes := #[.double, .double, .double, .double, .double, .long, .long, .double, .double, .boolean]
  resolved := Array.replicate 460 none
  statics := none }

def pool11 : Array CpInfo := pool [(6, .class_ 8), (1, u "java/lang/Object"), (0, u "<init>"), (0, u "()V"), (1, .class_ 14), (1, u "java/lang/StringUTF16"), (31, u "$assertionsDisabled"), (0, u "Z"), (13, u "HI_BYTE_SHIFT"), (0, u "I"), (2, u "LO_BYTE_SHIFT"), (49, .methodref 12 116), (0, .nameAndType 117 118), (0, u "compress"), (0, u "([CI[BII)I"), (3, u "([CII)[B"), (138, u "coderFromArrayLen"), (0, u "([BI)B"), (106, .class_ 371), (1, u "java/lang/StringUTF16$LinesSpliterator"), (58, u "MAX_LENGTH"), (196, .class_ 628), (0, u "java/lang/StringUTF16$CodePointsSpliterator"), (0, .class_ 630), (0, u "java/lang/StringUTF16$CharsSpliterator")] 4

def k11m0 : Method := { name := "<init>", desc := "()V", sig := { parameters := [], returnType := none }, accessFlags := 0, code := none }
def k11c1 : Code := { maxStack := 2, maxLocals := 2, code := jdk_52_method_15_code, exceptionTable := #[], attributes := #[] }
def k11m1 : Method := { name := "coderFromArrayLen", desc := "([BI)B", sig := { parameters := [(.array .byte), .int], returnType := some .byte }, accessFlags := 8, code := some k11c1 }
def k11c2 : Code := { maxStack := 5, maxLocals := 6, code := jdk_52_method_16_code, exceptionTable := #[], attributes := #[] }
def k11m2 : Method := { name := "compress", desc := "([CII)[B", sig := { parameters := [(.array .char), .int, .int], returnType := some (.array .byte) }, accessFlags := 9, code := some k11c2 }
def k11c3 : Code := { maxStack := 3, maxLocals := 7, code := jdk_52_method_21_code, exceptionTable := #[], attributes := #[] }
def k11m3 : Method := { name := "compress", desc := "([CI[BII)I", sig := { parameters := [(.array .char), .int, (.array .byte), .int, .int], returnType := some .int }, accessFlags := 9, code := some k11c3 }
/-- java/lang/StringUTF16 -/
def k11 : Class := { plain "java/lang/StringUTF16" (some 0) with
  accessFlags := 48
  interfaces := #[]
  cf := some (fileOf pool11 12 #[.nestMembers #[627, 629, 369]] #[{ accessFlags := 0, nameIndex := 9, descriptorIndex := 10, attributes := #[] }, { accessFlags := 8, nameIndex := 261, descriptorIndex := 262, attributes := #[] }, { accessFlags := 9, nameIndex := 117, descriptorIndex := 122, attributes := #[] }, { accessFlags := 9, nameIndex := 117, descriptorIndex := 118, attributes := #[] }] 48 6 #[] #[{ accessFlags := 26, nameIndex := 61, descriptorIndex := 62, attributes := #[] }, { accessFlags := 26, nameIndex := 65, descriptorIndex := 62, attributes := #[] }, { accessFlags := 24, nameIndex := 430, descriptorIndex := 62, attributes := #[] }, { accessFlags := 4120, nameIndex := 46, descriptorIndex := 47, attributes := #[] }])
  fields := #[{ name := "HI_BYTE_SHIFT", type := .int, accessFlags := 26, slot := 0, constantValue := 0 }, { name := "LO_BYTE_SHIFT", type := .int, accessFlags := 26, slot := 1, constantValue := 0 }, { name := "MAX_LENGTH", type := .int, accessFlags := 24, slot := 2, constantValue := 0 }, { name := "$assertionsDisabled", type := .boolean, accessFlags := 4120, slot := 3, constantValue := 0 }]
  methods := #[k11m0, k11m1, k11m2, k11m3]
  instanceTypes := #[]
  staticTypes := #[.int, .int, .int, .boolean]
  resolved := Array.replicate 635 none
  statics := none }

def pool12 : Array CpInfo := pool [(2, .class_ 4), (1, u "java/lang/Enum"), (0, u "name"), (0, u "Ljava/lang/String;"), (2, u "ordinal"), (0, u "I"), (1, .class_ 14), (1, u "java/lang/Object"), (4, u "hash"), (86, .class_ 108), (1, u "java/lang/Enum$EnumDesc"), (2, .class_ 112), (0, u "java/lang/constant/Constable"), (0, .class_ 114), (0, u "java/lang/Comparable"), (0, .class_ 116), (0, u "java/io/Serializable")] 87

/-- java/lang/Enum -/
def k12 : Class := { plain "java/lang/Enum" (some 0) with
  accessFlags := 1057
  interfaces := #[5, 3, 2]
  cf := some (fileOf pool12 2 #[.nestMembers #[106]] #[] 1057 12 #[111, 113, 115] #[{ accessFlags := 18, nameIndex := 5, descriptorIndex := 6, attributes := #[] }, { accessFlags := 18, nameIndex := 9, descriptorIndex := 10, attributes := #[] }, { accessFlags := 2, nameIndex := 19, descriptorIndex := 10, attributes := #[] }])
  fields := #[{ name := "name", type := (.object "java/lang/String"), accessFlags := 18, slot := 0, constantValue := 0 }, { name := "ordinal", type := .int, accessFlags := 18, slot := 1, constantValue := 0 }, { name := "hash", type := .int, accessFlags := 2, slot := 2, constantValue := 0 }]
  methods := #[]
  instanceTypes := #[(.object "java/lang/String"), .int, .int]
  staticTypes := #[]
  resolved := Array.replicate 204 none
  statics := none }

def pool13 : Array CpInfo := pool [(1, .class_ 2), (0, u "com/example/upcaster/upcaster/io/Codec"), (2, u "NULL"), (0, u "Lcom/example/upcaster/upcaster/io/Codec;"), (2, u "DEFLATE"), (0, .fieldref 1 11), (0, .nameAndType 12 13), (0, u "$VALUES"), (0, u "[Lcom/example/upcaster/upcaster/io/Codec;"), (0, .methodref 15 16), (0, .class_ 13), (0, .nameAndType 17 18), (0, u "clone"), (0, u "()Ljava/lang/Object;"), (1, .class_ 22), (1, u "java/lang/Enum"), (6, .fieldref 1 30), (0, .nameAndType 31 32), (0, u "headerName"), (0, u "Ljava/lang/String;"), (0, .methodref 1 34), (0, .nameAndType 35 36), (0, u "values"), (0, u "()[Lcom/example/upcaster/upcaster/io/Codec;"), (0, .methodref 38 39), (0, .class_ 40), (0, .nameAndType 41 42), (0, u "java/lang/String"), (0, u "equals"), (0, u "(Ljava/lang/Object;)Z"), (40, .class_ 84), (0, u "com/example/upcaster/upcaster/io/Codec$1"), (6, .class_ 92), (0, u "com/example/upcaster/upcaster/io/Codec$2"), (7, u "CHUNK_SIZE"), (0, u "I"), (4, u "(Ljava/lang/String;)Lcom/example/upcaster/upcaster/io/Codec;"), (2, u "named")] 33

def k13c0 : Code := { maxStack := 1, maxLocals := 0, code := prog_8_method_1_code, exceptionTable := #[], attributes := #[] }
def k13m0 : Method := { name := "values", desc := "()[Lcom/example/upcaster/upcaster/io/Codec;", sig := { parameters := [], returnType := some (.array (.object "com/example/upcaster/upcaster/io/Codec")) }, accessFlags := 9, code := some k13c0 }
def k13c1 : Code := { maxStack := 2, maxLocals := 5, code := prog_8_method_5_code, exceptionTable := #[], attributes := #[] }
def k13m1 : Method := { name := "named", desc := "(Ljava/lang/String;)Lcom/example/upcaster/upcaster/io/Codec;", sig := { parameters := [(.object "java/lang/String")], returnType := some (.object "com/example/upcaster/upcaster/io/Codec") }, accessFlags := 9, code := some k13c1 }
/-- com/example/upcaster/upcaster/io/Codec -/
def k13 : Class := { plain "com/example/upcaster/upcaster/io/Codec" (some 12) with
  accessFlags := 17441
  interfaces := #[]
  cf := some (fileOf pool13 1 #[.nestMembers #[91, 83]] #[{ accessFlags := 9, nameIndex := 35, descriptorIndex := 36, attributes := #[] }, { accessFlags := 9, nameIndex := 109, descriptorIndex := 106, attributes := #[] }] 17441 20 #[] #[{ accessFlags := 16409, nameIndex := 5, descriptorIndex := 6, attributes := #[] }, { accessFlags := 16409, nameIndex := 9, descriptorIndex := 6, attributes := #[] }, { accessFlags := 26, nameIndex := 100, descriptorIndex := 101, attributes := #[] }, { accessFlags := 18, nameIndex := 31, descriptorIndex := 32, attributes := #[] }, { accessFlags := 4122, nameIndex := 12, descriptorIndex := 13, attributes := #[] }])
  fields := #[{ name := "NULL", type := (.object "com/example/upcaster/upcaster/io/Codec"), accessFlags := 16409, slot := 0, constantValue := 0 }, { name := "DEFLATE", type := (.object "com/example/upcaster/upcaster/io/Codec"), accessFlags := 16409, slot := 1, constantValue := 0 }, { name := "CHUNK_SIZE", type := .int, accessFlags := 26, slot := 2, constantValue := 0 }, { name := "headerName", type := (.object "java/lang/String"), accessFlags := 18, slot := 3, constantValue := 0 }, { name := "$VALUES", type := (.array (.object "com/example/upcaster/upcaster/io/Codec")), accessFlags := 4122, slot := 3, constantValue := 0 }]
  methods := #[k13m0, k13m1]
  instanceTypes := #[(.object "java/lang/String"), .int, .int, (.object "java/lang/String")]
  staticTypes := #[(.object "com/example/upcaster/upcaster/io/Codec"), (.object "com/example/upcaster/upcaster/io/Codec"), .int, (.array (.object "com/example/upcaster/upcaster/io/Codec"))]
  resolved := Array.replicate 143 none
  statics := some 2 }

def pool14 : Array CpInfo := pool [(1, .class_ 2), (0, u "java/lang/Cloneable"), (0, .class_ 4), (0, u "java/lang/Object")] 2

/-- java/lang/Cloneable -/
def k14 : Class := { plain "java/lang/Cloneable" (some 0) with
  accessFlags := 1537
  interfaces := #[]
  cf := some (fileOf pool14 1 #[] #[] 1537 3 #[] #[])
  fields := #[]
  methods := #[]
  instanceTypes := #[]
  staticTypes := #[]
  resolved := Array.replicate 7 none
  statics := none }

def pool15 : Array CpInfo := pool [(2, .class_ 4), (1, u "com/example/upcaster/upcaster/io/Codec"), (13, .class_ 19), (0, u "com/example/upcaster/upcaster/io/Codec$1")] 15

/-- com/example/upcaster/upcaster/io/Codec$1 -/
def k15 : Class := { plain "com/example/upcaster/upcaster/io/Codec$1" (some 13) with
  accessFlags := 16432
  interfaces := #[]
  cf := some (fileOf pool15 18 #[.nestHost 2] #[] 16432 2 #[] #[])
  fields := #[]
  methods := #[]
  instanceTypes := #[(.object "java/lang/String"), .int, .int, (.object "java/lang/String")]
  staticTypes := #[]
  resolved := Array.replicate 35 none
  statics := none }

def pool16 : Array CpInfo := pool [(1, .class_ 2), (0, u "com/example/upcaster/upcaster/io/Codec"), (88, .class_ 92), (0, u "com/example/upcaster/upcaster/io/Codec$2")] 36

/-- com/example/upcaster/upcaster/io/Codec$2 -/
def k16 : Class := { plain "com/example/upcaster/upcaster/io/Codec$2" (some 13) with
  accessFlags := 16432
  interfaces := #[]
  cf := some (fileOf pool16 91 #[.nestHost 1] #[] 16432 1 #[] #[])
  fields := #[]
  methods := #[]
  instanceTypes := #[(.object "java/lang/String"), .int, .int, (.object "java/lang/String")]
  staticTypes := #[]
  resolved := Array.replicate 129 none
  statics := none }

def pool17 : Array CpInfo := pool [(9, u "<init>"), (6, .class_ 18), (1, u "java/lang/Object"), (0, u "()V"), (1, .class_ 23), (1, u "jdk/internal/util/ArraysSupport"), (0, u "LOG2_ARRAY_LONG_INDEX_SCALE"), (0, u "I"), (2, u "U"), (0, u "Ljdk/internal/misc/Unsafe;"), (8, u "BIG_ENDIAN"), (0, u "Z"), (8, u "LOG2_BYTE_BIT_SIZE"), (4, u "LOG2_ARRAY_INT_INDEX_SCALE"), (54, u "JLA"), (0, u "Ljdk/internal/access/JavaLangAccess;"), (11, u "LOG2_ARRAY_BOOLEAN_INDEX_SCALE"), (9, u "LOG2_ARRAY_BYTE_INDEX_SCALE"), (5, u "LOG2_ARRAY_CHAR_INDEX_SCALE"), (5, u "LOG2_ARRAY_SHORT_INDEX_SCALE"), (18, u "LOG2_ARRAY_FLOAT_INDEX_SCALE"), (24, u "LOG2_ARRAY_DOUBLE_INDEX_SCALE"), (89, u "T_BOOLEAN"), (2, u "T_CHAR"), (1, u "T_FLOAT"), (1, u "T_DOUBLE"), (1, u "T_BYTE"), (1, u "T_SHORT"), (1, u "T_INT"), (1, u "T_LONG"), (1, u "SOFT_MAX_ARRAY_LENGTH")] 83

def k17m0 : Method := { name := "<init>", desc := "()V", sig := { parameters := [], returnType := none }, accessFlags := 2, code := none }
/-- jdk/internal/util/ArraysSupport -/
def k17 : Class := { plain "jdk/internal/util/ArraysSupport" (some 0) with
  accessFlags := 33
  interfaces := #[]
  cf := some (fileOf pool17 21 #[] #[{ accessFlags := 2, nameIndex := 9, descriptorIndex := 19, attributes := #[] }] 33 16 #[] #[{ accessFlags := 24, nameIndex := 28, descriptorIndex := 29, attributes := #[] }, { accessFlags := 26, nameIndex := 38, descriptorIndex := 39, attributes := #[] }, { accessFlags := 25, nameIndex := 121, descriptorIndex := 25, attributes := #[] }, { accessFlags := 25, nameIndex := 131, descriptorIndex := 25, attributes := #[] }, { accessFlags := 25, nameIndex := 137, descriptorIndex := 25, attributes := #[] }, { accessFlags := 25, nameIndex := 143, descriptorIndex := 25, attributes := #[] }, { accessFlags := 25, nameIndex := 53, descriptorIndex := 25, attributes := #[] }, { accessFlags := 25, nameIndex := 24, descriptorIndex := 25, attributes := #[] }, { accessFlags := 25, nameIndex := 162, descriptorIndex := 25, attributes := #[] }, { accessFlags := 25, nameIndex := 187, descriptorIndex := 25, attributes := #[] }, { accessFlags := 26, nameIndex := 48, descriptorIndex := 25, attributes := #[] }, { accessFlags := 25, nameIndex := 277, descriptorIndex := 25, attributes := #[] }, { accessFlags := 25, nameIndex := 280, descriptorIndex := 25, attributes := #[] }, { accessFlags := 25, nameIndex := 282, descriptorIndex := 25, attributes := #[] }, { accessFlags := 25, nameIndex := 284, descriptorIndex := 25, attributes := #[] }, { accessFlags := 25, nameIndex := 286, descriptorIndex := 25, attributes := #[] }, { accessFlags := 25, nameIndex := 288, descriptorIndex := 25, attributes := #[] }, { accessFlags := 25, nameIndex := 290, descriptorIndex := 25, attributes := #[] }, { accessFlags := 25, nameIndex := 292, descriptorIndex := 25, attributes := #[] }, { accessFlags := 26, nameIndex := 108, descriptorIndex := 109, attributes := #[] }, { accessFlags := 25, nameIndex := 294, descriptorIndex := 25, attributes := #[] }])
  fields := #[{ name := "U", type := (.object "jdk/internal/misc/Unsafe"), accessFlags := 24, slot := 0, constantValue := 0 }, { name := "BIG_ENDIAN", type := .boolean, accessFlags := 26, slot := 1, constantValue := 0 }, { name := "LOG2_ARRAY_BOOLEAN_INDEX_SCALE", type := .int, accessFlags := 25, slot := 2, constantValue := 0 }, { name := "LOG2_ARRAY_BYTE_INDEX_SCALE", type := .int, accessFlags := 25, slot := 3, constantValue := 0 }, { name := "LOG2_ARRAY_CHAR_INDEX_SCALE", type := .int, accessFlags := 25, slot := 4, constantValue := 0 }, { name := "LOG2_ARRAY_SHORT_INDEX_SCALE", type := .int, accessFlags := 25, slot := 5, constantValue := 0 }, { name := "LOG2_ARRAY_INT_INDEX_SCALE", type := .int, accessFlags := 25, slot := 6, constantValue := 0 }, { name := "LOG2_ARRAY_LONG_INDEX_SCALE", type := .int, accessFlags := 25, slot := 7, constantValue := 0 }, { name := "LOG2_ARRAY_FLOAT_INDEX_SCALE", type := .int, accessFlags := 25, slot := 8, constantValue := 0 }, { name := "LOG2_ARRAY_DOUBLE_INDEX_SCALE", type := .int, accessFlags := 25, slot := 9, constantValue := 0 }, { name := "LOG2_BYTE_BIT_SIZE", type := .int, accessFlags := 26, slot := 10, constantValue := 0 }, { name := "T_BOOLEAN", type := .int, accessFlags := 25, slot := 11, constantValue := 0 }, { name := "T_CHAR", type := .int, accessFlags := 25, slot := 12, constantValue := 0 }, { name := "T_FLOAT", type := .int, accessFlags := 25, slot := 13, constantValue := 0 }, { name := "T_DOUBLE", type := .int, accessFlags := 25, slot := 14, constantValue := 0 }, { name := "T_BYTE", type := .int, accessFlags := 25, slot := 15, constantValue := 0 }, { name := "T_SHORT", type := .int, accessFlags := 25, slot := 16, constantValue := 0 }, { name := "T_INT", type := .int, accessFlags := 25, slot := 17, constantValue := 0 }, { name := "T_LONG", type := .int, accessFlags := 25, slot := 18, constantValue := 0 }, { name := "JLA", type := (.object "jdk/internal/access/JavaLangAccess"), accessFlags := 26, slot := 19, constantValue := 0 }, { name := "SOFT_MAX_ARRAY_LENGTH", type := .int, accessFlags := 25, slot := 20, constantValue := 0 }]
  methods := #[k17m0]
  instanceTypes := #[]
  staticTypes := #[(.object "jdk/internal/misc/Unsafe"), .boolean, .int, .int, .int, .int, .int, .int, .int, .int, .int, .int, .int, .int, .int, .int, .int, .int, .int, (.object "jdk/internal/access/JavaLangAccess"), .int]
  resolved := Array.replicate 378 none
  statics := none }

/-- the primitive byte -/
def k18 : Class := { plain "byte" none with kind := .primitive 'B', accessFlags := 0x411 }
/-- [B -/
def k19 : Class := { plain "[B" (some 0) with kind := .array 18 .byte, interfaces := #[14, 2], accessFlags := 1041 }

/-- the primitive char -/
def k20 : Class := { plain "char" none with kind := .primitive 'C', accessFlags := 0x411 }
/-- [C -/
def k21 : Class := { plain "[C" (some 0) with kind := .array 20 .char, interfaces := #[14, 2], accessFlags := 1041 }

/-- the primitive int -/
def k22 : Class := { plain "int" none with kind := .primitive 'I', accessFlags := 0x411 }
/-- [I -/
def k23 : Class := { plain "[I" (some 0) with kind := .array 22 .int, interfaces := #[14, 2], accessFlags := 1041 }

/-- [Lcom/example/upcaster/upcaster/io/Codec; -/
def k24 : Class := { plain "[Lcom/example/upcaster/upcaster/io/Codec;" (some 0) with kind := .array 13 (.object "com/example/upcaster/upcaster/io/Codec"), interfaces := #[14, 2], accessFlags := 1041 }

def heap : Heap := #[{ cls := 7, slots := #[.long 0, .int 1, .null, .int 0, .null, .int 0, .int 0], vm := .statics 7 },
  { cls := 9, slots := #[.null, .null, .null], vm := .statics 9 },
  { cls := 13, slots := #[.ref 4, .ref 5, .int 0, .ref 3], vm := .statics 13 },
  { cls := 24, slots := #[.ref 4, .ref 5], vm := .none },
  { cls := 15, slots := #[.null, .int 0, .int 0, .ref 6], vm := .none },
  { cls := 16, slots := #[.null, .int 1, .int 0, .ref 7], vm := .none },
  { cls := 7, slots := #[.ref 8, .int 0, .int 0, .int 0], vm := .none },
  { cls := 7, slots := #[.ref 9, .int 0, .int 0, .int 0], vm := .none },
  { cls := 19, slots := #[.int 110, .int 117, .int 108, .int 108], vm := .none },
  { cls := 19, slots := #[.int 100, .int 101, .int 102, .int 108, .int 97, .int 116, .int 101], vm := .none }]
def classes : Array Class := #[k0, k1, k2, k3, k4, k5, k6, k7, k8, k9, k10, k11, k12, k13, k14, k15, k16, k17, k18, k19, k20, k21, k22, k23, k24]
def interned : List (Array UInt16 × Addr) := []
def slotsUsed : Nat := 43
def theMethod : MethodId := ⟨1, 1⟩
def args0 : Array Value := #[.int 0, .int 3, .int 2, .long 7]
def aboutOver (below : List Frame) : State where
  vm := { classes := classes, interned := interned.toArray }
  heap := heap
  slotsUsed := slotsUsed
  threads := #[{ frames := .invoking theMethod args0 :: below }]
def below0 : List Frame := [.native { method := ⟨0, 0⟩, args := #[] }]
def about1 : State := aboutOver below0
def p0 : Program := .bare "" "" ""
def e0 : Env := launch0.env 0 0 0
theorem w_frames : about1.frames = Frame.invoking theMethod args0 :: below0 := rfl
set_option maxRecDepth 65536 in
theorem w_args : argsFit about1.vm theMethod args0 = true := by decide +kernel
set_option maxRecDepth 65536 in
theorem w_heap : heapFits about1 = true := by decide +kernel
set_option maxRecDepth 65536 in
theorem w_runnable : about1.curStatus? = some .runnable := by decide +kernel
set_option maxRecDepth 65536 in
theorem w_alone : about1.alone = true := by decide +kernel
set_option maxRecDepth 65536 in
theorem w_named : about1.methodNamed? x = some theMethod := by decide +kernel
set_option maxRecDepth 65536 in
theorem w_hears : about1.hears theMethod below0 = true := by decide +kernel
set_option maxRecDepth 65536 in
theorem w_ripe : about1.ripe theMethod args0 below0 = true := by decide +kernel
theorem w_running : about1.status = .running := rfl
set_option maxRecDepth 65536 in
theorem w_room : about1.hasRoom e0.platform room_1 = true :=
  launch0.hasRoom_least _ room_1 (by decide +kernel) (by decide +kernel) (by decide +kernel) (by decide +kernel) (by decide +kernel) (by decide +kernel)
theorem allAtoms_all (ts : List Jvm.Cond) (a : Array Jvm.Value) (st : Jvm.State) : (allAtoms ts).before a st = ts.all (fun c => c.before a st) := by
  induction ts with
  | nil => rfl
  | cons c t ih =>
    show (Jvm.Cond.and c (allAtoms t)).before a st = _
    rw [Jvm.Cond.before_and, ih, List.all_cons]
def words1 : List Jvm.Cond := Jvm.Cond.code x code maxLocals ret :: tables_1
/-- a 'code' word, met by the world's own term for the bytes: nothing is compared byte by byte -/
theorem code_word {y : MethodName} {bytes : ByteArray} {mx : Nat} {rt : Option FieldType} {a : Array Value} {s : State} {m : MethodId} {meth : Method} {c : Code} (h1 : s.methodNamed? y = some m) (h2 : s.vm.method? m = some meth) (h3 : meth.code = some c) (h4 : c.code = bytes)
    (h5 : (c.maxLocals == mx && c.exceptionTable.isEmpty && decide (c.maxStack ≤ mostOperands) && decide (meth.sig.returnType = rt) && !meth.locks && decide (parseMethodDescriptor y.desc = some meth.sig)) = true) : (Jvm.Cond.code y bytes mx rt).before a s = true := by
  simp only [Bool.and_eq_true, beq_iff_eq, Bool.not_eq_true', decide_eq_true_eq] at h5
  obtain ⟨⟨⟨⟨⟨g1, g2⟩, g3⟩, g4⟩, g5⟩, g6⟩ := h5
  simp [Cond.before, Cond.holds, Cond.value, h1, h2, h3, h4, g1, g2, g3, g4, g5, g6]
def isCode : Jvm.Cond → Bool
  | .code _ _ _ _ => true
  | _ => false
theorem all_split {L : List Jvm.Cond} {P : Jvm.Cond → Bool} (h1 : L.all (fun c => isCode c || P c) = true) (h2 : ∀ c ∈ L.filter isCode, P c = true) : L.all P = true := by
  refine List.all_eq_true.mpr fun c hc => ?_
  have h := List.all_eq_true.mp h1 c hc
  rcases Bool.eq_false_or_eq_true (isCode c) with hi | hi
  · exact h2 c (List.mem_filter.mpr ⟨hc, hi⟩)
  · simpa [hi] using h
set_option maxRecDepth 65536 in
theorem w_c0 : (Jvm.Cond.code x code maxLocals ret).before args0 about1 = true := code_word (m := ⟨1, 1⟩) (meth := k1m1) (c := k1c1) (by decide +kernel) rfl rfl rfl (by decide +kernel)
set_option maxRecDepth 65536 in
theorem w_c1 : (Jvm.Cond.code ({ cls := "com/example/upcaster/upcaster/io/CodecNamedPinLaw", name := "at", desc := "(IIJ)C" } : Jvm.MethodName) method_3_code (4 : Nat) (Option.some Jvm.ClassFile.FieldType.char)).before args0 about1 = true := code_word (m := ⟨1, 2⟩) (meth := k1m2) (c := k1c2) (by decide +kernel) rfl rfl rfl (by decide +kernel)
set_option maxRecDepth 65536 in
theorem w_c2 : (Jvm.Cond.code ({ cls := "java/lang/String", name := "charAt", desc := "(I)C" } : Jvm.MethodName) jdk_42_method_56_code (2 : Nat) (Option.some Jvm.ClassFile.FieldType.char)).before args0 about1 = true := code_word (m := ⟨7, 2⟩) (meth := k7m2) (c := k7c2) (by decide +kernel) rfl rfl rfl (by decide +kernel)
set_option maxRecDepth 65536 in
theorem w_c3 : (Jvm.Cond.code ({ cls := "java/lang/String", name := "isLatin1", desc := "()Z" } : Jvm.MethodName) jdk_42_method_154_code (1 : Nat) (Option.some Jvm.ClassFile.FieldType.boolean)).before args0 about1 = true := code_word (m := ⟨7, 5⟩) (meth := k7m5) (c := k7c5) (by decide +kernel) rfl rfl rfl (by decide +kernel)
set_option maxRecDepth 65536 in
theorem w_c4 : (Jvm.Cond.code ({ cls := "java/lang/StringLatin1", name := "charAt", desc := "([BI)C" } : Jvm.MethodName) jdk_43_method_2_code (2 : Nat) (Option.some Jvm.ClassFile.FieldType.char)).before args0 about1 = true := code_word (m := ⟨8, 1⟩) (meth := k8m1) (c := k8c1) (by decide +kernel) rfl rfl rfl (by decide +kernel)
set_option maxRecDepth 65536 in
theorem w_c5 : (Jvm.Cond.code ({ cls := "java/lang/String", name := "checkIndex", desc := "(II)V" } : Jvm.MethodName) jdk_42_method_155_code (2 : Nat) (Option.none : Option Jvm.ClassFile.FieldType)).before args0 about1 = true := code_word (m := ⟨7, 6⟩) (meth := k7m6) (c := k7c6) (by decide +kernel) rfl rfl rfl (by decide +kernel)
set_option maxRecDepth 65536 in
theorem w_c6 : (Jvm.Cond.code ({ cls := "jdk/internal/util/Preconditions", name := "checkIndex", desc := "(IILjava/util/function/BiFunction;)I" } : Jvm.MethodName) jdk_41_method_11_code (3 : Nat) (Option.some Jvm.ClassFile.FieldType.int)).before args0 about1 = true := code_word (m := ⟨9, 1⟩) (meth := k9m1) (c := k9c1) (by decide +kernel) rfl rfl rfl (by decide +kernel)
set_option maxRecDepth 65536 in
theorem w_c7 : (Jvm.Cond.code ({ cls := "java/lang/Math", name := "max", desc := "(II)I" } : Jvm.MethodName) jdk_29_method_65_code (2 : Nat) (Option.some Jvm.ClassFile.FieldType.int)).before args0 about1 = true := code_word (m := ⟨10, 1⟩) (meth := k10m1) (c := k10c1) (by decide +kernel) rfl rfl rfl (by decide +kernel)
set_option maxRecDepth 65536 in
theorem w_c8 : (Jvm.Cond.code ({ cls := "java/lang/Math", name := "min", desc := "(II)I" } : Jvm.MethodName) jdk_29_method_69_code (2 : Nat) (Option.some Jvm.ClassFile.FieldType.int)).before args0 about1 = true := code_word (m := ⟨10, 2⟩) (meth := k10m2) (c := k10c2) (by decide +kernel) rfl rfl rfl (by decide +kernel)
set_option maxRecDepth 65536 in
theorem w_c9 : (Jvm.Cond.code ({ cls := "com/example/upcaster/upcaster/io/CodecNamedPinLaw", name := "make", desc := "([CI)Ljava/lang/String;" } : Jvm.MethodName) method_5_code (2 : Nat) (Option.some (Jvm.ClassFile.FieldType.object "java/lang/String"))).before args0 about1 = true := code_word (m := ⟨1, 4⟩) (meth := k1m4) (c := k1c4) (by decide +kernel) rfl rfl rfl (by decide +kernel)
set_option maxRecDepth 65536 in
theorem w_c10 : (Jvm.Cond.code ({ cls := "java/lang/String", name := "<init>", desc := "([C)V" } : Jvm.MethodName) jdk_42_method_3_code (2 : Nat) (Option.none : Option Jvm.ClassFile.FieldType)).before args0 about1 = true := code_word (m := ⟨7, 1⟩) (meth := k7m1) (c := k7c1) (by decide +kernel) rfl rfl rfl (by decide +kernel)
set_option maxRecDepth 65536 in
theorem w_c11 : (Jvm.Cond.code ({ cls := "java/lang/String", name := "<init>", desc := "([CIILjava/lang/Void;)V" } : Jvm.MethodName) jdk_42_method_149_code (6 : Nat) (Option.none : Option Jvm.ClassFile.FieldType)).before args0 about1 = true := code_word (m := ⟨7, 4⟩) (meth := k7m4) (c := k7c4) (by decide +kernel) rfl rfl rfl (by decide +kernel)
set_option maxRecDepth 65536 in
theorem w_c12 : (Jvm.Cond.code ({ cls := "java/lang/Object", name := "<init>", desc := "()V" } : Jvm.MethodName) object_method_1_code (1 : Nat) (Option.none : Option Jvm.ClassFile.FieldType)).before args0 about1 = true := code_word (m := ⟨0, 0⟩) (meth := k0m0) (c := k0c0) (by decide +kernel) rfl rfl rfl (by decide +kernel)
set_option maxRecDepth 65536 in
theorem w_c13 : (Jvm.Cond.code ({ cls := "java/lang/StringUTF16", name := "compress", desc := "([CII)[B" } : Jvm.MethodName) jdk_52_method_16_code (6 : Nat) (Option.some (Jvm.ClassFile.FieldType.array Jvm.ClassFile.FieldType.byte))).before args0 about1 = true := code_word (m := ⟨11, 2⟩) (meth := k11m2) (c := k11c2) (by decide +kernel) rfl rfl rfl (by decide +kernel)
set_option maxRecDepth 65536 in
theorem w_c14 : (Jvm.Cond.code ({ cls := "java/lang/StringUTF16", name := "compress", desc := "([CI[BII)I" } : Jvm.MethodName) jdk_52_method_21_code (7 : Nat) (Option.some Jvm.ClassFile.FieldType.int)).before args0 about1 = true := code_word (m := ⟨11, 3⟩) (meth := k11m3) (c := k11c3) (by decide +kernel) rfl rfl rfl (by decide +kernel)
set_option maxRecDepth 65536 in
theorem w_c15 : (Jvm.Cond.code ({ cls := "java/lang/StringUTF16", name := "coderFromArrayLen", desc := "([BI)B" } : Jvm.MethodName) jdk_52_method_15_code (2 : Nat) (Option.some Jvm.ClassFile.FieldType.byte)).before args0 about1 = true := code_word (m := ⟨11, 1⟩) (meth := k11m1) (c := k11c1) (by decide +kernel) rfl rfl rfl (by decide +kernel)
set_option maxRecDepth 65536 in
theorem w_c16 : (Jvm.Cond.code ({ cls := "com/example/upcaster/upcaster/io/CodecNamedPinLaw", name := "expected", desc := "(Ljava/lang/String;)Lcom/example/upcaster/upcaster/io/Codec;" } : Jvm.MethodName) method_4_code (1 : Nat) (Option.some (Jvm.ClassFile.FieldType.object "com/example/upcaster/upcaster/io/Codec"))).before args0 about1 = true := code_word (m := ⟨1, 3⟩) (meth := k1m3) (c := k1c3) (by decide +kernel) rfl rfl rfl (by decide +kernel)
set_option maxRecDepth 65536 in
theorem w_c17 : (Jvm.Cond.code ({ cls := "java/lang/String", name := "equals", desc := "(Ljava/lang/Object;)Z" } : Jvm.MethodName) jdk_42_method_66_code (3 : Nat) (Option.some Jvm.ClassFile.FieldType.boolean)).before args0 about1 = true := code_word (m := ⟨7, 3⟩) (meth := k7m3) (c := k7c3) (by decide +kernel) rfl rfl rfl (by decide +kernel)
set_option maxRecDepth 65536 in
theorem w_c18 : (Jvm.Cond.code ({ cls := "java/lang/StringLatin1", name := "equals", desc := "([B[B)Z" } : Jvm.MethodName) jdk_43_method_13_code (3 : Nat) (Option.some Jvm.ClassFile.FieldType.boolean)).before args0 about1 = true := code_word (m := ⟨8, 2⟩) (meth := k8m2) (c := k8c2) (by decide +kernel) rfl rfl rfl (by decide +kernel)
set_option maxRecDepth 65536 in
theorem w_c19 : (Jvm.Cond.code ({ cls := "com/example/upcaster/upcaster/io/Codec", name := "named", desc := "(Ljava/lang/String;)Lcom/example/upcaster/upcaster/io/Codec;" } : Jvm.MethodName) prog_8_method_5_code (5 : Nat) (Option.some (Jvm.ClassFile.FieldType.object "com/example/upcaster/upcaster/io/Codec"))).before args0 about1 = true := code_word (m := ⟨13, 1⟩) (meth := k13m1) (c := k13c1) (by decide +kernel) rfl rfl rfl (by decide +kernel)
set_option maxRecDepth 65536 in
theorem w_c20 : (Jvm.Cond.code ({ cls := "com/example/upcaster/upcaster/io/Codec", name := "values", desc := "()[Lcom/example/upcaster/upcaster/io/Codec;" } : Jvm.MethodName) prog_8_method_1_code (0 : Nat) (Option.some (Jvm.ClassFile.FieldType.array (Jvm.ClassFile.FieldType.object "com/example/upcaster/upcaster/io/Codec")))).before args0 about1 = true := code_word (m := ⟨13, 0⟩) (meth := k13m0) (c := k13c0) (by decide +kernel) rfl rfl rfl (by decide +kernel)
def codes1 : List Jvm.Cond := [Jvm.Cond.code x code maxLocals ret, Jvm.Cond.code ({ cls := "com/example/upcaster/upcaster/io/CodecNamedPinLaw", name := "at", desc := "(IIJ)C" } : Jvm.MethodName) method_3_code (4 : Nat) (Option.some Jvm.ClassFile.FieldType.char), Jvm.Cond.code ({ cls := "java/lang/String", name := "charAt", desc := "(I)C" } : Jvm.MethodName) jdk_42_method_56_code (2 : Nat) (Option.some Jvm.ClassFile.FieldType.char), Jvm.Cond.code ({ cls := "java/lang/String", name := "isLatin1", desc := "()Z" } : Jvm.MethodName) jdk_42_method_154_code (1 : Nat) (Option.some Jvm.ClassFile.FieldType.boolean), Jvm.Cond.code ({ cls := "java/lang/StringLatin1", name := "charAt", desc := "([BI)C" } : Jvm.MethodName) jdk_43_method_2_code (2 : Nat) (Option.some Jvm.ClassFile.FieldType.char), Jvm.Cond.code ({ cls := "java/lang/String", name := "checkIndex", desc := "(II)V" } : Jvm.MethodName) jdk_42_method_155_code (2 : Nat) (Option.none : Option Jvm.ClassFile.FieldType), Jvm.Cond.code ({ cls := "jdk/internal/util/Preconditions", name := "checkIndex", desc := "(IILjava/util/function/BiFunction;)I" } : Jvm.MethodName) jdk_41_method_11_code (3 : Nat) (Option.some Jvm.ClassFile.FieldType.int), Jvm.Cond.code ({ cls := "java/lang/Math", name := "max", desc := "(II)I" } : Jvm.MethodName) jdk_29_method_65_code (2 : Nat) (Option.some Jvm.ClassFile.FieldType.int), Jvm.Cond.code ({ cls := "java/lang/Math", name := "min", desc := "(II)I" } : Jvm.MethodName) jdk_29_method_69_code (2 : Nat) (Option.some Jvm.ClassFile.FieldType.int), Jvm.Cond.code ({ cls := "com/example/upcaster/upcaster/io/CodecNamedPinLaw", name := "make", desc := "([CI)Ljava/lang/String;" } : Jvm.MethodName) method_5_code (2 : Nat) (Option.some (Jvm.ClassFile.FieldType.object "java/lang/String")), Jvm.Cond.code ({ cls := "java/lang/String", name := "<init>", desc := "([C)V" } : Jvm.MethodName) jdk_42_method_3_code (2 : Nat) (Option.none : Option Jvm.ClassFile.FieldType), Jvm.Cond.code ({ cls := "java/lang/String", name := "<init>", desc := "([CIILjava/lang/Void;)V" } : Jvm.MethodName) jdk_42_method_149_code (6 : Nat) (Option.none : Option Jvm.ClassFile.FieldType), Jvm.Cond.code ({ cls := "java/lang/Object", name := "<init>", desc := "()V" } : Jvm.MethodName) object_method_1_code (1 : Nat) (Option.none : Option Jvm.ClassFile.FieldType), Jvm.Cond.code ({ cls := "java/lang/StringUTF16", name := "compress", desc := "([CII)[B" } : Jvm.MethodName) jdk_52_method_16_code (6 : Nat) (Option.some (Jvm.ClassFile.FieldType.array Jvm.ClassFile.FieldType.byte)), Jvm.Cond.code ({ cls := "java/lang/StringUTF16", name := "compress", desc := "([CI[BII)I" } : Jvm.MethodName) jdk_52_method_21_code (7 : Nat) (Option.some Jvm.ClassFile.FieldType.int), Jvm.Cond.code ({ cls := "java/lang/StringUTF16", name := "coderFromArrayLen", desc := "([BI)B" } : Jvm.MethodName) jdk_52_method_15_code (2 : Nat) (Option.some Jvm.ClassFile.FieldType.byte), Jvm.Cond.code ({ cls := "com/example/upcaster/upcaster/io/CodecNamedPinLaw", name := "expected", desc := "(Ljava/lang/String;)Lcom/example/upcaster/upcaster/io/Codec;" } : Jvm.MethodName) method_4_code (1 : Nat) (Option.some (Jvm.ClassFile.FieldType.object "com/example/upcaster/upcaster/io/Codec")), Jvm.Cond.code ({ cls := "java/lang/String", name := "equals", desc := "(Ljava/lang/Object;)Z" } : Jvm.MethodName) jdk_42_method_66_code (3 : Nat) (Option.some Jvm.ClassFile.FieldType.boolean), Jvm.Cond.code ({ cls := "java/lang/StringLatin1", name := "equals", desc := "([B[B)Z" } : Jvm.MethodName) jdk_43_method_13_code (3 : Nat) (Option.some Jvm.ClassFile.FieldType.boolean), Jvm.Cond.code ({ cls := "com/example/upcaster/upcaster/io/Codec", name := "named", desc := "(Ljava/lang/String;)Lcom/example/upcaster/upcaster/io/Codec;" } : Jvm.MethodName) prog_8_method_5_code (5 : Nat) (Option.some (Jvm.ClassFile.FieldType.object "com/example/upcaster/upcaster/io/Codec")), Jvm.Cond.code ({ cls := "com/example/upcaster/upcaster/io/Codec", name := "values", desc := "()[Lcom/example/upcaster/upcaster/io/Codec;" } : Jvm.MethodName) prog_8_method_1_code (0 : Nat) (Option.some (Jvm.ClassFile.FieldType.array (Jvm.ClassFile.FieldType.object "com/example/upcaster/upcaster/io/Codec")))]
set_option maxRecDepth 65536 in
theorem codes_eq : words1.filter isCode = codes1 := rfl
theorem w_codes : ∀ c ∈ words1.filter isCode, c.before args0 about1 = true := by
  rw [codes_eq]
  intro c hc
  simp only [codes1, List.mem_cons, List.not_mem_nil, or_false] at hc
  rcases hc with rfl | rfl | rfl | rfl | rfl | rfl | rfl | rfl | rfl | rfl | rfl | rfl | rfl | rfl | rfl | rfl | rfl | rfl | rfl | rfl | rfl
  · exact w_c0
  · exact w_c1
  · exact w_c2
  · exact w_c3
  · exact w_c4
  · exact w_c5
  · exact w_c6
  · exact w_c7
  · exact w_c8
  · exact w_c9
  · exact w_c10
  · exact w_c11
  · exact w_c12
  · exact w_c13
  · exact w_c14
  · exact w_c15
  · exact w_c16
  · exact w_c17
  · exact w_c18
  · exact w_c19
  · exact w_c20
set_option maxRecDepth 65536 in
theorem w_t1 : (words1.take 24).all (fun c => isCode c || c.before args0 about1) = true := by decide +kernel
set_option maxRecDepth 65536 in
theorem w_t2 : ((words1.drop 24).take 24).all (fun c => isCode c || c.before args0 about1) = true := by decide +kernel
set_option maxRecDepth 65536 in
theorem w_t3 : (((words1.drop 24).drop 24).take 24).all (fun c => isCode c || c.before args0 about1) = true := by decide +kernel
set_option maxRecDepth 65536 in
theorem w_t4 : ((((words1.drop 24).drop 24).drop 24).take 24).all (fun c => isCode c || c.before args0 about1) = true := by decide +kernel
set_option maxRecDepth 65536 in
theorem w_t5 : ((((words1.drop 24).drop 24).drop 24).drop 24).all (fun c => isCode c || c.before args0 about1) = true := by decide +kernel
theorem w_tables : (allAtoms (Jvm.Cond.code x code maxLocals ret :: tables_1)).before args0 about1 = true := by
  rw [allAtoms_all]
  show words1.all (fun c => c.before args0 about1) = true
  refine all_split ?_ w_codes
  rw [← List.take_append_drop 24 words1, List.all_append, w_t1, ← List.take_append_drop 24 (words1.drop 24), List.all_append, w_t2, ← List.take_append_drop 24 ((words1.drop 24).drop 24), List.all_append, w_t3, ← List.take_append_drop 24 (((words1.drop 24).drop 24).drop 24), List.all_append, w_t4, w_t5]
  rfl
set_option maxRecDepth 65536 in
theorem w_rest : rest_1_c.before args0 about1 = true := by decide +kernel
set_option maxRecDepth 65536 in
theorem w_case : (Jvm.Cond.and given_1 narrow_1).before args0 about1 = true := by decide +kernel
set_option maxRecDepth 65536 in
theorem w_consts : constsHeld consts_1 about1 := Jvm.Lit.constsHeldB_iff.mp (by decide +kernel)
theorem w_applies : (headSpec (Jvm.Cond.code x code maxLocals ret :: tables_1) room_1).applies x e0.platform about1 = true :=
  (Spec.applies_iff w_frames).mpr ⟨w_running, w_runnable, w_alone, w_named, w_hears, w_ripe, w_room, w_tables⟩
theorem atStart : AtStart classFile x code maxLocals ret World_1 tables_1 room_1 Calls_1 rest_1 Pre_1 launch0 p0 e0 about1 theMethod args0 below0 :=
  ⟨lists_1, trivial, launch0.admits_env _ _ _, launch0.least_env, fairChoices_fair.cas, fairChoices_fair.clock, w_frames, w_args, w_heap, w_applies, ⟨w_consts, trivial⟩, w_rest, w_case⟩
end start1
theorem witness_1 : WitnessClaimed_1 := ⟨start1.p0, start1.e0, start1.about1, start1.theMethod, start1.args0, start1.below0, start1.atStart⟩
end Jvm.Pilot.@@N@@
