import JvmDerived
import JvmDerived.Pilot.@@N@@Statement
import JvmDerived.Pilot.@@N@@Code
set_option linter.unusedVariables false
set_option linter.unusedSimpArgs false
@@BLOCK:NumsL.lean.txt@@
/- laws to paste: Road.backV, Road.eqW, Road.codOf (cut by pick.py; bodies as the Statement names them) -/
namespace Jvm.Pilot.@@N@@
namespace StrChars
open Jvm Sem ClassFile Op Lib Jvm.Stand Jvm.Free.XT Jvm.Free.ALB Jvm.Free.JM Jvm.Free
open Jvm.Lib.Cold (StaticIs)
/-- a char array whose places are chars -/
def Ch (a : Addr) (A : Cell) (U : State) : Prop := Arr .char a A U ∧ Typed .char A
theorem Ch.mv {a : Addr} {A : Cell} {U U' : State} (h : Ch a A U) (hal : U.vm.Alike U'.vm) (hh : U'.heap = U.heap) : Ch a A U' := ⟨h.1.mv hal hh, h.2⟩
theorem Ch.keep {a : Addr} {A : Cell} {U U' : State} (h : Ch a A U) (hal : U.vm.Alike U'.vm) (hk : U'.heap[a]? = some A) : Ch a A U' := ⟨h.1.keep hal hk, h.2⟩
/-- what place i of a char[]'s cell holds -/
def cv (A : Cell) (i : Nat) : Int32 := match A.slots[i]? with | some (.int x) => x | _ => 0
theorem Ch.get {a : Addr} {A : Cell} {U : State} (h : Ch a A U) {i : Nat} (hi : i < A.slots.size) : A.slots[i]? = some (.int (cv A i)) := by
  have e := Array.getElem?_eq_getElem hi
  have f := h.2 i _ e
  unfold cv; rw [e]
  generalize A.slots[i] = v at f
  cases v <;> simp [fits] at f ⊢
/-- the byte that i2b leaves of a char -/
def lo8 (x : Int32) : Int32 := x.toInt8.toInt32
theorem fits_lo8 (y : Int32) : fits .byte (.int (lo8 y)) = true := by
  have h1 := y.toInt8.le_toInt
  have h2 := y.toInt8.toInt_lt
  simp only [lo8, fits, Bool.and_eq_true, decide_eq_true_eq, Int32.le_iff_toInt_le, Int8.toInt_toInt32, show (-128 : Int32).toInt = -128 from by decide, show (127 : Int32).toInt = 127 from by decide]
  omega
/-- A' is A but that each place j of lo .. hi - 1 holds f j -/
def Laid (A A' : Cell) (lo hi : Nat) (f : Nat → Value) : Prop := A'.cls = A.cls ∧ A'.vm = A.vm ∧ A'.slots.size = A.slots.size ∧ ∀ i, A'.slots[i]? = if lo ≤ i ∧ i < hi then some (f i) else A.slots[i]?
theorem Laid.zero (A : Cell) (lo : Nat) (f : Nat → Value) : Laid A A lo (lo + 0) f := ⟨rfl, rfl, rfl, fun i => by rw [if_neg (by omega)]⟩
theorem Laid.step {A Ak : Cell} {lo k : Nat} {f : Nat → Value} {v : Value} (h : Laid A Ak lo k f) (hlo : lo ≤ k) (hk : k < Ak.slots.size) (hv : v = f k) : Laid A (Ak.setSlot k v) lo (k + 1) f := by
  refine ⟨h.1, h.2.1, by simpa [Cell.setSlot] using h.2.2.1, fun i => ?_⟩
  by_cases e : k = i
  · subst e; rw [Cell.slots_setSlot_self v hk, if_pos (by omega), hv]
  · rw [Cell.slots_setSlot_ne v e, h.2.2.2 i]
    by_cases q : lo ≤ i ∧ i < k
    · rw [if_pos q, if_pos (by omega)]
    · rw [if_neg q, if_neg (by omega)]
def U16 : String := "java/lang/StringUTF16"
namespace Cmp5
def yN : MethodName := ⟨"java/lang/StringUTF16", "compress", "([CI[BII)I"⟩
abbrev yB : ByteArray := jdk_52_method_21_code
theorem d0 : decode yB 0 = .ok (.iconst 0, 1) := by decide +kernel
theorem d1 : decode yB 1 = .ok (.istore 5, 2) := by decide +kernel
theorem d3 : decode yB 3 = .ok (.iload 5, 2) := by decide +kernel
theorem d5 : decode yB 5 = .ok (.iload 4, 2) := by decide +kernel
theorem d7 : decode yB 7 = .ok (.if_icmp (.ge) 37, 3) := by decide +kernel
theorem d10 : decode yB 10 = .ok (.aload_n 0, 1) := by decide +kernel
theorem d11 : decode yB 11 = .ok (.iload_n 1, 1) := by decide +kernel
theorem d12 : decode yB 12 = .ok (.caload, 1) := by decide +kernel
theorem d13 : decode yB 13 = .ok (.istore 6, 2) := by decide +kernel
theorem d15 : decode yB 15 = .ok (.iload 6, 2) := by decide +kernel
theorem d17 : decode yB 17 = .ok (.sipush 255, 3) := by decide +kernel
theorem d20 : decode yB 20 = .ok (.if_icmp (.le) 6, 3) := by decide +kernel
theorem d26 : decode yB 26 = .ok (.aload_n 2, 1) := by decide +kernel
theorem d27 : decode yB 27 = .ok (.iload_n 3, 1) := by decide +kernel
theorem d28 : decode yB 28 = .ok (.iload 6, 2) := by decide +kernel
theorem d30 : decode yB 30 = .ok (.i2b, 1) := by decide +kernel
theorem d31 : decode yB 31 = .ok (.bastore, 1) := by decide +kernel
theorem d32 : decode yB 32 = .ok (.iinc 1 1, 3) := by decide +kernel
theorem d35 : decode yB 35 = .ok (.iinc 3 1, 3) := by decide +kernel
theorem d38 : decode yB 38 = .ok (.iinc 5 1, 3) := by decide +kernel
theorem d41 : decode yB 41 = .ok (.goto (-38), 3) := by decide +kernel
theorem d44 : decode yB 44 = .ok (.iload 4, 2) := by decide +kernel
theorem d46 : decode yB 46 = .ok (.ireturn, 1) := by decide +kernel
def site : List Cond := []
def tab : Cond := tabOf yN yB 7 (some .int) site
def P (b : Addr) (A : Cell) (d : Addr) (B : Cell) (o q len : Nat) (args : Array Value) (s : State) : Prop := args = #[.ref b, .int (Int32.ofNat o), .ref d, .int (Int32.ofNat q), .int (Int32.ofNat len)] ∧ Ch b A s ∧ Arr .byte d B s ∧ b ≠ d ∧ o + len ≤ A.slots.size ∧ q + len ≤ B.slots.size ∧ ∀ i, i < len → ¬ 255 < cv A (o + i)
def E (b : Addr) (A : Cell) (d : Addr) (B : Cell) (o q len : Nat) (r : Option Value) (s u : State) : Prop := r = some (.int (Int32.ofNat len)) ∧ ∃ B', Put d B' s u ∧ Laid B B' q (q + len) (fun j => Value.int (lo8 (cv A (o + (j - q)))))
/-- no char of the range above 255: len; the places written hold each char's low byte -/
theorem law (l : Launch) (b : Addr) (A : Cell) (d : Addr) (B : Cell) (o q len : Nat) : Law l yN 5 5 0 0 yB 7 (some .int) site (P b A d B o q len) (E b A d B o q len) (copyLocs d q len) 0 0 := by
  refine Law.of_walk (plainFor_of_name (by decide +kernel)) (by decide +kernel) (by decide +kernel) (by decide) (fun _ _ h => by rw [h.1]; rfl) (fun _ U U' hal hh h => ⟨h.1, h.2.1.mv hal hh, h.2.2.1.mv hal hh, h.2.2.2⟩) (fun r U U' V V' h1 hal h2 h => ⟨h.1, h.2.elim fun B' q => ⟨B', q.1.mv h1 h2, q.2⟩⟩) ?_
  intro p e s m args below meth c s₁ X0 hexec hbytes hml hret hlk hnm hown hh0 W hP
  obtain ⟨rfl, hA, hB, hne, l1, l2, hp⟩ := hP
  have c1 : Steps p.tables e below (s₁.setTop (entryFrame m #[.ref b, .int (Int32.ofNat o), .ref d, .int (Int32.ofNat q), .int (Int32.ofNat len)] 7)) (s₁.setTop (mkF m 0 #[.val (.ref b), .val (.int (Int32.ofNat o)), .val (.ref d), .val (.int (Int32.ofNat q)), .val (.int (Int32.ofNat len)), .unset, .unset] [])) := entry rfl
  have hA0 := hA.1.mv X0.warmed.alike hh0
  have hB0 := hB.mv X0.warmed.alike hh0
  have a31 := hA.1.2.2.2
  have c2 : Steps p.tables e below (s₁.setTop (entryFrame m #[.ref b, .int (Int32.ofNat o), .ref d, .int (Int32.ofNat q), .int (Int32.ofNat len)] 7)) (s₁.setTop (mkF m 3 #[.val (.ref b), .val (.int (Int32.ofNat o)), .val (.ref d), .val (.int (Int32.ofNat q)), .val (.int (Int32.ofNat len)), .val (.int 0), .unset] [])) := c1.trans (by
    refine iconstV X0.here hexec rfl 0 (hb hbytes d0) (by decide) ?_
    refine XS.istore X0.here hexec rfl (hb hbytes d1) rfl rfl ?_
    exact Steps.refl _)
  have loop : ∀ (r i : Nat), i + r = len → ∀ (z : Slot), (z = .unset ∨ ∃ w, z = .val w ∧ w.category = 1) → ∀ (Tl : State) (Bk : Cell), Stand p l e { frames := 0, locals := 0, cells := 0, slots := 0 } s m #[.ref b, .int (Int32.ofNat o), .ref d, .int (Int32.ofNat q), .int (Int32.ofNat len)] below meth c Tl ([] ++ copyLocs d q i) 0 0 → Put d Bk s₁ Tl → Laid B Bk q (q + i) (fun j => Value.int (lo8 (cv A (o + (j - q))))) →
      Steps p.tables e below (s₁.setTop (entryFrame m #[.ref b, .int (Int32.ofNat o), .ref d, .int (Int32.ofNat q), .int (Int32.ofNat len)] 7)) (Tl.setTop (mkF m 3 #[.val (.ref b), .val (.int (Int32.ofNat (o + i))), .val (.ref d), .val (.int (Int32.ofNat (q + i))), .val (.int (Int32.ofNat len)), .val (.int (Int32.ofNat i)), z] [])) → ∃ (T' : State) (B' : Cell) (z' : Slot), Stand p l e { frames := 0, locals := 0, cells := 0, slots := 0 } s m #[.ref b, .int (Int32.ofNat o), .ref d, .int (Int32.ofNat q), .int (Int32.ofNat len)] below meth c T' ([] ++ copyLocs d q len) 0 0 ∧ Put d B' s₁ T' ∧ Laid B B' q (q + len) (fun j => Value.int (lo8 (cv A (o + (j - q))))) ∧
      Steps p.tables e below (s₁.setTop (entryFrame m #[.ref b, .int (Int32.ofNat o), .ref d, .int (Int32.ofNat q), .int (Int32.ofNat len)] 7)) (T'.setTop (mkF m 3 #[.val (.ref b), .val (.int (Int32.ofNat (o + len))), .val (.ref d), .val (.int (Int32.ofNat (q + len))), .val (.int (Int32.ofNat len)), .val (.int (Int32.ofNat len)), z'] [])) := by
    intro r
    induction r with
    | zero =>
      intro i hi z hz Tl Bk Xl pl fl cl
      have hil : i = len := by omega
      rw [hil] at Xl fl cl
      exact ⟨Tl, Bk, z, Xl, pl, fl, cl⟩
    | succ r ih =>
      intro i hi z hz Tl Bk Xl pl fl cl
      have all := X0.warmed.alike.symm.trans Xl.warmed.alike
      have hAl := hA0.keep all (pl.other hne hA0.1)
      have hBk := hB0.like all pl.1 fl.1 fl.2.1 fl.2.2.1
      have hlt : q + i < Bk.slots.size := by rw [fl.2.2.1]; omega
      have c3 : Steps p.tables e below (s₁.setTop (entryFrame m #[.ref b, .int (Int32.ofNat o), .ref d, .int (Int32.ofNat q), .int (Int32.ofNat len)] 7)) (Tl.setTop (mkF m 12 #[.val (.ref b), .val (.int (Int32.ofNat (o + i))), .val (.ref d), .val (.int (Int32.ofNat (q + i))), .val (.int (Int32.ofNat len)), .val (.int (Int32.ofNat i)), z] [.int (Int32.ofNat (o + i)), .ref b])) := cl.trans (by
        refine XS.iload Xl.here hexec rfl (hb hbytes d3) rfl ?_
        refine XS.iload Xl.here hexec rfl (hb hbytes d5) rfl ?_
        refine XS.icmpNo Xl.here hexec rfl (hb hbytes d7) rfl (ii_ge_f (lt32 (by omega) (by omega))) ?_
        refine XS.aloadN Xl.here hexec rfl (hb hbytes d10) rfl rfl ?_
        refine XS.iloadN Xl.here hexec rfl (hb hbytes d11) rfl ?_
        exact Steps.refl _)
      have c4 : Steps p.tables e below (s₁.setTop (entryFrame m #[.ref b, .int (Int32.ofNat o), .ref d, .int (Int32.ofNat q), .int (Int32.ofNat len)] 7)) (Tl.setTop (mkF m 13 #[.val (.ref b), .val (.int (Int32.ofNat (o + i))), .val (.ref d), .val (.int (Int32.ofNat (q + i))), .val (.int (Int32.ofNat len)), .val (.int (Int32.ofNat i)), z] [.int (cv A (o + i))])) := c3.trans (by
        refine Xl.aget hexec hAl rfl (hA.get (i := o + i) (by omega)) rfl rfl (hb hbytes d12) ?_
        exact Steps.refl _)
      have c5 : Steps p.tables e below (s₁.setTop (entryFrame m #[.ref b, .int (Int32.ofNat o), .ref d, .int (Int32.ofNat q), .int (Int32.ofNat len)] 7)) (Tl.setTop (mkF m 15 #[.val (.ref b), .val (.int (Int32.ofNat (o + i))), .val (.ref d), .val (.int (Int32.ofNat (q + i))), .val (.int (Int32.ofNat len)), .val (.int (Int32.ofNat i)), .val (.int (cv A (o + i)))] [])) := c4.trans (by
        refine XS.istoreS Xl.here hexec rfl (hb hbytes d13) rfl rfl hz ?_
        exact Steps.refl _)
      have c6 : Steps p.tables e below (s₁.setTop (entryFrame m #[.ref b, .int (Int32.ofNat o), .ref d, .int (Int32.ofNat q), .int (Int32.ofNat len)] 7)) (Tl.setTop (mkF m 31 #[.val (.ref b), .val (.int (Int32.ofNat (o + i))), .val (.ref d), .val (.int (Int32.ofNat (q + i))), .val (.int (Int32.ofNat len)), .val (.int (Int32.ofNat i)), .val (.int (cv A (o + i)))] [.int (lo8 (cv A (o + i))), .int (Int32.ofNat (q + i)), .ref d])) := c5.trans (by
        refine XS.iload Xl.here hexec rfl (hb hbytes d15) rfl ?_
        refine sipushV Xl.here hexec rfl 255 (hb hbytes d17) (by decide) ?_
        refine XS.icmpYes Xl.here hexec rfl (pc0 := 20) rfl (hb hbytes d20) rfl (ii_le_t (hp i (by omega))) (by decide) rfl ?_
        refine XS.aloadN Xl.here hexec rfl (hb hbytes d26) rfl rfl ?_
        refine XS.iloadN Xl.here hexec rfl (hb hbytes d27) rfl ?_
        refine XS.iload Xl.here hexec rfl (hb hbytes d28) rfl ?_
        refine i2b Xl.here hexec rfl (hb hbytes d30) rfl ?_
        exact Steps.refl _)
      obtain ⟨T7, X7, p7, st7⟩ := Xl.aput hexec hBk rfl hlt rfl (fits_lo8 (cv A (o + i))) (g := (mkF m 31 #[.val (.ref b), .val (.int (Int32.ofNat (o + i))), .val (.ref d), .val (.int (Int32.ofNat (q + i))), .val (.int (Int32.ofNat len)), .val (.int (Int32.ofNat i)), .val (.int (cv A (o + i)))] [.int (lo8 (cv A (o + i))), .int (Int32.ofNat (q + i)), .ref d])) rfl (rest := []) rfl (hb hbytes d31)
      have c8 : Steps p.tables e below (s₁.setTop (entryFrame m #[.ref b, .int (Int32.ofNat o), .ref d, .int (Int32.ofNat q), .int (Int32.ofNat len)] 7)) (T7.setTop (mkF m 32 #[.val (.ref b), .val (.int (Int32.ofNat (o + i))), .val (.ref d), .val (.int (Int32.ofNat (q + i))), .val (.int (Int32.ofNat len)), .val (.int (Int32.ofNat i)), .val (.int (cv A (o + i)))] [])) := c6.trans (st7 _ (Steps.refl _))
      have c9 : Steps p.tables e below (s₁.setTop (entryFrame m #[.ref b, .int (Int32.ofNat o), .ref d, .int (Int32.ofNat q), .int (Int32.ofNat len)] 7)) (T7.setTop (mkF m 3 #[.val (.ref b), .val (.int (Int32.ofNat (o + i) + 1)), .val (.ref d), .val (.int (Int32.ofNat (q + i) + 1)), .val (.int (Int32.ofNat len)), .val (.int (Int32.ofNat i + 1)), .val (.int (cv A (o + i)))] [])) := c8.trans (by
        refine iincV X7.here hexec rfl 1 (hb hbytes d32) (by decide) rfl rfl ?_
        refine iincV X7.here hexec rfl 1 (hb hbytes d35) (by decide) rfl rfl ?_
        refine iincV X7.here hexec rfl 1 (hb hbytes d38) (by decide) rfl rfl ?_
        refine XS.goto X7.here hexec rfl (pc0 := 41) rfl (hb hbytes d41) (by decide) rfl ?_
        exact Steps.refl _)
      have c10 : Steps p.tables e below (s₁.setTop (entryFrame m #[.ref b, .int (Int32.ofNat o), .ref d, .int (Int32.ofNat q), .int (Int32.ofNat len)] 7)) (T7.setTop (mkF m 3 #[.val (.ref b), .val (.int (Int32.ofNat (o + (i + 1)))), .val (.ref d), .val (.int (Int32.ofNat (q + (i + 1)))), .val (.int (Int32.ofNat len)), .val (.int (Int32.ofNat (i + 1))), .val (.int (cv A (o + i)))] [])) := by
        have := c9
        rw [succ32, succ32, succ32] at this
        exact this
      exact ih (i + 1) (by omega) _ (Or.inr ⟨_, rfl, rfl⟩) T7 _ (by rw [copyLocs_step, ← List.append_assoc]; exact X7) (pl.trans p7) (fl.step (by omega) hlt (by simp)) c10
  obtain ⟨T9, B9, z9, X9, p9, f9, g9⟩ := loop len 0 (by omega) .unset (Or.inl rfl) s₁ B (by simpa [copyLocs] using X0) ⟨hB0.1, fun _ _ => rfl, rfl⟩ (Laid.zero _ _ _) c2
  have c11 : Steps p.tables e below (s₁.setTop (entryFrame m #[.ref b, .int (Int32.ofNat o), .ref d, .int (Int32.ofNat q), .int (Int32.ofNat len)] 7)) (T9.setTop (mkF m 46 #[.val (.ref b), .val (.int (Int32.ofNat (o + len))), .val (.ref d), .val (.int (Int32.ofNat (q + len))), .val (.int (Int32.ofNat len)), .val (.int (Int32.ofNat len)), z9] [.int (Int32.ofNat len)])) := g9.trans (by
    refine XS.iload X9.here hexec rfl (hb hbytes d3) rfl ?_
    refine XS.iload X9.here hexec rfl (hb hbytes d5) rfl ?_
    refine XS.icmpYes X9.here hexec rfl (pc0 := 7) rfl (hb hbytes d7) rfl (ii_ge_t (nlt32 (by omega) (Nat.le_refl _))) (by decide) rfl ?_
    refine XS.iload X9.here hexec rfl (hb hbytes d44) rfl ?_
    exact Steps.refl _)
  exact ⟨T9, some (.int (Int32.ofNat len)), _, _, _, X9, by simp, rfl, rfl, (fun h => by cases h), ⟨rfl, B9, p9.from hh0, f9⟩, fun fs hl => c11.trans (X9.ireturnOut hexec hret rfl (Or.inl rfl) (hb hbytes d46) hl)⟩
end Cmp5
namespace Cmp3
def yN : MethodName := ⟨"java/lang/StringUTF16", "compress", "([CII)[B"⟩
abbrev yB : ByteArray := jdk_52_method_16_code
theorem d0 : decode yB 0 = .ok (.iload_n 2, 1) := by decide +kernel
theorem d1 : decode yB 1 = .ok (.newarray .byte, 2) := by decide +kernel
theorem d3 : decode yB 3 = .ok (.astore_n 3, 1) := by decide +kernel
theorem d4 : decode yB 4 = .ok (.aload_n 0, 1) := by decide +kernel
theorem d5 : decode yB 5 = .ok (.iload_n 1, 1) := by decide +kernel
theorem d6 : decode yB 6 = .ok (.aload_n 3, 1) := by decide +kernel
theorem d7 : decode yB 7 = .ok (.iconst 0, 1) := by decide +kernel
theorem d8 : decode yB 8 = .ok (.iload_n 2, 1) := by decide +kernel
theorem d9 : decode yB 9 = .ok (.invokestatic 115, 3) := by decide +kernel
theorem d12 : decode yB 12 = .ok (.istore 4, 2) := by decide +kernel
theorem d14 : decode yB 14 = .ok (.iload 4, 2) := by decide +kernel
theorem d16 : decode yB 16 = .ok (.iload_n 2, 1) := by decide +kernel
theorem d17 : decode yB 17 = .ok (.if_icmp (.eq) 40, 3) := by decide +kernel
theorem d57 : decode yB 57 = .ok (.aload_n 3, 1) := by decide +kernel
theorem d58 : decode yB 58 = .ok (.areturn, 1) := by decide +kernel
def site : List Cond := [.arrayClass .byte, Cmp5.tab] ++ staticW U16 115 Cmp5.yN
def tab : Cond := tabOf yN yB 6 (some (.array .byte)) site
def P (b : Addr) (A : Cell) (o len : Nat) (args : Array Value) (s : State) : Prop := args = #[.ref b, .int (Int32.ofNat o), .int (Int32.ofNat len)] ∧ Ch b A s ∧ o + len ≤ A.slots.size ∧ len ≤ 536870912 ∧ ∀ i, i < len → ¬ 255 < cv A (o + i)
def E (b : Addr) (A : Cell) (o len : Nat) (r : Option Value) (s u : State) : Prop := NewArr .byte "[B" len (fun j => .int (lo8 (cv A (o + j)))) r s u ∧ u.heap.size = s.heap.size + 1
/-- no char of the range above 255: a new byte[] of their low bytes -/
theorem law (l : Launch) (b : Addr) (A : Cell) (o len : Nat) : Law l yN 3 3 1 18 yB 6 (some (.array .byte)) site (P b A o len) (E b A o len) [] 1 len := by
  refine Law.of_walk (plainFor_of_name (by decide +kernel)) (by decide +kernel) (by decide +kernel) (by decide) (fun _ _ h => by rw [h.1]; rfl) (fun _ U U' hal hh h => ⟨h.1, h.2.1.mv hal hh, h.2.2⟩) (fun r U U' V V' h1 hal h2 h => ⟨NewArr.mv r U U' V V' h1 hal h2 h.1, by rw [h1, h2]; exact h.2⟩) ?_
  intro p e s m args below meth c s₁ X0 hexec hbytes hml hret hlk hnm hown hh0 W hP
  obtain ⟨rfl, hA, l1, l2, hp⟩ := hP
  have a31 := hA.1.2.2.2
  have c1 : Steps p.tables e below (s₁.setTop (entryFrame m #[.ref b, .int (Int32.ofNat o), .int (Int32.ofNat len)] 6)) (s₁.setTop (mkF m 0 #[.val (.ref b), .val (.int (Int32.ofNat o)), .val (.int (Int32.ofNat len)), .unset, .unset, .unset] [])) := entry rfl
  have c2 : Steps p.tables e below (s₁.setTop (entryFrame m #[.ref b, .int (Int32.ofNat o), .int (Int32.ofNat len)] 6)) (s₁.setTop (mkF m 1 #[.val (.ref b), .val (.int (Int32.ofNat o)), .val (.int (Int32.ofNat len)), .unset, .unset, .unset] [.int (Int32.ofNat len)])) := c1.trans (by
    refine XS.iloadN X0.here hexec rfl (hb hbytes d0) rfl ?_
    exact Steps.refl _)
  obtain ⟨T3, B3, X3, ba3, bs3, bv3, bh3, bf3, st3⟩ := X0.anew hexec (atype := .byte) (wk W (.arrayClass .byte)) rfl (by show len * 1 ≤ _; omega) (by omega) (g := (mkF m 1 #[.val (.ref b), .val (.int (Int32.ofNat o)), .val (.int (Int32.ofNat len)), .unset, .unset, .unset] [.int (Int32.ofNat len)])) rfl (hb hbytes d1) (rest := []) rfl (Nat.le_refl _) (by show 0 + len ≤ len; omega)
  rw [hh0] at ba3 st3
  have kp3 : XT.Kept s T3 := (XT.Kept.of_eq hh0).push bh3
  have hA3 := hA.keep X3.warmed.alike (kp3 _ _ hA.1.1)
  have hne : b ≠ s.heap.size := hA.1.ne
  have c4 : Steps p.tables e below (s₁.setTop (entryFrame m #[.ref b, .int (Int32.ofNat o), .int (Int32.ofNat len)] 6)) (T3.setTop (mkF m 3 #[.val (.ref b), .val (.int (Int32.ofNat o)), .val (.int (Int32.ofNat len)), .unset, .unset, .unset] [.ref s.heap.size])) := c2.trans (st3 _ (Steps.refl _))
  have c5 : Steps p.tables e below (s₁.setTop (entryFrame m #[.ref b, .int (Int32.ofNat o), .int (Int32.ofNat len)] 6)) (T3.setTop (mkF m 9 #[.val (.ref b), .val (.int (Int32.ofNat o)), .val (.int (Int32.ofNat len)), .val (.ref s.heap.size), .unset, .unset] [.int (Int32.ofNat len), .int 0, .ref s.heap.size, .int (Int32.ofNat o), .ref b])) := c4.trans (by
    refine XS.astoreN X3.here hexec rfl (hb hbytes d3) rfl rfl rfl ?_
    refine XS.aloadN X3.here hexec rfl (hb hbytes d4) rfl rfl ?_
    refine XS.iloadN X3.here hexec rfl (hb hbytes d5) rfl ?_
    refine XS.aloadN X3.here hexec rfl (hb hbytes d6) rfl rfl ?_
    refine iconstV X3.here hexec rfl 0 (hb hbytes d7) (by decide) ?_
    refine XS.iloadN X3.here hexec rfl (hb hbytes d8) rfl ?_
    exact Steps.refl _)
  obtain ⟨v6, T6, X6, E6, g6⟩ := X3.callS hexec (Cmp5.law l b A s.heap.size B3 o 0 len) hown (wks W (staticW U16 115 Cmp5.yN)) (wk W Cmp5.tab) (W := 0) (Nat.le_of_ble_eq_true rfl) (Nat.le_of_ble_eq_true rfl) (Nat.le_refl _) (by show 0 + len + 0 ≤ len; omega) (g := (mkF m 9 #[.val (.ref b), .val (.int (Int32.ofNat o)), .val (.int (Int32.ofNat len)), .val (.ref s.heap.size), .unset, .unset] [.int (Int32.ofNat len), .int (Int32.ofNat 0), .ref s.heap.size, .int (Int32.ofNat o), .ref b])) rfl (by rw [hml]; rfl) c5 (argsL := [.ref b, .int (Int32.ofNat o), .ref s.heap.size, .int (Int32.ofNat 0), .int (Int32.ofNat len)]) (rest := []) rfl rfl (by show 2 * 0 + 0 ≤ _; decide) (hb hbytes d9) (⟨rfl, hA3, ba3, hne, l1, by rw [bs3]; simp, hp⟩)
  obtain ⟨rfl, B6, p6, f6⟩ := E6
  have c7 : Steps p.tables e below (s₁.setTop (entryFrame m #[.ref b, .int (Int32.ofNat o), .int (Int32.ofNat len)] 6)) (T6.setTop (mkF m 12 #[.val (.ref b), .val (.int (Int32.ofNat o)), .val (.int (Int32.ofNat len)), .val (.ref s.heap.size), .unset, .unset] [.int (Int32.ofNat len)])) := g6
  have c8 : Steps p.tables e below (s₁.setTop (entryFrame m #[.ref b, .int (Int32.ofNat o), .int (Int32.ofNat len)] 6)) (T6.setTop (mkF m 58 #[.val (.ref b), .val (.int (Int32.ofNat o)), .val (.int (Int32.ofNat len)), .val (.ref s.heap.size), .val (.int (Int32.ofNat len)), .unset] [.ref s.heap.size])) := c7.trans (by
    refine XS.istore X6.here hexec rfl (hb hbytes d12) rfl rfl ?_
    refine XS.iload X6.here hexec rfl (hb hbytes d14) rfl ?_
    refine XS.iloadN X6.here hexec rfl (hb hbytes d16) rfl ?_
    refine XS.icmpYes X6.here hexec rfl (pc0 := 17) rfl (hb hbytes d17) rfl (ii_eq_t rfl) (by decide) rfl ?_
    refine XS.aloadN X6.here hexec rfl (hb hbytes d57) rfl rfl ?_
    exact Steps.refl _)
  have X8 := X6.wide (L' := []) (cells' := 1) (slots' := len) (fun x hx hlt => by
    simp only [List.nil_append, copyLocs, List.mem_map, List.mem_range] at hx
    obtain ⟨i, -, rfl⟩ := hx
    exact absurd hlt (Nat.lt_irrefl _)) (Nat.le_refl _) (by omega)
  exact ⟨T6, some (.ref s.heap.size), _, _, _, X8, rfl, rfl, rfl, (fun h => by cases h), ⟨⟨rfl, B6, ba3.like (X3.warmed.alike.symm.trans X6.warmed.alike) p6.1 f6.1 f6.2.1 f6.2.2.1, f6.2.1.trans bv3, by rw [X6.warmed.alike.findClass, f6.1]; exact bf3, by rw [f6.2.2.1, bs3]; simp, fun j hj => by rw [f6.2.2.2 j, if_pos (by omega)]; rfl, kp3.put p6 (Nat.le_refl _)⟩, by rw [p6.2.2, bh3, hh0]; simp⟩, fun fs hl => c8.trans (X8.areturnOut hexec rfl hret rfl (hb hbytes d58) hl)⟩
end Cmp3
namespace CodL
def yN : MethodName := ⟨"java/lang/StringUTF16", "coderFromArrayLen", "([BI)B"⟩
abbrev yB : ByteArray := jdk_52_method_15_code
theorem d0 : decode yB 0 = .ok (.iload_n 1, 1) := by decide +kernel
theorem d1 : decode yB 1 = .ok (.aload_n 0, 1) := by decide +kernel
theorem d2 : decode yB 2 = .ok (.arraylength, 1) := by decide +kernel
theorem d3 : decode yB 3 = .ok (.isub, 1) := by decide +kernel
theorem d4 : decode yB 4 = .ok (.bipush 31, 2) := by decide +kernel
theorem d6 : decode yB 6 = .ok (.iushr, 1) := by decide +kernel
theorem d7 : decode yB 7 = .ok (.i2b, 1) := by decide +kernel
theorem d8 : decode yB 8 = .ok (.ireturn, 1) := by decide +kernel
def site : List Cond := []
def tab : Cond := tabOf yN yB 2 (some .byte) site
def P (d : Addr) (B : Cell) (args : Array Value) (s : State) : Prop := args = #[.ref d, .int (Int32.ofNat B.slots.size)] ∧ Arr .byte d B s
def E (r : Option Value) (s u : State) : Prop := XT.PureE (some (.int 0)) r s u
/-- an array as long as the number of chars: LATIN1 -/
theorem law (l : Launch) (d : Addr) (B : Cell) : Law l yN 2 2 0 0 yB 2 (some .byte) site (P d B) E [] 0 0 := by
  refine Law.of_walk (plainFor_of_name (by decide +kernel)) (by decide +kernel) (by decide +kernel) (by decide) (fun _ _ h => by rw [h.1]; rfl) (fun _ U U' hal hh h => ⟨h.1, h.2.mv hal hh⟩) (fun r U U' V V' h1 hal h2 h => XT.PureE.mv r U U' V V' h1 hal h2 h) ?_
  intro p e s m args below meth c s₁ X0 hexec hbytes hml hret hlk hnm hown hh0 W hP
  obtain ⟨rfl, hB⟩ := hP
  have hB0 := hB.mv X0.warmed.alike hh0
  have c1 : Steps p.tables e below (s₁.setTop (entryFrame m #[.ref d, .int (Int32.ofNat B.slots.size)] 2)) (s₁.setTop (mkF m 0 #[.val (.ref d), .val (.int (Int32.ofNat B.slots.size))] [])) := entry rfl
  have c2 : Steps p.tables e below (s₁.setTop (entryFrame m #[.ref d, .int (Int32.ofNat B.slots.size)] 2)) (s₁.setTop (mkF m 2 #[.val (.ref d), .val (.int (Int32.ofNat B.slots.size))] [.ref d, .int (Int32.ofNat B.slots.size)])) := c1.trans (by
    refine XS.iloadN X0.here hexec rfl (hb hbytes d0) rfl ?_
    refine XS.aloadN X0.here hexec rfl (hb hbytes d1) rfl rfl ?_
    exact Steps.refl _)
  have c3 : Steps p.tables e below (s₁.setTop (entryFrame m #[.ref d, .int (Int32.ofNat B.slots.size)] 2)) (s₁.setTop (mkF m 8 #[.val (.ref d), .val (.int (Int32.ofNat B.slots.size))] [.int (lo8 (ushr (Int32.ofNat B.slots.size - Int32.ofNat B.slots.size) 31))])) := c2.trans (by
    refine X0.alen hexec hB0 rfl rfl (hb hbytes d2) ?_
    refine XS.isub X0.here hexec rfl (hb hbytes d3) rfl ?_
    refine bipushV X0.here hexec rfl 31 (hb hbytes d4) (by decide) ?_
    refine iushr X0.here hexec rfl (hb hbytes d6) rfl ?_
    refine i2b X0.here hexec rfl (hb hbytes d7) rfl ?_
    exact Steps.refl _)
  have e0 : lo8 (ushr (Int32.ofNat B.slots.size - Int32.ofNat B.slots.size) 31) = 0 := by rw [Int32.sub_self]; decide
  rw [e0] at c3
  exact ⟨s₁, some (.int 0), _, _, _, X0, rfl, rfl, rfl, (fun h => by cases h), ⟨rfl, hh0⟩, fun fs hl => c3.trans (X0.ireturnOut hexec hret rfl (Or.inr (Or.inr (Or.inl rfl))) (hb hbytes d8) hl)⟩
end CodL
/-- the String at a is Latin-1 over a new byte[] (the heap's one new cell): the low bytes of the len chars of A from o on; every cell but a is kept -/
def Got (a : Addr) (D : Cell) (fV fC : Field) (A : Cell) (o len : Nat) (r : Option Value) (s u : State) : Prop := r = none ∧ ∃ D' V : Cell, Blank "java/lang/String" a D' u ∧ Same D D' [fV.slot, fC.slot] ∧ D'.slots[fV.slot]? = some (.ref s.heap.size) ∧ D'.slots[fC.slot]? = some (.int 0) ∧ Arr .byte s.heap.size V u ∧ V.vm = .none ∧ u.vm.findClass "[B" = some V.cls ∧ V.slots.size = len ∧ (∀ j, j < len → V.slots[j]? = some (.int (lo8 (cv A (o + j))))) ∧ (∀ (y : Addr) (c : Cell), y ≠ a → s.heap[y]? = some c → u.heap[y]? = some c) ∧ u.heap.size = s.heap.size + 1
theorem Got.mv {a : Addr} {D A : Cell} {fV fC : Field} {o len : Nat} : ∀ r (U U' V V' : State), U'.heap = U.heap → V.vm.Alike V'.vm → V'.heap = V.heap → Got a D fV fC A o len r U V → Got a D fV fC A o len r U' V' :=
  fun r U U' V V' h1 hal h2 ⟨e0, D', X, a1, a2, a3, a4, a5, a6, a7, a8, a9, a10, a11⟩ => ⟨e0, D', X, a1.mv hal h2, a2, by rw [h1]; exact a3, a4, by rw [h1]; exact a5.mv hal h2, a6, by rw [hal.findClass]; exact a7, a8, a9, by rw [h1, h2]; exact a10, by rw [h1, h2]; exact a11⟩
namespace New4
def yN : MethodName := ⟨"java/lang/String", "<init>", "([CIILjava/lang/Void;)V"⟩
abbrev yB : ByteArray := jdk_42_method_149_code
theorem d0 : decode yB 0 = .ok (.aload_n 0, 1) := by decide +kernel
theorem d1 : decode yB 1 = .ok (.invokespecial 1, 3) := by decide +kernel
theorem d4 : decode yB 4 = .ok (.iload_n 3, 1) := by decide +kernel
theorem d5 : decode yB 5 = .ok (.ifCond (.ne) 22, 3) := by decide +kernel
theorem d27 : decode yB 27 = .ok (.getstatic 38, 3) := by decide +kernel
theorem d30 : decode yB 30 = .ok (.ifCond (.eq) 28, 3) := by decide +kernel
theorem d33 : decode yB 33 = .ok (.aload_n 1, 1) := by decide +kernel
theorem d34 : decode yB 34 = .ok (.iload_n 2, 1) := by decide +kernel
theorem d35 : decode yB 35 = .ok (.iload_n 3, 1) := by decide +kernel
theorem d36 : decode yB 36 = .ok (.invokestatic 177, 3) := by decide +kernel
theorem d39 : decode yB 39 = .ok (.astore 5, 2) := by decide +kernel
theorem d41 : decode yB 41 = .ok (.aload_n 0, 1) := by decide +kernel
theorem d42 : decode yB 42 = .ok (.aload 5, 2) := by decide +kernel
theorem d44 : decode yB 44 = .ok (.iload_n 3, 1) := by decide +kernel
theorem d45 : decode yB 45 = .ok (.invokestatic 47, 3) := by decide +kernel
theorem d48 : decode yB 48 = .ok (.putfield 15, 3) := by decide +kernel
theorem d51 : decode yB 51 = .ok (.aload_n 0, 1) := by decide +kernel
theorem d52 : decode yB 52 = .ok (.aload 5, 2) := by decide +kernel
theorem d54 : decode yB 54 = .ok (.putfield 9, 3) := by decide +kernel
theorem d57 : decode yB 57 = .ok (.return_, 1) := by decide +kernel
def site : List Cond := [.fieldLink "java/lang/String" 38 "java/lang/String" "COMPACT_STRINGS" "Z", Cmp3.tab, CodL.tab, .laysFinal "java/lang/String" "java/lang/String" "value" "[B", .fieldLink "java/lang/String" 9 "java/lang/String" "value" "[B", .laysFinal "java/lang/String" "java/lang/String" "coder" "B", .fieldLink "java/lang/String" 15 "java/lang/String" "coder" "B"] ++ objW "java/lang/String" 1 ++ staticW "java/lang/String" 177 Cmp3.yN ++ staticW "java/lang/String" 47 CodL.yN
def tab : Cond := tabOf yN yB 6 none site
def P (a : Addr) (D : Cell) (fV fC : Field) (b : Addr) (A : Cell) (z : Int32) (o len : Nat) (args : Array Value) (s : State) : Prop := args = #[.ref a, .ref b, .int (Int32.ofNat o), .int (Int32.ofNat len), .null] ∧ Blank "java/lang/String" a D s ∧ Found "java/lang/String" "value" "[B" fV s ∧ Found "java/lang/String" "coder" "B" fC s ∧ Ch b A s ∧ StaticIs s "java/lang/String" "COMPACT_STRINGS" "Z" (.int z) ∧ ¬ z = 0 ∧ 0 < len ∧ o + len ≤ A.slots.size ∧ len ≤ 536870912 ∧ ∀ i, i < len → ¬ 255 < cv A (o + i)
def E (a : Addr) (D : Cell) (fV fC : Field) (A : Cell) (o len : Nat) (r : Option Value) (s u : State) : Prop := Got a D fV fC A o len r s u
/-- len > 0, no char of the range above 255: a Latin-1 String of their low bytes -/
theorem law (l : Launch) (a : Addr) (D : Cell) (fV fC : Field) (b : Addr) (A : Cell) (z : Int32) (o len : Nat) : Law l yN 5 4 2 35 yB 6 none site (P a D fV fC b A z o len) (E a D fV fC A o len) [⟨a, fC.slot⟩, ⟨a, fV.slot⟩] 1 len := by
  refine Law.of_walk (plainFor_of_name (by decide +kernel)) (by decide +kernel) (by decide +kernel) (by decide) (fun _ _ h => by rw [h.1]; rfl) (fun _ U U' hal hh h => ⟨h.1, h.2.1.mv hal hh, h.2.2.1.al hal, h.2.2.2.1.al hal, h.2.2.2.2.1.mv hal hh, h.2.2.2.2.2.1.there hal hh, h.2.2.2.2.2.2⟩) (fun r U U' V V' h1 hal h2 h => Got.mv r U U' V V' h1 hal h2 h) ?_
  intro p e s m args below meth c s₁ X0 hexec hbytes hml hret hlk hnm hown hh0 W hP
  obtain ⟨rfl, hB, f1, f2, hA, s1, hz, l0, l1, l2, hp⟩ := hP
  have a31 := hA.1.2.2.2
  have c1 : Steps p.tables e below (s₁.setTop (entryFrame m #[.ref a, .ref b, .int (Int32.ofNat o), .int (Int32.ofNat len), .null] 6)) (s₁.setTop (mkF m 0 #[.val (.ref a), .val (.ref b), .val (.int (Int32.ofNat o)), .val (.int (Int32.ofNat len)), .val .null, .unset] [])) := entry rfl
  have c2 : Steps p.tables e below (s₁.setTop (entryFrame m #[.ref a, .ref b, .int (Int32.ofNat o), .int (Int32.ofNat len), .null] 6)) (s₁.setTop (mkF m 1 #[.val (.ref a), .val (.ref b), .val (.int (Int32.ofNat o)), .val (.int (Int32.ofNat len)), .val .null, .unset] [.ref a])) := c1.trans (by
    refine XS.aloadN X0.here hexec rfl (hb hbytes d0) rfl rfl ?_
    exact Steps.refl _)
  obtain ⟨T3, X3, q3, st3⟩ := X0.oinit hexec hown (wks W (objW "java/lang/String" 1)) (g := (mkF m 1 #[.val (.ref a), .val (.ref b), .val (.int (Int32.ofNat o)), .val (.int (Int32.ofNat len)), .val .null, .unset] [.ref a])) rfl (by rw [hml]; rfl) (rest := []) rfl (hb hbytes d1) (W := 0) (by show 2 * 0 + 0 ≤ _; decide) (Nat.le_of_ble_eq_true rfl) (Nat.le_of_ble_eq_true rfl)
  have hh3 := q3.trans hh0
  have c4 : Steps p.tables e below (s₁.setTop (entryFrame m #[.ref a, .ref b, .int (Int32.ofNat o), .int (Int32.ofNat len), .null] 6)) (T3.setTop (mkF m 27 #[.val (.ref a), .val (.ref b), .val (.int (Int32.ofNat o)), .val (.int (Int32.ofNat len)), .val .null, .unset] [])) := (c2.trans (st3 _ (Steps.refl _))).trans (by
    refine XS.iloadN X3.here hexec rfl (hb hbytes d4) rfl ?_
    refine XS.ifYes X3.here hexec rfl (pc0 := 5) rfl (hb hbytes d5) rfl (i0_ne_t (nz32 (by omega) l0)) (by decide) rfl ?_
    exact Steps.refl _)
  obtain ⟨T5, X5, q5, st5⟩ := X3.sget hexec hown (wk W (.fieldLink "java/lang/String" 38 "java/lang/String" "COMPACT_STRINGS" "Z")) s1 (fun _ _ h => by rw [hh3]; exact h) (g := (mkF m 27 #[.val (.ref a), .val (.ref b), .val (.int (Int32.ofNat o)), .val (.int (Int32.ofNat len)), .val .null, .unset] [])) rfl (hb hbytes d27)
  have hh5 := q5.trans hh3
  have c6 : Steps p.tables e below (s₁.setTop (entryFrame m #[.ref a, .ref b, .int (Int32.ofNat o), .int (Int32.ofNat len), .null] 6)) (T5.setTop (mkF m 30 #[.val (.ref a), .val (.ref b), .val (.int (Int32.ofNat o)), .val (.int (Int32.ofNat len)), .val .null, .unset] [.int z])) := c4.trans (st5 _ (Steps.refl _))
  have c7 : Steps p.tables e below (s₁.setTop (entryFrame m #[.ref a, .ref b, .int (Int32.ofNat o), .int (Int32.ofNat len), .null] 6)) (T5.setTop (mkF m 36 #[.val (.ref a), .val (.ref b), .val (.int (Int32.ofNat o)), .val (.int (Int32.ofNat len)), .val .null, .unset] [.int (Int32.ofNat len), .int (Int32.ofNat o), .ref b])) := c6.trans (by
    refine XS.ifNo X5.here hexec rfl (hb hbytes d30) rfl (i0_eq_f hz) ?_
    refine XS.aloadN X5.here hexec rfl (hb hbytes d33) rfl rfl ?_
    refine XS.iloadN X5.here hexec rfl (hb hbytes d34) rfl ?_
    refine XS.iloadN X5.here hexec rfl (hb hbytes d35) rfl ?_
    exact Steps.refl _)
  obtain ⟨v8, T8, X8, E8, g8⟩ := X5.callS hexec (Cmp3.law l b A o len) hown (wks W (staticW "java/lang/String" 177 Cmp3.yN)) (wk W Cmp3.tab) (W := 0) (Nat.le_of_ble_eq_true rfl) (Nat.le_of_ble_eq_true rfl) (Nat.le_refl _) (by show 0 + len ≤ len; omega) (g := (mkF m 36 #[.val (.ref a), .val (.ref b), .val (.int (Int32.ofNat o)), .val (.int (Int32.ofNat len)), .val .null, .unset] [.int (Int32.ofNat len), .int (Int32.ofNat o), .ref b])) rfl (by rw [hml]; rfl) c7 (argsL := [.ref b, .int (Int32.ofNat o), .int (Int32.ofNat len)]) (rest := []) rfl rfl (by show 2 * 0 + 0 ≤ _; decide) (hb hbytes d36) (⟨rfl, hA.mv X5.warmed.alike hh5, l1, l2, hp⟩)
  obtain ⟨e8, z8⟩ := E8
  obtain ⟨rfl, N, n1, n2, n3, n4, n5, n6⟩ := NewArr.mv _ T5 s _ _ hh5.symm (Vm.Alike.refl _) rfl e8
  rw [hh5] at z8
  have hB1 := hB.keep X8.warmed.alike (n6 _ _ hB.1)
  have hne : s.heap.size ≠ a := (Nat.ne_of_lt (Array.getElem?_eq_some_iff.mp hB.1).1).symm
  have c9 : Steps p.tables e below (s₁.setTop (entryFrame m #[.ref a, .ref b, .int (Int32.ofNat o), .int (Int32.ofNat len), .null] 6)) (T8.setTop (mkF m 39 #[.val (.ref a), .val (.ref b), .val (.int (Int32.ofNat o)), .val (.int (Int32.ofNat len)), .val .null, .unset] [.ref s.heap.size])) := g8
  have c10 : Steps p.tables e below (s₁.setTop (entryFrame m #[.ref a, .ref b, .int (Int32.ofNat o), .int (Int32.ofNat len), .null] 6)) (T8.setTop (mkF m 45 #[.val (.ref a), .val (.ref b), .val (.int (Int32.ofNat o)), .val (.int (Int32.ofNat len)), .val .null, .val (.ref s.heap.size)] [.int (Int32.ofNat N.slots.size), .ref s.heap.size, .ref a])) := by
    have hc : Steps p.tables e below (s₁.setTop (entryFrame m #[.ref a, .ref b, .int (Int32.ofNat o), .int (Int32.ofNat len), .null] 6)) (T8.setTop (mkF m 45 #[.val (.ref a), .val (.ref b), .val (.int (Int32.ofNat o)), .val (.int (Int32.ofNat len)), .val .null, .val (.ref s.heap.size)] [.int (Int32.ofNat len), .ref s.heap.size, .ref a])) := c9.trans (by
      refine XS.astore X8.here hexec rfl (hb hbytes d39) rfl rfl rfl ?_
      refine XS.aloadN X8.here hexec rfl (hb hbytes d41) rfl rfl ?_
      refine XS.aload X8.here hexec rfl (hb hbytes d42) rfl rfl ?_
      refine XS.iloadN X8.here hexec rfl (hb hbytes d44) rfl ?_
      exact Steps.refl _)
    rw [n4]; exact hc
  obtain ⟨v11, T11, X11, E11, g11⟩ := X8.callS hexec (CodL.law l s.heap.size N) hown (wks W (staticW "java/lang/String" 47 CodL.yN)) (wk W CodL.tab) (W := 1) (Nat.le_of_ble_eq_true rfl) (Nat.le_of_ble_eq_true rfl) (Nat.le_refl _) (by show 0 + len + 0 ≤ len; omega) (g := (mkF m 45 #[.val (.ref a), .val (.ref b), .val (.int (Int32.ofNat o)), .val (.int (Int32.ofNat len)), .val .null, .val (.ref s.heap.size)] [.int (Int32.ofNat N.slots.size), .ref s.heap.size, .ref a])) rfl (by rw [hml]; rfl) c10 (argsL := [.ref s.heap.size, .int (Int32.ofNat N.slots.size)]) (rest := [.ref a]) rfl rfl (by show 2 * 0 + (1 + 0) ≤ _; decide) (hb hbytes d45) (⟨rfl, n1⟩)
  obtain ⟨rfl, q11⟩ := E11
  have hB11 := hB1.mv (X8.warmed.alike.symm.trans X11.warmed.alike) q11
  have c12 : Steps p.tables e below (s₁.setTop (entryFrame m #[.ref a, .ref b, .int (Int32.ofNat o), .int (Int32.ofNat len), .null] 6)) (T11.setTop (mkF m 48 #[.val (.ref a), .val (.ref b), .val (.int (Int32.ofNat o)), .val (.int (Int32.ofNat len)), .val .null, .val (.ref s.heap.size)] [.int 0, .ref a])) := g11
  obtain ⟨T13, X13, p13, bl13, sl13, st13⟩ := X11.finit hexec hown (wk W (.fieldLink "java/lang/String" 15 "java/lang/String" "coder" "B")) (Or.inr ⟨_, (wk W (.laysFinal "java/lang/String" "java/lang/String" "coder" "B"))⟩) (Or.inl ⟨rfl, hnm⟩) f2 (Or.inl rfl) hB11 (t := .byte) (by decide +kernel) rfl (g := (mkF m 48 #[.val (.ref a), .val (.ref b), .val (.int (Int32.ofNat o)), .val (.int (Int32.ofNat len)), .val .null, .val (.ref s.heap.size)] [.int 0, .ref a])) rfl (rest := []) rfl (hb hbytes d48)
  have c14 : Steps p.tables e below (s₁.setTop (entryFrame m #[.ref a, .ref b, .int (Int32.ofNat o), .int (Int32.ofNat len), .null] 6)) (T13.setTop (mkF m 54 #[.val (.ref a), .val (.ref b), .val (.int (Int32.ofNat o)), .val (.int (Int32.ofNat len)), .val .null, .val (.ref s.heap.size)] [.ref s.heap.size, .ref a])) := (c12.trans (st13 _ (Steps.refl _))).trans (by
    refine XS.aloadN X13.here hexec rfl (hb hbytes d51) rfl rfl ?_
    refine XS.aload X13.here hexec rfl (hb hbytes d52) rfl rfl ?_
    exact Steps.refl _)
  obtain ⟨T15, X15, p15, bl15, sl15, st15⟩ := X13.finit hexec hown (wk W (.fieldLink "java/lang/String" 9 "java/lang/String" "value" "[B")) (Or.inr ⟨_, (wk W (.laysFinal "java/lang/String" "java/lang/String" "value" "[B"))⟩) (Or.inl ⟨rfl, hnm⟩) f1 (Or.inl rfl) bl13 (t := (.array .byte)) (by decide +kernel) rfl (g := (mkF m 54 #[.val (.ref a), .val (.ref b), .val (.int (Int32.ofNat o)), .val (.int (Int32.ofNat len)), .val .null, .val (.ref s.heap.size)] [.ref s.heap.size, .ref a])) rfl (rest := []) rfl (hb hbytes d54)
  have c16 : Steps p.tables e below (s₁.setTop (entryFrame m #[.ref a, .ref b, .int (Int32.ofNat o), .int (Int32.ofNat len), .null] 6)) (T15.setTop (mkF m 57 #[.val (.ref a), .val (.ref b), .val (.int (Int32.ofNat o)), .val (.int (Int32.ofNat len)), .val .null, .val (.ref s.heap.size)] [])) := c14.trans (st15 _ (Steps.refl _))
  have ap := apart (Or.inr ⟨_, (wk W (.laysFinal "java/lang/String" "java/lang/String" "value" "[B"))⟩) (Or.inr ⟨_, (wk W (.laysFinal "java/lang/String" "java/lang/String" "coder" "B"))⟩) f1 f2 (t₁ := .array .byte) (t₂ := .byte) (by decide +kernel) (by decide +kernel) (by decide)
  have al := X8.warmed.alike.symm.trans X15.warmed.alike
  have n7 : T11.heap[s.heap.size]? = some N := by rw [q11]; exact n1.1
  exact ⟨T15, none, _, _, _, X15, by simp, rfl, by omega, (fun _ => rfl), ⟨rfl, _, N, bl15, ((Same.refl D _).set _ (by simp)).set _ (by simp), sl15, (Cell.slots_setSlot_ne _ ap).trans sl13, n1.keep al (p15.other hne (p13.other hne n7)), n2, by rw [al.findClass]; exact n3, n4, n5, fun y c h1 h2 => p15.other h1 (p13.other h1 (by rw [q11]; exact n6 y c h2)), by rw [p15.2.2, p13.2.2, q11]; exact z8⟩, fun fs hl => c16.trans (X15.returnOut hexec hret (hb hbytes d57) hl)⟩
end New4
namespace New1
def yN : MethodName := ⟨"java/lang/String", "<init>", "([C)V"⟩
abbrev yB : ByteArray := jdk_42_method_3_code
theorem d0 : decode yB 0 = .ok (.aload_n 0, 1) := by decide +kernel
theorem d1 : decode yB 1 = .ok (.aload_n 1, 1) := by decide +kernel
theorem d2 : decode yB 2 = .ok (.iconst 0, 1) := by decide +kernel
theorem d3 : decode yB 3 = .ok (.aload_n 1, 1) := by decide +kernel
theorem d4 : decode yB 4 = .ok (.arraylength, 1) := by decide +kernel
theorem d5 : decode yB 5 = .ok (.aconst_null, 1) := by decide +kernel
theorem d6 : decode yB 6 = .ok (.invokespecial 27, 3) := by decide +kernel
theorem d9 : decode yB 9 = .ok (.return_, 1) := by decide +kernel
def site : List Cond := [New4.tab] ++ initW "java/lang/String" 27 New4.yN
def tab : Cond := tabOf yN yB 2 none site
def P (a : Addr) (D : Cell) (fV fC : Field) (b : Addr) (A : Cell) (z : Int32) (args : Array Value) (s : State) : Prop := args = #[.ref a, .ref b] ∧ Blank "java/lang/String" a D s ∧ Found "java/lang/String" "value" "[B" fV s ∧ Found "java/lang/String" "coder" "B" fC s ∧ Ch b A s ∧ StaticIs s "java/lang/String" "COMPACT_STRINGS" "Z" (.int z) ∧ ¬ z = 0 ∧ 0 < A.slots.size ∧ A.slots.size ≤ 536870912 ∧ ∀ i, i < A.slots.size → ¬ 255 < cv A i
def E (a : Addr) (D : Cell) (fV fC : Field) (A : Cell) (r : Option Value) (s u : State) : Prop := Got a D fV fC A 0 A.slots.size r s u
/-- new String(chars), not empty, no char above 255: a Latin-1 String of their low bytes -/
theorem law (l : Launch) (a : Addr) (D : Cell) (fV fC : Field) (b : Addr) (A : Cell) (z : Int32) : Law l yN 2 1 3 52 yB 2 none site (P a D fV fC b A z) (E a D fV fC A) [⟨a, fC.slot⟩, ⟨a, fV.slot⟩] 1 A.slots.size := by
  refine Law.of_walk (plainFor_of_name (by decide +kernel)) (by decide +kernel) (by decide +kernel) (by decide) (fun _ _ h => by rw [h.1]; rfl) (fun _ U U' hal hh h => ⟨h.1, h.2.1.mv hal hh, h.2.2.1.al hal, h.2.2.2.1.al hal, h.2.2.2.2.1.mv hal hh, h.2.2.2.2.2.1.there hal hh, h.2.2.2.2.2.2⟩) (fun r U U' V V' h1 hal h2 h => Got.mv r U U' V V' h1 hal h2 h) ?_
  intro p e s m args below meth c s₁ X0 hexec hbytes hml hret hlk hnm hown hh0 W hP
  obtain ⟨rfl, hB, f1, f2, hA, s1, hz, l0, l2, hp⟩ := hP
  have c1 : Steps p.tables e below (s₁.setTop (entryFrame m #[.ref a, .ref b] 2)) (s₁.setTop (mkF m 0 #[.val (.ref a), .val (.ref b)] [])) := entry rfl
  have c2 : Steps p.tables e below (s₁.setTop (entryFrame m #[.ref a, .ref b] 2)) (s₁.setTop (mkF m 6 #[.val (.ref a), .val (.ref b)] [.null, .int (Int32.ofNat A.slots.size), .int 0, .ref b, .ref a])) := c1.trans (by
    refine XS.aloadN X0.here hexec rfl (hb hbytes d0) rfl rfl ?_
    refine XS.aloadN X0.here hexec rfl (hb hbytes d1) rfl rfl ?_
    refine iconstV X0.here hexec rfl 0 (hb hbytes d2) (by decide) ?_
    refine XS.aloadN X0.here hexec rfl (hb hbytes d3) rfl rfl ?_
    refine X0.alen hexec (hA.1.mv X0.warmed.alike hh0) rfl rfl (hb hbytes d4) ?_
    refine XS.aconstNull X0.here hexec rfl (hb hbytes d5) ?_
    exact Steps.refl _)
  obtain ⟨v3, T3, X3, E3, g3⟩ := X0.callN hexec (New4.law l a D fV fC b A z 0 A.slots.size) rfl hown (wks W (initW "java/lang/String" 27 New4.yN)) (W New4.tab (by simp only [site, List.mem_cons, List.mem_append, true_or, or_true])) (W := 0) (Nat.le_of_ble_eq_true rfl) (Nat.le_of_ble_eq_true rfl) (Nat.le_refl _) (by show 0 + A.slots.size ≤ A.slots.size; omega) (g := (mkF m 6 #[.val (.ref a), .val (.ref b)] [.null, .int (Int32.ofNat A.slots.size), .int (Int32.ofNat 0), .ref b, .ref a])) rfl (by rw [hml]; rfl) c2 (argsL := [.ref b, .int (Int32.ofNat 0), .int (Int32.ofNat A.slots.size), .null]) (rest := []) rfl rfl (by show 2 * 0 + 0 ≤ _; decide) (hb hbytes d6) (⟨rfl, hB.mv X0.warmed.alike hh0, f1.al X0.warmed.alike, f2.al X0.warmed.alike, hA.mv X0.warmed.alike hh0, s1.there X0.warmed.alike hh0, hz, l0, by omega, l2, fun i hi => by rw [Nat.zero_add]; exact hp i hi⟩)
  have e0 := Got.mv _ s₁ s _ _ hh0.symm (Vm.Alike.refl _) rfl E3
  obtain rfl := e0.1
  have c4 : Steps p.tables e below (s₁.setTop (entryFrame m #[.ref a, .ref b] 2)) (T3.setTop (mkF m 9 #[.val (.ref a), .val (.ref b)] [])) := g3
  exact ⟨T3, none, _, _, _, X3, by simp, rfl, by omega, (fun _ => rfl), e0, fun fs hl => c4.trans (X3.returnOut hexec hret (hb hbytes d9) hl)⟩
theorem pays {l : Launch} {R : Room} {p : Program} {e : Env} {below : List Frame} {s : State} {sargs : Array Value} {len W : Nat} (a : Addr) (D : Cell) (fV fC : Field) (b : Addr) (A : Cell) (z : Int32) (htab : tab.before sargs s = true) (hfr : 4 ≤ R.frames) (hlo : W + 65 ≤ R.locals) :
    Back l R p e below s sargs yN len W (fun A₁ a₁ => A₁.cells + 1 ≤ R.cells ∧ A₁.slots + A.slots.size ≤ R.slots ∧ P a D fV fC b A z a₁ A₁.U) (fun A₁ _ v₁ B₁ => E a D fV fC A v₁ A₁.U B₁.U ∧ B₁.locs = A₁.locs ++ [⟨a, fC.slot⟩, ⟨a, fV.slot⟩] ∧ B₁.cells = A₁.cells + 1 ∧ B₁.slots = A₁.slots + A.slots.size) :=
  (law l a D fV fC b A z).pays htab hfr (by omega)
end New1
/-- the byte, read back as charAt reads it, is the char -/
theorem lo8_mask {x : Int32} (h0 : ¬ x < 0) (h1 : ¬ 255 < x) : lo8 x &&& 255 = x := by
  have t : ∀ k : Fin 256, lo8 (Int32.ofNat k.val) &&& 255 = Int32.ofNat k.val := by decide +kernel
  rw [Int32.lt_iff_toInt_lt] at h0 h1
  have e0 : (0 : Int32).toInt = 0 := rfl
  have e1 : (255 : Int32).toInt = 255 := rfl
  obtain ⟨k, hk⟩ : ∃ k : Nat, x.toInt = k := ⟨x.toInt.toNat, by omega⟩
  have hx : x = Int32.ofNat k := Int32.toInt_inj.mp (by rw [hk, Int32.toInt_ofNat_small (by omega)])
  rw [hx]
  exact t ⟨k, by omega⟩
end StrChars
namespace StrChars.Road
open Jvm Sem ClassFile Op Lib Jvm.Stand Jvm.Free Jvm.Free.XT
open Jvm.Lib.Cold (StaticIs)
abbrev ST : String := "java/lang/String"
/-- every table word that New1's law asks, flat -/
abbrev words : List Jvm.Cond := [.code New1.yN New1.yB 2 none, .initialized ST, .methodLink ST 27 New4.yN, .instanceMethod New4.yN,
  .code New4.yN New4.yB 6 none, .fieldLink ST 38 ST "COMPACT_STRINGS" "Z", .laysFinal ST ST "value" "[B", .fieldLink ST 9 ST "value" "[B", .laysFinal ST ST "coder" "B", .fieldLink ST 15 ST "coder" "B",
  .methodLink ST 1 Lib.objectInit, .instanceMethod Lib.objectInit, .code Lib.objectInit ⟨#[0xb1]⟩ 1 none, .methodLink ST 177 Cmp3.yN, .static Cmp3.yN, .methodLink ST 47 CodL.yN, .static CodL.yN,
  .code Cmp3.yN Cmp3.yB 6 (some (.array .byte)), .initialized U16, .arrayClass .byte, .methodLink U16 115 Cmp5.yN, .static Cmp5.yN, .code Cmp5.yN Cmp5.yB 7 (some .int), .code CodL.yN CodL.yB 2 (some .byte)]
theorem tab_of {a : Array Value} {s : State} (h : ∀ w ∈ words, w.before a s = true) : New1.tab.before a s = true := by
  have h5 : Cmp5.tab.before a s = true := unparts (wk h (.code Cmp5.yN Cmp5.yB 7 (some .int))) (wks h (.initialized Cmp5.yN.cls :: Cmp5.site))
  have hc : CodL.tab.before a s = true := unparts (wk h (.code CodL.yN CodL.yB 2 (some .byte))) (wks h (.initialized CodL.yN.cls :: CodL.site))
  have q5 : ∀ w ∈ Cmp5.tab :: words, w.before a s = true := fun w hw => (List.mem_cons.mp hw).elim (fun e => e ▸ h5) (h w)
  have h3 : Cmp3.tab.before a s = true := unparts (wk q5 (.code Cmp3.yN Cmp3.yB 6 (some (.array .byte)))) (wks q5 (.initialized Cmp3.yN.cls :: Cmp3.site))
  have q3 : ∀ w ∈ Cmp3.tab :: CodL.tab :: words, w.before a s = true := fun w hw => (List.mem_cons.mp hw).elim (fun e => e ▸ h3) fun hw => (List.mem_cons.mp hw).elim (fun e => e ▸ hc) (h w)
  have h4 : New4.tab.before a s = true := unparts (wk q3 (.code New4.yN New4.yB 6 none)) (wks q3 (.initialized New4.yN.cls :: New4.site))
  have q4 : ∀ w ∈ New4.tab :: words, w.before a s = true := fun w hw => (List.mem_cons.mp hw).elim (fun e => e ▸ h4) (h w)
  exact unparts (wk q4 (.code New1.yN New1.yB 2 none)) (wks q4 (.initialized New1.yN.cls :: New1.site))
/-- the words ride from the start Z to the walk's own state -/
theorem moved {Z s : State} {a0 args : Array Value} (hZ : Z.Warmed39 s.vm) (hw : ∀ d ∈ words, d.before a0 Z = true) : ∀ d ∈ words, d.before args s = true := fun d hd => by
  have q := hw d hd
  have t : ∀ d ∈ words, d = .arrayClass .byte ∨ (d.onTables && d.keepsFace) = true := by decide +kernel
  rcases t d hd with rfl | t
  · exact RoadKit.mvA hZ q
  · exact RoadKit.mv hZ q t
/-- WHAT COMES BACK, over the tables of the start Z: h the heap at the call, h' behind it -/
def Q (Z : State) (x : Addr) (A : Cell) (h : Heap) (v : Option Value) (h' : Heap) (L : List Loc) : Prop := v = none ∧ (∀ y ∈ L, y.base = x) ∧ RoadKit.Keep h h' [x] ∧ h'.size = h.size + 1 ∧ RoadKit.Exa Z h' x ST ∧ RoadKit.Fld Z h' x ST "value" "[B" (.ref h.size) ∧ RoadKit.Fld Z h' x ST "coder" "B" (.int 0) ∧
  (∃ V : Cell, RoadKit.Arr Z h' h.size V .byte ∧ V.vm = .none ∧ Z.vm.findClass "[B" = some V.cls ∧ V.slots.size = A.slots.size ∧ ∀ j, j < A.slots.size → V.slots[j]? = some (.int (lo8 (cv A j)))) ∧
  ∀ (O n d : String) (w : Value), RoadKit.Fld Z h x O n d w → RoadKit.slotOf Z O n d ≠ RoadKit.slotOf Z ST "value" "[B" → RoadKit.slotOf Z O n d ≠ RoadKit.slotOf Z ST "coder" "B" → RoadKit.Fld Z h' x O n d w
/-- **new String(chars) AT A CALL, IN THE ROAD'S FORM**: for specialBack behind newO: x the fresh String, b the char[] with the cell A -/
theorem back {p : Program} {l : Launch} {e : Env} {R : Room} {s : State} {args : Array Value} {below : List Frame} {len W : Nat} {Z : State} {a0 : Array Value} {h : Heap} (hZ : Z.Warmed39 s.vm) (hw : ∀ d ∈ words, d.before a0 Z = true) {kI : Nat} (wi : (Jvm.Cond.instantiable ST kI).before a0 Z = true)
    {x b : Addr} {A : Cell} {z : Int32} {v0 c0 : Value} (E : RoadKit.Exa Z h x ST) (V : RoadKit.Fld Z h x ST "value" "[B" v0) (C : RoadKit.Fld Z h x ST "coder" "B" c0) (K : RoadKit.Arr Z h b A .char) (hty : Typed .char A) (S : RoadKit.Sta Z h ST "COMPACT_STRINGS" "Z" (.int z)) (hz : ¬ z = 0)
    (l0 : 0 < A.slots.size) (l2 : A.slots.size ≤ 536870912) (hp : ∀ i, i < A.slots.size → ¬ 255 < cv A i) (hfr : 4 ≤ R.frames) (hlo : W + 65 ≤ R.locals) :
    Back l R p e below s args New1.yN len W (fun P a => a = #[.ref x, .ref b] ∧ P.U.heap = h ∧ P.cells + 1 ≤ R.cells ∧ P.slots + A.slots.size ≤ R.slots)
      (fun P _ v B => ∃ L, Q Z x A h v B.U.heap L ∧ B.locs = P.locs ++ L ∧ B.cells = P.cells + 1 ∧ B.slots = P.slots + A.slots.size) := by
  intro m meth c P g ig mk a X hg hsize hdg hW hn hp'
  obtain ⟨rfl, rfl, r1, r2⟩ := hp'
  have al : Z.vm.Alike P.U.vm := hZ.alike.trans X.warmed.alike
  obtain ⟨D, cfV, kV, iV, fV, hD, gV, stV, knV, obV, asV, slV⟩ := id V
  obtain ⟨D', cfC, kC, iC, fC, hD', gC, stC, -, -, asC, slC⟩ := id C
  cases hD.symm.trans hD'
  obtain ⟨D2, kD, e1, e2, e3, e4, e5⟩ := id E
  cases hD.symm.trans e1
  obtain ⟨c2, k2, i1, i2, i3, -⟩ := Cond.instantiable_spec wi
  cases e2.symm.trans i1
  cases e3.symm.trans i2
  obtain ⟨kU, u1, u2⟩ := al.2.2 _ _ e3
  have hB : Blank ST x D P.U := ⟨hD, ⟨knV, fun q hq => by rw [hq] at obV; cases obV⟩, by rw [al.findClass]; exact e2, kU, u1, by rw [u2]; exact i3, by rw [u2]; exact e5 i3⟩
  have F1 : Found ST "value" "[B" fV P.U := ⟨SBG.found_only al ⟨cfV, kV, iV, gV⟩, stV⟩
  have F2 : Found ST "coder" "B" fC P.U := ⟨SBG.found_only al ⟨cfC, kC, iC, gC⟩, stC⟩
  have hA : Ch b A P.U := ⟨⟨K.1, State.isArrayOf_alike al K.2.1, K.2.2, by omega⟩, hty⟩
  have hS : StaticIs P.U ST "COMPACT_STRINGS" "Z" (.int z) := by
    obtain ⟨cfS, iS, kS, fS, st, cS, t1, t2, t3, t4, t5, t6, t7⟩ := S
    exact StaticIs.there (s := { Z with heap := P.U.heap }) ⟨cfS, iS, kS, fS, st, cS, t1, t2, t3, t4, t5, (fun q => by rw [q] at t6; cases t6), t7⟩ al rfl
  obtain ⟨v, B, X', ⟨⟨hv, E', V', q1, q2, q3, q4, q5, q6, q7, q8, q9, q10, q11⟩, hl, hc, hs⟩, st⟩ := New1.pays x D fV fC b A z (tab_of (moved hZ hw)) hfr hlo m meth c P g ig mk _ X hg hsize hdg hW hn ⟨r1, r2, rfl, hB, F1, F2, hA, hS, hz, l0, l2, hp⟩
  have al' : Z.vm.Alike B.U.vm := hZ.alike.trans X'.warmed.alike
  have hsz : E'.slots.size = D.slots.size := by
    obtain ⟨-, -, -, kB, w1, w2, w3⟩ := q1
    obtain ⟨kB', y1, y2⟩ := al'.2.2 _ _ e3
    rw [q2.2.1] at w1
    cases w1.symm.trans y1
    rw [w3, e5 i3, y2]
  refine ⟨v, B, X', ⟨_, ⟨hv, ?_, ⟨by omega, fun y cy hy hn' => q10 y cy (by simpa using hn') hy, fun y cy hy => ?_⟩, q11, ⟨E', _, q1.1, by rw [q2.2.1]; exact e2, by rw [q2.2.1]; exact e3, by rw [q2.1]; exact obV, fun _ => by rw [hsz]; exact e5 i3⟩,
    ⟨E', cfV, kV, iV, fV, q1.1, gV, stV, by rw [q2.1]; exact knV, by rw [q2.1]; exact obV, by rw [q2.2.1]; exact asV, q3⟩, ⟨E', cfC, kC, iC, fC, q1.1, gC, stC, by rw [q2.1]; exact knV, by rw [q2.1]; exact obV, by rw [q2.2.1]; exact asC, q4⟩,
    ⟨V', ⟨q5.1, State.isArrayOf_alike al'.symm q5.2.1, q5.2.2.1⟩, q6, by rw [← al'.findClass]; exact q7, q8, fun j hj => by have := q9 j hj; rwa [Nat.zero_add] at this⟩, fun O n d w F n1 n2 => ?_⟩, hl, hc, hs⟩, st⟩
  · intro y hy
    simp only [List.mem_cons, List.not_mem_nil, or_false] at hy
    rcases hy with rfl | rfl <;> rfl
  · by_cases q : y = x
    · subst q
      cases hD.symm.trans hy
      exact ⟨E', q1.1, q2.2.1, q2.1, hsz⟩
    · exact ⟨cy, q10 y cy q hy, rfl, rfl, rfl⟩
  · obtain ⟨D3, cf, k, i, f, g1, g2, g3, g4, g5, g6, g7⟩ := F
    cases hD.symm.trans g1
    simp only [RoadKit.slotOf, g2, gV, gC, Option.map_some, Option.getD_some] at n1 n2
    exact ⟨E', cf, k, i, f, q1.1, g2, g3, by rw [q2.1]; exact g4, by rw [q2.1]; exact g5, by rw [q2.2.1]; exact g6, by rw [q2.2.2 f.slot (by simp [n1, n2])]; exact g7⟩
end StrChars.Road
namespace StrChars.Road
open Jvm Sem ClassFile Op Lib Jvm.Stand Jvm.Free Jvm.Free.XT
/-- WHAT COMES BACK, the byte[] as a list of values -/
def QA (Z : State) (x : Addr) (zn : Int32) (cs : List Int32) (h : Heap) (v : Option Value) (h' : Heap) (L : List Loc) : Prop := v = none ∧ (∀ y ∈ L, y.base = x) ∧ RoadKit.Keep h h' [x] ∧ h'.size = h.size + 1 ∧ RoadKit.Exa Z h' x ST ∧ RoadKit.Fld Z h' x ST "value" "[B" (.ref h.size) ∧ RoadKit.Fld Z h' x ST "coder" "B" (.int 0) ∧
  (∃ kb, Z.vm.findClass "[B" = some kb ∧ RoadKit.Arv Z h' h.size kb .byte zn (cs.map fun c => .int (lo8 c)) (.int 0)) ∧
  ∀ (O n d : String) (w : Value), RoadKit.Fld Z h x O n d w → RoadKit.slotOf Z O n d ≠ RoadKit.slotOf Z ST "value" "[B" → RoadKit.slotOf Z O n d ≠ RoadKit.slotOf Z ST "coder" "B" → RoadKit.Fld Z h' x O n d w
/-- **new String(chars) AT A CALL, THE ARRAYS AS LISTS**: the char[] at b holds cs, not empty, no char above 255 -/
theorem backArv {p : Program} {l : Launch} {e : Env} {R : Room} {s : State} {args : Array Value} {below : List Frame} {len W : Nat} {Z : State} {a0 : Array Value} {h : Heap} (hZ : Z.Warmed39 s.vm) (hw : ∀ d ∈ words, d.before a0 Z = true) {kI : Nat} (wi : (Jvm.Cond.instantiable ST kI).before a0 Z = true)
    {x b : Addr} {k : ClassId} {zn z : Int32} {cs : List Int32} {dv v0 c0 : Value} (E : RoadKit.Exa Z h x ST) (V : RoadKit.Fld Z h x ST "value" "[B" v0) (C : RoadKit.Fld Z h x ST "coder" "B" c0) (K : RoadKit.Arv Z h b k .char zn (cs.map Value.int) dv) (S : RoadKit.Sta Z h ST "COMPACT_STRINGS" "Z" (.int z)) (hz : ¬ z = 0)
    (hlen : zn.toNatClampNeg = cs.length) (h0 : 0 < cs.length) (hbig : cs.length ≤ 536870912) (hall : ∀ c ∈ cs, ¬ 255 < c) (hfr : 4 ≤ R.frames) (hlo : W + 65 ≤ R.locals) :
    Back l R p e below s args New1.yN len W (fun P a => a = #[.ref x, .ref b] ∧ P.U.heap = h ∧ P.cells + 1 ≤ R.cells ∧ P.slots + cs.length ≤ R.slots)
      (fun P _ v B => ∃ L, QA Z x zn cs h v B.U.heap L ∧ B.locs = P.locs ++ L ∧ B.cells = P.cells + 1 ∧ B.slots = P.slots + cs.length) := by
  obtain ⟨A, K1, K2, K3, K4, K5, K6⟩ := K
  have e : A.slots.size = cs.length := K3.trans hlen
  have hat : ∀ (i : Nat) (hi : i < cs.length), A.slots[i]? = some (.int cs[i]) := fun i hi => by rw [K5 i (by omega)]; simp [List.getD_eq_getElem?_getD, hi]
  have hcv : ∀ (i : Nat) (hi : i < cs.length), cv A i = cs[i] := fun i hi => by unfold cv; rw [hat i hi]
  have hty : Typed .char A := fun i v hv => by
    have hi : i < A.slots.size := (Array.getElem?_eq_some_iff.mp hv).1
    have q := K5 i hi
    rw [hv] at q
    rw [Option.some.inj q]
    exact K6 i hi
  refine Back.mono (back hZ hw wi E V C K1 hty S hz (by omega) (by omega) (fun i hi => by rw [hcv i (by omega)]; exact hall _ (List.getElem_mem _)) hfr hlo) (fun P a hp => ⟨hp.1, hp.2.1, hp.2.2.1, by rw [e]; exact hp.2.2.2⟩) (fun P a v B hp hq => ?_)
  obtain ⟨L, ⟨q1, q2, q3, q4, q5, q6, q7, ⟨V', v1, v2, v3, v4, v5⟩, q9⟩, hl, hc, hs⟩ := hq
  refine ⟨L, ⟨q1, q2, q3, q4, q5, q6, q7, ⟨V'.cls, v3, V', v1, rfl, by rw [v4, e, hlen], K4, fun i hi => ?_, fun i hi => ?_⟩, q9⟩, hl, hc, by rw [hs, e]⟩
  · have hi' : i < cs.length := by omega
    rw [v5 i (by omega), hcv i hi']; simp [List.getD_eq_getElem?_getD, hi']
  · have hi' : i < cs.length := by omega
    simp only [List.getD_eq_getElem?_getD, List.getElem?_map, List.getElem?_eq_getElem hi', Option.map_some, Option.getD_some]
    exact fits_lo8 _
end StrChars.Road
namespace StrChars.Road
open Jvm Sem ClassFile Op Lib Jvm.Stand Jvm.Free Jvm.Free.XT
/-- WHAT COMES BACK, in the writer's own shape -/
def QV (Z : State) (x : Addr) (N : Int32) (bs : List Int32) (h : Heap) (n0 : Nat) (v : Option Value) (h' : Heap) (L : List Loc) : Prop := v = none ∧ RoadKit.Fr n0 L ∧ RoadKit.Keep h h' [x] ∧ RoadKit.Exa Z h' x ST ∧ RoadKit.Fld Z h' x ST "coder" "B" (.int 0) ∧
  ∃ (t : Addr) (kb : ClassId), n0 ≤ t ∧ h.size ≤ t ∧ ¬ t = x ∧ RoadKit.Fld Z h' x ST "value" "[B" (.ref t) ∧ RoadKit.Arv Z h' t kb .byte N (bs.map Value.int) (.int 0)
/-- **new String(chars) AT A CALL, FOR THE WRITER**: a char[] of n known ints, each 0 to 255 -/
theorem backV {p : Program} {l : Launch} {e : Env} {R : Room} {s : State} {args : Array Value} {below : List Frame} {len W : Nat} {Z : State} {a0 : Array Value} {h : Heap} (hZ : Z.Warmed39 s.vm) (hw : ∀ d ∈ words, d.before a0 Z = true) {kI : Nat} (wi : (Jvm.Cond.instantiable ST kI).before a0 Z = true)
    {x b : Addr} {kC : ClassId} {cs bs : List Int32} {d v0 c0 : Value} {z N : Int32} {n n0 : Nat} (hx0 : n0 ≤ x) (hh0 : n0 ≤ h.size) (E : RoadKit.Exa Z h x ST) (V : RoadKit.Fld Z h x ST "value" "[B" v0) (C : RoadKit.Fld Z h x ST "coder" "B" c0) (K : RoadKit.Arv Z h b kC .char N (cs.map Value.int) d) (S : RoadKit.Sta Z h ST "COMPACT_STRINGS" "Z" (.int z)) (hz : ¬ z = 0)
    (hn : cs.length = n) (hN : N = Int32.ofNat n) (l0 : 0 < n) (l2 : n ≤ 4000) (hp : ∀ c ∈ cs, ¬ c < 0 ∧ ¬ (255 : Int32) < c) (hb : bs = cs.map (fun c => c.toInt8.toInt32)) (hfr : 4 ≤ R.frames) (hlo : W + 65 ≤ R.locals) :
    Back l R p e below s args (⟨"java/lang/String", "<init>", "([C)V"⟩ : MethodName) len W (fun P a => a = #[.ref x, .ref b] ∧ P.U.heap = h ∧ P.cells + 1 ≤ R.cells ∧ P.slots + n ≤ R.slots)
      (fun P _ v B => ∃ L, QV Z x N bs h n0 v B.U.heap L ∧ B.locs = P.locs ++ L ∧ B.cells = P.cells + 1 ∧ B.slots = P.slots + n) := by
  subst hn hN hb
  refine Back.mono (backArv hZ hw wi E V C K S hz (n32 (by omega)) l0 (by omega) (fun c hc => (hp c hc).2) hfr hlo) (fun P a hp => hp) (fun P a v B hp hq => ?_)
  obtain ⟨L, ⟨q1, q2, q3, q4, q5, q6, q7, ⟨kb, v1, v2⟩, q9⟩, hl, hc, hs⟩ := hq
  exact ⟨L, ⟨q1, fun y hy => by rw [q2 y hy]; exact hx0, q3, q5, q7, h.size, kb, hh0, Nat.le_refl _, Nat.ne_of_gt E.lt, q6, by rw [List.map_map]; exact v2⟩, hl, hc, hs⟩
end StrChars.Road
namespace StrChars
open Jvm Sem ClassFile Op Lib Jvm.Stand Jvm.Free.XT Jvm.Free.ALB Jvm.Free.JM Jvm.Free
open Jvm.Lib.Cold (StaticIs)
def hi8 (x : Int32) : Int32 := lo8 (x >>> ((8 : Int32) &&& 31))
/-- what StringUTF16.getChar makes of two bytes -/
def pairCh (u v : Int32) : Int32 := (((u &&& 255) <<< ((0 : Int32) &&& 31)) ||| ((v &&& 255) <<< ((8 : Int32) &&& 31))).toUInt32.toUInt16.toUInt32.toInt32
theorem lo8_and (x : Int32) : (lo8 x &&& 255).toBitVec.toNat = x.toBitVec.toNat % 256 := by
  have h : (lo8 x).toBitVec = (x.toBitVec.signExtend 8).signExtend 32 := by rw [lo8, Int8.toBitVec_toInt32, Int32.toBitVec_toInt8]
  rw [Int32.toBitVec_and, BitVec.toNat_and, h]
  have e : ((x.toBitVec.signExtend 8).signExtend 32).toNat % 256 = x.toBitVec.toNat % 256 := by
    rw [BitVec.toNat_signExtend]
    have hlt := x.toBitVec.isLt
    simp only [BitVec.toNat_setWidth, BitVec.toNat_signExtend]
    split <;> split <;> omega
  rw [← e]
  exact Nat.and_two_pow_sub_one_eq_mod _ 8
theorem pair_says {c : Int32} (h0 : ¬ c < 0) (h1 : ¬ 65535 < c) : pairCh (lo8 c) (hi8 c) = c := by
  rw [Int32.lt_iff_toInt_lt] at h0 h1
  have e0 : (0 : Int32).toInt = 0 := rfl
  have e1 : (65535 : Int32).toInt = 65535 := rfl
  have hc : c.toInt = c.toBitVec.toNat := by
    have := c.toBitVec.isLt
    have e : c.toInt = c.toBitVec.toInt := rfl
    rw [e] at h0 h1
    rw [e]
    rw [BitVec.toInt_eq_toNat_cond] at h0 h1 ⊢
    split at h0 <;> split <;> omega
  have hn : c.toBitVec.toNat < 65536 := by omega
  have a1 := lo8_and c
  have a2 : (hi8 c &&& 255).toBitVec.toNat = c.toBitVec.toNat / 256 := by
    rw [hi8, lo8_and]
    have e : ((8 : Int32) &&& 31) = 8 := by decide
    rw [e, Int32.toBitVec_shiftRight]
    have e2 : ((8 : Int32).toBitVec.smod 32) = 8#32 := by decide
    rw [e2, BitVec.sshiftRight_eq', BitVec.toNat_sshiftRight_of_msb_false (by rw [BitVec.msb_eq_false_iff_two_mul_lt]; omega)]
    show c.toBitVec.toNat >>> 8 % 256 = _
    rw [Nat.shiftRight_eq_div_pow]
    omega
  unfold pairCh
  apply Int32.toBitVec_inj.mp
  apply BitVec.eq_of_toNat_eq
  have f0 : ((0 : Int32) &&& 31) = 0 := by decide
  have f8 : ((8 : Int32) &&& 31) = 8 := by decide
  rw [f0, f8]
  have g : (((lo8 c &&& 255) <<< (0 : Int32)) ||| ((hi8 c &&& 255) <<< (8 : Int32))).toBitVec.toNat = c.toBitVec.toNat := by
    rw [Int32.toBitVec_or, Int32.toBitVec_shiftLeft, Int32.toBitVec_shiftLeft]
    have s0 : ((0 : Int32).toBitVec.smod 32) = 0#32 := by decide
    have s8 : ((8 : Int32).toBitVec.smod 32) = 8#32 := by decide
    rw [s0, s8, BitVec.toNat_or]
    simp only [BitVec.shiftLeft_eq', BitVec.toNat_shiftLeft, a1, a2]
    show (c.toBitVec.toNat % 256) <<< 0 % 2 ^ 32 ||| (c.toBitVec.toNat / 256) <<< 8 % 2 ^ 32 = _
    rw [Nat.shiftLeft_zero, Nat.mod_eq_of_lt (show c.toBitVec.toNat % 256 < 2 ^ 32 by omega), Nat.mod_eq_of_lt (show (c.toBitVec.toNat / 256) <<< 8 < 2 ^ 32 by rw [Nat.shiftLeft_eq]; omega), Nat.or_comm, ← Nat.shiftLeft_add_eq_or_of_lt (by omega), Nat.shiftLeft_eq]
    omega
  show BitVec.toNat (((((lo8 c &&& 255) <<< (0 : Int32)) ||| ((hi8 c &&& 255) <<< (8 : Int32))).toBitVec.setWidth 16).setWidth 32) = _
  rw [BitVec.toNat_setWidth, BitVec.toNat_setWidth, g]
  omega
end StrChars
namespace StrChars
open Jvm Sem ClassFile Op Lib Jvm.Stand Jvm.Free.XT Jvm.Free.ALB Jvm.Free.JM Jvm.Free
open Jvm.Lib.Cold (StaticIs)
/-- the array's cell V codes the n chars f 0 .. f (n - 1) by the coder cd, as the JDK does: coder 1 just where some char is above 255 -/
def Cod (cd : Int32) (n : Nat) (f : Nat → Int32) (V : Cell) : Prop := (cd = 0 ∧ V.slots.size = n ∧ ∀ j, j < n → V.slots[j]? = some (.int (lo8 (f j))) ∧ ¬ 255 < f j) ∨ (cd = 1 ∧ V.slots.size = 2 * n ∧ (∀ j, j < n → V.slots[2 * j]? = some (.int (lo8 (f j))) ∧ V.slots[2 * j + 1]? = some (.int (hi8 (f j)))) ∧ ∃ j, j < n ∧ 255 < f j)
/-- **x is a String of the n chars f 0 .. f (n - 1)**, Latin-1 or UTF-16; its array at t has the cell V -/
def Txt (x t : Addr) (V : Cell) (cd : Int32) (n : Nat) (f : Nat → Int32) (U : State) : Prop := Exact "java/lang/String" x U ∧ Has x "java/lang/String" "value" "[B" (.ref t) U ∧ Has x "java/lang/String" "coder" "B" (.int cd) U ∧ XT.Arr .byte t V U ∧ Cod cd n f V ∧ ∀ j, j < n → ¬ f j < 0 ∧ ¬ 65535 < f j
theorem Txt.mv {x t : Addr} {V : Cell} {cd : Int32} {n : Nat} {f : Nat → Int32} {U U' : State} (h : Txt x t V cd n f U) (hal : U.vm.Alike U'.vm) (hh : U'.heap = U.heap) : Txt x t V cd n f U' := ⟨h.1.mv hal hh, h.2.1.mv hal hh, h.2.2.1.mv hal hh, h.2.2.2.1.mv hal hh, h.2.2.2.2⟩
end StrChars
namespace StrChars.Road
open Jvm Sem ClassFile Op Lib Jvm.Stand Jvm.Free Jvm.Free.XT
open Jvm.Lib.Cold (StaticIs)
theorem consq {a : Array Value} {s : State} {c : Jvm.Cond} {L : List Jvm.Cond} (h0 : c.before a s = true) (h : ∀ w ∈ L, w.before a s = true) : ∀ w ∈ c :: L, w.before a s = true := fun w hw => (List.mem_cons.mp hw).elim (fun e => e ▸ h0) (h w)
/-- the bytes of the chars cs, low before high -/
def wideBytes : List Int32 → List Value
  | [] => []
  | c :: cs => .int (lo8 c) :: .int (hi8 c) :: wideBytes cs
theorem wide_lo (d : Value) : ∀ (cs : List Int32) (j : Nat), j < cs.length → (wideBytes cs).getD (2 * j) d = .int (lo8 (cs.getD j 0))
  | [], j, h => absurd h (Nat.not_lt_zero j)
  | c :: cs, 0, _ => rfl
  | c :: cs, j + 1, h => by
    have q := wide_lo d cs j (by simpa using h)
    rw [show 2 * (j + 1) = 2 * j + 1 + 1 from by omega]
    simpa [wideBytes] using q
theorem wide_hi (d : Value) : ∀ (cs : List Int32) (j : Nat), j < cs.length → (wideBytes cs).getD (2 * j + 1) d = .int (hi8 (cs.getD j 0))
  | [], j, h => absurd h (Nat.not_lt_zero j)
  | c :: cs, 0, _ => rfl
  | c :: cs, j + 1, h => by
    have q := wide_hi d cs j (by simpa using h)
    rw [show 2 * (j + 1) + 1 = 2 * j + 1 + 1 + 1 from by omega]
    simpa [wideBytes] using q
theorem low_at (d : Value) (cs : List Int32) (j : Nat) (h : j < cs.length) : (cs.map fun c => Value.int (lo8 c)).getD j d = .int (lo8 (cs.getD j 0)) := by
  simp [List.getD_eq_getElem?_getD, h]
/-- an array of N2 bytes vs codes the chars cs by the coder cd -/
def CodA (cs : List Int32) (cd N2 : Int32) (vs : List Value) : Prop := (cd = 0 ∧ N2 = Int32.ofNat cs.length ∧ vs = (cs.map fun c => Value.int (lo8 c)) ∧ ∀ c ∈ cs, ¬ 255 < c) ∨ (cd = 1 ∧ N2 = Int32.ofNat (2 * cs.length) ∧ vs = wideBytes cs ∧ ∃ c ∈ cs, 255 < c)
theorem CodA.cod {cs : List Int32} {cd N2 : Int32} {vs : List Value} {V : Cell} (h : CodA cs cd N2 vs) (hn : 2 * cs.length < 2 ^ 31) (hs : V.slots.size = N2.toNatClampNeg) (hv : RoadKit.Has V vs (.int 0)) : Cod cd cs.length (fun j => cs.getD j 0) V := by
  rcases h with ⟨rfl, rfl, rfl, h⟩ | ⟨rfl, rfl, rfl, c, hc, hw⟩
  · rw [n32 (by omega)] at hs
    exact Or.inl ⟨rfl, hs, fun j hj => ⟨by rw [hv j (by omega), low_at _ _ _ hj], by
      have e : cs.getD j 0 = cs[j] := by simp [List.getD_eq_getElem?_getD, hj]
      show ¬ 255 < cs.getD j 0
      rw [e]; exact h _ (List.getElem_mem _)⟩⟩
  · rw [n32 (by omega)] at hs
    obtain ⟨j, hj, rfl⟩ := List.getElem_of_mem hc
    exact Or.inr ⟨rfl, hs, fun j hj => ⟨by rw [hv _ (by omega), wide_lo _ _ _ hj], by rw [hv _ (by omega), wide_hi _ _ _ hj]⟩, j, hj, by
      have e : cs.getD j 0 = cs[j] := by simp [List.getD_eq_getElem?_getD, hj]
      show 255 < cs.getD j 0
      rw [e]; exact hw⟩
/-- an object of exactly java/lang/String, its two fields found: as the laws ask it -/
theorem strObj {Z U : State} {a0 : Array Value} {kI : Nat} (wi : (Jvm.Cond.instantiable ST kI).before a0 Z = true) (al : Z.vm.Alike U.vm) {x : Addr} {v0 c0 : Value} (E : RoadKit.Exa Z U.heap x ST) (V : RoadKit.Fld Z U.heap x ST "value" "[B" v0) (C : RoadKit.Fld Z U.heap x ST "coder" "B" c0) :
    ∃ (D : Cell) (fV fC : Field), Blank ST x D U ∧ Found ST "value" "[B" fV U ∧ Found ST "coder" "B" fC U ∧ D.slots[fV.slot]? = some v0 ∧ D.slots[fC.slot]? = some c0 ∧ RoadKit.slotOf Z ST "value" "[B" = fV.slot ∧ RoadKit.slotOf Z ST "coder" "B" = fC.slot := by
  obtain ⟨D, cfV, kV, iV, fV, hD, gV, stV, knV, obV, asV, slV⟩ := V
  obtain ⟨D', cfC, kC, iC, fC, hD', gC, stC, -, -, asC, slC⟩ := C
  cases hD.symm.trans hD'
  obtain ⟨D2, kD, e1, e2, e3, e4, e5⟩ := E
  cases hD.symm.trans e1
  obtain ⟨c2, k2, i1, i2, i3, -⟩ := Cond.instantiable_spec wi
  cases e2.symm.trans i1
  cases e3.symm.trans i2
  obtain ⟨kU, u1, u2⟩ := al.2.2 _ _ e3
  exact ⟨D, fV, fC, ⟨hD, ⟨knV, fun q hq => by rw [hq] at obV; cases obV⟩, by rw [al.findClass]; exact e2, kU, u1, by rw [u2]; exact i3, by rw [u2]; exact e5 i3⟩, ⟨SBG.found_only al ⟨cfV, kV, iV, gV⟩, stV⟩, ⟨SBG.found_only al ⟨cfC, kC, iC, gC⟩, stC⟩, slV, slC, by simp [RoadKit.slotOf, gV], by simp [RoadKit.slotOf, gC]⟩
theorem sta_is {Z U : State} (al : Z.vm.Alike U.vm) {C n d : String} {v : Value} (S : RoadKit.Sta Z U.heap C n d v) : StaticIs U C n d v := by
  obtain ⟨cfS, iS, kS, fS, st, cS, t1, t2, t3, t4, t5, t6, t7⟩ := S
  exact StaticIs.there (s := { Z with heap := U.heap }) ⟨cfS, iS, kS, fS, st, cS, t1, t2, t3, t4, t5, (fun q => by rw [q] at t6; cases t6), t7⟩ al rfl
end StrChars.Road
namespace StrChars
open Jvm Sem ClassFile Op Lib Jvm.Stand Jvm.Free.XT Jvm.Free.ALB Jvm.Free.JM Jvm.Free
open Jvm.Lib.Cold (StaticIs)
/-- what place i of a byte[]'s cell holds -/
def yv (A : Cell) (i : Nat) : Int32 := match A.slots[i]? with | some (.int x) => x | _ => 0
theorem yv_get {a : Addr} {A : Cell} {U : State} (h : XT.Arr .byte a A U) (ht : Typed .byte A) {i : Nat} (hi : i < A.slots.size) : A.slots[i]? = some (.int (yv A i)) := by
  have e := Array.getElem?_eq_getElem hi
  have f := ht i _ e
  unfold yv; rw [e]
  generalize A.slots[i] = v at f
  cases v <;> simp [fits] at f ⊢
/-- the two arrays are equal, place for place -/
def EqC (A B : Cell) : Prop := A.slots.size = B.slots.size ∧ ∀ i, i < A.slots.size → yv A i = yv B i
/-- a boolean that says whether p -/
def Says01 (q : Prop) (r : Option Value) (s u : State) : Prop := ∃ v : Int32, r = some (.int v) ∧ u.heap = s.heap ∧ ((v = 1 ∧ q) ∨ (v = 0 ∧ ¬ q))
theorem Says01.mv {q : Prop} : ∀ r (U U' V V' : State), U'.heap = U.heap → V.vm.Alike V'.vm → V'.heap = V.heap → Says01 q r U V → Says01 q r U' V' :=
  fun r U U' V V' h1 _ h2 ⟨v, a, b, c⟩ => ⟨v, a, by rw [h1, h2]; exact b, c⟩
namespace LEq
def yN : MethodName := ⟨"java/lang/StringLatin1", "equals", "([B[B)Z"⟩
abbrev yB : ByteArray := jdk_43_method_13_code
theorem d0 : decode yB 0 = .ok (.aload_n 0, 1) := by decide +kernel
theorem d1 : decode yB 1 = .ok (.arraylength, 1) := by decide +kernel
theorem d2 : decode yB 2 = .ok (.aload_n 1, 1) := by decide +kernel
theorem d3 : decode yB 3 = .ok (.arraylength, 1) := by decide +kernel
theorem d4 : decode yB 4 = .ok (.if_icmp (.ne) 30, 3) := by decide +kernel
theorem d7 : decode yB 7 = .ok (.iconst 0, 1) := by decide +kernel
theorem d8 : decode yB 8 = .ok (.istore_n 2, 1) := by decide +kernel
theorem d9 : decode yB 9 = .ok (.iload_n 2, 1) := by decide +kernel
theorem d10 : decode yB 10 = .ok (.aload_n 0, 1) := by decide +kernel
theorem d11 : decode yB 11 = .ok (.arraylength, 1) := by decide +kernel
theorem d12 : decode yB 12 = .ok (.if_icmp (.ge) 20, 3) := by decide +kernel
theorem d15 : decode yB 15 = .ok (.aload_n 0, 1) := by decide +kernel
theorem d16 : decode yB 16 = .ok (.iload_n 2, 1) := by decide +kernel
theorem d17 : decode yB 17 = .ok (.baload, 1) := by decide +kernel
theorem d18 : decode yB 18 = .ok (.aload_n 1, 1) := by decide +kernel
theorem d19 : decode yB 19 = .ok (.iload_n 2, 1) := by decide +kernel
theorem d20 : decode yB 20 = .ok (.baload, 1) := by decide +kernel
theorem d21 : decode yB 21 = .ok (.if_icmp (.eq) 5, 3) := by decide +kernel
theorem d24 : decode yB 24 = .ok (.iconst 0, 1) := by decide +kernel
theorem d25 : decode yB 25 = .ok (.ireturn, 1) := by decide +kernel
theorem d26 : decode yB 26 = .ok (.iinc 2 1, 3) := by decide +kernel
theorem d29 : decode yB 29 = .ok (.goto (-20), 3) := by decide +kernel
theorem d32 : decode yB 32 = .ok (.iconst 1, 1) := by decide +kernel
theorem d33 : decode yB 33 = .ok (.ireturn, 1) := by decide +kernel
theorem d34 : decode yB 34 = .ok (.iconst 0, 1) := by decide +kernel
theorem d35 : decode yB 35 = .ok (.ireturn, 1) := by decide +kernel
def site : List Cond := []
def tab : Cond := tabOf yN yB 3 (some .boolean) site
def P (a : Addr) (A : Cell) (b : Addr) (B : Cell) (args : Array Value) (s : State) : Prop := args = #[.ref a, .ref b] ∧ XT.Arr .byte a A s ∧ Typed .byte A ∧ XT.Arr .byte b B s ∧ Typed .byte B
/-- whether two byte[] are equal, place for place -/
theorem law (l : Launch) (a : Addr) (A : Cell) (b : Addr) (B : Cell) : Law l yN 2 2 0 0 yB 3 (some .boolean) site (P a A b B) (Says01 (EqC A B)) [] 0 0 := by
  refine Law.of_walk (plainFor_of_name (by decide +kernel)) (by decide +kernel) (by decide +kernel) (by decide) (fun _ _ h => by rw [h.1]; rfl) (fun _ U U' hal hh h => ⟨h.1, h.2.1.mv hal hh, h.2.2.1, h.2.2.2.1.mv hal hh, h.2.2.2.2⟩) (fun r U U' V V' h1 hal h2 h => Says01.mv r U U' V V' h1 hal h2 h) ?_
  intro p e s m args below meth c s₁ X0 hexec hbytes hml hret hlk hnm hown hh0 W hP
  obtain ⟨rfl, hA, tA, hB, tB⟩ := hP
  have a31 := hA.2.2.2
  have b31 := hB.2.2.2
  have hA0 := hA.mv X0.warmed.alike hh0
  have hB0 := hB.mv X0.warmed.alike hh0
  have c1 : Steps p.tables e below (s₁.setTop (entryFrame m #[.ref a, .ref b] 3)) (s₁.setTop (mkF m 0 #[.val (.ref a), .val (.ref b), .unset] [])) := entry rfl
  have c2 : Steps p.tables e below (s₁.setTop (entryFrame m #[.ref a, .ref b] 3)) (s₁.setTop (mkF m 4 #[.val (.ref a), .val (.ref b), .unset] [.int (Int32.ofNat B.slots.size), .int (Int32.ofNat A.slots.size)])) := c1.trans (by
    refine XS.aloadN X0.here hexec rfl (hb hbytes d0) rfl rfl ?_
    refine X0.alen hexec hA0 rfl rfl (hb hbytes d1) ?_
    refine XS.aloadN X0.here hexec rfl (hb hbytes d2) rfl rfl ?_
    refine X0.alen hexec hB0 rfl rfl (hb hbytes d3) ?_
    exact Steps.refl _)
  by_cases hs : A.slots.size = B.slots.size
  · have c3 : Steps p.tables e below (s₁.setTop (entryFrame m #[.ref a, .ref b] 3)) (s₁.setTop (mkF m 9 #[.val (.ref a), .val (.ref b), .val (.int 0)] [])) := c2.trans (by
      refine XS.icmpNo X0.here hexec rfl (hb hbytes d4) rfl (ii_ne_f (by rw [hs])) ?_
      refine iconstV X0.here hexec rfl 0 (hb hbytes d7) (by decide) ?_
      refine XS.istoreN X0.here hexec rfl (hb hbytes d8) rfl rfl ?_
      exact Steps.refl _)
    have loop : ∀ (r i : Nat), i + r = A.slots.size → (∀ j, j < i → yv A j = yv B j) → Steps p.tables e below (s₁.setTop (entryFrame m #[.ref a, .ref b] 3)) (s₁.setTop (mkF m 9 #[.val (.ref a), .val (.ref b), .val (.int (Int32.ofNat i))] [])) → ∃ (pc : Nat) (Ls : Array Slot) (v : Int32), (pc = 25 ∨ pc = 33) ∧ ((v = 1 ∧ EqC A B) ∨ (v = 0 ∧ ¬ EqC A B)) ∧ Steps p.tables e below (s₁.setTop (entryFrame m #[.ref a, .ref b] 3)) (s₁.setTop (mkF m pc Ls [.int v])) := by
      intro r
      induction r with
      | zero =>
        intro i hi he cl
        exact ⟨33, _, 1, Or.inr rfl, Or.inl ⟨rfl, hs, fun j hj => he j (by omega)⟩, cl.trans (by
          refine XS.iloadN X0.here hexec rfl (hb hbytes d9) rfl ?_
          refine XS.aloadN X0.here hexec rfl (hb hbytes d10) rfl rfl ?_
          refine X0.alen hexec hA0 rfl rfl (hb hbytes d11) ?_
          refine XS.icmpYes X0.here hexec rfl (pc0 := 12) rfl (hb hbytes d12) rfl (ii_ge_t (nlt32 (by omega) (by omega))) (by decide) rfl ?_
          refine iconstV X0.here hexec rfl 1 (hb hbytes d32) (by decide) ?_
          exact Steps.refl _)⟩
      | succ r ih =>
        intro i hi he cl
        have c4 : Steps p.tables e below (s₁.setTop (entryFrame m #[.ref a, .ref b] 3)) (s₁.setTop (mkF m 21 #[.val (.ref a), .val (.ref b), .val (.int (Int32.ofNat i))] [.int (yv B i), .int (yv A i)])) := cl.trans (by
          refine XS.iloadN X0.here hexec rfl (hb hbytes d9) rfl ?_
          refine XS.aloadN X0.here hexec rfl (hb hbytes d10) rfl rfl ?_
          refine X0.alen hexec hA0 rfl rfl (hb hbytes d11) ?_
          refine XS.icmpNo X0.here hexec rfl (hb hbytes d12) rfl (ii_ge_f (lt32 (by omega) (by omega))) ?_
          refine XS.aloadN X0.here hexec rfl (hb hbytes d15) rfl rfl ?_
          refine XS.iloadN X0.here hexec rfl (hb hbytes d16) rfl ?_
          refine X0.aget hexec hA0 rfl (yv_get hA tA (i := i) (by omega)) rfl rfl (hb hbytes d17) ?_
          refine XS.aloadN X0.here hexec rfl (hb hbytes d18) rfl rfl ?_
          refine XS.iloadN X0.here hexec rfl (hb hbytes d19) rfl ?_
          refine X0.aget hexec hB0 rfl (yv_get hB tB (i := i) (by omega)) rfl rfl (hb hbytes d20) ?_
          exact Steps.refl _)
        by_cases hv : yv A i = yv B i
        · have c5 : Steps p.tables e below (s₁.setTop (entryFrame m #[.ref a, .ref b] 3)) (s₁.setTop (mkF m 9 #[.val (.ref a), .val (.ref b), .val (.int (Int32.ofNat i + 1))] [])) := c4.trans (by
            refine XS.icmpYes X0.here hexec rfl (pc0 := 21) rfl (hb hbytes d21) rfl (ii_eq_t hv) (by decide) rfl ?_
            refine iincV X0.here hexec rfl 1 (hb hbytes d26) (by decide) rfl rfl ?_
            refine XS.goto X0.here hexec rfl (pc0 := 29) rfl (hb hbytes d29) (by decide) rfl ?_
            exact Steps.refl _)
          rw [succ32] at c5
          exact ih (i + 1) (by omega) (fun j hj => by
            by_cases e : j = i
            · rw [e]; exact hv
            · exact he j (by omega)) c5
        · exact ⟨25, _, 0, Or.inl rfl, Or.inr ⟨rfl, fun q => hv (q.2 i (by omega))⟩, c4.trans (by
            refine XS.icmpNo X0.here hexec rfl (hb hbytes d21) rfl (ii_eq_f hv) ?_
            refine iconstV X0.here hexec rfl 0 (hb hbytes d24) (by decide) ?_
            exact Steps.refl _)⟩
    obtain ⟨pc, Ls, v, hpc, hv, cz⟩ := loop A.slots.size 0 (by omega) (fun j hj => absurd hj (Nat.not_lt_zero j)) c3
    have nv : narrow .boolean (.int v) = .int v := by rcases hv with ⟨rfl, -⟩ | ⟨rfl, -⟩ <;> rfl
    rcases hpc with rfl | rfl
    · exact ⟨s₁, some (.int v), _, _, _, X0, rfl, rfl, rfl, (fun h => by cases h), ⟨v, rfl, hh0, hv⟩, fun fs hl => cz.trans (X0.ireturnOut hexec hret nv (Or.inr (Or.inl rfl)) (hb hbytes d25) hl)⟩
    · exact ⟨s₁, some (.int v), _, _, _, X0, rfl, rfl, rfl, (fun h => by cases h), ⟨v, rfl, hh0, hv⟩, fun fs hl => cz.trans (X0.ireturnOut hexec hret nv (Or.inr (Or.inl rfl)) (hb hbytes d33) hl)⟩
  · have c3 : Steps p.tables e below (s₁.setTop (entryFrame m #[.ref a, .ref b] 3)) (s₁.setTop (mkF m 35 #[.val (.ref a), .val (.ref b), .unset] [.int 0])) := c2.trans (by
      refine XS.icmpYes X0.here hexec rfl (pc0 := 4) rfl (hb hbytes d4) rfl (ii_ne_t (ne32 a31 b31 hs)) (by decide) rfl ?_
      refine iconstV X0.here hexec rfl 0 (hb hbytes d34) (by decide) ?_
      exact Steps.refl _)
    exact ⟨s₁, some (.int 0), _, _, _, X0, rfl, rfl, rfl, (fun h => by cases h), ⟨0, rfl, hh0, Or.inr ⟨rfl, fun q => hs q.1⟩⟩, fun fs hl => c3.trans (X0.ireturnOut hexec hret rfl (Or.inr (Or.inl rfl)) (hb hbytes d35) hl)⟩
end LEq
theorem Cod.ty {cd : Int32} {n : Nat} {f : Nat → Int32} {V : Cell} (h : Cod cd n f V) : Typed .byte V := fun i v hv => by
  have hi : i < V.slots.size := (Array.getElem?_eq_some_iff.mp hv).1
  rcases h with ⟨-, k1, k2⟩ | ⟨-, k1, k2, -⟩
  · rw [(k2 i (by omega)).1] at hv; cases hv; exact fits_lo8 _
  · rcases Nat.mod_two_eq_zero_or_one i with e | e
    · obtain ⟨j, rfl⟩ : ∃ j, i = 2 * j := ⟨i / 2, by omega⟩
      rw [(k2 j (by omega)).1] at hv; cases hv; exact fits_lo8 _
    · obtain ⟨j, rfl⟩ : ∃ j, i = 2 * j + 1 := ⟨i / 2, by omega⟩
      rw [(k2 j (by omega)).2] at hv; cases hv; exact fits_lo8 _
/-- the same text -/
def SameT (n : Nat) (f : Nat → Int32) (k : Nat) (g : Nat → Int32) : Prop := n = k ∧ ∀ j, j < n → f j = g j
theorem lo8_inj {x y : Int32} (h0 : ¬ x < 0) (h1 : ¬ 255 < x) (k0 : ¬ y < 0) (k1 : ¬ 255 < y) (h : lo8 x = lo8 y) : x = y := by
  rw [← lo8_mask h0 h1, ← lo8_mask k0 k1, h]
/-- arrays coded by one coder are equal just where the texts are -/
theorem Cod.eqv {cd : Int32} {n k : Nat} {f g : Nat → Int32} {V V' : Cell} (h : Cod cd n f V) (h' : Cod cd k g V') (hf : ∀ j, j < n → ¬ f j < 0 ∧ ¬ 65535 < f j) (hg : ∀ j, j < k → ¬ g j < 0 ∧ ¬ 65535 < g j) : EqC V V' ↔ SameT n f k g := by
  have yvv : ∀ {W : Cell} {i : Nat} {x : Int32}, W.slots[i]? = some (.int x) → yv W i = x := fun q => by unfold yv; rw [q]
  rcases h with ⟨rfl, k1, k2⟩ | ⟨rfl, k1, k2, -⟩
  · rcases h' with ⟨-, m1, m2⟩ | ⟨e, -⟩
    · constructor
      · rintro ⟨e1, e2⟩
        refine ⟨by omega, fun j hj => ?_⟩
        have q := e2 j (by omega)
        rw [yvv (k2 j hj).1, yvv (m2 j (by omega)).1] at q
        exact lo8_inj (hf j hj).1 (k2 j hj).2 (hg j (by omega)).1 (m2 j (by omega)).2 q
      · rintro ⟨rfl, e2⟩
        refine ⟨by omega, fun j hj => ?_⟩
        rw [yvv (k2 j (by omega)).1, yvv (m2 j (by omega)).1, e2 j (by omega)]
    · exact absurd e (by decide)
  · rcases h' with ⟨e, -⟩ | ⟨-, m1, m2, -⟩
    · exact absurd e (by decide)
    · constructor
      · rintro ⟨e1, e2⟩
        refine ⟨by omega, fun j hj => ?_⟩
        have q1 := e2 (2 * j) (by omega)
        have q2 := e2 (2 * j + 1) (by omega)
        rw [yvv (k2 j hj).1, yvv (m2 j (by omega)).1] at q1
        rw [yvv (k2 j hj).2, yvv (m2 j (by omega)).2] at q2
        rw [← pair_says (hf j hj).1 (hf j hj).2, ← pair_says (hg j (by omega)).1 (hg j (by omega)).2, q1, q2]
      · rintro ⟨rfl, e2⟩
        refine ⟨by omega, fun i hi => ?_⟩
        rcases Nat.mod_two_eq_zero_or_one i with e | e
        · obtain ⟨j, rfl⟩ : ∃ j, i = 2 * j := ⟨i / 2, by omega⟩
          rw [yvv (k2 j (by omega)).1, yvv (m2 j (by omega)).1, e2 j (by omega)]
        · obtain ⟨j, rfl⟩ : ∃ j, i = 2 * j + 1 := ⟨i / 2, by omega⟩
          rw [yvv (k2 j (by omega)).2, yvv (m2 j (by omega)).2, e2 j (by omega)]
/-- two codings differ: so do the texts -/
theorem Cod.dif {cd cd' : Int32} {n k : Nat} {f g : Nat → Int32} {V V' : Cell} (h : Cod cd n f V) (h' : Cod cd' k g V') (hne : ¬ cd = cd') : ¬ SameT n f k g := by
  rintro ⟨rfl, e⟩
  rcases h with ⟨rfl, -, k2⟩ | ⟨rfl, -, -, j, hj, hw⟩
  · rcases h' with ⟨rfl, -⟩ | ⟨-, -, -, j, hj, hw⟩
    · exact hne rfl
    · exact (k2 j hj).2 (by rw [e j hj]; exact hw)
  · rcases h' with ⟨-, -, m2⟩ | ⟨rfl, -⟩
    · exact (m2 j hj).2 (by rw [← e j hj]; exact hw)
    · exact hne rfl
/-- an object of exactly C is an instance of C -/
theorem cinst {p : Program} {l : Launch} {e : Env} {R : Room} {s : State} {m : MethodId} {args : Array Value} {below : List Frame} {meth : Method} {c : Code} {T : State} {locs : List Loc} {cells slots : Nat} (X : Stand p l e R s m args below meth c T locs cells slots) (hexec : p.tables.exec = Jvm.exec) {own C : String} {index : Nat} (hown : s.vm.findClass own = some m.cls) (hlink : (Cond.classLink own index C).before args s = true) {a : Addr} (hE : Exact C a T)
    {g : JFrame} (hg : g.method = m) {rest : List Value} (hstack : g.stack = .ref a :: rest) (hdg : decode c.code g.pc = .ok (.instanceof index, 3)) :
    ∃ T', Stand p l e R s m args below meth c T' locs cells slots ∧ T'.heap = T.heap ∧ ∀ target, Steps p.tables e below (T'.setTop { g with pc := g.pc + 3, stack := .int 1 :: rest }) target → Steps p.tables e below (T.setTop g) target := by
  obtain ⟨cB, h1, D, h2, h3, h4⟩ := hE
  have h1' : s.vm.findClass C = some cB := by rw [← X.warmed.alike.findClass]; exact h1
  obtain ⟨vm', X', st⟩ := X.instanceofYes hexec hown hlink h2 h4 h1' (by rw [h3]; exact Jvm.Free.SB.assignable_self _ _) hg hstack hdg
  exact ⟨_, X', rfl, st⟩
theorem cself {p : Program} {l : Launch} {e : Env} {R : Room} {s : State} {m : MethodId} {args : Array Value} {below : List Frame} {meth : Method} {c : Code} {T : State} {locs : List Loc} {cells slots : Nat} (X : Stand p l e R s m args below meth c T locs cells slots) (hexec : p.tables.exec = Jvm.exec) {own C : String} {index : Nat} (hown : s.vm.findClass own = some m.cls) (hlink : (Cond.classLink own index C).before args s = true) {a : Addr} (hE : Exact C a T)
    {g : JFrame} (hg : g.method = m) {rest : List Value} (hstack : g.stack = .ref a :: rest) (hdg : decode c.code g.pc = .ok (.checkcast index, 3)) :
    ∃ T', Stand p l e R s m args below meth c T' locs cells slots ∧ T'.heap = T.heap ∧ ∀ target, Steps p.tables e below (T'.setTop { g with pc := g.pc + 3, stack := .ref a :: rest }) target → Steps p.tables e below (T.setTop g) target := by
  obtain ⟨cB, h1, D, h2, h3, h4⟩ := hE
  have h1' : s.vm.findClass C = some cB := by rw [← X.warmed.alike.findClass]; exact h1
  obtain ⟨vm', X', st⟩ := X.checkcastYes hexec hown hlink h2 h4 h1' (by rw [h3]; exact Jvm.Free.SB.assignable_self _ _) hg hstack hdg
  exact ⟨_, X', rfl, fun t h => st t (by rw [← hstack] at h; exact h)⟩
namespace SEq
def yN : MethodName := ⟨"java/lang/String", "equals", "(Ljava/lang/Object;)Z"⟩
abbrev yB : ByteArray := jdk_42_method_66_code
theorem d0 : decode yB 0 = .ok (.aload_n 0, 1) := by decide +kernel
theorem d1 : decode yB 1 = .ok (.aload_n 1, 1) := by decide +kernel
theorem d2 : decode yB 2 = .ok (.if_acmp (.ne) 5, 3) := by decide +kernel
theorem d5 : decode yB 5 = .ok (.iconst 1, 1) := by decide +kernel
theorem d6 : decode yB 6 = .ok (.ireturn, 1) := by decide +kernel
theorem d7 : decode yB 7 = .ok (.aload_n 1, 1) := by decide +kernel
theorem d8 : decode yB 8 = .ok (.instanceof 10, 3) := by decide +kernel
theorem d11 : decode yB 11 = .ok (.ifCond (.eq) 43, 3) := by decide +kernel
theorem d14 : decode yB 14 = .ok (.aload_n 1, 1) := by decide +kernel
theorem d15 : decode yB 15 = .ok (.checkcast 10, 3) := by decide +kernel
theorem d18 : decode yB 18 = .ok (.astore_n 2, 1) := by decide +kernel
theorem d19 : decode yB 19 = .ok (.getstatic 38, 3) := by decide +kernel
theorem d22 : decode yB 22 = .ok (.ifCond (.eq) 14, 3) := by decide +kernel
theorem d25 : decode yB 25 = .ok (.aload_n 0, 1) := by decide +kernel
theorem d26 : decode yB 26 = .ok (.getfield 15, 3) := by decide +kernel
theorem d29 : decode yB 29 = .ok (.aload_n 2, 1) := by decide +kernel
theorem d30 : decode yB 30 = .ok (.getfield 15, 3) := by decide +kernel
theorem d33 : decode yB 33 = .ok (.if_icmp (.ne) 21, 3) := by decide +kernel
theorem d36 : decode yB 36 = .ok (.aload_n 0, 1) := by decide +kernel
theorem d37 : decode yB 37 = .ok (.getfield 9, 3) := by decide +kernel
theorem d40 : decode yB 40 = .ok (.aload_n 2, 1) := by decide +kernel
theorem d41 : decode yB 41 = .ok (.getfield 9, 3) := by decide +kernel
theorem d44 : decode yB 44 = .ok (.invokestatic 541, 3) := by decide +kernel
theorem d47 : decode yB 47 = .ok (.ifCond (.eq) 7, 3) := by decide +kernel
theorem d50 : decode yB 50 = .ok (.iconst 1, 1) := by decide +kernel
theorem d51 : decode yB 51 = .ok (.goto 4, 3) := by decide +kernel
theorem d54 : decode yB 54 = .ok (.iconst 0, 1) := by decide +kernel
theorem d55 : decode yB 55 = .ok (.ireturn, 1) := by decide +kernel
def site : List Cond := [.classLink "java/lang/String" 10 "java/lang/String", .fieldLink "java/lang/String" 38 "java/lang/String" "COMPACT_STRINGS" "Z", .fieldLink "java/lang/String" 15 "java/lang/String" "coder" "B", .fieldLink "java/lang/String" 9 "java/lang/String" "value" "[B", LEq.tab] ++ staticW "java/lang/String" 541 LEq.yN
def tab : Cond := tabOf yN yB 3 (some .boolean) site
def P (x t : Addr) (V : Cell) (cd : Int32) (n : Nat) (f : Nat → Int32) (y t' : Addr) (V' : Cell) (cd' : Int32) (k : Nat) (g : Nat → Int32) (z : Int32) (args : Array Value) (s : State) : Prop := args = #[.ref x, .ref y] ∧ Txt x t V cd n f s ∧ Txt y t' V' cd' k g s ∧ StaticIs s "java/lang/String" "COMPACT_STRINGS" "Z" (.int z) ∧ ¬ z = 0
/-- equals(Object) of two Strings: whether the texts are the same -/
theorem law (l : Launch) (x t : Addr) (V : Cell) (cd : Int32) (n : Nat) (f : Nat → Int32) (y t' : Addr) (V' : Cell) (cd' : Int32) (k : Nat) (g : Nat → Int32) (z : Int32) : Law l yN 2 1 1 14 yB 3 (some .boolean) site (P x t V cd n f y t' V' cd' k g z) (Says01 (SameT n f k g)) [] 0 0 := by
  refine Law.of_walk (plainFor_of_name (by decide +kernel)) (by decide +kernel) (by decide +kernel) (by decide) (fun _ _ h => by rw [h.1]; rfl) (fun _ U U' hal hh h => ⟨h.1, h.2.1.mv hal hh, h.2.2.1.mv hal hh, h.2.2.2.1.there hal hh, h.2.2.2.2⟩) (fun r U U' V V' h1 hal h2 h => Says01.mv r U U' V V' h1 hal h2 h) ?_
  intro p e s m args below meth c s₁ X0 hexec hbytes hml hret hlk hnm hown hh0 W hP
  obtain ⟨rfl, hx, hy, s1, hz⟩ := hP
  have c1 : Steps p.tables e below (s₁.setTop (entryFrame m #[.ref x, .ref y] 3)) (s₁.setTop (mkF m 2 #[.val (.ref x), .val (.ref y), .unset] [.ref y, .ref x])) := Steps.trans (entry rfl) (by
    show Steps p.tables e below (s₁.setTop (mkF m 0 #[.val (.ref x), .val (.ref y), .unset] [])) _
    refine XS.aloadN X0.here hexec rfl (hb hbytes d0) rfl rfl ?_
    refine XS.aloadN X0.here hexec rfl (hb hbytes d1) rfl rfl ?_
    exact Steps.refl _)
  by_cases hxy : x = y
  · have c2 : Steps p.tables e below (s₁.setTop (entryFrame m #[.ref x, .ref y] 3)) (s₁.setTop (mkF m 6 #[.val (.ref x), .val (.ref y), .unset] [.int 1])) := c1.trans (by
      refine acmpNo X0.here hexec rfl (hb hbytes d2) rfl rfl rfl (by simp [acmp, hxy]) ?_
      refine iconstV X0.here hexec rfl 1 (hb hbytes d5) (by decide) ?_
      exact Steps.refl _)
    subst hxy
    have ec : cd = cd' := by
      obtain ⟨D, fd, a1, a2, a3⟩ := hx.2.2.1
      obtain ⟨D', fd', b1, b2, b3⟩ := hy.2.2.1
      cases a1.symm.trans b1
      obtain ⟨q1, q2, q3, q4⟩ := a2.1
      obtain ⟨r1, r2, r3, r4⟩ := b2.1
      cases q4.symm.trans r4
      cases a3.symm.trans b3; rfl
    have et : t = t' := by
      obtain ⟨D, fd, a1, a2, a3⟩ := hx.2.1
      obtain ⟨D', fd', b1, b2, b3⟩ := hy.2.1
      cases a1.symm.trans b1
      obtain ⟨q1, q2, q3, q4⟩ := a2.1
      obtain ⟨r1, r2, r3, r4⟩ := b2.1
      cases q4.symm.trans r4
      cases a3.symm.trans b3; rfl
    subst ec et
    have ev : V = V' := by cases hx.2.2.2.1.1.symm.trans hy.2.2.2.1.1; rfl
    subst ev
    have hs : SameT n f k g := (Cod.eqv hx.2.2.2.2.1 hy.2.2.2.2.1 hx.2.2.2.2.2 hy.2.2.2.2.2).mp ⟨rfl, fun _ _ => rfl⟩
    exact ⟨s₁, some (.int 1), _, _, _, X0, rfl, rfl, rfl, (fun h => by cases h), ⟨1, rfl, hh0, Or.inl ⟨rfl, hs⟩⟩, fun fs hl => c2.trans (X0.ireturnOut hexec hret rfl (Or.inr (Or.inl rfl)) (hb hbytes d6) hl)⟩
  · have c2 : Steps p.tables e below (s₁.setTop (entryFrame m #[.ref x, .ref y] 3)) (s₁.setTop (mkF m 8 #[.val (.ref x), .val (.ref y), .unset] [.ref y])) := c1.trans (by
      refine acmpYes X0.here hexec rfl (pc0 := 2) rfl (hb hbytes d2) rfl rfl rfl (by simp [acmp, hxy]) (by decide) rfl ?_
      refine XS.aloadN X0.here hexec rfl (hb hbytes d7) rfl rfl ?_
      exact Steps.refl _)
    obtain ⟨T3, X3, q3, st3⟩ := cinst X0 hexec hown (wk W (.classLink "java/lang/String" 10 "java/lang/String")) (hy.mv X0.warmed.alike hh0).1 (g := (mkF m 8 #[.val (.ref x), .val (.ref y), .unset] [.ref y])) rfl (rest := []) rfl (hb hbytes d8)
    have hh3 := q3.trans hh0
    have c4 : Steps p.tables e below (s₁.setTop (entryFrame m #[.ref x, .ref y] 3)) (T3.setTop (mkF m 15 #[.val (.ref x), .val (.ref y), .unset] [.ref y])) := (c2.trans (st3 _ (Steps.refl _))).trans (by
      refine XS.ifNo X3.here hexec rfl (hb hbytes d11) rfl (i0_eq_f (by decide)) ?_
      refine XS.aloadN X3.here hexec rfl (hb hbytes d14) rfl rfl ?_
      exact Steps.refl _)
    obtain ⟨T5, X5, q5, st5⟩ := cself X3 hexec hown (wk W (.classLink "java/lang/String" 10 "java/lang/String")) (hy.mv X3.warmed.alike hh3).1 (g := (mkF m 15 #[.val (.ref x), .val (.ref y), .unset] [.ref y])) rfl (rest := []) rfl (hb hbytes d15)
    have hh5 := q5.trans hh3
    have c6 : Steps p.tables e below (s₁.setTop (entryFrame m #[.ref x, .ref y] 3)) (T5.setTop (mkF m 19 #[.val (.ref x), .val (.ref y), .val (.ref y)] [])) := (c4.trans (st5 _ (Steps.refl _))).trans (by
      refine XS.astoreN X5.here hexec rfl (hb hbytes d18) rfl rfl rfl ?_
      exact Steps.refl _)
    obtain ⟨T7, X7, q7, st7⟩ := X5.sget hexec hown (wk W (.fieldLink "java/lang/String" 38 "java/lang/String" "COMPACT_STRINGS" "Z")) s1 (fun _ _ h => by rw [hh5]; exact h) (g := (mkF m 19 #[.val (.ref x), .val (.ref y), .val (.ref y)] [])) rfl (hb hbytes d19)
    have hh7 := q7.trans hh5
    have c8 : Steps p.tables e below (s₁.setTop (entryFrame m #[.ref x, .ref y] 3)) (T7.setTop (mkF m 26 #[.val (.ref x), .val (.ref y), .val (.ref y)] [.ref x])) := (c6.trans (st7 _ (Steps.refl _))).trans (by
      refine XS.ifNo X7.here hexec rfl (hb hbytes d22) rfl (i0_eq_f hz) ?_
      refine XS.aloadN X7.here hexec rfl (hb hbytes d25) rfl rfl ?_
      exact Steps.refl _)
    obtain ⟨T9, X9, q9, st9⟩ := X7.hget hexec hown (wk W (.fieldLink "java/lang/String" 15 "java/lang/String" "coder" "B")) (hx.mv X7.warmed.alike hh7).2.2.1 (g := (mkF m 26 #[.val (.ref x), .val (.ref y), .val (.ref y)] [.ref x])) rfl (rest := []) rfl (hb hbytes d26)
    have hh9 := q9.trans hh7
    have c10 : Steps p.tables e below (s₁.setTop (entryFrame m #[.ref x, .ref y] 3)) (T9.setTop (mkF m 30 #[.val (.ref x), .val (.ref y), .val (.ref y)] [.ref y, .int cd])) := (c8.trans (st9 _ (Steps.refl _))).trans (by
      refine XS.aloadN X9.here hexec rfl (hb hbytes d29) rfl rfl ?_
      exact Steps.refl _)
    obtain ⟨T11, X11, q11, st11⟩ := X9.hget hexec hown (wk W (.fieldLink "java/lang/String" 15 "java/lang/String" "coder" "B")) (hy.mv X9.warmed.alike hh9).2.2.1 (g := (mkF m 30 #[.val (.ref x), .val (.ref y), .val (.ref y)] [.ref y, .int cd])) rfl (rest := [.int cd]) rfl (hb hbytes d30)
    have hh11 := q11.trans hh9
    have c12 : Steps p.tables e below (s₁.setTop (entryFrame m #[.ref x, .ref y] 3)) (T11.setTop (mkF m 33 #[.val (.ref x), .val (.ref y), .val (.ref y)] [.int cd', .int cd])) := c10.trans (st11 _ (Steps.refl _))
    by_cases hcd : cd = cd'
    · subst hcd
      have c13 : Steps p.tables e below (s₁.setTop (entryFrame m #[.ref x, .ref y] 3)) (T11.setTop (mkF m 37 #[.val (.ref x), .val (.ref y), .val (.ref y)] [.ref x])) := c12.trans (by
        refine XS.icmpNo X11.here hexec rfl (hb hbytes d33) rfl (ii_ne_f rfl) ?_
        refine XS.aloadN X11.here hexec rfl (hb hbytes d36) rfl rfl ?_
        exact Steps.refl _)
      obtain ⟨T14, X14, q14, st14⟩ := X11.hget hexec hown (wk W (.fieldLink "java/lang/String" 9 "java/lang/String" "value" "[B")) (hx.mv X11.warmed.alike hh11).2.1 (g := (mkF m 37 #[.val (.ref x), .val (.ref y), .val (.ref y)] [.ref x])) rfl (rest := []) rfl (hb hbytes d37)
      have hh14 := q14.trans hh11
      have c15 : Steps p.tables e below (s₁.setTop (entryFrame m #[.ref x, .ref y] 3)) (T14.setTop (mkF m 41 #[.val (.ref x), .val (.ref y), .val (.ref y)] [.ref y, .ref t])) := (c13.trans (st14 _ (Steps.refl _))).trans (by
        refine XS.aloadN X14.here hexec rfl (hb hbytes d40) rfl rfl ?_
        exact Steps.refl _)
      obtain ⟨T16, X16, q16, st16⟩ := X14.hget hexec hown (wk W (.fieldLink "java/lang/String" 9 "java/lang/String" "value" "[B")) (hy.mv X14.warmed.alike hh14).2.1 (g := (mkF m 41 #[.val (.ref x), .val (.ref y), .val (.ref y)] [.ref y, .ref t])) rfl (rest := [.ref t]) rfl (hb hbytes d41)
      have hh16 := q16.trans hh14
      have c17 : Steps p.tables e below (s₁.setTop (entryFrame m #[.ref x, .ref y] 3)) (T16.setTop (mkF m 44 #[.val (.ref x), .val (.ref y), .val (.ref y)] [.ref t', .ref t])) := c15.trans (st16 _ (Steps.refl _))
      obtain ⟨v18, T18, X18, E18, g18⟩ := X16.callS hexec (LEq.law l t V t' V') hown (wks W (staticW "java/lang/String" 541 LEq.yN)) (wk W LEq.tab) (W := 0) (Nat.le_of_ble_eq_true rfl) (Nat.le_of_ble_eq_true rfl) (Nat.le_refl _) (Nat.le_refl _) (g := (mkF m 44 #[.val (.ref x), .val (.ref y), .val (.ref y)] [.ref t', .ref t])) rfl (by rw [hml]; rfl) c17 (argsL := [.ref t, .ref t']) (rest := []) rfl rfl (by show 2 * 0 + 0 ≤ _; decide) (hb hbytes d44) (⟨rfl, hx.2.2.2.1.mv X16.warmed.alike hh16, hx.2.2.2.2.1.ty, hy.2.2.2.1.mv X16.warmed.alike hh16, hy.2.2.2.2.1.ty⟩)
      obtain ⟨v, rfl, q18, hv⟩ := E18
      have iff := Cod.eqv hx.2.2.2.2.1 hy.2.2.2.2.1 hx.2.2.2.2.2 hy.2.2.2.2.2
      rcases hv with ⟨rfl, he⟩ | ⟨rfl, he⟩
      · have c19 : Steps p.tables e below (s₁.setTop (entryFrame m #[.ref x, .ref y] 3)) (T18.setTop (mkF m 55 #[.val (.ref x), .val (.ref y), .val (.ref y)] [.int 1])) := Steps.trans g18 (by
          refine XS.ifNo X18.here hexec rfl (hb hbytes d47) rfl (i0_eq_f (by decide)) ?_
          refine iconstV X18.here hexec rfl 1 (hb hbytes d50) (by decide) ?_
          refine XS.goto X18.here hexec rfl (pc0 := 51) rfl (hb hbytes d51) (by decide) rfl ?_
          exact Steps.refl _)
        exact ⟨T18, some (.int 1), _, _, _, X18, rfl, rfl, rfl, (fun h => by cases h), ⟨1, rfl, q18.trans hh16, Or.inl ⟨rfl, iff.mp he⟩⟩, fun fs hl => c19.trans (X18.ireturnOut hexec hret rfl (Or.inr (Or.inl rfl)) (hb hbytes d55) hl)⟩
      · have c19 : Steps p.tables e below (s₁.setTop (entryFrame m #[.ref x, .ref y] 3)) (T18.setTop (mkF m 55 #[.val (.ref x), .val (.ref y), .val (.ref y)] [.int 0])) := Steps.trans g18 (by
          refine XS.ifYes X18.here hexec rfl (pc0 := 47) rfl (hb hbytes d47) rfl (i0_eq_t rfl) (by decide) rfl ?_
          refine iconstV X18.here hexec rfl 0 (hb hbytes d54) (by decide) ?_
          exact Steps.refl _)
        exact ⟨T18, some (.int 0), _, _, _, X18, rfl, rfl, rfl, (fun h => by cases h), ⟨0, rfl, q18.trans hh16, Or.inr ⟨rfl, fun q => he (iff.mpr q)⟩⟩, fun fs hl => c19.trans (X18.ireturnOut hexec hret rfl (Or.inr (Or.inl rfl)) (hb hbytes d55) hl)⟩
    · have c13 : Steps p.tables e below (s₁.setTop (entryFrame m #[.ref x, .ref y] 3)) (T11.setTop (mkF m 55 #[.val (.ref x), .val (.ref y), .val (.ref y)] [.int 0])) := c12.trans (by
        refine XS.icmpYes X11.here hexec rfl (pc0 := 33) rfl (hb hbytes d33) rfl (ii_ne_t hcd) (by decide) rfl ?_
        refine iconstV X11.here hexec rfl 0 (hb hbytes d54) (by decide) ?_
        exact Steps.refl _)
      exact ⟨T11, some (.int 0), _, _, _, X11, rfl, rfl, rfl, (fun h => by cases h), ⟨0, rfl, hh11, Or.inr ⟨rfl, Cod.dif hx.2.2.2.2.1 hy.2.2.2.2.1 hcd⟩⟩, fun fs hl => c13.trans (X11.ireturnOut hexec hret rfl (Or.inr (Or.inl rfl)) (hb hbytes d55) hl)⟩
theorem pays {l : Launch} {R : Room} {p : Program} {e : Env} {below : List Frame} {s : State} {sargs : Array Value} {len W : Nat} (x t : Addr) (V : Cell) (cd : Int32) (n : Nat) (f : Nat → Int32) (y t' : Addr) (V' : Cell) (cd' : Int32) (k : Nat) (g : Nat → Int32) (z : Int32) (htab : tab.before sargs s = true) (hfr : 2 ≤ R.frames) (hlo : W + 28 ≤ R.locals) :
    Back l R p e below s sargs yN len W (fun A₁ a₁ => A₁.cells + 0 ≤ R.cells ∧ A₁.slots + 0 ≤ R.slots ∧ P x t V cd n f y t' V' cd' k g z a₁ A₁.U) (fun A₁ _ v₁ B₁ => Says01 (SameT n f k g) v₁ A₁.U B₁.U ∧ B₁.locs = A₁.locs ++ [] ∧ B₁.cells = A₁.cells + 0 ∧ B₁.slots = A₁.slots + 0) :=
  (law l x t V cd n f y t' V' cd' k g z).pays htab hfr (by omega)
end SEq
end StrChars
namespace StrChars.Road
open Jvm Sem ClassFile Op Lib Jvm.Stand Jvm.Free Jvm.Free.XT
open Jvm.Lib.Cold (StaticIs)
/-- the words of String.equals(Object) -/
abbrev wordsEq : List Jvm.Cond := [.code SEq.yN SEq.yB 3 (some .boolean), .initialized ST, .classLink ST 10 ST, .fieldLink ST 38 ST "COMPACT_STRINGS" "Z", .fieldLink ST 15 ST "coder" "B", .fieldLink ST 9 ST "value" "[B", .methodLink ST 541 LEq.yN, .static LEq.yN, .code LEq.yN LEq.yB 3 (some .boolean), .initialized "java/lang/StringLatin1"]
theorem tabEq_of {a : Array Value} {s : State} (h : ∀ w ∈ wordsEq, w.before a s = true) : SEq.tab.before a s = true := by
  have hl : LEq.tab.before a s = true := unparts (wk h (.code LEq.yN LEq.yB 3 (some .boolean))) (wks h (.initialized LEq.yN.cls :: LEq.site))
  have q := consq hl h
  exact unparts (wk q (.code SEq.yN SEq.yB 3 (some .boolean))) (wks q (.initialized SEq.yN.cls :: SEq.site))
theorem movedEq {Z s : State} {a0 args : Array Value} (hZ : Z.Warmed39 s.vm) (hw : ∀ d ∈ wordsEq, d.before a0 Z = true) : ∀ d ∈ wordsEq, d.before args s = true := fun d hd => by
  have t : ∀ d ∈ wordsEq, (d.onTables && d.keepsFace) = true := by decide +kernel
  exact RoadKit.mv hZ (hw d hd) (t d hd)
/-- the road's facts of a String, as the laws ask it -/
theorem txt_of {Z U : State} {a0 : Array Value} {kI : Nat} (wi : (Jvm.Cond.instantiable ST kI).before a0 Z = true) (al : Z.vm.Alike U.vm) {x t : Addr} {kb : ClassId} {cs : List Int32} {cd N2 : Int32} {vs : List Value} (E : RoadKit.Exa Z U.heap x ST) (V : RoadKit.Fld Z U.heap x ST "value" "[B" (.ref t)) (C : RoadKit.Fld Z U.heap x ST "coder" "B" (.int cd)) (K : RoadKit.Arv Z U.heap t kb .byte N2 vs (.int 0)) (hc : CodA cs cd N2 vs) (hb : ∀ c ∈ cs, ¬ c < 0 ∧ ¬ (65535 : Int32) < c) (l2 : cs.length ≤ 4000) :
    ∃ A, Txt x t A cd cs.length (fun j => cs.getD j 0) U := by
  obtain ⟨A, K1, K2, K3, K4, K5, K6⟩ := K
  have hcod := hc.cod (by omega) K3 K5
  obtain ⟨D, fV, fC, hB, F1, F2, g1, g2, -, -⟩ := strObj wi al E V C
  exact ⟨A, ⟨_, hB.2.2.1, D, hB.1, rfl, by cases q : D.vm <;> first | rfl | exact absurd q (hB.2.1.2 _)⟩, Has.of hB F1 g1, Has.of hB F2 g2, ⟨K1.1, State.isArrayOf_alike al K1.2.1, K1.2.2, by rcases hcod with ⟨-, q, -⟩ | ⟨-, q, -⟩ <;> omega⟩, hcod, fun j hj => by
    have e : cs.getD j 0 = cs[j] := by simp [List.getD_eq_getElem?_getD, hj]
    show ¬ cs.getD j 0 < 0 ∧ ¬ 65535 < cs.getD j 0
    rw [e]; exact hb _ (List.getElem_mem _)⟩
theorem same_list (cs ds : List Int32) : SameT cs.length (fun j => cs.getD j 0) ds.length (fun j => ds.getD j 0) ↔ cs = ds := by
  constructor
  · rintro ⟨e, q⟩
    refine List.ext_getElem e fun j h1 h2 => ?_
    have := q j h1
    simpa [List.getD_eq_getElem?_getD, h1, h2] using this
  · rintro rfl
    exact ⟨rfl, fun _ _ => rfl⟩
/-- **equals(Object) OF TWO SUCH STRINGS**: 1 just where the chars are the same -/
theorem eqW {p : Program} {l : Launch} {e : Env} {R : Room} {s : State} {args : Array Value} {below : List Frame} {len W : Nat} {Z : State} {a0 : Array Value} {h : Heap} (hZ : Z.Warmed39 s.vm) (hw : ∀ d ∈ wordsEq, d.before a0 Z = true) {kI : Nat} (wi : (Jvm.Cond.instantiable ST kI).before a0 Z = true)
    {x t : Addr} {kb : ClassId} {cs : List Int32} {cd N2 : Int32} {vs : List Value} (E : RoadKit.Exa Z h x ST) (V : RoadKit.Fld Z h x ST "value" "[B" (.ref t)) (C : RoadKit.Fld Z h x ST "coder" "B" (.int cd)) (K : RoadKit.Arv Z h t kb .byte N2 vs (.int 0)) (hc : CodA cs cd N2 vs) (hb : ∀ c ∈ cs, ¬ c < 0 ∧ ¬ (65535 : Int32) < c) (l2 : cs.length ≤ 4000)
    {y t' : Addr} {kb' : ClassId} {ds : List Int32} {cd' N2' : Int32} {vs' : List Value} (E' : RoadKit.Exa Z h y ST) (V' : RoadKit.Fld Z h y ST "value" "[B" (.ref t')) (C' : RoadKit.Fld Z h y ST "coder" "B" (.int cd')) (K' : RoadKit.Arv Z h t' kb' .byte N2' vs' (.int 0)) (hc' : CodA ds cd' N2' vs') (hb' : ∀ c ∈ ds, ¬ c < 0 ∧ ¬ (65535 : Int32) < c) (l2' : ds.length ≤ 4000)
    {z : Int32} (S : RoadKit.Sta Z h ST "COMPACT_STRINGS" "Z" (.int z)) (hz : ¬ z = 0) (hfr : 2 ≤ R.frames) (hlo : W + 28 ≤ R.locals) :
    Back l R p e below s args (⟨"java/lang/String", "equals", "(Ljava/lang/Object;)Z"⟩ : MethodName) len W (fun P a => a = #[.ref x, .ref y] ∧ P.U.heap = h ∧ P.cells + 0 ≤ R.cells ∧ P.slots + 0 ≤ R.slots)
      (fun P _ v B => ∃ L, (((v = some (.int 1) ∧ cs = ds) ∨ (v = some (.int 0) ∧ ¬ cs = ds)) ∧ L = [] ∧ B.U.heap = h) ∧ B.locs = P.locs ++ L ∧ B.cells = P.cells + 0 ∧ B.slots = P.slots + 0) := by
  intro m meth c P g ig mk a X hg hsize hdg hW hn hp'
  obtain ⟨rfl, rfl, r1, r2⟩ := hp'
  have al : Z.vm.Alike P.U.vm := hZ.alike.trans X.warmed.alike
  obtain ⟨A, hx⟩ := txt_of wi al E V C K hc hb l2
  obtain ⟨A', hy⟩ := txt_of wi al E' V' C' K' hc' hb' l2'
  obtain ⟨v, B, X', ⟨⟨w, hv, hh, hq⟩, hl, hk, hs⟩, st⟩ := SEq.pays x t A cd cs.length (fun j => cs.getD j 0) y t' A' cd' ds.length (fun j => ds.getD j 0) z (tabEq_of (movedEq hZ hw)) hfr hlo m meth c P g ig mk _ X hg hsize hdg hW hn ⟨r1, r2, rfl, hx, hy, sta_is al S, hz⟩
  refine ⟨v, B, X', ⟨[], ⟨?_, rfl, hh⟩, hl, hk, hs⟩, st⟩
  rcases hq with ⟨rfl, q⟩ | ⟨rfl, q⟩
  · exact Or.inl ⟨hv, (same_list cs ds).mp q⟩
  · exact Or.inr ⟨hv, fun e => q ((same_list cs ds).mpr e)⟩
end StrChars.Road
namespace StrChars.Road
open Jvm Sem ClassFile Op Lib Jvm.Stand Jvm.Free Jvm.Free.XT
open Jvm.Lib.Cold (StaticIs)
/-- what backV says of its String, as the contracts of this text ask it: cs's low bytes, coder 0 -/
theorem codOf {cs : List Int32} {n : Nat} (hn : cs.length = n) (hb : ∀ c ∈ cs, ¬ 255 < c) : CodA cs 0 (Int32.ofNat n) ((cs.map lo8).map Value.int) := Or.inl ⟨rfl, by rw [hn], by simp [List.map_map, Function.comp_def], hb⟩
end StrChars.Road
end Jvm.Pilot.@@N@@
namespace Jvm.Pilot.@@N@@
open Jvm Jvm.ClassFile Sem Op Lib Jvm.Free Jvm.Stand Jvm.LawKit Jvm.RoadKit Bundle Jvm.Pilot.@@N@@.Jvm.D
abbrev ym0 : MethodName := ⟨"com/example/mahnwerk/mahnwerk/model/DebtorKindOfPinLaw", "byteAt", "(JI)C"⟩
abbrev ym1 : MethodName := ⟨"java/lang/StringLatin1", "canEncode", "(C)Z"⟩
abbrev ym2 : MethodName := ⟨"java/lang/StringLatin1", "toBytes", "(C)[B"⟩
abbrev ym3 : MethodName := ⟨"java/lang/String", "<init>", "([BB)V"⟩
abbrev ym4 : MethodName := ⟨"java/lang/String", "valueOf", "(C)Ljava/lang/String;"⟩
abbrev ym5 : MethodName := ⟨"java/util/Objects", "requireNonNull", "(Ljava/lang/Object;)Ljava/lang/Object;"⟩
abbrev ym6 : MethodName := ⟨"java/util/Optional", "<init>", "(Ljava/lang/Object;)V"⟩
abbrev ym7 : MethodName := ⟨"java/util/Optional", "of", "(Ljava/lang/Object;)Ljava/util/Optional;"⟩
abbrev ym8 : MethodName := ⟨"java/util/Optional", "empty", "()Ljava/util/Optional;"⟩
abbrev ym9 : MethodName := ⟨"java/util/Optional", "orElse", "(Ljava/lang/Object;)Ljava/lang/Object;"⟩
abbrev ym10 : MethodName := ⟨"com/example/mahnwerk/mahnwerk/model/DebtorKind", "values", "()[Lcom/example/mahnwerk/mahnwerk/model/DebtorKind;"⟩
abbrev ym11 : MethodName := ⟨"java/lang/String", "equals", "(Ljava/lang/Object;)Z"⟩
abbrev ym12 : MethodName := ⟨"com/example/mahnwerk/mahnwerk/model/DebtorKind", "of", "(Ljava/lang/String;)Ljava/util/Optional;"⟩
abbrev ym13 : MethodName := ⟨"java/lang/String", "<init>", "([C)V"⟩
def Goes (p : Program) (e : Env) (below : List Frame) (s : State) (Q : Option Value → Heap → List Loc → Prop) (kc ks : Nat) (A : State) : Prop :=
  ∃ s₂ o, Steps p.tables e below A s₂ ∧ s₂.status = .running ∧ Ended s₂ below o ∧ ∃ v L, o = .returned v ∧ Q v s₂.heap L ∧ FrameEnd s o s₂ L kc ks
abbrev jv (x : Int64) : Slot := .val (.long x)
def QL (w : Option Value) (n0 : Nat) (v : Option Value) (h : Heap) (L : List Loc) : Prop := v = w ∧ Fr n0 L
theorem own_selp {s : State} {args : Array Value} {y : MethodName} {n : Nat} (hins : (Cond.instantiable y.cls n).before args s = true) (hpriv : (Cond.privateMethod y).before args s = true) (hinst : (Cond.instanceMethod y).before args s = true) (hy : y.cls ≠ "java/lang/invoke/MethodHandle" ∧ y.cls ≠ "java/lang/invoke/VarHandle") : (Cond.selects y.cls y y).before args s = true := by
  obtain ⟨c, k, hc, hk, -, hniab, -, -⟩ := Cond.instantiable_spec hins
  exact selects_self_of_private hc hk (Bool.or_eq_false_iff.mp hniab).1 (Cond.privateMethod_at hpriv) hinst hy
def QP (w : Option Value) (h0 : Heap) (n0 : Nat) (v : Option Value) (h : Heap) (L : List Loc) : Prop := v = w ∧ Fr n0 L ∧ h = h0
section OwnGoes
variable {p : Program} {l : Launch} {e : Env} {R : Room} {s : State} {m : MethodId} {args : Array Value} {below : List Frame} {meth : Method} {c : Code} {T : State} {locs : List Loc} {cells slots kc ks : Nat} {Q : Option Value → Heap → List Loc → Prop}
theorem Goes.st {A B : State} (h : ∀ t, Steps p.tables e below B t → Steps p.tables e below A t) (g : Goes p e below s Q kc ks B) : Goes p e below s Q kc ks A := by
  obtain ⟨s₂, o, h1, r⟩ := g
  exact ⟨s₂, o, h _ h1, r⟩
theorem Goes.cast {g g' : JFrame} (q : g = g') (h : Goes p e below s Q kc ks (T.setTop g')) : Goes p e below s Q kc ks (T.setTop g) := q ▸ h
theorem Goes.retI (X : Stand p l e R s m args below meth c T locs cells slots) (hx : p.tables.exec = Jvm.exec) (hlk : meth.locks = false) (hret : meth.sig.returnType = some .int) {pc : Nat} {Ls : Array Slot} {z : Int32} {rest : List Value} (hd : decode c.code pc = .ok (.ireturn, 1)) (hQ : Q (some (.int z)) T.heap locs) (h1 : cells ≤ kc) (h2 : slots ≤ ks) : Goes p e below s Q kc ks (T.setTop (mkF m pc Ls (.int z :: rest))) := by
  obtain ⟨fs, hr, hrun, hended, hW, hsame⟩ := X.leave (v := some (.int z)) (fun h => by rw [hret] at h; cases h)
  exact ⟨_, _, retOut X hx hret rfl (Or.inl ⟨rfl, Or.inl rfl, _, rfl⟩) hd hr, hrun, hended, _, _, rfl, hQ, ⟨_, rfl⟩, hW, hsame.mono h1 h2⟩
theorem Goes.retJ (X : Stand p l e R s m args below meth c T locs cells slots) (hx : p.tables.exec = Jvm.exec) (hlk : meth.locks = false) (hret : meth.sig.returnType = some .long) {pc : Nat} {Ls : Array Slot} {z : Int64} {rest : List Value} (hd : decode c.code pc = .ok (.lreturn, 1)) (hQ : Q (some (.long z)) T.heap locs) (h1 : cells ≤ kc) (h2 : slots ≤ ks) : Goes p e below s Q kc ks (T.setTop (mkF m pc Ls (.long z :: rest))) := by
  obtain ⟨fs, hr, hrun, hended, hW, hsame⟩ := X.leave (v := some (.long z)) (fun h => by rw [hret] at h; cases h)
  exact ⟨_, _, retOut X hx hret rfl (Or.inr (Or.inl ⟨rfl, rfl, _, rfl⟩)) hd hr, hrun, hended, _, _, rfl, hQ, ⟨_, rfl⟩, hW, hsame.mono h1 h2⟩
theorem Goes.retR (X : Stand p l e R s m args below meth c T locs cells slots) (hx : p.tables.exec = Jvm.exec) (hlk : meth.locks = false) {t : FieldType} (hret : meth.sig.returnType = some t) {w : Value} (ht : t.isReference = true) (hw : w.isRef = true) {pc : Nat} {Ls : Array Slot} {rest : List Value} (hd : decode c.code pc = .ok (.areturn, 1)) (hQ : Q (some w) T.heap locs) (h1 : cells ≤ kc) (h2 : slots ≤ ks) : Goes p e below s Q kc ks (T.setTop (mkF m pc Ls (w :: rest))) := by
  obtain ⟨fs, hr, hrun, hended, hW, hsame⟩ := X.leave (v := some w) (fun h => by rw [hret] at h; cases h)
  have hn : narrow t w = w := by cases t <;> cases w <;> first | rfl | (simp [FieldType.isReference] at ht) | (simp [Value.isRef] at hw)
  exact ⟨_, _, retOut X hx hret hn (Or.inr (Or.inr (Or.inr (Or.inr ⟨rfl, ht, hw⟩)))) hd hr, hrun, hended, _, _, rfl, hQ, ⟨_, rfl⟩, hW, hsame.mono h1 h2⟩
theorem Goes.retB (X : Stand p l e R s m args below meth c T locs cells slots) (hx : p.tables.exec = Jvm.exec) (hlk : meth.locks = false) {t : FieldType} (hret : meth.sig.returnType = some t) (ht : t = .boolean ∨ t = .byte ∨ t = .char ∨ t = .short) {pc : Nat} {Ls : Array Slot} {z : Int32} {rest : List Value} (hd : decode c.code pc = .ok (.ireturn, 1)) (hz : nar t z = z) (hQ : Q (some (.int z)) T.heap locs) (h1 : cells ≤ kc) (h2 : slots ≤ ks) : Goes p e below s Q kc ks (T.setTop (mkF m pc Ls (.int z :: rest))) := by
  obtain ⟨fs, hr, hrun, hended, hW, hsame⟩ := X.leave (v := some (.int z)) (fun h => by rw [hret] at h; cases h)
  exact ⟨_, _, retN X hx hret ht hd (by rw [hz]; exact hr), hrun, hended, _, _, rfl, hQ, ⟨_, rfl⟩, hW, hsame.mono h1 h2⟩
theorem Goes.retV (X : Stand p l e R s m args below meth c T locs cells slots) (hx : p.tables.exec = Jvm.exec) (hlk : meth.locks = false) (hret : meth.sig.returnType = none) {pc : Nat} {Ls : Array Slot} (hd : decode c.code pc = .ok (.return_, 1)) (hQ : Q none T.heap locs) (h1 : cells ≤ kc) (h2 : slots ≤ ks) : Goes p e below s Q kc ks (T.setTop (mkF m pc Ls [])) := by
  obtain ⟨fs, hr, hrun, hended, hW, hsame⟩ := X.leave (v := none) (fun _ => rfl)
  exact ⟨_, _, X.returnOut hx hret hd hr, hrun, hended, _, _, rfl, hQ, ⟨_, rfl⟩, hW, hsame.mono h1 h2⟩
end OwnGoes
theorem tltL {x y : Int64} (h : x < y) : ifCond.holds .lt (lcmpW x y) = true ∧ ifCond.holds .ge (lcmpW x y) = false ∧ ifCond.holds .gt (lcmpW y x) = true ∧ ifCond.holds .le (lcmpW y x) = false :=
  ⟨(if0 _ _).trans (tlt ((lw_lt x y).mpr h)).1, (if0 _ _).trans (tlt ((lw_lt x y).mpr h)).2.1, (if0 _ _).trans (tlt ((lw_gt y x).mpr h)).2.2.1, (if0 _ _).trans (tlt ((lw_gt y x).mpr h)).2.2.2⟩
theorem fltL {x y : Int64} (h : ¬ x < y) : ifCond.holds .lt (lcmpW x y) = false ∧ ifCond.holds .ge (lcmpW x y) = true ∧ ifCond.holds .gt (lcmpW y x) = false ∧ ifCond.holds .le (lcmpW y x) = true :=
  ⟨(if0 _ _).trans (flt fun q => h ((lw_lt x y).mp q)).1, (if0 _ _).trans (flt fun q => h ((lw_lt x y).mp q)).2.1, (if0 _ _).trans (flt fun q => h ((lw_gt y x).mp q)).2.2.1, (if0 _ _).trans (flt fun q => h ((lw_gt y x).mp q)).2.2.2⟩
theorem teqL {x y : Int64} (h : x = y) : ifCond.holds .eq (lcmpW x y) = true ∧ ifCond.holds .ne (lcmpW x y) = false :=
  ⟨(if0 _ _).trans (teq ((lw_eq x y).mpr h)).1, (if0 _ _).trans (teq ((lw_eq x y).mpr h)).2⟩
theorem feqL {x y : Int64} (h : ¬ x = y) : ifCond.holds .eq (lcmpW x y) = false ∧ ifCond.holds .ne (lcmpW x y) = true :=
  ⟨(if0 _ _).trans (feq fun q => h ((lw_eq x y).mp q)).1, (if0 _ _).trans (feq fun q => h ((lw_eq x y).mp q)).2⟩
def own_look {α : Type} (i : Nat) : List (Nat × α) → Option α
  | [] => none
  | (j, v) :: r => if i = j then some v else own_look i r
theorem own_look_mem {α : Type} {i : Nat} {v : α} : ∀ {L : List (Nat × α)}, own_look i L = some v → (i, v) ∈ L
  | [], h => by cases h
  | (j, w) :: r, h => by
    unfold own_look at h
    by_cases q : i = j
    · rw [if_pos q] at h; cases h; subst q; exact List.mem_cons_self
    · rw [if_neg q] at h; exact List.mem_cons_of_mem _ (own_look_mem h)
def own_pstep (ci : List (Nat × Int32)) (cl : List (Nat × Int64)) (i : Instr) (n : Nat) (g : JFrame) : Option JFrame :=
  match i with
  | .iload_n k => if n = 1 then (match g.locals[k.val]? with | some (.val (.int v)) => some { g with pc := g.pc + 1, stack := .int v :: g.stack } | _ => none) else none
  | .iload k => if n = 2 then (match g.locals[k]? with | some (.val (.int v)) => some { g with pc := g.pc + 2, stack := .int v :: g.stack } | _ => none) else none
  | .lload_n k => if n = 1 then (match g.locals[k.val]? with | some (.val (.long v)) => some { g with pc := g.pc + 1, stack := .long v :: g.stack } | _ => none) else none
  | .lload k => if n = 2 then (match g.locals[k]? with | some (.val (.long v)) => some { g with pc := g.pc + 2, stack := .long v :: g.stack } | _ => none) else none
  | .aload_n k => if n = 1 then (match g.locals[k.val]? with | some (.val v) => if v.isRef = true then some { g with pc := g.pc + 1, stack := v :: g.stack } else none | _ => none) else none
  | .aload k => if n = 2 then (match g.locals[k]? with | some (.val v) => if v.isRef = true then some { g with pc := g.pc + 2, stack := v :: g.stack } else none | _ => none) else none
  | .istore_n k => if n = 1 then (match g.stack with | .int x :: rest => (match storeLocals g.locals k.val (.int x) with | some l' => some { g with pc := g.pc + 1, stack := rest, locals := l' } | none => none) | _ => none) else none
  | .istore k => if n = 2 then (match g.stack with | .int x :: rest => (match storeLocals g.locals k (.int x) with | some l' => some { g with pc := g.pc + 2, stack := rest, locals := l' } | none => none) | _ => none) else none
  | .lstore_n k => if n = 1 then (match g.stack with | .long x :: rest => (match storeLocals g.locals k.val (.long x) with | some l' => some { g with pc := g.pc + 1, stack := rest, locals := l' } | none => none) | _ => none) else none
  | .lstore k => if n = 2 then (match g.stack with | .long x :: rest => (match storeLocals g.locals k (.long x) with | some l' => some { g with pc := g.pc + 2, stack := rest, locals := l' } | none => none) | _ => none) else none
  | .astore_n k => if n = 1 then (match g.stack with | x :: rest => (if x.isRef = true then (match storeLocals g.locals k.val x with | some l' => some { g with pc := g.pc + 1, stack := rest, locals := l' } | none => none) else none) | _ => none) else none
  | .astore k => if n = 2 then (match g.stack with | x :: rest => (if x.isRef = true then (match storeLocals g.locals k x with | some l' => some { g with pc := g.pc + 2, stack := rest, locals := l' } | none => none) else none) | _ => none) else none
  | .iconst i => if n = 1 then (some { g with pc := g.pc + 1, stack := .int (Int32.ofInt i) :: g.stack }) else none
  | .bipush i => if n = 2 then (some { g with pc := g.pc + 2, stack := .int (Int8.ofInt i).toInt32 :: g.stack }) else none
  | .sipush i => if n = 3 then (some { g with pc := g.pc + 3, stack := .int (Int16.ofInt i).toInt32 :: g.stack }) else none
  | .lconst k => if n = 1 then (some { g with pc := g.pc + 1, stack := .long (Int64.ofNat k) :: g.stack }) else none
  | .aconst_null => if n = 1 then (some { g with pc := g.pc + 1, stack := .null :: g.stack }) else none
  | .iadd => if n = 1 then (match g.stack with | .int y :: .int x :: rest => some { g with pc := g.pc + 1, stack := .int (x + y) :: rest } | _ => none) else none
  | .ladd => if n = 1 then (match g.stack with | .long y :: .long x :: rest => some { g with pc := g.pc + 1, stack := .long (x + y) :: rest } | _ => none) else none
  | .isub => if n = 1 then (match g.stack with | .int y :: .int x :: rest => some { g with pc := g.pc + 1, stack := .int (x - y) :: rest } | _ => none) else none
  | .lsub => if n = 1 then (match g.stack with | .long y :: .long x :: rest => some { g with pc := g.pc + 1, stack := .long (x - y) :: rest } | _ => none) else none
  | .imul => if n = 1 then (match g.stack with | .int y :: .int x :: rest => some { g with pc := g.pc + 1, stack := .int (x * y) :: rest } | _ => none) else none
  | .lmul => if n = 1 then (match g.stack with | .long y :: .long x :: rest => some { g with pc := g.pc + 1, stack := .long (x * y) :: rest } | _ => none) else none
  | .iand => if n = 1 then (match g.stack with | .int y :: .int x :: rest => some { g with pc := g.pc + 1, stack := .int (x &&& y) :: rest } | _ => none) else none
  | .land => if n = 1 then (match g.stack with | .long y :: .long x :: rest => some { g with pc := g.pc + 1, stack := .long (x &&& y) :: rest } | _ => none) else none
  | .ior => if n = 1 then (match g.stack with | .int y :: .int x :: rest => some { g with pc := g.pc + 1, stack := .int (x ||| y) :: rest } | _ => none) else none
  | .lor => if n = 1 then (match g.stack with | .long y :: .long x :: rest => some { g with pc := g.pc + 1, stack := .long (x ||| y) :: rest } | _ => none) else none
  | .ixor => if n = 1 then (match g.stack with | .int y :: .int x :: rest => some { g with pc := g.pc + 1, stack := .int (x ^^^ y) :: rest } | _ => none) else none
  | .lxor => if n = 1 then (match g.stack with | .long y :: .long x :: rest => some { g with pc := g.pc + 1, stack := .long (x ^^^ y) :: rest } | _ => none) else none
  | .ishl => if n = 1 then (match g.stack with | .int y :: .int x :: rest => some { g with pc := g.pc + 1, stack := .int (x <<< (y &&& 31)) :: rest } | _ => none) else none
  | .ishr => if n = 1 then (match g.stack with | .int y :: .int x :: rest => some { g with pc := g.pc + 1, stack := .int (x >>> (y &&& 31)) :: rest } | _ => none) else none
  | .iushr => if n = 1 then (match g.stack with | .int y :: .int x :: rest => some { g with pc := g.pc + 1, stack := .int ((x.toUInt32 >>> (y &&& 31).toUInt32).toInt32) :: rest } | _ => none) else none
  | .lshl => if n = 1 then (match g.stack with | .int y :: .long x :: rest => some { g with pc := g.pc + 1, stack := .long (x <<< (y &&& 0x3f).toInt64) :: rest } | _ => none) else none
  | .lshr => if n = 1 then (match g.stack with | .int y :: .long x :: rest => some { g with pc := g.pc + 1, stack := .long (x >>> (y &&& 0x3f).toInt64) :: rest } | _ => none) else none
  | .lushr => if n = 1 then (match g.stack with | .int y :: .long x :: rest => some { g with pc := g.pc + 1, stack := .long ((x.toUInt64 >>> (y &&& 0x3f).toInt64.toUInt64).toInt64) :: rest } | _ => none) else none
  | .lcmp => if n = 1 then (match g.stack with | .long y :: .long x :: rest => some { g with pc := g.pc + 1, stack := .int (if x > y then 1 else if x = y then 0 else -1) :: rest } | _ => none) else none
  | .ineg => if n = 1 then (match g.stack with | .int v :: rest => some { g with pc := g.pc + 1, stack := .int (-v) :: rest } | _ => none) else none
  | .lneg => if n = 1 then (match g.stack with | .long v :: rest => some { g with pc := g.pc + 1, stack := .long (-v) :: rest } | _ => none) else none
  | .i2l => if n = 1 then (match g.stack with | .int v :: rest => some { g with pc := g.pc + 1, stack := .long (v.toInt64) :: rest } | _ => none) else none
  | .l2i => if n = 1 then (match g.stack with | .long v :: rest => some { g with pc := g.pc + 1, stack := .int (v.toInt32) :: rest } | _ => none) else none
  | .i2b => if n = 1 then (match g.stack with | .int v :: rest => some { g with pc := g.pc + 1, stack := .int (v.toInt8.toInt32) :: rest } | _ => none) else none
  | .i2c => if n = 1 then (match g.stack with | .int v :: rest => some { g with pc := g.pc + 1, stack := .int (v.toUInt32.toUInt16.toUInt32.toInt32) :: rest } | _ => none) else none
  | .i2s => if n = 1 then (match g.stack with | .int v :: rest => some { g with pc := g.pc + 1, stack := .int (v.toInt16.toInt32) :: rest } | _ => none) else none
  | .iinc k cst => if n = 3 then (match g.locals[k]? with | some (.val (.int x)) => (match storeLocals g.locals k (.int (x + Int32.ofInt cst)) with | some l' => some { g with pc := g.pc + 3, locals := l' } | none => none) | _ => none) else none
  | .dup => if n = 1 then (match g.stack with | x :: rest => (if x.category = 1 then some { g with pc := g.pc + 1, stack := x :: x :: rest } else none) | _ => none) else none
  | .pop => if n = 1 then (match g.stack with | x :: rest => (if x.category = 1 then some { g with pc := g.pc + 1, stack := rest } else none) | _ => none) else none
  | .goto o => if n = 3 then (if 0 ≤ (g.pc : Int) + o then some { g with pc := ((g.pc : Int) + o).toNat } else none) else none
  | .ldc i => if n = 2 then (match own_look i ci with | some v => some { g with pc := g.pc + 2, stack := .int v :: g.stack } | none => none) else none
  | .ldc_w i => if n = 3 then (match own_look i ci with | some v => some { g with pc := g.pc + 3, stack := .int v :: g.stack } | none => none) else none
  | .ldc2_w i => if n = 3 then (match own_look i cl with | some v => some { g with pc := g.pc + 3, stack := .long v :: g.stack } | none => none) else none
  | .idiv => if n = 1 then (match g.stack with | .int y :: .int x :: rest => (if y = 0 then none else some { g with pc := g.pc + 1, stack := .int (x / y) :: rest }) | _ => none) else none
  | .irem => if n = 1 then (match g.stack with | .int y :: .int x :: rest => (if y = 0 then none else some { g with pc := g.pc + 1, stack := .int (x - (x / y) * y) :: rest }) | _ => none) else none
  | .ldiv => if n = 1 then (match g.stack with | .long y :: .long x :: rest => (if y = 0 then none else some { g with pc := g.pc + 1, stack := .long (x / y) :: rest }) | _ => none) else none
  | .lrem => if n = 1 then (match g.stack with | .long y :: .long x :: rest => (if y = 0 then none else some { g with pc := g.pc + 1, stack := .long (x - (x / y) * y) :: rest }) | _ => none) else none
  | _ => none
section OwnRun
variable {p : Program} {l : Launch} {e : Env} {R : Room} {s : State} {m : MethodId} {args : Array Value} {below : List Frame} {meth : Method} {c : Code} {T target : State} {locs : List Loc} {cells slots kc ks : Nat} {own : String} {ci : List (Nat × Int32)} {cl : List (Nat × Int64)} {Q : Option Value → Heap → List Loc → Prop}
set_option maxHeartbeats 4000000 in
theorem own_pstep_ok (X : Stand p l e R s m args below meth c T locs cells slots) (hx : p.tables.exec = Jvm.exec) (hown : s.vm.findClass own = some m.cls) (hci : ∀ i v, (i, v) ∈ ci → (Cond.constant own i v).before args s = true) (hcl : ∀ i v, (i, v) ∈ cl → (Cond.constantLong own i v).before args s = true)
    {g g' : JFrame} (hg : g.method = m) {i : Instr} {n : Nat} (hd : decode c.code g.pc = .ok (i, n)) (hp : own_pstep ci cl i n g = some g') : (∀ target, Steps p.tables e below (T.setTop g') target → Steps p.tables e below (T.setTop g) target) ∧ g'.method = m := by
  cases i
  all_goals first
    | (exact absurd hp (by intro q; cases q))
    | skip
  case iload_n k =>
    by_cases hn : n = 1
    · subst hn
      replace hp : (match g.locals[k.val]? with | some (.val (.int v)) => some { g with pc := g.pc + 1, stack := .int v :: g.stack } | _ => none) = some g' := hp
      split at hp
      · skip
        cases hp
        exact ⟨fun _ hr => XS.iloadN X.here hx hg hd (by assumption) hr, hg⟩
      · cases hp
    · exact absurd hp (by intro q; rw [show own_pstep ci cl (.iload_n k) n g = none from if_neg hn] at q; cases q)
  case iload k =>
    by_cases hn : n = 2
    · subst hn
      replace hp : (match g.locals[k]? with | some (.val (.int v)) => some { g with pc := g.pc + 2, stack := .int v :: g.stack } | _ => none) = some g' := hp
      split at hp
      · skip
        cases hp
        exact ⟨fun _ hr => XS.iload X.here hx hg hd (by assumption) hr, hg⟩
      · cases hp
    · exact absurd hp (by intro q; rw [show own_pstep ci cl (.iload k) n g = none from if_neg hn] at q; cases q)
  case lload_n k =>
    by_cases hn : n = 1
    · subst hn
      replace hp : (match g.locals[k.val]? with | some (.val (.long v)) => some { g with pc := g.pc + 1, stack := .long v :: g.stack } | _ => none) = some g' := hp
      split at hp
      · skip
        cases hp
        exact ⟨fun _ hr => XS.lloadN X.here hx hg hd (by assumption) hr, hg⟩
      · cases hp
    · exact absurd hp (by intro q; rw [show own_pstep ci cl (.lload_n k) n g = none from if_neg hn] at q; cases q)
  case lload k =>
    by_cases hn : n = 2
    · subst hn
      replace hp : (match g.locals[k]? with | some (.val (.long v)) => some { g with pc := g.pc + 2, stack := .long v :: g.stack } | _ => none) = some g' := hp
      split at hp
      · skip
        cases hp
        exact ⟨fun _ hr => XS.lload X.here hx hg hd (by assumption) hr, hg⟩
      · cases hp
    · exact absurd hp (by intro q; rw [show own_pstep ci cl (.lload k) n g = none from if_neg hn] at q; cases q)
  case aload_n k =>
    by_cases hn : n = 1
    · subst hn
      replace hp : (match g.locals[k.val]? with | some (.val v) => if v.isRef = true then some { g with pc := g.pc + 1, stack := v :: g.stack } else none | _ => none) = some g' := hp
      split at hp
      · skip
        split at hp
        · skip
          cases hp
          exact ⟨fun _ hr => XS.aloadN X.here hx hg hd (by assumption) (by assumption) hr, hg⟩
        · cases hp
      · cases hp
    · exact absurd hp (by intro q; rw [show own_pstep ci cl (.aload_n k) n g = none from if_neg hn] at q; cases q)
  case aload k =>
    by_cases hn : n = 2
    · subst hn
      replace hp : (match g.locals[k]? with | some (.val v) => if v.isRef = true then some { g with pc := g.pc + 2, stack := v :: g.stack } else none | _ => none) = some g' := hp
      split at hp
      · skip
        split at hp
        · skip
          cases hp
          exact ⟨fun _ hr => XS.aload X.here hx hg hd (by assumption) (by assumption) hr, hg⟩
        · cases hp
      · cases hp
    · exact absurd hp (by intro q; rw [show own_pstep ci cl (.aload k) n g = none from if_neg hn] at q; cases q)
  case istore_n k =>
    by_cases hn : n = 1
    · subst hn
      replace hp : (match g.stack with | .int x :: rest => (match storeLocals g.locals k.val (.int x) with | some l' => some { g with pc := g.pc + 1, stack := rest, locals := l' } | none => none) | _ => none) = some g' := hp
      split at hp
      · skip
        split at hp
        · skip
          cases hp
          exact ⟨fun _ hr => XS.istoreN X.here hx hg hd (by assumption) (by assumption) hr, hg⟩
        · cases hp
      · cases hp
    · exact absurd hp (by intro q; rw [show own_pstep ci cl (.istore_n k) n g = none from if_neg hn] at q; cases q)
  case istore k =>
    by_cases hn : n = 2
    · subst hn
      replace hp : (match g.stack with | .int x :: rest => (match storeLocals g.locals k (.int x) with | some l' => some { g with pc := g.pc + 2, stack := rest, locals := l' } | none => none) | _ => none) = some g' := hp
      split at hp
      · skip
        split at hp
        · skip
          cases hp
          exact ⟨fun _ hr => XS.istore X.here hx hg hd (by assumption) (by assumption) hr, hg⟩
        · cases hp
      · cases hp
    · exact absurd hp (by intro q; rw [show own_pstep ci cl (.istore k) n g = none from if_neg hn] at q; cases q)
  case lstore_n k =>
    by_cases hn : n = 1
    · subst hn
      replace hp : (match g.stack with | .long x :: rest => (match storeLocals g.locals k.val (.long x) with | some l' => some { g with pc := g.pc + 1, stack := rest, locals := l' } | none => none) | _ => none) = some g' := hp
      split at hp
      · skip
        split at hp
        · skip
          cases hp
          exact ⟨fun _ hr => XS.lstoreN X.here hx hg hd (by assumption) (by assumption) hr, hg⟩
        · cases hp
      · cases hp
    · exact absurd hp (by intro q; rw [show own_pstep ci cl (.lstore_n k) n g = none from if_neg hn] at q; cases q)
  case lstore k =>
    by_cases hn : n = 2
    · subst hn
      replace hp : (match g.stack with | .long x :: rest => (match storeLocals g.locals k (.long x) with | some l' => some { g with pc := g.pc + 2, stack := rest, locals := l' } | none => none) | _ => none) = some g' := hp
      split at hp
      · skip
        split at hp
        · skip
          cases hp
          exact ⟨fun _ hr => XS.lstore X.here hx hg hd (by assumption) (by assumption) hr, hg⟩
        · cases hp
      · cases hp
    · exact absurd hp (by intro q; rw [show own_pstep ci cl (.lstore k) n g = none from if_neg hn] at q; cases q)
  case astore_n k =>
    by_cases hn : n = 1
    · subst hn
      replace hp : (match g.stack with | x :: rest => (if x.isRef = true then (match storeLocals g.locals k.val x with | some l' => some { g with pc := g.pc + 1, stack := rest, locals := l' } | none => none) else none) | _ => none) = some g' := hp
      split at hp
      · skip
        split at hp
        · skip
          split at hp
          · skip
            cases hp
            exact ⟨fun _ hr => XS.astoreN X.here hx hg hd (by assumption) (by assumption) (by assumption) hr, hg⟩
          · cases hp
        · cases hp
      · cases hp
    · exact absurd hp (by intro q; rw [show own_pstep ci cl (.astore_n k) n g = none from if_neg hn] at q; cases q)
  case astore k =>
    by_cases hn : n = 2
    · subst hn
      replace hp : (match g.stack with | x :: rest => (if x.isRef = true then (match storeLocals g.locals k x with | some l' => some { g with pc := g.pc + 2, stack := rest, locals := l' } | none => none) else none) | _ => none) = some g' := hp
      split at hp
      · skip
        split at hp
        · skip
          split at hp
          · skip
            cases hp
            exact ⟨fun _ hr => XS.astore X.here hx hg hd (by assumption) (by assumption) (by assumption) hr, hg⟩
          · cases hp
        · cases hp
      · cases hp
    · exact absurd hp (by intro q; rw [show own_pstep ci cl (.astore k) n g = none from if_neg hn] at q; cases q)
  case iconst i =>
    by_cases hn : n = 1
    · subst hn
      replace hp : (some { g with pc := g.pc + 1, stack := .int (Int32.ofInt i) :: g.stack }) = some g' := hp
      cases hp
      exact ⟨fun _ hr => XS.iconst X.here hx hg hd hr, hg⟩
    · exact absurd hp (by intro q; rw [show own_pstep ci cl (.iconst i) n g = none from if_neg hn] at q; cases q)
  case bipush i =>
    by_cases hn : n = 2
    · subst hn
      replace hp : (some { g with pc := g.pc + 2, stack := .int (Int8.ofInt i).toInt32 :: g.stack }) = some g' := hp
      cases hp
      exact ⟨fun _ hr => XS.bipush X.here hx hg hd hr, hg⟩
    · exact absurd hp (by intro q; rw [show own_pstep ci cl (.bipush i) n g = none from if_neg hn] at q; cases q)
  case sipush i =>
    by_cases hn : n = 3
    · subst hn
      replace hp : (some { g with pc := g.pc + 3, stack := .int (Int16.ofInt i).toInt32 :: g.stack }) = some g' := hp
      cases hp
      exact ⟨fun _ hr => XS.sipush X.here hx hg hd hr, hg⟩
    · exact absurd hp (by intro q; rw [show own_pstep ci cl (.sipush i) n g = none from if_neg hn] at q; cases q)
  case lconst k =>
    by_cases hn : n = 1
    · subst hn
      replace hp : (some { g with pc := g.pc + 1, stack := .long (Int64.ofNat k) :: g.stack }) = some g' := hp
      cases hp
      exact ⟨fun _ hr => XS.lconst X.here hx hg hd hr, hg⟩
    · exact absurd hp (by intro q; rw [show own_pstep ci cl (.lconst k) n g = none from if_neg hn] at q; cases q)
  case aconst_null =>
    by_cases hn : n = 1
    · subst hn
      replace hp : (some { g with pc := g.pc + 1, stack := .null :: g.stack }) = some g' := hp
      cases hp
      exact ⟨fun _ hr => XS.aconstNull X.here hx hg hd hr, hg⟩
    · exact absurd hp (by intro q; rw [show own_pstep ci cl (.aconst_null) n g = none from if_neg hn] at q; cases q)
  case iadd =>
    by_cases hn : n = 1
    · subst hn
      replace hp : (match g.stack with | .int y :: .int x :: rest => some { g with pc := g.pc + 1, stack := .int (x + y) :: rest } | _ => none) = some g' := hp
      split at hp
      · skip
        cases hp
        exact ⟨fun _ hr => XS.iadd X.here hx hg hd (by assumption) hr, hg⟩
      · cases hp
    · exact absurd hp (by intro q; rw [show own_pstep ci cl (.iadd) n g = none from if_neg hn] at q; cases q)
  case ladd =>
    by_cases hn : n = 1
    · subst hn
      replace hp : (match g.stack with | .long y :: .long x :: rest => some { g with pc := g.pc + 1, stack := .long (x + y) :: rest } | _ => none) = some g' := hp
      split at hp
      · skip
        cases hp
        exact ⟨fun _ hr => XS.ladd X.here hx hg hd (by assumption) hr, hg⟩
      · cases hp
    · exact absurd hp (by intro q; rw [show own_pstep ci cl (.ladd) n g = none from if_neg hn] at q; cases q)
  case isub =>
    by_cases hn : n = 1
    · subst hn
      replace hp : (match g.stack with | .int y :: .int x :: rest => some { g with pc := g.pc + 1, stack := .int (x - y) :: rest } | _ => none) = some g' := hp
      split at hp
      · skip
        cases hp
        exact ⟨fun _ hr => XS.isub X.here hx hg hd (by assumption) hr, hg⟩
      · cases hp
    · exact absurd hp (by intro q; rw [show own_pstep ci cl (.isub) n g = none from if_neg hn] at q; cases q)
  case lsub =>
    by_cases hn : n = 1
    · subst hn
      replace hp : (match g.stack with | .long y :: .long x :: rest => some { g with pc := g.pc + 1, stack := .long (x - y) :: rest } | _ => none) = some g' := hp
      split at hp
      · skip
        cases hp
        exact ⟨fun _ hr => XS.lsub X.here hx hg hd (by assumption) hr, hg⟩
      · cases hp
    · exact absurd hp (by intro q; rw [show own_pstep ci cl (.lsub) n g = none from if_neg hn] at q; cases q)
  case imul =>
    by_cases hn : n = 1
    · subst hn
      replace hp : (match g.stack with | .int y :: .int x :: rest => some { g with pc := g.pc + 1, stack := .int (x * y) :: rest } | _ => none) = some g' := hp
      split at hp
      · skip
        cases hp
        exact ⟨fun _ hr => XS.imul X.here hx hg hd (by assumption) hr, hg⟩
      · cases hp
    · exact absurd hp (by intro q; rw [show own_pstep ci cl (.imul) n g = none from if_neg hn] at q; cases q)
  case lmul =>
    by_cases hn : n = 1
    · subst hn
      replace hp : (match g.stack with | .long y :: .long x :: rest => some { g with pc := g.pc + 1, stack := .long (x * y) :: rest } | _ => none) = some g' := hp
      split at hp
      · skip
        cases hp
        exact ⟨fun _ hr => XS.lmul X.here hx hg hd (by assumption) hr, hg⟩
      · cases hp
    · exact absurd hp (by intro q; rw [show own_pstep ci cl (.lmul) n g = none from if_neg hn] at q; cases q)
  case iand =>
    by_cases hn : n = 1
    · subst hn
      replace hp : (match g.stack with | .int y :: .int x :: rest => some { g with pc := g.pc + 1, stack := .int (x &&& y) :: rest } | _ => none) = some g' := hp
      split at hp
      · skip
        cases hp
        exact ⟨fun _ hr => XS.iand X.here hx hg hd (by assumption) hr, hg⟩
      · cases hp
    · exact absurd hp (by intro q; rw [show own_pstep ci cl (.iand) n g = none from if_neg hn] at q; cases q)
  case land =>
    by_cases hn : n = 1
    · subst hn
      replace hp : (match g.stack with | .long y :: .long x :: rest => some { g with pc := g.pc + 1, stack := .long (x &&& y) :: rest } | _ => none) = some g' := hp
      split at hp
      · skip
        cases hp
        exact ⟨fun _ hr => XS.land X.here hx hg hd (by assumption) hr, hg⟩
      · cases hp
    · exact absurd hp (by intro q; rw [show own_pstep ci cl (.land) n g = none from if_neg hn] at q; cases q)
  case ior =>
    by_cases hn : n = 1
    · subst hn
      replace hp : (match g.stack with | .int y :: .int x :: rest => some { g with pc := g.pc + 1, stack := .int (x ||| y) :: rest } | _ => none) = some g' := hp
      split at hp
      · skip
        cases hp
        exact ⟨fun _ hr => XS.ior X.here hx hg hd (by assumption) hr, hg⟩
      · cases hp
    · exact absurd hp (by intro q; rw [show own_pstep ci cl (.ior) n g = none from if_neg hn] at q; cases q)
  case lor =>
    by_cases hn : n = 1
    · subst hn
      replace hp : (match g.stack with | .long y :: .long x :: rest => some { g with pc := g.pc + 1, stack := .long (x ||| y) :: rest } | _ => none) = some g' := hp
      split at hp
      · skip
        cases hp
        exact ⟨fun _ hr => XS.lor X.here hx hg hd (by assumption) hr, hg⟩
      · cases hp
    · exact absurd hp (by intro q; rw [show own_pstep ci cl (.lor) n g = none from if_neg hn] at q; cases q)
  case ixor =>
    by_cases hn : n = 1
    · subst hn
      replace hp : (match g.stack with | .int y :: .int x :: rest => some { g with pc := g.pc + 1, stack := .int (x ^^^ y) :: rest } | _ => none) = some g' := hp
      split at hp
      · skip
        cases hp
        exact ⟨fun _ hr => XS.ixor X.here hx hg hd (by assumption) hr, hg⟩
      · cases hp
    · exact absurd hp (by intro q; rw [show own_pstep ci cl (.ixor) n g = none from if_neg hn] at q; cases q)
  case lxor =>
    by_cases hn : n = 1
    · subst hn
      replace hp : (match g.stack with | .long y :: .long x :: rest => some { g with pc := g.pc + 1, stack := .long (x ^^^ y) :: rest } | _ => none) = some g' := hp
      split at hp
      · skip
        cases hp
        exact ⟨fun _ hr => XS.lxor X.here hx hg hd (by assumption) hr, hg⟩
      · cases hp
    · exact absurd hp (by intro q; rw [show own_pstep ci cl (.lxor) n g = none from if_neg hn] at q; cases q)
  case ishl =>
    by_cases hn : n = 1
    · subst hn
      replace hp : (match g.stack with | .int y :: .int x :: rest => some { g with pc := g.pc + 1, stack := .int (x <<< (y &&& 31)) :: rest } | _ => none) = some g' := hp
      split at hp
      · skip
        cases hp
        exact ⟨fun _ hr => XS.ishl X.here hx hg hd (by assumption) hr, hg⟩
      · cases hp
    · exact absurd hp (by intro q; rw [show own_pstep ci cl (.ishl) n g = none from if_neg hn] at q; cases q)
  case ishr =>
    by_cases hn : n = 1
    · subst hn
      replace hp : (match g.stack with | .int y :: .int x :: rest => some { g with pc := g.pc + 1, stack := .int (x >>> (y &&& 31)) :: rest } | _ => none) = some g' := hp
      split at hp
      · skip
        cases hp
        exact ⟨fun _ hr => XS.ishr X.here hx hg hd (by assumption) hr, hg⟩
      · cases hp
    · exact absurd hp (by intro q; rw [show own_pstep ci cl (.ishr) n g = none from if_neg hn] at q; cases q)
  case iushr =>
    by_cases hn : n = 1
    · subst hn
      replace hp : (match g.stack with | .int y :: .int x :: rest => some { g with pc := g.pc + 1, stack := .int ((x.toUInt32 >>> (y &&& 31).toUInt32).toInt32) :: rest } | _ => none) = some g' := hp
      split at hp
      · skip
        cases hp
        exact ⟨fun _ hr => XS.iushr X.here hx hg hd (by assumption) hr, hg⟩
      · cases hp
    · exact absurd hp (by intro q; rw [show own_pstep ci cl (.iushr) n g = none from if_neg hn] at q; cases q)
  case lshl =>
    by_cases hn : n = 1
    · subst hn
      replace hp : (match g.stack with | .int y :: .long x :: rest => some { g with pc := g.pc + 1, stack := .long (x <<< (y &&& 0x3f).toInt64) :: rest } | _ => none) = some g' := hp
      split at hp
      · skip
        cases hp
        exact ⟨fun _ hr => XS.lshl X.here hx hg hd (by assumption) hr, hg⟩
      · cases hp
    · exact absurd hp (by intro q; rw [show own_pstep ci cl (.lshl) n g = none from if_neg hn] at q; cases q)
  case lshr =>
    by_cases hn : n = 1
    · subst hn
      replace hp : (match g.stack with | .int y :: .long x :: rest => some { g with pc := g.pc + 1, stack := .long (x >>> (y &&& 0x3f).toInt64) :: rest } | _ => none) = some g' := hp
      split at hp
      · skip
        cases hp
        exact ⟨fun _ hr => XS.lshr X.here hx hg hd (by assumption) hr, hg⟩
      · cases hp
    · exact absurd hp (by intro q; rw [show own_pstep ci cl (.lshr) n g = none from if_neg hn] at q; cases q)
  case lushr =>
    by_cases hn : n = 1
    · subst hn
      replace hp : (match g.stack with | .int y :: .long x :: rest => some { g with pc := g.pc + 1, stack := .long ((x.toUInt64 >>> (y &&& 0x3f).toInt64.toUInt64).toInt64) :: rest } | _ => none) = some g' := hp
      split at hp
      · skip
        cases hp
        exact ⟨fun _ hr => XS.lushr X.here hx hg hd (by assumption) hr, hg⟩
      · cases hp
    · exact absurd hp (by intro q; rw [show own_pstep ci cl (.lushr) n g = none from if_neg hn] at q; cases q)
  case lcmp =>
    by_cases hn : n = 1
    · subst hn
      replace hp : (match g.stack with | .long y :: .long x :: rest => some { g with pc := g.pc + 1, stack := .int (if x > y then 1 else if x = y then 0 else -1) :: rest } | _ => none) = some g' := hp
      split at hp
      · skip
        cases hp
        exact ⟨fun _ hr => XS.lcmp X.here hx hg hd (by assumption) hr, hg⟩
      · cases hp
    · exact absurd hp (by intro q; rw [show own_pstep ci cl (.lcmp) n g = none from if_neg hn] at q; cases q)
  case ineg =>
    by_cases hn : n = 1
    · subst hn
      replace hp : (match g.stack with | .int v :: rest => some { g with pc := g.pc + 1, stack := .int (-v) :: rest } | _ => none) = some g' := hp
      split at hp
      · skip
        cases hp
        exact ⟨fun _ hr => XS.ineg X.here hx hg hd (by assumption) hr, hg⟩
      · cases hp
    · exact absurd hp (by intro q; rw [show own_pstep ci cl (.ineg) n g = none from if_neg hn] at q; cases q)
  case lneg =>
    by_cases hn : n = 1
    · subst hn
      replace hp : (match g.stack with | .long v :: rest => some { g with pc := g.pc + 1, stack := .long (-v) :: rest } | _ => none) = some g' := hp
      split at hp
      · skip
        cases hp
        exact ⟨fun _ hr => XS.lneg X.here hx hg hd (by assumption) hr, hg⟩
      · cases hp
    · exact absurd hp (by intro q; rw [show own_pstep ci cl (.lneg) n g = none from if_neg hn] at q; cases q)
  case i2l =>
    by_cases hn : n = 1
    · subst hn
      replace hp : (match g.stack with | .int v :: rest => some { g with pc := g.pc + 1, stack := .long (v.toInt64) :: rest } | _ => none) = some g' := hp
      split at hp
      · skip
        cases hp
        exact ⟨fun _ hr => XS.i2l X.here hx hg hd (by assumption) hr, hg⟩
      · cases hp
    · exact absurd hp (by intro q; rw [show own_pstep ci cl (.i2l) n g = none from if_neg hn] at q; cases q)
  case l2i =>
    by_cases hn : n = 1
    · subst hn
      replace hp : (match g.stack with | .long v :: rest => some { g with pc := g.pc + 1, stack := .int (v.toInt32) :: rest } | _ => none) = some g' := hp
      split at hp
      · skip
        cases hp
        exact ⟨fun _ hr => XS.l2i X.here hx hg hd (by assumption) hr, hg⟩
      · cases hp
    · exact absurd hp (by intro q; rw [show own_pstep ci cl (.l2i) n g = none from if_neg hn] at q; cases q)
  case i2b =>
    by_cases hn : n = 1
    · subst hn
      replace hp : (match g.stack with | .int v :: rest => some { g with pc := g.pc + 1, stack := .int (v.toInt8.toInt32) :: rest } | _ => none) = some g' := hp
      split at hp
      · skip
        cases hp
        exact ⟨fun _ hr => XS.i2b X.here hx hg hd (by assumption) hr, hg⟩
      · cases hp
    · exact absurd hp (by intro q; rw [show own_pstep ci cl (.i2b) n g = none from if_neg hn] at q; cases q)
  case i2c =>
    by_cases hn : n = 1
    · subst hn
      replace hp : (match g.stack with | .int v :: rest => some { g with pc := g.pc + 1, stack := .int (v.toUInt32.toUInt16.toUInt32.toInt32) :: rest } | _ => none) = some g' := hp
      split at hp
      · skip
        cases hp
        exact ⟨fun _ hr => XS.i2c X.here hx hg hd (by assumption) hr, hg⟩
      · cases hp
    · exact absurd hp (by intro q; rw [show own_pstep ci cl (.i2c) n g = none from if_neg hn] at q; cases q)
  case i2s =>
    by_cases hn : n = 1
    · subst hn
      replace hp : (match g.stack with | .int v :: rest => some { g with pc := g.pc + 1, stack := .int (v.toInt16.toInt32) :: rest } | _ => none) = some g' := hp
      split at hp
      · skip
        cases hp
        exact ⟨fun _ hr => XS.i2s X.here hx hg hd (by assumption) hr, hg⟩
      · cases hp
    · exact absurd hp (by intro q; rw [show own_pstep ci cl (.i2s) n g = none from if_neg hn] at q; cases q)
  case iinc k cst =>
    by_cases hn : n = 3
    · subst hn
      replace hp : (match g.locals[k]? with | some (.val (.int x)) => (match storeLocals g.locals k (.int (x + Int32.ofInt cst)) with | some l' => some { g with pc := g.pc + 3, locals := l' } | none => none) | _ => none) = some g' := hp
      split at hp
      · skip
        split at hp
        · skip
          cases hp
          exact ⟨fun _ hr => XS.iinc X.here hx hg hd (by assumption) (by assumption) hr, hg⟩
        · cases hp
      · cases hp
    · exact absurd hp (by intro q; rw [show own_pstep ci cl (.iinc k cst) n g = none from if_neg hn] at q; cases q)
  case dup =>
    by_cases hn : n = 1
    · subst hn
      replace hp : (match g.stack with | x :: rest => (if x.category = 1 then some { g with pc := g.pc + 1, stack := x :: x :: rest } else none) | _ => none) = some g' := hp
      split at hp
      · skip
        split at hp
        · skip
          cases hp
          exact ⟨fun _ hr => XS.dup X.here hx hg hd (by assumption) (by assumption) hr, hg⟩
        · cases hp
      · cases hp
    · exact absurd hp (by intro q; rw [show own_pstep ci cl (.dup) n g = none from if_neg hn] at q; cases q)
  case pop =>
    by_cases hn : n = 1
    · subst hn
      replace hp : (match g.stack with | x :: rest => (if x.category = 1 then some { g with pc := g.pc + 1, stack := rest } else none) | _ => none) = some g' := hp
      split at hp
      · skip
        split at hp
        · skip
          cases hp
          exact ⟨fun _ hr => XS.pop X.here hx hg hd (by assumption) (by assumption) hr, hg⟩
        · cases hp
      · cases hp
    · exact absurd hp (by intro q; rw [show own_pstep ci cl (.pop) n g = none from if_neg hn] at q; cases q)
  case goto o =>
    by_cases hn : n = 3
    · subst hn
      replace hp : (if 0 ≤ (g.pc : Int) + o then some { g with pc := ((g.pc : Int) + o).toNat } else none) = some g' := hp
      split at hp
      · skip
        cases hp
        exact ⟨fun _ hr => XS.goto X.here hx hg rfl hd (by assumption) rfl hr, hg⟩
      · cases hp
    · exact absurd hp (by intro q; rw [show own_pstep ci cl (.goto o) n g = none from if_neg hn] at q; cases q)
  case ldc i =>
    by_cases hn : n = 2
    · subst hn
      replace hp : (match own_look i ci with | some v => some { g with pc := g.pc + 2, stack := .int v :: g.stack } | none => none) = some g' := hp
      split at hp
      · skip
        cases hp
        exact ⟨fun _ hr => X.ldcInt hx hown (hci _ _ (own_look_mem (by assumption))) hg hd _ hr, hg⟩
      · cases hp
    · exact absurd hp (by intro q; rw [show own_pstep ci cl (.ldc i) n g = none from if_neg hn] at q; cases q)
  case ldc_w i =>
    by_cases hn : n = 3
    · subst hn
      replace hp : (match own_look i ci with | some v => some { g with pc := g.pc + 3, stack := .int v :: g.stack } | none => none) = some g' := hp
      split at hp
      · skip
        cases hp
        exact ⟨fun _ hr => X.ldcwInt hx hown (hci _ _ (own_look_mem (by assumption))) hg hd _ hr, hg⟩
      · cases hp
    · exact absurd hp (by intro q; rw [show own_pstep ci cl (.ldc_w i) n g = none from if_neg hn] at q; cases q)
  case ldc2_w i =>
    by_cases hn : n = 3
    · subst hn
      replace hp : (match own_look i cl with | some v => some { g with pc := g.pc + 3, stack := .long v :: g.stack } | none => none) = some g' := hp
      split at hp
      · skip
        cases hp
        exact ⟨fun _ hr => X.ldc2Long hx hown (hcl _ _ (own_look_mem (by assumption))) hg hd _ hr, hg⟩
      · cases hp
    · exact absurd hp (by intro q; rw [show own_pstep ci cl (.ldc2_w i) n g = none from if_neg hn] at q; cases q)
  case idiv =>
    by_cases hn : n = 1
    · subst hn
      replace hp : (match g.stack with | .int y :: .int x :: rest => (if y = 0 then none else some { g with pc := g.pc + 1, stack := .int (x / y) :: rest }) | _ => none) = some g' := hp
      split at hp
      · skip
        split at hp
        · cases hp
        · cases hp; exact ⟨fun _ hr => XS.idiv X.here hx hg hd (by assumption) (by assumption) hr, hg⟩
      · cases hp
    · exact absurd hp (by intro q; rw [show own_pstep ci cl (.idiv) n g = none from if_neg hn] at q; cases q)
  case irem =>
    by_cases hn : n = 1
    · subst hn
      replace hp : (match g.stack with | .int y :: .int x :: rest => (if y = 0 then none else some { g with pc := g.pc + 1, stack := .int (x - (x / y) * y) :: rest }) | _ => none) = some g' := hp
      split at hp
      · skip
        split at hp
        · cases hp
        · cases hp; exact ⟨fun _ hr => XS.irem X.here hx hg hd (by assumption) (by assumption) hr, hg⟩
      · cases hp
    · exact absurd hp (by intro q; rw [show own_pstep ci cl (.irem) n g = none from if_neg hn] at q; cases q)
  case ldiv =>
    by_cases hn : n = 1
    · subst hn
      replace hp : (match g.stack with | .long y :: .long x :: rest => (if y = 0 then none else some { g with pc := g.pc + 1, stack := .long (x / y) :: rest }) | _ => none) = some g' := hp
      split at hp
      · skip
        split at hp
        · cases hp
        · cases hp; exact ⟨fun _ hr => XS.ldiv X.here hx hg hd (by assumption) (by assumption) hr, hg⟩
      · cases hp
    · exact absurd hp (by intro q; rw [show own_pstep ci cl (.ldiv) n g = none from if_neg hn] at q; cases q)
  case lrem =>
    by_cases hn : n = 1
    · subst hn
      replace hp : (match g.stack with | .long y :: .long x :: rest => (if y = 0 then none else some { g with pc := g.pc + 1, stack := .long (x - (x / y) * y) :: rest }) | _ => none) = some g' := hp
      split at hp
      · skip
        split at hp
        · cases hp
        · cases hp; exact ⟨fun _ hr => XS.lrem X.here hx hg hd (by assumption) (by assumption) hr, hg⟩
      · cases hp
    · exact absurd hp (by intro q; rw [show own_pstep ci cl (.lrem) n g = none from if_neg hn] at q; cases q)
def own_decs (code : ByteArray) (L : List (Nat × Instr × Nat)) : Bool := L.all fun q => decide (decode code q.1 = .ok (q.2.1, q.2.2))
def own_prun (ci : List (Nat × Int32)) (cl : List (Nat × Int64)) : List (Nat × Instr × Nat) → JFrame → Option JFrame
  | [], g => some g
  | (pc, i, n) :: r, g => if g.pc = pc then (match own_pstep ci cl i n g with | some g' => own_prun ci cl r g' | none => none) else none
theorem own_prun_ok (X : Stand p l e R s m args below meth c T locs cells slots) (hx : p.tables.exec = Jvm.exec) (hown : s.vm.findClass own = some m.cls) (hci : ∀ i v, (i, v) ∈ ci → (Cond.constant own i v).before args s = true) (hcl : ∀ i v, (i, v) ∈ cl → (Cond.constantLong own i v).before args s = true) {code : ByteArray} (hby : c.code = code) :
    ∀ (L : List (Nat × Instr × Nat)) (g g' : JFrame), g.method = m → own_decs code L = true → own_prun ci cl L g = some g' → Steps p.tables e below (T.setTop g') target → Steps p.tables e below (T.setTop g) target := by
  intro L
  induction L with
  | nil => intro g g' _ _ hp hr; cases hp; exact hr
  | cons q r ih =>
    intro g g' hg hd hp hr
    obtain ⟨pc, i, n⟩ := q
    have hd' : decide (decode code pc = .ok (i, n)) = true ∧ own_decs code r = true := by
      have : (decide (decode code pc = .ok (i, n)) && own_decs code r) = true := hd
      simpa using this
    replace hp : (if g.pc = pc then (match own_pstep ci cl i n g with | some g' => own_prun ci cl r g' | none => none) else none) = some g' := hp
    by_cases hpc : g.pc = pc
    · rw [if_pos hpc] at hp
      cases hs : own_pstep ci cl i n g with
      | none => rw [hs] at hp; cases hp
      | some g1 =>
        rw [hs] at hp
        have q := own_pstep_ok X hx hown hci hcl hg (i := i) (n := n) (by rw [hby, hpc]; exact of_decide_eq_true hd'.1) hs
        exact q.1 _ (ih g1 g' q.2 hd'.2 hp hr)
    · rw [if_neg hpc] at hp; cases hp
theorem Goes.run (X : Stand p l e R s m args below meth c T locs cells slots) (hx : p.tables.exec = Jvm.exec) (hown : s.vm.findClass own = some m.cls) (hci : ∀ i v, (i, v) ∈ ci → (Cond.constant own i v).before args s = true) (hcl : ∀ i v, (i, v) ∈ cl → (Cond.constantLong own i v).before args s = true) {code : ByteArray} (hby : c.code = code)
    {L : List (Nat × Instr × Nat)} (hd : own_decs code L = true) {g g' : JFrame} (hg : g.method = m) (hp : own_prun ci cl L g = some g') (h : Goes p e below s Q kc ks (T.setTop g')) : Goes p e below s Q kc ks (T.setTop g) :=
  Goes.st (fun _ k => own_prun_ok X hx hown hci hcl hby L g g' hg hd hp k) h
theorem own_ci0 {α : Type} {P : Nat → α → Prop} : ∀ i v, (i, v) ∈ ([] : List (Nat × α)) → P i v := fun _ _ q => nomatch q
theorem own_ciS {α : Type} {P : Nat → α → Prop} {j : Nat} {w : α} {L : List (Nat × α)} (h : P j w) (r : ∀ i v, (i, v) ∈ L → P i v) : ∀ i v, (i, v) ∈ (j, w) :: L → P i v := fun i v q => (List.mem_cons.mp q).elim (fun z => by cases z; exact h) (r i v)
end OwnRun
theorem own_rem32 (x y : Int32) : (x - (x / y) * y).toInt = x.toInt.tmod y.toInt := by
  have a := (x % y).toInt_lt; have b := (x % y).le_toInt
  rw [Int32.toInt_mod] at a b
  rw [Int32.toInt_sub, Int32.toInt_mul, Int32.toInt_div, Int.bmod_mul_bmod, Int.sub_bmod_bmod, Int.mul_comm, ← Int.tmod_def]
  exact Jvm.Kit.bmod32 b a
section OwnNums
variable {x y : Int64} {u v : Int32} {a b : Int}
theorem own_r32 (hx : u.toInt = a) (hy : v.toInt = b) (h0 : 0 ≤ a) : (u - (u / v) * v).toInt = a % b := by subst hx hy; rw [own_rem32, Int.tmod_eq_emod_of_nonneg h0]
theorem own_r64 (hx : x.toInt = a) (hy : y.toInt = b) (h0 : 0 ≤ a) : (x - (x / y) * y).toInt = a % b := by subst hx hy; rw [Jvm.Kit.i64_rem, Int.tmod_eq_emod_of_nonneg h0]
theorem own_mul64 (hx : x.toInt = a) (hy : y.toInt = b) (h1 : -2 ^ 63 ≤ a * b) (h2 : a * b < 2 ^ 63) : (x * y).toInt = a * b := by subst hx hy; exact Jvm.Kit.i64_mul h1 h2
theorem own_mul32 (hx : u.toInt = a) (hy : v.toInt = b) (h1 : -2 ^ 31 ≤ a * b) (h2 : a * b < 2 ^ 31) : (u * v).toInt = a * b := by subst hx hy; exact Jvm.Kit.i32_mul h1 h2
theorem own_add64 (hx : x.toInt = a) (hy : y.toInt = b) (h1 : -2 ^ 63 ≤ a + b) (h2 : a + b < 2 ^ 63) : (x + y).toInt = a + b := by subst hx hy; exact Jvm.Kit.i64_add h1 h2
theorem own_add32 (hx : u.toInt = a) (hy : v.toInt = b) (h1 : -2 ^ 31 ≤ a + b) (h2 : a + b < 2 ^ 31) : (u + v).toInt = a + b := by subst hx hy; exact Jvm.Kit.i32_add h1 h2
theorem own_sub64 (hx : x.toInt = a) (hy : y.toInt = b) (h1 : -2 ^ 63 ≤ a - b) (h2 : a - b < 2 ^ 63) : (x - y).toInt = a - b := by subst hx hy; exact Jvm.Kit.i64_sub h1 h2
theorem own_sub32 (hx : u.toInt = a) (hy : v.toInt = b) (h1 : -2 ^ 31 ≤ a - b) (h2 : a - b < 2 ^ 31) : (u - v).toInt = a - b := by subst hx hy; exact Jvm.Kit.i32_sub h1 h2
theorem own_i2l (hx : u.toInt = a) : u.toInt64.toInt = a := by subst hx; exact Jvm.Kit.i64_of_i32 u
theorem own_lt64 (hx : x.toInt = a) (hy : y.toInt = b) : x < y ↔ a < b := by rw [Int64.lt_iff_toInt_lt, hx, hy]
theorem own_lt32 (hx : u.toInt = a) (hy : v.toInt = b) : u < v ↔ a < b := by rw [Int32.lt_iff_toInt_lt, hx, hy]
theorem own_eq64 (hx : x.toInt = a) (hy : y.toInt = b) : x = y ↔ a = b := by rw [← Int64.toInt_inj, hx, hy]
theorem own_eq32 (hx : u.toInt = a) (hy : v.toInt = b) : u = v ↔ a = b := by rw [← Int32.toInt_inj, hx, hy]
theorem own_m32 (u : Int32) (m : Int32) {k : Nat} (hk : k < 32) (hm : m.toBitVec.toNat = 2 ^ k - 1) : ∃ a : Int, (u &&& m).toInt = a ∧ 0 ≤ a ∧ a < 2 ^ k ∧ a = u.toInt % 2 ^ k := by
  refine ⟨_, Jvm.Kit.i32_mask u m hk hm, Int.emod_nonneg _ (Int.ne_of_gt (Int.pow_pos (by decide))), Int.emod_lt_of_pos _ (Int.pow_pos (by decide)), rfl⟩
theorem own_m64 (x : Int64) (m : Int64) {k : Nat} (hk : k < 64) (hm : m.toBitVec.toNat = 2 ^ k - 1) : ∃ a : Int, (x &&& m).toInt = a ∧ 0 ≤ a ∧ a < 2 ^ k ∧ a = x.toInt % 2 ^ k := by
  refine ⟨_, Jvm.Kit.i64_mask x m hk hm, Int.emod_nonneg _ (Int.ne_of_gt (Int.pow_pos (by decide))), Int.emod_lt_of_pos _ (Int.pow_pos (by decide)), rfl⟩
theorem own_nm {P : Int → Prop} {z : Int} (h : P z) : ∃ a, a = z ∧ P a := ⟨z, rfl, h⟩
end OwnNums
theorem own_nat32 {u : Int32} {a : Int} (hu : u.toInt = a) (h0 : 0 ≤ a) {N : Nat} (h1 : a < N) : ∃ n : Nat, n < N ∧ u = Int32.ofNat n ∧ a = (n : Int) := by
  have q := u.toInt_lt
  refine ⟨a.toNat, by omega, ?_, by omega⟩
  apply Int32.toInt_inj.mp
  rw [Int32.toInt_ofNat_of_lt (by omega), hu]; omega
theorem own_bv64 {x : Int64} {a : Int} (hx : x.toInt = a) (h0 : 0 ≤ a) : (x.toBitVec.toNat : Int) = a := by
  have e : x.toInt = x.toBitVec.toInt := rfl
  have hb := x.toBitVec.isLt
  rw [e, BitVec.toInt_eq_toNat_cond] at hx
  split at hx <;> omega
theorem own_bv32 {x : Int32} {a : Int} (hx : x.toInt = a) (h0 : 0 ≤ a) : (x.toBitVec.toNat : Int) = a := by
  have e : x.toInt = x.toBitVec.toInt := rfl
  have hb := x.toBitVec.isLt
  rw [e, BitVec.toInt_eq_toNat_cond] at hx
  split at hx <;> omega
theorem own_shn (y : Int32) : ((y &&& 0x3f).toInt64.toUInt64).toNat < 64 := by
  obtain ⟨a, h1, h2, h3, -⟩ := own_m32 y (0x3f : Int32) (k := 6) (by decide) (by decide)
  have h4 := own_bv64 (own_i2l h1) h2
  have e : ((y &&& 0x3f).toInt64.toUInt64).toNat = (y &&& 0x3f).toInt64.toBitVec.toNat := rfl
  rw [e]
  omega
theorem own_ushr0 {x : Int64} {a : Int} (hx : x.toInt = a) (h0 : 0 ≤ a) (y : Int32) : ∃ b : Int, ((x.toUInt64 >>> (y &&& 0x3f).toInt64.toUInt64).toInt64).toInt = b ∧ 0 ≤ b ∧ b ≤ a := by
  refine ⟨_, Jvm.Kit.i64_lushr (by rw [Jvm.Kit.i64_nonneg, hx]; exact h0) rfl (own_shn y), ?_, ?_⟩
  · rw [hx]; exact Int.ediv_nonneg h0 (Int.le_of_lt (Int.pow_pos (by decide)))
  · rw [hx]; exact Int.ediv_le_self _ h0
theorem own_ushrk {x : Int64} {a : Int} (hx : x.toInt = a) (h0 : 0 ≤ a) {n : UInt64} {k : Nat} (hn : n.toNat = k) (hk : k < 64) {d : Int} (hd : (2 : Int) ^ k = d) : ((x.toUInt64 >>> n).toInt64).toInt = a / d := by
  rw [Jvm.Kit.i64_lushr (by rw [Jvm.Kit.i64_nonneg, hx]; exact h0) hn hk, hx, hd]
theorem own_ofbv32 {x : Int32} (h : x.toBitVec.toNat < 2 ^ 31) : x.toInt = (x.toBitVec.toNat : Int) := by
  have e : x.toInt = x.toBitVec.toInt := rfl
  rw [e, BitVec.toInt_eq_toNat_cond, if_pos (by omega)]
theorem own_xor32 {x y : Int32} {a b : Int} (hx : x.toInt = a) (hy : y.toInt = b) (h0 : 0 ≤ a) (h1 : 0 ≤ b) : ∃ c : Int, (x ^^^ y).toInt = c ∧ 0 ≤ c := by
  have p := own_bv32 hx h0; have q := own_bv32 hy h1
  have r := x.toInt_lt; have s := y.toInt_lt
  have e : (x ^^^ y).toBitVec.toNat = x.toBitVec.toNat ^^^ y.toBitVec.toNat := by simp [Int32.toBitVec_xor, BitVec.toNat_xor]
  have l : (x ^^^ y).toBitVec.toNat < 2 ^ 31 := by rw [e]; exact Nat.xor_lt_two_pow (by omega) (by omega)
  exact ⟨_, own_ofbv32 l, Int.natCast_nonneg _⟩
theorem own_up {cs : List Int32} (h : ∀ c ∈ cs, ¬ c < 0 ∧ ¬ (255 : Int32) < c) : ∀ c ∈ cs, ¬ c < 0 ∧ ¬ (65535 : Int32) < c := fun c hc => ⟨(h c hc).1, fun q => (h c hc).2 (Int32.lt_trans (by decide) q)⟩
theorem own_hws {Z : State} {a0 : Array Value} (hw : ∀ d ∈ tables_1, d.before a0 Z = true) : ∀ d ∈ StrChars.Road.words, d.before a0 Z = true := fun d hd => hw d ((by decide +kernel : ∀ d ∈ StrChars.Road.words, d ∈ tables_1) d hd)
theorem own_heq {Z : State} {a0 : Array Value} (hw : ∀ d ∈ tables_1, d.before a0 Z = true) : ∀ d ∈ StrChars.Road.wordsEq, d.before a0 Z = true := fun d hd => hw d ((by decide +kernel : ∀ d ∈ StrChars.Road.wordsEq, d ∈ tables_1) d hd)
def own_eqr (a b : List Int32) : Int32 := if a = b then 1 else 0
theorem own_eqv {v : Option Value} {a b : List Int32} (h : (v = some (.int 1) ∧ a = b) ∨ (v = some (.int 0) ∧ ¬ a = b)) : v = some (.int (own_eqr a b)) := by
  unfold own_eqr
  rcases h with ⟨rfl, q⟩ | ⟨rfl, q⟩
  · rw [if_pos q]
  · rw [if_neg q]
theorem own_sym (a b : List Int32) : own_eqr a b = own_eqr b a := by
  unfold own_eqr
  by_cases h : a = b
  · rw [if_pos h, if_pos h.symm]
  · rw [if_neg h, if_neg fun q => h q.symm]
theorem own_eq01 (a b : List Int32) (h : ¬ own_eqr a b = 0) : own_eqr a b = 1 := by
  unfold own_eqr at *
  split
  · rfl
  · rename_i q; rw [if_neg q] at h; exact absurd rfl h
theorem own_narc (u : Int32) : nar .char (u.toUInt32.toUInt16.toUInt32.toInt32) = u.toUInt32.toUInt16.toUInt32.toInt32 := by
  show (u.toUInt32.toUInt16.toUInt32.toInt32).toUInt32.toUInt16.toUInt32.toInt32 = _
  have e : (u.toUInt32.toUInt16.toUInt32.toInt32.toUInt32) = u.toUInt32.toUInt16.toUInt32 := rfl
  rw [e, UInt16.toUInt16_toUInt32]
theorem own_nb8 (u : Int32) : nar .byte (u.toInt8.toInt32) = u.toInt8.toInt32 := by
  show (u.toInt8.toInt32).toInt8.toInt32 = _
  simp
def own_val (a b : Addr) (x y : Int32) : Value := if x = 0 then (if y = 0 then .null else .ref b) else .ref a
abbrev csC : List Int32 := [99, 111, 110, 115, 117, 109, 101, 114]
abbrev csB : List Int32 := [98, 117, 115, 105, 110, 101, 115, 115]
theorem own_hC : ∀ c ∈ csC, ¬ c < 0 ∧ ¬ (255 : Int32) < c := by decide
theorem own_hB : ∀ c ∈ csB, ¬ c < 0 ∧ ¬ (255 : Int32) < c := by decide
theorem d1_12 : decode method_2_code 12 = .ok (.ireturn, 1) := by decide +kernel
theorem pn1 : plainName "com/example/mahnwerk/mahnwerk/model/DebtorKindOfPinLaw" = true := by first | (simp [plainName, overriddenIn]; done) | decide +kernel
theorem ef1 (m : MethodId) (x0 : Int64) (x1 : Int32) : entryFrame m #[(.long x0), (.int x1)] 3 = (mkF m 0 #[jv x0, .second, iv x1] []) := by first | (simp [entryFrame, mkF, argsToLocals, Value.category]; done) | rfl
def r1 (x0 : Int64) (x1 : Int32) : Int32 := (((((x0.toUInt64 >>> (((8 : Int32) * x1) &&& 0x3f).toInt64.toUInt64).toInt64) &&& (255 : Int64)).toInt32).toUInt32.toUInt16.toUInt32.toInt32)
set_option maxRecDepth 65536 in
set_option maxHeartbeats 40000000 in
theorem rm1 (l : Launch) (Z : State) (a0 : Array Value) (hw : ∀ d ∈ tables_1, d.before a0 Z = true) (ws : List Jvm.Cond) (x0 : Int64) (x1 : Int32) (h0 : Heap) (n0 : Nat) (Z0 : n0 ≤ h0.size) :
    MetFree l ym0 (head1 (Jvm.Cond.code ym0 method_2_code 3 (some .char) :: ws) ({ frames := 0, cells := 0, slots := 0, locals := 0 } : Room)) (fun a U => a = #[(.long x0), (.int x1)] ∧ Z.Warmed39 U.vm ∧ U.heap = h0) (fun _ _ _ _ _ => True) (fun _ U o U' => ∃ v L, o = .returned v ∧ (QP (some (.int (r1 x0 x1))) h0 n0) v U'.heap L ∧ FrameEnd U o U' L ({ frames := 0, cells := 0, slots := 0, locals := 0 } : Room).cells ({ frames := 0, cells := 0, slots := 0, locals := 0 } : Room).slots) := by
  refine MetFree.of_bodySF (plainFor_of_name pn1) hisR ?_
  intro p e s m args below meth c s₁ Bd hml0 hP hK
  obtain ⟨rfl, hZ, hh⟩ := hP
  have hx := Bd.exec
  have hby := Bd.bytes
  have hml : c.maxLocals = 3 := hml0
  have hlk : meth.locks = false := BodyLoose.notSynchronized Bd
  have hown : s.vm.findClass "com/example/mahnwerk/mahnwerk/model/DebtorKindOfPinLaw" = some m.cls := findClass_of_methodNamed Bd.named
  have hnm := (name_of_methodNamed Bd.named Bd.method).1
  have w_97 := hw _ (List.mem_of_getElem? (i := 97) rfl)
  have w_102 := hw _ (List.mem_of_getElem? (i := 102) rfl)
  have hci : ∀ i v, (i, v) ∈ ([(15, 2147483647)] : List (Nat × Int32)) → (Jvm.Cond.constant "com/example/mahnwerk/mahnwerk/model/DebtorKindOfPinLaw" i v).before #[(.long x0), (.int x1)] s = true := (own_ciS (mvT hZ w_102) own_ci0)
  have hcl : ∀ i v, (i, v) ∈ ([(7, 255)] : List (Nat × Int64)) → (Jvm.Cond.constantLong "com/example/mahnwerk/mahnwerk/model/DebtorKindOfPinLaw" i v).before #[(.long x0), (.int x1)] s = true := (own_ciS (mvT hZ w_97) own_ci0)
  have X0 : Stand p l e ({ frames := 0, cells := 0, slots := 0, locals := 0 } : Room) s m #[(.long x0), (.int x1)] below meth c s₁ [] 0 0 := Stand.of_body Bd
  have e0 : s₁.heap = h0 := by rw [← hh, Bd.state]; rfl
  have N0 := Fr.nil n0
  show Goes p e below s (QP (some (.int (r1 x0 x1))) h0 n0) ({ frames := 0, cells := 0, slots := 0, locals := 0 } : Room).cells ({ frames := 0, cells := 0, slots := 0, locals := 0 } : Room).slots (s₁.setTop (entryFrame m #[(.long x0), (.int x1)] 3))
  refine Goes.cast (ef1 m x0 x1) ?_
  refine Goes.run X0 hx hown hci hcl hby (L := [(0, .lload_n 0, 1), (1, .bipush 8, 2), (3, .iload_n 2, 1), (4, .imul, 1), (5, .lushr, 1), (6, .ldc2_w 7, 3)]) (by decide +kernel) rfl (g' := (mkF m 9 #[jv x0, .second, iv x1] [(.long (255 : Int64)), (.long ((x0.toUInt64 >>> (((8 : Int32) * x1) &&& 0x3f).toInt64.toUInt64).toInt64))])) rfl ?_
  refine Goes.run X0 hx hown hci hcl hby (L := [(9, .land, 1), (10, .l2i, 1), (11, .i2c, 1)]) (by decide +kernel) rfl (g' := (mkF m 12 #[jv x0, .second, iv x1] [(.int (((((x0.toUInt64 >>> (((8 : Int32) * x1) &&& 0x3f).toInt64.toUInt64).toInt64) &&& (255 : Int64)).toInt32).toUInt32.toUInt16.toUInt32.toInt32))])) rfl ?_
  exact Goes.retB X0 hx hlk (t := .char) Bd.returns (by simp) (hb hby d1_12) (own_narc _) ⟨(congrArg (fun z => some (Value.int z)) (show (r1 x0 x1) = (((((x0.toUInt64 >>> (((8 : Int32) * x1) &&& 0x3f).toInt64.toUInt64).toInt64) &&& (255 : Int64)).toInt32).toUInt32.toUInt16.toUInt32.toInt32) from rfl).symm), N0, e0⟩ (by decide) (by decide)
theorem d2_4 : decode jdk_43_method_3_code 4 = .ok (.if_icmp .gt 7, 3) := by decide +kernel
theorem d2_12 : decode jdk_43_method_3_code 12 = .ok (.ireturn, 1) := by decide +kernel
theorem pn2 : plainName "java/lang/StringLatin1" = true := by first | (simp [plainName, overriddenIn]; done) | decide +kernel
theorem ef2 (m : MethodId) (x0 : Int32) : entryFrame m #[(.int x0)] 1 = (mkF m 0 #[iv x0] []) := by first | (simp [entryFrame, mkF, argsToLocals, Value.category]; done) | rfl
def r2 (x0 : Int32) : Int32 := (1 : Int32)
set_option maxRecDepth 65536 in
set_option maxHeartbeats 40000000 in
theorem rm2 (l : Launch) (Z : State) (a0 : Array Value) (hw : ∀ d ∈ tables_1, d.before a0 Z = true) (ws : List Jvm.Cond) (x0 : Int32) (h0 : Heap) (n0 : Nat) (Z0 : n0 ≤ h0.size) (p1 : ¬ (255 : Int32) < x0) :
    MetFree l ym1 (head1 (Jvm.Cond.code ym1 jdk_43_method_3_code 1 (some .boolean) :: ws) ({ frames := 0, cells := 0, slots := 0, locals := 0 } : Room)) (fun a U => a = #[(.int x0)] ∧ Z.Warmed39 U.vm ∧ U.heap = h0) (fun _ _ _ _ _ => True) (fun _ U o U' => ∃ v L, o = .returned v ∧ (QP (some (.int (r2 x0))) h0 n0) v U'.heap L ∧ FrameEnd U o U' L ({ frames := 0, cells := 0, slots := 0, locals := 0 } : Room).cells ({ frames := 0, cells := 0, slots := 0, locals := 0 } : Room).slots) := by
  refine MetFree.of_bodySF (plainFor_of_name pn2) hisR ?_
  intro p e s m args below meth c s₁ Bd hml0 hP hK
  obtain ⟨rfl, hZ, hh⟩ := hP
  have hx := Bd.exec
  have hby := Bd.bytes
  have hml : c.maxLocals = 1 := hml0
  have hlk : meth.locks = false := BodyLoose.notSynchronized Bd
  have hown : s.vm.findClass "java/lang/StringLatin1" = some m.cls := findClass_of_methodNamed Bd.named
  have hnm := (name_of_methodNamed Bd.named Bd.method).1
  have hci : ∀ i v, (i, v) ∈ ([] : List (Nat × Int32)) → (Jvm.Cond.constant "java/lang/StringLatin1" i v).before #[(.int x0)] s = true := own_ci0
  have hcl : ∀ i v, (i, v) ∈ ([] : List (Nat × Int64)) → (Jvm.Cond.constantLong "java/lang/StringLatin1" i v).before #[(.int x0)] s = true := own_ci0
  have X0 : Stand p l e ({ frames := 0, cells := 0, slots := 0, locals := 0 } : Room) s m #[(.int x0)] below meth c s₁ [] 0 0 := Stand.of_body Bd
  have e0 : s₁.heap = h0 := by rw [← hh, Bd.state]; rfl
  have N0 := Fr.nil n0
  show Goes p e below s (QP (some (.int (r2 x0))) h0 n0) ({ frames := 0, cells := 0, slots := 0, locals := 0 } : Room).cells ({ frames := 0, cells := 0, slots := 0, locals := 0 } : Room).slots (s₁.setTop (entryFrame m #[(.int x0)] 1))
  refine Goes.cast (ef2 m x0) ?_
  refine Goes.run X0 hx hown hci hcl hby (L := [(0, .iload_n 0, 1), (1, .sipush 255, 3)]) (by decide +kernel) rfl (g' := (mkF m 4 #[iv x0] [(.int (255 : Int32)), (.int x0)])) rfl ?_
  have hc4_1 : ¬ ((255 : Int32) < x0) := p1
  refine Goes.st (B := s₁.setTop (mkF m 7 #[iv x0] [])) (fun t k => ?_) ?_
  · refine XS.icmpNo X0.here hx rfl (hb hby d2_4) rfl (flt hc4_1).2.2.1 ?_
    exact k
  refine Goes.run X0 hx hown hci hcl hby (L := [(7, .iconst 1, 1), (8, .goto 4, 3)]) (by decide +kernel) rfl (g' := (mkF m 12 #[iv x0] [(.int (1 : Int32))])) rfl ?_
  exact Goes.retB X0 hx hlk (t := .boolean) Bd.returns (by simp) (hb hby d2_12) rfl ⟨(congrArg (fun z => some (Value.int z)) (show (r2 x0) = (1 : Int32) from rfl).symm), N0, e0⟩ (by decide) (by decide)
theorem d3_1 : decode jdk_43_method_46_code 1 = .ok (.newarray .byte, 2) := by decide +kernel
theorem d3_7 : decode jdk_43_method_46_code 7 = .ok (.bastore, 1) := by decide +kernel
theorem d3_8 : decode jdk_43_method_46_code 8 = .ok (.areturn, 1) := by decide +kernel
theorem pn3 : plainName "java/lang/StringLatin1" = true := by first | (simp [plainName, overriddenIn]; done) | decide +kernel
theorem ef3 (m : MethodId) (x0 : Int32) : entryFrame m #[(.int x0)] 1 = (mkF m 0 #[iv x0] []) := by first | (simp [entryFrame, mkF, argsToLocals, Value.category]; done) | rfl
def w3_7 (x0 : Int32) : Int32 := (nar .byte (x0.toInt8.toInt32))
def Q3 (Z : State) (x0 : Int32) (h0 : Heap) (n0 : Nat) (v : Option Value) (h : Heap) (L : List Loc) : Prop := ∃ (b : Addr) (k : ClassId), v = some (.ref b) ∧ Fr n0 L ∧ Keep h0 h [] ∧ h0.size ≤ b ∧ Exa Z h b "[B" ∧ Arv Z h b k .byte (1 : Int32) [(.int (w3_7 x0))] (.int (0 : Int32))
set_option maxRecDepth 65536 in
set_option maxHeartbeats 40000000 in
theorem rm3 (l : Launch) (Z : State) (a0 : Array Value) (hw : ∀ d ∈ tables_1, d.before a0 Z = true) (ws : List Jvm.Cond) (x0 : Int32) (h0 : Heap) (n0 : Nat) (Z0 : n0 ≤ h0.size) :
    MetFree l ym2 (head1 (Jvm.Cond.code ym2 jdk_43_method_46_code 1 (some (.array .byte)) :: ws) ({ frames := 0, cells := 1, slots := 1, locals := 0 } : Room)) (fun a U => a = #[(.int x0)] ∧ Z.Warmed39 U.vm ∧ U.heap = h0) (fun _ _ _ _ _ => True) (fun _ U o U' => ∃ v L, o = .returned v ∧ (Q3 Z x0 h0 n0) v U'.heap L ∧ FrameEnd U o U' L ({ frames := 0, cells := 1, slots := 1, locals := 0 } : Room).cells ({ frames := 0, cells := 1, slots := 1, locals := 0 } : Room).slots) := by
  refine MetFree.of_bodySF (plainFor_of_name pn3) hisR ?_
  intro p e s m args below meth c s₁ Bd hml0 hP hK
  obtain ⟨rfl, hZ, hh⟩ := hP
  have hx := Bd.exec
  have hby := Bd.bytes
  have hml : c.maxLocals = 1 := hml0
  have hlk : meth.locks = false := BodyLoose.notSynchronized Bd
  have hown : s.vm.findClass "java/lang/StringLatin1" = some m.cls := findClass_of_methodNamed Bd.named
  have hnm := (name_of_methodNamed Bd.named Bd.method).1
  have w_19 := hw _ (List.mem_of_getElem? (i := 19) rfl)
  have hci : ∀ i v, (i, v) ∈ ([] : List (Nat × Int32)) → (Jvm.Cond.constant "java/lang/StringLatin1" i v).before #[(.int x0)] s = true := own_ci0
  have hcl : ∀ i v, (i, v) ∈ ([] : List (Nat × Int64)) → (Jvm.Cond.constantLong "java/lang/StringLatin1" i v).before #[(.int x0)] s = true := own_ci0
  have X0 : Stand p l e ({ frames := 0, cells := 1, slots := 1, locals := 0 } : Room) s m #[(.int x0)] below meth c s₁ [] 0 0 := Stand.of_body Bd
  have e0 : s₁.heap = h0 := by rw [← hh, Bd.state]; rfl
  have N0 := Fr.nil n0
  show Goes p e below s (Q3 Z x0 h0 n0) ({ frames := 0, cells := 1, slots := 1, locals := 0 } : Room).cells ({ frames := 0, cells := 1, slots := 1, locals := 0 } : Room).slots (s₁.setTop (entryFrame m #[(.int x0)] 1))
  refine Goes.cast (ef3 m x0) ?_
  have K0 : Keep h0 h0 [] := Keep.refl h0 _
  refine Goes.run X0 hx hown hci hcl hby (L := [(0, .iconst 1, 1)]) (by decide +kernel) rfl (g' := (mkF m 1 #[iv x0] [(.int (1 : Int32))])) rfl ?_
  obtain ⟨T1, h1, k1, X1, e1, E1, A1, B1, st1⟩ := newPE X0 hx hZ (aty := .byte) w_19 e0 (g := (mkF m 1 #[iv x0] [(.int (1 : Int32))])) rfl (hb hby d3_1) rfl (by decide) (cap := 1) (by decide) (by decide) (by decide) (by decide) (ad := "[B") (by decide)
  obtain ⟨b1, g1⟩ : ∃ z, z = h0.size := ⟨_, rfl⟩
  rw [← g1] at A1 B1 st1
  have g_b1 : n0 ≤ b1 := Nat.le_trans Z0 (Nat.le_of_eq g1.symm)
  have sz_b1 : h0.size ≤ b1 := Nat.le_trans K0.1 (Nat.le_of_eq g1.symm)
  have Zn1 : n0 ≤ h1.size := Nat.le_trans Z0 E1.1
  have K1 := K0.ext E1
  have E_b1 : Exa Z h1 b1 "[B" := B1
  have V_b1 : Arv Z h1 b1 k1 .byte (1 : Int32) [(.int (0 : Int32))] (.int (0 : Int32)) := (Arv.new A1 (by decide)).pad (pad_rep [] (.int (0 : Int32)) 1)
  refine Goes.st (B := T1.setTop (mkF m 3 #[iv x0] [(.ref b1)])) st1 ?_
  refine Goes.run X1 hx hown hci hcl hby (L := [(3, .dup, 1), (4, .iconst 0, 1), (5, .iload_n 0, 1), (6, .i2b, 1)]) (by decide +kernel) rfl (g' := (mkF m 7 #[iv x0] [(.int (x0.toInt8.toInt32)), (.int (0 : Int32)), (.ref b1), (.ref b1)])) rfl ?_
  obtain ⟨cl2, Ar2, q2, S2, M2, Hs2, G2⟩ := id V_b1
  have hin2 : ¬ ((0 : Int32) < 0 ∨ cl2.slots.size ≤ ((0 : Int32)).toNatClampNeg) := inb_of S2 ⟨(by decide), (by decide)⟩
  obtain ⟨T2, h2, X2, e2, W2, st2⟩ := stB X1 hx hZ e1 Ar2 (j := (0 : Int32)) hin2 (g := (mkF m 7 #[iv x0] [(.int (x0.toInt8.toInt32)), (.int (0 : Int32)), (.ref b1), (.ref b1)])) rfl rfl (hb hby d3_7)
  have E_b1 := E_b1.wr W2
  have Zn2 : n0 ≤ h2.size := Nat.le_trans Zn1 (Keep.of_wr W2).1
  have K2 := K1.wr W2 (Or.inr sz_b1)
  have N2 := Fr.snoc X2 N0 g_b1
  have V_b1 : Arv Z h2 b1 k1 .byte (1 : Int32) [(.int (w3_7 x0))] (.int (0 : Int32)) := Arv.set Ar2 q2 S2 M2 Hs2 G2 (fits_nar_byte _) W2 0 rfl (Nat.le_of_ble_eq_true rfl)
  refine Goes.st (B := T2.setTop (mkF m 8 #[iv x0] [(.ref b1)])) st2 ?_
  refine Goes.retR X2 hx hlk Bd.returns rfl rfl (hb hby d3_8) ?_ (by decide) (by decide)
  show (Q3 Z x0 h0 n0) _ _ _
  rw [e2]
  exact ⟨b1, k1, rfl, N2, K2, sz_b1, E_b1, V_b1⟩
theorem d4_1 : decode jdk_42_method_151_code 1 = .ok (.invokespecial 1, 3) := by decide +kernel
theorem d4_6 : decode jdk_42_method_151_code 6 = .ok (.putfield 9, 3) := by decide +kernel
theorem d4_11 : decode jdk_42_method_151_code 11 = .ok (.putfield 15, 3) := by decide +kernel
theorem d4_14 : decode jdk_42_method_151_code 14 = .ok (.return_, 1) := by decide +kernel
theorem pn4 : plainName "java/lang/String" = true := by first | (simp [plainName, overriddenIn]; done) | decide +kernel
theorem ef4 (m : MethodId) (x0 : Addr) (x1 : Addr) : entryFrame m #[(.ref x0), (.ref x1), (.int (0 : Int32))] 3 = (mkF m 0 #[rv x0, rv x1, iv (0 : Int32)] []) := by first | (simp [entryFrame, mkF, argsToLocals, Value.category]; done) | rfl
def Q4 (Z : State) (x0 : Addr) (x1 : Addr) (h0 : Heap) (n0 : Nat) (v : Option Value) (h : Heap) (L : List Loc) : Prop := v = none ∧ Fr n0 L ∧ Keep h0 h [x0] ∧ Exa Z h x0 "java/lang/String" ∧ Fld Z h x0 "java/lang/String" "value" "[B" (.ref x1) ∧ Fld Z h x0 "java/lang/String" "coder" "B" (.int (0 : Int32))
set_option maxRecDepth 65536 in
set_option maxHeartbeats 40000000 in
theorem rm4 (l : Launch) (Z : State) (a0 : Array Value) (hw : ∀ d ∈ tables_1, d.before a0 Z = true) (ws : List Jvm.Cond) (x0 : Addr) (x1 : Addr) (h0 : Heap) (n0 : Nat) (Z0 : n0 ≤ h0.size) (E_x0 : Exa Z h0 x0 "java/lang/String") (F_value_x0 : Fld Z h0 x0 "java/lang/String" "value" "[B" .null) (F_coder_x0 : Fld Z h0 x0 "java/lang/String" "coder" "B" (.int (0 : Int32))) (g_x0 : n0 ≤ x0) :
    MetFree l ym3 (head1 (Jvm.Cond.code ym3 jdk_42_method_151_code 3 none :: ws) ({ frames := 1, cells := 0, slots := 0, locals := 12 } : Room)) (fun a U => a = #[(.ref x0), (.ref x1), (.int (0 : Int32))] ∧ Z.Warmed39 U.vm ∧ U.heap = h0) (fun _ _ _ _ _ => True) (fun _ U o U' => ∃ v L, o = .returned v ∧ (Q4 Z x0 x1 h0 n0) v U'.heap L ∧ FrameEnd U o U' L ({ frames := 1, cells := 0, slots := 0, locals := 12 } : Room).cells ({ frames := 1, cells := 0, slots := 0, locals := 12 } : Room).slots) := by
  refine MetFree.of_bodySF (plainFor_of_name pn4) hisR ?_
  intro p e s m args below meth c s₁ Bd hml0 hP hK
  obtain ⟨rfl, hZ, hh⟩ := hP
  have hx := Bd.exec
  have hby := Bd.bytes
  have hml : c.maxLocals = 3 := hml0
  have hlk : meth.locks = false := BodyLoose.notSynchronized Bd
  have hown : s.vm.findClass "java/lang/String" = some m.cls := findClass_of_methodNamed Bd.named
  have hnm := (name_of_methodNamed Bd.named Bd.method).1
  have w_2 := hw _ (List.mem_of_getElem? (i := 2) rfl)
  have w_11 := hw _ (List.mem_of_getElem? (i := 11) rfl)
  have w_12 := hw _ (List.mem_of_getElem? (i := 12) rfl)
  have w_13 := hw _ (List.mem_of_getElem? (i := 13) rfl)
  have w_26 := hw _ (List.mem_of_getElem? (i := 26) rfl)
  have w_27 := hw _ (List.mem_of_getElem? (i := 27) rfl)
  have w_28 := hw _ (List.mem_of_getElem? (i := 28) rfl)
  have w_29 := hw _ (List.mem_of_getElem? (i := 29) rfl)
  have hci : ∀ i v, (i, v) ∈ ([] : List (Nat × Int32)) → (Jvm.Cond.constant "java/lang/String" i v).before #[(.ref x0), (.ref x1), (.int (0 : Int32))] s = true := own_ci0
  have hcl : ∀ i v, (i, v) ∈ ([] : List (Nat × Int64)) → (Jvm.Cond.constantLong "java/lang/String" i v).before #[(.ref x0), (.ref x1), (.int (0 : Int32))] s = true := own_ci0
  have X0 : Stand p l e ({ frames := 1, cells := 0, slots := 0, locals := 12 } : Room) s m #[(.ref x0), (.ref x1), (.int (0 : Int32))] below meth c s₁ [] 0 0 := Stand.of_body Bd
  have e0 : s₁.heap = h0 := by rw [← hh, Bd.state]; rfl
  have N0 := Fr.nil n0
  show Goes p e below s (Q4 Z x0 x1 h0 n0) ({ frames := 1, cells := 0, slots := 0, locals := 12 } : Room).cells ({ frames := 1, cells := 0, slots := 0, locals := 12 } : Room).slots (s₁.setTop (entryFrame m #[(.ref x0), (.ref x1), (.int (0 : Int32))] 3))
  refine Goes.cast (ef4 m x0 x1) ?_
  have K0 : Keep h0 h0 [x0] := Keep.refl h0 _
  refine Goes.run X0 hx hown hci hcl hby (L := [(0, .aload_n 0, 1)]) (by decide +kernel) rfl (g' := (mkF m 1 #[rv x0, rv x1, iv (0 : Int32)] [(.ref x0)])) rfl ?_
  obtain ⟨T1, X1, e1, st1⟩ := initO X0 hx hZ hown w_11 w_12 w_13 e0 (g := (mkF m 1 #[rv x0, rv x1, iv (0 : Int32)] [(.ref x0)])) rfl (by rw [hml]; rfl) rfl (hb hby d4_1) (by decide) (W := 0) (by show 2 * 0 + _ ≤ _; exact Nat.le_of_eq rfl) (by decide)
  refine Goes.st (B := T1.setTop (mkF m 4 #[rv x0, rv x1, iv (0 : Int32)] [])) st1 ?_
  refine Goes.run X1 hx hown hci hcl hby (L := [(4, .aload_n 0, 1), (5, .aload_n 1, 1)]) (by decide +kernel) rfl (g' := (mkF m 6 #[rv x0, rv x1, iv (0 : Int32)] [(.ref x1), (.ref x0)])) rfl ?_
  obtain ⟨T2, h2, X2, e2, W2, st2⟩ := putF X1 hx hZ hown (host := "") (Or.inl w_28) Via.refl e1 F_value_x0 E_x0 (Or.inr ⟨w_29, rfl, hnm⟩) w_2 (ty := (.array .byte)) (by decide) rfl rfl (g := (mkF m 6 #[rv x0, rv x1, iv (0 : Int32)] [(.ref x1), (.ref x0)])) rfl rfl (hb hby d4_6)
  have E_x0 := E_x0.wr W2
  have F_value_x0 : Fld Z h2 x0 "java/lang/String" "value" "[B" (.ref x1) := F_value_x0.same W2
  have F_coder_x0 := F_coder_x0.other W2 (Or.inr (slot_ne (Or.inr w_27) (Or.inr w_29) (by decide) (t := .byte) (t' := (.array .byte)) (by decide) (by decide)))
  have Zn2 : n0 ≤ h2.size := Nat.le_trans Z0 (Keep.of_wr W2).1
  have K2 := K0.wr W2 (Or.inl (List.mem_of_getElem? (i := 0) rfl))
  have N2 := Fr.snoc X2 N0 g_x0
  refine Goes.st (B := T2.setTop (mkF m 9 #[rv x0, rv x1, iv (0 : Int32)] [])) st2 ?_
  refine Goes.run X2 hx hown hci hcl hby (L := [(9, .aload_n 0, 1), (10, .iload_n 2, 1)]) (by decide +kernel) rfl (g' := (mkF m 11 #[rv x0, rv x1, iv (0 : Int32)] [(.int (0 : Int32)), (.ref x0)])) rfl ?_
  obtain ⟨T3, h3, X3, e3, W3, st3⟩ := putFN X2 hx hZ hown w_26 Via.refl e2 F_coder_x0 E_x0 (Or.inr ⟨w_27, rfl, hnm⟩) w_2 (ty := .byte) (v' := (.int (0 : Int32))) (by decide) rfl rfl (g := (mkF m 11 #[rv x0, rv x1, iv (0 : Int32)] [(.int (0 : Int32)), (.ref x0)])) rfl rfl (hb hby d4_11)
  have E_x0 := E_x0.wr W3
  have F_value_x0 := F_value_x0.other W3 (Or.inr (slot_ne (Or.inr w_29) (Or.inr w_27) (by decide) (t := (.array .byte)) (t' := .byte) (by decide) (by decide)))
  have F_coder_x0 : Fld Z h3 x0 "java/lang/String" "coder" "B" (.int (0 : Int32)) := F_coder_x0.same W3
  have Zn3 : n0 ≤ h3.size := Nat.le_trans Zn2 (Keep.of_wr W3).1
  have K3 := K2.wr W3 (Or.inl (List.mem_of_getElem? (i := 0) rfl))
  have N3 := Fr.snoc X3 N2 g_x0
  refine Goes.st (B := T3.setTop (mkF m 14 #[rv x0, rv x1, iv (0 : Int32)] [])) st3 ?_
  refine Goes.retV X3 hx hlk Bd.returns (hb hby d4_14) ?_ (by decide) (by decide)
  show (Q4 Z x0 x1 h0 n0) _ _ _
  rw [e3]
  exact ⟨rfl, N3, K3, E_x0, F_value_x0, F_coder_x0⟩
theorem d5_0 : decode jdk_42_method_139_code 0 = .ok (.getstatic 38, 3) := by decide +kernel
theorem d5_3 : decode jdk_42_method_139_code 3 = .ok (.ifCond .eq 23, 3) := by decide +kernel
theorem d5_7 : decode jdk_42_method_139_code 7 = .ok (.invokestatic 1015, 3) := by decide +kernel
theorem d5_10 : decode jdk_42_method_139_code 10 = .ok (.ifCond .eq 16, 3) := by decide +kernel
theorem d5_13 : decode jdk_42_method_139_code 13 = .ok (.new 10, 3) := by decide +kernel
theorem d5_18 : decode jdk_42_method_139_code 18 = .ok (.invokestatic 1018, 3) := by decide +kernel
theorem d5_22 : decode jdk_42_method_139_code 22 = .ok (.invokespecial 209, 3) := by decide +kernel
theorem d5_25 : decode jdk_42_method_139_code 25 = .ok (.areturn, 1) := by decide +kernel
theorem pn5 : plainName "java/lang/String" = true := by first | (simp [plainName, overriddenIn]; done) | decide +kernel
theorem pd5_0 : parseMethodDescriptor "(C)Z" = some ⟨[.char], some .boolean⟩ := by decide +kernel
theorem pd5_1 : parseMethodDescriptor "(C)[B" = some ⟨[.char], some (.array .byte)⟩ := by decide +kernel
theorem pd5_2 : parseMethodDescriptor "([BB)V" = some ⟨[(.array .byte), .byte], none⟩ := by decide +kernel
theorem ef5 (m : MethodId) (x0 : Int32) : entryFrame m #[(.int x0)] 1 = (mkF m 0 #[iv x0] []) := by first | (simp [entryFrame, mkF, argsToLocals, Value.category]; done) | rfl
def Q5 (Z : State) (x0 : Int32) (G1 : Int32) (G3 : Value) (h0 : Heap) (n0 : Nat) (v : Option Value) (h : Heap) (L : List Loc) : Prop := ∃ (b t : Addr) (k : ClassId), v = some (.ref b) ∧ Fr n0 L ∧ Keep h0 h [] ∧ h0.size ≤ b ∧ h0.size ≤ t ∧ b ≠ t ∧ Exa Z h b "java/lang/String" ∧ Fld Z h b "java/lang/String" "coder" "B" (.int (0 : Int32)) ∧ Fld Z h b "java/lang/String" "value" "[B" (.ref t) ∧ Arv Z h t k .byte (1 : Int32) ((([x0] : List Int32).map (fun c => c.toInt8.toInt32)).map Value.int) (.int (0 : Int32))
set_option maxRecDepth 65536 in
set_option maxHeartbeats 40000000 in
theorem rm5 (l : Launch) (Z : State) (a0 : Array Value) (hw : ∀ d ∈ tables_1, d.before a0 Z = true) (ws : List Jvm.Cond) (x0 : Int32) (G1 : Int32) (G3 : Value) (h0 : Heap) (n0 : Nat) (Z0 : n0 ≤ h0.size) (O0 : Old Z n0 h0) (O2 : Sta Z Z.heap "java/lang/String" "COMPACT_STRINGS" "Z" (.int G1)) (O4 : Sta Z Z.heap "jdk/internal/util/Preconditions" "SIOOBE_FORMATTER" "Ljava/util/function/BiFunction;" G3) (P5 : ¬ G1 = 0) (rG3 : G3.isRef = true) (p1 : ¬ (255 : Int32) < x0) :
    MetFree l ym4 (head1 (Jvm.Cond.code ym4 jdk_42_method_139_code 1 (some (.object "java/lang/String")) :: ws) ({ frames := 2, cells := 2, slots := 5, locals := 27 } : Room)) (fun a U => a = #[(.int x0)] ∧ Z.Warmed39 U.vm ∧ U.heap = h0) (fun _ _ _ _ _ => True) (fun _ U o U' => ∃ v L, o = .returned v ∧ (Q5 Z x0 G1 G3 h0 n0) v U'.heap L ∧ FrameEnd U o U' L ({ frames := 2, cells := 2, slots := 5, locals := 27 } : Room).cells ({ frames := 2, cells := 2, slots := 5, locals := 27 } : Room).slots) := by
  refine MetFree.of_bodySF (plainFor_of_name pn5) hisR ?_
  intro p e s m args below meth c s₁ Bd hml0 hP hK
  obtain ⟨rfl, hZ, hh⟩ := hP
  have hx := Bd.exec
  have hby := Bd.bytes
  have hml : c.maxLocals = 1 := hml0
  have hlk : meth.locks = false := BodyLoose.notSynchronized Bd
  have hown : s.vm.findClass "java/lang/String" = some m.cls := findClass_of_methodNamed Bd.named
  have hnm := (name_of_methodNamed Bd.named Bd.method).1
  have w_2 := hw _ (List.mem_of_getElem? (i := 2) rfl)
  have w_3 := hw _ (List.mem_of_getElem? (i := 3) rfl)
  have w_14 := hw _ (List.mem_of_getElem? (i := 14) rfl)
  have w_27 := hw _ (List.mem_of_getElem? (i := 27) rfl)
  have w_29 := hw _ (List.mem_of_getElem? (i := 29) rfl)
  have w_38 := hw _ (List.mem_of_getElem? (i := 38) rfl)
  have w_41 := hw _ (List.mem_of_getElem? (i := 41) rfl)
  have w_106 := hw _ (List.mem_of_getElem? (i := 106) rfl)
  have w_107 := hw _ (List.mem_of_getElem? (i := 107) rfl)
  have w_108 := hw _ (List.mem_of_getElem? (i := 108) rfl)
  have w_109 := hw _ (List.mem_of_getElem? (i := 109) rfl)
  have w_110 := hw _ (List.mem_of_getElem? (i := 110) rfl)
  have w_111 := hw _ (List.mem_of_getElem? (i := 111) rfl)
  have w_112 := hw _ (List.mem_of_getElem? (i := 112) rfl)
  have w_113 := hw _ (List.mem_of_getElem? (i := 113) rfl)
  have w_114 := hw _ (List.mem_of_getElem? (i := 114) rfl)
  have hci : ∀ i v, (i, v) ∈ ([] : List (Nat × Int32)) → (Jvm.Cond.constant "java/lang/String" i v).before #[(.int x0)] s = true := own_ci0
  have hcl : ∀ i v, (i, v) ∈ ([] : List (Nat × Int64)) → (Jvm.Cond.constantLong "java/lang/String" i v).before #[(.int x0)] s = true := own_ci0
  have X0 : Stand p l e ({ frames := 2, cells := 2, slots := 5, locals := 27 } : Room) s m #[(.int x0)] below meth c s₁ [] 0 0 := Stand.of_body Bd
  have e0 : s₁.heap = h0 := by rw [← hh, Bd.state]; rfl
  have N0 := Fr.nil n0
  show Goes p e below s (Q5 Z x0 G1 G3 h0 n0) ({ frames := 2, cells := 2, slots := 5, locals := 27 } : Room).cells ({ frames := 2, cells := 2, slots := 5, locals := 27 } : Room).slots (s₁.setTop (entryFrame m #[(.int x0)] 1))
  refine Goes.cast (ef5 m x0) ?_
  have K0 : Keep h0 h0 [] := Keep.refl h0 _
  have S_COMPACT_STRINGS := O2.ext O0.2
  obtain ⟨T1, X1, e1, st1⟩ := getS2 X0 hx hZ hown (host := "") (Or.inl w_14) Via.refl e0 S_COMPACT_STRINGS (g := (mkF m 0 #[iv x0] [])) rfl (hb hby d5_0)
  refine Goes.st (B := T1.setTop (mkF m 3 #[iv x0] [(.int G1)])) st1 ?_
  have hc3_2 : ¬ (G1 = (0 : Int32)) := P5
  refine Goes.st (B := T1.setTop (mkF m 6 #[iv x0] [])) (fun t k => ?_) ?_
  · refine XS.ifNo X1.here hx rfl (hb hby d5_3) rfl ((if0 _ _).trans (feq hc3_2).1) ?_
    exact k
  refine Goes.run X1 hx hown hci hcl hby (L := [(6, .iload_n 0, 1)]) (by decide +kernel) rfl (g' := (mkF m 7 #[iv x0] [(.int x0)])) rfl ?_
  obtain ⟨_, _, ⟨T3, L3, k3, n3⟩, -, X3, ⟨Lc3, hQ3, l3, y3, z3⟩, st3⟩ := Jvm.LawKit.callS X1 hx (y := ym1) hown (mvT hZ w_106) (mvT hZ w_107) (mvT hZ w_41) (mvT hZ w_108) (by decide) (backOf (W := 0) (rm2 l Z a0 hw [] x0 h0 n0 Z0 p1) hZ w_108 w_41 (by decide) (by decide)) (g := (mkF m 7 #[iv x0] [(.int x0)])) rfl (by rw [hml]; rfl) (argsL := [(.int x0)]) (rest := []) (lenOf pd5_0 rfl) rfl (by show 2 * 0 + _ ≤ _; exact Nat.le_of_eq rfl) (hb hby d5_7) (fun _ _ => ⟨rfl, e1, (by decide : 0 + 0 ≤ _), (by decide : 0 + 0 ≤ _)⟩)
  dsimp only [Pt.U, Pt.locs, Pt.cells, Pt.slots] at X3 l3 y3 z3 st3 hQ3
  subst l3 y3 z3
  obtain ⟨rfl, N3q, e3⟩ := hQ3
  have N3 := Fr.app N0 N3q
  refine Goes.st (B := T3.setTop (mkF m 10 #[iv x0] [(.int (1 : Int32))])) st3 ?_
  have hc10_4 : ¬ ((1 : Int32) = (0 : Int32)) := by decide
  refine Goes.st (B := T3.setTop (mkF m 13 #[iv x0] [])) (fun t k => ?_) ?_
  · refine XS.ifNo X3.here hx rfl (hb hby d5_10) rfl ((if0 _ _).trans (feq hc10_4).1) ?_
    exact k
  obtain ⟨T5, h5, X5, e5, E5, A5, D5, -, st5⟩ := newO X3 hx hZ hown w_38 w_2 w_3 e3 (g := (mkF m 13 #[iv x0] [])) rfl (hb hby d5_13) (by decide) (by decide)
  obtain ⟨b5, g5⟩ : ∃ z, z = h0.size := ⟨_, rfl⟩
  rw [← g5] at A5 D5 st5
  have g_b5 : n0 ≤ b5 := Nat.le_trans Z0 (Nat.le_of_eq g5.symm)
  have sz_b5 : h0.size ≤ b5 := Nat.le_trans K0.1 (Nat.le_of_eq g5.symm)
  have S_COMPACT_STRINGS := S_COMPACT_STRINGS.ext E5
  have Zn5 : n0 ≤ h5.size := Nat.le_trans Z0 E5.1
  have K5 := K0.ext E5
  have Od5 := O0.ext E5
  have E_b5 : Exa Z h5 b5 "java/lang/String" := A5
  have F_coder_b5 : Fld Z h5 b5 "java/lang/String" "coder" "B" (.int (0 : Int32)) := D5 (Or.inr w_27) (ty := .byte) (by decide)
  have F_value_b5 : Fld Z h5 b5 "java/lang/String" "value" "[B" .null := D5 (Or.inr w_29) (ty := (.array .byte)) (by decide)
  refine Goes.st (B := T5.setTop (mkF m 16 #[iv x0] [(.ref b5)])) st5 ?_
  refine Goes.run X5 hx hown hci hcl hby (L := [(16, .dup, 1), (17, .iload_n 0, 1)]) (by decide +kernel) rfl (g' := (mkF m 18 #[iv x0] [(.int x0), (.ref b5), (.ref b5)])) rfl ?_
  obtain ⟨_, _, ⟨T6, L6, k6, n6⟩, -, X6, ⟨Lc6, hQ6, l6, y6, z6⟩, st6⟩ := Jvm.LawKit.callS X5 hx (y := ym2) hown (mvT hZ w_109) (mvT hZ w_110) (mvT hZ w_41) (mvT hZ w_111) (by decide) (backOf (W := 2) (rm3 l Z a0 hw [] x0 h5 n0 Zn5 ) hZ w_111 w_41 (by decide) (by decide)) (g := (mkF m 18 #[iv x0] [(.int x0), (.ref b5), (.ref b5)])) rfl (by rw [hml]; rfl) (argsL := [(.int x0)]) (rest := [(.ref b5), (.ref b5)]) (lenOf pd5_1 rfl) rfl (by show 2 * 0 + _ ≤ _; exact Nat.le_of_eq rfl) (hb hby d5_18) (fun _ _ => ⟨rfl, e5, (by decide : 1 + 1 ≤ _), (by decide : 4 + 1 ≤ _)⟩)
  dsimp only [Pt.U, Pt.locs, Pt.cells, Pt.slots] at X6 l6 y6 z6 st6 hQ6
  subst l6 y6 z6
  obtain ⟨h6, eh6⟩ : ∃ z, z = T6.heap := ⟨_, rfl⟩
  rw [← eh6] at hQ6
  have e6 : T6.heap = h6 := eh6.symm
  obtain ⟨b6, kc6, rfl, N6q, Kq6, szq6, o6_0, o6_1⟩ := hQ6
  have ne_b5_b6 : b5 ≠ b6 := Nat.ne_of_lt (Nat.lt_of_lt_of_le E_b5.lt szq6)
  have g_b6 : n0 ≤ b6 := Nat.le_trans Zn5 szq6
  have sz_b6 : h0.size ≤ b6 := Nat.le_trans K5.1 szq6
  have N6 := Fr.app N3 N6q
  have E_b5 := E_b5.keep Kq6
  have F_coder_b5 := F_coder_b5.keep Kq6 nin0
  have F_value_b5 := F_value_b5.keep Kq6 nin0
  have E_b6 : Exa Z h6 b6 "[B" := o6_0
  have V_b6 : Arv Z h6 b6 kc6 .byte (1 : Int32) [(.int (w3_7 x0))] (.int (0 : Int32)) := o6_1
  have Zn6 : n0 ≤ h6.size := Nat.le_trans Zn5 Kq6.1
  have K6 := K5.trans Kq6 (all0)
  have Od6 := Od5.keep Kq6 all0
  refine Goes.st (B := T6.setTop (mkF m 21 #[iv x0] [(.ref b6), (.ref b5), (.ref b5)])) st6 ?_
  refine Goes.run X6 hx hown hci hcl hby (L := [(21, .iconst 0, 1)]) (by decide +kernel) rfl (g' := (mkF m 22 #[iv x0] [(.int (0 : Int32)), (.ref b6), (.ref b5), (.ref b5)])) rfl ?_
  obtain ⟨_, _, ⟨T7, L7, k7, n7⟩, -, X7, ⟨Lc7, hQ7, l7, y7, z7⟩, st7⟩ := X6.specialBack hx (y := ym3) rfl hown (mvT hZ w_112) (mvT hZ w_113) (mvT hZ w_114) (by decide) (backOf (W := 1) (rm4 l Z a0 hw [] b5 b6 h6 n0 Zn6 E_b5 F_value_b5 F_coder_b5 g_b5) hZ w_114 w_3 (by decide) (by decide)) (g := (mkF m 22 #[iv x0] [(.int (0 : Int32)), (.ref b6), (.ref b5), (.ref b5)])) rfl (by rw [hml]; rfl) (Steps.refl _) (a := b5) (argsL := [(.ref b6), (.int (0 : Int32))]) (rest := [(.ref b5)]) (lenOf pd5_2 rfl) rfl (by show 2 * 0 + _ ≤ _; exact Nat.le_of_eq rfl) (hb hby d5_22) (fun _ _ => ⟨rfl, e6, (by decide : 2 + 0 ≤ _), (by decide : 5 + 0 ≤ _)⟩)
  dsimp only [Pt.U, Pt.locs, Pt.cells, Pt.slots] at X7 l7 y7 z7 st7 hQ7
  subst l7 y7 z7
  obtain ⟨h7, eh7⟩ : ∃ z, z = T7.heap := ⟨_, rfl⟩
  rw [← eh7] at hQ7
  have e7 : T7.heap = h7 := eh7.symm
  obtain ⟨rfl, N7q, Kq7, o7_0, o7_1, o7_2⟩ := hQ7
  have N7 := Fr.app N6 N7q
  have E_b6 := E_b6.keep Kq7
  have V_b6 := V_b6.keep Kq7 (ninS (Ne.symm ne_b5_b6) nin0)
  have E_b5 : Exa Z h7 b5 "java/lang/String" := o7_0
  have F_value_b5 : Fld Z h7 b5 "java/lang/String" "value" "[B" (.ref b6) := o7_1
  have F_coder_b5 : Fld Z h7 b5 "java/lang/String" "coder" "B" (.int (0 : Int32)) := o7_2
  have Zn7 : n0 ≤ h7.size := Nat.le_trans Zn6 Kq7.1
  have K7 := K6.trans Kq7 ((allS (Or.inr sz_b5) all0))
  have Od7 := Od6.keep Kq7 (allS g_b5 all0)
  refine Goes.st (B := T7.setTop (mkF m 25 #[iv x0] [(.ref b5)])) (fun t k => st7.trans k) ?_
  have V_b6 : Arv Z h7 b6 kc6 .byte (1 : Int32) ((([x0] : List Int32).map (fun c => c.toInt8.toInt32)).map Value.int) (.int (0 : Int32)) := by
    have q := V_b6
    rw [show (w3_7 x0) = x0.toInt8.toInt32 from own_nb8 _] at q
    exact q
  refine Goes.retR X7 hx hlk Bd.returns rfl rfl (hb hby d5_25) ?_ (by decide) (by decide)
  show (Q5 Z x0 G1 G3 h0 n0) _ _ _
  rw [e7]
  exact ⟨b5, b6, kc6, rfl, N7, K7, sz_b5, sz_b6, ne_b5_b6, E_b5, F_coder_b5, F_value_b5, V_b6⟩
theorem d6_1 : decode jdk_31_method_10_code 1 = .ok (.ifnonnull 11, 3) := by decide +kernel
theorem d6_13 : decode jdk_31_method_10_code 13 = .ok (.areturn, 1) := by decide +kernel
theorem pn6 : plainName "java/util/Objects" = true := by first | (simp [plainName, overriddenIn]; done) | decide +kernel
theorem ef6 (m : MethodId) (x0 : Addr) : entryFrame m #[(.ref x0)] 1 = (mkF m 0 #[rv x0] []) := by first | (simp [entryFrame, mkF, argsToLocals, Value.category]; done) | rfl
set_option maxRecDepth 65536 in
set_option maxHeartbeats 40000000 in
theorem rm6 (l : Launch) (Z : State) (a0 : Array Value) (hw : ∀ d ∈ tables_1, d.before a0 Z = true) (ws : List Jvm.Cond) (x0 : Addr) (h0 : Heap) (n0 : Nat) (Z0 : n0 ≤ h0.size) :
    MetFree l ym5 (head1 (Jvm.Cond.code ym5 jdk_31_method_10_code 1 (some (.object "java/lang/Object")) :: ws) ({ frames := 0, cells := 0, slots := 0, locals := 0 } : Room)) (fun a U => a = #[(.ref x0)] ∧ Z.Warmed39 U.vm ∧ U.heap = h0) (fun _ _ _ _ _ => True) (fun _ U o U' => ∃ v L, o = .returned v ∧ (QP (some (.ref x0)) h0 n0) v U'.heap L ∧ FrameEnd U o U' L ({ frames := 0, cells := 0, slots := 0, locals := 0 } : Room).cells ({ frames := 0, cells := 0, slots := 0, locals := 0 } : Room).slots) := by
  refine MetFree.of_bodySF (plainFor_of_name pn6) hisR ?_
  intro p e s m args below meth c s₁ Bd hml0 hP hK
  obtain ⟨rfl, hZ, hh⟩ := hP
  have hx := Bd.exec
  have hby := Bd.bytes
  have hml : c.maxLocals = 1 := hml0
  have hlk : meth.locks = false := BodyLoose.notSynchronized Bd
  have hown : s.vm.findClass "java/util/Objects" = some m.cls := findClass_of_methodNamed Bd.named
  have hnm := (name_of_methodNamed Bd.named Bd.method).1
  have hci : ∀ i v, (i, v) ∈ ([] : List (Nat × Int32)) → (Jvm.Cond.constant "java/util/Objects" i v).before #[(.ref x0)] s = true := own_ci0
  have hcl : ∀ i v, (i, v) ∈ ([] : List (Nat × Int64)) → (Jvm.Cond.constantLong "java/util/Objects" i v).before #[(.ref x0)] s = true := own_ci0
  have X0 : Stand p l e ({ frames := 0, cells := 0, slots := 0, locals := 0 } : Room) s m #[(.ref x0)] below meth c s₁ [] 0 0 := Stand.of_body Bd
  have e0 : s₁.heap = h0 := by rw [← hh, Bd.state]; rfl
  have N0 := Fr.nil n0
  show Goes p e below s (QP (some (.ref x0)) h0 n0) ({ frames := 0, cells := 0, slots := 0, locals := 0 } : Room).cells ({ frames := 0, cells := 0, slots := 0, locals := 0 } : Room).slots (s₁.setTop (entryFrame m #[(.ref x0)] 1))
  refine Goes.cast (ef6 m x0) ?_
  refine Goes.run X0 hx hown hci hcl hby (L := [(0, .aload_n 0, 1)]) (by decide +kernel) rfl (g' := (mkF m 1 #[rv x0] [(.ref x0)])) rfl ?_
  refine Goes.st (B := s₁.setTop (mkF m 12 #[rv x0] [])) (fun t k => ?_) ?_
  · refine Jvm.Free.XT.ifnonnullYes X0.here hx rfl (pc0 := 1) (pc' := 12) rfl (hb hby d6_1) rfl (by decide) (by decide) ?_
    exact k
  refine Goes.run X0 hx hown hci hcl hby (L := [(12, .aload_n 0, 1)]) (by decide +kernel) rfl (g' := (mkF m 13 #[rv x0] [(.ref x0)])) rfl ?_
  exact Goes.retR X0 hx hlk Bd.returns rfl rfl (hb hby d6_13) ⟨rfl, N0, e0⟩ (by decide) (by decide)
theorem d7_1 : decode jdk_32_method_2_code 1 = .ok (.invokespecial 7, 3) := by decide +kernel
theorem d7_6 : decode jdk_32_method_2_code 6 = .ok (.putfield 13, 3) := by decide +kernel
theorem d7_9 : decode jdk_32_method_2_code 9 = .ok (.return_, 1) := by decide +kernel
theorem pn7 : plainName "java/util/Optional" = true := by first | (simp [plainName, overriddenIn]; done) | decide +kernel
theorem ef7 (m : MethodId) (x0 : Addr) (x1 : Addr) : entryFrame m #[(.ref x0), (.ref x1)] 2 = (mkF m 0 #[rv x0, rv x1] []) := by first | (simp [entryFrame, mkF, argsToLocals, Value.category]; done) | rfl
def Q7 (Z : State) (x0 : Addr) (x1 : Addr) (h0 : Heap) (n0 : Nat) (v : Option Value) (h : Heap) (L : List Loc) : Prop := v = none ∧ Fr n0 L ∧ Keep h0 h [x0] ∧ Exa Z h x0 "java/util/Optional" ∧ Fld Z h x0 "java/util/Optional" "value" "Ljava/lang/Object;" (.ref x1)
set_option maxRecDepth 65536 in
set_option maxHeartbeats 40000000 in
theorem rm7 (l : Launch) (Z : State) (a0 : Array Value) (hw : ∀ d ∈ tables_1, d.before a0 Z = true) (ws : List Jvm.Cond) (x0 : Addr) (x1 : Addr) (h0 : Heap) (n0 : Nat) (Z0 : n0 ≤ h0.size) (E_x0 : Exa Z h0 x0 "java/util/Optional") (F_value_x0 : Fld Z h0 x0 "java/util/Optional" "value" "Ljava/lang/Object;" .null) (g_x0 : n0 ≤ x0) :
    MetFree l ym6 (head1 (Jvm.Cond.code ym6 jdk_32_method_2_code 2 none :: ws) ({ frames := 1, cells := 0, slots := 0, locals := 12 } : Room)) (fun a U => a = #[(.ref x0), (.ref x1)] ∧ Z.Warmed39 U.vm ∧ U.heap = h0) (fun _ _ _ _ _ => True) (fun _ U o U' => ∃ v L, o = .returned v ∧ (Q7 Z x0 x1 h0 n0) v U'.heap L ∧ FrameEnd U o U' L ({ frames := 1, cells := 0, slots := 0, locals := 12 } : Room).cells ({ frames := 1, cells := 0, slots := 0, locals := 12 } : Room).slots) := by
  refine MetFree.of_bodySF (plainFor_of_name pn7) hisR ?_
  intro p e s m args below meth c s₁ Bd hml0 hP hK
  obtain ⟨rfl, hZ, hh⟩ := hP
  have hx := Bd.exec
  have hby := Bd.bytes
  have hml : c.maxLocals = 2 := hml0
  have hlk : meth.locks = false := BodyLoose.notSynchronized Bd
  have hown : s.vm.findClass "java/util/Optional" = some m.cls := findClass_of_methodNamed Bd.named
  have hnm := (name_of_methodNamed Bd.named Bd.method).1
  have w_12 := hw _ (List.mem_of_getElem? (i := 12) rfl)
  have w_13 := hw _ (List.mem_of_getElem? (i := 13) rfl)
  have w_73 := hw _ (List.mem_of_getElem? (i := 73) rfl)
  have w_82 := hw _ (List.mem_of_getElem? (i := 82) rfl)
  have w_83 := hw _ (List.mem_of_getElem? (i := 83) rfl)
  have w_84 := hw _ (List.mem_of_getElem? (i := 84) rfl)
  have hci : ∀ i v, (i, v) ∈ ([] : List (Nat × Int32)) → (Jvm.Cond.constant "java/util/Optional" i v).before #[(.ref x0), (.ref x1)] s = true := own_ci0
  have hcl : ∀ i v, (i, v) ∈ ([] : List (Nat × Int64)) → (Jvm.Cond.constantLong "java/util/Optional" i v).before #[(.ref x0), (.ref x1)] s = true := own_ci0
  have X0 : Stand p l e ({ frames := 1, cells := 0, slots := 0, locals := 12 } : Room) s m #[(.ref x0), (.ref x1)] below meth c s₁ [] 0 0 := Stand.of_body Bd
  have e0 : s₁.heap = h0 := by rw [← hh, Bd.state]; rfl
  have N0 := Fr.nil n0
  show Goes p e below s (Q7 Z x0 x1 h0 n0) ({ frames := 1, cells := 0, slots := 0, locals := 12 } : Room).cells ({ frames := 1, cells := 0, slots := 0, locals := 12 } : Room).slots (s₁.setTop (entryFrame m #[(.ref x0), (.ref x1)] 2))
  refine Goes.cast (ef7 m x0 x1) ?_
  have K0 : Keep h0 h0 [x0] := Keep.refl h0 _
  refine Goes.run X0 hx hown hci hcl hby (L := [(0, .aload_n 0, 1)]) (by decide +kernel) rfl (g' := (mkF m 1 #[rv x0, rv x1] [(.ref x0)])) rfl ?_
  obtain ⟨T1, X1, e1, st1⟩ := initO X0 hx hZ hown w_82 w_12 w_13 e0 (g := (mkF m 1 #[rv x0, rv x1] [(.ref x0)])) rfl (by rw [hml]; rfl) rfl (hb hby d7_1) (by decide) (W := 0) (by show 2 * 0 + _ ≤ _; exact Nat.le_of_eq rfl) (by decide)
  refine Goes.st (B := T1.setTop (mkF m 4 #[rv x0, rv x1] [])) st1 ?_
  refine Goes.run X1 hx hown hci hcl hby (L := [(4, .aload_n 0, 1), (5, .aload_n 1, 1)]) (by decide +kernel) rfl (g' := (mkF m 6 #[rv x0, rv x1] [(.ref x1), (.ref x0)])) rfl ?_
  obtain ⟨T2, h2, X2, e2, W2, st2⟩ := putF X1 hx hZ hown (host := "") (Or.inl w_83) Via.refl e1 F_value_x0 E_x0 (Or.inr ⟨w_84, rfl, hnm⟩) w_73 (ty := (.object "java/lang/Object")) (by decide) rfl rfl (g := (mkF m 6 #[rv x0, rv x1] [(.ref x1), (.ref x0)])) rfl rfl (hb hby d7_6)
  have E_x0 := E_x0.wr W2
  have F_value_x0 : Fld Z h2 x0 "java/util/Optional" "value" "Ljava/lang/Object;" (.ref x1) := F_value_x0.same W2
  have Zn2 : n0 ≤ h2.size := Nat.le_trans Z0 (Keep.of_wr W2).1
  have K2 := K0.wr W2 (Or.inl (List.mem_of_getElem? (i := 0) rfl))
  have N2 := Fr.snoc X2 N0 g_x0
  refine Goes.st (B := T2.setTop (mkF m 9 #[rv x0, rv x1] [])) st2 ?_
  refine Goes.retV X2 hx hlk Bd.returns (hb hby d7_9) ?_ (by decide) (by decide)
  show (Q7 Z x0 x1 h0 n0) _ _ _
  rw [e2]
  exact ⟨rfl, N2, K2, E_x0, F_value_x0⟩
theorem d8_0 : decode jdk_32_method_3_code 0 = .ok (.new 2, 3) := by decide +kernel
theorem d8_5 : decode jdk_32_method_3_code 5 = .ok (.invokestatic 17, 3) := by decide +kernel
theorem d8_8 : decode jdk_32_method_3_code 8 = .ok (.invokespecial 23, 3) := by decide +kernel
theorem d8_11 : decode jdk_32_method_3_code 11 = .ok (.areturn, 1) := by decide +kernel
theorem pn8 : plainName "java/util/Optional" = true := by first | (simp [plainName, overriddenIn]; done) | decide +kernel
theorem pd8_0 : parseMethodDescriptor "(Ljava/lang/Object;)Ljava/lang/Object;" = some ⟨[(.object "java/lang/Object")], some (.object "java/lang/Object")⟩ := by decide +kernel
theorem pd8_1 : parseMethodDescriptor "(Ljava/lang/Object;)V" = some ⟨[(.object "java/lang/Object")], none⟩ := by decide +kernel
theorem ef8 (m : MethodId) (x0 : Addr) : entryFrame m #[(.ref x0)] 1 = (mkF m 0 #[rv x0] []) := by first | (simp [entryFrame, mkF, argsToLocals, Value.category]; done) | rfl
def Q8 (Z : State) (x0 : Addr) (h0 : Heap) (n0 : Nat) (v : Option Value) (h : Heap) (L : List Loc) : Prop := ∃ (o : Addr), v = some (.ref o) ∧ Fr n0 L ∧ Keep h0 h [] ∧ h0.size ≤ o ∧ Exa Z h o "java/util/Optional" ∧ Fld Z h o "java/util/Optional" "value" "Ljava/lang/Object;" (.ref x0)
set_option maxRecDepth 65536 in
set_option maxHeartbeats 40000000 in
theorem rm8 (l : Launch) (Z : State) (a0 : Array Value) (hw : ∀ d ∈ tables_1, d.before a0 Z = true) (ws : List Jvm.Cond) (x0 : Addr) (h0 : Heap) (n0 : Nat) (Z0 : n0 ≤ h0.size) :
    MetFree l ym7 (head1 (Jvm.Cond.code ym7 jdk_32_method_3_code 1 (some (.object "java/util/Optional")) :: ws) ({ frames := 2, cells := 1, slots := 1, locals := 26 } : Room)) (fun a U => a = #[(.ref x0)] ∧ Z.Warmed39 U.vm ∧ U.heap = h0) (fun _ _ _ _ _ => True) (fun _ U o U' => ∃ v L, o = .returned v ∧ (Q8 Z x0 h0 n0) v U'.heap L ∧ FrameEnd U o U' L ({ frames := 2, cells := 1, slots := 1, locals := 26 } : Room).cells ({ frames := 2, cells := 1, slots := 1, locals := 26 } : Room).slots) := by
  refine MetFree.of_bodySF (plainFor_of_name pn8) hisR ?_
  intro p e s m args below meth c s₁ Bd hml0 hP hK
  obtain ⟨rfl, hZ, hh⟩ := hP
  have hx := Bd.exec
  have hby := Bd.bytes
  have hml : c.maxLocals = 1 := hml0
  have hlk : meth.locks = false := BodyLoose.notSynchronized Bd
  have hown : s.vm.findClass "java/util/Optional" = some m.cls := findClass_of_methodNamed Bd.named
  have hnm := (name_of_methodNamed Bd.named Bd.method).1
  have w_70 := hw _ (List.mem_of_getElem? (i := 70) rfl)
  have w_72 := hw _ (List.mem_of_getElem? (i := 72) rfl)
  have w_73 := hw _ (List.mem_of_getElem? (i := 73) rfl)
  have w_74 := hw _ (List.mem_of_getElem? (i := 74) rfl)
  have w_75 := hw _ (List.mem_of_getElem? (i := 75) rfl)
  have w_76 := hw _ (List.mem_of_getElem? (i := 76) rfl)
  have w_77 := hw _ (List.mem_of_getElem? (i := 77) rfl)
  have w_78 := hw _ (List.mem_of_getElem? (i := 78) rfl)
  have w_79 := hw _ (List.mem_of_getElem? (i := 79) rfl)
  have w_81 := hw _ (List.mem_of_getElem? (i := 81) rfl)
  have w_84 := hw _ (List.mem_of_getElem? (i := 84) rfl)
  have hci : ∀ i v, (i, v) ∈ ([] : List (Nat × Int32)) → (Jvm.Cond.constant "java/util/Optional" i v).before #[(.ref x0)] s = true := own_ci0
  have hcl : ∀ i v, (i, v) ∈ ([] : List (Nat × Int64)) → (Jvm.Cond.constantLong "java/util/Optional" i v).before #[(.ref x0)] s = true := own_ci0
  have X0 : Stand p l e ({ frames := 2, cells := 1, slots := 1, locals := 26 } : Room) s m #[(.ref x0)] below meth c s₁ [] 0 0 := Stand.of_body Bd
  have e0 : s₁.heap = h0 := by rw [← hh, Bd.state]; rfl
  have N0 := Fr.nil n0
  show Goes p e below s (Q8 Z x0 h0 n0) ({ frames := 2, cells := 1, slots := 1, locals := 26 } : Room).cells ({ frames := 2, cells := 1, slots := 1, locals := 26 } : Room).slots (s₁.setTop (entryFrame m #[(.ref x0)] 1))
  refine Goes.cast (ef8 m x0) ?_
  have K0 : Keep h0 h0 [] := Keep.refl h0 _
  obtain ⟨T1, h1, X1, e1, E1, A1, D1, -, st1⟩ := newO X0 hx hZ hown w_72 w_73 w_70 e0 (g := (mkF m 0 #[rv x0] [])) rfl (hb hby d8_0) (by decide) (by decide)
  obtain ⟨b1, g1⟩ : ∃ z, z = h0.size := ⟨_, rfl⟩
  rw [← g1] at A1 D1 st1
  have g_b1 : n0 ≤ b1 := Nat.le_trans Z0 (Nat.le_of_eq g1.symm)
  have sz_b1 : h0.size ≤ b1 := Nat.le_trans K0.1 (Nat.le_of_eq g1.symm)
  have Zn1 : n0 ≤ h1.size := Nat.le_trans Z0 E1.1
  have K1 := K0.ext E1
  have E_b1 : Exa Z h1 b1 "java/util/Optional" := A1
  have F_value_b1 : Fld Z h1 b1 "java/util/Optional" "value" "Ljava/lang/Object;" .null := D1 (Or.inr w_84) (ty := (.object "java/lang/Object")) (by decide)
  refine Goes.st (B := T1.setTop (mkF m 3 #[rv x0] [(.ref b1)])) st1 ?_
  refine Goes.run X1 hx hown hci hcl hby (L := [(3, .dup, 1), (4, .aload_n 0, 1)]) (by decide +kernel) rfl (g' := (mkF m 5 #[rv x0] [(.ref x0), (.ref b1), (.ref b1)])) rfl ?_
  obtain ⟨_, _, ⟨T2, L2, k2, n2⟩, -, X2, ⟨Lc2, hQ2, l2, y2, z2⟩, st2⟩ := Jvm.LawKit.callS X1 hx (y := ym5) hown (mvT hZ w_74) (mvT hZ w_75) (mvT hZ w_76) (mvT hZ w_77) (by decide) (backOf (W := 2) (rm6 l Z a0 hw [] x0 h1 n0 Zn1 ) hZ w_77 w_76 (by decide) (by decide)) (g := (mkF m 5 #[rv x0] [(.ref x0), (.ref b1), (.ref b1)])) rfl (by rw [hml]; rfl) (argsL := [(.ref x0)]) (rest := [(.ref b1), (.ref b1)]) (lenOf pd8_0 rfl) rfl (by show 2 * 0 + _ ≤ _; exact Nat.le_of_eq rfl) (hb hby d8_5) (fun _ _ => ⟨rfl, e1, (by decide : 1 + 0 ≤ _), (by decide : 1 + 0 ≤ _)⟩)
  dsimp only [Pt.U, Pt.locs, Pt.cells, Pt.slots] at X2 l2 y2 z2 st2 hQ2
  subst l2 y2 z2
  obtain ⟨rfl, N2q, e2⟩ := hQ2
  have N2 := Fr.app N0 N2q
  refine Goes.st (B := T2.setTop (mkF m 8 #[rv x0] [(.ref x0), (.ref b1), (.ref b1)])) st2 ?_
  obtain ⟨_, _, ⟨T3, L3, k3, n3⟩, -, X3, ⟨Lc3, hQ3, l3, y3, z3⟩, st3⟩ := X2.specialBack hx (y := ym6) rfl hown (mvT hZ w_78) (mvT hZ w_79) (mvT hZ w_81) (by decide) (backOf (W := 1) (rm7 l Z a0 hw [] b1 x0 h1 n0 Zn1 E_b1 F_value_b1 g_b1) hZ w_81 w_70 (by decide) (by decide)) (g := (mkF m 8 #[rv x0] [(.ref x0), (.ref b1), (.ref b1)])) rfl (by rw [hml]; rfl) (Steps.refl _) (a := b1) (argsL := [(.ref x0)]) (rest := [(.ref b1)]) (lenOf pd8_1 rfl) rfl (by show 2 * 0 + _ ≤ _; exact Nat.le_of_eq rfl) (hb hby d8_8) (fun _ _ => ⟨rfl, e2, (by decide : 1 + 0 ≤ _), (by decide : 1 + 0 ≤ _)⟩)
  dsimp only [Pt.U, Pt.locs, Pt.cells, Pt.slots] at X3 l3 y3 z3 st3 hQ3
  subst l3 y3 z3
  obtain ⟨h3, eh3⟩ : ∃ z, z = T3.heap := ⟨_, rfl⟩
  rw [← eh3] at hQ3
  have e3 : T3.heap = h3 := eh3.symm
  obtain ⟨rfl, N3q, Kq3, o3_0, o3_1⟩ := hQ3
  have N3 := Fr.app N2 N3q
  have E_b1 : Exa Z h3 b1 "java/util/Optional" := o3_0
  have F_value_b1 : Fld Z h3 b1 "java/util/Optional" "value" "Ljava/lang/Object;" (.ref x0) := o3_1
  have Zn3 : n0 ≤ h3.size := Nat.le_trans Zn1 Kq3.1
  have K3 := K1.trans Kq3 ((allS (Or.inr sz_b1) all0))
  refine Goes.st (B := T3.setTop (mkF m 11 #[rv x0] [(.ref b1)])) (fun t k => st3.trans k) ?_
  refine Goes.retR X3 hx hlk Bd.returns rfl rfl (hb hby d8_11) ?_ (by decide) (by decide)
  show (Q8 Z x0 h0 n0) _ _ _
  rw [e3]
  exact ⟨b1, rfl, N3, K3, sz_b1, E_b1, F_value_b1⟩
theorem d9_0 : decode jdk_32_method_1_code 0 = .ok (.getstatic 1, 3) := by decide +kernel
theorem d9_5 : decode jdk_32_method_1_code 5 = .ok (.areturn, 1) := by decide +kernel
theorem pn9 : plainName "java/util/Optional" = true := by first | (simp [plainName, overriddenIn]; done) | decide +kernel
theorem ef9 (m : MethodId)  : entryFrame m #[] 1 = (mkF m 0 #[.unset] []) := by first | (simp [entryFrame, mkF, argsToLocals, Value.category]; done) | rfl
set_option maxRecDepth 65536 in
set_option maxHeartbeats 40000000 in
theorem rm9 (l : Launch) (Z : State) (a0 : Array Value) (hw : ∀ d ∈ tables_1, d.before a0 Z = true) (ws : List Jvm.Cond) (em : Addr) (h0 : Heap) (n0 : Nat) (Z0 : n0 ≤ h0.size) (S_EMPTY : Sta Z h0 "java/util/Optional" "EMPTY" "Ljava/util/Optional;" (.ref em)) :
    MetFree l ym8 (head1 (Jvm.Cond.code ym8 jdk_32_method_1_code 1 (some (.object "java/util/Optional")) :: ws) ({ frames := 0, cells := 0, slots := 0, locals := 0 } : Room)) (fun a U => a = #[] ∧ Z.Warmed39 U.vm ∧ U.heap = h0) (fun _ _ _ _ _ => True) (fun _ U o U' => ∃ v L, o = .returned v ∧ (QP (some (.ref em)) h0 n0) v U'.heap L ∧ FrameEnd U o U' L ({ frames := 0, cells := 0, slots := 0, locals := 0 } : Room).cells ({ frames := 0, cells := 0, slots := 0, locals := 0 } : Room).slots) := by
  refine MetFree.of_bodySF (plainFor_of_name pn9) hisR ?_
  intro p e s m args below meth c s₁ Bd hml0 hP hK
  obtain ⟨rfl, hZ, hh⟩ := hP
  have hx := Bd.exec
  have hby := Bd.bytes
  have hml : c.maxLocals = 1 := hml0
  have hlk : meth.locks = false := BodyLoose.notSynchronized Bd
  have hown : s.vm.findClass "java/util/Optional" = some m.cls := findClass_of_methodNamed Bd.named
  have hnm := (name_of_methodNamed Bd.named Bd.method).1
  have w_101 := hw _ (List.mem_of_getElem? (i := 101) rfl)
  have hci : ∀ i v, (i, v) ∈ ([] : List (Nat × Int32)) → (Jvm.Cond.constant "java/util/Optional" i v).before #[] s = true := own_ci0
  have hcl : ∀ i v, (i, v) ∈ ([] : List (Nat × Int64)) → (Jvm.Cond.constantLong "java/util/Optional" i v).before #[] s = true := own_ci0
  have X0 : Stand p l e ({ frames := 0, cells := 0, slots := 0, locals := 0 } : Room) s m #[] below meth c s₁ [] 0 0 := Stand.of_body Bd
  have e0 : s₁.heap = h0 := by rw [← hh, Bd.state]; rfl
  have N0 := Fr.nil n0
  show Goes p e below s (QP (some (.ref em)) h0 n0) ({ frames := 0, cells := 0, slots := 0, locals := 0 } : Room).cells ({ frames := 0, cells := 0, slots := 0, locals := 0 } : Room).slots (s₁.setTop (entryFrame m #[] 1))
  refine Goes.cast (ef9 m ) ?_
  obtain ⟨T1, X1, e1, st1⟩ := getS2 X0 hx hZ hown (host := "") (Or.inl w_101) Via.refl e0 S_EMPTY (g := (mkF m 0 #[.unset] [])) rfl (hb hby d9_0)
  refine Goes.st (B := T1.setTop (mkF m 3 #[.unset] [(.ref em)])) st1 ?_
  refine Goes.run X1 hx hown hci hcl hby (L := [(3, .astore_n 0, 1), (4, .aload_n 0, 1)]) (by decide +kernel) rfl (g' := (mkF m 5 #[rv em] [(.ref em)])) rfl ?_
  exact Goes.retR X1 hx hlk Bd.returns rfl rfl (hb hby d9_5) ⟨rfl, N0, e1⟩ (by decide) (by decide)
theorem d10_1 : decode jdk_32_method_15_code 1 = .ok (.getfield 13, 3) := by decide +kernel
theorem d10_4 : decode jdk_32_method_15_code 4 = .ok (.ifnull 10, 3) := by decide +kernel
theorem d10_15 : decode jdk_32_method_15_code 15 = .ok (.areturn, 1) := by decide +kernel
theorem pnA : plainName "java/util/Optional" = true := by first | (simp [plainName, overriddenIn]; done) | decide +kernel
theorem efA (m : MethodId) (x0 : Addr) : entryFrame m #[(.ref x0), .null] 2 = (mkF m 0 #[rv x0, .val .null] []) := by first | (simp [entryFrame, mkF, argsToLocals, Value.category]; done) | rfl
set_option maxRecDepth 65536 in
set_option maxHeartbeats 40000000 in
theorem rmA (l : Launch) (Z : State) (a0 : Array Value) (hw : ∀ d ∈ tables_1, d.before a0 Z = true) (ws : List Jvm.Cond) (x0 : Addr) (h0 : Heap) (n0 : Nat) (Z0 : n0 ≤ h0.size) (F_value_x0 : Fld Z h0 x0 "java/util/Optional" "value" "Ljava/lang/Object;" .null) :
    MetFree l ym9 (head1 (Jvm.Cond.code ym9 jdk_32_method_15_code 2 (some (.object "java/lang/Object")) :: ws) ({ frames := 0, cells := 0, slots := 0, locals := 0 } : Room)) (fun a U => a = #[(.ref x0), .null] ∧ Z.Warmed39 U.vm ∧ U.heap = h0) (fun _ _ _ _ _ => True) (fun _ U o U' => ∃ v L, o = .returned v ∧ (QP (some .null) h0 n0) v U'.heap L ∧ FrameEnd U o U' L ({ frames := 0, cells := 0, slots := 0, locals := 0 } : Room).cells ({ frames := 0, cells := 0, slots := 0, locals := 0 } : Room).slots) := by
  refine MetFree.of_bodySF (plainFor_of_name pnA) hisR ?_
  intro p e s m args below meth c s₁ Bd hml0 hP hK
  obtain ⟨rfl, hZ, hh⟩ := hP
  have hx := Bd.exec
  have hby := Bd.bytes
  have hml : c.maxLocals = 2 := hml0
  have hlk : meth.locks = false := BodyLoose.notSynchronized Bd
  have hown : s.vm.findClass "java/util/Optional" = some m.cls := findClass_of_methodNamed Bd.named
  have hnm := (name_of_methodNamed Bd.named Bd.method).1
  have w_83 := hw _ (List.mem_of_getElem? (i := 83) rfl)
  have hci : ∀ i v, (i, v) ∈ ([] : List (Nat × Int32)) → (Jvm.Cond.constant "java/util/Optional" i v).before #[(.ref x0), .null] s = true := own_ci0
  have hcl : ∀ i v, (i, v) ∈ ([] : List (Nat × Int64)) → (Jvm.Cond.constantLong "java/util/Optional" i v).before #[(.ref x0), .null] s = true := own_ci0
  have X0 : Stand p l e ({ frames := 0, cells := 0, slots := 0, locals := 0 } : Room) s m #[(.ref x0), .null] below meth c s₁ [] 0 0 := Stand.of_body Bd
  have e0 : s₁.heap = h0 := by rw [← hh, Bd.state]; rfl
  have N0 := Fr.nil n0
  show Goes p e below s (QP (some .null) h0 n0) ({ frames := 0, cells := 0, slots := 0, locals := 0 } : Room).cells ({ frames := 0, cells := 0, slots := 0, locals := 0 } : Room).slots (s₁.setTop (entryFrame m #[(.ref x0), .null] 2))
  refine Goes.cast (efA m x0) ?_
  refine Goes.run X0 hx hown hci hcl hby (L := [(0, .aload_n 0, 1)]) (by decide +kernel) rfl (g' := (mkF m 1 #[rv x0, .val .null] [(.ref x0)])) rfl ?_
  obtain ⟨T1, X1, e1, st1⟩ := getF X0 hx hZ hown (host := "") (Or.inl w_83) Via.refl e0 F_value_x0 (g := (mkF m 1 #[rv x0, .val .null] [(.ref x0)])) rfl rfl (hb hby d10_1)
  refine Goes.st (B := T1.setTop (mkF m 4 #[rv x0, .val .null] [.null])) st1 ?_
  refine Goes.st (B := T1.setTop (mkF m 14 #[rv x0, .val .null] [])) (fun t k => ?_) ?_
  · refine XS.ifnullYes X1.here hx rfl (pc0 := 4) (pc' := 14) rfl (hb hby d10_4) rfl (by decide) (by decide) ?_
    exact k
  refine Goes.run X1 hx hown hci hcl hby (L := [(14, .aload_n 1, 1)]) (by decide +kernel) rfl (g' := (mkF m 15 #[rv x0, .val .null] [.null])) rfl ?_
  exact Goes.retR X1 hx hlk Bd.returns rfl rfl (hb hby d10_15) ⟨rfl, N0, e1⟩ (by decide) (by decide)
theorem d10_8 : decode jdk_32_method_15_code 8 = .ok (.getfield 13, 3) := by decide +kernel
theorem pnB : plainName "java/util/Optional" = true := by first | (simp [plainName, overriddenIn]; done) | decide +kernel
theorem efB (m : MethodId) (x0 : Addr) : entryFrame m #[(.ref x0), .null] 2 = (mkF m 0 #[rv x0, .val .null] []) := by first | (simp [entryFrame, mkF, argsToLocals, Value.category]; done) | rfl
set_option maxRecDepth 65536 in
set_option maxHeartbeats 40000000 in
theorem rmB (l : Launch) (Z : State) (a0 : Array Value) (hw : ∀ d ∈ tables_1, d.before a0 Z = true) (ws : List Jvm.Cond) (x0 : Addr) (k : Addr) (h0 : Heap) (n0 : Nat) (Z0 : n0 ≤ h0.size) (F_value_x0 : Fld Z h0 x0 "java/util/Optional" "value" "Ljava/lang/Object;" (.ref k)) :
    MetFree l ym9 (head1 (Jvm.Cond.code ym9 jdk_32_method_15_code 2 (some (.object "java/lang/Object")) :: ws) ({ frames := 0, cells := 0, slots := 0, locals := 0 } : Room)) (fun a U => a = #[(.ref x0), .null] ∧ Z.Warmed39 U.vm ∧ U.heap = h0) (fun _ _ _ _ _ => True) (fun _ U o U' => ∃ v L, o = .returned v ∧ (QP (some (.ref k)) h0 n0) v U'.heap L ∧ FrameEnd U o U' L ({ frames := 0, cells := 0, slots := 0, locals := 0 } : Room).cells ({ frames := 0, cells := 0, slots := 0, locals := 0 } : Room).slots) := by
  refine MetFree.of_bodySF (plainFor_of_name pnB) hisR ?_
  intro p e s m args below meth c s₁ Bd hml0 hP hK
  obtain ⟨rfl, hZ, hh⟩ := hP
  have hx := Bd.exec
  have hby := Bd.bytes
  have hml : c.maxLocals = 2 := hml0
  have hlk : meth.locks = false := BodyLoose.notSynchronized Bd
  have hown : s.vm.findClass "java/util/Optional" = some m.cls := findClass_of_methodNamed Bd.named
  have hnm := (name_of_methodNamed Bd.named Bd.method).1
  have w_83 := hw _ (List.mem_of_getElem? (i := 83) rfl)
  have hci : ∀ i v, (i, v) ∈ ([] : List (Nat × Int32)) → (Jvm.Cond.constant "java/util/Optional" i v).before #[(.ref x0), .null] s = true := own_ci0
  have hcl : ∀ i v, (i, v) ∈ ([] : List (Nat × Int64)) → (Jvm.Cond.constantLong "java/util/Optional" i v).before #[(.ref x0), .null] s = true := own_ci0
  have X0 : Stand p l e ({ frames := 0, cells := 0, slots := 0, locals := 0 } : Room) s m #[(.ref x0), .null] below meth c s₁ [] 0 0 := Stand.of_body Bd
  have e0 : s₁.heap = h0 := by rw [← hh, Bd.state]; rfl
  have N0 := Fr.nil n0
  show Goes p e below s (QP (some (.ref k)) h0 n0) ({ frames := 0, cells := 0, slots := 0, locals := 0 } : Room).cells ({ frames := 0, cells := 0, slots := 0, locals := 0 } : Room).slots (s₁.setTop (entryFrame m #[(.ref x0), .null] 2))
  refine Goes.cast (efB m x0) ?_
  refine Goes.run X0 hx hown hci hcl hby (L := [(0, .aload_n 0, 1)]) (by decide +kernel) rfl (g' := (mkF m 1 #[rv x0, .val .null] [(.ref x0)])) rfl ?_
  obtain ⟨T1, X1, e1, st1⟩ := getF X0 hx hZ hown (host := "") (Or.inl w_83) Via.refl e0 F_value_x0 (g := (mkF m 1 #[rv x0, .val .null] [(.ref x0)])) rfl rfl (hb hby d10_1)
  refine Goes.st (B := T1.setTop (mkF m 4 #[rv x0, .val .null] [(.ref k)])) st1 ?_
  refine Goes.st (B := T1.setTop (mkF m 7 #[rv x0, .val .null] [])) (fun t k => ?_) ?_
  · refine XS.ifnullNo X1.here hx rfl (hb hby d10_4) rfl ?_
    exact k
  refine Goes.run X1 hx hown hci hcl hby (L := [(7, .aload_n 0, 1)]) (by decide +kernel) rfl (g' := (mkF m 8 #[rv x0, .val .null] [(.ref x0)])) rfl ?_
  obtain ⟨T2, X2, e2, st2⟩ := getF X1 hx hZ hown (host := "") (Or.inl w_83) Via.refl e1 F_value_x0 (g := (mkF m 8 #[rv x0, .val .null] [(.ref x0)])) rfl rfl (hb hby d10_8)
  refine Goes.st (B := T2.setTop (mkF m 11 #[rv x0, .val .null] [(.ref k)])) st2 ?_
  refine Goes.run X2 hx hown hci hcl hby (L := [(11, .goto 4, 3)]) (by decide +kernel) rfl (g' := (mkF m 15 #[rv x0, .val .null] [(.ref k)])) rfl ?_
  exact Goes.retR X2 hx hlk Bd.returns rfl rfl (hb hby d10_15) ⟨rfl, N0, e2⟩ (by decide) (by decide)
theorem d11_0 : decode prog_69_method_1_code 0 = .ok (.getstatic 10, 3) := by decide +kernel
theorem d11_3 : decode prog_69_method_1_code 3 = .ok (.invokevirtual 14, 3) := by decide +kernel
theorem d11_6 : decode prog_69_method_1_code 6 = .ok (.checkcast 15, 3) := by decide +kernel
theorem d11_9 : decode prog_69_method_1_code 9 = .ok (.areturn, 1) := by decide +kernel
theorem pnC : plainName "com/example/mahnwerk/mahnwerk/model/DebtorKind" = true := by first | (simp [plainName, overriddenIn]; done) | decide +kernel
theorem efC (m : MethodId)  : entryFrame m #[] 0 = (mkF m 0 #[] []) := by first | (simp [entryFrame, mkF, argsToLocals, Value.category]; done) | rfl
def QC (Z : State) (va : Addr) (kva : ClassId) (cA : Addr) (cB : Addr) (h0 : Heap) (n0 : Nat) (v : Option Value) (h : Heap) (L : List Loc) : Prop := ∃ (nv : Addr) (k_nv : ClassId), v = some (.ref nv) ∧ Fr n0 L ∧ Keep h0 h [] ∧ h0.size ≤ nv ∧ Exa Z h nv "[Lcom/example/mahnwerk/mahnwerk/model/DebtorKind;" ∧ Arv Z h nv k_nv (.object "com/example/mahnwerk/mahnwerk/model/DebtorKind") (2 : Int32) [(.ref cA), (.ref cB)] .null
set_option maxRecDepth 65536 in
set_option maxHeartbeats 40000000 in
theorem rmC (l : Launch) (Z : State) (a0 : Array Value) (hw : ∀ d ∈ tables_1, d.before a0 Z = true) (ws : List Jvm.Cond) (va : Addr) (kva : ClassId) (cA : Addr) (cB : Addr) (h0 : Heap) (n0 : Nat) (Z0 : n0 ≤ h0.size) (E_va : Exa Z h0 va "[Lcom/example/mahnwerk/mahnwerk/model/DebtorKind;") (V_va : Arv Z h0 va kva (.object "com/example/mahnwerk/mahnwerk/model/DebtorKind") (2 : Int32) [(.ref cA), (.ref cB)] .null) (O0 : Old Z n0 h0) (SV : Sta Z Z.heap "com/example/mahnwerk/mahnwerk/model/DebtorKind" "$VALUES" "[Lcom/example/mahnwerk/mahnwerk/model/DebtorKind;" (.ref va)) :
    MetFree l ym10 (head1 (Jvm.Cond.code ym10 prog_69_method_1_code 0 (some (.array (.object "com/example/mahnwerk/mahnwerk/model/DebtorKind"))) :: ws) ({ frames := 1, cells := 1, slots := 2, locals := 14 } : Room)) (fun a U => a = #[] ∧ Z.Warmed39 U.vm ∧ U.heap = h0) (fun _ _ _ _ _ => True) (fun _ U o U' => ∃ v L, o = .returned v ∧ (QC Z va kva cA cB h0 n0) v U'.heap L ∧ FrameEnd U o U' L ({ frames := 1, cells := 1, slots := 2, locals := 14 } : Room).cells ({ frames := 1, cells := 1, slots := 2, locals := 14 } : Room).slots) := by
  refine MetFree.of_bodySF (plainFor_of_name pnC) hisR ?_
  intro p e s m args below meth c s₁ Bd hml0 hP hK
  obtain ⟨rfl, hZ, hh⟩ := hP
  have hx := Bd.exec
  have hby := Bd.bytes
  have hml : c.maxLocals = 0 := hml0
  have hlk : meth.locks = false := BodyLoose.notSynchronized Bd
  have hown : s.vm.findClass "com/example/mahnwerk/mahnwerk/model/DebtorKind" = some m.cls := findClass_of_methodNamed Bd.named
  have hnm := (name_of_methodNamed Bd.named Bd.method).1
  have w_51 := hw _ (List.mem_of_getElem? (i := 51) rfl)
  have w_53 := hw _ (List.mem_of_getElem? (i := 53) rfl)
  have w_54 := hw _ (List.mem_of_getElem? (i := 54) rfl)
  have w_56 := hw _ (List.mem_of_getElem? (i := 56) rfl)
  have w_57 := hw _ (List.mem_of_getElem? (i := 57) rfl)
  have w_58 := hw _ (List.mem_of_getElem? (i := 58) rfl)
  have w_59 := hw _ (List.mem_of_getElem? (i := 59) rfl)
  have w_63 := hw _ (List.mem_of_getElem? (i := 63) rfl)
  have hci : ∀ i v, (i, v) ∈ ([] : List (Nat × Int32)) → (Jvm.Cond.constant "com/example/mahnwerk/mahnwerk/model/DebtorKind" i v).before #[] s = true := own_ci0
  have hcl : ∀ i v, (i, v) ∈ ([] : List (Nat × Int64)) → (Jvm.Cond.constantLong "com/example/mahnwerk/mahnwerk/model/DebtorKind" i v).before #[] s = true := own_ci0
  have X0 : Stand p l e ({ frames := 1, cells := 1, slots := 2, locals := 14 } : Room) s m #[] below meth c s₁ [] 0 0 := Stand.of_body Bd
  have e0 : s₁.heap = h0 := by rw [← hh, Bd.state]; rfl
  have N0 := Fr.nil n0
  show Goes p e below s (QC Z va kva cA cB h0 n0) ({ frames := 1, cells := 1, slots := 2, locals := 14 } : Room).cells ({ frames := 1, cells := 1, slots := 2, locals := 14 } : Room).slots (s₁.setTop (entryFrame m #[] 0))
  refine Goes.cast (efC m ) ?_
  have K0 : Keep h0 h0 [] := Keep.refl h0 _
  have S__VALUES := SV.ext O0.2
  obtain ⟨T1, X1, e1, st1⟩ := getS2 X0 hx hZ hown (host := "") (Or.inl w_51) Via.refl e0 S__VALUES (g := (mkF m 0 #[] [])) rfl (hb hby d11_0)
  refine Goes.st (B := T1.setTop (mkF m 3 #[] [(.ref va)])) st1 ?_
  obtain ⟨T2, h2, X2, e2, E2, A2, B2, st2⟩ := cloneH X1 hx hZ hown w_53 w_54 w_58 w_56 w_57 w_59 e1 V_va.arh E_va (g := (mkF m 3 #[] [(.ref va)])) rfl (by rw [hml]; rfl) rfl (hb hby d11_3) (by decide) (W := 0) (cap := 2) (by show 2 * 0 + _ ≤ _; exact Nat.le_of_eq rfl) (by decide) (by decide) (by decide) (by decide)
  obtain ⟨b2, g2⟩ : ∃ z, z = h0.size := ⟨_, rfl⟩
  rw [← g2] at A2 B2 st2
  have ne_va_b2 : va ≠ b2 := Nat.ne_of_lt (Nat.lt_of_lt_of_le E_va.lt (Nat.le_of_eq g2.symm))
  have g_b2 : n0 ≤ b2 := Nat.le_trans Z0 (Nat.le_of_eq g2.symm)
  have sz_b2 : h0.size ≤ b2 := Nat.le_trans K0.1 (Nat.le_of_eq g2.symm)
  have E_va := E_va.ext E2
  have V_va := V_va.ext E2
  have S__VALUES := S__VALUES.ext E2
  have Zn2 : n0 ≤ h2.size := Nat.le_trans Z0 E2.1
  have K2 := K0.ext E2
  have Od2 := O0.ext E2
  have E_b2 : Exa Z h2 b2 "[Lcom/example/mahnwerk/mahnwerk/model/DebtorKind;" := B2
  have V_b2 : Arv Z h2 b2 kva (.object "com/example/mahnwerk/mahnwerk/model/DebtorKind") (2 : Int32) [(.ref cA), (.ref cB)] .null := A2
  refine Goes.st (B := T2.setTop (mkF m 6 #[] [(.ref b2)])) st2 ?_
  obtain ⟨T3, X3, e3, st3⟩ := castY X2 hx hZ hown w_63 e2 (Ins.self E_b2) (g := (mkF m 6 #[] [(.ref b2)])) rfl rfl (hb hby d11_6)
  refine Goes.st (B := T3.setTop (mkF m 9 #[] [(.ref b2)])) st3 ?_
  refine Goes.retR X3 hx hlk Bd.returns rfl rfl (hb hby d11_9) ?_ (by decide) (by decide)
  show (QC Z va kva cA cB h0 n0) _ _ _
  rw [e3]
  exact ⟨b2, kva, rfl, N0, K2, sz_b2, E_b2, V_b2⟩
theorem d12_0 : decode prog_69_method_4_code 0 = .ok (.invokestatic 33, 3) := by decide +kernel
theorem d12_5 : decode prog_69_method_4_code 5 = .ok (.arraylength, 1) := by decide +kernel
theorem d12_11 : decode prog_69_method_4_code 11 = .ok (.if_icmp .ge 32, 3) := by decide +kernel
theorem d12_16 : decode prog_69_method_4_code 16 = .ok (.aaload, 1) := by decide +kernel
theorem d12_21 : decode prog_69_method_4_code 21 = .ok (.getfield 29, 3) := by decide +kernel
theorem d12_25 : decode prog_69_method_4_code 25 = .ok (.invokevirtual 37, 3) := by decide +kernel
theorem d12_28 : decode prog_69_method_4_code 28 = .ok (.ifCond .eq 9, 3) := by decide +kernel
theorem d12_33 : decode prog_69_method_4_code 33 = .ok (.invokestatic 43, 3) := by decide +kernel
theorem d12_36 : decode prog_69_method_4_code 36 = .ok (.areturn, 1) := by decide +kernel
theorem d12_43 : decode prog_69_method_4_code 43 = .ok (.invokestatic 49, 3) := by decide +kernel
theorem d12_46 : decode prog_69_method_4_code 46 = .ok (.areturn, 1) := by decide +kernel
theorem pnD : plainName "com/example/mahnwerk/mahnwerk/model/DebtorKind" = true := by first | (simp [plainName, overriddenIn]; done) | decide +kernel
theorem pdD_0 : parseMethodDescriptor "()[Lcom/example/mahnwerk/mahnwerk/model/DebtorKind;" = some ⟨[], some (.array (.object "com/example/mahnwerk/mahnwerk/model/DebtorKind"))⟩ := by decide +kernel
theorem pdD_1 : parseMethodDescriptor "(Ljava/lang/Object;)Z" = some ⟨[(.object "java/lang/Object")], some .boolean⟩ := by decide +kernel
theorem pdD_2 : parseMethodDescriptor "()Ljava/util/Optional;" = some ⟨[], some (.object "java/util/Optional")⟩ := by decide +kernel
theorem pdD_3 : parseMethodDescriptor "(Ljava/lang/Object;)Ljava/util/Optional;" = some ⟨[(.object "java/lang/Object")], some (.object "java/util/Optional")⟩ := by decide +kernel
theorem efD (m : MethodId) (x0 : Addr) : entryFrame m #[(.ref x0)] 5 = (mkF m 0 #[rv x0, .unset, .unset, .unset, .unset] []) := by first | (simp [entryFrame, mkF, argsToLocals, Value.category]; done) | rfl
def QO (Z : State) (cA cB : Addr) (cs : List Int32) (h0 : Heap) (n0 : Nat) (v : Option Value) (h : Heap) (L : List Loc) : Prop := ∃ o, v = some (.ref o) ∧ Fr n0 L ∧ Keep h0 h [] ∧ Exa Z h o "java/util/Optional" ∧ Fld Z h o "java/util/Optional" "value" "Ljava/lang/Object;" (own_val cA cB (own_eqr csC cs) (own_eqr csB cs))
set_option maxRecDepth 65536 in
set_option maxHeartbeats 40000000 in
theorem rmD (l : Launch) (Z : State) (a0 : Array Value) (hw : ∀ d ∈ tables_1, d.before a0 Z = true) (ws : List Jvm.Cond) (x0 : Addr) (va : Addr) (kva : ClassId) (cA : Addr) (cB : Addr) (wA : Addr) (tA : Addr) (kA : ClassId) (wB : Addr) (tB : Addr) (kB : ClassId) (em : Addr) (tS : Addr) (kS : ClassId) (cs : List Int32) (G1 : Int32) (G3 : Value) (h0 : Heap) (n0 : Nat) (Z0 : n0 ≤ h0.size) (E_va : Exa Z h0 va "[Lcom/example/mahnwerk/mahnwerk/model/DebtorKind;") (V_va : Arv Z h0 va kva (.object "com/example/mahnwerk/mahnwerk/model/DebtorKind") (2 : Int32) [(.ref cA), (.ref cB)] .null) (F_written_cA : Fld Z h0 cA "com/example/mahnwerk/mahnwerk/model/DebtorKind" "written" "Ljava/lang/String;" (.ref wA)) (F_written_cB : Fld Z h0 cB "com/example/mahnwerk/mahnwerk/model/DebtorKind" "written" "Ljava/lang/String;" (.ref wB)) (E_wA : Exa Z h0 wA "java/lang/String") (F_coder_wA : Fld Z h0 wA "java/lang/String" "coder" "B" (.int (0 : Int32))) (F_value_wA : Fld Z h0 wA "java/lang/String" "value" "[B" (.ref tA)) (V_tA : Arv Z h0 tA kA .byte (8 : Int32) ((csC.map (fun c => c.toInt8.toInt32)).map Value.int) (.int (0 : Int32))) (E_wB : Exa Z h0 wB "java/lang/String") (F_coder_wB : Fld Z h0 wB "java/lang/String" "coder" "B" (.int (0 : Int32))) (F_value_wB : Fld Z h0 wB "java/lang/String" "value" "[B" (.ref tB)) (V_tB : Arv Z h0 tB kB .byte (8 : Int32) ((csB.map (fun c => c.toInt8.toInt32)).map Value.int) (.int (0 : Int32))) (E_em : Exa Z h0 em "java/util/Optional") (F_value_em : Fld Z h0 em "java/util/Optional" "value" "Ljava/lang/Object;" .null) (E_x0 : Exa Z h0 x0 "java/lang/String") (F_coder_x0 : Fld Z h0 x0 "java/lang/String" "coder" "B" (.int (0 : Int32))) (F_value_x0 : Fld Z h0 x0 "java/lang/String" "value" "[B" (.ref tS)) (V_tS : Arv Z h0 tS kS .byte (Int32.ofNat cs.length) ((cs.map (fun c => c.toInt8.toInt32)).map Value.int) (.int (0 : Int32))) (O0 : Old Z n0 h0) (O2 : Sta Z Z.heap "java/lang/String" "COMPACT_STRINGS" "Z" (.int G1)) (O4 : Sta Z Z.heap "jdk/internal/util/Preconditions" "SIOOBE_FORMATTER" "Ljava/util/function/BiFunction;" G3) (P5 : ¬ G1 = 0) (rG3 : G3.isRef = true) (SV : Sta Z Z.heap "com/example/mahnwerk/mahnwerk/model/DebtorKind" "$VALUES" "[Lcom/example/mahnwerk/mahnwerk/model/DebtorKind;" (.ref va)) (SE : Sta Z Z.heap "java/util/Optional" "EMPTY" "Ljava/util/Optional;" (.ref em)) (hpS : ∀ c ∈ cs, ¬ c < 0 ∧ ¬ (255 : Int32) < c) (hlS : cs.length ≤ 4000) :
    MetFree l ym12 (head1 (Jvm.Cond.code ym12 prog_69_method_4_code 5 (some (.object "java/util/Optional")) :: ws) ({ frames := 3, cells := 2, slots := 3, locals := 38 } : Room)) (fun a U => a = #[(.ref x0)] ∧ Z.Warmed39 U.vm ∧ U.heap = h0) (fun _ _ _ _ _ => True) (fun _ U o U' => ∃ v L, o = .returned v ∧ (QO Z cA cB cs h0 n0) v U'.heap L ∧ FrameEnd U o U' L ({ frames := 3, cells := 2, slots := 3, locals := 38 } : Room).cells ({ frames := 3, cells := 2, slots := 3, locals := 38 } : Room).slots) := by
  refine MetFree.of_bodySF (plainFor_of_name pnD) hisR ?_
  intro p e s m args below meth c s₁ Bd hml0 hP hK
  obtain ⟨rfl, hZ, hh⟩ := hP
  have hx := Bd.exec
  have hby := Bd.bytes
  have hml : c.maxLocals = 5 := hml0
  have hlk : meth.locks = false := BodyLoose.notSynchronized Bd
  have hown : s.vm.findClass "com/example/mahnwerk/mahnwerk/model/DebtorKind" = some m.cls := findClass_of_methodNamed Bd.named
  have hnm := (name_of_methodNamed Bd.named Bd.method).1
  have w_2 := hw _ (List.mem_of_getElem? (i := 2) rfl)
  have w_34 := hw _ (List.mem_of_getElem? (i := 34) rfl)
  have w_35 := hw _ (List.mem_of_getElem? (i := 35) rfl)
  have w_36 := hw _ (List.mem_of_getElem? (i := 36) rfl)
  have w_46 := hw _ (List.mem_of_getElem? (i := 46) rfl)
  have w_48 := hw _ (List.mem_of_getElem? (i := 48) rfl)
  have w_49 := hw _ (List.mem_of_getElem? (i := 49) rfl)
  have w_50 := hw _ (List.mem_of_getElem? (i := 50) rfl)
  have w_65 := hw _ (List.mem_of_getElem? (i := 65) rfl)
  have w_67 := hw _ (List.mem_of_getElem? (i := 67) rfl)
  have w_68 := hw _ (List.mem_of_getElem? (i := 68) rfl)
  have w_69 := hw _ (List.mem_of_getElem? (i := 69) rfl)
  have w_70 := hw _ (List.mem_of_getElem? (i := 70) rfl)
  have w_71 := hw _ (List.mem_of_getElem? (i := 71) rfl)
  have w_98 := hw _ (List.mem_of_getElem? (i := 98) rfl)
  have w_99 := hw _ (List.mem_of_getElem? (i := 99) rfl)
  have w_100 := hw _ (List.mem_of_getElem? (i := 100) rfl)
  have hci : ∀ i v, (i, v) ∈ ([] : List (Nat × Int32)) → (Jvm.Cond.constant "com/example/mahnwerk/mahnwerk/model/DebtorKind" i v).before #[(.ref x0)] s = true := own_ci0
  have hcl : ∀ i v, (i, v) ∈ ([] : List (Nat × Int64)) → (Jvm.Cond.constantLong "com/example/mahnwerk/mahnwerk/model/DebtorKind" i v).before #[(.ref x0)] s = true := own_ci0
  have X0 : Stand p l e ({ frames := 3, cells := 2, slots := 3, locals := 38 } : Room) s m #[(.ref x0)] below meth c s₁ [] 0 0 := Stand.of_body Bd
  have e0 : s₁.heap = h0 := by rw [← hh, Bd.state]; rfl
  have N0 := Fr.nil n0
  show Goes p e below s (QO Z cA cB cs h0 n0) ({ frames := 3, cells := 2, slots := 3, locals := 38 } : Room).cells ({ frames := 3, cells := 2, slots := 3, locals := 38 } : Room).slots (s₁.setTop (entryFrame m #[(.ref x0)] 5))
  refine Goes.cast (efD m x0) ?_
  have K0 : Keep h0 h0 [] := Keep.refl h0 _
  obtain ⟨_, _, ⟨T1, L1, k1, n1⟩, -, X1, ⟨Lc1, hQ1, l1, y1, z1⟩, st1⟩ := Jvm.LawKit.callS X0 hx (y := ym10) hown (mvT hZ w_48) (mvT hZ w_49) (mvT hZ w_46) (mvT hZ w_50) (by decide) (backOf (W := 0) (rmC l Z a0 hw [] va kva cA cB h0 n0 Z0 E_va V_va O0 SV) hZ w_50 w_46 (by decide) (by decide)) (g := (mkF m 0 #[rv x0, .unset, .unset, .unset, .unset] [])) rfl (by rw [hml]; rfl) (argsL := []) (rest := []) (lenOf pdD_0 rfl) rfl (by show 2 * 0 + _ ≤ _; exact Nat.le_of_eq rfl) (hb hby d12_0) (fun _ _ => ⟨rfl, e0, (by decide : 0 + 1 ≤ _), (by decide : 0 + 2 ≤ _)⟩)
  dsimp only [Pt.U, Pt.locs, Pt.cells, Pt.slots] at X1 l1 y1 z1 st1 hQ1
  subst l1 y1 z1
  obtain ⟨h1, eh1⟩ : ∃ z, z = T1.heap := ⟨_, rfl⟩
  rw [← eh1] at hQ1
  have e1 : T1.heap = h1 := eh1.symm
  obtain ⟨nv1, k_nv1, rfl, N1q, Kq1, sq_nv1, o1_0, o1_1⟩ := hQ1
  have ne_cA_nv1 : cA ≠ nv1 := Nat.ne_of_lt (Nat.lt_of_lt_of_le F_written_cA.lt sq_nv1)
  have ne_cB_nv1 : cB ≠ nv1 := Nat.ne_of_lt (Nat.lt_of_lt_of_le F_written_cB.lt sq_nv1)
  have ne_em_nv1 : em ≠ nv1 := Nat.ne_of_lt (Nat.lt_of_lt_of_le E_em.lt sq_nv1)
  have ne_tA_nv1 : tA ≠ nv1 := Nat.ne_of_lt (Nat.lt_of_lt_of_le V_tA.lt sq_nv1)
  have ne_tB_nv1 : tB ≠ nv1 := Nat.ne_of_lt (Nat.lt_of_lt_of_le V_tB.lt sq_nv1)
  have ne_tS_nv1 : tS ≠ nv1 := Nat.ne_of_lt (Nat.lt_of_lt_of_le V_tS.lt sq_nv1)
  have ne_va_nv1 : va ≠ nv1 := Nat.ne_of_lt (Nat.lt_of_lt_of_le E_va.lt sq_nv1)
  have ne_wA_nv1 : wA ≠ nv1 := Nat.ne_of_lt (Nat.lt_of_lt_of_le E_wA.lt sq_nv1)
  have ne_wB_nv1 : wB ≠ nv1 := Nat.ne_of_lt (Nat.lt_of_lt_of_le E_wB.lt sq_nv1)
  have ne_x0_nv1 : x0 ≠ nv1 := Nat.ne_of_lt (Nat.lt_of_lt_of_le E_x0.lt sq_nv1)
  have g_nv1 : n0 ≤ nv1 := Nat.le_trans Z0 sq_nv1
  have sz_nv1 : h0.size ≤ nv1 := Nat.le_trans K0.1 sq_nv1
  have N1 := Fr.app N0 N1q
  have E_va := E_va.keep Kq1
  have V_va := V_va.keep Kq1 nin0
  have F_written_cA := F_written_cA.keep Kq1 nin0
  have F_written_cB := F_written_cB.keep Kq1 nin0
  have E_wA := E_wA.keep Kq1
  have F_coder_wA := F_coder_wA.keep Kq1 nin0
  have F_value_wA := F_value_wA.keep Kq1 nin0
  have V_tA := V_tA.keep Kq1 nin0
  have E_wB := E_wB.keep Kq1
  have F_coder_wB := F_coder_wB.keep Kq1 nin0
  have F_value_wB := F_value_wB.keep Kq1 nin0
  have V_tB := V_tB.keep Kq1 nin0
  have E_em := E_em.keep Kq1
  have F_value_em := F_value_em.keep Kq1 nin0
  have E_x0 := E_x0.keep Kq1
  have F_coder_x0 := F_coder_x0.keep Kq1 nin0
  have F_value_x0 := F_value_x0.keep Kq1 nin0
  have V_tS := V_tS.keep Kq1 nin0
  have Zn1 : n0 ≤ h1.size := Nat.le_trans Z0 Kq1.1
  have K1 := K0.trans Kq1 (all0)
  have Od1 := O0.keep Kq1 all0
  have E_nv1 : Exa Z h1 nv1 "[Lcom/example/mahnwerk/mahnwerk/model/DebtorKind;" := o1_0
  have V_nv1 : Arv Z h1 nv1 k_nv1 (.object "com/example/mahnwerk/mahnwerk/model/DebtorKind") (2 : Int32) [(.ref cA), (.ref cB)] .null := o1_1
  refine Goes.st (B := T1.setTop (mkF m 3 #[rv x0, .unset, .unset, .unset, .unset] [(.ref nv1)])) st1 ?_
  refine Goes.run X1 hx hown hci hcl hby (L := [(3, .astore_n 1, 1), (4, .aload_n 1, 1)]) (by decide +kernel) rfl (g' := (mkF m 5 #[rv x0, rv nv1, .unset, .unset, .unset] [(.ref nv1)])) rfl ?_
  obtain ⟨cl2, Ar2, q2, S2, M2, Hs2, G2⟩ := id V_nv1
  refine Goes.st (B := T1.setTop (mkF m 6 #[rv x0, rv nv1, .unset, .unset, .unset] [(.int (2 : Int32))])) (fun t k => ?_) ?_
  · refine X1.arraylength hx (cell := cl2) (by rw [e1]; exact Ar2.1) (State.isArrayOf_alike hZ.alike Ar2.2.1) (g := (mkF m 5 #[rv x0, rv nv1, .unset, .unset, .unset] [(.ref nv1)])) rfl (rest := []) rfl (hb hby d12_5) _ ?_
    rw [len_of S2 M2]
    exact k
  refine Goes.run X1 hx hown hci hcl hby (L := [(6, .istore_n 2, 1), (7, .iconst 0, 1), (8, .istore_n 3, 1), (9, .iload_n 3, 1), (10, .iload_n 2, 1)]) (by decide +kernel) rfl (g' := (mkF m 11 #[rv x0, rv nv1, iv (2 : Int32), iv (0 : Int32), .unset] [(.int (2 : Int32)), (.int (0 : Int32))])) rfl ?_
  have hc11_3 : (0 : Int32) < (2 : Int32) := by decide
  refine Goes.st (B := T1.setTop (mkF m 14 #[rv x0, rv nv1, iv (2 : Int32), iv (0 : Int32), .unset] [])) (fun t k => ?_) ?_
  · refine XS.icmpNo X1.here hx rfl (hb hby d12_11) rfl (tlt hc11_3).2.1 ?_
    exact k
  refine Goes.run X1 hx hown hci hcl hby (L := [(14, .aload_n 1, 1), (15, .iload_n 3, 1)]) (by decide +kernel) rfl (g' := (mkF m 16 #[rv x0, rv nv1, iv (2 : Int32), iv (0 : Int32), .unset] [(.int (0 : Int32)), (.ref nv1)])) rfl ?_
  obtain ⟨cl4, Ar4, q4, S4, M4, Hs4, G4⟩ := id V_nv1
  have hin4 : ¬ ((0 : Int32) < 0 ∨ cl4.slots.size ≤ ((0 : Int32)).toNatClampNeg) := inb_of S4 ⟨(by decide), (by decide)⟩
  have hat4 : cl4.slots[((0 : Int32)).toNatClampNeg]? = some (.ref cA) := Hs4.at hin4 rfl
  refine Goes.st (B := T1.setTop (mkF m 17 #[rv x0, rv nv1, iv (2 : Int32), iv (0 : Int32), .unset] [(.ref cA)])) (X1.aaload hx (j := (0 : Int32)) (v := (.ref cA)) (by rw [e1]; exact Ar4.1) (State.isArrayOf_alike hZ.alike Ar4.2.1) rfl Ar4.2.2 hin4 hat4 (g := (mkF m 16 #[rv x0, rv nv1, iv (2 : Int32), iv (0 : Int32), .unset] [(.int (0 : Int32)), (.ref nv1)])) rfl rfl (hb hby d12_16)) ?_
  refine Goes.run X1 hx hown hci hcl hby (L := [(17, .astore 4, 2), (19, .aload 4, 2)]) (by decide +kernel) rfl (g' := (mkF m 21 #[rv x0, rv nv1, iv (2 : Int32), iv (0 : Int32), rv cA] [(.ref cA)])) rfl ?_
  obtain ⟨T5, X5, e5, st5⟩ := getF X1 hx hZ hown (host := "") (Or.inl w_65) Via.refl e1 F_written_cA (g := (mkF m 21 #[rv x0, rv nv1, iv (2 : Int32), iv (0 : Int32), rv cA] [(.ref cA)])) rfl rfl (hb hby d12_21)
  refine Goes.st (B := T5.setTop (mkF m 24 #[rv x0, rv nv1, iv (2 : Int32), iv (0 : Int32), rv cA] [(.ref wA)])) st5 ?_
  refine Goes.run X5 hx hown hci hcl hby (L := [(24, .aload_n 0, 1)]) (by decide +kernel) rfl (g' := (mkF m 25 #[rv x0, rv nv1, iv (2 : Int32), iv (0 : Int32), rv cA] [(.ref x0), (.ref wA)])) rfl ?_
  have hcd_wA : StrChars.Road.CodA csC 0 (8 : Int32) ((csC.map (fun c => c.toInt8.toInt32)).map Value.int) := StrChars.Road.codOf (n := 8) rfl (fun c hc => (own_hC c hc).2)
  have hbd_wA := own_up own_hC
  have hcd_x0 : StrChars.Road.CodA cs 0 (Int32.ofNat cs.length) ((cs.map (fun c => c.toInt8.toInt32)).map Value.int) := StrChars.Road.codOf (n := cs.length) rfl (fun c hc => (hpS c hc).2)
  have hbd_x0 := own_up hpS
  obtain ⟨cq6, kq6, q6a, q6b, q6c⟩ := isOf hZ e5 E_wA
  obtain ⟨_, _, ⟨T6, L6, k6, n6⟩, -, X6, ⟨Lc6, hQ6, l6, y6, z6⟩, st6⟩ := X5.virtualBack hx (y := ym11) (z := ym11) hown (mvT hZ w_67) (mvT hZ w_34) (notFace_of_selects (args := #[]) (mvT hZ w_36)) (mvT hZ w_36) (mvT hZ w_35) (by decide) (StrChars.Road.eqW (W := 0) hZ (own_heq hw) (kI := 4) w_2 E_wA F_value_wA F_coder_wA V_tA hcd_wA hbd_wA (Nat.le_of_ble_eq_true rfl) E_x0 F_value_x0 F_coder_x0 V_tS hcd_x0 hbd_x0 (hlS) (O2.ext Od1.2) P5 (by decide) (by decide)) q6a q6c (g := (mkF m 25 #[rv x0, rv nv1, iv (2 : Int32), iv (0 : Int32), rv cA] [(.ref x0), (.ref wA)])) rfl (by rw [hml]; rfl) (Steps.refl _) (argsL := [(.ref x0)]) (rest := []) (lenOf pdD_1 rfl) rfl (by show 2 * 0 + _ ≤ _; exact Nat.le_of_eq rfl) (hb hby d12_25) (fun _ _ => ⟨rfl, e5, (by decide : 1 + 0 ≤ _), (by decide : 2 + 0 ≤ _)⟩)
  dsimp only [Pt.U, Pt.locs, Pt.cells, Pt.slots] at X6 l6 y6 z6 st6 hQ6
  subst l6 y6 z6
  obtain ⟨hv6, rfl, e6⟩ := hQ6
  obtain rfl := own_eqv hv6
  have N6 := Fr.app N1 (Fr.nil n0)
  refine Goes.st (B := T6.setTop (mkF m 28 #[rv x0, rv nv1, iv (2 : Int32), iv (0 : Int32), rv cA] [(.int (own_eqr csC cs))])) (fun t k => st6.trans k) ?_
  by_cases hc28_7 : (own_eqr csC cs) = (0 : Int32)
  · skip
    refine Goes.st (B := T6.setTop (mkF m 37 #[rv x0, rv nv1, iv (2 : Int32), iv (0 : Int32), rv cA] [])) (fun t k => ?_) ?_
    · refine XS.ifYes X6.here hx rfl (pc0 := 28) (pc' := 37) rfl (hb hby d12_28) rfl ((if0 _ _).trans (teq hc28_7).1) (by decide) (by decide) ?_
      exact k
    refine Goes.run X6 hx hown hci hcl hby (L := [(37, .iinc 3 1, 3), (40, .goto (-31), 3), (9, .iload_n 3, 1), (10, .iload_n 2, 1)]) (by decide +kernel) rfl (g' := (mkF m 11 #[rv x0, rv nv1, iv (2 : Int32), iv (1 : Int32), rv cA] [(.int (2 : Int32)), (.int (1 : Int32))])) rfl ?_
    have hc11_8 : (1 : Int32) < (2 : Int32) := by decide
    refine Goes.st (B := T6.setTop (mkF m 14 #[rv x0, rv nv1, iv (2 : Int32), iv (1 : Int32), rv cA] [])) (fun t k => ?_) ?_
    · refine XS.icmpNo X6.here hx rfl (hb hby d12_11) rfl (tlt hc11_8).2.1 ?_
      exact k
    refine Goes.run X6 hx hown hci hcl hby (L := [(14, .aload_n 1, 1), (15, .iload_n 3, 1)]) (by decide +kernel) rfl (g' := (mkF m 16 #[rv x0, rv nv1, iv (2 : Int32), iv (1 : Int32), rv cA] [(.int (1 : Int32)), (.ref nv1)])) rfl ?_
    obtain ⟨cl9, Ar9, q9, S9, M9, Hs9, G9⟩ := id V_nv1
    have hin9 : ¬ ((1 : Int32) < 0 ∨ cl9.slots.size ≤ ((1 : Int32)).toNatClampNeg) := inb_of S9 ⟨(by decide), (by decide)⟩
    have hat9 : cl9.slots[((1 : Int32)).toNatClampNeg]? = some (.ref cB) := Hs9.at hin9 rfl
    refine Goes.st (B := T6.setTop (mkF m 17 #[rv x0, rv nv1, iv (2 : Int32), iv (1 : Int32), rv cA] [(.ref cB)])) (X6.aaload hx (j := (1 : Int32)) (v := (.ref cB)) (by rw [e6]; exact Ar9.1) (State.isArrayOf_alike hZ.alike Ar9.2.1) rfl Ar9.2.2 hin9 hat9 (g := (mkF m 16 #[rv x0, rv nv1, iv (2 : Int32), iv (1 : Int32), rv cA] [(.int (1 : Int32)), (.ref nv1)])) rfl rfl (hb hby d12_16)) ?_
    refine Goes.run X6 hx hown hci hcl hby (L := [(17, .astore 4, 2), (19, .aload 4, 2)]) (by decide +kernel) rfl (g' := (mkF m 21 #[rv x0, rv nv1, iv (2 : Int32), iv (1 : Int32), rv cB] [(.ref cB)])) rfl ?_
    obtain ⟨T10, X10, e10, st10⟩ := getF X6 hx hZ hown (host := "") (Or.inl w_65) Via.refl e6 F_written_cB (g := (mkF m 21 #[rv x0, rv nv1, iv (2 : Int32), iv (1 : Int32), rv cB] [(.ref cB)])) rfl rfl (hb hby d12_21)
    refine Goes.st (B := T10.setTop (mkF m 24 #[rv x0, rv nv1, iv (2 : Int32), iv (1 : Int32), rv cB] [(.ref wB)])) st10 ?_
    refine Goes.run X10 hx hown hci hcl hby (L := [(24, .aload_n 0, 1)]) (by decide +kernel) rfl (g' := (mkF m 25 #[rv x0, rv nv1, iv (2 : Int32), iv (1 : Int32), rv cB] [(.ref x0), (.ref wB)])) rfl ?_
    have hcd_wB : StrChars.Road.CodA csB 0 (8 : Int32) ((csB.map (fun c => c.toInt8.toInt32)).map Value.int) := StrChars.Road.codOf (n := 8) rfl (fun c hc => (own_hB c hc).2)
    have hbd_wB := own_up own_hB
    have hcd_x0 : StrChars.Road.CodA cs 0 (Int32.ofNat cs.length) ((cs.map (fun c => c.toInt8.toInt32)).map Value.int) := StrChars.Road.codOf (n := cs.length) rfl (fun c hc => (hpS c hc).2)
    have hbd_x0 := own_up hpS
    obtain ⟨cq11, kq11, q11a, q11b, q11c⟩ := isOf hZ e10 E_wB
    obtain ⟨_, _, ⟨T11, L11, k11, n11⟩, -, X11, ⟨Lc11, hQ11, l11, y11, z11⟩, st11⟩ := X10.virtualBack hx (y := ym11) (z := ym11) hown (mvT hZ w_67) (mvT hZ w_34) (notFace_of_selects (args := #[]) (mvT hZ w_36)) (mvT hZ w_36) (mvT hZ w_35) (by decide) (StrChars.Road.eqW (W := 0) hZ (own_heq hw) (kI := 4) w_2 E_wB F_value_wB F_coder_wB V_tB hcd_wB hbd_wB (Nat.le_of_ble_eq_true rfl) E_x0 F_value_x0 F_coder_x0 V_tS hcd_x0 hbd_x0 (hlS) (O2.ext Od1.2) P5 (by decide) (by decide)) q11a q11c (g := (mkF m 25 #[rv x0, rv nv1, iv (2 : Int32), iv (1 : Int32), rv cB] [(.ref x0), (.ref wB)])) rfl (by rw [hml]; rfl) (Steps.refl _) (argsL := [(.ref x0)]) (rest := []) (lenOf pdD_1 rfl) rfl (by show 2 * 0 + _ ≤ _; exact Nat.le_of_eq rfl) (hb hby d12_25) (fun _ _ => ⟨rfl, e10, (by decide : 1 + 0 ≤ _), (by decide : 2 + 0 ≤ _)⟩)
    dsimp only [Pt.U, Pt.locs, Pt.cells, Pt.slots] at X11 l11 y11 z11 st11 hQ11
    subst l11 y11 z11
    obtain ⟨hv11, rfl, e11⟩ := hQ11
    obtain rfl := own_eqv hv11
    have N11 := Fr.app N6 (Fr.nil n0)
    refine Goes.st (B := T11.setTop (mkF m 28 #[rv x0, rv nv1, iv (2 : Int32), iv (1 : Int32), rv cB] [(.int (own_eqr csB cs))])) (fun t k => st11.trans k) ?_
    by_cases hc28_12 : (own_eqr csB cs) = (0 : Int32)
    · skip
      refine Goes.st (B := T11.setTop (mkF m 37 #[rv x0, rv nv1, iv (2 : Int32), iv (1 : Int32), rv cB] [])) (fun t k => ?_) ?_
      · refine XS.ifYes X11.here hx rfl (pc0 := 28) (pc' := 37) rfl (hb hby d12_28) rfl ((if0 _ _).trans (teq hc28_12).1) (by decide) (by decide) ?_
        exact k
      refine Goes.run X11 hx hown hci hcl hby (L := [(37, .iinc 3 1, 3), (40, .goto (-31), 3), (9, .iload_n 3, 1), (10, .iload_n 2, 1)]) (by decide +kernel) rfl (g' := (mkF m 11 #[rv x0, rv nv1, iv (2 : Int32), iv (2 : Int32), rv cB] [(.int (2 : Int32)), (.int (2 : Int32))])) rfl ?_
      have hc11_13 : ¬ ((2 : Int32) < (2 : Int32)) := Int32.lt_irrefl
      refine Goes.st (B := T11.setTop (mkF m 43 #[rv x0, rv nv1, iv (2 : Int32), iv (2 : Int32), rv cB] [])) (fun t k => ?_) ?_
      · refine XS.icmpYes X11.here hx rfl (pc0 := 11) (pc' := 43) rfl (hb hby d12_11) rfl (flt hc11_13).2.1 (by decide) (by decide) ?_
        exact k
      have S_EMPTY := SE.ext Od1.2
      obtain ⟨_, _, ⟨T14, L14, k14, n14⟩, -, X14, ⟨Lc14, hQ14, l14, y14, z14⟩, st14⟩ := Jvm.LawKit.callS X11 hx (y := ym8) hown (mvT hZ w_98) (mvT hZ w_99) (mvT hZ w_70) (mvT hZ w_100) (by decide) (backOf (W := 0) (rm9 l Z a0 hw [] em h1 n0 Zn1 S_EMPTY) hZ w_100 w_70 (by decide) (by decide)) (g := (mkF m 43 #[rv x0, rv nv1, iv (2 : Int32), iv (2 : Int32), rv cB] [])) rfl (by rw [hml]; rfl) (argsL := []) (rest := []) (lenOf pdD_2 rfl) rfl (by show 2 * 0 + _ ≤ _; exact Nat.le_of_eq rfl) (hb hby d12_43) (fun _ _ => ⟨rfl, e11, (by decide : 1 + 0 ≤ _), (by decide : 2 + 0 ≤ _)⟩)
      dsimp only [Pt.U, Pt.locs, Pt.cells, Pt.slots] at X14 l14 y14 z14 st14 hQ14
      subst l14 y14 z14
      obtain ⟨rfl, N14q, e14⟩ := hQ14
      have N14 := Fr.app N11 N14q
      refine Goes.st (B := T14.setTop (mkF m 46 #[rv x0, rv nv1, iv (2 : Int32), iv (2 : Int32), rv cB] [(.ref em)])) st14 ?_
      exact Goes.retR X14 hx hlk Bd.returns rfl rfl (hb hby d12_46) (by show QO Z cA cB cs h0 n0 _ _ _; rw [e14]; exact ⟨em, rfl, N14, K1, E_em, by unfold own_val; rw [if_pos hc28_7, if_pos hc28_12]; exact F_value_em⟩) (by decide) (by decide)
    · skip
      refine Goes.st (B := T11.setTop (mkF m 31 #[rv x0, rv nv1, iv (2 : Int32), iv (1 : Int32), rv cB] [])) (fun t k => ?_) ?_
      · refine XS.ifNo X11.here hx rfl (hb hby d12_28) rfl ((if0 _ _).trans (feq hc28_12).1) ?_
        exact k
      refine Goes.run X11 hx hown hci hcl hby (L := [(31, .aload 4, 2)]) (by decide +kernel) rfl (g' := (mkF m 33 #[rv x0, rv nv1, iv (2 : Int32), iv (1 : Int32), rv cB] [(.ref cB)])) rfl ?_
      obtain ⟨_, _, ⟨T15, L15, k15, n15⟩, -, X15, ⟨Lc15, hQ15, l15, y15, z15⟩, st15⟩ := Jvm.LawKit.callS X11 hx (y := ym7) hown (mvT hZ w_68) (mvT hZ w_69) (mvT hZ w_70) (mvT hZ w_71) (by decide) (backOf (W := 0) (rm8 l Z a0 hw [] cB h1 n0 Zn1 ) hZ w_71 w_70 (by decide) (by decide)) (g := (mkF m 33 #[rv x0, rv nv1, iv (2 : Int32), iv (1 : Int32), rv cB] [(.ref cB)])) rfl (by rw [hml]; rfl) (argsL := [(.ref cB)]) (rest := []) (lenOf pdD_3 rfl) rfl (by show 2 * 0 + _ ≤ _; exact Nat.le_of_eq rfl) (hb hby d12_33) (fun _ _ => ⟨rfl, e11, (by decide : 1 + 1 ≤ _), (by decide : 2 + 1 ≤ _)⟩)
      dsimp only [Pt.U, Pt.locs, Pt.cells, Pt.slots] at X15 l15 y15 z15 st15 hQ15
      subst l15 y15 z15
      obtain ⟨h15, eh15⟩ : ∃ z, z = T15.heap := ⟨_, rfl⟩
      rw [← eh15] at hQ15
      have e15 : T15.heap = h15 := eh15.symm
      obtain ⟨o15, rfl, N15q, Kq15, sq_o15, o15_0, o15_1⟩ := hQ15
      have ne_cA_o15 : cA ≠ o15 := Nat.ne_of_lt (Nat.lt_of_lt_of_le F_written_cA.lt sq_o15)
      have ne_cB_o15 : cB ≠ o15 := Nat.ne_of_lt (Nat.lt_of_lt_of_le F_written_cB.lt sq_o15)
      have ne_em_o15 : em ≠ o15 := Nat.ne_of_lt (Nat.lt_of_lt_of_le E_em.lt sq_o15)
      have ne_nv1_o15 : nv1 ≠ o15 := Nat.ne_of_lt (Nat.lt_of_lt_of_le E_nv1.lt sq_o15)
      have ne_tA_o15 : tA ≠ o15 := Nat.ne_of_lt (Nat.lt_of_lt_of_le V_tA.lt sq_o15)
      have ne_tB_o15 : tB ≠ o15 := Nat.ne_of_lt (Nat.lt_of_lt_of_le V_tB.lt sq_o15)
      have ne_tS_o15 : tS ≠ o15 := Nat.ne_of_lt (Nat.lt_of_lt_of_le V_tS.lt sq_o15)
      have ne_va_o15 : va ≠ o15 := Nat.ne_of_lt (Nat.lt_of_lt_of_le E_va.lt sq_o15)
      have ne_wA_o15 : wA ≠ o15 := Nat.ne_of_lt (Nat.lt_of_lt_of_le E_wA.lt sq_o15)
      have ne_wB_o15 : wB ≠ o15 := Nat.ne_of_lt (Nat.lt_of_lt_of_le E_wB.lt sq_o15)
      have ne_x0_o15 : x0 ≠ o15 := Nat.ne_of_lt (Nat.lt_of_lt_of_le E_x0.lt sq_o15)
      have g_o15 : n0 ≤ o15 := Nat.le_trans Zn1 sq_o15
      have sz_o15 : h0.size ≤ o15 := Nat.le_trans K1.1 sq_o15
      have N15 := Fr.app N11 N15q
      have E_va := E_va.keep Kq15
      have V_va := V_va.keep Kq15 nin0
      have F_written_cA := F_written_cA.keep Kq15 nin0
      have F_written_cB := F_written_cB.keep Kq15 nin0
      have E_wA := E_wA.keep Kq15
      have F_coder_wA := F_coder_wA.keep Kq15 nin0
      have F_value_wA := F_value_wA.keep Kq15 nin0
      have V_tA := V_tA.keep Kq15 nin0
      have E_wB := E_wB.keep Kq15
      have F_coder_wB := F_coder_wB.keep Kq15 nin0
      have F_value_wB := F_value_wB.keep Kq15 nin0
      have V_tB := V_tB.keep Kq15 nin0
      have E_em := E_em.keep Kq15
      have F_value_em := F_value_em.keep Kq15 nin0
      have E_x0 := E_x0.keep Kq15
      have F_coder_x0 := F_coder_x0.keep Kq15 nin0
      have F_value_x0 := F_value_x0.keep Kq15 nin0
      have V_tS := V_tS.keep Kq15 nin0
      have E_nv1 := E_nv1.keep Kq15
      have V_nv1 := V_nv1.keep Kq15 nin0
      have Zn15 : n0 ≤ h15.size := Nat.le_trans Zn1 Kq15.1
      have K15 := K1.trans Kq15 (all0)
      have Od15 := Od1.keep Kq15 all0
      have E_o15 : Exa Z h15 o15 "java/util/Optional" := o15_0
      have F_value_o15 : Fld Z h15 o15 "java/util/Optional" "value" "Ljava/lang/Object;" (.ref cB) := o15_1
      refine Goes.st (B := T15.setTop (mkF m 36 #[rv x0, rv nv1, iv (2 : Int32), iv (1 : Int32), rv cB] [(.ref o15)])) st15 ?_
      exact Goes.retR X15 hx hlk Bd.returns rfl rfl (hb hby d12_36) (by show QO Z cA cB cs h0 n0 _ _ _; rw [e15]; exact ⟨o15, rfl, N15, K15, E_o15, by unfold own_val; rw [if_pos hc28_7, if_neg hc28_12]; exact F_value_o15⟩) (by decide) (by decide)
  · skip
    refine Goes.st (B := T6.setTop (mkF m 31 #[rv x0, rv nv1, iv (2 : Int32), iv (0 : Int32), rv cA] [])) (fun t k => ?_) ?_
    · refine XS.ifNo X6.here hx rfl (hb hby d12_28) rfl ((if0 _ _).trans (feq hc28_7).1) ?_
      exact k
    refine Goes.run X6 hx hown hci hcl hby (L := [(31, .aload 4, 2)]) (by decide +kernel) rfl (g' := (mkF m 33 #[rv x0, rv nv1, iv (2 : Int32), iv (0 : Int32), rv cA] [(.ref cA)])) rfl ?_
    obtain ⟨_, _, ⟨T16, L16, k16, n16⟩, -, X16, ⟨Lc16, hQ16, l16, y16, z16⟩, st16⟩ := Jvm.LawKit.callS X6 hx (y := ym7) hown (mvT hZ w_68) (mvT hZ w_69) (mvT hZ w_70) (mvT hZ w_71) (by decide) (backOf (W := 0) (rm8 l Z a0 hw [] cA h1 n0 Zn1 ) hZ w_71 w_70 (by decide) (by decide)) (g := (mkF m 33 #[rv x0, rv nv1, iv (2 : Int32), iv (0 : Int32), rv cA] [(.ref cA)])) rfl (by rw [hml]; rfl) (argsL := [(.ref cA)]) (rest := []) (lenOf pdD_3 rfl) rfl (by show 2 * 0 + _ ≤ _; exact Nat.le_of_eq rfl) (hb hby d12_33) (fun _ _ => ⟨rfl, e6, (by decide : 1 + 1 ≤ _), (by decide : 2 + 1 ≤ _)⟩)
    dsimp only [Pt.U, Pt.locs, Pt.cells, Pt.slots] at X16 l16 y16 z16 st16 hQ16
    subst l16 y16 z16
    obtain ⟨h16, eh16⟩ : ∃ z, z = T16.heap := ⟨_, rfl⟩
    rw [← eh16] at hQ16
    have e16 : T16.heap = h16 := eh16.symm
    obtain ⟨o16, rfl, N16q, Kq16, sq_o16, o16_0, o16_1⟩ := hQ16
    have ne_cA_o16 : cA ≠ o16 := Nat.ne_of_lt (Nat.lt_of_lt_of_le F_written_cA.lt sq_o16)
    have ne_cB_o16 : cB ≠ o16 := Nat.ne_of_lt (Nat.lt_of_lt_of_le F_written_cB.lt sq_o16)
    have ne_em_o16 : em ≠ o16 := Nat.ne_of_lt (Nat.lt_of_lt_of_le E_em.lt sq_o16)
    have ne_nv1_o16 : nv1 ≠ o16 := Nat.ne_of_lt (Nat.lt_of_lt_of_le E_nv1.lt sq_o16)
    have ne_tA_o16 : tA ≠ o16 := Nat.ne_of_lt (Nat.lt_of_lt_of_le V_tA.lt sq_o16)
    have ne_tB_o16 : tB ≠ o16 := Nat.ne_of_lt (Nat.lt_of_lt_of_le V_tB.lt sq_o16)
    have ne_tS_o16 : tS ≠ o16 := Nat.ne_of_lt (Nat.lt_of_lt_of_le V_tS.lt sq_o16)
    have ne_va_o16 : va ≠ o16 := Nat.ne_of_lt (Nat.lt_of_lt_of_le E_va.lt sq_o16)
    have ne_wA_o16 : wA ≠ o16 := Nat.ne_of_lt (Nat.lt_of_lt_of_le E_wA.lt sq_o16)
    have ne_wB_o16 : wB ≠ o16 := Nat.ne_of_lt (Nat.lt_of_lt_of_le E_wB.lt sq_o16)
    have ne_x0_o16 : x0 ≠ o16 := Nat.ne_of_lt (Nat.lt_of_lt_of_le E_x0.lt sq_o16)
    have g_o16 : n0 ≤ o16 := Nat.le_trans Zn1 sq_o16
    have sz_o16 : h0.size ≤ o16 := Nat.le_trans K1.1 sq_o16
    have N16 := Fr.app N6 N16q
    have E_va := E_va.keep Kq16
    have V_va := V_va.keep Kq16 nin0
    have F_written_cA := F_written_cA.keep Kq16 nin0
    have F_written_cB := F_written_cB.keep Kq16 nin0
    have E_wA := E_wA.keep Kq16
    have F_coder_wA := F_coder_wA.keep Kq16 nin0
    have F_value_wA := F_value_wA.keep Kq16 nin0
    have V_tA := V_tA.keep Kq16 nin0
    have E_wB := E_wB.keep Kq16
    have F_coder_wB := F_coder_wB.keep Kq16 nin0
    have F_value_wB := F_value_wB.keep Kq16 nin0
    have V_tB := V_tB.keep Kq16 nin0
    have E_em := E_em.keep Kq16
    have F_value_em := F_value_em.keep Kq16 nin0
    have E_x0 := E_x0.keep Kq16
    have F_coder_x0 := F_coder_x0.keep Kq16 nin0
    have F_value_x0 := F_value_x0.keep Kq16 nin0
    have V_tS := V_tS.keep Kq16 nin0
    have E_nv1 := E_nv1.keep Kq16
    have V_nv1 := V_nv1.keep Kq16 nin0
    have Zn16 : n0 ≤ h16.size := Nat.le_trans Zn1 Kq16.1
    have K16 := K1.trans Kq16 (all0)
    have Od16 := Od1.keep Kq16 all0
    have E_o16 : Exa Z h16 o16 "java/util/Optional" := o16_0
    have F_value_o16 : Fld Z h16 o16 "java/util/Optional" "value" "Ljava/lang/Object;" (.ref cA) := o16_1
    refine Goes.st (B := T16.setTop (mkF m 36 #[rv x0, rv nv1, iv (2 : Int32), iv (0 : Int32), rv cA] [(.ref o16)])) st16 ?_
    exact Goes.retR X16 hx hlk Bd.returns rfl rfl (hb hby d12_36) (by show QO Z cA cB cs h0 n0 _ _ _; rw [e16]; exact ⟨o16, rfl, N16, K16, E_o16, by unfold own_val; rw [if_neg hc28_7]; exact F_value_o16⟩) (by decide) (by decide)
def GoesW (p : Program) (e : Env) (below : List Frame) (s : State) (Q : Option Value → Heap → List Loc → Prop) (kc ks : Nat) (A : State) : Prop :=
  ∃ s₂ o, Steps p.tables e below A s₂ ∧ s₂.status = .running ∧ Ended s₂ below o ∧ ∃ v L, o = .returned v ∧ Q v s₂.heap L ∧ ReturnedEndW s o s₂ L kc ks
section OwnGoesW
variable {p : Program} {l : Launch} {e : Env} {R : Room} {s s' : State} {m : MethodId} {args : Array Value} {below : List Frame} {meth : Method} {c : Code} {T : State} {locs : List Loc} {cells slots kc ks : Nat} {Q : Option Value → Heap → List Loc → Prop} {vm1 : Vm}
theorem GoesW.st {A B : State} (h : ∀ t, Steps p.tables e below B t → Steps p.tables e below A t) (g : GoesW p e below s Q kc ks B) : GoesW p e below s Q kc ks A := by
  obtain ⟨s₂, o, h1, r⟩ := g
  exact ⟨s₂, o, h _ h1, r⟩
theorem GoesW.cast {g g' : JFrame} (q : g = g') (h : GoesW p e below s Q kc ks (T.setTop g')) : GoesW p e below s Q kc ks (T.setTop g) := q ▸ h
theorem GoesW.run {own : String} {ci : List (Nat × Int32)} {cl : List (Nat × Int64)} (X : Stand p l e R s' m args below meth c T locs cells slots) (hx : p.tables.exec = Jvm.exec) (hown : s'.vm.findClass own = some m.cls) (hci : ∀ i v, (i, v) ∈ ci → (Cond.constant own i v).before args s' = true) (hcl : ∀ i v, (i, v) ∈ cl → (Cond.constantLong own i v).before args s' = true) {code : ByteArray} (hby : c.code = code)
    {L : List (Nat × Instr × Nat)} (hd : own_decs code L = true) {g g' : JFrame} (hg : g.method = m) (hp : own_prun ci cl L g = some g') (h : GoesW p e below s Q kc ks (T.setTop g')) : GoesW p e below s Q kc ks (T.setTop g) :=
  GoesW.st (fun _ k => own_prun_ok X hx hown hci hcl hby L g g' hg hd hp k) h
theorem GoesW.retB (X : Stand p l e R (s.setVm vm1) m args below meth c T locs cells slots) {n : Nat} (hS : s.Since vm1 n) (hn : n ≤ T.heap.size) (hx : p.tables.exec = Jvm.exec) (hlk : meth.locks = false) {t : FieldType} (hret : meth.sig.returnType = some t) (ht : t = .boolean ∨ t = .byte ∨ t = .char ∨ t = .short) {pc : Nat} {Ls : Array Slot} {z : Int32} {rest : List Value} (hd : decode c.code pc = .ok (.ireturn, 1)) (hz : nar t z = z) (hQ : Q (some (.int z)) T.heap locs) (h1 : cells ≤ kc) (h2 : slots ≤ ks) : GoesW p e below s Q kc ks (T.setTop (mkF m pc Ls (.int z :: rest))) := by
  obtain ⟨fs, hr, hrun, hended, hE⟩ := X.leaveW hS hn (v := some (.int z)) (fun h => by rw [hret] at h; cases h)
  exact ⟨_, _, retN X hx hret ht hd (by rw [hz]; exact hr), hrun, hended, _, _, rfl, hQ, hE.1, hE.2.1, hE.2.2.1, hE.2.2.2.mono h1 h2⟩
end OwnGoesW
theorem own_since (s : State) : s.Since s.vm s.heap.size := ⟨State.Warmed39.refl s, fun j p hj hp => absurd (Array.getElem?_eq_some_iff.mp hp).1 (Nat.not_lt.mpr hj)⟩
theorem own_IBm {Z : State} {vm : Vm} {Ts Us : List String} (I : IB Z vm Ts) (h : ∀ t ∈ Ts, t ∈ Us) : IB Z vm Us := by
  obtain ⟨more, e, q⟩ := I
  exact ⟨more, e, fun x hx => by obtain ⟨t, ht, r⟩ := q x hx; exact ⟨t, h t ht, r⟩⟩
theorem own_wS {Z : State} {a0 : Array Value} (hw : ∀ d ∈ tables_1, d.before a0 Z = true) : ∀ d ∈ Bundle.stringAtoms, d.before a0 Z = true := fun d hd => hw d ((by decide +kernel : ∀ d ∈ Bundle.stringAtoms, d ∈ tables_1) d hd)
theorem pn0 : plainName "com/example/mahnwerk/mahnwerk/model/DebtorKindOfPinLaw" = true := by first | (simp [plainName, overriddenIn]; done) | decide +kernel
theorem pd0_0 : parseMethodDescriptor "(JI)C" = some ⟨[.long, .int], some .char⟩ := by decide +kernel
theorem pd0_1 : parseMethodDescriptor "([C)V" = some ⟨[(.array .char)], none⟩ := by decide +kernel
theorem pd0_2 : parseMethodDescriptor "(C)Ljava/lang/String;" = some ⟨[.char], some (.object "java/lang/String")⟩ := by decide +kernel
theorem pd0_3 : parseMethodDescriptor "(Ljava/lang/Object;)Z" = some ⟨[(.object "java/lang/Object")], some .boolean⟩ := by decide +kernel
theorem pd0_4 : parseMethodDescriptor "(Ljava/lang/String;)Ljava/util/Optional;" = some ⟨[(.object "java/lang/String")], some (.object "java/util/Optional")⟩ := by decide +kernel
theorem pd0_5 : parseMethodDescriptor "(Ljava/lang/Object;)Ljava/lang/Object;" = some ⟨[(.object "java/lang/Object")], some (.object "java/lang/Object")⟩ := by decide +kernel
theorem ef0 (m : MethodId) (x0 : Int32) (x1 : Int64) (x2 : Int32) (x3 : Int32) : entryFrame m #[(.int x0), (.long x1), (.int x2), (.int x3)] maxLocals = (mkF m 0 #[iv x0, jv x1, .second, iv x2, iv x3, .unset, .unset, .unset, .unset, .unset, .unset, .unset, .unset, .unset] []) := by first | (simp [entryFrame, mkF, argsToLocals, Value.category, maxLocals]; done) | rfl
def w0_10 (x0 : Int32) (x1 : Int64) (x2 : Int32) (x3 : Int32) : Int32 := ((((x3.toUInt32 >>> ((8 : Int32) &&& 31).toUInt32).toInt32) &&& (255 : Int32)).toUInt32.toUInt16.toUInt32.toInt32)
def w0_21 (x0 : Int32) (x1 : Int64) (x2 : Int32) (x3 : Int32) : Int32 := (x0 &&& (3 : Int32))
def w0_33 (x0 : Int32) (x1 : Int64) (x2 : Int32) (x3 : Int32) : Int32 := (nar .char (99 : Int32))
def w0_39 (x0 : Int32) (x1 : Int64) (x2 : Int32) (x3 : Int32) : Int32 := (nar .char (111 : Int32))
def w0_45 (x0 : Int32) (x1 : Int64) (x2 : Int32) (x3 : Int32) : Int32 := (nar .char (110 : Int32))
def w0_51 (x0 : Int32) (x1 : Int64) (x2 : Int32) (x3 : Int32) : Int32 := (nar .char (115 : Int32))
def w0_57 (x0 : Int32) (x1 : Int64) (x2 : Int32) (x3 : Int32) : Int32 := (nar .char (117 : Int32))
def w0_63 (x0 : Int32) (x1 : Int64) (x2 : Int32) (x3 : Int32) : Int32 := (nar .char (109 : Int32))
def w0_70 (x0 : Int32) (x1 : Int64) (x2 : Int32) (x3 : Int32) : Int32 := (nar .char (101 : Int32))
def w0_77 (x0 : Int32) (x1 : Int64) (x2 : Int32) (x3 : Int32) : Int32 := (nar .char (114 : Int32))
def w0_92 (x0 : Int32) (x1 : Int64) (x2 : Int32) (x3 : Int32) : Int32 := (nar .char (98 : Int32))
def w0_110 (x0 : Int32) (x1 : Int64) (x2 : Int32) (x3 : Int32) : Int32 := (nar .char (105 : Int32))
def w0_148 (x0 : Int32) (x1 : Int64) (x2 : Int32) (x3 : Int32) : Int32 := (nar .char (r1 x1 (0 : Int32)))
def w0_157 (x0 : Int32) (x1 : Int64) (x2 : Int32) (x3 : Int32) : Int32 := (nar .char (r1 x1 (1 : Int32)))
def w0_166 (x0 : Int32) (x1 : Int64) (x2 : Int32) (x3 : Int32) : Int32 := (nar .char (r1 x1 (2 : Int32)))
def w0_175 (x0 : Int32) (x1 : Int64) (x2 : Int32) (x3 : Int32) : Int32 := (nar .char (r1 x1 (3 : Int32)))
def w0_184 (x0 : Int32) (x1 : Int64) (x2 : Int32) (x3 : Int32) : Int32 := (nar .char (r1 x1 (4 : Int32)))
def w0_193 (x0 : Int32) (x1 : Int64) (x2 : Int32) (x3 : Int32) : Int32 := (nar .char (r1 x1 (5 : Int32)))
def w0_204 (x0 : Int32) (x1 : Int64) (x2 : Int32) (x3 : Int32) : Int32 := (nar .char (r1 x1 (6 : Int32)))
def w0_215 (x0 : Int32) (x1 : Int64) (x2 : Int32) (x3 : Int32) : Int32 := (nar .char (r1 x1 (7 : Int32)))
def j0_216_e0 (x0 : Int32) (x1 : Int64) (x2 : Int32) (x3 : Int32) : Int32 := (if (w0_21 x0 x1 x2 x3) = (0 : Int32) then (w0_33 x0 x1 x2 x3) else (if (w0_21 x0 x1 x2 x3) = (1 : Int32) then (w0_92 x0 x1 x2 x3) else (w0_148 x0 x1 x2 x3)))
def j0_216_e1 (x0 : Int32) (x1 : Int64) (x2 : Int32) (x3 : Int32) : Int32 := (if (w0_21 x0 x1 x2 x3) = (0 : Int32) then (w0_39 x0 x1 x2 x3) else (if (w0_21 x0 x1 x2 x3) = (1 : Int32) then (w0_57 x0 x1 x2 x3) else (w0_157 x0 x1 x2 x3)))
def j0_216_e2 (x0 : Int32) (x1 : Int64) (x2 : Int32) (x3 : Int32) : Int32 := (if (w0_21 x0 x1 x2 x3) = (0 : Int32) then (w0_45 x0 x1 x2 x3) else (if (w0_21 x0 x1 x2 x3) = (1 : Int32) then (w0_51 x0 x1 x2 x3) else (w0_166 x0 x1 x2 x3)))
def j0_216_e3 (x0 : Int32) (x1 : Int64) (x2 : Int32) (x3 : Int32) : Int32 := (if (w0_21 x0 x1 x2 x3) = (0 : Int32) then (w0_51 x0 x1 x2 x3) else (if (w0_21 x0 x1 x2 x3) = (1 : Int32) then (w0_110 x0 x1 x2 x3) else (w0_175 x0 x1 x2 x3)))
def j0_216_e4 (x0 : Int32) (x1 : Int64) (x2 : Int32) (x3 : Int32) : Int32 := (if (w0_21 x0 x1 x2 x3) = (0 : Int32) then (w0_57 x0 x1 x2 x3) else (if (w0_21 x0 x1 x2 x3) = (1 : Int32) then (w0_45 x0 x1 x2 x3) else (w0_184 x0 x1 x2 x3)))
def j0_216_e5 (x0 : Int32) (x1 : Int64) (x2 : Int32) (x3 : Int32) : Int32 := (if (w0_21 x0 x1 x2 x3) = (0 : Int32) then (w0_63 x0 x1 x2 x3) else (if (w0_21 x0 x1 x2 x3) = (1 : Int32) then (w0_70 x0 x1 x2 x3) else (w0_193 x0 x1 x2 x3)))
def j0_216_e6 (x0 : Int32) (x1 : Int64) (x2 : Int32) (x3 : Int32) : Int32 := (if (w0_21 x0 x1 x2 x3) = (0 : Int32) then (w0_70 x0 x1 x2 x3) else (if (w0_21 x0 x1 x2 x3) = (1 : Int32) then (w0_51 x0 x1 x2 x3) else (w0_204 x0 x1 x2 x3)))
def j0_216_e7 (x0 : Int32) (x1 : Int64) (x2 : Int32) (x3 : Int32) : Int32 := (if (w0_21 x0 x1 x2 x3) = (0 : Int32) then (w0_77 x0 x1 x2 x3) else (if (w0_21 x0 x1 x2 x3) = (1 : Int32) then (w0_51 x0 x1 x2 x3) else (w0_215 x0 x1 x2 x3)))
def w0_222 (x0 : Int32) (x1 : Int64) (x2 : Int32) (x3 : Int32) : Int32 := (nar .char (w0_10 x0 x1 x2 x3))
def w0_239l (x0 : Int32) (x1 : Int64) (x2 : Int32) (x3 : Int32) : Int32 := (x2 &&& (2147483647 : Int32))
def w0_247 (x0 : Int32) (x1 : Int64) (x2 : Int32) (x3 : Int32) : Int32 := (nar .char ((x3 &&& (255 : Int32)).toUInt32.toUInt16.toUInt32.toInt32))
def j0_248_e0 (x0 : Int32) (x1 : Int64) (x2 : Int32) (x3 : Int32) : Int32 := (if (((x0.toUInt32 >>> ((2 : Int32) &&& 31).toUInt32).toInt32) &&& (1 : Int32)) = (0 : Int32) then (j0_216_e0 x0 x1 x2 x3) else (if ((w0_239l x0 x1 x2 x3) - ((w0_239l x0 x1 x2 x3) / (9 : Int32)) * (9 : Int32)) = (0 : Int32) then (w0_247 x0 x1 x2 x3) else (j0_216_e0 x0 x1 x2 x3)))
def j0_248_e1 (x0 : Int32) (x1 : Int64) (x2 : Int32) (x3 : Int32) : Int32 := (if (((x0.toUInt32 >>> ((2 : Int32) &&& 31).toUInt32).toInt32) &&& (1 : Int32)) = (0 : Int32) then (j0_216_e1 x0 x1 x2 x3) else (if ((w0_239l x0 x1 x2 x3) - ((w0_239l x0 x1 x2 x3) / (9 : Int32)) * (9 : Int32)) = (1 : Int32) then (w0_247 x0 x1 x2 x3) else (j0_216_e1 x0 x1 x2 x3)))
def j0_248_e2 (x0 : Int32) (x1 : Int64) (x2 : Int32) (x3 : Int32) : Int32 := (if (((x0.toUInt32 >>> ((2 : Int32) &&& 31).toUInt32).toInt32) &&& (1 : Int32)) = (0 : Int32) then (j0_216_e2 x0 x1 x2 x3) else (if ((w0_239l x0 x1 x2 x3) - ((w0_239l x0 x1 x2 x3) / (9 : Int32)) * (9 : Int32)) = (2 : Int32) then (w0_247 x0 x1 x2 x3) else (j0_216_e2 x0 x1 x2 x3)))
def j0_248_e3 (x0 : Int32) (x1 : Int64) (x2 : Int32) (x3 : Int32) : Int32 := (if (((x0.toUInt32 >>> ((2 : Int32) &&& 31).toUInt32).toInt32) &&& (1 : Int32)) = (0 : Int32) then (j0_216_e3 x0 x1 x2 x3) else (if ((w0_239l x0 x1 x2 x3) - ((w0_239l x0 x1 x2 x3) / (9 : Int32)) * (9 : Int32)) = (3 : Int32) then (w0_247 x0 x1 x2 x3) else (j0_216_e3 x0 x1 x2 x3)))
def j0_248_e4 (x0 : Int32) (x1 : Int64) (x2 : Int32) (x3 : Int32) : Int32 := (if (((x0.toUInt32 >>> ((2 : Int32) &&& 31).toUInt32).toInt32) &&& (1 : Int32)) = (0 : Int32) then (j0_216_e4 x0 x1 x2 x3) else (if ((w0_239l x0 x1 x2 x3) - ((w0_239l x0 x1 x2 x3) / (9 : Int32)) * (9 : Int32)) = (4 : Int32) then (w0_247 x0 x1 x2 x3) else (j0_216_e4 x0 x1 x2 x3)))
def j0_248_e5 (x0 : Int32) (x1 : Int64) (x2 : Int32) (x3 : Int32) : Int32 := (if (((x0.toUInt32 >>> ((2 : Int32) &&& 31).toUInt32).toInt32) &&& (1 : Int32)) = (0 : Int32) then (j0_216_e5 x0 x1 x2 x3) else (if ((w0_239l x0 x1 x2 x3) - ((w0_239l x0 x1 x2 x3) / (9 : Int32)) * (9 : Int32)) = (5 : Int32) then (w0_247 x0 x1 x2 x3) else (j0_216_e5 x0 x1 x2 x3)))
def j0_248_e6 (x0 : Int32) (x1 : Int64) (x2 : Int32) (x3 : Int32) : Int32 := (if (((x0.toUInt32 >>> ((2 : Int32) &&& 31).toUInt32).toInt32) &&& (1 : Int32)) = (0 : Int32) then (j0_216_e6 x0 x1 x2 x3) else (if ((w0_239l x0 x1 x2 x3) - ((w0_239l x0 x1 x2 x3) / (9 : Int32)) * (9 : Int32)) = (6 : Int32) then (w0_247 x0 x1 x2 x3) else (j0_216_e6 x0 x1 x2 x3)))
def j0_248_e7 (x0 : Int32) (x1 : Int64) (x2 : Int32) (x3 : Int32) : Int32 := (if (((x0.toUInt32 >>> ((2 : Int32) &&& 31).toUInt32).toInt32) &&& (1 : Int32)) = (0 : Int32) then (j0_216_e7 x0 x1 x2 x3) else (if ((w0_239l x0 x1 x2 x3) - ((w0_239l x0 x1 x2 x3) / (9 : Int32)) * (9 : Int32)) = (7 : Int32) then (w0_247 x0 x1 x2 x3) else (j0_216_e7 x0 x1 x2 x3)))
def j0_248_e8 (x0 : Int32) (x1 : Int64) (x2 : Int32) (x3 : Int32) : Int32 := (if (((x0.toUInt32 >>> ((2 : Int32) &&& 31).toUInt32).toInt32) &&& (1 : Int32)) = (0 : Int32) then (w0_222 x0 x1 x2 x3) else (if ((w0_239l x0 x1 x2 x3) - ((w0_239l x0 x1 x2 x3) / (9 : Int32)) * (9 : Int32)) = (8 : Int32) then (w0_247 x0 x1 x2 x3) else (w0_222 x0 x1 x2 x3)))
def w0_254 (x0 : Int32) (x1 : Int64) (x2 : Int32) (x3 : Int32) : Int32 := (((x0.toUInt32 >>> ((3 : Int32) &&& 31).toUInt32).toInt32) &&& (7 : Int32))
def w0_358 (x0 : Int32) (x1 : Int64) (x2 : Int32) (x3 : Int32) : Int32 := (nar .char (j0_248_e0 x0 x1 x2 x3))
def w0_365 (x0 : Int32) (x1 : Int64) (x2 : Int32) (x3 : Int32) : Int32 := (nar .char (j0_248_e1 x0 x1 x2 x3))
def w0_372 (x0 : Int32) (x1 : Int64) (x2 : Int32) (x3 : Int32) : Int32 := (nar .char (j0_248_e2 x0 x1 x2 x3))
def w0_379 (x0 : Int32) (x1 : Int64) (x2 : Int32) (x3 : Int32) : Int32 := (nar .char (j0_248_e3 x0 x1 x2 x3))
def w0_386 (x0 : Int32) (x1 : Int64) (x2 : Int32) (x3 : Int32) : Int32 := (nar .char (j0_248_e4 x0 x1 x2 x3))
def w0_393 (x0 : Int32) (x1 : Int64) (x2 : Int32) (x3 : Int32) : Int32 := (nar .char (j0_248_e5 x0 x1 x2 x3))
def w0_402 (x0 : Int32) (x1 : Int64) (x2 : Int32) (x3 : Int32) : Int32 := (nar .char (j0_248_e6 x0 x1 x2 x3))
def cs0_403 (x0 : Int32) (x1 : Int64) (x2 : Int32) (x3 : Int32) : List Int32 := [(w0_358 x0 x1 x2 x3), (w0_365 x0 x1 x2 x3), (w0_372 x0 x1 x2 x3), (w0_379 x0 x1 x2 x3), (w0_386 x0 x1 x2 x3), (w0_393 x0 x1 x2 x3), (w0_402 x0 x1 x2 x3)]
def w0_484 (x0 : Int32) (x1 : Int64) (x2 : Int32) (x3 : Int32) : Int32 := (nar .char (j0_248_e7 x0 x1 x2 x3))
def w0_493 (x0 : Int32) (x1 : Int64) (x2 : Int32) (x3 : Int32) : Int32 := (nar .char (j0_248_e8 x0 x1 x2 x3))
def cs0_494 (x0 : Int32) (x1 : Int64) (x2 : Int32) (x3 : Int32) : List Int32 := [(w0_358 x0 x1 x2 x3), (w0_365 x0 x1 x2 x3), (w0_372 x0 x1 x2 x3), (w0_379 x0 x1 x2 x3), (w0_386 x0 x1 x2 x3), (w0_393 x0 x1 x2 x3), (w0_402 x0 x1 x2 x3), (w0_484 x0 x1 x2 x3), (w0_493 x0 x1 x2 x3)]
def cs0_330 (x0 : Int32) (x1 : Int64) (x2 : Int32) (x3 : Int32) : List Int32 := [(w0_358 x0 x1 x2 x3), (w0_365 x0 x1 x2 x3), (w0_372 x0 x1 x2 x3), (w0_379 x0 x1 x2 x3), (w0_386 x0 x1 x2 x3), (w0_393 x0 x1 x2 x3), (w0_402 x0 x1 x2 x3), (w0_484 x0 x1 x2 x3)]
def j0_525_cs (x0 : Int32) (x1 : Int64) (x2 : Int32) (x3 : Int32) : List Int32 := (if (3 : Int32) < (w0_254 x0 x1 x2 x3) then (if (w0_254 x0 x1 x2 x3) = (4 : Int32) then (cs0_403 x0 x1 x2 x3) else (if (w0_254 x0 x1 x2 x3) = (5 : Int32) then (cs0_494 x0 x1 x2 x3) else (if (w0_254 x0 x1 x2 x3) = (6 : Int32) then ([] : List Int32) else ([(j0_248_e0 x0 x1 x2 x3)] : List Int32)))) else (cs0_330 x0 x1 x2 x3))
def w0_532 (x0 : Int32) (x1 : Int64) (x2 : Int32) (x3 : Int32) : Int32 := (own_eqr (j0_525_cs x0 x1 x2 x3) ([99, 111, 110, 115, 117, 109, 101, 114] : List Int32))
def w0_541 (x0 : Int32) (x1 : Int64) (x2 : Int32) (x3 : Int32) : Int32 := (own_eqr (j0_525_cs x0 x1 x2 x3) ([98, 117, 115, 105, 110, 101, 115, 115] : List Int32))
def r0 (x0 : Int32) (x1 : Int64) (x2 : Int32) (x3 : Int32) : Int32 := (if (own_eqr csC (j0_525_cs x0 x1 x2 x3)) = (0 : Int32) then (if (own_eqr csB (j0_525_cs x0 x1 x2 x3)) = (0 : Int32) then (1 : Int32) else (1 : Int32)) else (1 : Int32))
def Bd (u : Int32) : Prop := ∃ a : Int, u.toInt = a ∧ 0 ≤ a ∧ a < 256
theorem own_cc {v : Int32} (h : Bd v) : v.toUInt32.toUInt16.toUInt32.toInt32 = v := by
  obtain ⟨a, e, a0, a1⟩ := h
  obtain ⟨k, hk, rfl, -⟩ := own_nat32 e a0 (N := 256) a1
  exact (by decide +kernel : ∀ n : Nat, n < 256 → (Int32.ofNat n).toUInt32.toUInt16.toUInt32.toInt32 = Int32.ofNat n) k hk
theorem Bd.ch {v : Int32} (h : Bd v) : Bd (v.toUInt32.toUInt16.toUInt32.toInt32) := by rw [own_cc h]; exact h
theorem Bd.nar {v : Int32} (h : Bd v) : Bd (nar .char v) := h.ch
theorem Bd.and (x : Int32) : Bd (x &&& (255 : Int32)) := by
  obtain ⟨A, m0, a0, a1, -⟩ := own_m32 x (255 : Int32) (k := 8) (by decide) (by decide)
  exact ⟨A, m0, a0, by omega⟩
theorem Bd.andL (x : Int64) : Bd ((x &&& (255 : Int64)).toInt32) := by
  obtain ⟨A, m0, a0, a1, -⟩ := own_m64 x (255 : Int64) (k := 8) (by decide) (by decide)
  refine ⟨A, ?_, a0, by omega⟩
  rw [Int64.toInt_toInt32, m0]
  exact Int.bmod_eq_of_le (by omega) (by omega)
theorem Bd.hp {u : Int32} (h : Bd u) : ¬ u < 0 ∧ ¬ (255 : Int32) < u := by
  obtain ⟨a, e, a0, a1⟩ := h
  rw [own_lt32 e (show (0 : Int32).toInt = 0 by decide), own_lt32 (show (255 : Int32).toInt = 255 by decide) e]
  omega
theorem Bd.ite {c : Prop} [Decidable c] {u v : Int32} (h : Bd u) (k : Bd v) : Bd (if c then u else v) := by
  split
  · exact h
  · exact k
section
variable (x0 : Int32) (x1 : Int64) (x2 x3 : Int32)
theorem own_ix : ((w0_239l x0 x1 x2 x3) - ((w0_239l x0 x1 x2 x3) / (9 : Int32)) * (9 : Int32)) = (0 : Int32) ∨ ((w0_239l x0 x1 x2 x3) - ((w0_239l x0 x1 x2 x3) / (9 : Int32)) * (9 : Int32)) = (1 : Int32) ∨ ((w0_239l x0 x1 x2 x3) - ((w0_239l x0 x1 x2 x3) / (9 : Int32)) * (9 : Int32)) = (2 : Int32) ∨ ((w0_239l x0 x1 x2 x3) - ((w0_239l x0 x1 x2 x3) / (9 : Int32)) * (9 : Int32)) = (3 : Int32) ∨ ((w0_239l x0 x1 x2 x3) - ((w0_239l x0 x1 x2 x3) / (9 : Int32)) * (9 : Int32)) = (4 : Int32) ∨ ((w0_239l x0 x1 x2 x3) - ((w0_239l x0 x1 x2 x3) / (9 : Int32)) * (9 : Int32)) = (5 : Int32) ∨ ((w0_239l x0 x1 x2 x3) - ((w0_239l x0 x1 x2 x3) / (9 : Int32)) * (9 : Int32)) = (6 : Int32) ∨ ((w0_239l x0 x1 x2 x3) - ((w0_239l x0 x1 x2 x3) / (9 : Int32)) * (9 : Int32)) = (7 : Int32) ∨ ((w0_239l x0 x1 x2 x3) - ((w0_239l x0 x1 x2 x3) / (9 : Int32)) * (9 : Int32)) = (8 : Int32) := by
  obtain ⟨A, m0, a0, -, -⟩ := own_m32 x2 (2147483647 : Int32) (k := 31) (by decide) (by decide)
  have e := own_r32 (show (w0_239l x0 x1 x2 x3).toInt = A from m0) (show (9 : Int32).toInt = 9 by decide) a0
  obtain ⟨k, hk, q, -⟩ := own_nat32 e (by omega) (N := 9) (by omega)
  rw [q]
  exact (by decide +kernel : ∀ n : Nat, n < 9 → Int32.ofNat n = (0 : Int32) ∨ Int32.ofNat n = (1 : Int32) ∨ Int32.ofNat n = (2 : Int32) ∨ Int32.ofNat n = (3 : Int32) ∨ Int32.ofNat n = (4 : Int32) ∨ Int32.ofNat n = (5 : Int32) ∨ Int32.ofNat n = (6 : Int32) ∨ Int32.ofNat n = (7 : Int32) ∨ Int32.ofNat n = (8 : Int32)) k hk
theorem own_bl (u : Int32) (h : (0 ≤ u.toInt ∧ u.toInt < 256)) : Bd (nar .char u) := Bd.nar ⟨_, rfl, h.1, h.2⟩
theorem own_br (i : Int32) : Bd (nar .char (r1 x1 i)) := Bd.nar (Bd.ch (Bd.andL _))
theorem own_e0 : Bd (j0_248_e0 x0 x1 x2 x3) := Bd.ite (Bd.ite (own_bl _ (by decide)) (Bd.ite (own_bl _ (by decide)) (own_br x1 _))) (Bd.ite (Bd.nar (Bd.ch (Bd.and _))) (Bd.ite (own_bl _ (by decide)) (Bd.ite (own_bl _ (by decide)) (own_br x1 _))))
theorem own_e1 : Bd (j0_248_e1 x0 x1 x2 x3) := Bd.ite (Bd.ite (own_bl _ (by decide)) (Bd.ite (own_bl _ (by decide)) (own_br x1 _))) (Bd.ite (Bd.nar (Bd.ch (Bd.and _))) (Bd.ite (own_bl _ (by decide)) (Bd.ite (own_bl _ (by decide)) (own_br x1 _))))
theorem own_e2 : Bd (j0_248_e2 x0 x1 x2 x3) := Bd.ite (Bd.ite (own_bl _ (by decide)) (Bd.ite (own_bl _ (by decide)) (own_br x1 _))) (Bd.ite (Bd.nar (Bd.ch (Bd.and _))) (Bd.ite (own_bl _ (by decide)) (Bd.ite (own_bl _ (by decide)) (own_br x1 _))))
theorem own_e3 : Bd (j0_248_e3 x0 x1 x2 x3) := Bd.ite (Bd.ite (own_bl _ (by decide)) (Bd.ite (own_bl _ (by decide)) (own_br x1 _))) (Bd.ite (Bd.nar (Bd.ch (Bd.and _))) (Bd.ite (own_bl _ (by decide)) (Bd.ite (own_bl _ (by decide)) (own_br x1 _))))
theorem own_e4 : Bd (j0_248_e4 x0 x1 x2 x3) := Bd.ite (Bd.ite (own_bl _ (by decide)) (Bd.ite (own_bl _ (by decide)) (own_br x1 _))) (Bd.ite (Bd.nar (Bd.ch (Bd.and _))) (Bd.ite (own_bl _ (by decide)) (Bd.ite (own_bl _ (by decide)) (own_br x1 _))))
theorem own_e5 : Bd (j0_248_e5 x0 x1 x2 x3) := Bd.ite (Bd.ite (own_bl _ (by decide)) (Bd.ite (own_bl _ (by decide)) (own_br x1 _))) (Bd.ite (Bd.nar (Bd.ch (Bd.and _))) (Bd.ite (own_bl _ (by decide)) (Bd.ite (own_bl _ (by decide)) (own_br x1 _))))
theorem own_e6 : Bd (j0_248_e6 x0 x1 x2 x3) := Bd.ite (Bd.ite (own_bl _ (by decide)) (Bd.ite (own_bl _ (by decide)) (own_br x1 _))) (Bd.ite (Bd.nar (Bd.ch (Bd.and _))) (Bd.ite (own_bl _ (by decide)) (Bd.ite (own_bl _ (by decide)) (own_br x1 _))))
theorem own_e7 : Bd (j0_248_e7 x0 x1 x2 x3) := Bd.ite (Bd.ite (own_bl _ (by decide)) (Bd.ite (own_bl _ (by decide)) (own_br x1 _))) (Bd.ite (Bd.nar (Bd.ch (Bd.and _))) (Bd.ite (own_bl _ (by decide)) (Bd.ite (own_bl _ (by decide)) (own_br x1 _))))
theorem own_e8 : Bd (j0_248_e8 x0 x1 x2 x3) := Bd.ite (Bd.nar (Bd.ch (Bd.and _))) (Bd.ite (Bd.nar (Bd.ch (Bd.and _))) (Bd.nar (Bd.ch (Bd.and _))))
theorem own_b0 : ¬ (255 : Int32) < j0_248_e0 x0 x1 x2 x3 := (own_e0 x0 x1 x2 x3).hp.2
theorem own_hpv : ∀ c ∈ ([j0_248_e0 x0 x1 x2 x3] : List Int32), ¬ c < 0 ∧ ¬ (255 : Int32) < c := by
  intro c hc
  simp only [List.mem_cons, List.not_mem_nil, or_false] at hc
  subst hc; exact (own_e0 x0 x1 x2 x3).hp
theorem own_hp8 : ∀ c ∈ cs0_330 x0 x1 x2 x3, ¬ c < 0 ∧ ¬ (255 : Int32) < c := by
  intro c hc
  simp only [cs0_330, List.mem_cons, List.not_mem_nil, or_false] at hc
  rcases hc with rfl | rfl | rfl | rfl | rfl | rfl | rfl | rfl
  · exact (own_e0 x0 x1 x2 x3).nar.hp
  · exact (own_e1 x0 x1 x2 x3).nar.hp
  · exact (own_e2 x0 x1 x2 x3).nar.hp
  · exact (own_e3 x0 x1 x2 x3).nar.hp
  · exact (own_e4 x0 x1 x2 x3).nar.hp
  · exact (own_e5 x0 x1 x2 x3).nar.hp
  · exact (own_e6 x0 x1 x2 x3).nar.hp
  · exact (own_e7 x0 x1 x2 x3).nar.hp
theorem own_hp7 : ∀ c ∈ cs0_403 x0 x1 x2 x3, ¬ c < 0 ∧ ¬ (255 : Int32) < c := by
  intro c hc
  simp only [cs0_403, List.mem_cons, List.not_mem_nil, or_false] at hc
  rcases hc with rfl | rfl | rfl | rfl | rfl | rfl | rfl
  · exact (own_e0 x0 x1 x2 x3).nar.hp
  · exact (own_e1 x0 x1 x2 x3).nar.hp
  · exact (own_e2 x0 x1 x2 x3).nar.hp
  · exact (own_e3 x0 x1 x2 x3).nar.hp
  · exact (own_e4 x0 x1 x2 x3).nar.hp
  · exact (own_e5 x0 x1 x2 x3).nar.hp
  · exact (own_e6 x0 x1 x2 x3).nar.hp
theorem own_hp9 : ∀ c ∈ cs0_494 x0 x1 x2 x3, ¬ c < 0 ∧ ¬ (255 : Int32) < c := by
  intro c hc
  simp only [cs0_494, List.mem_cons, List.not_mem_nil, or_false] at hc
  rcases hc with rfl | rfl | rfl | rfl | rfl | rfl | rfl | rfl | rfl
  · exact (own_e0 x0 x1 x2 x3).nar.hp
  · exact (own_e1 x0 x1 x2 x3).nar.hp
  · exact (own_e2 x0 x1 x2 x3).nar.hp
  · exact (own_e3 x0 x1 x2 x3).nar.hp
  · exact (own_e4 x0 x1 x2 x3).nar.hp
  · exact (own_e5 x0 x1 x2 x3).nar.hp
  · exact (own_e6 x0 x1 x2 x3).nar.hp
  · exact (own_e7 x0 x1 x2 x3).nar.hp
  · exact (own_e8 x0 x1 x2 x3).nar.hp
theorem own_len : (j0_525_cs x0 x1 x2 x3).length ≤ 4000 := by
  unfold j0_525_cs
  repeat' split
  all_goals simp [cs0_330, cs0_403, cs0_494]
theorem law_true : r0 x0 x1 x2 x3 = 1 := by
  unfold r0
  repeat' split
  all_goals rfl
end
set_option maxRecDepth 65536 in
set_option maxHeartbeats 40000000 in
theorem rm0 (l : Launch) (Z : State) (a0 : Array Value) (hw : ∀ d ∈ tables_1, d.before a0 Z = true) (ws : List Jvm.Cond) (x0 : Int32) (x1 : Int64) (x2 : Int32) (x3 : Int32) (va : Addr) (kva : ClassId) (cA : Addr) (cB : Addr) (wA : Addr) (tA : Addr) (kA : ClassId) (wB : Addr) (tB : Addr) (kB : ClassId) (em : Addr) (G1 : Int32) (G3 : Value) (h0 : Heap) (n0 : Nat) (Z0 : n0 ≤ h0.size) (O0 : Old Z n0 h0) (O2 : Sta Z Z.heap "java/lang/String" "COMPACT_STRINGS" "Z" (.int G1)) (O4 : Sta Z Z.heap "jdk/internal/util/Preconditions" "SIOOBE_FORMATTER" "Ljava/util/function/BiFunction;" G3) (P5 : ¬ G1 = 0) (rG3 : G3.isRef = true) (zE_va : Exa Z Z.heap va "[Lcom/example/mahnwerk/mahnwerk/model/DebtorKind;") (zV_va : Arv Z Z.heap va kva (.object "com/example/mahnwerk/mahnwerk/model/DebtorKind") (2 : Int32) [(.ref cA), (.ref cB)] .null) (zF_written_cA : Fld Z Z.heap cA "com/example/mahnwerk/mahnwerk/model/DebtorKind" "written" "Ljava/lang/String;" (.ref wA)) (zF_written_cB : Fld Z Z.heap cB "com/example/mahnwerk/mahnwerk/model/DebtorKind" "written" "Ljava/lang/String;" (.ref wB)) (zE_wA : Exa Z Z.heap wA "java/lang/String") (zF_coder_wA : Fld Z Z.heap wA "java/lang/String" "coder" "B" (.int (0 : Int32))) (zF_value_wA : Fld Z Z.heap wA "java/lang/String" "value" "[B" (.ref tA)) (zV_tA : Arv Z Z.heap tA kA .byte (8 : Int32) ((csC.map (fun c => c.toInt8.toInt32)).map Value.int) (.int (0 : Int32))) (zE_wB : Exa Z Z.heap wB "java/lang/String") (zF_coder_wB : Fld Z Z.heap wB "java/lang/String" "coder" "B" (.int (0 : Int32))) (zF_value_wB : Fld Z Z.heap wB "java/lang/String" "value" "[B" (.ref tB)) (zV_tB : Arv Z Z.heap tB kB .byte (8 : Int32) ((csB.map (fun c => c.toInt8.toInt32)).map Value.int) (.int (0 : Int32))) (zE_em : Exa Z Z.heap em "java/util/Optional") (zF_value_em : Fld Z Z.heap em "java/util/Optional" "value" "Ljava/lang/Object;" .null) (zE_cA : Exa Z Z.heap cA "com/example/mahnwerk/mahnwerk/model/DebtorKind") (zE_cB : Exa Z Z.heap cB "com/example/mahnwerk/mahnwerk/model/DebtorKind") (SV : Sta Z Z.heap "com/example/mahnwerk/mahnwerk/model/DebtorKind" "$VALUES" "[Lcom/example/mahnwerk/mahnwerk/model/DebtorKind;" (.ref va)) (SE : Sta Z Z.heap "java/util/Optional" "EMPTY" "Ljava/util/Optional;" (.ref em)) (SC : Sta Z Z.heap "com/example/mahnwerk/mahnwerk/model/DebtorKind" "CONSUMER" "Lcom/example/mahnwerk/mahnwerk/model/DebtorKind;" (.ref cA)) (SB : Sta Z Z.heap "com/example/mahnwerk/mahnwerk/model/DebtorKind" "BUSINESS" "Lcom/example/mahnwerk/mahnwerk/model/DebtorKind;" (.ref cB)) (hN : n0 = h0.size) (hCH : ∀ p ∈ consts_1, Jvm.Lit.constHeld Z p.1 p.2) (hcw : Jvm.Lit.compactW.before a0 Z = true) :
    MetFree l x (head1 (Jvm.Cond.code x code maxLocals ret :: ws) room_1) (fun a U => a = #[(.int x0), (.long x1), (.int x2), (.int x3)] ∧ Z.Warmed39 U.vm ∧ U.heap = h0 ∧ U = Z) (fun _ _ _ _ _ => True) (fun _ U o U' => ∃ v L, o = .returned v ∧ (QL (some (.int (r0 x0 x1 x2 x3))) n0) v U'.heap L ∧ ReturnedEndW U o U' L room_1.cells room_1.slots) := by
  refine MetFree.of_bodySF (plainFor_of_name pn0) hisR ?_
  intro p e s m args below meth c s₁ Bd hml0 hP hK
  obtain ⟨rfl, hZ, hh, hUZ⟩ := hP
  have hx := Bd.exec
  have hby := Bd.bytes
  have hml : c.maxLocals = 14 := hml0
  have hlk : meth.locks = false := BodyLoose.notSynchronized Bd
  have hown : s.vm.findClass "com/example/mahnwerk/mahnwerk/model/DebtorKindOfPinLaw" = some m.cls := findClass_of_methodNamed Bd.named
  have hnm := (name_of_methodNamed Bd.named Bd.method).1
  have w_0 := hw _ (List.mem_of_getElem? (i := 0) rfl)
  have w_1 := hw _ (List.mem_of_getElem? (i := 1) rfl)
  have w_2 := hw _ (List.mem_of_getElem? (i := 2) rfl)
  have w_3 := hw _ (List.mem_of_getElem? (i := 3) rfl)
  have w_4 := hw _ (List.mem_of_getElem? (i := 4) rfl)
  have w_5 := hw _ (List.mem_of_getElem? (i := 5) rfl)
  have w_6 := hw _ (List.mem_of_getElem? (i := 6) rfl)
  have w_27 := hw _ (List.mem_of_getElem? (i := 27) rfl)
  have w_29 := hw _ (List.mem_of_getElem? (i := 29) rfl)
  have w_30 := hw _ (List.mem_of_getElem? (i := 30) rfl)
  have w_33 := hw _ (List.mem_of_getElem? (i := 33) rfl)
  have w_34 := hw _ (List.mem_of_getElem? (i := 34) rfl)
  have w_35 := hw _ (List.mem_of_getElem? (i := 35) rfl)
  have w_36 := hw _ (List.mem_of_getElem? (i := 36) rfl)
  have w_43 := hw _ (List.mem_of_getElem? (i := 43) rfl)
  have w_44 := hw _ (List.mem_of_getElem? (i := 44) rfl)
  have w_45 := hw _ (List.mem_of_getElem? (i := 45) rfl)
  have w_46 := hw _ (List.mem_of_getElem? (i := 46) rfl)
  have w_47 := hw _ (List.mem_of_getElem? (i := 47) rfl)
  have w_70 := hw _ (List.mem_of_getElem? (i := 70) rfl)
  have w_85 := hw _ (List.mem_of_getElem? (i := 85) rfl)
  have w_86 := hw _ (List.mem_of_getElem? (i := 86) rfl)
  have w_87 := hw _ (List.mem_of_getElem? (i := 87) rfl)
  have w_88 := hw _ (List.mem_of_getElem? (i := 88) rfl)
  have w_89 := hw _ (List.mem_of_getElem? (i := 89) rfl)
  have w_90 := hw _ (List.mem_of_getElem? (i := 90) rfl)
  have w_92 := hw _ (List.mem_of_getElem? (i := 92) rfl)
  have w_93 := hw _ (List.mem_of_getElem? (i := 93) rfl)
  have w_94 := hw _ (List.mem_of_getElem? (i := 94) rfl)
  have w_95 := hw _ (List.mem_of_getElem? (i := 95) rfl)
  have w_96 := hw _ (List.mem_of_getElem? (i := 96) rfl)
  have w_97 := hw _ (List.mem_of_getElem? (i := 97) rfl)
  have w_102 := hw _ (List.mem_of_getElem? (i := 102) rfl)
  have w_103 := hw _ (List.mem_of_getElem? (i := 103) rfl)
  have w_104 := hw _ (List.mem_of_getElem? (i := 104) rfl)
  have w_105 := hw _ (List.mem_of_getElem? (i := 105) rfl)
  have w_115 := hw _ (List.mem_of_getElem? (i := 115) rfl)
  have w_116 := hw _ (List.mem_of_getElem? (i := 116) rfl)
  have hci : ∀ i v, (i, v) ∈ ([(15, 2147483647)] : List (Nat × Int32)) → (Jvm.Cond.constant "com/example/mahnwerk/mahnwerk/model/DebtorKindOfPinLaw" i v).before #[(.int x0), (.long x1), (.int x2), (.int x3)] s = true := (own_ciS (mvT hZ w_102) own_ci0)
  have hcl : ∀ i v, (i, v) ∈ ([(7, 255)] : List (Nat × Int64)) → (Jvm.Cond.constantLong "com/example/mahnwerk/mahnwerk/model/DebtorKindOfPinLaw" i v).before #[(.int x0), (.long x1), (.int x2), (.int x3)] s = true := (own_ciS (mvT hZ w_97) own_ci0)
  have X0 : Stand p l e room_1 s m #[(.int x0), (.long x1), (.int x2), (.int x3)] below meth c s₁ [] 0 0 := Stand.of_body Bd
  have e0 : s₁.heap = h0 := by rw [← hh, Bd.state]; rfl
  have N0 := Fr.nil n0
  show GoesW p e below s (QL (some (.int (r0 x0 x1 x2 x3))) n0) room_1.cells room_1.slots (s₁.setTop (entryFrame m #[(.int x0), (.long x1), (.int x2), (.int x3)] maxLocals))
  refine GoesW.cast (ef0 m x0 x1 x2 x3) ?_
  have hn0 : n0 = s.heap.size := hN.trans (congrArg Array.size hh.symm)
  have hkeep : ∀ (b : Addr) (cl : Cell), Z.heap[b]? = some cl → s.heap[b]? = some cl := by rw [hUZ]; exact fun _ _ q => q
  have IB0 : IB Z s.vm [] := by rw [hUZ]; exact IB.start
  have Sn0 : s.Since s.vm s.heap.size := own_since s
  have hk0 : s.heap.size ≤ h0.size := Nat.le_of_eq (congrArg Array.size hh)
  have X0 : Stand p l e room_1 (s.setVm s.vm) m #[(.int x0), (.long x1), (.int x2), (.int x3)] below meth c s₁ [] 0 0 := X0
  refine GoesW.run X0 hx hown hci hcl hby (L := [(0, .iload 4, 2), (2, .bipush 8, 2), (4, .iushr, 1), (5, .sipush 255, 3), (8, .iand, 1), (9, .i2c, 1)]) (by decide +kernel) rfl (g' := (mkF m 10 #[iv x0, jv x1, .second, iv x2, iv x3, .unset, .unset, .unset, .unset, .unset, .unset, .unset, .unset, .unset] [(.int ((((x3.toUInt32 >>> ((8 : Int32) &&& 31).toUInt32).toInt32) &&& (255 : Int32)).toUInt32.toUInt16.toUInt32.toInt32))])) rfl ?_
  refine GoesW.run X0 hx hown hci hcl hby (L := [(10, .istore 5, 2), (12, .bipush 9, 2)]) (by decide +kernel) rfl (g' := (mkF m 14 #[iv x0, jv x1, .second, iv x2, iv x3, iv (w0_10 x0 x1 x2 x3), .unset, .unset, .unset, .unset, .unset, .unset, .unset, .unset] [(.int (9 : Int32))])) rfl ?_
  obtain ⟨T1, h1, k1, X1, e1, E1, A1, B1, st1⟩ := newPE X0 hx hZ (aty := .char) w_0 e0 (g := (mkF m 14 #[iv x0, jv x1, .second, iv x2, iv x3, iv (w0_10 x0 x1 x2 x3), .unset, .unset, .unset, .unset, .unset, .unset, .unset, .unset] [(.int (9 : Int32))])) rfl (hb hby at_14) rfl (by decide) (cap := 9) (by decide) (by decide) (by decide) (by decide) (ad := "[C") (by decide)
  obtain ⟨b1, g1⟩ : ∃ z, z = h0.size := ⟨_, rfl⟩
  rw [← g1] at A1 B1 st1
  have g_b1 : n0 ≤ b1 := Nat.le_trans Z0 (Nat.le_of_eq g1.symm)
  have Zn1 : n0 ≤ h1.size := Nat.le_trans Z0 E1.1
  have Od1 := O0.ext E1
  have hk1e := Nat.le_trans hk0 E1.1
  have E_b1 : Exa Z h1 b1 "[C" := B1
  have V_b1 : Arv Z h1 b1 k1 .char (9 : Int32) [(.int (0 : Int32)), (.int (0 : Int32)), (.int (0 : Int32)), (.int (0 : Int32)), (.int (0 : Int32)), (.int (0 : Int32)), (.int (0 : Int32)), (.int (0 : Int32)), (.int (0 : Int32))] (.int (0 : Int32)) := (Arv.new A1 (by decide)).pad (pad_rep [] (.int (0 : Int32)) 9)
  refine GoesW.st (B := T1.setTop (mkF m 16 #[iv x0, jv x1, .second, iv x2, iv x3, iv (w0_10 x0 x1 x2 x3), .unset, .unset, .unset, .unset, .unset, .unset, .unset, .unset] [(.ref b1)])) st1 ?_
  refine GoesW.run X1 hx hown hci hcl hby (L := [(16, .astore 6, 2), (18, .iload_n 0, 1), (19, .iconst 3, 1), (20, .iand, 1), (21, .istore 7, 2), (23, .iload 7, 2)]) (by decide +kernel) rfl (g' := (mkF m 25 #[iv x0, jv x1, .second, iv x2, iv x3, iv (w0_10 x0 x1 x2 x3), rv b1, iv (w0_21 x0 x1 x2 x3), .unset, .unset, .unset, .unset, .unset, .unset] [(.int (w0_21 x0 x1 x2 x3))])) rfl ?_
  have jn216_37 : ∀ (T36 : State) (L36 : List Loc) (h36 : Heap) (vm36 : Vm) (X36 : Stand p l e room_1 (s.setVm vm36) m #[(.int x0), (.long x1), (.int x2), (.int x3)] below meth c T36 L36 1 9) (e36 : T36.heap = h36) (N36 : Fr n0 L36) (Zn36 : n0 ≤ h36.size) (kk36 : Nat) (Sn36 : s.Since vm36 kk36) (hk36 : kk36 ≤ h36.size) (hZ : Z.Warmed39 (s.setVm vm36).vm) (hown : (s.setVm vm36).vm.findClass "com/example/mahnwerk/mahnwerk/model/DebtorKindOfPinLaw" = some m.cls) (IB36 : IB Z vm36 []) (Od36 : Old Z n0 h36) (E_b1 : Exa Z h36 b1 "[C") (V_b1 : Arv Z h36 b1 k1 .char (9 : Int32) [(.int (j0_216_e0 x0 x1 x2 x3)), (.int (j0_216_e1 x0 x1 x2 x3)), (.int (j0_216_e2 x0 x1 x2 x3)), (.int (j0_216_e3 x0 x1 x2 x3)), (.int (j0_216_e4 x0 x1 x2 x3)), (.int (j0_216_e5 x0 x1 x2 x3)), (.int (j0_216_e6 x0 x1 x2 x3)), (.int (j0_216_e7 x0 x1 x2 x3)), (.int (0 : Int32))] (.int (0 : Int32))), GoesW p e below s (QL (some (.int (r0 x0 x1 x2 x3))) n0) room_1.cells room_1.slots (T36.setTop (mkF m 216 #[iv x0, jv x1, .second, iv x2, iv x3, iv (w0_10 x0 x1 x2 x3), rv b1, iv (w0_21 x0 x1 x2 x3), .unset, .unset, .unset, .unset, .unset, .unset] [])) := by
    intro T36 L36 h36 vm36 X36 e36 N36 Zn36 kk36 Sn36 hk36 hZ hown IB36 Od36 E_b1 V_b1
    have hci : ∀ i v, (i, v) ∈ ([(15, 2147483647)] : List (Nat × Int32)) → (Jvm.Cond.constant "com/example/mahnwerk/mahnwerk/model/DebtorKindOfPinLaw" i v).before #[(.int x0), (.long x1), (.int x2), (.int x3)] (s.setVm vm36) = true := (own_ciS (mvT hZ w_102) own_ci0)
    have hcl : ∀ i v, (i, v) ∈ ([(7, 255)] : List (Nat × Int64)) → (Jvm.Cond.constantLong "com/example/mahnwerk/mahnwerk/model/DebtorKindOfPinLaw" i v).before #[(.int x0), (.long x1), (.int x2), (.int x3)] (s.setVm vm36) = true := (own_ciS (mvT hZ w_97) own_ci0)
    refine GoesW.run X36 hx hown hci hcl hby (L := [(216, .aload 6, 2), (218, .bipush 8, 2), (220, .iload 5, 2)]) (by decide +kernel) rfl (g' := (mkF m 222 #[iv x0, jv x1, .second, iv x2, iv x3, iv (w0_10 x0 x1 x2 x3), rv b1, iv (w0_21 x0 x1 x2 x3), .unset, .unset, .unset, .unset, .unset, .unset] [(.int (w0_10 x0 x1 x2 x3)), (.int (8 : Int32)), (.ref b1)])) rfl ?_
    obtain ⟨cl38, Ar38, q38, S38, M38, Hs38, G38⟩ := id V_b1
    have hin38 : ¬ ((8 : Int32) < 0 ∨ cl38.slots.size ≤ ((8 : Int32)).toNatClampNeg) := inb_of S38 ⟨(by decide), (by decide)⟩
    obtain ⟨T38, h38, X38, e38, W38, st38⟩ := stC X36 hx hZ e36 Ar38 (j := (8 : Int32)) hin38 (g := (mkF m 222 #[iv x0, jv x1, .second, iv x2, iv x3, iv (w0_10 x0 x1 x2 x3), rv b1, iv (w0_21 x0 x1 x2 x3), .unset, .unset, .unset, .unset, .unset, .unset] [(.int (w0_10 x0 x1 x2 x3)), (.int (8 : Int32)), (.ref b1)])) rfl rfl (hb hby at_222)
    have E_b1 := E_b1.wr W38
    have Zn38 : n0 ≤ h38.size := Nat.le_trans Zn36 (Keep.of_wr W38).1
    have Od38 := Od36.wr W38 g_b1
    have hk38e := Nat.le_trans hk36 (Keep.of_wr W38).1
    have N38 := Fr.snoc X38 N36 g_b1
    have V_b1 : Arv Z h38 b1 k1 .char (9 : Int32) [(.int (j0_216_e0 x0 x1 x2 x3)), (.int (j0_216_e1 x0 x1 x2 x3)), (.int (j0_216_e2 x0 x1 x2 x3)), (.int (j0_216_e3 x0 x1 x2 x3)), (.int (j0_216_e4 x0 x1 x2 x3)), (.int (j0_216_e5 x0 x1 x2 x3)), (.int (j0_216_e6 x0 x1 x2 x3)), (.int (j0_216_e7 x0 x1 x2 x3)), (.int (w0_222 x0 x1 x2 x3))] (.int (0 : Int32)) := Arv.set Ar38 q38 S38 M38 Hs38 G38 (fits_nar_char _) W38 8 rfl (Nat.le_of_ble_eq_true rfl)
    refine GoesW.st (B := T38.setTop (mkF m 223 #[iv x0, jv x1, .second, iv x2, iv x3, iv (w0_10 x0 x1 x2 x3), rv b1, iv (w0_21 x0 x1 x2 x3), .unset, .unset, .unset, .unset, .unset, .unset] [])) st38 ?_
    refine GoesW.run X38 hx hown hci hcl hby (L := [(223, .iload_n 0, 1), (224, .iconst 2, 1), (225, .iushr, 1), (226, .iconst 1, 1), (227, .iand, 1)]) (by decide +kernel) rfl (g' := (mkF m 228 #[iv x0, jv x1, .second, iv x2, iv x3, iv (w0_10 x0 x1 x2 x3), rv b1, iv (w0_21 x0 x1 x2 x3), .unset, .unset, .unset, .unset, .unset, .unset] [(.int (((x0.toUInt32 >>> ((2 : Int32) &&& 31).toUInt32).toInt32) &&& (1 : Int32)))])) rfl ?_
    have jn248_42 : ∀ (T41 : State) (L41 : List Loc) (h41 : Heap) (vm41 : Vm) (X41 : Stand p l e room_1 (s.setVm vm41) m #[(.int x0), (.long x1), (.int x2), (.int x3)] below meth c T41 L41 1 9) (e41 : T41.heap = h41) (N41 : Fr n0 L41) (Zn41 : n0 ≤ h41.size) (kk41 : Nat) (Sn41 : s.Since vm41 kk41) (hk41 : kk41 ≤ h41.size) (hZ : Z.Warmed39 (s.setVm vm41).vm) (hown : (s.setVm vm41).vm.findClass "com/example/mahnwerk/mahnwerk/model/DebtorKindOfPinLaw" = some m.cls) (IB41 : IB Z vm41 []) (Od41 : Old Z n0 h41) (E_b1 : Exa Z h41 b1 "[C") (V_b1 : Arv Z h41 b1 k1 .char (9 : Int32) [(.int (j0_248_e0 x0 x1 x2 x3)), (.int (j0_248_e1 x0 x1 x2 x3)), (.int (j0_248_e2 x0 x1 x2 x3)), (.int (j0_248_e3 x0 x1 x2 x3)), (.int (j0_248_e4 x0 x1 x2 x3)), (.int (j0_248_e5 x0 x1 x2 x3)), (.int (j0_248_e6 x0 x1 x2 x3)), (.int (j0_248_e7 x0 x1 x2 x3)), (.int (j0_248_e8 x0 x1 x2 x3))] (.int (0 : Int32))), GoesW p e below s (QL (some (.int (r0 x0 x1 x2 x3))) n0) room_1.cells room_1.slots (T41.setTop (mkF m 248 #[iv x0, jv x1, .second, iv x2, iv x3, iv (w0_10 x0 x1 x2 x3), rv b1, iv (w0_21 x0 x1 x2 x3), .unset, .unset, .unset, .unset, .unset, .unset] [])) := by
      intro T41 L41 h41 vm41 X41 e41 N41 Zn41 kk41 Sn41 hk41 hZ hown IB41 Od41 E_b1 V_b1
      have hci : ∀ i v, (i, v) ∈ ([(15, 2147483647)] : List (Nat × Int32)) → (Jvm.Cond.constant "com/example/mahnwerk/mahnwerk/model/DebtorKindOfPinLaw" i v).before #[(.int x0), (.long x1), (.int x2), (.int x3)] (s.setVm vm41) = true := (own_ciS (mvT hZ w_102) own_ci0)
      have hcl : ∀ i v, (i, v) ∈ ([(7, 255)] : List (Nat × Int64)) → (Jvm.Cond.constantLong "com/example/mahnwerk/mahnwerk/model/DebtorKindOfPinLaw" i v).before #[(.int x0), (.long x1), (.int x2), (.int x3)] (s.setVm vm41) = true := (own_ciS (mvT hZ w_97) own_ci0)
      refine GoesW.run X41 hx hown hci hcl hby (L := [(248, .iload_n 0, 1), (249, .iconst 3, 1), (250, .iushr, 1), (251, .bipush 7, 2), (253, .iand, 1), (254, .istore 8, 2)]) (by decide +kernel) rfl (g' := (mkF m 256 #[iv x0, jv x1, .second, iv x2, iv x3, iv (w0_10 x0 x1 x2 x3), rv b1, iv (w0_21 x0 x1 x2 x3), iv (w0_254 x0 x1 x2 x3), .unset, .unset, .unset, .unset, .unset] [])) rfl ?_
      refine GoesW.run X41 hx hown hci hcl hby (L := [(256, .iload 8, 2), (258, .iconst 3, 1)]) (by decide +kernel) rfl (g' := (mkF m 259 #[iv x0, jv x1, .second, iv x2, iv x3, iv (w0_10 x0 x1 x2 x3), rv b1, iv (w0_21 x0 x1 x2 x3), iv (w0_254 x0 x1 x2 x3), .unset, .unset, .unset, .unset, .unset] [(.int (3 : Int32)), (.int (w0_254 x0 x1 x2 x3))])) rfl ?_
      have jn525_111 : ∀ (T107 : State) (L107 : List Loc) (h107 : Heap) (vm107 : Vm) (X107 : Stand p l e room_1 (s.setVm vm107) m #[(.int x0), (.long x1), (.int x2), (.int x3)] below meth c T107 L107 4 31) (e107 : T107.heap = h107) (N107 : Fr n0 L107) (Zn107 : n0 ≤ h107.size) (kk107 : Nat) (Sn107 : s.Since vm107 kk107) (hk107 : kk107 ≤ h107.size) (hZ : Z.Warmed39 (s.setVm vm107).vm) (hown : (s.setVm vm107).vm.findClass "com/example/mahnwerk/mahnwerk/model/DebtorKindOfPinLaw" = some m.cls) (IB107 : IB Z vm107 [""]) (Od107 : Old Z n0 h107) (m108 : Addr) (m109 : Addr) (k110 : ClassId) (E_b1 : Exa Z h107 b1 "[C") (V_b1 : Arv Z h107 b1 k1 .char (9 : Int32) [(.int (j0_248_e0 x0 x1 x2 x3)), (.int (j0_248_e1 x0 x1 x2 x3)), (.int (j0_248_e2 x0 x1 x2 x3)), (.int (j0_248_e3 x0 x1 x2 x3)), (.int (j0_248_e4 x0 x1 x2 x3)), (.int (j0_248_e5 x0 x1 x2 x3)), (.int (j0_248_e6 x0 x1 x2 x3)), (.int (j0_248_e7 x0 x1 x2 x3)), (.int (j0_248_e8 x0 x1 x2 x3))] (.int (0 : Int32))) (E_m108 : Exa Z h107 m108 "java/lang/String") (F_coder_m108 : Fld Z h107 m108 "java/lang/String" "coder" "B" (.int (0 : Int32))) (F_value_m108 : Fld Z h107 m108 "java/lang/String" "value" "[B" (.ref m109)) (V_m109 : Arv Z h107 m109 k110 .byte (Int32.ofNat (j0_525_cs x0 x1 x2 x3).length) (((j0_525_cs x0 x1 x2 x3).map (fun c => c.toInt8.toInt32)).map Value.int) (.int (0 : Int32))) (hp_m108 : ∀ c ∈ (j0_525_cs x0 x1 x2 x3), ¬ c < 0 ∧ ¬ (255 : Int32) < c), GoesW p e below s (QL (some (.int (r0 x0 x1 x2 x3))) n0) room_1.cells room_1.slots (T107.setTop (mkF m 525 #[iv x0, jv x1, .second, iv x2, iv x3, iv (w0_10 x0 x1 x2 x3), rv b1, iv (w0_21 x0 x1 x2 x3), iv (w0_254 x0 x1 x2 x3), rv m108, .unset, .unset, .unset, .unset] [])) := by
        intro T107 L107 h107 vm107 X107 e107 N107 Zn107 kk107 Sn107 hk107 hZ hown IB107 Od107 m108 m109 k110 E_b1 V_b1 E_m108 F_coder_m108 F_value_m108 V_m109 hp_m108
        have hci : ∀ i v, (i, v) ∈ ([(15, 2147483647)] : List (Nat × Int32)) → (Jvm.Cond.constant "com/example/mahnwerk/mahnwerk/model/DebtorKindOfPinLaw" i v).before #[(.int x0), (.long x1), (.int x2), (.int x3)] (s.setVm vm107) = true := (own_ciS (mvT hZ w_102) own_ci0)
        have hcl : ∀ i v, (i, v) ∈ ([(7, 255)] : List (Nat × Int64)) → (Jvm.Cond.constantLong "com/example/mahnwerk/mahnwerk/model/DebtorKindOfPinLaw" i v).before #[(.int x0), (.long x1), (.int x2), (.int x3)] (s.setVm vm107) = true := (own_ciS (mvT hZ w_97) own_ci0)
        refine GoesW.run X107 hx hown hci hcl hby (L := [(525, .aload 9, 2)]) (by decide +kernel) rfl (g' := (mkF m 527 #[iv x0, jv x1, .second, iv x2, iv x3, iv (w0_10 x0 x1 x2 x3), rv b1, iv (w0_21 x0 x1 x2 x3), iv (w0_254 x0 x1 x2 x3), rv m108, .unset, .unset, .unset, .unset] [(.ref m108)])) rfl ?_
        obtain ⟨sa112, T112, h112, kk112, sb112, kb112, X112, e112, E112, Sn112, hk112, hZ, hown, A112, C112, D112, V112, -, -, IB112, -, wh112, st112⟩ := ldcSVd X107 hx hZ hown w_30 (own_wS hw) e107 Sn107 hk107 (hn0 ▸ N107) hkeep IB107 (by decide) (hCH ("com/example/mahnwerk/mahnwerk/model/DebtorKindOfPinLaw", 27) (by decide)) hcw (vs := ((([99, 111, 110, 115, 117, 109, 101, 114] : List Int32).map (fun c => c.toInt8.toInt32)).map Value.int)) (z := (8 : Int32)) ⟨by decide, by decide⟩ (by decide) (by decide) (g := (mkF m 527 #[iv x0, jv x1, .second, iv x2, iv x3, iv (w0_10 x0 x1 x2 x3), rv b1, iv (w0_21 x0 x1 x2 x3), iv (w0_254 x0 x1 x2 x3), rv m108, .unset, .unset, .unset, .unset] [(.ref m108)])) rfl (hb hby at_527) (n := 32) (by decide) (by decide) (by decide) (by decide)
        have E_b1 := E_b1.ext E112
        have V_b1 := V_b1.ext E112
        have E_m108 := E_m108.ext E112
        have F_coder_m108 := F_coder_m108.ext E112
        have F_value_m108 := F_value_m108.ext E112
        have V_m109 := V_m109.ext E112
        have Zn112 : n0 ≤ h112.size := Nat.le_trans Zn107 E112.1
        have Od112 := Od107.ext E112
        have hk112e := Nat.le_trans hk107 E112.1
        have hci : ∀ i v, (i, v) ∈ ([(15, 2147483647)] : List (Nat × Int32)) → (Jvm.Cond.constant "com/example/mahnwerk/mahnwerk/model/DebtorKindOfPinLaw" i v).before #[(.int x0), (.long x1), (.int x2), (.int x3)] (s.setVm T112.vm) = true := (own_ciS (mvT hZ w_102) own_ci0)
        have hcl : ∀ i v, (i, v) ∈ ([(7, 255)] : List (Nat × Int64)) → (Jvm.Cond.constantLong "com/example/mahnwerk/mahnwerk/model/DebtorKindOfPinLaw" i v).before #[(.int x0), (.long x1), (.int x2), (.int x3)] (s.setVm T112.vm) = true := (own_ciS (mvT hZ w_97) own_ci0)
        have E_sa112 : Exa Z h112 sa112 "java/lang/String" := A112
        have F_coder_sa112 : Fld Z h112 sa112 "java/lang/String" "coder" "B" (.int (0 : Int32)) := C112
        have F_value_sa112 : Fld Z h112 sa112 "java/lang/String" "value" "[B" (.ref sb112) := D112
        have V_sb112 : Arv Z h112 sb112 kb112 .byte (8 : Int32) ((([99, 111, 110, 115, 117, 109, 101, 114] : List Int32).map (fun c => c.toInt8.toInt32)).map Value.int) (.int (0 : Int32)) := V112
        refine GoesW.st (B := T112.setTop (mkF m 529 #[iv x0, jv x1, .second, iv x2, iv x3, iv (w0_10 x0 x1 x2 x3), rv b1, iv (w0_21 x0 x1 x2 x3), iv (w0_254 x0 x1 x2 x3), rv m108, .unset, .unset, .unset, .unset] [(.ref sa112), (.ref m108)])) st112 ?_
        have hcd_m108 : StrChars.Road.CodA (j0_525_cs x0 x1 x2 x3) 0 (Int32.ofNat (j0_525_cs x0 x1 x2 x3).length) (((j0_525_cs x0 x1 x2 x3).map (fun c => c.toInt8.toInt32)).map Value.int) := StrChars.Road.codOf (n := (j0_525_cs x0 x1 x2 x3).length) rfl (fun c hc => (hp_m108 c hc).2)
        have hbd_m108 := own_up hp_m108
        have hcd_sa112 : StrChars.Road.CodA ([99, 111, 110, 115, 117, 109, 101, 114] : List Int32) 0 (8 : Int32) ((([99, 111, 110, 115, 117, 109, 101, 114] : List Int32).map (fun c => c.toInt8.toInt32)).map Value.int) := StrChars.Road.codOf (n := 8) rfl (fun c hc => ((by decide : ∀ c ∈ ([99, 111, 110, 115, 117, 109, 101, 114] : List Int32), ¬ c < 0 ∧ ¬ (255 : Int32) < c) c hc).2)
        have hbd_sa112 := own_up (by decide : ∀ c ∈ ([99, 111, 110, 115, 117, 109, 101, 114] : List Int32), ¬ c < 0 ∧ ¬ (255 : Int32) < c)
        obtain ⟨cq113, kq113, q113a, q113b, q113c⟩ := isOf hZ e112 E_m108
        obtain ⟨_, _, ⟨T113, L113, k113, n113⟩, -, X113, ⟨Lc113, hQ113, l113, y113, z113⟩, st113⟩ := X112.virtualBack hx (y := ym11) (z := ym11) hown (mvT hZ w_33) (mvT hZ w_34) (notFace_of_selects (args := #[]) (mvT hZ w_36)) (mvT hZ w_36) (mvT hZ w_35) (by decide) (StrChars.Road.eqW (W := 0) hZ (own_heq hw) (kI := 4) w_2 E_m108 F_value_m108 F_coder_m108 V_m109 hcd_m108 hbd_m108 ((own_len x0 x1 x2 x3)) E_sa112 F_value_sa112 F_coder_sa112 V_sb112 hcd_sa112 hbd_sa112 (Nat.le_of_ble_eq_true rfl) (O2.ext Od112.2) P5 (by decide) (by decide)) q113a q113c (g := (mkF m 529 #[iv x0, jv x1, .second, iv x2, iv x3, iv (w0_10 x0 x1 x2 x3), rv b1, iv (w0_21 x0 x1 x2 x3), iv (w0_254 x0 x1 x2 x3), rv m108, .unset, .unset, .unset, .unset] [(.ref sa112), (.ref m108)])) rfl (by rw [hml]; rfl) (Steps.refl _) (argsL := [(.ref sa112)]) (rest := []) (lenOf pd0_3 rfl) rfl (by show 2 * 0 + _ ≤ _; exact Nat.le_of_eq rfl) (hb hby at_529) (fun _ _ => ⟨rfl, e112, (by decide : 6 + 0 ≤ _), (by decide : 67 + 0 ≤ _)⟩)
        dsimp only [Pt.U, Pt.locs, Pt.cells, Pt.slots] at X113 l113 y113 z113 st113 hQ113
        subst l113 y113 z113
        obtain ⟨hv113, rfl, e113⟩ := hQ113
        obtain rfl := own_eqv hv113
        have N113 := Fr.app N107 (Fr.nil n0)
        refine GoesW.st (B := T113.setTop (mkF m 532 #[iv x0, jv x1, .second, iv x2, iv x3, iv (w0_10 x0 x1 x2 x3), rv b1, iv (w0_21 x0 x1 x2 x3), iv (w0_254 x0 x1 x2 x3), rv m108, .unset, .unset, .unset, .unset] [(.int (own_eqr (j0_525_cs x0 x1 x2 x3) ([99, 111, 110, 115, 117, 109, 101, 114] : List Int32)))])) (fun t k => st113.trans k) ?_
        refine GoesW.run X113 hx hown hci hcl hby (L := [(532, .istore 10, 2), (534, .aload 9, 2)]) (by decide +kernel) rfl (g' := (mkF m 536 #[iv x0, jv x1, .second, iv x2, iv x3, iv (w0_10 x0 x1 x2 x3), rv b1, iv (w0_21 x0 x1 x2 x3), iv (w0_254 x0 x1 x2 x3), rv m108, iv (w0_532 x0 x1 x2 x3), .unset, .unset, .unset] [(.ref m108)])) rfl ?_
        obtain ⟨sa114, T114, h114, kk114, sb114, kb114, X114, e114, E114, Sn114, hk114, hZ, hown, A114, C114, D114, V114, -, -, IB114, -, wh114, st114⟩ := ldcSVd X113 hx hZ hown w_43 (own_wS hw) e113 Sn112 hk112 (hn0 ▸ N113) hkeep IB112 (by decide) (hCH ("com/example/mahnwerk/mahnwerk/model/DebtorKindOfPinLaw", 33) (by decide)) hcw (vs := ((([98, 117, 115, 105, 110, 101, 115, 115] : List Int32).map (fun c => c.toInt8.toInt32)).map Value.int)) (z := (8 : Int32)) ⟨by decide, by decide⟩ (by decide) (by decide) (g := (mkF m 536 #[iv x0, jv x1, .second, iv x2, iv x3, iv (w0_10 x0 x1 x2 x3), rv b1, iv (w0_21 x0 x1 x2 x3), iv (w0_254 x0 x1 x2 x3), rv m108, iv (w0_532 x0 x1 x2 x3), .unset, .unset, .unset] [(.ref m108)])) rfl (hb hby at_536) (n := 32) (by decide) (by decide) (by decide) (by decide)
        have E_b1 := E_b1.ext E114
        have V_b1 := V_b1.ext E114
        have E_m108 := E_m108.ext E114
        have F_coder_m108 := F_coder_m108.ext E114
        have F_value_m108 := F_value_m108.ext E114
        have V_m109 := V_m109.ext E114
        have E_sa112 := E_sa112.ext E114
        have F_coder_sa112 := F_coder_sa112.ext E114
        have F_value_sa112 := F_value_sa112.ext E114
        have V_sb112 := V_sb112.ext E114
        have Zn114 : n0 ≤ h114.size := Nat.le_trans Zn112 E114.1
        have Od114 := Od112.ext E114
        have hk114e := Nat.le_trans hk112 E114.1
        have hci : ∀ i v, (i, v) ∈ ([(15, 2147483647)] : List (Nat × Int32)) → (Jvm.Cond.constant "com/example/mahnwerk/mahnwerk/model/DebtorKindOfPinLaw" i v).before #[(.int x0), (.long x1), (.int x2), (.int x3)] (s.setVm T114.vm) = true := (own_ciS (mvT hZ w_102) own_ci0)
        have hcl : ∀ i v, (i, v) ∈ ([(7, 255)] : List (Nat × Int64)) → (Jvm.Cond.constantLong "com/example/mahnwerk/mahnwerk/model/DebtorKindOfPinLaw" i v).before #[(.int x0), (.long x1), (.int x2), (.int x3)] (s.setVm T114.vm) = true := (own_ciS (mvT hZ w_97) own_ci0)
        have E_sa114 : Exa Z h114 sa114 "java/lang/String" := A114
        have F_coder_sa114 : Fld Z h114 sa114 "java/lang/String" "coder" "B" (.int (0 : Int32)) := C114
        have F_value_sa114 : Fld Z h114 sa114 "java/lang/String" "value" "[B" (.ref sb114) := D114
        have V_sb114 : Arv Z h114 sb114 kb114 .byte (8 : Int32) ((([98, 117, 115, 105, 110, 101, 115, 115] : List Int32).map (fun c => c.toInt8.toInt32)).map Value.int) (.int (0 : Int32)) := V114
        refine GoesW.st (B := T114.setTop (mkF m 538 #[iv x0, jv x1, .second, iv x2, iv x3, iv (w0_10 x0 x1 x2 x3), rv b1, iv (w0_21 x0 x1 x2 x3), iv (w0_254 x0 x1 x2 x3), rv m108, iv (w0_532 x0 x1 x2 x3), .unset, .unset, .unset] [(.ref sa114), (.ref m108)])) st114 ?_
        have hcd_m108 : StrChars.Road.CodA (j0_525_cs x0 x1 x2 x3) 0 (Int32.ofNat (j0_525_cs x0 x1 x2 x3).length) (((j0_525_cs x0 x1 x2 x3).map (fun c => c.toInt8.toInt32)).map Value.int) := StrChars.Road.codOf (n := (j0_525_cs x0 x1 x2 x3).length) rfl (fun c hc => (hp_m108 c hc).2)
        have hbd_m108 := own_up hp_m108
        have hcd_sa114 : StrChars.Road.CodA ([98, 117, 115, 105, 110, 101, 115, 115] : List Int32) 0 (8 : Int32) ((([98, 117, 115, 105, 110, 101, 115, 115] : List Int32).map (fun c => c.toInt8.toInt32)).map Value.int) := StrChars.Road.codOf (n := 8) rfl (fun c hc => ((by decide : ∀ c ∈ ([98, 117, 115, 105, 110, 101, 115, 115] : List Int32), ¬ c < 0 ∧ ¬ (255 : Int32) < c) c hc).2)
        have hbd_sa114 := own_up (by decide : ∀ c ∈ ([98, 117, 115, 105, 110, 101, 115, 115] : List Int32), ¬ c < 0 ∧ ¬ (255 : Int32) < c)
        obtain ⟨cq115, kq115, q115a, q115b, q115c⟩ := isOf hZ e114 E_m108
        obtain ⟨_, _, ⟨T115, L115, k115, n115⟩, -, X115, ⟨Lc115, hQ115, l115, y115, z115⟩, st115⟩ := X114.virtualBack hx (y := ym11) (z := ym11) hown (mvT hZ w_33) (mvT hZ w_34) (notFace_of_selects (args := #[]) (mvT hZ w_36)) (mvT hZ w_36) (mvT hZ w_35) (by decide) (StrChars.Road.eqW (W := 0) hZ (own_heq hw) (kI := 4) w_2 E_m108 F_value_m108 F_coder_m108 V_m109 hcd_m108 hbd_m108 ((own_len x0 x1 x2 x3)) E_sa114 F_value_sa114 F_coder_sa114 V_sb114 hcd_sa114 hbd_sa114 (Nat.le_of_ble_eq_true rfl) (O2.ext Od114.2) P5 (by decide) (by decide)) q115a q115c (g := (mkF m 538 #[iv x0, jv x1, .second, iv x2, iv x3, iv (w0_10 x0 x1 x2 x3), rv b1, iv (w0_21 x0 x1 x2 x3), iv (w0_254 x0 x1 x2 x3), rv m108, iv (w0_532 x0 x1 x2 x3), .unset, .unset, .unset] [(.ref sa114), (.ref m108)])) rfl (by rw [hml]; rfl) (Steps.refl _) (argsL := [(.ref sa114)]) (rest := []) (lenOf pd0_3 rfl) rfl (by show 2 * 0 + _ ≤ _; exact Nat.le_of_eq rfl) (hb hby at_538) (fun _ _ => ⟨rfl, e114, (by decide : 8 + 0 ≤ _), (by decide : 103 + 0 ≤ _)⟩)
        dsimp only [Pt.U, Pt.locs, Pt.cells, Pt.slots] at X115 l115 y115 z115 st115 hQ115
        subst l115 y115 z115
        obtain ⟨hv115, rfl, e115⟩ := hQ115
        obtain rfl := own_eqv hv115
        have N115 := Fr.app N113 (Fr.nil n0)
        refine GoesW.st (B := T115.setTop (mkF m 541 #[iv x0, jv x1, .second, iv x2, iv x3, iv (w0_10 x0 x1 x2 x3), rv b1, iv (w0_21 x0 x1 x2 x3), iv (w0_254 x0 x1 x2 x3), rv m108, iv (w0_532 x0 x1 x2 x3), .unset, .unset, .unset] [(.int (own_eqr (j0_525_cs x0 x1 x2 x3) ([98, 117, 115, 105, 110, 101, 115, 115] : List Int32)))])) (fun t k => st115.trans k) ?_
        refine GoesW.run X115 hx hown hci hcl hby (L := [(541, .istore 11, 2), (543, .aload 9, 2)]) (by decide +kernel) rfl (g' := (mkF m 545 #[iv x0, jv x1, .second, iv x2, iv x3, iv (w0_10 x0 x1 x2 x3), rv b1, iv (w0_21 x0 x1 x2 x3), iv (w0_254 x0 x1 x2 x3), rv m108, iv (w0_532 x0 x1 x2 x3), iv (w0_541 x0 x1 x2 x3), .unset, .unset] [(.ref m108)])) rfl ?_
        obtain ⟨_, _, ⟨T116, L116, k116, n116⟩, -, X116, ⟨Lc116, hQ116, l116, y116, z116⟩, st116⟩ := Jvm.LawKit.callS X115 hx (y := ym12) hown (mvT hZ w_44) (mvT hZ w_45) (mvT hZ w_46) (mvT hZ w_47) (by decide) (backOf (W := 0) (rmD l Z a0 hw [] m108 va kva cA cB wA tA kA wB tB kB em m109 k110 (j0_525_cs x0 x1 x2 x3) G1 G3 h114 n0 Zn114 (zE_va.ext Od114.2) (zV_va.ext Od114.2) (zF_written_cA.ext Od114.2) (zF_written_cB.ext Od114.2) (zE_wA.ext Od114.2) (zF_coder_wA.ext Od114.2) (zF_value_wA.ext Od114.2) (zV_tA.ext Od114.2) (zE_wB.ext Od114.2) (zF_coder_wB.ext Od114.2) (zF_value_wB.ext Od114.2) (zV_tB.ext Od114.2) (zE_em.ext Od114.2) (zF_value_em.ext Od114.2) E_m108 F_coder_m108 F_value_m108 V_m109 Od114 O2 O4 P5 rG3 SV SE hp_m108 (own_len x0 x1 x2 x3)) hZ w_47 w_46 (by decide) (by decide)) (g := (mkF m 545 #[iv x0, jv x1, .second, iv x2, iv x3, iv (w0_10 x0 x1 x2 x3), rv b1, iv (w0_21 x0 x1 x2 x3), iv (w0_254 x0 x1 x2 x3), rv m108, iv (w0_532 x0 x1 x2 x3), iv (w0_541 x0 x1 x2 x3), .unset, .unset] [(.ref m108)])) rfl (by rw [hml]; rfl) (argsL := [(.ref m108)]) (rest := []) (lenOf pd0_4 rfl) rfl (by show 2 * 0 + _ ≤ _; exact Nat.le_of_eq rfl) (hb hby at_545) (fun _ _ => ⟨rfl, e115, (by decide : 8 + 2 ≤ _), (by decide : 103 + 3 ≤ _)⟩)
        dsimp only [Pt.U, Pt.locs, Pt.cells, Pt.slots] at X116 l116 y116 z116 st116 hQ116
        subst l116 y116 z116
        obtain ⟨h116, eh116⟩ : ∃ z, z = T116.heap := ⟨_, rfl⟩
        rw [← eh116] at hQ116
        have e116 : T116.heap = h116 := eh116.symm
        obtain ⟨b116, rfl, N116q, Kq116, o116_e, o116_f⟩ := hQ116
        have N116 := Fr.app N115 N116q
        have E_b1 := E_b1.keep Kq116
        have V_b1 := V_b1.keep Kq116 nin0
        have E_m108 := E_m108.keep Kq116
        have F_coder_m108 := F_coder_m108.keep Kq116 nin0
        have F_value_m108 := F_value_m108.keep Kq116 nin0
        have V_m109 := V_m109.keep Kq116 nin0
        have E_sa112 := E_sa112.keep Kq116
        have F_coder_sa112 := F_coder_sa112.keep Kq116 nin0
        have F_value_sa112 := F_value_sa112.keep Kq116 nin0
        have V_sb112 := V_sb112.keep Kq116 nin0
        have E_sa114 := E_sa114.keep Kq116
        have F_coder_sa114 := F_coder_sa114.keep Kq116 nin0
        have F_value_sa114 := F_value_sa114.keep Kq116 nin0
        have V_sb114 := V_sb114.keep Kq116 nin0
        have Zn116 : n0 ≤ h116.size := Nat.le_trans Zn114 Kq116.1
        have hk116e := Nat.le_trans hk114 Kq116.1
        have Od116 := Od114.keep Kq116 all0
        have E_b116 : Exa Z h116 b116 "java/util/Optional" := o116_e
        have F_value_b116 : Fld Z h116 b116 "java/util/Optional" "value" "Ljava/lang/Object;" (own_val cA cB (own_eqr csC (j0_525_cs x0 x1 x2 x3)) (own_eqr csB (j0_525_cs x0 x1 x2 x3))) := o116_f
        refine GoesW.st (B := T116.setTop (mkF m 548 #[iv x0, jv x1, .second, iv x2, iv x3, iv (w0_10 x0 x1 x2 x3), rv b1, iv (w0_21 x0 x1 x2 x3), iv (w0_254 x0 x1 x2 x3), rv m108, iv (w0_532 x0 x1 x2 x3), iv (w0_541 x0 x1 x2 x3), .unset, .unset] [(.ref b116)])) st116 ?_
        refine GoesW.run X116 hx hown hci hcl hby (L := [(548, .astore 12, 2), (550, .aload 12, 2)]) (by decide +kernel) rfl (g' := (mkF m 552 #[iv x0, jv x1, .second, iv x2, iv x3, iv (w0_10 x0 x1 x2 x3), rv b1, iv (w0_21 x0 x1 x2 x3), iv (w0_254 x0 x1 x2 x3), rv m108, iv (w0_532 x0 x1 x2 x3), iv (w0_541 x0 x1 x2 x3), rv b116, .unset] [(.ref b116)])) rfl ?_
        refine GoesW.st (B := T116.setTop (mkF m 557 #[iv x0, jv x1, .second, iv x2, iv x3, iv (w0_10 x0 x1 x2 x3), rv b1, iv (w0_21 x0 x1 x2 x3), iv (w0_254 x0 x1 x2 x3), rv m108, iv (w0_532 x0 x1 x2 x3), iv (w0_541 x0 x1 x2 x3), rv b116, .unset] [])) (fun t k => ?_) ?_
        · refine Jvm.Free.XT.ifnonnullYes X116.here hx rfl (pc0 := 552) (pc' := 557) rfl (hb hby at_552) rfl (by decide) (by decide) ?_
          exact k
        by_cases hs557_117 : (own_eqr csC (j0_525_cs x0 x1 x2 x3)) = (0 : Int32)
        · skip
          rw [hs557_117] at F_value_b116
          by_cases hs557_118 : (own_eqr csB (j0_525_cs x0 x1 x2 x3)) = (0 : Int32)
          · skip
            rw [hs557_118] at F_value_b116
            refine GoesW.run X116 hx hown hci hcl hby (L := [(557, .aload 12, 2), (559, .aconst_null, 1)]) (by decide +kernel) rfl (g' := (mkF m 560 #[iv x0, jv x1, .second, iv x2, iv x3, iv (w0_10 x0 x1 x2 x3), rv b1, iv (w0_21 x0 x1 x2 x3), iv (w0_254 x0 x1 x2 x3), rv m108, iv (w0_532 x0 x1 x2 x3), iv (w0_541 x0 x1 x2 x3), rv b116, .unset] [.null, (.ref b116)])) rfl ?_
            have F_value_b116 : Fld Z h116 b116 "java/util/Optional" "value" "Ljava/lang/Object;" .null := F_value_b116
            obtain ⟨cq119, kq119, q119a, q119b, q119c⟩ := isOf hZ e116 E_b116
            obtain ⟨_, _, ⟨T119, L119, k119, n119⟩, -, X119, ⟨Lc119, hQ119, l119, y119, z119⟩, st119⟩ := X116.virtualBack hx (y := ym9) (z := ym9) hown (mvT hZ w_85) (mvT hZ w_86) (notFace_of_selects (args := #[]) (mvT hZ w_88)) (mvT hZ w_88) (mvT hZ w_87) (by decide) (backOf (W := 0) (rmA l Z a0 hw [] b116 h116 n0 Zn116 F_value_b116) hZ w_89 w_70 (by decide) (by decide)) q119a q119c (g := (mkF m 560 #[iv x0, jv x1, .second, iv x2, iv x3, iv (w0_10 x0 x1 x2 x3), rv b1, iv (w0_21 x0 x1 x2 x3), iv (w0_254 x0 x1 x2 x3), rv m108, iv (w0_532 x0 x1 x2 x3), iv (w0_541 x0 x1 x2 x3), rv b116, .unset] [.null, (.ref b116)])) rfl (by rw [hml]; rfl) (Steps.refl _) (argsL := [.null]) (rest := []) (lenOf pd0_5 rfl) rfl (by show 2 * 0 + _ ≤ _; exact Nat.le_of_eq rfl) (hb hby at_560) (fun _ _ => ⟨rfl, e116, (by decide : 10 + 0 ≤ _), (by decide : 106 + 0 ≤ _)⟩)
            dsimp only [Pt.U, Pt.locs, Pt.cells, Pt.slots] at X119 l119 y119 z119 st119 hQ119
            subst l119 y119 z119
            obtain ⟨rfl, N119q, e119⟩ := hQ119
            have N119 := Fr.app N116 N119q
            refine GoesW.st (B := T119.setTop (mkF m 563 #[iv x0, jv x1, .second, iv x2, iv x3, iv (w0_10 x0 x1 x2 x3), rv b1, iv (w0_21 x0 x1 x2 x3), iv (w0_254 x0 x1 x2 x3), rv m108, iv (w0_532 x0 x1 x2 x3), iv (w0_541 x0 x1 x2 x3), rv b116, .unset] [.null])) (fun t k => st119.trans k) ?_
            refine GoesW.st (B := T119.setTop (mkF m 566 #[iv x0, jv x1, .second, iv x2, iv x3, iv (w0_10 x0 x1 x2 x3), rv b1, iv (w0_21 x0 x1 x2 x3), iv (w0_254 x0 x1 x2 x3), rv m108, iv (w0_532 x0 x1 x2 x3), iv (w0_541 x0 x1 x2 x3), rv b116, .unset] [.null])) (X119.checkcastNull hx (g := (mkF m 563 #[iv x0, jv x1, .second, iv x2, iv x3, iv (w0_10 x0 x1 x2 x3), rv b1, iv (w0_21 x0 x1 x2 x3), iv (w0_254 x0 x1 x2 x3), rv m108, iv (w0_532 x0 x1 x2 x3), iv (w0_541 x0 x1 x2 x3), rv b116, .unset] [.null])) rfl rfl (hb hby at_563)) ?_
            refine GoesW.run X119 hx hown hci hcl hby (L := [(566, .astore 13, 2), (568, .iload 10, 2)]) (by decide +kernel) rfl (g' := (mkF m 570 #[iv x0, jv x1, .second, iv x2, iv x3, iv (w0_10 x0 x1 x2 x3), rv b1, iv (w0_21 x0 x1 x2 x3), iv (w0_254 x0 x1 x2 x3), rv m108, iv (w0_532 x0 x1 x2 x3), iv (w0_541 x0 x1 x2 x3), rv b116, .val .null] [(.int (w0_532 x0 x1 x2 x3))])) rfl ?_
            have hc570_121 : (w0_532 x0 x1 x2 x3) = (0 : Int32) := (show own_eqr (j0_525_cs x0 x1 x2 x3) csC = (0 : Int32) by rw [own_sym]; assumption)
            refine GoesW.st (B := T119.setTop (mkF m 587 #[iv x0, jv x1, .second, iv x2, iv x3, iv (w0_10 x0 x1 x2 x3), rv b1, iv (w0_21 x0 x1 x2 x3), iv (w0_254 x0 x1 x2 x3), rv m108, iv (w0_532 x0 x1 x2 x3), iv (w0_541 x0 x1 x2 x3), rv b116, .val .null] [])) (fun t k => ?_) ?_
            · refine XS.ifYes X119.here hx rfl (pc0 := 570) (pc' := 587) rfl (hb hby at_570) rfl ((if0 _ _).trans (teq hc570_121).1) (by decide) (by decide) ?_
              exact k
            refine GoesW.run X119 hx hown hci hcl hby (L := [(587, .iload 11, 2)]) (by decide +kernel) rfl (g' := (mkF m 589 #[iv x0, jv x1, .second, iv x2, iv x3, iv (w0_10 x0 x1 x2 x3), rv b1, iv (w0_21 x0 x1 x2 x3), iv (w0_254 x0 x1 x2 x3), rv m108, iv (w0_532 x0 x1 x2 x3), iv (w0_541 x0 x1 x2 x3), rv b116, .val .null] [(.int (w0_541 x0 x1 x2 x3))])) rfl ?_
            have hc589_122 : (w0_541 x0 x1 x2 x3) = (0 : Int32) := (show own_eqr (j0_525_cs x0 x1 x2 x3) csB = (0 : Int32) by rw [own_sym]; assumption)
            refine GoesW.st (B := T119.setTop (mkF m 606 #[iv x0, jv x1, .second, iv x2, iv x3, iv (w0_10 x0 x1 x2 x3), rv b1, iv (w0_21 x0 x1 x2 x3), iv (w0_254 x0 x1 x2 x3), rv m108, iv (w0_532 x0 x1 x2 x3), iv (w0_541 x0 x1 x2 x3), rv b116, .val .null] [])) (fun t k => ?_) ?_
            · refine XS.ifYes X119.here hx rfl (pc0 := 589) (pc' := 606) rfl (hb hby at_589) rfl ((if0 _ _).trans (teq hc589_122).1) (by decide) (by decide) ?_
              exact k
            refine GoesW.run X119 hx hown hci hcl hby (L := [(606, .aload 13, 2)]) (by decide +kernel) rfl (g' := (mkF m 608 #[iv x0, jv x1, .second, iv x2, iv x3, iv (w0_10 x0 x1 x2 x3), rv b1, iv (w0_21 x0 x1 x2 x3), iv (w0_254 x0 x1 x2 x3), rv m108, iv (w0_532 x0 x1 x2 x3), iv (w0_541 x0 x1 x2 x3), rv b116, .val .null] [.null])) rfl ?_
            refine GoesW.st (B := T119.setTop (mkF m 611 #[iv x0, jv x1, .second, iv x2, iv x3, iv (w0_10 x0 x1 x2 x3), rv b1, iv (w0_21 x0 x1 x2 x3), iv (w0_254 x0 x1 x2 x3), rv m108, iv (w0_532 x0 x1 x2 x3), iv (w0_541 x0 x1 x2 x3), rv b116, .val .null] [])) (fun t k => ?_) ?_
            · refine Jvm.Free.XT.ifnonnullNo X119.here hx rfl (hb hby at_608) rfl ?_
              exact k
            refine GoesW.run X119 hx hown hci hcl hby (L := [(611, .iconst 1, 1), (612, .goto 4, 3)]) (by decide +kernel) rfl (g' := (mkF m 616 #[iv x0, jv x1, .second, iv x2, iv x3, iv (w0_10 x0 x1 x2 x3), rv b1, iv (w0_21 x0 x1 x2 x3), iv (w0_254 x0 x1 x2 x3), rv m108, iv (w0_532 x0 x1 x2 x3), iv (w0_541 x0 x1 x2 x3), rv b116, .val .null] [(.int (1 : Int32))])) rfl ?_
            exact GoesW.retB X119 Sn114 (by rw [e119]; exact hk116e) hx hlk (t := .boolean) Bd.returns (by simp) (hb hby at_616) rfl ⟨(congrArg (fun z => some (Value.int z)) (show (r0 x0 x1 x2 x3) = (1 : Int32) from ((if_pos hs557_117).trans (if_pos hs557_118))).symm), N119⟩ (by decide) (by decide)
          · skip
            have hs557_123 : (own_eqr csB (j0_525_cs x0 x1 x2 x3)) = (1 : Int32) := own_eq01 _ _ hs557_118
            rw [hs557_123] at F_value_b116
            refine GoesW.run X116 hx hown hci hcl hby (L := [(557, .aload 12, 2), (559, .aconst_null, 1)]) (by decide +kernel) rfl (g' := (mkF m 560 #[iv x0, jv x1, .second, iv x2, iv x3, iv (w0_10 x0 x1 x2 x3), rv b1, iv (w0_21 x0 x1 x2 x3), iv (w0_254 x0 x1 x2 x3), rv m108, iv (w0_532 x0 x1 x2 x3), iv (w0_541 x0 x1 x2 x3), rv b116, .unset] [.null, (.ref b116)])) rfl ?_
            have F_value_b116 : Fld Z h116 b116 "java/util/Optional" "value" "Ljava/lang/Object;" (.ref cB) := F_value_b116
            have E_cB := zE_cB.ext Od116.2
            obtain ⟨cq124, kq124, q124a, q124b, q124c⟩ := isOf hZ e116 E_b116
            obtain ⟨_, _, ⟨T124, L124, k124, n124⟩, -, X124, ⟨Lc124, hQ124, l124, y124, z124⟩, st124⟩ := X116.virtualBack hx (y := ym9) (z := ym9) hown (mvT hZ w_85) (mvT hZ w_86) (notFace_of_selects (args := #[]) (mvT hZ w_88)) (mvT hZ w_88) (mvT hZ w_87) (by decide) (backOf (W := 0) (rmB l Z a0 hw [] b116 cB h116 n0 Zn116 F_value_b116) hZ w_89 w_70 (by decide) (by decide)) q124a q124c (g := (mkF m 560 #[iv x0, jv x1, .second, iv x2, iv x3, iv (w0_10 x0 x1 x2 x3), rv b1, iv (w0_21 x0 x1 x2 x3), iv (w0_254 x0 x1 x2 x3), rv m108, iv (w0_532 x0 x1 x2 x3), iv (w0_541 x0 x1 x2 x3), rv b116, .unset] [.null, (.ref b116)])) rfl (by rw [hml]; rfl) (Steps.refl _) (argsL := [.null]) (rest := []) (lenOf pd0_5 rfl) rfl (by show 2 * 0 + _ ≤ _; exact Nat.le_of_eq rfl) (hb hby at_560) (fun _ _ => ⟨rfl, e116, (by decide : 10 + 0 ≤ _), (by decide : 106 + 0 ≤ _)⟩)
            dsimp only [Pt.U, Pt.locs, Pt.cells, Pt.slots] at X124 l124 y124 z124 st124 hQ124
            subst l124 y124 z124
            obtain ⟨rfl, N124q, e124⟩ := hQ124
            have N124 := Fr.app N116 N124q
            refine GoesW.st (B := T124.setTop (mkF m 563 #[iv x0, jv x1, .second, iv x2, iv x3, iv (w0_10 x0 x1 x2 x3), rv b1, iv (w0_21 x0 x1 x2 x3), iv (w0_254 x0 x1 x2 x3), rv m108, iv (w0_532 x0 x1 x2 x3), iv (w0_541 x0 x1 x2 x3), rv b116, .unset] [(.ref cB)])) (fun t k => st124.trans k) ?_
            obtain ⟨T125, X125, e125, st125⟩ := castY X124 hx hZ hown w_90 e124 (Ins.self E_cB) (g := (mkF m 563 #[iv x0, jv x1, .second, iv x2, iv x3, iv (w0_10 x0 x1 x2 x3), rv b1, iv (w0_21 x0 x1 x2 x3), iv (w0_254 x0 x1 x2 x3), rv m108, iv (w0_532 x0 x1 x2 x3), iv (w0_541 x0 x1 x2 x3), rv b116, .unset] [(.ref cB)])) rfl rfl (hb hby at_563)
            refine GoesW.st (B := T125.setTop (mkF m 566 #[iv x0, jv x1, .second, iv x2, iv x3, iv (w0_10 x0 x1 x2 x3), rv b1, iv (w0_21 x0 x1 x2 x3), iv (w0_254 x0 x1 x2 x3), rv m108, iv (w0_532 x0 x1 x2 x3), iv (w0_541 x0 x1 x2 x3), rv b116, .unset] [(.ref cB)])) st125 ?_
            refine GoesW.run X125 hx hown hci hcl hby (L := [(566, .astore 13, 2), (568, .iload 10, 2)]) (by decide +kernel) rfl (g' := (mkF m 570 #[iv x0, jv x1, .second, iv x2, iv x3, iv (w0_10 x0 x1 x2 x3), rv b1, iv (w0_21 x0 x1 x2 x3), iv (w0_254 x0 x1 x2 x3), rv m108, iv (w0_532 x0 x1 x2 x3), iv (w0_541 x0 x1 x2 x3), rv b116, rv cB] [(.int (w0_532 x0 x1 x2 x3))])) rfl ?_
            have hc570_126 : (w0_532 x0 x1 x2 x3) = (0 : Int32) := (show own_eqr (j0_525_cs x0 x1 x2 x3) csC = (0 : Int32) by rw [own_sym]; assumption)
            refine GoesW.st (B := T125.setTop (mkF m 587 #[iv x0, jv x1, .second, iv x2, iv x3, iv (w0_10 x0 x1 x2 x3), rv b1, iv (w0_21 x0 x1 x2 x3), iv (w0_254 x0 x1 x2 x3), rv m108, iv (w0_532 x0 x1 x2 x3), iv (w0_541 x0 x1 x2 x3), rv b116, rv cB] [])) (fun t k => ?_) ?_
            · refine XS.ifYes X125.here hx rfl (pc0 := 570) (pc' := 587) rfl (hb hby at_570) rfl ((if0 _ _).trans (teq hc570_126).1) (by decide) (by decide) ?_
              exact k
            refine GoesW.run X125 hx hown hci hcl hby (L := [(587, .iload 11, 2)]) (by decide +kernel) rfl (g' := (mkF m 589 #[iv x0, jv x1, .second, iv x2, iv x3, iv (w0_10 x0 x1 x2 x3), rv b1, iv (w0_21 x0 x1 x2 x3), iv (w0_254 x0 x1 x2 x3), rv m108, iv (w0_532 x0 x1 x2 x3), iv (w0_541 x0 x1 x2 x3), rv b116, rv cB] [(.int (w0_541 x0 x1 x2 x3))])) rfl ?_
            have hc589_127 : ¬ ((w0_541 x0 x1 x2 x3) = (0 : Int32)) := (show ¬ own_eqr (j0_525_cs x0 x1 x2 x3) csB = (0 : Int32) by rw [own_sym, (by assumption : own_eqr csB (j0_525_cs x0 x1 x2 x3) = (1 : Int32))]; decide)
            refine GoesW.st (B := T125.setTop (mkF m 592 #[iv x0, jv x1, .second, iv x2, iv x3, iv (w0_10 x0 x1 x2 x3), rv b1, iv (w0_21 x0 x1 x2 x3), iv (w0_254 x0 x1 x2 x3), rv m108, iv (w0_532 x0 x1 x2 x3), iv (w0_541 x0 x1 x2 x3), rv b116, rv cB] [])) (fun t k => ?_) ?_
            · refine XS.ifNo X125.here hx rfl (hb hby at_589) rfl ((if0 _ _).trans (feq hc589_127).1) ?_
              exact k
            refine GoesW.run X125 hx hown hci hcl hby (L := [(592, .aload 13, 2)]) (by decide +kernel) rfl (g' := (mkF m 594 #[iv x0, jv x1, .second, iv x2, iv x3, iv (w0_10 x0 x1 x2 x3), rv b1, iv (w0_21 x0 x1 x2 x3), iv (w0_254 x0 x1 x2 x3), rv m108, iv (w0_532 x0 x1 x2 x3), iv (w0_541 x0 x1 x2 x3), rv b116, rv cB] [(.ref cB)])) rfl ?_
            have S_BUSINESS := SB.ext Od116.2
            obtain ⟨T128, X128, e128, st128⟩ := getS2 X125 hx hZ hown (host := "") (Or.inl w_116) Via.refl e125 S_BUSINESS (g := (mkF m 594 #[iv x0, jv x1, .second, iv x2, iv x3, iv (w0_10 x0 x1 x2 x3), rv b1, iv (w0_21 x0 x1 x2 x3), iv (w0_254 x0 x1 x2 x3), rv m108, iv (w0_532 x0 x1 x2 x3), iv (w0_541 x0 x1 x2 x3), rv b116, rv cB] [(.ref cB)])) rfl (hb hby at_594)
            refine GoesW.st (B := T128.setTop (mkF m 597 #[iv x0, jv x1, .second, iv x2, iv x3, iv (w0_10 x0 x1 x2 x3), rv b1, iv (w0_21 x0 x1 x2 x3), iv (w0_254 x0 x1 x2 x3), rv m108, iv (w0_532 x0 x1 x2 x3), iv (w0_541 x0 x1 x2 x3), rv b116, rv cB] [(.ref cB), (.ref cB)])) st128 ?_
            have hc597_129 : cB = cB := rfl
            refine GoesW.st (B := T128.setTop (mkF m 600 #[iv x0, jv x1, .second, iv x2, iv x3, iv (w0_10 x0 x1 x2 x3), rv b1, iv (w0_21 x0 x1 x2 x3), iv (w0_254 x0 x1 x2 x3), rv m108, iv (w0_532 x0 x1 x2 x3), iv (w0_541 x0 x1 x2 x3), rv b116, rv cB] [])) (fun t k => ?_) ?_
            · refine Jvm.RoadKit.acmp (g := (mkF m 597 #[iv x0, jv x1, .second, iv x2, iv x3, iv (w0_10 x0 x1 x2 x3), rv b1, iv (w0_21 x0 x1 x2 x3), iv (w0_254 x0 x1 x2 x3), rv m108, iv (w0_532 x0 x1 x2 x3), iv (w0_541 x0 x1 x2 x3), rv b116, rv cB] [(.ref cB), (.ref cB)])) X128 hx rfl rfl rfl (pc0 := 597) (pc' := 600) (same := true) rfl (hb hby at_597) rfl (decide_eq_true (congrArg Value.ref hc597_129)) (by decide) (by decide) ?_
              exact k
            refine GoesW.run X128 hx hown hci hcl hby (L := [(600, .iconst 1, 1), (601, .goto 4, 3)]) (by decide +kernel) rfl (g' := (mkF m 605 #[iv x0, jv x1, .second, iv x2, iv x3, iv (w0_10 x0 x1 x2 x3), rv b1, iv (w0_21 x0 x1 x2 x3), iv (w0_254 x0 x1 x2 x3), rv m108, iv (w0_532 x0 x1 x2 x3), iv (w0_541 x0 x1 x2 x3), rv b116, rv cB] [(.int (1 : Int32))])) rfl ?_
            exact GoesW.retB X128 Sn114 (by rw [e128]; exact hk116e) hx hlk (t := .boolean) Bd.returns (by simp) (hb hby at_605) rfl ⟨(congrArg (fun z => some (Value.int z)) (show (r0 x0 x1 x2 x3) = (1 : Int32) from ((if_pos hs557_117).trans (if_neg hs557_118))).symm), N124⟩ (by decide) (by decide)
        · skip
          have hs557_130 : (own_eqr csC (j0_525_cs x0 x1 x2 x3)) = (1 : Int32) := own_eq01 _ _ hs557_117
          rw [hs557_130] at F_value_b116
          refine GoesW.run X116 hx hown hci hcl hby (L := [(557, .aload 12, 2), (559, .aconst_null, 1)]) (by decide +kernel) rfl (g' := (mkF m 560 #[iv x0, jv x1, .second, iv x2, iv x3, iv (w0_10 x0 x1 x2 x3), rv b1, iv (w0_21 x0 x1 x2 x3), iv (w0_254 x0 x1 x2 x3), rv m108, iv (w0_532 x0 x1 x2 x3), iv (w0_541 x0 x1 x2 x3), rv b116, .unset] [.null, (.ref b116)])) rfl ?_
          have F_value_b116 : Fld Z h116 b116 "java/util/Optional" "value" "Ljava/lang/Object;" (.ref cA) := F_value_b116
          have E_cA := zE_cA.ext Od116.2
          obtain ⟨cq131, kq131, q131a, q131b, q131c⟩ := isOf hZ e116 E_b116
          obtain ⟨_, _, ⟨T131, L131, k131, n131⟩, -, X131, ⟨Lc131, hQ131, l131, y131, z131⟩, st131⟩ := X116.virtualBack hx (y := ym9) (z := ym9) hown (mvT hZ w_85) (mvT hZ w_86) (notFace_of_selects (args := #[]) (mvT hZ w_88)) (mvT hZ w_88) (mvT hZ w_87) (by decide) (backOf (W := 0) (rmB l Z a0 hw [] b116 cA h116 n0 Zn116 F_value_b116) hZ w_89 w_70 (by decide) (by decide)) q131a q131c (g := (mkF m 560 #[iv x0, jv x1, .second, iv x2, iv x3, iv (w0_10 x0 x1 x2 x3), rv b1, iv (w0_21 x0 x1 x2 x3), iv (w0_254 x0 x1 x2 x3), rv m108, iv (w0_532 x0 x1 x2 x3), iv (w0_541 x0 x1 x2 x3), rv b116, .unset] [.null, (.ref b116)])) rfl (by rw [hml]; rfl) (Steps.refl _) (argsL := [.null]) (rest := []) (lenOf pd0_5 rfl) rfl (by show 2 * 0 + _ ≤ _; exact Nat.le_of_eq rfl) (hb hby at_560) (fun _ _ => ⟨rfl, e116, (by decide : 10 + 0 ≤ _), (by decide : 106 + 0 ≤ _)⟩)
          dsimp only [Pt.U, Pt.locs, Pt.cells, Pt.slots] at X131 l131 y131 z131 st131 hQ131
          subst l131 y131 z131
          obtain ⟨rfl, N131q, e131⟩ := hQ131
          have N131 := Fr.app N116 N131q
          refine GoesW.st (B := T131.setTop (mkF m 563 #[iv x0, jv x1, .second, iv x2, iv x3, iv (w0_10 x0 x1 x2 x3), rv b1, iv (w0_21 x0 x1 x2 x3), iv (w0_254 x0 x1 x2 x3), rv m108, iv (w0_532 x0 x1 x2 x3), iv (w0_541 x0 x1 x2 x3), rv b116, .unset] [(.ref cA)])) (fun t k => st131.trans k) ?_
          obtain ⟨T132, X132, e132, st132⟩ := castY X131 hx hZ hown w_90 e131 (Ins.self E_cA) (g := (mkF m 563 #[iv x0, jv x1, .second, iv x2, iv x3, iv (w0_10 x0 x1 x2 x3), rv b1, iv (w0_21 x0 x1 x2 x3), iv (w0_254 x0 x1 x2 x3), rv m108, iv (w0_532 x0 x1 x2 x3), iv (w0_541 x0 x1 x2 x3), rv b116, .unset] [(.ref cA)])) rfl rfl (hb hby at_563)
          refine GoesW.st (B := T132.setTop (mkF m 566 #[iv x0, jv x1, .second, iv x2, iv x3, iv (w0_10 x0 x1 x2 x3), rv b1, iv (w0_21 x0 x1 x2 x3), iv (w0_254 x0 x1 x2 x3), rv m108, iv (w0_532 x0 x1 x2 x3), iv (w0_541 x0 x1 x2 x3), rv b116, .unset] [(.ref cA)])) st132 ?_
          refine GoesW.run X132 hx hown hci hcl hby (L := [(566, .astore 13, 2), (568, .iload 10, 2)]) (by decide +kernel) rfl (g' := (mkF m 570 #[iv x0, jv x1, .second, iv x2, iv x3, iv (w0_10 x0 x1 x2 x3), rv b1, iv (w0_21 x0 x1 x2 x3), iv (w0_254 x0 x1 x2 x3), rv m108, iv (w0_532 x0 x1 x2 x3), iv (w0_541 x0 x1 x2 x3), rv b116, rv cA] [(.int (w0_532 x0 x1 x2 x3))])) rfl ?_
          have hc570_133 : ¬ ((w0_532 x0 x1 x2 x3) = (0 : Int32)) := (show ¬ own_eqr (j0_525_cs x0 x1 x2 x3) csC = (0 : Int32) by rw [own_sym, (by assumption : own_eqr csC (j0_525_cs x0 x1 x2 x3) = (1 : Int32))]; decide)
          refine GoesW.st (B := T132.setTop (mkF m 573 #[iv x0, jv x1, .second, iv x2, iv x3, iv (w0_10 x0 x1 x2 x3), rv b1, iv (w0_21 x0 x1 x2 x3), iv (w0_254 x0 x1 x2 x3), rv m108, iv (w0_532 x0 x1 x2 x3), iv (w0_541 x0 x1 x2 x3), rv b116, rv cA] [])) (fun t k => ?_) ?_
          · refine XS.ifNo X132.here hx rfl (hb hby at_570) rfl ((if0 _ _).trans (feq hc570_133).1) ?_
            exact k
          refine GoesW.run X132 hx hown hci hcl hby (L := [(573, .aload 13, 2)]) (by decide +kernel) rfl (g' := (mkF m 575 #[iv x0, jv x1, .second, iv x2, iv x3, iv (w0_10 x0 x1 x2 x3), rv b1, iv (w0_21 x0 x1 x2 x3), iv (w0_254 x0 x1 x2 x3), rv m108, iv (w0_532 x0 x1 x2 x3), iv (w0_541 x0 x1 x2 x3), rv b116, rv cA] [(.ref cA)])) rfl ?_
          have S_CONSUMER := SC.ext Od116.2
          obtain ⟨T134, X134, e134, st134⟩ := getS2 X132 hx hZ hown (host := "") (Or.inl w_92) Via.refl e132 S_CONSUMER (g := (mkF m 575 #[iv x0, jv x1, .second, iv x2, iv x3, iv (w0_10 x0 x1 x2 x3), rv b1, iv (w0_21 x0 x1 x2 x3), iv (w0_254 x0 x1 x2 x3), rv m108, iv (w0_532 x0 x1 x2 x3), iv (w0_541 x0 x1 x2 x3), rv b116, rv cA] [(.ref cA)])) rfl (hb hby at_575)
          refine GoesW.st (B := T134.setTop (mkF m 578 #[iv x0, jv x1, .second, iv x2, iv x3, iv (w0_10 x0 x1 x2 x3), rv b1, iv (w0_21 x0 x1 x2 x3), iv (w0_254 x0 x1 x2 x3), rv m108, iv (w0_532 x0 x1 x2 x3), iv (w0_541 x0 x1 x2 x3), rv b116, rv cA] [(.ref cA), (.ref cA)])) st134 ?_
          have hc578_135 : cA = cA := rfl
          refine GoesW.st (B := T134.setTop (mkF m 581 #[iv x0, jv x1, .second, iv x2, iv x3, iv (w0_10 x0 x1 x2 x3), rv b1, iv (w0_21 x0 x1 x2 x3), iv (w0_254 x0 x1 x2 x3), rv m108, iv (w0_532 x0 x1 x2 x3), iv (w0_541 x0 x1 x2 x3), rv b116, rv cA] [])) (fun t k => ?_) ?_
          · refine Jvm.RoadKit.acmp (g := (mkF m 578 #[iv x0, jv x1, .second, iv x2, iv x3, iv (w0_10 x0 x1 x2 x3), rv b1, iv (w0_21 x0 x1 x2 x3), iv (w0_254 x0 x1 x2 x3), rv m108, iv (w0_532 x0 x1 x2 x3), iv (w0_541 x0 x1 x2 x3), rv b116, rv cA] [(.ref cA), (.ref cA)])) X134 hx rfl rfl rfl (pc0 := 578) (pc' := 581) (same := true) rfl (hb hby at_578) rfl (decide_eq_true (congrArg Value.ref hc578_135)) (by decide) (by decide) ?_
            exact k
          refine GoesW.run X134 hx hown hci hcl hby (L := [(581, .iconst 1, 1), (582, .goto 4, 3)]) (by decide +kernel) rfl (g' := (mkF m 586 #[iv x0, jv x1, .second, iv x2, iv x3, iv (w0_10 x0 x1 x2 x3), rv b1, iv (w0_21 x0 x1 x2 x3), iv (w0_254 x0 x1 x2 x3), rv m108, iv (w0_532 x0 x1 x2 x3), iv (w0_541 x0 x1 x2 x3), rv b116, rv cA] [(.int (1 : Int32))])) rfl ?_
          exact GoesW.retB X134 Sn114 (by rw [e134]; exact hk116e) hx hlk (t := .boolean) Bd.returns (by simp) (hb hby at_586) rfl ⟨(congrArg (fun z => some (Value.int z)) (show (r0 x0 x1 x2 x3) = (1 : Int32) from (if_neg hs557_117)).symm), N131⟩ (by decide) (by decide)
      by_cases hc259_43 : (3 : Int32) < (w0_254 x0 x1 x2 x3)
      · skip
        refine GoesW.st (B := T41.setTop (mkF m 338 #[iv x0, jv x1, .second, iv x2, iv x3, iv (w0_10 x0 x1 x2 x3), rv b1, iv (w0_21 x0 x1 x2 x3), iv (w0_254 x0 x1 x2 x3), .unset, .unset, .unset, .unset, .unset] [])) (fun t k => ?_) ?_
        · refine XS.icmpYes X41.here hx rfl (pc0 := 259) (pc' := 338) rfl (hb hby at_259) rfl (tlt hc259_43).2.2.1 (by decide) (by decide) ?_
          exact k
        refine GoesW.run X41 hx hown hci hcl hby (L := [(338, .iload 8, 2), (340, .iconst 4, 1)]) (by decide +kernel) rfl (g' := (mkF m 341 #[iv x0, jv x1, .second, iv x2, iv x3, iv (w0_10 x0 x1 x2 x3), rv b1, iv (w0_21 x0 x1 x2 x3), iv (w0_254 x0 x1 x2 x3), .unset, .unset, .unset, .unset, .unset] [(.int (4 : Int32)), (.int (w0_254 x0 x1 x2 x3))])) rfl ?_
        by_cases hc341_136 : (w0_254 x0 x1 x2 x3) = (4 : Int32)
        · skip
          refine GoesW.st (B := T41.setTop (mkF m 344 #[iv x0, jv x1, .second, iv x2, iv x3, iv (w0_10 x0 x1 x2 x3), rv b1, iv (w0_21 x0 x1 x2 x3), iv (w0_254 x0 x1 x2 x3), .unset, .unset, .unset, .unset, .unset] [])) (fun t k => ?_) ?_
          · refine XS.icmpNo X41.here hx rfl (hb hby at_341) rfl (teq hc341_136).2 ?_
            exact k
          obtain ⟨T137, h137, X137, e137, E137, A137, D137, -, st137⟩ := newO X41 hx hZ hown w_1 w_2 w_3 e41 (g := (mkF m 344 #[iv x0, jv x1, .second, iv x2, iv x3, iv (w0_10 x0 x1 x2 x3), rv b1, iv (w0_21 x0 x1 x2 x3), iv (w0_254 x0 x1 x2 x3), .unset, .unset, .unset, .unset, .unset] [])) rfl (hb hby at_344) (by decide) (by decide)
          obtain ⟨b137, g137⟩ : ∃ z, z = h41.size := ⟨_, rfl⟩
          rw [← g137] at A137 D137 st137
          have ne_b1_b137 : b1 ≠ b137 := Nat.ne_of_lt (Nat.lt_of_lt_of_le E_b1.lt (Nat.le_of_eq g137.symm))
          have g_b137 : n0 ≤ b137 := Nat.le_trans Zn41 (Nat.le_of_eq g137.symm)
          have E_b1 := E_b1.ext E137
          have V_b1 := V_b1.ext E137
          have Zn137 : n0 ≤ h137.size := Nat.le_trans Zn41 E137.1
          have Od137 := Od41.ext E137
          have hk137e := Nat.le_trans hk41 E137.1
          have E_b137 : Exa Z h137 b137 "java/lang/String" := A137
          have F_coder_b137 : Fld Z h137 b137 "java/lang/String" "coder" "B" (.int (0 : Int32)) := D137 (Or.inr w_27) (ty := .byte) (by decide)
          have F_value_b137 : Fld Z h137 b137 "java/lang/String" "value" "[B" .null := D137 (Or.inr w_29) (ty := (.array .byte)) (by decide)
          refine GoesW.st (B := T137.setTop (mkF m 347 #[iv x0, jv x1, .second, iv x2, iv x3, iv (w0_10 x0 x1 x2 x3), rv b1, iv (w0_21 x0 x1 x2 x3), iv (w0_254 x0 x1 x2 x3), .unset, .unset, .unset, .unset, .unset] [(.ref b137)])) st137 ?_
          refine GoesW.run X137 hx hown hci hcl hby (L := [(347, .dup, 1), (348, .bipush 7, 2)]) (by decide +kernel) rfl (g' := (mkF m 350 #[iv x0, jv x1, .second, iv x2, iv x3, iv (w0_10 x0 x1 x2 x3), rv b1, iv (w0_21 x0 x1 x2 x3), iv (w0_254 x0 x1 x2 x3), .unset, .unset, .unset, .unset, .unset] [(.int (7 : Int32)), (.ref b137), (.ref b137)])) rfl ?_
          obtain ⟨T138, h138, k138, X138, e138, E138, A138, B138, st138⟩ := newPE X137 hx hZ (aty := .char) w_0 e137 (g := (mkF m 350 #[iv x0, jv x1, .second, iv x2, iv x3, iv (w0_10 x0 x1 x2 x3), rv b1, iv (w0_21 x0 x1 x2 x3), iv (w0_254 x0 x1 x2 x3), .unset, .unset, .unset, .unset, .unset] [(.int (7 : Int32)), (.ref b137), (.ref b137)])) rfl (hb hby at_350) rfl (by decide) (cap := 7) (by decide) (by decide) (by decide) (by decide) (ad := "[C") (by decide)
          obtain ⟨b138, g138⟩ : ∃ z, z = h137.size := ⟨_, rfl⟩
          rw [← g138] at A138 B138 st138
          have ne_b1_b138 : b1 ≠ b138 := Nat.ne_of_lt (Nat.lt_of_lt_of_le E_b1.lt (Nat.le_of_eq g138.symm))
          have ne_b137_b138 : b137 ≠ b138 := Nat.ne_of_lt (Nat.lt_of_lt_of_le E_b137.lt (Nat.le_of_eq g138.symm))
          have g_b138 : n0 ≤ b138 := Nat.le_trans Zn137 (Nat.le_of_eq g138.symm)
          have E_b1 := E_b1.ext E138
          have V_b1 := V_b1.ext E138
          have E_b137 := E_b137.ext E138
          have F_coder_b137 := F_coder_b137.ext E138
          have F_value_b137 := F_value_b137.ext E138
          have Zn138 : n0 ≤ h138.size := Nat.le_trans Zn137 E138.1
          have Od138 := Od137.ext E138
          have hk138e := Nat.le_trans hk137e E138.1
          have E_b138 : Exa Z h138 b138 "[C" := B138
          have V_b138 : Arv Z h138 b138 k138 .char (7 : Int32) [(.int (0 : Int32)), (.int (0 : Int32)), (.int (0 : Int32)), (.int (0 : Int32)), (.int (0 : Int32)), (.int (0 : Int32)), (.int (0 : Int32))] (.int (0 : Int32)) := (Arv.new A138 (by decide)).pad (pad_rep [] (.int (0 : Int32)) 7)
          refine GoesW.st (B := T138.setTop (mkF m 352 #[iv x0, jv x1, .second, iv x2, iv x3, iv (w0_10 x0 x1 x2 x3), rv b1, iv (w0_21 x0 x1 x2 x3), iv (w0_254 x0 x1 x2 x3), .unset, .unset, .unset, .unset, .unset] [(.ref b138), (.ref b137), (.ref b137)])) st138 ?_
          refine GoesW.run X138 hx hown hci hcl hby (L := [(352, .dup, 1), (353, .iconst 0, 1), (354, .aload 6, 2), (356, .iconst 0, 1)]) (by decide +kernel) rfl (g' := (mkF m 357 #[iv x0, jv x1, .second, iv x2, iv x3, iv (w0_10 x0 x1 x2 x3), rv b1, iv (w0_21 x0 x1 x2 x3), iv (w0_254 x0 x1 x2 x3), .unset, .unset, .unset, .unset, .unset] [(.int (0 : Int32)), (.ref b1), (.int (0 : Int32)), (.ref b138), (.ref b138), (.ref b137), (.ref b137)])) rfl ?_
          obtain ⟨cl139, Ar139, q139, S139, M139, Hs139, G139⟩ := id V_b1
          have hin139 : ¬ ((0 : Int32) < 0 ∨ cl139.slots.size ≤ ((0 : Int32)).toNatClampNeg) := inb_of S139 ⟨(by decide), (by decide)⟩
          have hat139 : cl139.slots[((0 : Int32)).toNatClampNeg]? = some (.int (j0_248_e0 x0 x1 x2 x3)) := Hs139.at hin139 rfl
          refine GoesW.st (B := T138.setTop (mkF m 358 #[iv x0, jv x1, .second, iv x2, iv x3, iv (w0_10 x0 x1 x2 x3), rv b1, iv (w0_21 x0 x1 x2 x3), iv (w0_254 x0 x1 x2 x3), .unset, .unset, .unset, .unset, .unset] [(.int (j0_248_e0 x0 x1 x2 x3)), (.int (0 : Int32)), (.ref b138), (.ref b138), (.ref b137), (.ref b137)])) (X138.caload hx (j := (0 : Int32)) (v := (.int (j0_248_e0 x0 x1 x2 x3))) (by rw [e138]; exact Ar139.1) (State.isArrayOf_alike hZ.alike Ar139.2.1) Ar139.2.2 hin139 hat139 (g := (mkF m 357 #[iv x0, jv x1, .second, iv x2, iv x3, iv (w0_10 x0 x1 x2 x3), rv b1, iv (w0_21 x0 x1 x2 x3), iv (w0_254 x0 x1 x2 x3), .unset, .unset, .unset, .unset, .unset] [(.int (0 : Int32)), (.ref b1), (.int (0 : Int32)), (.ref b138), (.ref b138), (.ref b137), (.ref b137)])) rfl rfl (hb hby at_357)) ?_
          obtain ⟨cl140, Ar140, q140, S140, M140, Hs140, G140⟩ := id V_b138
          have hin140 : ¬ ((0 : Int32) < 0 ∨ cl140.slots.size ≤ ((0 : Int32)).toNatClampNeg) := inb_of S140 ⟨(by decide), (by decide)⟩
          obtain ⟨T140, h140, X140, e140, W140, st140⟩ := stC X138 hx hZ e138 Ar140 (j := (0 : Int32)) hin140 (g := (mkF m 358 #[iv x0, jv x1, .second, iv x2, iv x3, iv (w0_10 x0 x1 x2 x3), rv b1, iv (w0_21 x0 x1 x2 x3), iv (w0_254 x0 x1 x2 x3), .unset, .unset, .unset, .unset, .unset] [(.int (j0_248_e0 x0 x1 x2 x3)), (.int (0 : Int32)), (.ref b138), (.ref b138), (.ref b137), (.ref b137)])) rfl rfl (hb hby at_358)
          have E_b1 := E_b1.wr W140
          have V_b1 := V_b1.other W140 ne_b1_b138
          have E_b137 := E_b137.wr W140
          have F_coder_b137 := F_coder_b137.other W140 (Or.inl ne_b137_b138)
          have F_value_b137 := F_value_b137.other W140 (Or.inl ne_b137_b138)
          have E_b138 := E_b138.wr W140
          have Zn140 : n0 ≤ h140.size := Nat.le_trans Zn138 (Keep.of_wr W140).1
          have Od140 := Od138.wr W140 g_b138
          have hk140e := Nat.le_trans hk138e (Keep.of_wr W140).1
          have N140 := Fr.snoc X140 N41 g_b138
          have V_b138 : Arv Z h140 b138 k138 .char (7 : Int32) [(.int (w0_358 x0 x1 x2 x3)), (.int (0 : Int32)), (.int (0 : Int32)), (.int (0 : Int32)), (.int (0 : Int32)), (.int (0 : Int32)), (.int (0 : Int32))] (.int (0 : Int32)) := Arv.set Ar140 q140 S140 M140 Hs140 G140 (fits_nar_char _) W140 0 rfl (Nat.le_of_ble_eq_true rfl)
          refine GoesW.st (B := T140.setTop (mkF m 359 #[iv x0, jv x1, .second, iv x2, iv x3, iv (w0_10 x0 x1 x2 x3), rv b1, iv (w0_21 x0 x1 x2 x3), iv (w0_254 x0 x1 x2 x3), .unset, .unset, .unset, .unset, .unset] [(.ref b138), (.ref b137), (.ref b137)])) st140 ?_
          refine GoesW.run X140 hx hown hci hcl hby (L := [(359, .dup, 1), (360, .iconst 1, 1), (361, .aload 6, 2), (363, .iconst 1, 1)]) (by decide +kernel) rfl (g' := (mkF m 364 #[iv x0, jv x1, .second, iv x2, iv x3, iv (w0_10 x0 x1 x2 x3), rv b1, iv (w0_21 x0 x1 x2 x3), iv (w0_254 x0 x1 x2 x3), .unset, .unset, .unset, .unset, .unset] [(.int (1 : Int32)), (.ref b1), (.int (1 : Int32)), (.ref b138), (.ref b138), (.ref b137), (.ref b137)])) rfl ?_
          obtain ⟨cl141, Ar141, q141, S141, M141, Hs141, G141⟩ := id V_b1
          have hin141 : ¬ ((1 : Int32) < 0 ∨ cl141.slots.size ≤ ((1 : Int32)).toNatClampNeg) := inb_of S141 ⟨(by decide), (by decide)⟩
          have hat141 : cl141.slots[((1 : Int32)).toNatClampNeg]? = some (.int (j0_248_e1 x0 x1 x2 x3)) := Hs141.at hin141 rfl
          refine GoesW.st (B := T140.setTop (mkF m 365 #[iv x0, jv x1, .second, iv x2, iv x3, iv (w0_10 x0 x1 x2 x3), rv b1, iv (w0_21 x0 x1 x2 x3), iv (w0_254 x0 x1 x2 x3), .unset, .unset, .unset, .unset, .unset] [(.int (j0_248_e1 x0 x1 x2 x3)), (.int (1 : Int32)), (.ref b138), (.ref b138), (.ref b137), (.ref b137)])) (X140.caload hx (j := (1 : Int32)) (v := (.int (j0_248_e1 x0 x1 x2 x3))) (by rw [e140]; exact Ar141.1) (State.isArrayOf_alike hZ.alike Ar141.2.1) Ar141.2.2 hin141 hat141 (g := (mkF m 364 #[iv x0, jv x1, .second, iv x2, iv x3, iv (w0_10 x0 x1 x2 x3), rv b1, iv (w0_21 x0 x1 x2 x3), iv (w0_254 x0 x1 x2 x3), .unset, .unset, .unset, .unset, .unset] [(.int (1 : Int32)), (.ref b1), (.int (1 : Int32)), (.ref b138), (.ref b138), (.ref b137), (.ref b137)])) rfl rfl (hb hby at_364)) ?_
          obtain ⟨cl142, Ar142, q142, S142, M142, Hs142, G142⟩ := id V_b138
          have hin142 : ¬ ((1 : Int32) < 0 ∨ cl142.slots.size ≤ ((1 : Int32)).toNatClampNeg) := inb_of S142 ⟨(by decide), (by decide)⟩
          obtain ⟨T142, h142, X142, e142, W142, st142⟩ := stC X140 hx hZ e140 Ar142 (j := (1 : Int32)) hin142 (g := (mkF m 365 #[iv x0, jv x1, .second, iv x2, iv x3, iv (w0_10 x0 x1 x2 x3), rv b1, iv (w0_21 x0 x1 x2 x3), iv (w0_254 x0 x1 x2 x3), .unset, .unset, .unset, .unset, .unset] [(.int (j0_248_e1 x0 x1 x2 x3)), (.int (1 : Int32)), (.ref b138), (.ref b138), (.ref b137), (.ref b137)])) rfl rfl (hb hby at_365)
          have E_b1 := E_b1.wr W142
          have V_b1 := V_b1.other W142 ne_b1_b138
          have E_b137 := E_b137.wr W142
          have F_coder_b137 := F_coder_b137.other W142 (Or.inl ne_b137_b138)
          have F_value_b137 := F_value_b137.other W142 (Or.inl ne_b137_b138)
          have E_b138 := E_b138.wr W142
          have Zn142 : n0 ≤ h142.size := Nat.le_trans Zn140 (Keep.of_wr W142).1
          have Od142 := Od140.wr W142 g_b138
          have hk142e := Nat.le_trans hk140e (Keep.of_wr W142).1
          have N142 := Fr.snoc X142 N140 g_b138
          have V_b138 : Arv Z h142 b138 k138 .char (7 : Int32) [(.int (w0_358 x0 x1 x2 x3)), (.int (w0_365 x0 x1 x2 x3)), (.int (0 : Int32)), (.int (0 : Int32)), (.int (0 : Int32)), (.int (0 : Int32)), (.int (0 : Int32))] (.int (0 : Int32)) := Arv.set Ar142 q142 S142 M142 Hs142 G142 (fits_nar_char _) W142 1 rfl (Nat.le_of_ble_eq_true rfl)
          refine GoesW.st (B := T142.setTop (mkF m 366 #[iv x0, jv x1, .second, iv x2, iv x3, iv (w0_10 x0 x1 x2 x3), rv b1, iv (w0_21 x0 x1 x2 x3), iv (w0_254 x0 x1 x2 x3), .unset, .unset, .unset, .unset, .unset] [(.ref b138), (.ref b137), (.ref b137)])) st142 ?_
          refine GoesW.run X142 hx hown hci hcl hby (L := [(366, .dup, 1), (367, .iconst 2, 1), (368, .aload 6, 2), (370, .iconst 2, 1)]) (by decide +kernel) rfl (g' := (mkF m 371 #[iv x0, jv x1, .second, iv x2, iv x3, iv (w0_10 x0 x1 x2 x3), rv b1, iv (w0_21 x0 x1 x2 x3), iv (w0_254 x0 x1 x2 x3), .unset, .unset, .unset, .unset, .unset] [(.int (2 : Int32)), (.ref b1), (.int (2 : Int32)), (.ref b138), (.ref b138), (.ref b137), (.ref b137)])) rfl ?_
          obtain ⟨cl143, Ar143, q143, S143, M143, Hs143, G143⟩ := id V_b1
          have hin143 : ¬ ((2 : Int32) < 0 ∨ cl143.slots.size ≤ ((2 : Int32)).toNatClampNeg) := inb_of S143 ⟨(by decide), (by decide)⟩
          have hat143 : cl143.slots[((2 : Int32)).toNatClampNeg]? = some (.int (j0_248_e2 x0 x1 x2 x3)) := Hs143.at hin143 rfl
          refine GoesW.st (B := T142.setTop (mkF m 372 #[iv x0, jv x1, .second, iv x2, iv x3, iv (w0_10 x0 x1 x2 x3), rv b1, iv (w0_21 x0 x1 x2 x3), iv (w0_254 x0 x1 x2 x3), .unset, .unset, .unset, .unset, .unset] [(.int (j0_248_e2 x0 x1 x2 x3)), (.int (2 : Int32)), (.ref b138), (.ref b138), (.ref b137), (.ref b137)])) (X142.caload hx (j := (2 : Int32)) (v := (.int (j0_248_e2 x0 x1 x2 x3))) (by rw [e142]; exact Ar143.1) (State.isArrayOf_alike hZ.alike Ar143.2.1) Ar143.2.2 hin143 hat143 (g := (mkF m 371 #[iv x0, jv x1, .second, iv x2, iv x3, iv (w0_10 x0 x1 x2 x3), rv b1, iv (w0_21 x0 x1 x2 x3), iv (w0_254 x0 x1 x2 x3), .unset, .unset, .unset, .unset, .unset] [(.int (2 : Int32)), (.ref b1), (.int (2 : Int32)), (.ref b138), (.ref b138), (.ref b137), (.ref b137)])) rfl rfl (hb hby at_371)) ?_
          obtain ⟨cl144, Ar144, q144, S144, M144, Hs144, G144⟩ := id V_b138
          have hin144 : ¬ ((2 : Int32) < 0 ∨ cl144.slots.size ≤ ((2 : Int32)).toNatClampNeg) := inb_of S144 ⟨(by decide), (by decide)⟩
          obtain ⟨T144, h144, X144, e144, W144, st144⟩ := stC X142 hx hZ e142 Ar144 (j := (2 : Int32)) hin144 (g := (mkF m 372 #[iv x0, jv x1, .second, iv x2, iv x3, iv (w0_10 x0 x1 x2 x3), rv b1, iv (w0_21 x0 x1 x2 x3), iv (w0_254 x0 x1 x2 x3), .unset, .unset, .unset, .unset, .unset] [(.int (j0_248_e2 x0 x1 x2 x3)), (.int (2 : Int32)), (.ref b138), (.ref b138), (.ref b137), (.ref b137)])) rfl rfl (hb hby at_372)
          have E_b1 := E_b1.wr W144
          have V_b1 := V_b1.other W144 ne_b1_b138
          have E_b137 := E_b137.wr W144
          have F_coder_b137 := F_coder_b137.other W144 (Or.inl ne_b137_b138)
          have F_value_b137 := F_value_b137.other W144 (Or.inl ne_b137_b138)
          have E_b138 := E_b138.wr W144
          have Zn144 : n0 ≤ h144.size := Nat.le_trans Zn142 (Keep.of_wr W144).1
          have Od144 := Od142.wr W144 g_b138
          have hk144e := Nat.le_trans hk142e (Keep.of_wr W144).1
          have N144 := Fr.snoc X144 N142 g_b138
          have V_b138 : Arv Z h144 b138 k138 .char (7 : Int32) [(.int (w0_358 x0 x1 x2 x3)), (.int (w0_365 x0 x1 x2 x3)), (.int (w0_372 x0 x1 x2 x3)), (.int (0 : Int32)), (.int (0 : Int32)), (.int (0 : Int32)), (.int (0 : Int32))] (.int (0 : Int32)) := Arv.set Ar144 q144 S144 M144 Hs144 G144 (fits_nar_char _) W144 2 rfl (Nat.le_of_ble_eq_true rfl)
          refine GoesW.st (B := T144.setTop (mkF m 373 #[iv x0, jv x1, .second, iv x2, iv x3, iv (w0_10 x0 x1 x2 x3), rv b1, iv (w0_21 x0 x1 x2 x3), iv (w0_254 x0 x1 x2 x3), .unset, .unset, .unset, .unset, .unset] [(.ref b138), (.ref b137), (.ref b137)])) st144 ?_
          refine GoesW.run X144 hx hown hci hcl hby (L := [(373, .dup, 1), (374, .iconst 3, 1), (375, .aload 6, 2), (377, .iconst 3, 1)]) (by decide +kernel) rfl (g' := (mkF m 378 #[iv x0, jv x1, .second, iv x2, iv x3, iv (w0_10 x0 x1 x2 x3), rv b1, iv (w0_21 x0 x1 x2 x3), iv (w0_254 x0 x1 x2 x3), .unset, .unset, .unset, .unset, .unset] [(.int (3 : Int32)), (.ref b1), (.int (3 : Int32)), (.ref b138), (.ref b138), (.ref b137), (.ref b137)])) rfl ?_
          obtain ⟨cl145, Ar145, q145, S145, M145, Hs145, G145⟩ := id V_b1
          have hin145 : ¬ ((3 : Int32) < 0 ∨ cl145.slots.size ≤ ((3 : Int32)).toNatClampNeg) := inb_of S145 ⟨(by decide), (by decide)⟩
          have hat145 : cl145.slots[((3 : Int32)).toNatClampNeg]? = some (.int (j0_248_e3 x0 x1 x2 x3)) := Hs145.at hin145 rfl
          refine GoesW.st (B := T144.setTop (mkF m 379 #[iv x0, jv x1, .second, iv x2, iv x3, iv (w0_10 x0 x1 x2 x3), rv b1, iv (w0_21 x0 x1 x2 x3), iv (w0_254 x0 x1 x2 x3), .unset, .unset, .unset, .unset, .unset] [(.int (j0_248_e3 x0 x1 x2 x3)), (.int (3 : Int32)), (.ref b138), (.ref b138), (.ref b137), (.ref b137)])) (X144.caload hx (j := (3 : Int32)) (v := (.int (j0_248_e3 x0 x1 x2 x3))) (by rw [e144]; exact Ar145.1) (State.isArrayOf_alike hZ.alike Ar145.2.1) Ar145.2.2 hin145 hat145 (g := (mkF m 378 #[iv x0, jv x1, .second, iv x2, iv x3, iv (w0_10 x0 x1 x2 x3), rv b1, iv (w0_21 x0 x1 x2 x3), iv (w0_254 x0 x1 x2 x3), .unset, .unset, .unset, .unset, .unset] [(.int (3 : Int32)), (.ref b1), (.int (3 : Int32)), (.ref b138), (.ref b138), (.ref b137), (.ref b137)])) rfl rfl (hb hby at_378)) ?_
          obtain ⟨cl146, Ar146, q146, S146, M146, Hs146, G146⟩ := id V_b138
          have hin146 : ¬ ((3 : Int32) < 0 ∨ cl146.slots.size ≤ ((3 : Int32)).toNatClampNeg) := inb_of S146 ⟨(by decide), (by decide)⟩
          obtain ⟨T146, h146, X146, e146, W146, st146⟩ := stC X144 hx hZ e144 Ar146 (j := (3 : Int32)) hin146 (g := (mkF m 379 #[iv x0, jv x1, .second, iv x2, iv x3, iv (w0_10 x0 x1 x2 x3), rv b1, iv (w0_21 x0 x1 x2 x3), iv (w0_254 x0 x1 x2 x3), .unset, .unset, .unset, .unset, .unset] [(.int (j0_248_e3 x0 x1 x2 x3)), (.int (3 : Int32)), (.ref b138), (.ref b138), (.ref b137), (.ref b137)])) rfl rfl (hb hby at_379)
          have E_b1 := E_b1.wr W146
          have V_b1 := V_b1.other W146 ne_b1_b138
          have E_b137 := E_b137.wr W146
          have F_coder_b137 := F_coder_b137.other W146 (Or.inl ne_b137_b138)
          have F_value_b137 := F_value_b137.other W146 (Or.inl ne_b137_b138)
          have E_b138 := E_b138.wr W146
          have Zn146 : n0 ≤ h146.size := Nat.le_trans Zn144 (Keep.of_wr W146).1
          have Od146 := Od144.wr W146 g_b138
          have hk146e := Nat.le_trans hk144e (Keep.of_wr W146).1
          have N146 := Fr.snoc X146 N144 g_b138
          have V_b138 : Arv Z h146 b138 k138 .char (7 : Int32) [(.int (w0_358 x0 x1 x2 x3)), (.int (w0_365 x0 x1 x2 x3)), (.int (w0_372 x0 x1 x2 x3)), (.int (w0_379 x0 x1 x2 x3)), (.int (0 : Int32)), (.int (0 : Int32)), (.int (0 : Int32))] (.int (0 : Int32)) := Arv.set Ar146 q146 S146 M146 Hs146 G146 (fits_nar_char _) W146 3 rfl (Nat.le_of_ble_eq_true rfl)
          refine GoesW.st (B := T146.setTop (mkF m 380 #[iv x0, jv x1, .second, iv x2, iv x3, iv (w0_10 x0 x1 x2 x3), rv b1, iv (w0_21 x0 x1 x2 x3), iv (w0_254 x0 x1 x2 x3), .unset, .unset, .unset, .unset, .unset] [(.ref b138), (.ref b137), (.ref b137)])) st146 ?_
          refine GoesW.run X146 hx hown hci hcl hby (L := [(380, .dup, 1), (381, .iconst 4, 1), (382, .aload 6, 2), (384, .iconst 4, 1)]) (by decide +kernel) rfl (g' := (mkF m 385 #[iv x0, jv x1, .second, iv x2, iv x3, iv (w0_10 x0 x1 x2 x3), rv b1, iv (w0_21 x0 x1 x2 x3), iv (w0_254 x0 x1 x2 x3), .unset, .unset, .unset, .unset, .unset] [(.int (4 : Int32)), (.ref b1), (.int (4 : Int32)), (.ref b138), (.ref b138), (.ref b137), (.ref b137)])) rfl ?_
          obtain ⟨cl147, Ar147, q147, S147, M147, Hs147, G147⟩ := id V_b1
          have hin147 : ¬ ((4 : Int32) < 0 ∨ cl147.slots.size ≤ ((4 : Int32)).toNatClampNeg) := inb_of S147 ⟨(by decide), (by decide)⟩
          have hat147 : cl147.slots[((4 : Int32)).toNatClampNeg]? = some (.int (j0_248_e4 x0 x1 x2 x3)) := Hs147.at hin147 rfl
          refine GoesW.st (B := T146.setTop (mkF m 386 #[iv x0, jv x1, .second, iv x2, iv x3, iv (w0_10 x0 x1 x2 x3), rv b1, iv (w0_21 x0 x1 x2 x3), iv (w0_254 x0 x1 x2 x3), .unset, .unset, .unset, .unset, .unset] [(.int (j0_248_e4 x0 x1 x2 x3)), (.int (4 : Int32)), (.ref b138), (.ref b138), (.ref b137), (.ref b137)])) (X146.caload hx (j := (4 : Int32)) (v := (.int (j0_248_e4 x0 x1 x2 x3))) (by rw [e146]; exact Ar147.1) (State.isArrayOf_alike hZ.alike Ar147.2.1) Ar147.2.2 hin147 hat147 (g := (mkF m 385 #[iv x0, jv x1, .second, iv x2, iv x3, iv (w0_10 x0 x1 x2 x3), rv b1, iv (w0_21 x0 x1 x2 x3), iv (w0_254 x0 x1 x2 x3), .unset, .unset, .unset, .unset, .unset] [(.int (4 : Int32)), (.ref b1), (.int (4 : Int32)), (.ref b138), (.ref b138), (.ref b137), (.ref b137)])) rfl rfl (hb hby at_385)) ?_
          obtain ⟨cl148, Ar148, q148, S148, M148, Hs148, G148⟩ := id V_b138
          have hin148 : ¬ ((4 : Int32) < 0 ∨ cl148.slots.size ≤ ((4 : Int32)).toNatClampNeg) := inb_of S148 ⟨(by decide), (by decide)⟩
          obtain ⟨T148, h148, X148, e148, W148, st148⟩ := stC X146 hx hZ e146 Ar148 (j := (4 : Int32)) hin148 (g := (mkF m 386 #[iv x0, jv x1, .second, iv x2, iv x3, iv (w0_10 x0 x1 x2 x3), rv b1, iv (w0_21 x0 x1 x2 x3), iv (w0_254 x0 x1 x2 x3), .unset, .unset, .unset, .unset, .unset] [(.int (j0_248_e4 x0 x1 x2 x3)), (.int (4 : Int32)), (.ref b138), (.ref b138), (.ref b137), (.ref b137)])) rfl rfl (hb hby at_386)
          have E_b1 := E_b1.wr W148
          have V_b1 := V_b1.other W148 ne_b1_b138
          have E_b137 := E_b137.wr W148
          have F_coder_b137 := F_coder_b137.other W148 (Or.inl ne_b137_b138)
          have F_value_b137 := F_value_b137.other W148 (Or.inl ne_b137_b138)
          have E_b138 := E_b138.wr W148
          have Zn148 : n0 ≤ h148.size := Nat.le_trans Zn146 (Keep.of_wr W148).1
          have Od148 := Od146.wr W148 g_b138
          have hk148e := Nat.le_trans hk146e (Keep.of_wr W148).1
          have N148 := Fr.snoc X148 N146 g_b138
          have V_b138 : Arv Z h148 b138 k138 .char (7 : Int32) [(.int (w0_358 x0 x1 x2 x3)), (.int (w0_365 x0 x1 x2 x3)), (.int (w0_372 x0 x1 x2 x3)), (.int (w0_379 x0 x1 x2 x3)), (.int (w0_386 x0 x1 x2 x3)), (.int (0 : Int32)), (.int (0 : Int32))] (.int (0 : Int32)) := Arv.set Ar148 q148 S148 M148 Hs148 G148 (fits_nar_char _) W148 4 rfl (Nat.le_of_ble_eq_true rfl)
          refine GoesW.st (B := T148.setTop (mkF m 387 #[iv x0, jv x1, .second, iv x2, iv x3, iv (w0_10 x0 x1 x2 x3), rv b1, iv (w0_21 x0 x1 x2 x3), iv (w0_254 x0 x1 x2 x3), .unset, .unset, .unset, .unset, .unset] [(.ref b138), (.ref b137), (.ref b137)])) st148 ?_
          refine GoesW.run X148 hx hown hci hcl hby (L := [(387, .dup, 1), (388, .iconst 5, 1), (389, .aload 6, 2), (391, .iconst 5, 1)]) (by decide +kernel) rfl (g' := (mkF m 392 #[iv x0, jv x1, .second, iv x2, iv x3, iv (w0_10 x0 x1 x2 x3), rv b1, iv (w0_21 x0 x1 x2 x3), iv (w0_254 x0 x1 x2 x3), .unset, .unset, .unset, .unset, .unset] [(.int (5 : Int32)), (.ref b1), (.int (5 : Int32)), (.ref b138), (.ref b138), (.ref b137), (.ref b137)])) rfl ?_
          obtain ⟨cl149, Ar149, q149, S149, M149, Hs149, G149⟩ := id V_b1
          have hin149 : ¬ ((5 : Int32) < 0 ∨ cl149.slots.size ≤ ((5 : Int32)).toNatClampNeg) := inb_of S149 ⟨(by decide), (by decide)⟩
          have hat149 : cl149.slots[((5 : Int32)).toNatClampNeg]? = some (.int (j0_248_e5 x0 x1 x2 x3)) := Hs149.at hin149 rfl
          refine GoesW.st (B := T148.setTop (mkF m 393 #[iv x0, jv x1, .second, iv x2, iv x3, iv (w0_10 x0 x1 x2 x3), rv b1, iv (w0_21 x0 x1 x2 x3), iv (w0_254 x0 x1 x2 x3), .unset, .unset, .unset, .unset, .unset] [(.int (j0_248_e5 x0 x1 x2 x3)), (.int (5 : Int32)), (.ref b138), (.ref b138), (.ref b137), (.ref b137)])) (X148.caload hx (j := (5 : Int32)) (v := (.int (j0_248_e5 x0 x1 x2 x3))) (by rw [e148]; exact Ar149.1) (State.isArrayOf_alike hZ.alike Ar149.2.1) Ar149.2.2 hin149 hat149 (g := (mkF m 392 #[iv x0, jv x1, .second, iv x2, iv x3, iv (w0_10 x0 x1 x2 x3), rv b1, iv (w0_21 x0 x1 x2 x3), iv (w0_254 x0 x1 x2 x3), .unset, .unset, .unset, .unset, .unset] [(.int (5 : Int32)), (.ref b1), (.int (5 : Int32)), (.ref b138), (.ref b138), (.ref b137), (.ref b137)])) rfl rfl (hb hby at_392)) ?_
          obtain ⟨cl150, Ar150, q150, S150, M150, Hs150, G150⟩ := id V_b138
          have hin150 : ¬ ((5 : Int32) < 0 ∨ cl150.slots.size ≤ ((5 : Int32)).toNatClampNeg) := inb_of S150 ⟨(by decide), (by decide)⟩
          obtain ⟨T150, h150, X150, e150, W150, st150⟩ := stC X148 hx hZ e148 Ar150 (j := (5 : Int32)) hin150 (g := (mkF m 393 #[iv x0, jv x1, .second, iv x2, iv x3, iv (w0_10 x0 x1 x2 x3), rv b1, iv (w0_21 x0 x1 x2 x3), iv (w0_254 x0 x1 x2 x3), .unset, .unset, .unset, .unset, .unset] [(.int (j0_248_e5 x0 x1 x2 x3)), (.int (5 : Int32)), (.ref b138), (.ref b138), (.ref b137), (.ref b137)])) rfl rfl (hb hby at_393)
          have E_b1 := E_b1.wr W150
          have V_b1 := V_b1.other W150 ne_b1_b138
          have E_b137 := E_b137.wr W150
          have F_coder_b137 := F_coder_b137.other W150 (Or.inl ne_b137_b138)
          have F_value_b137 := F_value_b137.other W150 (Or.inl ne_b137_b138)
          have E_b138 := E_b138.wr W150
          have Zn150 : n0 ≤ h150.size := Nat.le_trans Zn148 (Keep.of_wr W150).1
          have Od150 := Od148.wr W150 g_b138
          have hk150e := Nat.le_trans hk148e (Keep.of_wr W150).1
          have N150 := Fr.snoc X150 N148 g_b138
          have V_b138 : Arv Z h150 b138 k138 .char (7 : Int32) [(.int (w0_358 x0 x1 x2 x3)), (.int (w0_365 x0 x1 x2 x3)), (.int (w0_372 x0 x1 x2 x3)), (.int (w0_379 x0 x1 x2 x3)), (.int (w0_386 x0 x1 x2 x3)), (.int (w0_393 x0 x1 x2 x3)), (.int (0 : Int32))] (.int (0 : Int32)) := Arv.set Ar150 q150 S150 M150 Hs150 G150 (fits_nar_char _) W150 5 rfl (Nat.le_of_ble_eq_true rfl)
          refine GoesW.st (B := T150.setTop (mkF m 394 #[iv x0, jv x1, .second, iv x2, iv x3, iv (w0_10 x0 x1 x2 x3), rv b1, iv (w0_21 x0 x1 x2 x3), iv (w0_254 x0 x1 x2 x3), .unset, .unset, .unset, .unset, .unset] [(.ref b138), (.ref b137), (.ref b137)])) st150 ?_
          refine GoesW.run X150 hx hown hci hcl hby (L := [(394, .dup, 1), (395, .bipush 6, 2), (397, .aload 6, 2), (399, .bipush 6, 2)]) (by decide +kernel) rfl (g' := (mkF m 401 #[iv x0, jv x1, .second, iv x2, iv x3, iv (w0_10 x0 x1 x2 x3), rv b1, iv (w0_21 x0 x1 x2 x3), iv (w0_254 x0 x1 x2 x3), .unset, .unset, .unset, .unset, .unset] [(.int (6 : Int32)), (.ref b1), (.int (6 : Int32)), (.ref b138), (.ref b138), (.ref b137), (.ref b137)])) rfl ?_
          obtain ⟨cl151, Ar151, q151, S151, M151, Hs151, G151⟩ := id V_b1
          have hin151 : ¬ ((6 : Int32) < 0 ∨ cl151.slots.size ≤ ((6 : Int32)).toNatClampNeg) := inb_of S151 ⟨(by decide), (by decide)⟩
          have hat151 : cl151.slots[((6 : Int32)).toNatClampNeg]? = some (.int (j0_248_e6 x0 x1 x2 x3)) := Hs151.at hin151 rfl
          refine GoesW.st (B := T150.setTop (mkF m 402 #[iv x0, jv x1, .second, iv x2, iv x3, iv (w0_10 x0 x1 x2 x3), rv b1, iv (w0_21 x0 x1 x2 x3), iv (w0_254 x0 x1 x2 x3), .unset, .unset, .unset, .unset, .unset] [(.int (j0_248_e6 x0 x1 x2 x3)), (.int (6 : Int32)), (.ref b138), (.ref b138), (.ref b137), (.ref b137)])) (X150.caload hx (j := (6 : Int32)) (v := (.int (j0_248_e6 x0 x1 x2 x3))) (by rw [e150]; exact Ar151.1) (State.isArrayOf_alike hZ.alike Ar151.2.1) Ar151.2.2 hin151 hat151 (g := (mkF m 401 #[iv x0, jv x1, .second, iv x2, iv x3, iv (w0_10 x0 x1 x2 x3), rv b1, iv (w0_21 x0 x1 x2 x3), iv (w0_254 x0 x1 x2 x3), .unset, .unset, .unset, .unset, .unset] [(.int (6 : Int32)), (.ref b1), (.int (6 : Int32)), (.ref b138), (.ref b138), (.ref b137), (.ref b137)])) rfl rfl (hb hby at_401)) ?_
          obtain ⟨cl152, Ar152, q152, S152, M152, Hs152, G152⟩ := id V_b138
          have hin152 : ¬ ((6 : Int32) < 0 ∨ cl152.slots.size ≤ ((6 : Int32)).toNatClampNeg) := inb_of S152 ⟨(by decide), (by decide)⟩
          obtain ⟨T152, h152, X152, e152, W152, st152⟩ := stC X150 hx hZ e150 Ar152 (j := (6 : Int32)) hin152 (g := (mkF m 402 #[iv x0, jv x1, .second, iv x2, iv x3, iv (w0_10 x0 x1 x2 x3), rv b1, iv (w0_21 x0 x1 x2 x3), iv (w0_254 x0 x1 x2 x3), .unset, .unset, .unset, .unset, .unset] [(.int (j0_248_e6 x0 x1 x2 x3)), (.int (6 : Int32)), (.ref b138), (.ref b138), (.ref b137), (.ref b137)])) rfl rfl (hb hby at_402)
          have E_b1 := E_b1.wr W152
          have V_b1 := V_b1.other W152 ne_b1_b138
          have E_b137 := E_b137.wr W152
          have F_coder_b137 := F_coder_b137.other W152 (Or.inl ne_b137_b138)
          have F_value_b137 := F_value_b137.other W152 (Or.inl ne_b137_b138)
          have E_b138 := E_b138.wr W152
          have Zn152 : n0 ≤ h152.size := Nat.le_trans Zn150 (Keep.of_wr W152).1
          have Od152 := Od150.wr W152 g_b138
          have hk152e := Nat.le_trans hk150e (Keep.of_wr W152).1
          have N152 := Fr.snoc X152 N150 g_b138
          have V_b138 : Arv Z h152 b138 k138 .char (7 : Int32) [(.int (w0_358 x0 x1 x2 x3)), (.int (w0_365 x0 x1 x2 x3)), (.int (w0_372 x0 x1 x2 x3)), (.int (w0_379 x0 x1 x2 x3)), (.int (w0_386 x0 x1 x2 x3)), (.int (w0_393 x0 x1 x2 x3)), (.int (w0_402 x0 x1 x2 x3))] (.int (0 : Int32)) := Arv.set Ar152 q152 S152 M152 Hs152 G152 (fits_nar_char _) W152 6 rfl (Nat.le_of_ble_eq_true rfl)
          refine GoesW.st (B := T152.setTop (mkF m 403 #[iv x0, jv x1, .second, iv x2, iv x3, iv (w0_10 x0 x1 x2 x3), rv b1, iv (w0_21 x0 x1 x2 x3), iv (w0_254 x0 x1 x2 x3), .unset, .unset, .unset, .unset, .unset] [(.ref b138), (.ref b137), (.ref b137)])) st152 ?_
          have hp_b137 : ∀ c ∈ (cs0_403 x0 x1 x2 x3), ¬ c < 0 ∧ ¬ (255 : Int32) < c := (own_hp7 x0 x1 x2 x3)
          obtain ⟨_, _, ⟨T153, L153, k153, n153⟩, -, X153, ⟨Lc153, hQ153, l153, y153, z153⟩, st153⟩ := X152.specialBack hx (y := ym13) rfl hown (mvT hZ w_4) (mvT hZ w_5) (mvT hZ w_6) (by decide) (StrChars.Road.backV (W := 1) hZ (own_hws hw) (kI := 4) w_2 (cs := (cs0_403 x0 x1 x2 x3)) (bs := ((cs0_403 x0 x1 x2 x3).map (fun c => c.toInt8.toInt32))) (n := 7) g_b137 Zn152 E_b137 F_value_b137 F_coder_b137 V_b138 (O2.ext Od152.2) P5 rfl rfl (by decide) (by decide) hp_b137 rfl (by decide) (by decide)) (g := (mkF m 403 #[iv x0, jv x1, .second, iv x2, iv x3, iv (w0_10 x0 x1 x2 x3), rv b1, iv (w0_21 x0 x1 x2 x3), iv (w0_254 x0 x1 x2 x3), .unset, .unset, .unset, .unset, .unset] [(.ref b138), (.ref b137), (.ref b137)])) rfl (by rw [hml]; rfl) (Steps.refl _) (a := b137) (argsL := [(.ref b138)]) (rest := [(.ref b137)]) (lenOf pd0_1 rfl) rfl (by show 2 * 0 + _ ≤ _; exact Nat.le_of_eq rfl) (hb hby at_403) (fun _ _ => ⟨rfl, e152, (by decide : 3 + 1 ≤ _), (by decide : 20 + 7 ≤ _)⟩)
          dsimp only [Pt.U, Pt.locs, Pt.cells, Pt.slots] at X153 l153 y153 z153 st153 hQ153
          subst l153 y153 z153
          obtain ⟨h153, eh153⟩ : ∃ z, z = T153.heap := ⟨_, rfl⟩
          rw [← eh153] at hQ153
          have e153 : T153.heap = h153 := eh153.symm
          obtain ⟨rfl, N153q, Kq153, o153_e, o153_c, t153, kb153, u153, szr153, nw153, o153_v, o153_a⟩ := hQ153
          have ne_b1_t153 : b1 ≠ t153 := Nat.ne_of_lt (Nat.lt_of_lt_of_le E_b1.lt szr153)
          have ne_b137_t153 : b137 ≠ t153 := Nat.ne_of_lt (Nat.lt_of_lt_of_le E_b137.lt szr153)
          have ne_b138_t153 : b138 ≠ t153 := Nat.ne_of_lt (Nat.lt_of_lt_of_le E_b138.lt szr153)
          have g_t153 : n0 ≤ t153 := Nat.le_trans Zn152 szr153
          have N153 := Fr.app N152 N153q
          have E_b1 := E_b1.keep Kq153
          have V_b1 := V_b1.keep Kq153 (ninS ne_b1_b137 nin0)
          have E_b137 := E_b137.keep Kq153
          have E_b138 := E_b138.keep Kq153
          have V_b138 := V_b138.keep Kq153 (ninS (Ne.symm ne_b137_b138) nin0)
          have Zn153 : n0 ≤ h153.size := Nat.le_trans Zn152 Kq153.1
          have hk153e := Nat.le_trans hk152e Kq153.1
          have Od153 := Od152.keep Kq153 (allS g_b137 all0)
          have F_coder_b137 : Fld Z h153 b137 "java/lang/String" "coder" "B" (.int (0 : Int32)) := o153_c
          have F_value_b137 : Fld Z h153 b137 "java/lang/String" "value" "[B" (.ref t153) := o153_v
          have V_t153 : Arv Z h153 t153 kb153 .byte (7 : Int32) (((cs0_403 x0 x1 x2 x3).map (fun c => c.toInt8.toInt32)).map Value.int) (.int (0 : Int32)) := o153_a
          refine GoesW.st (B := T153.setTop (mkF m 406 #[iv x0, jv x1, .second, iv x2, iv x3, iv (w0_10 x0 x1 x2 x3), rv b1, iv (w0_21 x0 x1 x2 x3), iv (w0_254 x0 x1 x2 x3), .unset, .unset, .unset, .unset, .unset] [(.ref b137)])) (fun t k => st153.trans k) ?_
          refine GoesW.run X153 hx hown hci hcl hby (L := [(406, .astore 9, 2), (408, .goto 117, 3)]) (by decide +kernel) rfl (g' := (mkF m 525 #[iv x0, jv x1, .second, iv x2, iv x3, iv (w0_10 x0 x1 x2 x3), rv b1, iv (w0_21 x0 x1 x2 x3), iv (w0_254 x0 x1 x2 x3), rv b137, .unset, .unset, .unset, .unset] [])) rfl ?_
          have q := jn525_111
          rw [show (j0_525_cs x0 x1 x2 x3) = (cs0_403 x0 x1 x2 x3) from ((if_pos hc259_43).trans (if_pos hc341_136))] at q
          exact q _ _ _ _ (X153.more (by decide) (by decide)) e153 N153 Zn153 _ Sn41 hk153e hZ hown (own_IBm IB41 (by decide)) Od153 b137 t153 kb153 E_b1 V_b1 E_b137 F_coder_b137 F_value_b137 V_t153 (own_hp7 x0 x1 x2 x3)
        · skip
          refine GoesW.st (B := T41.setTop (mkF m 411 #[iv x0, jv x1, .second, iv x2, iv x3, iv (w0_10 x0 x1 x2 x3), rv b1, iv (w0_21 x0 x1 x2 x3), iv (w0_254 x0 x1 x2 x3), .unset, .unset, .unset, .unset, .unset] [])) (fun t k => ?_) ?_
          · refine XS.icmpYes X41.here hx rfl (pc0 := 341) (pc' := 411) rfl (hb hby at_341) rfl (feq hc341_136).2 (by decide) (by decide) ?_
            exact k
          refine GoesW.run X41 hx hown hci hcl hby (L := [(411, .iload 8, 2), (413, .iconst 5, 1)]) (by decide +kernel) rfl (g' := (mkF m 414 #[iv x0, jv x1, .second, iv x2, iv x3, iv (w0_10 x0 x1 x2 x3), rv b1, iv (w0_21 x0 x1 x2 x3), iv (w0_254 x0 x1 x2 x3), .unset, .unset, .unset, .unset, .unset] [(.int (5 : Int32)), (.int (w0_254 x0 x1 x2 x3))])) rfl ?_
          by_cases hc414_154 : (w0_254 x0 x1 x2 x3) = (5 : Int32)
          · skip
            refine GoesW.st (B := T41.setTop (mkF m 417 #[iv x0, jv x1, .second, iv x2, iv x3, iv (w0_10 x0 x1 x2 x3), rv b1, iv (w0_21 x0 x1 x2 x3), iv (w0_254 x0 x1 x2 x3), .unset, .unset, .unset, .unset, .unset] [])) (fun t k => ?_) ?_
            · refine XS.icmpNo X41.here hx rfl (hb hby at_414) rfl (teq hc414_154).2 ?_
              exact k
            obtain ⟨T155, h155, X155, e155, E155, A155, D155, -, st155⟩ := newO X41 hx hZ hown w_1 w_2 w_3 e41 (g := (mkF m 417 #[iv x0, jv x1, .second, iv x2, iv x3, iv (w0_10 x0 x1 x2 x3), rv b1, iv (w0_21 x0 x1 x2 x3), iv (w0_254 x0 x1 x2 x3), .unset, .unset, .unset, .unset, .unset] [])) rfl (hb hby at_417) (by decide) (by decide)
            obtain ⟨b155, g155⟩ : ∃ z, z = h41.size := ⟨_, rfl⟩
            rw [← g155] at A155 D155 st155
            have ne_b1_b155 : b1 ≠ b155 := Nat.ne_of_lt (Nat.lt_of_lt_of_le E_b1.lt (Nat.le_of_eq g155.symm))
            have g_b155 : n0 ≤ b155 := Nat.le_trans Zn41 (Nat.le_of_eq g155.symm)
            have E_b1 := E_b1.ext E155
            have V_b1 := V_b1.ext E155
            have Zn155 : n0 ≤ h155.size := Nat.le_trans Zn41 E155.1
            have Od155 := Od41.ext E155
            have hk155e := Nat.le_trans hk41 E155.1
            have E_b155 : Exa Z h155 b155 "java/lang/String" := A155
            have F_coder_b155 : Fld Z h155 b155 "java/lang/String" "coder" "B" (.int (0 : Int32)) := D155 (Or.inr w_27) (ty := .byte) (by decide)
            have F_value_b155 : Fld Z h155 b155 "java/lang/String" "value" "[B" .null := D155 (Or.inr w_29) (ty := (.array .byte)) (by decide)
            refine GoesW.st (B := T155.setTop (mkF m 420 #[iv x0, jv x1, .second, iv x2, iv x3, iv (w0_10 x0 x1 x2 x3), rv b1, iv (w0_21 x0 x1 x2 x3), iv (w0_254 x0 x1 x2 x3), .unset, .unset, .unset, .unset, .unset] [(.ref b155)])) st155 ?_
            refine GoesW.run X155 hx hown hci hcl hby (L := [(420, .dup, 1), (421, .bipush 9, 2)]) (by decide +kernel) rfl (g' := (mkF m 423 #[iv x0, jv x1, .second, iv x2, iv x3, iv (w0_10 x0 x1 x2 x3), rv b1, iv (w0_21 x0 x1 x2 x3), iv (w0_254 x0 x1 x2 x3), .unset, .unset, .unset, .unset, .unset] [(.int (9 : Int32)), (.ref b155), (.ref b155)])) rfl ?_
            obtain ⟨T156, h156, k156, X156, e156, E156, A156, B156, st156⟩ := newPE X155 hx hZ (aty := .char) w_0 e155 (g := (mkF m 423 #[iv x0, jv x1, .second, iv x2, iv x3, iv (w0_10 x0 x1 x2 x3), rv b1, iv (w0_21 x0 x1 x2 x3), iv (w0_254 x0 x1 x2 x3), .unset, .unset, .unset, .unset, .unset] [(.int (9 : Int32)), (.ref b155), (.ref b155)])) rfl (hb hby at_423) rfl (by decide) (cap := 9) (by decide) (by decide) (by decide) (by decide) (ad := "[C") (by decide)
            obtain ⟨b156, g156⟩ : ∃ z, z = h155.size := ⟨_, rfl⟩
            rw [← g156] at A156 B156 st156
            have ne_b155_b156 : b155 ≠ b156 := Nat.ne_of_lt (Nat.lt_of_lt_of_le E_b155.lt (Nat.le_of_eq g156.symm))
            have ne_b1_b156 : b1 ≠ b156 := Nat.ne_of_lt (Nat.lt_of_lt_of_le E_b1.lt (Nat.le_of_eq g156.symm))
            have g_b156 : n0 ≤ b156 := Nat.le_trans Zn155 (Nat.le_of_eq g156.symm)
            have E_b1 := E_b1.ext E156
            have V_b1 := V_b1.ext E156
            have E_b155 := E_b155.ext E156
            have F_coder_b155 := F_coder_b155.ext E156
            have F_value_b155 := F_value_b155.ext E156
            have Zn156 : n0 ≤ h156.size := Nat.le_trans Zn155 E156.1
            have Od156 := Od155.ext E156
            have hk156e := Nat.le_trans hk155e E156.1
            have E_b156 : Exa Z h156 b156 "[C" := B156
            have V_b156 : Arv Z h156 b156 k156 .char (9 : Int32) [(.int (0 : Int32)), (.int (0 : Int32)), (.int (0 : Int32)), (.int (0 : Int32)), (.int (0 : Int32)), (.int (0 : Int32)), (.int (0 : Int32)), (.int (0 : Int32)), (.int (0 : Int32))] (.int (0 : Int32)) := (Arv.new A156 (by decide)).pad (pad_rep [] (.int (0 : Int32)) 9)
            refine GoesW.st (B := T156.setTop (mkF m 425 #[iv x0, jv x1, .second, iv x2, iv x3, iv (w0_10 x0 x1 x2 x3), rv b1, iv (w0_21 x0 x1 x2 x3), iv (w0_254 x0 x1 x2 x3), .unset, .unset, .unset, .unset, .unset] [(.ref b156), (.ref b155), (.ref b155)])) st156 ?_
            refine GoesW.run X156 hx hown hci hcl hby (L := [(425, .dup, 1), (426, .iconst 0, 1), (427, .aload 6, 2), (429, .iconst 0, 1)]) (by decide +kernel) rfl (g' := (mkF m 430 #[iv x0, jv x1, .second, iv x2, iv x3, iv (w0_10 x0 x1 x2 x3), rv b1, iv (w0_21 x0 x1 x2 x3), iv (w0_254 x0 x1 x2 x3), .unset, .unset, .unset, .unset, .unset] [(.int (0 : Int32)), (.ref b1), (.int (0 : Int32)), (.ref b156), (.ref b156), (.ref b155), (.ref b155)])) rfl ?_
            obtain ⟨cl157, Ar157, q157, S157, M157, Hs157, G157⟩ := id V_b1
            have hin157 : ¬ ((0 : Int32) < 0 ∨ cl157.slots.size ≤ ((0 : Int32)).toNatClampNeg) := inb_of S157 ⟨(by decide), (by decide)⟩
            have hat157 : cl157.slots[((0 : Int32)).toNatClampNeg]? = some (.int (j0_248_e0 x0 x1 x2 x3)) := Hs157.at hin157 rfl
            refine GoesW.st (B := T156.setTop (mkF m 431 #[iv x0, jv x1, .second, iv x2, iv x3, iv (w0_10 x0 x1 x2 x3), rv b1, iv (w0_21 x0 x1 x2 x3), iv (w0_254 x0 x1 x2 x3), .unset, .unset, .unset, .unset, .unset] [(.int (j0_248_e0 x0 x1 x2 x3)), (.int (0 : Int32)), (.ref b156), (.ref b156), (.ref b155), (.ref b155)])) (X156.caload hx (j := (0 : Int32)) (v := (.int (j0_248_e0 x0 x1 x2 x3))) (by rw [e156]; exact Ar157.1) (State.isArrayOf_alike hZ.alike Ar157.2.1) Ar157.2.2 hin157 hat157 (g := (mkF m 430 #[iv x0, jv x1, .second, iv x2, iv x3, iv (w0_10 x0 x1 x2 x3), rv b1, iv (w0_21 x0 x1 x2 x3), iv (w0_254 x0 x1 x2 x3), .unset, .unset, .unset, .unset, .unset] [(.int (0 : Int32)), (.ref b1), (.int (0 : Int32)), (.ref b156), (.ref b156), (.ref b155), (.ref b155)])) rfl rfl (hb hby at_430)) ?_
            obtain ⟨cl158, Ar158, q158, S158, M158, Hs158, G158⟩ := id V_b156
            have hin158 : ¬ ((0 : Int32) < 0 ∨ cl158.slots.size ≤ ((0 : Int32)).toNatClampNeg) := inb_of S158 ⟨(by decide), (by decide)⟩
            obtain ⟨T158, h158, X158, e158, W158, st158⟩ := stC X156 hx hZ e156 Ar158 (j := (0 : Int32)) hin158 (g := (mkF m 431 #[iv x0, jv x1, .second, iv x2, iv x3, iv (w0_10 x0 x1 x2 x3), rv b1, iv (w0_21 x0 x1 x2 x3), iv (w0_254 x0 x1 x2 x3), .unset, .unset, .unset, .unset, .unset] [(.int (j0_248_e0 x0 x1 x2 x3)), (.int (0 : Int32)), (.ref b156), (.ref b156), (.ref b155), (.ref b155)])) rfl rfl (hb hby at_431)
            have E_b1 := E_b1.wr W158
            have V_b1 := V_b1.other W158 ne_b1_b156
            have E_b155 := E_b155.wr W158
            have F_coder_b155 := F_coder_b155.other W158 (Or.inl ne_b155_b156)
            have F_value_b155 := F_value_b155.other W158 (Or.inl ne_b155_b156)
            have E_b156 := E_b156.wr W158
            have Zn158 : n0 ≤ h158.size := Nat.le_trans Zn156 (Keep.of_wr W158).1
            have Od158 := Od156.wr W158 g_b156
            have hk158e := Nat.le_trans hk156e (Keep.of_wr W158).1
            have N158 := Fr.snoc X158 N41 g_b156
            have V_b156 : Arv Z h158 b156 k156 .char (9 : Int32) [(.int (w0_358 x0 x1 x2 x3)), (.int (0 : Int32)), (.int (0 : Int32)), (.int (0 : Int32)), (.int (0 : Int32)), (.int (0 : Int32)), (.int (0 : Int32)), (.int (0 : Int32)), (.int (0 : Int32))] (.int (0 : Int32)) := Arv.set Ar158 q158 S158 M158 Hs158 G158 (fits_nar_char _) W158 0 rfl (Nat.le_of_ble_eq_true rfl)
            refine GoesW.st (B := T158.setTop (mkF m 432 #[iv x0, jv x1, .second, iv x2, iv x3, iv (w0_10 x0 x1 x2 x3), rv b1, iv (w0_21 x0 x1 x2 x3), iv (w0_254 x0 x1 x2 x3), .unset, .unset, .unset, .unset, .unset] [(.ref b156), (.ref b155), (.ref b155)])) st158 ?_
            refine GoesW.run X158 hx hown hci hcl hby (L := [(432, .dup, 1), (433, .iconst 1, 1), (434, .aload 6, 2), (436, .iconst 1, 1)]) (by decide +kernel) rfl (g' := (mkF m 437 #[iv x0, jv x1, .second, iv x2, iv x3, iv (w0_10 x0 x1 x2 x3), rv b1, iv (w0_21 x0 x1 x2 x3), iv (w0_254 x0 x1 x2 x3), .unset, .unset, .unset, .unset, .unset] [(.int (1 : Int32)), (.ref b1), (.int (1 : Int32)), (.ref b156), (.ref b156), (.ref b155), (.ref b155)])) rfl ?_
            obtain ⟨cl159, Ar159, q159, S159, M159, Hs159, G159⟩ := id V_b1
            have hin159 : ¬ ((1 : Int32) < 0 ∨ cl159.slots.size ≤ ((1 : Int32)).toNatClampNeg) := inb_of S159 ⟨(by decide), (by decide)⟩
            have hat159 : cl159.slots[((1 : Int32)).toNatClampNeg]? = some (.int (j0_248_e1 x0 x1 x2 x3)) := Hs159.at hin159 rfl
            refine GoesW.st (B := T158.setTop (mkF m 438 #[iv x0, jv x1, .second, iv x2, iv x3, iv (w0_10 x0 x1 x2 x3), rv b1, iv (w0_21 x0 x1 x2 x3), iv (w0_254 x0 x1 x2 x3), .unset, .unset, .unset, .unset, .unset] [(.int (j0_248_e1 x0 x1 x2 x3)), (.int (1 : Int32)), (.ref b156), (.ref b156), (.ref b155), (.ref b155)])) (X158.caload hx (j := (1 : Int32)) (v := (.int (j0_248_e1 x0 x1 x2 x3))) (by rw [e158]; exact Ar159.1) (State.isArrayOf_alike hZ.alike Ar159.2.1) Ar159.2.2 hin159 hat159 (g := (mkF m 437 #[iv x0, jv x1, .second, iv x2, iv x3, iv (w0_10 x0 x1 x2 x3), rv b1, iv (w0_21 x0 x1 x2 x3), iv (w0_254 x0 x1 x2 x3), .unset, .unset, .unset, .unset, .unset] [(.int (1 : Int32)), (.ref b1), (.int (1 : Int32)), (.ref b156), (.ref b156), (.ref b155), (.ref b155)])) rfl rfl (hb hby at_437)) ?_
            obtain ⟨cl160, Ar160, q160, S160, M160, Hs160, G160⟩ := id V_b156
            have hin160 : ¬ ((1 : Int32) < 0 ∨ cl160.slots.size ≤ ((1 : Int32)).toNatClampNeg) := inb_of S160 ⟨(by decide), (by decide)⟩
            obtain ⟨T160, h160, X160, e160, W160, st160⟩ := stC X158 hx hZ e158 Ar160 (j := (1 : Int32)) hin160 (g := (mkF m 438 #[iv x0, jv x1, .second, iv x2, iv x3, iv (w0_10 x0 x1 x2 x3), rv b1, iv (w0_21 x0 x1 x2 x3), iv (w0_254 x0 x1 x2 x3), .unset, .unset, .unset, .unset, .unset] [(.int (j0_248_e1 x0 x1 x2 x3)), (.int (1 : Int32)), (.ref b156), (.ref b156), (.ref b155), (.ref b155)])) rfl rfl (hb hby at_438)
            have E_b1 := E_b1.wr W160
            have V_b1 := V_b1.other W160 ne_b1_b156
            have E_b155 := E_b155.wr W160
            have F_coder_b155 := F_coder_b155.other W160 (Or.inl ne_b155_b156)
            have F_value_b155 := F_value_b155.other W160 (Or.inl ne_b155_b156)
            have E_b156 := E_b156.wr W160
            have Zn160 : n0 ≤ h160.size := Nat.le_trans Zn158 (Keep.of_wr W160).1
            have Od160 := Od158.wr W160 g_b156
            have hk160e := Nat.le_trans hk158e (Keep.of_wr W160).1
            have N160 := Fr.snoc X160 N158 g_b156
            have V_b156 : Arv Z h160 b156 k156 .char (9 : Int32) [(.int (w0_358 x0 x1 x2 x3)), (.int (w0_365 x0 x1 x2 x3)), (.int (0 : Int32)), (.int (0 : Int32)), (.int (0 : Int32)), (.int (0 : Int32)), (.int (0 : Int32)), (.int (0 : Int32)), (.int (0 : Int32))] (.int (0 : Int32)) := Arv.set Ar160 q160 S160 M160 Hs160 G160 (fits_nar_char _) W160 1 rfl (Nat.le_of_ble_eq_true rfl)
            refine GoesW.st (B := T160.setTop (mkF m 439 #[iv x0, jv x1, .second, iv x2, iv x3, iv (w0_10 x0 x1 x2 x3), rv b1, iv (w0_21 x0 x1 x2 x3), iv (w0_254 x0 x1 x2 x3), .unset, .unset, .unset, .unset, .unset] [(.ref b156), (.ref b155), (.ref b155)])) st160 ?_
            refine GoesW.run X160 hx hown hci hcl hby (L := [(439, .dup, 1), (440, .iconst 2, 1), (441, .aload 6, 2), (443, .iconst 2, 1)]) (by decide +kernel) rfl (g' := (mkF m 444 #[iv x0, jv x1, .second, iv x2, iv x3, iv (w0_10 x0 x1 x2 x3), rv b1, iv (w0_21 x0 x1 x2 x3), iv (w0_254 x0 x1 x2 x3), .unset, .unset, .unset, .unset, .unset] [(.int (2 : Int32)), (.ref b1), (.int (2 : Int32)), (.ref b156), (.ref b156), (.ref b155), (.ref b155)])) rfl ?_
            obtain ⟨cl161, Ar161, q161, S161, M161, Hs161, G161⟩ := id V_b1
            have hin161 : ¬ ((2 : Int32) < 0 ∨ cl161.slots.size ≤ ((2 : Int32)).toNatClampNeg) := inb_of S161 ⟨(by decide), (by decide)⟩
            have hat161 : cl161.slots[((2 : Int32)).toNatClampNeg]? = some (.int (j0_248_e2 x0 x1 x2 x3)) := Hs161.at hin161 rfl
            refine GoesW.st (B := T160.setTop (mkF m 445 #[iv x0, jv x1, .second, iv x2, iv x3, iv (w0_10 x0 x1 x2 x3), rv b1, iv (w0_21 x0 x1 x2 x3), iv (w0_254 x0 x1 x2 x3), .unset, .unset, .unset, .unset, .unset] [(.int (j0_248_e2 x0 x1 x2 x3)), (.int (2 : Int32)), (.ref b156), (.ref b156), (.ref b155), (.ref b155)])) (X160.caload hx (j := (2 : Int32)) (v := (.int (j0_248_e2 x0 x1 x2 x3))) (by rw [e160]; exact Ar161.1) (State.isArrayOf_alike hZ.alike Ar161.2.1) Ar161.2.2 hin161 hat161 (g := (mkF m 444 #[iv x0, jv x1, .second, iv x2, iv x3, iv (w0_10 x0 x1 x2 x3), rv b1, iv (w0_21 x0 x1 x2 x3), iv (w0_254 x0 x1 x2 x3), .unset, .unset, .unset, .unset, .unset] [(.int (2 : Int32)), (.ref b1), (.int (2 : Int32)), (.ref b156), (.ref b156), (.ref b155), (.ref b155)])) rfl rfl (hb hby at_444)) ?_
            obtain ⟨cl162, Ar162, q162, S162, M162, Hs162, G162⟩ := id V_b156
            have hin162 : ¬ ((2 : Int32) < 0 ∨ cl162.slots.size ≤ ((2 : Int32)).toNatClampNeg) := inb_of S162 ⟨(by decide), (by decide)⟩
            obtain ⟨T162, h162, X162, e162, W162, st162⟩ := stC X160 hx hZ e160 Ar162 (j := (2 : Int32)) hin162 (g := (mkF m 445 #[iv x0, jv x1, .second, iv x2, iv x3, iv (w0_10 x0 x1 x2 x3), rv b1, iv (w0_21 x0 x1 x2 x3), iv (w0_254 x0 x1 x2 x3), .unset, .unset, .unset, .unset, .unset] [(.int (j0_248_e2 x0 x1 x2 x3)), (.int (2 : Int32)), (.ref b156), (.ref b156), (.ref b155), (.ref b155)])) rfl rfl (hb hby at_445)
            have E_b1 := E_b1.wr W162
            have V_b1 := V_b1.other W162 ne_b1_b156
            have E_b155 := E_b155.wr W162
            have F_coder_b155 := F_coder_b155.other W162 (Or.inl ne_b155_b156)
            have F_value_b155 := F_value_b155.other W162 (Or.inl ne_b155_b156)
            have E_b156 := E_b156.wr W162
            have Zn162 : n0 ≤ h162.size := Nat.le_trans Zn160 (Keep.of_wr W162).1
            have Od162 := Od160.wr W162 g_b156
            have hk162e := Nat.le_trans hk160e (Keep.of_wr W162).1
            have N162 := Fr.snoc X162 N160 g_b156
            have V_b156 : Arv Z h162 b156 k156 .char (9 : Int32) [(.int (w0_358 x0 x1 x2 x3)), (.int (w0_365 x0 x1 x2 x3)), (.int (w0_372 x0 x1 x2 x3)), (.int (0 : Int32)), (.int (0 : Int32)), (.int (0 : Int32)), (.int (0 : Int32)), (.int (0 : Int32)), (.int (0 : Int32))] (.int (0 : Int32)) := Arv.set Ar162 q162 S162 M162 Hs162 G162 (fits_nar_char _) W162 2 rfl (Nat.le_of_ble_eq_true rfl)
            refine GoesW.st (B := T162.setTop (mkF m 446 #[iv x0, jv x1, .second, iv x2, iv x3, iv (w0_10 x0 x1 x2 x3), rv b1, iv (w0_21 x0 x1 x2 x3), iv (w0_254 x0 x1 x2 x3), .unset, .unset, .unset, .unset, .unset] [(.ref b156), (.ref b155), (.ref b155)])) st162 ?_
            refine GoesW.run X162 hx hown hci hcl hby (L := [(446, .dup, 1), (447, .iconst 3, 1), (448, .aload 6, 2), (450, .iconst 3, 1)]) (by decide +kernel) rfl (g' := (mkF m 451 #[iv x0, jv x1, .second, iv x2, iv x3, iv (w0_10 x0 x1 x2 x3), rv b1, iv (w0_21 x0 x1 x2 x3), iv (w0_254 x0 x1 x2 x3), .unset, .unset, .unset, .unset, .unset] [(.int (3 : Int32)), (.ref b1), (.int (3 : Int32)), (.ref b156), (.ref b156), (.ref b155), (.ref b155)])) rfl ?_
            obtain ⟨cl163, Ar163, q163, S163, M163, Hs163, G163⟩ := id V_b1
            have hin163 : ¬ ((3 : Int32) < 0 ∨ cl163.slots.size ≤ ((3 : Int32)).toNatClampNeg) := inb_of S163 ⟨(by decide), (by decide)⟩
            have hat163 : cl163.slots[((3 : Int32)).toNatClampNeg]? = some (.int (j0_248_e3 x0 x1 x2 x3)) := Hs163.at hin163 rfl
            refine GoesW.st (B := T162.setTop (mkF m 452 #[iv x0, jv x1, .second, iv x2, iv x3, iv (w0_10 x0 x1 x2 x3), rv b1, iv (w0_21 x0 x1 x2 x3), iv (w0_254 x0 x1 x2 x3), .unset, .unset, .unset, .unset, .unset] [(.int (j0_248_e3 x0 x1 x2 x3)), (.int (3 : Int32)), (.ref b156), (.ref b156), (.ref b155), (.ref b155)])) (X162.caload hx (j := (3 : Int32)) (v := (.int (j0_248_e3 x0 x1 x2 x3))) (by rw [e162]; exact Ar163.1) (State.isArrayOf_alike hZ.alike Ar163.2.1) Ar163.2.2 hin163 hat163 (g := (mkF m 451 #[iv x0, jv x1, .second, iv x2, iv x3, iv (w0_10 x0 x1 x2 x3), rv b1, iv (w0_21 x0 x1 x2 x3), iv (w0_254 x0 x1 x2 x3), .unset, .unset, .unset, .unset, .unset] [(.int (3 : Int32)), (.ref b1), (.int (3 : Int32)), (.ref b156), (.ref b156), (.ref b155), (.ref b155)])) rfl rfl (hb hby at_451)) ?_
            obtain ⟨cl164, Ar164, q164, S164, M164, Hs164, G164⟩ := id V_b156
            have hin164 : ¬ ((3 : Int32) < 0 ∨ cl164.slots.size ≤ ((3 : Int32)).toNatClampNeg) := inb_of S164 ⟨(by decide), (by decide)⟩
            obtain ⟨T164, h164, X164, e164, W164, st164⟩ := stC X162 hx hZ e162 Ar164 (j := (3 : Int32)) hin164 (g := (mkF m 452 #[iv x0, jv x1, .second, iv x2, iv x3, iv (w0_10 x0 x1 x2 x3), rv b1, iv (w0_21 x0 x1 x2 x3), iv (w0_254 x0 x1 x2 x3), .unset, .unset, .unset, .unset, .unset] [(.int (j0_248_e3 x0 x1 x2 x3)), (.int (3 : Int32)), (.ref b156), (.ref b156), (.ref b155), (.ref b155)])) rfl rfl (hb hby at_452)
            have E_b1 := E_b1.wr W164
            have V_b1 := V_b1.other W164 ne_b1_b156
            have E_b155 := E_b155.wr W164
            have F_coder_b155 := F_coder_b155.other W164 (Or.inl ne_b155_b156)
            have F_value_b155 := F_value_b155.other W164 (Or.inl ne_b155_b156)
            have E_b156 := E_b156.wr W164
            have Zn164 : n0 ≤ h164.size := Nat.le_trans Zn162 (Keep.of_wr W164).1
            have Od164 := Od162.wr W164 g_b156
            have hk164e := Nat.le_trans hk162e (Keep.of_wr W164).1
            have N164 := Fr.snoc X164 N162 g_b156
            have V_b156 : Arv Z h164 b156 k156 .char (9 : Int32) [(.int (w0_358 x0 x1 x2 x3)), (.int (w0_365 x0 x1 x2 x3)), (.int (w0_372 x0 x1 x2 x3)), (.int (w0_379 x0 x1 x2 x3)), (.int (0 : Int32)), (.int (0 : Int32)), (.int (0 : Int32)), (.int (0 : Int32)), (.int (0 : Int32))] (.int (0 : Int32)) := Arv.set Ar164 q164 S164 M164 Hs164 G164 (fits_nar_char _) W164 3 rfl (Nat.le_of_ble_eq_true rfl)
            refine GoesW.st (B := T164.setTop (mkF m 453 #[iv x0, jv x1, .second, iv x2, iv x3, iv (w0_10 x0 x1 x2 x3), rv b1, iv (w0_21 x0 x1 x2 x3), iv (w0_254 x0 x1 x2 x3), .unset, .unset, .unset, .unset, .unset] [(.ref b156), (.ref b155), (.ref b155)])) st164 ?_
            refine GoesW.run X164 hx hown hci hcl hby (L := [(453, .dup, 1), (454, .iconst 4, 1), (455, .aload 6, 2), (457, .iconst 4, 1)]) (by decide +kernel) rfl (g' := (mkF m 458 #[iv x0, jv x1, .second, iv x2, iv x3, iv (w0_10 x0 x1 x2 x3), rv b1, iv (w0_21 x0 x1 x2 x3), iv (w0_254 x0 x1 x2 x3), .unset, .unset, .unset, .unset, .unset] [(.int (4 : Int32)), (.ref b1), (.int (4 : Int32)), (.ref b156), (.ref b156), (.ref b155), (.ref b155)])) rfl ?_
            obtain ⟨cl165, Ar165, q165, S165, M165, Hs165, G165⟩ := id V_b1
            have hin165 : ¬ ((4 : Int32) < 0 ∨ cl165.slots.size ≤ ((4 : Int32)).toNatClampNeg) := inb_of S165 ⟨(by decide), (by decide)⟩
            have hat165 : cl165.slots[((4 : Int32)).toNatClampNeg]? = some (.int (j0_248_e4 x0 x1 x2 x3)) := Hs165.at hin165 rfl
            refine GoesW.st (B := T164.setTop (mkF m 459 #[iv x0, jv x1, .second, iv x2, iv x3, iv (w0_10 x0 x1 x2 x3), rv b1, iv (w0_21 x0 x1 x2 x3), iv (w0_254 x0 x1 x2 x3), .unset, .unset, .unset, .unset, .unset] [(.int (j0_248_e4 x0 x1 x2 x3)), (.int (4 : Int32)), (.ref b156), (.ref b156), (.ref b155), (.ref b155)])) (X164.caload hx (j := (4 : Int32)) (v := (.int (j0_248_e4 x0 x1 x2 x3))) (by rw [e164]; exact Ar165.1) (State.isArrayOf_alike hZ.alike Ar165.2.1) Ar165.2.2 hin165 hat165 (g := (mkF m 458 #[iv x0, jv x1, .second, iv x2, iv x3, iv (w0_10 x0 x1 x2 x3), rv b1, iv (w0_21 x0 x1 x2 x3), iv (w0_254 x0 x1 x2 x3), .unset, .unset, .unset, .unset, .unset] [(.int (4 : Int32)), (.ref b1), (.int (4 : Int32)), (.ref b156), (.ref b156), (.ref b155), (.ref b155)])) rfl rfl (hb hby at_458)) ?_
            obtain ⟨cl166, Ar166, q166, S166, M166, Hs166, G166⟩ := id V_b156
            have hin166 : ¬ ((4 : Int32) < 0 ∨ cl166.slots.size ≤ ((4 : Int32)).toNatClampNeg) := inb_of S166 ⟨(by decide), (by decide)⟩
            obtain ⟨T166, h166, X166, e166, W166, st166⟩ := stC X164 hx hZ e164 Ar166 (j := (4 : Int32)) hin166 (g := (mkF m 459 #[iv x0, jv x1, .second, iv x2, iv x3, iv (w0_10 x0 x1 x2 x3), rv b1, iv (w0_21 x0 x1 x2 x3), iv (w0_254 x0 x1 x2 x3), .unset, .unset, .unset, .unset, .unset] [(.int (j0_248_e4 x0 x1 x2 x3)), (.int (4 : Int32)), (.ref b156), (.ref b156), (.ref b155), (.ref b155)])) rfl rfl (hb hby at_459)
            have E_b1 := E_b1.wr W166
            have V_b1 := V_b1.other W166 ne_b1_b156
            have E_b155 := E_b155.wr W166
            have F_coder_b155 := F_coder_b155.other W166 (Or.inl ne_b155_b156)
            have F_value_b155 := F_value_b155.other W166 (Or.inl ne_b155_b156)
            have E_b156 := E_b156.wr W166
            have Zn166 : n0 ≤ h166.size := Nat.le_trans Zn164 (Keep.of_wr W166).1
            have Od166 := Od164.wr W166 g_b156
            have hk166e := Nat.le_trans hk164e (Keep.of_wr W166).1
            have N166 := Fr.snoc X166 N164 g_b156
            have V_b156 : Arv Z h166 b156 k156 .char (9 : Int32) [(.int (w0_358 x0 x1 x2 x3)), (.int (w0_365 x0 x1 x2 x3)), (.int (w0_372 x0 x1 x2 x3)), (.int (w0_379 x0 x1 x2 x3)), (.int (w0_386 x0 x1 x2 x3)), (.int (0 : Int32)), (.int (0 : Int32)), (.int (0 : Int32)), (.int (0 : Int32))] (.int (0 : Int32)) := Arv.set Ar166 q166 S166 M166 Hs166 G166 (fits_nar_char _) W166 4 rfl (Nat.le_of_ble_eq_true rfl)
            refine GoesW.st (B := T166.setTop (mkF m 460 #[iv x0, jv x1, .second, iv x2, iv x3, iv (w0_10 x0 x1 x2 x3), rv b1, iv (w0_21 x0 x1 x2 x3), iv (w0_254 x0 x1 x2 x3), .unset, .unset, .unset, .unset, .unset] [(.ref b156), (.ref b155), (.ref b155)])) st166 ?_
            refine GoesW.run X166 hx hown hci hcl hby (L := [(460, .dup, 1), (461, .iconst 5, 1), (462, .aload 6, 2), (464, .iconst 5, 1)]) (by decide +kernel) rfl (g' := (mkF m 465 #[iv x0, jv x1, .second, iv x2, iv x3, iv (w0_10 x0 x1 x2 x3), rv b1, iv (w0_21 x0 x1 x2 x3), iv (w0_254 x0 x1 x2 x3), .unset, .unset, .unset, .unset, .unset] [(.int (5 : Int32)), (.ref b1), (.int (5 : Int32)), (.ref b156), (.ref b156), (.ref b155), (.ref b155)])) rfl ?_
            obtain ⟨cl167, Ar167, q167, S167, M167, Hs167, G167⟩ := id V_b1
            have hin167 : ¬ ((5 : Int32) < 0 ∨ cl167.slots.size ≤ ((5 : Int32)).toNatClampNeg) := inb_of S167 ⟨(by decide), (by decide)⟩
            have hat167 : cl167.slots[((5 : Int32)).toNatClampNeg]? = some (.int (j0_248_e5 x0 x1 x2 x3)) := Hs167.at hin167 rfl
            refine GoesW.st (B := T166.setTop (mkF m 466 #[iv x0, jv x1, .second, iv x2, iv x3, iv (w0_10 x0 x1 x2 x3), rv b1, iv (w0_21 x0 x1 x2 x3), iv (w0_254 x0 x1 x2 x3), .unset, .unset, .unset, .unset, .unset] [(.int (j0_248_e5 x0 x1 x2 x3)), (.int (5 : Int32)), (.ref b156), (.ref b156), (.ref b155), (.ref b155)])) (X166.caload hx (j := (5 : Int32)) (v := (.int (j0_248_e5 x0 x1 x2 x3))) (by rw [e166]; exact Ar167.1) (State.isArrayOf_alike hZ.alike Ar167.2.1) Ar167.2.2 hin167 hat167 (g := (mkF m 465 #[iv x0, jv x1, .second, iv x2, iv x3, iv (w0_10 x0 x1 x2 x3), rv b1, iv (w0_21 x0 x1 x2 x3), iv (w0_254 x0 x1 x2 x3), .unset, .unset, .unset, .unset, .unset] [(.int (5 : Int32)), (.ref b1), (.int (5 : Int32)), (.ref b156), (.ref b156), (.ref b155), (.ref b155)])) rfl rfl (hb hby at_465)) ?_
            obtain ⟨cl168, Ar168, q168, S168, M168, Hs168, G168⟩ := id V_b156
            have hin168 : ¬ ((5 : Int32) < 0 ∨ cl168.slots.size ≤ ((5 : Int32)).toNatClampNeg) := inb_of S168 ⟨(by decide), (by decide)⟩
            obtain ⟨T168, h168, X168, e168, W168, st168⟩ := stC X166 hx hZ e166 Ar168 (j := (5 : Int32)) hin168 (g := (mkF m 466 #[iv x0, jv x1, .second, iv x2, iv x3, iv (w0_10 x0 x1 x2 x3), rv b1, iv (w0_21 x0 x1 x2 x3), iv (w0_254 x0 x1 x2 x3), .unset, .unset, .unset, .unset, .unset] [(.int (j0_248_e5 x0 x1 x2 x3)), (.int (5 : Int32)), (.ref b156), (.ref b156), (.ref b155), (.ref b155)])) rfl rfl (hb hby at_466)
            have E_b1 := E_b1.wr W168
            have V_b1 := V_b1.other W168 ne_b1_b156
            have E_b155 := E_b155.wr W168
            have F_coder_b155 := F_coder_b155.other W168 (Or.inl ne_b155_b156)
            have F_value_b155 := F_value_b155.other W168 (Or.inl ne_b155_b156)
            have E_b156 := E_b156.wr W168
            have Zn168 : n0 ≤ h168.size := Nat.le_trans Zn166 (Keep.of_wr W168).1
            have Od168 := Od166.wr W168 g_b156
            have hk168e := Nat.le_trans hk166e (Keep.of_wr W168).1
            have N168 := Fr.snoc X168 N166 g_b156
            have V_b156 : Arv Z h168 b156 k156 .char (9 : Int32) [(.int (w0_358 x0 x1 x2 x3)), (.int (w0_365 x0 x1 x2 x3)), (.int (w0_372 x0 x1 x2 x3)), (.int (w0_379 x0 x1 x2 x3)), (.int (w0_386 x0 x1 x2 x3)), (.int (w0_393 x0 x1 x2 x3)), (.int (0 : Int32)), (.int (0 : Int32)), (.int (0 : Int32))] (.int (0 : Int32)) := Arv.set Ar168 q168 S168 M168 Hs168 G168 (fits_nar_char _) W168 5 rfl (Nat.le_of_ble_eq_true rfl)
            refine GoesW.st (B := T168.setTop (mkF m 467 #[iv x0, jv x1, .second, iv x2, iv x3, iv (w0_10 x0 x1 x2 x3), rv b1, iv (w0_21 x0 x1 x2 x3), iv (w0_254 x0 x1 x2 x3), .unset, .unset, .unset, .unset, .unset] [(.ref b156), (.ref b155), (.ref b155)])) st168 ?_
            refine GoesW.run X168 hx hown hci hcl hby (L := [(467, .dup, 1), (468, .bipush 6, 2), (470, .aload 6, 2), (472, .bipush 6, 2)]) (by decide +kernel) rfl (g' := (mkF m 474 #[iv x0, jv x1, .second, iv x2, iv x3, iv (w0_10 x0 x1 x2 x3), rv b1, iv (w0_21 x0 x1 x2 x3), iv (w0_254 x0 x1 x2 x3), .unset, .unset, .unset, .unset, .unset] [(.int (6 : Int32)), (.ref b1), (.int (6 : Int32)), (.ref b156), (.ref b156), (.ref b155), (.ref b155)])) rfl ?_
            obtain ⟨cl169, Ar169, q169, S169, M169, Hs169, G169⟩ := id V_b1
            have hin169 : ¬ ((6 : Int32) < 0 ∨ cl169.slots.size ≤ ((6 : Int32)).toNatClampNeg) := inb_of S169 ⟨(by decide), (by decide)⟩
            have hat169 : cl169.slots[((6 : Int32)).toNatClampNeg]? = some (.int (j0_248_e6 x0 x1 x2 x3)) := Hs169.at hin169 rfl
            refine GoesW.st (B := T168.setTop (mkF m 475 #[iv x0, jv x1, .second, iv x2, iv x3, iv (w0_10 x0 x1 x2 x3), rv b1, iv (w0_21 x0 x1 x2 x3), iv (w0_254 x0 x1 x2 x3), .unset, .unset, .unset, .unset, .unset] [(.int (j0_248_e6 x0 x1 x2 x3)), (.int (6 : Int32)), (.ref b156), (.ref b156), (.ref b155), (.ref b155)])) (X168.caload hx (j := (6 : Int32)) (v := (.int (j0_248_e6 x0 x1 x2 x3))) (by rw [e168]; exact Ar169.1) (State.isArrayOf_alike hZ.alike Ar169.2.1) Ar169.2.2 hin169 hat169 (g := (mkF m 474 #[iv x0, jv x1, .second, iv x2, iv x3, iv (w0_10 x0 x1 x2 x3), rv b1, iv (w0_21 x0 x1 x2 x3), iv (w0_254 x0 x1 x2 x3), .unset, .unset, .unset, .unset, .unset] [(.int (6 : Int32)), (.ref b1), (.int (6 : Int32)), (.ref b156), (.ref b156), (.ref b155), (.ref b155)])) rfl rfl (hb hby at_474)) ?_
            obtain ⟨cl170, Ar170, q170, S170, M170, Hs170, G170⟩ := id V_b156
            have hin170 : ¬ ((6 : Int32) < 0 ∨ cl170.slots.size ≤ ((6 : Int32)).toNatClampNeg) := inb_of S170 ⟨(by decide), (by decide)⟩
            obtain ⟨T170, h170, X170, e170, W170, st170⟩ := stC X168 hx hZ e168 Ar170 (j := (6 : Int32)) hin170 (g := (mkF m 475 #[iv x0, jv x1, .second, iv x2, iv x3, iv (w0_10 x0 x1 x2 x3), rv b1, iv (w0_21 x0 x1 x2 x3), iv (w0_254 x0 x1 x2 x3), .unset, .unset, .unset, .unset, .unset] [(.int (j0_248_e6 x0 x1 x2 x3)), (.int (6 : Int32)), (.ref b156), (.ref b156), (.ref b155), (.ref b155)])) rfl rfl (hb hby at_475)
            have E_b1 := E_b1.wr W170
            have V_b1 := V_b1.other W170 ne_b1_b156
            have E_b155 := E_b155.wr W170
            have F_coder_b155 := F_coder_b155.other W170 (Or.inl ne_b155_b156)
            have F_value_b155 := F_value_b155.other W170 (Or.inl ne_b155_b156)
            have E_b156 := E_b156.wr W170
            have Zn170 : n0 ≤ h170.size := Nat.le_trans Zn168 (Keep.of_wr W170).1
            have Od170 := Od168.wr W170 g_b156
            have hk170e := Nat.le_trans hk168e (Keep.of_wr W170).1
            have N170 := Fr.snoc X170 N168 g_b156
            have V_b156 : Arv Z h170 b156 k156 .char (9 : Int32) [(.int (w0_358 x0 x1 x2 x3)), (.int (w0_365 x0 x1 x2 x3)), (.int (w0_372 x0 x1 x2 x3)), (.int (w0_379 x0 x1 x2 x3)), (.int (w0_386 x0 x1 x2 x3)), (.int (w0_393 x0 x1 x2 x3)), (.int (w0_402 x0 x1 x2 x3)), (.int (0 : Int32)), (.int (0 : Int32))] (.int (0 : Int32)) := Arv.set Ar170 q170 S170 M170 Hs170 G170 (fits_nar_char _) W170 6 rfl (Nat.le_of_ble_eq_true rfl)
            refine GoesW.st (B := T170.setTop (mkF m 476 #[iv x0, jv x1, .second, iv x2, iv x3, iv (w0_10 x0 x1 x2 x3), rv b1, iv (w0_21 x0 x1 x2 x3), iv (w0_254 x0 x1 x2 x3), .unset, .unset, .unset, .unset, .unset] [(.ref b156), (.ref b155), (.ref b155)])) st170 ?_
            refine GoesW.run X170 hx hown hci hcl hby (L := [(476, .dup, 1), (477, .bipush 7, 2), (479, .aload 6, 2), (481, .bipush 7, 2)]) (by decide +kernel) rfl (g' := (mkF m 483 #[iv x0, jv x1, .second, iv x2, iv x3, iv (w0_10 x0 x1 x2 x3), rv b1, iv (w0_21 x0 x1 x2 x3), iv (w0_254 x0 x1 x2 x3), .unset, .unset, .unset, .unset, .unset] [(.int (7 : Int32)), (.ref b1), (.int (7 : Int32)), (.ref b156), (.ref b156), (.ref b155), (.ref b155)])) rfl ?_
            obtain ⟨cl171, Ar171, q171, S171, M171, Hs171, G171⟩ := id V_b1
            have hin171 : ¬ ((7 : Int32) < 0 ∨ cl171.slots.size ≤ ((7 : Int32)).toNatClampNeg) := inb_of S171 ⟨(by decide), (by decide)⟩
            have hat171 : cl171.slots[((7 : Int32)).toNatClampNeg]? = some (.int (j0_248_e7 x0 x1 x2 x3)) := Hs171.at hin171 rfl
            refine GoesW.st (B := T170.setTop (mkF m 484 #[iv x0, jv x1, .second, iv x2, iv x3, iv (w0_10 x0 x1 x2 x3), rv b1, iv (w0_21 x0 x1 x2 x3), iv (w0_254 x0 x1 x2 x3), .unset, .unset, .unset, .unset, .unset] [(.int (j0_248_e7 x0 x1 x2 x3)), (.int (7 : Int32)), (.ref b156), (.ref b156), (.ref b155), (.ref b155)])) (X170.caload hx (j := (7 : Int32)) (v := (.int (j0_248_e7 x0 x1 x2 x3))) (by rw [e170]; exact Ar171.1) (State.isArrayOf_alike hZ.alike Ar171.2.1) Ar171.2.2 hin171 hat171 (g := (mkF m 483 #[iv x0, jv x1, .second, iv x2, iv x3, iv (w0_10 x0 x1 x2 x3), rv b1, iv (w0_21 x0 x1 x2 x3), iv (w0_254 x0 x1 x2 x3), .unset, .unset, .unset, .unset, .unset] [(.int (7 : Int32)), (.ref b1), (.int (7 : Int32)), (.ref b156), (.ref b156), (.ref b155), (.ref b155)])) rfl rfl (hb hby at_483)) ?_
            obtain ⟨cl172, Ar172, q172, S172, M172, Hs172, G172⟩ := id V_b156
            have hin172 : ¬ ((7 : Int32) < 0 ∨ cl172.slots.size ≤ ((7 : Int32)).toNatClampNeg) := inb_of S172 ⟨(by decide), (by decide)⟩
            obtain ⟨T172, h172, X172, e172, W172, st172⟩ := stC X170 hx hZ e170 Ar172 (j := (7 : Int32)) hin172 (g := (mkF m 484 #[iv x0, jv x1, .second, iv x2, iv x3, iv (w0_10 x0 x1 x2 x3), rv b1, iv (w0_21 x0 x1 x2 x3), iv (w0_254 x0 x1 x2 x3), .unset, .unset, .unset, .unset, .unset] [(.int (j0_248_e7 x0 x1 x2 x3)), (.int (7 : Int32)), (.ref b156), (.ref b156), (.ref b155), (.ref b155)])) rfl rfl (hb hby at_484)
            have E_b1 := E_b1.wr W172
            have V_b1 := V_b1.other W172 ne_b1_b156
            have E_b155 := E_b155.wr W172
            have F_coder_b155 := F_coder_b155.other W172 (Or.inl ne_b155_b156)
            have F_value_b155 := F_value_b155.other W172 (Or.inl ne_b155_b156)
            have E_b156 := E_b156.wr W172
            have Zn172 : n0 ≤ h172.size := Nat.le_trans Zn170 (Keep.of_wr W172).1
            have Od172 := Od170.wr W172 g_b156
            have hk172e := Nat.le_trans hk170e (Keep.of_wr W172).1
            have N172 := Fr.snoc X172 N170 g_b156
            have V_b156 : Arv Z h172 b156 k156 .char (9 : Int32) [(.int (w0_358 x0 x1 x2 x3)), (.int (w0_365 x0 x1 x2 x3)), (.int (w0_372 x0 x1 x2 x3)), (.int (w0_379 x0 x1 x2 x3)), (.int (w0_386 x0 x1 x2 x3)), (.int (w0_393 x0 x1 x2 x3)), (.int (w0_402 x0 x1 x2 x3)), (.int (w0_484 x0 x1 x2 x3)), (.int (0 : Int32))] (.int (0 : Int32)) := Arv.set Ar172 q172 S172 M172 Hs172 G172 (fits_nar_char _) W172 7 rfl (Nat.le_of_ble_eq_true rfl)
            refine GoesW.st (B := T172.setTop (mkF m 485 #[iv x0, jv x1, .second, iv x2, iv x3, iv (w0_10 x0 x1 x2 x3), rv b1, iv (w0_21 x0 x1 x2 x3), iv (w0_254 x0 x1 x2 x3), .unset, .unset, .unset, .unset, .unset] [(.ref b156), (.ref b155), (.ref b155)])) st172 ?_
            refine GoesW.run X172 hx hown hci hcl hby (L := [(485, .dup, 1), (486, .bipush 8, 2), (488, .aload 6, 2), (490, .bipush 8, 2)]) (by decide +kernel) rfl (g' := (mkF m 492 #[iv x0, jv x1, .second, iv x2, iv x3, iv (w0_10 x0 x1 x2 x3), rv b1, iv (w0_21 x0 x1 x2 x3), iv (w0_254 x0 x1 x2 x3), .unset, .unset, .unset, .unset, .unset] [(.int (8 : Int32)), (.ref b1), (.int (8 : Int32)), (.ref b156), (.ref b156), (.ref b155), (.ref b155)])) rfl ?_
            obtain ⟨cl173, Ar173, q173, S173, M173, Hs173, G173⟩ := id V_b1
            have hin173 : ¬ ((8 : Int32) < 0 ∨ cl173.slots.size ≤ ((8 : Int32)).toNatClampNeg) := inb_of S173 ⟨(by decide), (by decide)⟩
            have hat173 : cl173.slots[((8 : Int32)).toNatClampNeg]? = some (.int (j0_248_e8 x0 x1 x2 x3)) := Hs173.at hin173 rfl
            refine GoesW.st (B := T172.setTop (mkF m 493 #[iv x0, jv x1, .second, iv x2, iv x3, iv (w0_10 x0 x1 x2 x3), rv b1, iv (w0_21 x0 x1 x2 x3), iv (w0_254 x0 x1 x2 x3), .unset, .unset, .unset, .unset, .unset] [(.int (j0_248_e8 x0 x1 x2 x3)), (.int (8 : Int32)), (.ref b156), (.ref b156), (.ref b155), (.ref b155)])) (X172.caload hx (j := (8 : Int32)) (v := (.int (j0_248_e8 x0 x1 x2 x3))) (by rw [e172]; exact Ar173.1) (State.isArrayOf_alike hZ.alike Ar173.2.1) Ar173.2.2 hin173 hat173 (g := (mkF m 492 #[iv x0, jv x1, .second, iv x2, iv x3, iv (w0_10 x0 x1 x2 x3), rv b1, iv (w0_21 x0 x1 x2 x3), iv (w0_254 x0 x1 x2 x3), .unset, .unset, .unset, .unset, .unset] [(.int (8 : Int32)), (.ref b1), (.int (8 : Int32)), (.ref b156), (.ref b156), (.ref b155), (.ref b155)])) rfl rfl (hb hby at_492)) ?_
            obtain ⟨cl174, Ar174, q174, S174, M174, Hs174, G174⟩ := id V_b156
            have hin174 : ¬ ((8 : Int32) < 0 ∨ cl174.slots.size ≤ ((8 : Int32)).toNatClampNeg) := inb_of S174 ⟨(by decide), (by decide)⟩
            obtain ⟨T174, h174, X174, e174, W174, st174⟩ := stC X172 hx hZ e172 Ar174 (j := (8 : Int32)) hin174 (g := (mkF m 493 #[iv x0, jv x1, .second, iv x2, iv x3, iv (w0_10 x0 x1 x2 x3), rv b1, iv (w0_21 x0 x1 x2 x3), iv (w0_254 x0 x1 x2 x3), .unset, .unset, .unset, .unset, .unset] [(.int (j0_248_e8 x0 x1 x2 x3)), (.int (8 : Int32)), (.ref b156), (.ref b156), (.ref b155), (.ref b155)])) rfl rfl (hb hby at_493)
            have E_b1 := E_b1.wr W174
            have V_b1 := V_b1.other W174 ne_b1_b156
            have E_b155 := E_b155.wr W174
            have F_coder_b155 := F_coder_b155.other W174 (Or.inl ne_b155_b156)
            have F_value_b155 := F_value_b155.other W174 (Or.inl ne_b155_b156)
            have E_b156 := E_b156.wr W174
            have Zn174 : n0 ≤ h174.size := Nat.le_trans Zn172 (Keep.of_wr W174).1
            have Od174 := Od172.wr W174 g_b156
            have hk174e := Nat.le_trans hk172e (Keep.of_wr W174).1
            have N174 := Fr.snoc X174 N172 g_b156
            have V_b156 : Arv Z h174 b156 k156 .char (9 : Int32) [(.int (w0_358 x0 x1 x2 x3)), (.int (w0_365 x0 x1 x2 x3)), (.int (w0_372 x0 x1 x2 x3)), (.int (w0_379 x0 x1 x2 x3)), (.int (w0_386 x0 x1 x2 x3)), (.int (w0_393 x0 x1 x2 x3)), (.int (w0_402 x0 x1 x2 x3)), (.int (w0_484 x0 x1 x2 x3)), (.int (w0_493 x0 x1 x2 x3))] (.int (0 : Int32)) := Arv.set Ar174 q174 S174 M174 Hs174 G174 (fits_nar_char _) W174 8 rfl (Nat.le_of_ble_eq_true rfl)
            refine GoesW.st (B := T174.setTop (mkF m 494 #[iv x0, jv x1, .second, iv x2, iv x3, iv (w0_10 x0 x1 x2 x3), rv b1, iv (w0_21 x0 x1 x2 x3), iv (w0_254 x0 x1 x2 x3), .unset, .unset, .unset, .unset, .unset] [(.ref b156), (.ref b155), (.ref b155)])) st174 ?_
            have hp_b155 : ∀ c ∈ (cs0_494 x0 x1 x2 x3), ¬ c < 0 ∧ ¬ (255 : Int32) < c := (own_hp9 x0 x1 x2 x3)
            obtain ⟨_, _, ⟨T175, L175, k175, n175⟩, -, X175, ⟨Lc175, hQ175, l175, y175, z175⟩, st175⟩ := X174.specialBack hx (y := ym13) rfl hown (mvT hZ w_4) (mvT hZ w_5) (mvT hZ w_6) (by decide) (StrChars.Road.backV (W := 1) hZ (own_hws hw) (kI := 4) w_2 (cs := (cs0_494 x0 x1 x2 x3)) (bs := ((cs0_494 x0 x1 x2 x3).map (fun c => c.toInt8.toInt32))) (n := 9) g_b155 Zn174 E_b155 F_value_b155 F_coder_b155 V_b156 (O2.ext Od174.2) P5 rfl rfl (by decide) (by decide) hp_b155 rfl (by decide) (by decide)) (g := (mkF m 494 #[iv x0, jv x1, .second, iv x2, iv x3, iv (w0_10 x0 x1 x2 x3), rv b1, iv (w0_21 x0 x1 x2 x3), iv (w0_254 x0 x1 x2 x3), .unset, .unset, .unset, .unset, .unset] [(.ref b156), (.ref b155), (.ref b155)])) rfl (by rw [hml]; rfl) (Steps.refl _) (a := b155) (argsL := [(.ref b156)]) (rest := [(.ref b155)]) (lenOf pd0_1 rfl) rfl (by show 2 * 0 + _ ≤ _; exact Nat.le_of_eq rfl) (hb hby at_494) (fun _ _ => ⟨rfl, e174, (by decide : 3 + 1 ≤ _), (by decide : 22 + 9 ≤ _)⟩)
            dsimp only [Pt.U, Pt.locs, Pt.cells, Pt.slots] at X175 l175 y175 z175 st175 hQ175
            subst l175 y175 z175
            obtain ⟨h175, eh175⟩ : ∃ z, z = T175.heap := ⟨_, rfl⟩
            rw [← eh175] at hQ175
            have e175 : T175.heap = h175 := eh175.symm
            obtain ⟨rfl, N175q, Kq175, o175_e, o175_c, t175, kb175, u175, szr175, nw175, o175_v, o175_a⟩ := hQ175
            have ne_b1_t175 : b1 ≠ t175 := Nat.ne_of_lt (Nat.lt_of_lt_of_le E_b1.lt szr175)
            have ne_b155_t175 : b155 ≠ t175 := Nat.ne_of_lt (Nat.lt_of_lt_of_le E_b155.lt szr175)
            have ne_b156_t175 : b156 ≠ t175 := Nat.ne_of_lt (Nat.lt_of_lt_of_le E_b156.lt szr175)
            have g_t175 : n0 ≤ t175 := Nat.le_trans Zn174 szr175
            have N175 := Fr.app N174 N175q
            have E_b1 := E_b1.keep Kq175
            have V_b1 := V_b1.keep Kq175 (ninS ne_b1_b155 nin0)
            have E_b155 := E_b155.keep Kq175
            have E_b156 := E_b156.keep Kq175
            have V_b156 := V_b156.keep Kq175 (ninS (Ne.symm ne_b155_b156) nin0)
            have Zn175 : n0 ≤ h175.size := Nat.le_trans Zn174 Kq175.1
            have hk175e := Nat.le_trans hk174e Kq175.1
            have Od175 := Od174.keep Kq175 (allS g_b155 all0)
            have F_coder_b155 : Fld Z h175 b155 "java/lang/String" "coder" "B" (.int (0 : Int32)) := o175_c
            have F_value_b155 : Fld Z h175 b155 "java/lang/String" "value" "[B" (.ref t175) := o175_v
            have V_t175 : Arv Z h175 t175 kb175 .byte (9 : Int32) (((cs0_494 x0 x1 x2 x3).map (fun c => c.toInt8.toInt32)).map Value.int) (.int (0 : Int32)) := o175_a
            refine GoesW.st (B := T175.setTop (mkF m 497 #[iv x0, jv x1, .second, iv x2, iv x3, iv (w0_10 x0 x1 x2 x3), rv b1, iv (w0_21 x0 x1 x2 x3), iv (w0_254 x0 x1 x2 x3), .unset, .unset, .unset, .unset, .unset] [(.ref b155)])) (fun t k => st175.trans k) ?_
            refine GoesW.run X175 hx hown hci hcl hby (L := [(497, .astore 9, 2), (499, .goto 26, 3)]) (by decide +kernel) rfl (g' := (mkF m 525 #[iv x0, jv x1, .second, iv x2, iv x3, iv (w0_10 x0 x1 x2 x3), rv b1, iv (w0_21 x0 x1 x2 x3), iv (w0_254 x0 x1 x2 x3), rv b155, .unset, .unset, .unset, .unset] [])) rfl ?_
            have q := jn525_111
            rw [show (j0_525_cs x0 x1 x2 x3) = (cs0_494 x0 x1 x2 x3) from (((if_pos hc259_43).trans (if_neg hc341_136)).trans (if_pos hc414_154))] at q
            exact q _ _ _ _ X175 e175 N175 Zn175 _ Sn41 hk175e hZ hown (own_IBm IB41 (by decide)) Od175 b155 t175 kb175 E_b1 V_b1 E_b155 F_coder_b155 F_value_b155 V_t175 (own_hp9 x0 x1 x2 x3)
          · skip
            refine GoesW.st (B := T41.setTop (mkF m 502 #[iv x0, jv x1, .second, iv x2, iv x3, iv (w0_10 x0 x1 x2 x3), rv b1, iv (w0_21 x0 x1 x2 x3), iv (w0_254 x0 x1 x2 x3), .unset, .unset, .unset, .unset, .unset] [])) (fun t k => ?_) ?_
            · refine XS.icmpYes X41.here hx rfl (pc0 := 414) (pc' := 502) rfl (hb hby at_414) rfl (feq hc414_154).2 (by decide) (by decide) ?_
              exact k
            refine GoesW.run X41 hx hown hci hcl hby (L := [(502, .iload 8, 2), (504, .bipush 6, 2)]) (by decide +kernel) rfl (g' := (mkF m 506 #[iv x0, jv x1, .second, iv x2, iv x3, iv (w0_10 x0 x1 x2 x3), rv b1, iv (w0_21 x0 x1 x2 x3), iv (w0_254 x0 x1 x2 x3), .unset, .unset, .unset, .unset, .unset] [(.int (6 : Int32)), (.int (w0_254 x0 x1 x2 x3))])) rfl ?_
            by_cases hc506_176 : (w0_254 x0 x1 x2 x3) = (6 : Int32)
            · skip
              refine GoesW.st (B := T41.setTop (mkF m 509 #[iv x0, jv x1, .second, iv x2, iv x3, iv (w0_10 x0 x1 x2 x3), rv b1, iv (w0_21 x0 x1 x2 x3), iv (w0_254 x0 x1 x2 x3), .unset, .unset, .unset, .unset, .unset] [])) (fun t k => ?_) ?_
              · refine XS.icmpNo X41.here hx rfl (hb hby at_506) rfl (teq hc506_176).2 ?_
                exact k
              obtain ⟨sa177, T177, h177, kk177, sb177, kb177, X177, e177, E177, Sn177, hk177, hZ, hown, A177, C177, D177, V177, -, -, IB177, -, wh177, st177⟩ := ldcSVd X41 hx hZ hown w_115 (own_wS hw) e41 Sn41 hk41 (hn0 ▸ N41) hkeep IB41 (by decide) (hCH ("com/example/mahnwerk/mahnwerk/model/DebtorKindOfPinLaw", 21) (by decide)) hcw (vs := ((([] : List Int32).map (fun c => c.toInt8.toInt32)).map Value.int)) (z := (0 : Int32)) ⟨by decide, by decide⟩ (by decide) (by decide) (g := (mkF m 509 #[iv x0, jv x1, .second, iv x2, iv x3, iv (w0_10 x0 x1 x2 x3), rv b1, iv (w0_21 x0 x1 x2 x3), iv (w0_254 x0 x1 x2 x3), .unset, .unset, .unset, .unset, .unset] [])) rfl (hb hby at_509) (n := 0) (by decide) (by decide) (by decide) (by decide)
              have E_b1 := E_b1.ext E177
              have V_b1 := V_b1.ext E177
              have Zn177 : n0 ≤ h177.size := Nat.le_trans Zn41 E177.1
              have Od177 := Od41.ext E177
              have hk177e := Nat.le_trans hk41 E177.1
              have hci : ∀ i v, (i, v) ∈ ([(15, 2147483647)] : List (Nat × Int32)) → (Jvm.Cond.constant "com/example/mahnwerk/mahnwerk/model/DebtorKindOfPinLaw" i v).before #[(.int x0), (.long x1), (.int x2), (.int x3)] (s.setVm T177.vm) = true := (own_ciS (mvT hZ w_102) own_ci0)
              have hcl : ∀ i v, (i, v) ∈ ([(7, 255)] : List (Nat × Int64)) → (Jvm.Cond.constantLong "com/example/mahnwerk/mahnwerk/model/DebtorKindOfPinLaw" i v).before #[(.int x0), (.long x1), (.int x2), (.int x3)] (s.setVm T177.vm) = true := (own_ciS (mvT hZ w_97) own_ci0)
              have E_sa177 : Exa Z h177 sa177 "java/lang/String" := A177
              have F_coder_sa177 : Fld Z h177 sa177 "java/lang/String" "coder" "B" (.int (0 : Int32)) := C177
              have F_value_sa177 : Fld Z h177 sa177 "java/lang/String" "value" "[B" (.ref sb177) := D177
              have V_sb177 : Arv Z h177 sb177 kb177 .byte (0 : Int32) ((([] : List Int32).map (fun c => c.toInt8.toInt32)).map Value.int) (.int (0 : Int32)) := V177
              refine GoesW.st (B := T177.setTop (mkF m 511 #[iv x0, jv x1, .second, iv x2, iv x3, iv (w0_10 x0 x1 x2 x3), rv b1, iv (w0_21 x0 x1 x2 x3), iv (w0_254 x0 x1 x2 x3), .unset, .unset, .unset, .unset, .unset] [(.ref sa177)])) st177 ?_
              refine GoesW.run X177 hx hown hci hcl hby (L := [(511, .astore 9, 2), (513, .goto 12, 3)]) (by decide +kernel) rfl (g' := (mkF m 525 #[iv x0, jv x1, .second, iv x2, iv x3, iv (w0_10 x0 x1 x2 x3), rv b1, iv (w0_21 x0 x1 x2 x3), iv (w0_254 x0 x1 x2 x3), rv sa177, .unset, .unset, .unset, .unset] [])) rfl ?_
              have q := jn525_111
              rw [show (j0_525_cs x0 x1 x2 x3) = ([] : List Int32) from ((((if_pos hc259_43).trans (if_neg hc341_136)).trans (if_neg hc414_154)).trans (if_pos hc506_176))] at q
              exact q _ _ _ _ (X177.more (by decide) (by decide)) e177 N41 Zn177 _ Sn177 hk177 hZ hown (own_IBm IB177 (by decide)) Od177 sa177 sb177 kb177 E_b1 V_b1 E_sa177 F_coder_sa177 F_value_sa177 V_sb177 (by decide : ∀ c ∈ ([] : List Int32), ¬ c < 0 ∧ ¬ (255 : Int32) < c)
            · skip
              refine GoesW.st (B := T41.setTop (mkF m 516 #[iv x0, jv x1, .second, iv x2, iv x3, iv (w0_10 x0 x1 x2 x3), rv b1, iv (w0_21 x0 x1 x2 x3), iv (w0_254 x0 x1 x2 x3), .unset, .unset, .unset, .unset, .unset] [])) (fun t k => ?_) ?_
              · refine XS.icmpYes X41.here hx rfl (pc0 := 506) (pc' := 516) rfl (hb hby at_506) rfl (feq hc506_176).2 (by decide) (by decide) ?_
                exact k
              refine GoesW.run X41 hx hown hci hcl hby (L := [(516, .aload 6, 2), (518, .iconst 0, 1)]) (by decide +kernel) rfl (g' := (mkF m 519 #[iv x0, jv x1, .second, iv x2, iv x3, iv (w0_10 x0 x1 x2 x3), rv b1, iv (w0_21 x0 x1 x2 x3), iv (w0_254 x0 x1 x2 x3), .unset, .unset, .unset, .unset, .unset] [(.int (0 : Int32)), (.ref b1)])) rfl ?_
              obtain ⟨cl178, Ar178, q178, S178, M178, Hs178, G178⟩ := id V_b1
              have hin178 : ¬ ((0 : Int32) < 0 ∨ cl178.slots.size ≤ ((0 : Int32)).toNatClampNeg) := inb_of S178 ⟨(by decide), (by decide)⟩
              have hat178 : cl178.slots[((0 : Int32)).toNatClampNeg]? = some (.int (j0_248_e0 x0 x1 x2 x3)) := Hs178.at hin178 rfl
              refine GoesW.st (B := T41.setTop (mkF m 520 #[iv x0, jv x1, .second, iv x2, iv x3, iv (w0_10 x0 x1 x2 x3), rv b1, iv (w0_21 x0 x1 x2 x3), iv (w0_254 x0 x1 x2 x3), .unset, .unset, .unset, .unset, .unset] [(.int (j0_248_e0 x0 x1 x2 x3))])) (X41.caload hx (j := (0 : Int32)) (v := (.int (j0_248_e0 x0 x1 x2 x3))) (by rw [e41]; exact Ar178.1) (State.isArrayOf_alike hZ.alike Ar178.2.1) Ar178.2.2 hin178 hat178 (g := (mkF m 519 #[iv x0, jv x1, .second, iv x2, iv x3, iv (w0_10 x0 x1 x2 x3), rv b1, iv (w0_21 x0 x1 x2 x3), iv (w0_254 x0 x1 x2 x3), .unset, .unset, .unset, .unset, .unset] [(.int (0 : Int32)), (.ref b1)])) rfl rfl (hb hby at_519)) ?_
              have hpV := own_hpv x0 x1 x2 x3
              obtain ⟨_, _, ⟨T179, L179, k179, n179⟩, -, X179, ⟨Lc179, hQ179, l179, y179, z179⟩, st179⟩ := Jvm.LawKit.callS X41 hx (y := ym4) hown (mvT hZ w_103) (mvT hZ w_104) (mvT hZ w_3) (mvT hZ w_105) (by decide) (backOf (W := 0) (rm5 l Z a0 hw [] (j0_248_e0 x0 x1 x2 x3) G1 G3 h41 n0 Zn41 Od41 O2 O4 P5 rG3 (own_b0 x0 x1 x2 x3)) hZ w_105 w_3 (by decide) (by decide)) (g := (mkF m 520 #[iv x0, jv x1, .second, iv x2, iv x3, iv (w0_10 x0 x1 x2 x3), rv b1, iv (w0_21 x0 x1 x2 x3), iv (w0_254 x0 x1 x2 x3), .unset, .unset, .unset, .unset, .unset] [(.int (j0_248_e0 x0 x1 x2 x3))])) rfl (by rw [hml]; rfl) (argsL := [(.int (j0_248_e0 x0 x1 x2 x3))]) (rest := []) (lenOf pd0_2 rfl) rfl (by show 2 * 0 + _ ≤ _; exact Nat.le_of_eq rfl) (hb hby at_520) (fun _ _ => ⟨rfl, e41, (by decide : 1 + 2 ≤ _), (by decide : 9 + 5 ≤ _)⟩)
              dsimp only [Pt.U, Pt.locs, Pt.cells, Pt.slots] at X179 l179 y179 z179 st179 hQ179
              subst l179 y179 z179
              obtain ⟨h179, eh179⟩ : ∃ z, z = T179.heap := ⟨_, rfl⟩
              rw [← eh179] at hQ179
              have e179 : T179.heap = h179 := eh179.symm
              obtain ⟨b179, t179, kc179, rfl, N179q, Kq179, szq179, szr179, nebt179, o179_0, o179_1, o179_2, o179_3⟩ := hQ179
              have ne_b1_b179 : b1 ≠ b179 := Nat.ne_of_lt (Nat.lt_of_lt_of_le E_b1.lt szq179)
              have g_b179 : n0 ≤ b179 := Nat.le_trans Zn41 szq179
              have ne_b1_t179 : b1 ≠ t179 := Nat.ne_of_lt (Nat.lt_of_lt_of_le E_b1.lt szr179)
              have g_t179 : n0 ≤ t179 := Nat.le_trans Zn41 szr179
              have N179 := Fr.app N41 N179q
              have E_b1 := E_b1.keep Kq179
              have V_b1 := V_b1.keep Kq179 nin0
              have Zn179 : n0 ≤ h179.size := Nat.le_trans Zn41 Kq179.1
              have hk179e := Nat.le_trans hk41 Kq179.1
              have Od179 := Od41.keep Kq179 all0
              have E_b179 : Exa Z h179 b179 "java/lang/String" := o179_0
              have F_coder_b179 : Fld Z h179 b179 "java/lang/String" "coder" "B" (.int (0 : Int32)) := o179_1
              have F_value_b179 : Fld Z h179 b179 "java/lang/String" "value" "[B" (.ref t179) := o179_2
              have V_t179 : Arv Z h179 t179 kc179 .byte (1 : Int32) ((([(j0_248_e0 x0 x1 x2 x3)] : List Int32).map (fun c => c.toInt8.toInt32)).map Value.int) (.int (0 : Int32)) := o179_3
              refine GoesW.st (B := T179.setTop (mkF m 523 #[iv x0, jv x1, .second, iv x2, iv x3, iv (w0_10 x0 x1 x2 x3), rv b1, iv (w0_21 x0 x1 x2 x3), iv (w0_254 x0 x1 x2 x3), .unset, .unset, .unset, .unset, .unset] [(.ref b179)])) st179 ?_
              refine GoesW.run X179 hx hown hci hcl hby (L := [(523, .astore 9, 2)]) (by decide +kernel) rfl (g' := (mkF m 525 #[iv x0, jv x1, .second, iv x2, iv x3, iv (w0_10 x0 x1 x2 x3), rv b1, iv (w0_21 x0 x1 x2 x3), iv (w0_254 x0 x1 x2 x3), rv b179, .unset, .unset, .unset, .unset] [])) rfl ?_
              have q := jn525_111
              rw [show (j0_525_cs x0 x1 x2 x3) = ([(j0_248_e0 x0 x1 x2 x3)] : List Int32) from ((((if_pos hc259_43).trans (if_neg hc341_136)).trans (if_neg hc414_154)).trans (if_neg hc506_176))] at q
              exact q _ _ _ _ (X179.more (by decide) (by decide)) e179 N179 Zn179 _ Sn41 hk179e hZ hown (own_IBm IB41 (by decide)) Od179 b179 t179 kc179 E_b1 V_b1 E_b179 F_coder_b179 F_value_b179 V_t179 hpV
      · skip
        refine GoesW.st (B := T41.setTop (mkF m 262 #[iv x0, jv x1, .second, iv x2, iv x3, iv (w0_10 x0 x1 x2 x3), rv b1, iv (w0_21 x0 x1 x2 x3), iv (w0_254 x0 x1 x2 x3), .unset, .unset, .unset, .unset, .unset] [])) (fun t k => ?_) ?_
        · refine XS.icmpNo X41.here hx rfl (hb hby at_259) rfl (flt hc259_43).2.2.1 ?_
          exact k
        obtain ⟨T180, h180, X180, e180, E180, A180, D180, -, st180⟩ := newO X41 hx hZ hown w_1 w_2 w_3 e41 (g := (mkF m 262 #[iv x0, jv x1, .second, iv x2, iv x3, iv (w0_10 x0 x1 x2 x3), rv b1, iv (w0_21 x0 x1 x2 x3), iv (w0_254 x0 x1 x2 x3), .unset, .unset, .unset, .unset, .unset] [])) rfl (hb hby at_262) (by decide) (by decide)
        obtain ⟨b180, g180⟩ : ∃ z, z = h41.size := ⟨_, rfl⟩
        rw [← g180] at A180 D180 st180
        have ne_b1_b180 : b1 ≠ b180 := Nat.ne_of_lt (Nat.lt_of_lt_of_le E_b1.lt (Nat.le_of_eq g180.symm))
        have g_b180 : n0 ≤ b180 := Nat.le_trans Zn41 (Nat.le_of_eq g180.symm)
        have E_b1 := E_b1.ext E180
        have V_b1 := V_b1.ext E180
        have Zn180 : n0 ≤ h180.size := Nat.le_trans Zn41 E180.1
        have Od180 := Od41.ext E180
        have hk180e := Nat.le_trans hk41 E180.1
        have E_b180 : Exa Z h180 b180 "java/lang/String" := A180
        have F_coder_b180 : Fld Z h180 b180 "java/lang/String" "coder" "B" (.int (0 : Int32)) := D180 (Or.inr w_27) (ty := .byte) (by decide)
        have F_value_b180 : Fld Z h180 b180 "java/lang/String" "value" "[B" .null := D180 (Or.inr w_29) (ty := (.array .byte)) (by decide)
        refine GoesW.st (B := T180.setTop (mkF m 265 #[iv x0, jv x1, .second, iv x2, iv x3, iv (w0_10 x0 x1 x2 x3), rv b1, iv (w0_21 x0 x1 x2 x3), iv (w0_254 x0 x1 x2 x3), .unset, .unset, .unset, .unset, .unset] [(.ref b180)])) st180 ?_
        refine GoesW.run X180 hx hown hci hcl hby (L := [(265, .dup, 1), (266, .bipush 8, 2)]) (by decide +kernel) rfl (g' := (mkF m 268 #[iv x0, jv x1, .second, iv x2, iv x3, iv (w0_10 x0 x1 x2 x3), rv b1, iv (w0_21 x0 x1 x2 x3), iv (w0_254 x0 x1 x2 x3), .unset, .unset, .unset, .unset, .unset] [(.int (8 : Int32)), (.ref b180), (.ref b180)])) rfl ?_
        obtain ⟨T181, h181, k181, X181, e181, E181, A181, B181, st181⟩ := newPE X180 hx hZ (aty := .char) w_0 e180 (g := (mkF m 268 #[iv x0, jv x1, .second, iv x2, iv x3, iv (w0_10 x0 x1 x2 x3), rv b1, iv (w0_21 x0 x1 x2 x3), iv (w0_254 x0 x1 x2 x3), .unset, .unset, .unset, .unset, .unset] [(.int (8 : Int32)), (.ref b180), (.ref b180)])) rfl (hb hby at_268) rfl (by decide) (cap := 8) (by decide) (by decide) (by decide) (by decide) (ad := "[C") (by decide)
        obtain ⟨b181, g181⟩ : ∃ z, z = h180.size := ⟨_, rfl⟩
        rw [← g181] at A181 B181 st181
        have ne_b180_b181 : b180 ≠ b181 := Nat.ne_of_lt (Nat.lt_of_lt_of_le E_b180.lt (Nat.le_of_eq g181.symm))
        have ne_b1_b181 : b1 ≠ b181 := Nat.ne_of_lt (Nat.lt_of_lt_of_le E_b1.lt (Nat.le_of_eq g181.symm))
        have g_b181 : n0 ≤ b181 := Nat.le_trans Zn180 (Nat.le_of_eq g181.symm)
        have E_b1 := E_b1.ext E181
        have V_b1 := V_b1.ext E181
        have E_b180 := E_b180.ext E181
        have F_coder_b180 := F_coder_b180.ext E181
        have F_value_b180 := F_value_b180.ext E181
        have Zn181 : n0 ≤ h181.size := Nat.le_trans Zn180 E181.1
        have Od181 := Od180.ext E181
        have hk181e := Nat.le_trans hk180e E181.1
        have E_b181 : Exa Z h181 b181 "[C" := B181
        have V_b181 : Arv Z h181 b181 k181 .char (8 : Int32) [(.int (0 : Int32)), (.int (0 : Int32)), (.int (0 : Int32)), (.int (0 : Int32)), (.int (0 : Int32)), (.int (0 : Int32)), (.int (0 : Int32)), (.int (0 : Int32))] (.int (0 : Int32)) := (Arv.new A181 (by decide)).pad (pad_rep [] (.int (0 : Int32)) 8)
        refine GoesW.st (B := T181.setTop (mkF m 270 #[iv x0, jv x1, .second, iv x2, iv x3, iv (w0_10 x0 x1 x2 x3), rv b1, iv (w0_21 x0 x1 x2 x3), iv (w0_254 x0 x1 x2 x3), .unset, .unset, .unset, .unset, .unset] [(.ref b181), (.ref b180), (.ref b180)])) st181 ?_
        refine GoesW.run X181 hx hown hci hcl hby (L := [(270, .dup, 1), (271, .iconst 0, 1), (272, .aload 6, 2), (274, .iconst 0, 1)]) (by decide +kernel) rfl (g' := (mkF m 275 #[iv x0, jv x1, .second, iv x2, iv x3, iv (w0_10 x0 x1 x2 x3), rv b1, iv (w0_21 x0 x1 x2 x3), iv (w0_254 x0 x1 x2 x3), .unset, .unset, .unset, .unset, .unset] [(.int (0 : Int32)), (.ref b1), (.int (0 : Int32)), (.ref b181), (.ref b181), (.ref b180), (.ref b180)])) rfl ?_
        obtain ⟨cl182, Ar182, q182, S182, M182, Hs182, G182⟩ := id V_b1
        have hin182 : ¬ ((0 : Int32) < 0 ∨ cl182.slots.size ≤ ((0 : Int32)).toNatClampNeg) := inb_of S182 ⟨(by decide), (by decide)⟩
        have hat182 : cl182.slots[((0 : Int32)).toNatClampNeg]? = some (.int (j0_248_e0 x0 x1 x2 x3)) := Hs182.at hin182 rfl
        refine GoesW.st (B := T181.setTop (mkF m 276 #[iv x0, jv x1, .second, iv x2, iv x3, iv (w0_10 x0 x1 x2 x3), rv b1, iv (w0_21 x0 x1 x2 x3), iv (w0_254 x0 x1 x2 x3), .unset, .unset, .unset, .unset, .unset] [(.int (j0_248_e0 x0 x1 x2 x3)), (.int (0 : Int32)), (.ref b181), (.ref b181), (.ref b180), (.ref b180)])) (X181.caload hx (j := (0 : Int32)) (v := (.int (j0_248_e0 x0 x1 x2 x3))) (by rw [e181]; exact Ar182.1) (State.isArrayOf_alike hZ.alike Ar182.2.1) Ar182.2.2 hin182 hat182 (g := (mkF m 275 #[iv x0, jv x1, .second, iv x2, iv x3, iv (w0_10 x0 x1 x2 x3), rv b1, iv (w0_21 x0 x1 x2 x3), iv (w0_254 x0 x1 x2 x3), .unset, .unset, .unset, .unset, .unset] [(.int (0 : Int32)), (.ref b1), (.int (0 : Int32)), (.ref b181), (.ref b181), (.ref b180), (.ref b180)])) rfl rfl (hb hby at_275)) ?_
        obtain ⟨cl183, Ar183, q183, S183, M183, Hs183, G183⟩ := id V_b181
        have hin183 : ¬ ((0 : Int32) < 0 ∨ cl183.slots.size ≤ ((0 : Int32)).toNatClampNeg) := inb_of S183 ⟨(by decide), (by decide)⟩
        obtain ⟨T183, h183, X183, e183, W183, st183⟩ := stC X181 hx hZ e181 Ar183 (j := (0 : Int32)) hin183 (g := (mkF m 276 #[iv x0, jv x1, .second, iv x2, iv x3, iv (w0_10 x0 x1 x2 x3), rv b1, iv (w0_21 x0 x1 x2 x3), iv (w0_254 x0 x1 x2 x3), .unset, .unset, .unset, .unset, .unset] [(.int (j0_248_e0 x0 x1 x2 x3)), (.int (0 : Int32)), (.ref b181), (.ref b181), (.ref b180), (.ref b180)])) rfl rfl (hb hby at_276)
        have E_b1 := E_b1.wr W183
        have V_b1 := V_b1.other W183 ne_b1_b181
        have E_b180 := E_b180.wr W183
        have F_coder_b180 := F_coder_b180.other W183 (Or.inl ne_b180_b181)
        have F_value_b180 := F_value_b180.other W183 (Or.inl ne_b180_b181)
        have E_b181 := E_b181.wr W183
        have Zn183 : n0 ≤ h183.size := Nat.le_trans Zn181 (Keep.of_wr W183).1
        have Od183 := Od181.wr W183 g_b181
        have hk183e := Nat.le_trans hk181e (Keep.of_wr W183).1
        have N183 := Fr.snoc X183 N41 g_b181
        have V_b181 : Arv Z h183 b181 k181 .char (8 : Int32) [(.int (w0_358 x0 x1 x2 x3)), (.int (0 : Int32)), (.int (0 : Int32)), (.int (0 : Int32)), (.int (0 : Int32)), (.int (0 : Int32)), (.int (0 : Int32)), (.int (0 : Int32))] (.int (0 : Int32)) := Arv.set Ar183 q183 S183 M183 Hs183 G183 (fits_nar_char _) W183 0 rfl (Nat.le_of_ble_eq_true rfl)
        refine GoesW.st (B := T183.setTop (mkF m 277 #[iv x0, jv x1, .second, iv x2, iv x3, iv (w0_10 x0 x1 x2 x3), rv b1, iv (w0_21 x0 x1 x2 x3), iv (w0_254 x0 x1 x2 x3), .unset, .unset, .unset, .unset, .unset] [(.ref b181), (.ref b180), (.ref b180)])) st183 ?_
        refine GoesW.run X183 hx hown hci hcl hby (L := [(277, .dup, 1), (278, .iconst 1, 1), (279, .aload 6, 2), (281, .iconst 1, 1)]) (by decide +kernel) rfl (g' := (mkF m 282 #[iv x0, jv x1, .second, iv x2, iv x3, iv (w0_10 x0 x1 x2 x3), rv b1, iv (w0_21 x0 x1 x2 x3), iv (w0_254 x0 x1 x2 x3), .unset, .unset, .unset, .unset, .unset] [(.int (1 : Int32)), (.ref b1), (.int (1 : Int32)), (.ref b181), (.ref b181), (.ref b180), (.ref b180)])) rfl ?_
        obtain ⟨cl184, Ar184, q184, S184, M184, Hs184, G184⟩ := id V_b1
        have hin184 : ¬ ((1 : Int32) < 0 ∨ cl184.slots.size ≤ ((1 : Int32)).toNatClampNeg) := inb_of S184 ⟨(by decide), (by decide)⟩
        have hat184 : cl184.slots[((1 : Int32)).toNatClampNeg]? = some (.int (j0_248_e1 x0 x1 x2 x3)) := Hs184.at hin184 rfl
        refine GoesW.st (B := T183.setTop (mkF m 283 #[iv x0, jv x1, .second, iv x2, iv x3, iv (w0_10 x0 x1 x2 x3), rv b1, iv (w0_21 x0 x1 x2 x3), iv (w0_254 x0 x1 x2 x3), .unset, .unset, .unset, .unset, .unset] [(.int (j0_248_e1 x0 x1 x2 x3)), (.int (1 : Int32)), (.ref b181), (.ref b181), (.ref b180), (.ref b180)])) (X183.caload hx (j := (1 : Int32)) (v := (.int (j0_248_e1 x0 x1 x2 x3))) (by rw [e183]; exact Ar184.1) (State.isArrayOf_alike hZ.alike Ar184.2.1) Ar184.2.2 hin184 hat184 (g := (mkF m 282 #[iv x0, jv x1, .second, iv x2, iv x3, iv (w0_10 x0 x1 x2 x3), rv b1, iv (w0_21 x0 x1 x2 x3), iv (w0_254 x0 x1 x2 x3), .unset, .unset, .unset, .unset, .unset] [(.int (1 : Int32)), (.ref b1), (.int (1 : Int32)), (.ref b181), (.ref b181), (.ref b180), (.ref b180)])) rfl rfl (hb hby at_282)) ?_
        obtain ⟨cl185, Ar185, q185, S185, M185, Hs185, G185⟩ := id V_b181
        have hin185 : ¬ ((1 : Int32) < 0 ∨ cl185.slots.size ≤ ((1 : Int32)).toNatClampNeg) := inb_of S185 ⟨(by decide), (by decide)⟩
        obtain ⟨T185, h185, X185, e185, W185, st185⟩ := stC X183 hx hZ e183 Ar185 (j := (1 : Int32)) hin185 (g := (mkF m 283 #[iv x0, jv x1, .second, iv x2, iv x3, iv (w0_10 x0 x1 x2 x3), rv b1, iv (w0_21 x0 x1 x2 x3), iv (w0_254 x0 x1 x2 x3), .unset, .unset, .unset, .unset, .unset] [(.int (j0_248_e1 x0 x1 x2 x3)), (.int (1 : Int32)), (.ref b181), (.ref b181), (.ref b180), (.ref b180)])) rfl rfl (hb hby at_283)
        have E_b1 := E_b1.wr W185
        have V_b1 := V_b1.other W185 ne_b1_b181
        have E_b180 := E_b180.wr W185
        have F_coder_b180 := F_coder_b180.other W185 (Or.inl ne_b180_b181)
        have F_value_b180 := F_value_b180.other W185 (Or.inl ne_b180_b181)
        have E_b181 := E_b181.wr W185
        have Zn185 : n0 ≤ h185.size := Nat.le_trans Zn183 (Keep.of_wr W185).1
        have Od185 := Od183.wr W185 g_b181
        have hk185e := Nat.le_trans hk183e (Keep.of_wr W185).1
        have N185 := Fr.snoc X185 N183 g_b181
        have V_b181 : Arv Z h185 b181 k181 .char (8 : Int32) [(.int (w0_358 x0 x1 x2 x3)), (.int (w0_365 x0 x1 x2 x3)), (.int (0 : Int32)), (.int (0 : Int32)), (.int (0 : Int32)), (.int (0 : Int32)), (.int (0 : Int32)), (.int (0 : Int32))] (.int (0 : Int32)) := Arv.set Ar185 q185 S185 M185 Hs185 G185 (fits_nar_char _) W185 1 rfl (Nat.le_of_ble_eq_true rfl)
        refine GoesW.st (B := T185.setTop (mkF m 284 #[iv x0, jv x1, .second, iv x2, iv x3, iv (w0_10 x0 x1 x2 x3), rv b1, iv (w0_21 x0 x1 x2 x3), iv (w0_254 x0 x1 x2 x3), .unset, .unset, .unset, .unset, .unset] [(.ref b181), (.ref b180), (.ref b180)])) st185 ?_
        refine GoesW.run X185 hx hown hci hcl hby (L := [(284, .dup, 1), (285, .iconst 2, 1), (286, .aload 6, 2), (288, .iconst 2, 1)]) (by decide +kernel) rfl (g' := (mkF m 289 #[iv x0, jv x1, .second, iv x2, iv x3, iv (w0_10 x0 x1 x2 x3), rv b1, iv (w0_21 x0 x1 x2 x3), iv (w0_254 x0 x1 x2 x3), .unset, .unset, .unset, .unset, .unset] [(.int (2 : Int32)), (.ref b1), (.int (2 : Int32)), (.ref b181), (.ref b181), (.ref b180), (.ref b180)])) rfl ?_
        obtain ⟨cl186, Ar186, q186, S186, M186, Hs186, G186⟩ := id V_b1
        have hin186 : ¬ ((2 : Int32) < 0 ∨ cl186.slots.size ≤ ((2 : Int32)).toNatClampNeg) := inb_of S186 ⟨(by decide), (by decide)⟩
        have hat186 : cl186.slots[((2 : Int32)).toNatClampNeg]? = some (.int (j0_248_e2 x0 x1 x2 x3)) := Hs186.at hin186 rfl
        refine GoesW.st (B := T185.setTop (mkF m 290 #[iv x0, jv x1, .second, iv x2, iv x3, iv (w0_10 x0 x1 x2 x3), rv b1, iv (w0_21 x0 x1 x2 x3), iv (w0_254 x0 x1 x2 x3), .unset, .unset, .unset, .unset, .unset] [(.int (j0_248_e2 x0 x1 x2 x3)), (.int (2 : Int32)), (.ref b181), (.ref b181), (.ref b180), (.ref b180)])) (X185.caload hx (j := (2 : Int32)) (v := (.int (j0_248_e2 x0 x1 x2 x3))) (by rw [e185]; exact Ar186.1) (State.isArrayOf_alike hZ.alike Ar186.2.1) Ar186.2.2 hin186 hat186 (g := (mkF m 289 #[iv x0, jv x1, .second, iv x2, iv x3, iv (w0_10 x0 x1 x2 x3), rv b1, iv (w0_21 x0 x1 x2 x3), iv (w0_254 x0 x1 x2 x3), .unset, .unset, .unset, .unset, .unset] [(.int (2 : Int32)), (.ref b1), (.int (2 : Int32)), (.ref b181), (.ref b181), (.ref b180), (.ref b180)])) rfl rfl (hb hby at_289)) ?_
        obtain ⟨cl187, Ar187, q187, S187, M187, Hs187, G187⟩ := id V_b181
        have hin187 : ¬ ((2 : Int32) < 0 ∨ cl187.slots.size ≤ ((2 : Int32)).toNatClampNeg) := inb_of S187 ⟨(by decide), (by decide)⟩
        obtain ⟨T187, h187, X187, e187, W187, st187⟩ := stC X185 hx hZ e185 Ar187 (j := (2 : Int32)) hin187 (g := (mkF m 290 #[iv x0, jv x1, .second, iv x2, iv x3, iv (w0_10 x0 x1 x2 x3), rv b1, iv (w0_21 x0 x1 x2 x3), iv (w0_254 x0 x1 x2 x3), .unset, .unset, .unset, .unset, .unset] [(.int (j0_248_e2 x0 x1 x2 x3)), (.int (2 : Int32)), (.ref b181), (.ref b181), (.ref b180), (.ref b180)])) rfl rfl (hb hby at_290)
        have E_b1 := E_b1.wr W187
        have V_b1 := V_b1.other W187 ne_b1_b181
        have E_b180 := E_b180.wr W187
        have F_coder_b180 := F_coder_b180.other W187 (Or.inl ne_b180_b181)
        have F_value_b180 := F_value_b180.other W187 (Or.inl ne_b180_b181)
        have E_b181 := E_b181.wr W187
        have Zn187 : n0 ≤ h187.size := Nat.le_trans Zn185 (Keep.of_wr W187).1
        have Od187 := Od185.wr W187 g_b181
        have hk187e := Nat.le_trans hk185e (Keep.of_wr W187).1
        have N187 := Fr.snoc X187 N185 g_b181
        have V_b181 : Arv Z h187 b181 k181 .char (8 : Int32) [(.int (w0_358 x0 x1 x2 x3)), (.int (w0_365 x0 x1 x2 x3)), (.int (w0_372 x0 x1 x2 x3)), (.int (0 : Int32)), (.int (0 : Int32)), (.int (0 : Int32)), (.int (0 : Int32)), (.int (0 : Int32))] (.int (0 : Int32)) := Arv.set Ar187 q187 S187 M187 Hs187 G187 (fits_nar_char _) W187 2 rfl (Nat.le_of_ble_eq_true rfl)
        refine GoesW.st (B := T187.setTop (mkF m 291 #[iv x0, jv x1, .second, iv x2, iv x3, iv (w0_10 x0 x1 x2 x3), rv b1, iv (w0_21 x0 x1 x2 x3), iv (w0_254 x0 x1 x2 x3), .unset, .unset, .unset, .unset, .unset] [(.ref b181), (.ref b180), (.ref b180)])) st187 ?_
        refine GoesW.run X187 hx hown hci hcl hby (L := [(291, .dup, 1), (292, .iconst 3, 1), (293, .aload 6, 2), (295, .iconst 3, 1)]) (by decide +kernel) rfl (g' := (mkF m 296 #[iv x0, jv x1, .second, iv x2, iv x3, iv (w0_10 x0 x1 x2 x3), rv b1, iv (w0_21 x0 x1 x2 x3), iv (w0_254 x0 x1 x2 x3), .unset, .unset, .unset, .unset, .unset] [(.int (3 : Int32)), (.ref b1), (.int (3 : Int32)), (.ref b181), (.ref b181), (.ref b180), (.ref b180)])) rfl ?_
        obtain ⟨cl188, Ar188, q188, S188, M188, Hs188, G188⟩ := id V_b1
        have hin188 : ¬ ((3 : Int32) < 0 ∨ cl188.slots.size ≤ ((3 : Int32)).toNatClampNeg) := inb_of S188 ⟨(by decide), (by decide)⟩
        have hat188 : cl188.slots[((3 : Int32)).toNatClampNeg]? = some (.int (j0_248_e3 x0 x1 x2 x3)) := Hs188.at hin188 rfl
        refine GoesW.st (B := T187.setTop (mkF m 297 #[iv x0, jv x1, .second, iv x2, iv x3, iv (w0_10 x0 x1 x2 x3), rv b1, iv (w0_21 x0 x1 x2 x3), iv (w0_254 x0 x1 x2 x3), .unset, .unset, .unset, .unset, .unset] [(.int (j0_248_e3 x0 x1 x2 x3)), (.int (3 : Int32)), (.ref b181), (.ref b181), (.ref b180), (.ref b180)])) (X187.caload hx (j := (3 : Int32)) (v := (.int (j0_248_e3 x0 x1 x2 x3))) (by rw [e187]; exact Ar188.1) (State.isArrayOf_alike hZ.alike Ar188.2.1) Ar188.2.2 hin188 hat188 (g := (mkF m 296 #[iv x0, jv x1, .second, iv x2, iv x3, iv (w0_10 x0 x1 x2 x3), rv b1, iv (w0_21 x0 x1 x2 x3), iv (w0_254 x0 x1 x2 x3), .unset, .unset, .unset, .unset, .unset] [(.int (3 : Int32)), (.ref b1), (.int (3 : Int32)), (.ref b181), (.ref b181), (.ref b180), (.ref b180)])) rfl rfl (hb hby at_296)) ?_
        obtain ⟨cl189, Ar189, q189, S189, M189, Hs189, G189⟩ := id V_b181
        have hin189 : ¬ ((3 : Int32) < 0 ∨ cl189.slots.size ≤ ((3 : Int32)).toNatClampNeg) := inb_of S189 ⟨(by decide), (by decide)⟩
        obtain ⟨T189, h189, X189, e189, W189, st189⟩ := stC X187 hx hZ e187 Ar189 (j := (3 : Int32)) hin189 (g := (mkF m 297 #[iv x0, jv x1, .second, iv x2, iv x3, iv (w0_10 x0 x1 x2 x3), rv b1, iv (w0_21 x0 x1 x2 x3), iv (w0_254 x0 x1 x2 x3), .unset, .unset, .unset, .unset, .unset] [(.int (j0_248_e3 x0 x1 x2 x3)), (.int (3 : Int32)), (.ref b181), (.ref b181), (.ref b180), (.ref b180)])) rfl rfl (hb hby at_297)
        have E_b1 := E_b1.wr W189
        have V_b1 := V_b1.other W189 ne_b1_b181
        have E_b180 := E_b180.wr W189
        have F_coder_b180 := F_coder_b180.other W189 (Or.inl ne_b180_b181)
        have F_value_b180 := F_value_b180.other W189 (Or.inl ne_b180_b181)
        have E_b181 := E_b181.wr W189
        have Zn189 : n0 ≤ h189.size := Nat.le_trans Zn187 (Keep.of_wr W189).1
        have Od189 := Od187.wr W189 g_b181
        have hk189e := Nat.le_trans hk187e (Keep.of_wr W189).1
        have N189 := Fr.snoc X189 N187 g_b181
        have V_b181 : Arv Z h189 b181 k181 .char (8 : Int32) [(.int (w0_358 x0 x1 x2 x3)), (.int (w0_365 x0 x1 x2 x3)), (.int (w0_372 x0 x1 x2 x3)), (.int (w0_379 x0 x1 x2 x3)), (.int (0 : Int32)), (.int (0 : Int32)), (.int (0 : Int32)), (.int (0 : Int32))] (.int (0 : Int32)) := Arv.set Ar189 q189 S189 M189 Hs189 G189 (fits_nar_char _) W189 3 rfl (Nat.le_of_ble_eq_true rfl)
        refine GoesW.st (B := T189.setTop (mkF m 298 #[iv x0, jv x1, .second, iv x2, iv x3, iv (w0_10 x0 x1 x2 x3), rv b1, iv (w0_21 x0 x1 x2 x3), iv (w0_254 x0 x1 x2 x3), .unset, .unset, .unset, .unset, .unset] [(.ref b181), (.ref b180), (.ref b180)])) st189 ?_
        refine GoesW.run X189 hx hown hci hcl hby (L := [(298, .dup, 1), (299, .iconst 4, 1), (300, .aload 6, 2), (302, .iconst 4, 1)]) (by decide +kernel) rfl (g' := (mkF m 303 #[iv x0, jv x1, .second, iv x2, iv x3, iv (w0_10 x0 x1 x2 x3), rv b1, iv (w0_21 x0 x1 x2 x3), iv (w0_254 x0 x1 x2 x3), .unset, .unset, .unset, .unset, .unset] [(.int (4 : Int32)), (.ref b1), (.int (4 : Int32)), (.ref b181), (.ref b181), (.ref b180), (.ref b180)])) rfl ?_
        obtain ⟨cl190, Ar190, q190, S190, M190, Hs190, G190⟩ := id V_b1
        have hin190 : ¬ ((4 : Int32) < 0 ∨ cl190.slots.size ≤ ((4 : Int32)).toNatClampNeg) := inb_of S190 ⟨(by decide), (by decide)⟩
        have hat190 : cl190.slots[((4 : Int32)).toNatClampNeg]? = some (.int (j0_248_e4 x0 x1 x2 x3)) := Hs190.at hin190 rfl
        refine GoesW.st (B := T189.setTop (mkF m 304 #[iv x0, jv x1, .second, iv x2, iv x3, iv (w0_10 x0 x1 x2 x3), rv b1, iv (w0_21 x0 x1 x2 x3), iv (w0_254 x0 x1 x2 x3), .unset, .unset, .unset, .unset, .unset] [(.int (j0_248_e4 x0 x1 x2 x3)), (.int (4 : Int32)), (.ref b181), (.ref b181), (.ref b180), (.ref b180)])) (X189.caload hx (j := (4 : Int32)) (v := (.int (j0_248_e4 x0 x1 x2 x3))) (by rw [e189]; exact Ar190.1) (State.isArrayOf_alike hZ.alike Ar190.2.1) Ar190.2.2 hin190 hat190 (g := (mkF m 303 #[iv x0, jv x1, .second, iv x2, iv x3, iv (w0_10 x0 x1 x2 x3), rv b1, iv (w0_21 x0 x1 x2 x3), iv (w0_254 x0 x1 x2 x3), .unset, .unset, .unset, .unset, .unset] [(.int (4 : Int32)), (.ref b1), (.int (4 : Int32)), (.ref b181), (.ref b181), (.ref b180), (.ref b180)])) rfl rfl (hb hby at_303)) ?_
        obtain ⟨cl191, Ar191, q191, S191, M191, Hs191, G191⟩ := id V_b181
        have hin191 : ¬ ((4 : Int32) < 0 ∨ cl191.slots.size ≤ ((4 : Int32)).toNatClampNeg) := inb_of S191 ⟨(by decide), (by decide)⟩
        obtain ⟨T191, h191, X191, e191, W191, st191⟩ := stC X189 hx hZ e189 Ar191 (j := (4 : Int32)) hin191 (g := (mkF m 304 #[iv x0, jv x1, .second, iv x2, iv x3, iv (w0_10 x0 x1 x2 x3), rv b1, iv (w0_21 x0 x1 x2 x3), iv (w0_254 x0 x1 x2 x3), .unset, .unset, .unset, .unset, .unset] [(.int (j0_248_e4 x0 x1 x2 x3)), (.int (4 : Int32)), (.ref b181), (.ref b181), (.ref b180), (.ref b180)])) rfl rfl (hb hby at_304)
        have E_b1 := E_b1.wr W191
        have V_b1 := V_b1.other W191 ne_b1_b181
        have E_b180 := E_b180.wr W191
        have F_coder_b180 := F_coder_b180.other W191 (Or.inl ne_b180_b181)
        have F_value_b180 := F_value_b180.other W191 (Or.inl ne_b180_b181)
        have E_b181 := E_b181.wr W191
        have Zn191 : n0 ≤ h191.size := Nat.le_trans Zn189 (Keep.of_wr W191).1
        have Od191 := Od189.wr W191 g_b181
        have hk191e := Nat.le_trans hk189e (Keep.of_wr W191).1
        have N191 := Fr.snoc X191 N189 g_b181
        have V_b181 : Arv Z h191 b181 k181 .char (8 : Int32) [(.int (w0_358 x0 x1 x2 x3)), (.int (w0_365 x0 x1 x2 x3)), (.int (w0_372 x0 x1 x2 x3)), (.int (w0_379 x0 x1 x2 x3)), (.int (w0_386 x0 x1 x2 x3)), (.int (0 : Int32)), (.int (0 : Int32)), (.int (0 : Int32))] (.int (0 : Int32)) := Arv.set Ar191 q191 S191 M191 Hs191 G191 (fits_nar_char _) W191 4 rfl (Nat.le_of_ble_eq_true rfl)
        refine GoesW.st (B := T191.setTop (mkF m 305 #[iv x0, jv x1, .second, iv x2, iv x3, iv (w0_10 x0 x1 x2 x3), rv b1, iv (w0_21 x0 x1 x2 x3), iv (w0_254 x0 x1 x2 x3), .unset, .unset, .unset, .unset, .unset] [(.ref b181), (.ref b180), (.ref b180)])) st191 ?_
        refine GoesW.run X191 hx hown hci hcl hby (L := [(305, .dup, 1), (306, .iconst 5, 1), (307, .aload 6, 2), (309, .iconst 5, 1)]) (by decide +kernel) rfl (g' := (mkF m 310 #[iv x0, jv x1, .second, iv x2, iv x3, iv (w0_10 x0 x1 x2 x3), rv b1, iv (w0_21 x0 x1 x2 x3), iv (w0_254 x0 x1 x2 x3), .unset, .unset, .unset, .unset, .unset] [(.int (5 : Int32)), (.ref b1), (.int (5 : Int32)), (.ref b181), (.ref b181), (.ref b180), (.ref b180)])) rfl ?_
        obtain ⟨cl192, Ar192, q192, S192, M192, Hs192, G192⟩ := id V_b1
        have hin192 : ¬ ((5 : Int32) < 0 ∨ cl192.slots.size ≤ ((5 : Int32)).toNatClampNeg) := inb_of S192 ⟨(by decide), (by decide)⟩
        have hat192 : cl192.slots[((5 : Int32)).toNatClampNeg]? = some (.int (j0_248_e5 x0 x1 x2 x3)) := Hs192.at hin192 rfl
        refine GoesW.st (B := T191.setTop (mkF m 311 #[iv x0, jv x1, .second, iv x2, iv x3, iv (w0_10 x0 x1 x2 x3), rv b1, iv (w0_21 x0 x1 x2 x3), iv (w0_254 x0 x1 x2 x3), .unset, .unset, .unset, .unset, .unset] [(.int (j0_248_e5 x0 x1 x2 x3)), (.int (5 : Int32)), (.ref b181), (.ref b181), (.ref b180), (.ref b180)])) (X191.caload hx (j := (5 : Int32)) (v := (.int (j0_248_e5 x0 x1 x2 x3))) (by rw [e191]; exact Ar192.1) (State.isArrayOf_alike hZ.alike Ar192.2.1) Ar192.2.2 hin192 hat192 (g := (mkF m 310 #[iv x0, jv x1, .second, iv x2, iv x3, iv (w0_10 x0 x1 x2 x3), rv b1, iv (w0_21 x0 x1 x2 x3), iv (w0_254 x0 x1 x2 x3), .unset, .unset, .unset, .unset, .unset] [(.int (5 : Int32)), (.ref b1), (.int (5 : Int32)), (.ref b181), (.ref b181), (.ref b180), (.ref b180)])) rfl rfl (hb hby at_310)) ?_
        obtain ⟨cl193, Ar193, q193, S193, M193, Hs193, G193⟩ := id V_b181
        have hin193 : ¬ ((5 : Int32) < 0 ∨ cl193.slots.size ≤ ((5 : Int32)).toNatClampNeg) := inb_of S193 ⟨(by decide), (by decide)⟩
        obtain ⟨T193, h193, X193, e193, W193, st193⟩ := stC X191 hx hZ e191 Ar193 (j := (5 : Int32)) hin193 (g := (mkF m 311 #[iv x0, jv x1, .second, iv x2, iv x3, iv (w0_10 x0 x1 x2 x3), rv b1, iv (w0_21 x0 x1 x2 x3), iv (w0_254 x0 x1 x2 x3), .unset, .unset, .unset, .unset, .unset] [(.int (j0_248_e5 x0 x1 x2 x3)), (.int (5 : Int32)), (.ref b181), (.ref b181), (.ref b180), (.ref b180)])) rfl rfl (hb hby at_311)
        have E_b1 := E_b1.wr W193
        have V_b1 := V_b1.other W193 ne_b1_b181
        have E_b180 := E_b180.wr W193
        have F_coder_b180 := F_coder_b180.other W193 (Or.inl ne_b180_b181)
        have F_value_b180 := F_value_b180.other W193 (Or.inl ne_b180_b181)
        have E_b181 := E_b181.wr W193
        have Zn193 : n0 ≤ h193.size := Nat.le_trans Zn191 (Keep.of_wr W193).1
        have Od193 := Od191.wr W193 g_b181
        have hk193e := Nat.le_trans hk191e (Keep.of_wr W193).1
        have N193 := Fr.snoc X193 N191 g_b181
        have V_b181 : Arv Z h193 b181 k181 .char (8 : Int32) [(.int (w0_358 x0 x1 x2 x3)), (.int (w0_365 x0 x1 x2 x3)), (.int (w0_372 x0 x1 x2 x3)), (.int (w0_379 x0 x1 x2 x3)), (.int (w0_386 x0 x1 x2 x3)), (.int (w0_393 x0 x1 x2 x3)), (.int (0 : Int32)), (.int (0 : Int32))] (.int (0 : Int32)) := Arv.set Ar193 q193 S193 M193 Hs193 G193 (fits_nar_char _) W193 5 rfl (Nat.le_of_ble_eq_true rfl)
        refine GoesW.st (B := T193.setTop (mkF m 312 #[iv x0, jv x1, .second, iv x2, iv x3, iv (w0_10 x0 x1 x2 x3), rv b1, iv (w0_21 x0 x1 x2 x3), iv (w0_254 x0 x1 x2 x3), .unset, .unset, .unset, .unset, .unset] [(.ref b181), (.ref b180), (.ref b180)])) st193 ?_
        refine GoesW.run X193 hx hown hci hcl hby (L := [(312, .dup, 1), (313, .bipush 6, 2), (315, .aload 6, 2), (317, .bipush 6, 2)]) (by decide +kernel) rfl (g' := (mkF m 319 #[iv x0, jv x1, .second, iv x2, iv x3, iv (w0_10 x0 x1 x2 x3), rv b1, iv (w0_21 x0 x1 x2 x3), iv (w0_254 x0 x1 x2 x3), .unset, .unset, .unset, .unset, .unset] [(.int (6 : Int32)), (.ref b1), (.int (6 : Int32)), (.ref b181), (.ref b181), (.ref b180), (.ref b180)])) rfl ?_
        obtain ⟨cl194, Ar194, q194, S194, M194, Hs194, G194⟩ := id V_b1
        have hin194 : ¬ ((6 : Int32) < 0 ∨ cl194.slots.size ≤ ((6 : Int32)).toNatClampNeg) := inb_of S194 ⟨(by decide), (by decide)⟩
        have hat194 : cl194.slots[((6 : Int32)).toNatClampNeg]? = some (.int (j0_248_e6 x0 x1 x2 x3)) := Hs194.at hin194 rfl
        refine GoesW.st (B := T193.setTop (mkF m 320 #[iv x0, jv x1, .second, iv x2, iv x3, iv (w0_10 x0 x1 x2 x3), rv b1, iv (w0_21 x0 x1 x2 x3), iv (w0_254 x0 x1 x2 x3), .unset, .unset, .unset, .unset, .unset] [(.int (j0_248_e6 x0 x1 x2 x3)), (.int (6 : Int32)), (.ref b181), (.ref b181), (.ref b180), (.ref b180)])) (X193.caload hx (j := (6 : Int32)) (v := (.int (j0_248_e6 x0 x1 x2 x3))) (by rw [e193]; exact Ar194.1) (State.isArrayOf_alike hZ.alike Ar194.2.1) Ar194.2.2 hin194 hat194 (g := (mkF m 319 #[iv x0, jv x1, .second, iv x2, iv x3, iv (w0_10 x0 x1 x2 x3), rv b1, iv (w0_21 x0 x1 x2 x3), iv (w0_254 x0 x1 x2 x3), .unset, .unset, .unset, .unset, .unset] [(.int (6 : Int32)), (.ref b1), (.int (6 : Int32)), (.ref b181), (.ref b181), (.ref b180), (.ref b180)])) rfl rfl (hb hby at_319)) ?_
        obtain ⟨cl195, Ar195, q195, S195, M195, Hs195, G195⟩ := id V_b181
        have hin195 : ¬ ((6 : Int32) < 0 ∨ cl195.slots.size ≤ ((6 : Int32)).toNatClampNeg) := inb_of S195 ⟨(by decide), (by decide)⟩
        obtain ⟨T195, h195, X195, e195, W195, st195⟩ := stC X193 hx hZ e193 Ar195 (j := (6 : Int32)) hin195 (g := (mkF m 320 #[iv x0, jv x1, .second, iv x2, iv x3, iv (w0_10 x0 x1 x2 x3), rv b1, iv (w0_21 x0 x1 x2 x3), iv (w0_254 x0 x1 x2 x3), .unset, .unset, .unset, .unset, .unset] [(.int (j0_248_e6 x0 x1 x2 x3)), (.int (6 : Int32)), (.ref b181), (.ref b181), (.ref b180), (.ref b180)])) rfl rfl (hb hby at_320)
        have E_b1 := E_b1.wr W195
        have V_b1 := V_b1.other W195 ne_b1_b181
        have E_b180 := E_b180.wr W195
        have F_coder_b180 := F_coder_b180.other W195 (Or.inl ne_b180_b181)
        have F_value_b180 := F_value_b180.other W195 (Or.inl ne_b180_b181)
        have E_b181 := E_b181.wr W195
        have Zn195 : n0 ≤ h195.size := Nat.le_trans Zn193 (Keep.of_wr W195).1
        have Od195 := Od193.wr W195 g_b181
        have hk195e := Nat.le_trans hk193e (Keep.of_wr W195).1
        have N195 := Fr.snoc X195 N193 g_b181
        have V_b181 : Arv Z h195 b181 k181 .char (8 : Int32) [(.int (w0_358 x0 x1 x2 x3)), (.int (w0_365 x0 x1 x2 x3)), (.int (w0_372 x0 x1 x2 x3)), (.int (w0_379 x0 x1 x2 x3)), (.int (w0_386 x0 x1 x2 x3)), (.int (w0_393 x0 x1 x2 x3)), (.int (w0_402 x0 x1 x2 x3)), (.int (0 : Int32))] (.int (0 : Int32)) := Arv.set Ar195 q195 S195 M195 Hs195 G195 (fits_nar_char _) W195 6 rfl (Nat.le_of_ble_eq_true rfl)
        refine GoesW.st (B := T195.setTop (mkF m 321 #[iv x0, jv x1, .second, iv x2, iv x3, iv (w0_10 x0 x1 x2 x3), rv b1, iv (w0_21 x0 x1 x2 x3), iv (w0_254 x0 x1 x2 x3), .unset, .unset, .unset, .unset, .unset] [(.ref b181), (.ref b180), (.ref b180)])) st195 ?_
        refine GoesW.run X195 hx hown hci hcl hby (L := [(321, .dup, 1), (322, .bipush 7, 2), (324, .aload 6, 2), (326, .bipush 7, 2)]) (by decide +kernel) rfl (g' := (mkF m 328 #[iv x0, jv x1, .second, iv x2, iv x3, iv (w0_10 x0 x1 x2 x3), rv b1, iv (w0_21 x0 x1 x2 x3), iv (w0_254 x0 x1 x2 x3), .unset, .unset, .unset, .unset, .unset] [(.int (7 : Int32)), (.ref b1), (.int (7 : Int32)), (.ref b181), (.ref b181), (.ref b180), (.ref b180)])) rfl ?_
        obtain ⟨cl196, Ar196, q196, S196, M196, Hs196, G196⟩ := id V_b1
        have hin196 : ¬ ((7 : Int32) < 0 ∨ cl196.slots.size ≤ ((7 : Int32)).toNatClampNeg) := inb_of S196 ⟨(by decide), (by decide)⟩
        have hat196 : cl196.slots[((7 : Int32)).toNatClampNeg]? = some (.int (j0_248_e7 x0 x1 x2 x3)) := Hs196.at hin196 rfl
        refine GoesW.st (B := T195.setTop (mkF m 329 #[iv x0, jv x1, .second, iv x2, iv x3, iv (w0_10 x0 x1 x2 x3), rv b1, iv (w0_21 x0 x1 x2 x3), iv (w0_254 x0 x1 x2 x3), .unset, .unset, .unset, .unset, .unset] [(.int (j0_248_e7 x0 x1 x2 x3)), (.int (7 : Int32)), (.ref b181), (.ref b181), (.ref b180), (.ref b180)])) (X195.caload hx (j := (7 : Int32)) (v := (.int (j0_248_e7 x0 x1 x2 x3))) (by rw [e195]; exact Ar196.1) (State.isArrayOf_alike hZ.alike Ar196.2.1) Ar196.2.2 hin196 hat196 (g := (mkF m 328 #[iv x0, jv x1, .second, iv x2, iv x3, iv (w0_10 x0 x1 x2 x3), rv b1, iv (w0_21 x0 x1 x2 x3), iv (w0_254 x0 x1 x2 x3), .unset, .unset, .unset, .unset, .unset] [(.int (7 : Int32)), (.ref b1), (.int (7 : Int32)), (.ref b181), (.ref b181), (.ref b180), (.ref b180)])) rfl rfl (hb hby at_328)) ?_
        obtain ⟨cl197, Ar197, q197, S197, M197, Hs197, G197⟩ := id V_b181
        have hin197 : ¬ ((7 : Int32) < 0 ∨ cl197.slots.size ≤ ((7 : Int32)).toNatClampNeg) := inb_of S197 ⟨(by decide), (by decide)⟩
        obtain ⟨T197, h197, X197, e197, W197, st197⟩ := stC X195 hx hZ e195 Ar197 (j := (7 : Int32)) hin197 (g := (mkF m 329 #[iv x0, jv x1, .second, iv x2, iv x3, iv (w0_10 x0 x1 x2 x3), rv b1, iv (w0_21 x0 x1 x2 x3), iv (w0_254 x0 x1 x2 x3), .unset, .unset, .unset, .unset, .unset] [(.int (j0_248_e7 x0 x1 x2 x3)), (.int (7 : Int32)), (.ref b181), (.ref b181), (.ref b180), (.ref b180)])) rfl rfl (hb hby at_329)
        have E_b1 := E_b1.wr W197
        have V_b1 := V_b1.other W197 ne_b1_b181
        have E_b180 := E_b180.wr W197
        have F_coder_b180 := F_coder_b180.other W197 (Or.inl ne_b180_b181)
        have F_value_b180 := F_value_b180.other W197 (Or.inl ne_b180_b181)
        have E_b181 := E_b181.wr W197
        have Zn197 : n0 ≤ h197.size := Nat.le_trans Zn195 (Keep.of_wr W197).1
        have Od197 := Od195.wr W197 g_b181
        have hk197e := Nat.le_trans hk195e (Keep.of_wr W197).1
        have N197 := Fr.snoc X197 N195 g_b181
        have V_b181 : Arv Z h197 b181 k181 .char (8 : Int32) [(.int (w0_358 x0 x1 x2 x3)), (.int (w0_365 x0 x1 x2 x3)), (.int (w0_372 x0 x1 x2 x3)), (.int (w0_379 x0 x1 x2 x3)), (.int (w0_386 x0 x1 x2 x3)), (.int (w0_393 x0 x1 x2 x3)), (.int (w0_402 x0 x1 x2 x3)), (.int (w0_484 x0 x1 x2 x3))] (.int (0 : Int32)) := Arv.set Ar197 q197 S197 M197 Hs197 G197 (fits_nar_char _) W197 7 rfl (Nat.le_of_ble_eq_true rfl)
        refine GoesW.st (B := T197.setTop (mkF m 330 #[iv x0, jv x1, .second, iv x2, iv x3, iv (w0_10 x0 x1 x2 x3), rv b1, iv (w0_21 x0 x1 x2 x3), iv (w0_254 x0 x1 x2 x3), .unset, .unset, .unset, .unset, .unset] [(.ref b181), (.ref b180), (.ref b180)])) st197 ?_
        have hp_b180 : ∀ c ∈ (cs0_330 x0 x1 x2 x3), ¬ c < 0 ∧ ¬ (255 : Int32) < c := (own_hp8 x0 x1 x2 x3)
        obtain ⟨_, _, ⟨T198, L198, k198, n198⟩, -, X198, ⟨Lc198, hQ198, l198, y198, z198⟩, st198⟩ := X197.specialBack hx (y := ym13) rfl hown (mvT hZ w_4) (mvT hZ w_5) (mvT hZ w_6) (by decide) (StrChars.Road.backV (W := 1) hZ (own_hws hw) (kI := 4) w_2 (cs := (cs0_330 x0 x1 x2 x3)) (bs := ((cs0_330 x0 x1 x2 x3).map (fun c => c.toInt8.toInt32))) (n := 8) g_b180 Zn197 E_b180 F_value_b180 F_coder_b180 V_b181 (O2.ext Od197.2) P5 rfl rfl (by decide) (by decide) hp_b180 rfl (by decide) (by decide)) (g := (mkF m 330 #[iv x0, jv x1, .second, iv x2, iv x3, iv (w0_10 x0 x1 x2 x3), rv b1, iv (w0_21 x0 x1 x2 x3), iv (w0_254 x0 x1 x2 x3), .unset, .unset, .unset, .unset, .unset] [(.ref b181), (.ref b180), (.ref b180)])) rfl (by rw [hml]; rfl) (Steps.refl _) (a := b180) (argsL := [(.ref b181)]) (rest := [(.ref b180)]) (lenOf pd0_1 rfl) rfl (by show 2 * 0 + _ ≤ _; exact Nat.le_of_eq rfl) (hb hby at_330) (fun _ _ => ⟨rfl, e197, (by decide : 3 + 1 ≤ _), (by decide : 21 + 8 ≤ _)⟩)
        dsimp only [Pt.U, Pt.locs, Pt.cells, Pt.slots] at X198 l198 y198 z198 st198 hQ198
        subst l198 y198 z198
        obtain ⟨h198, eh198⟩ : ∃ z, z = T198.heap := ⟨_, rfl⟩
        rw [← eh198] at hQ198
        have e198 : T198.heap = h198 := eh198.symm
        obtain ⟨rfl, N198q, Kq198, o198_e, o198_c, t198, kb198, u198, szr198, nw198, o198_v, o198_a⟩ := hQ198
        have ne_b1_t198 : b1 ≠ t198 := Nat.ne_of_lt (Nat.lt_of_lt_of_le E_b1.lt szr198)
        have ne_b180_t198 : b180 ≠ t198 := Nat.ne_of_lt (Nat.lt_of_lt_of_le E_b180.lt szr198)
        have ne_b181_t198 : b181 ≠ t198 := Nat.ne_of_lt (Nat.lt_of_lt_of_le E_b181.lt szr198)
        have g_t198 : n0 ≤ t198 := Nat.le_trans Zn197 szr198
        have N198 := Fr.app N197 N198q
        have E_b1 := E_b1.keep Kq198
        have V_b1 := V_b1.keep Kq198 (ninS ne_b1_b180 nin0)
        have E_b180 := E_b180.keep Kq198
        have E_b181 := E_b181.keep Kq198
        have V_b181 := V_b181.keep Kq198 (ninS (Ne.symm ne_b180_b181) nin0)
        have Zn198 : n0 ≤ h198.size := Nat.le_trans Zn197 Kq198.1
        have hk198e := Nat.le_trans hk197e Kq198.1
        have Od198 := Od197.keep Kq198 (allS g_b180 all0)
        have F_coder_b180 : Fld Z h198 b180 "java/lang/String" "coder" "B" (.int (0 : Int32)) := o198_c
        have F_value_b180 : Fld Z h198 b180 "java/lang/String" "value" "[B" (.ref t198) := o198_v
        have V_t198 : Arv Z h198 t198 kb198 .byte (8 : Int32) (((cs0_330 x0 x1 x2 x3).map (fun c => c.toInt8.toInt32)).map Value.int) (.int (0 : Int32)) := o198_a
        refine GoesW.st (B := T198.setTop (mkF m 333 #[iv x0, jv x1, .second, iv x2, iv x3, iv (w0_10 x0 x1 x2 x3), rv b1, iv (w0_21 x0 x1 x2 x3), iv (w0_254 x0 x1 x2 x3), .unset, .unset, .unset, .unset, .unset] [(.ref b180)])) (fun t k => st198.trans k) ?_
        refine GoesW.run X198 hx hown hci hcl hby (L := [(333, .astore 9, 2), (335, .goto 190, 3)]) (by decide +kernel) rfl (g' := (mkF m 525 #[iv x0, jv x1, .second, iv x2, iv x3, iv (w0_10 x0 x1 x2 x3), rv b1, iv (w0_21 x0 x1 x2 x3), iv (w0_254 x0 x1 x2 x3), rv b180, .unset, .unset, .unset, .unset] [])) rfl ?_
        have q := jn525_111
        rw [show (j0_525_cs x0 x1 x2 x3) = (cs0_330 x0 x1 x2 x3) from (if_neg hc259_43)] at q
        exact q _ _ _ _ (X198.more (by decide) (by decide)) e198 N198 Zn198 _ Sn41 hk198e hZ hown (own_IBm IB41 (by decide)) Od198 b180 t198 kb198 E_b1 V_b1 E_b180 F_coder_b180 F_value_b180 V_t198 (own_hp8 x0 x1 x2 x3)
    by_cases hc228_39 : (((x0.toUInt32 >>> ((2 : Int32) &&& 31).toUInt32).toInt32) &&& (1 : Int32)) = (0 : Int32)
    · skip
      refine GoesW.st (B := T38.setTop (mkF m 248 #[iv x0, jv x1, .second, iv x2, iv x3, iv (w0_10 x0 x1 x2 x3), rv b1, iv (w0_21 x0 x1 x2 x3), .unset, .unset, .unset, .unset, .unset, .unset] [])) (fun t k => ?_) ?_
      · refine XS.ifYes X38.here hx rfl (pc0 := 228) (pc' := 248) rfl (hb hby at_228) rfl ((if0 _ _).trans (teq hc228_39).1) (by decide) (by decide) ?_
        exact k
      have q := jn248_42
      rw [show (j0_248_e0 x0 x1 x2 x3) = (j0_216_e0 x0 x1 x2 x3) from (if_pos hc228_39), show (j0_248_e1 x0 x1 x2 x3) = (j0_216_e1 x0 x1 x2 x3) from (if_pos hc228_39), show (j0_248_e2 x0 x1 x2 x3) = (j0_216_e2 x0 x1 x2 x3) from (if_pos hc228_39), show (j0_248_e3 x0 x1 x2 x3) = (j0_216_e3 x0 x1 x2 x3) from (if_pos hc228_39), show (j0_248_e4 x0 x1 x2 x3) = (j0_216_e4 x0 x1 x2 x3) from (if_pos hc228_39), show (j0_248_e5 x0 x1 x2 x3) = (j0_216_e5 x0 x1 x2 x3) from (if_pos hc228_39), show (j0_248_e6 x0 x1 x2 x3) = (j0_216_e6 x0 x1 x2 x3) from (if_pos hc228_39), show (j0_248_e7 x0 x1 x2 x3) = (j0_216_e7 x0 x1 x2 x3) from (if_pos hc228_39), show (j0_248_e8 x0 x1 x2 x3) = (w0_222 x0 x1 x2 x3) from (if_pos hc228_39)] at q
      exact q _ _ _ _ X38 e38 N38 Zn38 _ Sn36 hk38e hZ hown (own_IBm IB36 (by decide)) Od38 E_b1 V_b1
    · skip
      refine GoesW.st (B := T38.setTop (mkF m 231 #[iv x0, jv x1, .second, iv x2, iv x3, iv (w0_10 x0 x1 x2 x3), rv b1, iv (w0_21 x0 x1 x2 x3), .unset, .unset, .unset, .unset, .unset, .unset] [])) (fun t k => ?_) ?_
      · refine XS.ifNo X38.here hx rfl (hb hby at_228) rfl ((if0 _ _).trans (feq hc228_39).1) ?_
        exact k
      refine GoesW.run X38 hx hown hci hcl hby (L := [(231, .aload 6, 2), (233, .iload_n 3, 1), (234, .ldc 15, 2), (236, .iand, 1), (237, .bipush 9, 2), (239, .irem, 1)]) (by decide +kernel) rfl (g' := (mkF m 240 #[iv x0, jv x1, .second, iv x2, iv x3, iv (w0_10 x0 x1 x2 x3), rv b1, iv (w0_21 x0 x1 x2 x3), .unset, .unset, .unset, .unset, .unset, .unset] [(.int ((w0_239l x0 x1 x2 x3) - ((w0_239l x0 x1 x2 x3) / (9 : Int32)) * (9 : Int32))), (.ref b1)])) rfl ?_
      refine GoesW.run X38 hx hown hci hcl hby (L := [(240, .iload 4, 2), (242, .sipush 255, 3), (245, .iand, 1), (246, .i2c, 1)]) (by decide +kernel) rfl (g' := (mkF m 247 #[iv x0, jv x1, .second, iv x2, iv x3, iv (w0_10 x0 x1 x2 x3), rv b1, iv (w0_21 x0 x1 x2 x3), .unset, .unset, .unset, .unset, .unset, .unset] [(.int ((x3 &&& (255 : Int32)).toUInt32.toUInt16.toUInt32.toInt32)), (.int ((w0_239l x0 x1 x2 x3) - ((w0_239l x0 x1 x2 x3) / (9 : Int32)) * (9 : Int32))), (.ref b1)])) rfl ?_
      obtain ⟨cl199, Ar199, q199, S199, M199, Hs199, G199⟩ := id V_b1
      have hin199 : ¬ (((w0_239l x0 x1 x2 x3) - ((w0_239l x0 x1 x2 x3) / (9 : Int32)) * (9 : Int32)) < 0 ∨ cl199.slots.size ≤ (((w0_239l x0 x1 x2 x3) - ((w0_239l x0 x1 x2 x3) / (9 : Int32)) * (9 : Int32))).toNatClampNeg) := inb_of S199 ⟨(by rcases own_ix x0 x1 x2 x3 with h | h | h | h | h | h | h | h | h <;> rw [h] <;> decide), (by rcases own_ix x0 x1 x2 x3 with h | h | h | h | h | h | h | h | h <;> rw [h] <;> decide)⟩
      obtain ⟨T199, h199, X199, e199, W199, st199⟩ := stC X38 hx hZ e38 Ar199 (j := ((w0_239l x0 x1 x2 x3) - ((w0_239l x0 x1 x2 x3) / (9 : Int32)) * (9 : Int32))) hin199 (g := (mkF m 247 #[iv x0, jv x1, .second, iv x2, iv x3, iv (w0_10 x0 x1 x2 x3), rv b1, iv (w0_21 x0 x1 x2 x3), .unset, .unset, .unset, .unset, .unset, .unset] [(.int ((x3 &&& (255 : Int32)).toUInt32.toUInt16.toUInt32.toInt32)), (.int ((w0_239l x0 x1 x2 x3) - ((w0_239l x0 x1 x2 x3) / (9 : Int32)) * (9 : Int32))), (.ref b1)])) rfl rfl (hb hby at_247)
      have E_b1 := E_b1.wr W199
      have Zn199 : n0 ≤ h199.size := Nat.le_trans Zn38 (Keep.of_wr W199).1
      have Od199 := Od38.wr W199 g_b1
      have hk199e := Nat.le_trans hk38e (Keep.of_wr W199).1
      have N199 := Fr.snoc X199 N38 g_b1
      have V_b1 : Arv Z h199 b1 k1 .char (9 : Int32) [(.int (if ((w0_239l x0 x1 x2 x3) - ((w0_239l x0 x1 x2 x3) / (9 : Int32)) * (9 : Int32)) = (0 : Int32) then (w0_247 x0 x1 x2 x3) else (j0_216_e0 x0 x1 x2 x3))), (.int (if ((w0_239l x0 x1 x2 x3) - ((w0_239l x0 x1 x2 x3) / (9 : Int32)) * (9 : Int32)) = (1 : Int32) then (w0_247 x0 x1 x2 x3) else (j0_216_e1 x0 x1 x2 x3))), (.int (if ((w0_239l x0 x1 x2 x3) - ((w0_239l x0 x1 x2 x3) / (9 : Int32)) * (9 : Int32)) = (2 : Int32) then (w0_247 x0 x1 x2 x3) else (j0_216_e2 x0 x1 x2 x3))), (.int (if ((w0_239l x0 x1 x2 x3) - ((w0_239l x0 x1 x2 x3) / (9 : Int32)) * (9 : Int32)) = (3 : Int32) then (w0_247 x0 x1 x2 x3) else (j0_216_e3 x0 x1 x2 x3))), (.int (if ((w0_239l x0 x1 x2 x3) - ((w0_239l x0 x1 x2 x3) / (9 : Int32)) * (9 : Int32)) = (4 : Int32) then (w0_247 x0 x1 x2 x3) else (j0_216_e4 x0 x1 x2 x3))), (.int (if ((w0_239l x0 x1 x2 x3) - ((w0_239l x0 x1 x2 x3) / (9 : Int32)) * (9 : Int32)) = (5 : Int32) then (w0_247 x0 x1 x2 x3) else (j0_216_e5 x0 x1 x2 x3))), (.int (if ((w0_239l x0 x1 x2 x3) - ((w0_239l x0 x1 x2 x3) / (9 : Int32)) * (9 : Int32)) = (6 : Int32) then (w0_247 x0 x1 x2 x3) else (j0_216_e6 x0 x1 x2 x3))), (.int (if ((w0_239l x0 x1 x2 x3) - ((w0_239l x0 x1 x2 x3) / (9 : Int32)) * (9 : Int32)) = (7 : Int32) then (w0_247 x0 x1 x2 x3) else (j0_216_e7 x0 x1 x2 x3))), (.int (if ((w0_239l x0 x1 x2 x3) - ((w0_239l x0 x1 x2 x3) / (9 : Int32)) * (9 : Int32)) = (8 : Int32) then (w0_247 x0 x1 x2 x3) else (w0_222 x0 x1 x2 x3)))] (.int (0 : Int32)) := by
        rcases own_ix x0 x1 x2 x3 with h | h | h | h | h | h | h | h | h
        · rw [h] at W199 ⊢; exact Arv.set Ar199 q199 S199 M199 Hs199 G199 (fits_nar_char _) W199 0 rfl (Nat.le_of_ble_eq_true rfl)
        · rw [h] at W199 ⊢; exact Arv.set Ar199 q199 S199 M199 Hs199 G199 (fits_nar_char _) W199 1 rfl (Nat.le_of_ble_eq_true rfl)
        · rw [h] at W199 ⊢; exact Arv.set Ar199 q199 S199 M199 Hs199 G199 (fits_nar_char _) W199 2 rfl (Nat.le_of_ble_eq_true rfl)
        · rw [h] at W199 ⊢; exact Arv.set Ar199 q199 S199 M199 Hs199 G199 (fits_nar_char _) W199 3 rfl (Nat.le_of_ble_eq_true rfl)
        · rw [h] at W199 ⊢; exact Arv.set Ar199 q199 S199 M199 Hs199 G199 (fits_nar_char _) W199 4 rfl (Nat.le_of_ble_eq_true rfl)
        · rw [h] at W199 ⊢; exact Arv.set Ar199 q199 S199 M199 Hs199 G199 (fits_nar_char _) W199 5 rfl (Nat.le_of_ble_eq_true rfl)
        · rw [h] at W199 ⊢; exact Arv.set Ar199 q199 S199 M199 Hs199 G199 (fits_nar_char _) W199 6 rfl (Nat.le_of_ble_eq_true rfl)
        · rw [h] at W199 ⊢; exact Arv.set Ar199 q199 S199 M199 Hs199 G199 (fits_nar_char _) W199 7 rfl (Nat.le_of_ble_eq_true rfl)
        · rw [h] at W199 ⊢; exact Arv.set Ar199 q199 S199 M199 Hs199 G199 (fits_nar_char _) W199 8 rfl (Nat.le_of_ble_eq_true rfl)
      refine GoesW.st (B := T199.setTop (mkF m 248 #[iv x0, jv x1, .second, iv x2, iv x3, iv (w0_10 x0 x1 x2 x3), rv b1, iv (w0_21 x0 x1 x2 x3), .unset, .unset, .unset, .unset, .unset, .unset] [])) st199 ?_
      have q := jn248_42
      rw [show (j0_248_e0 x0 x1 x2 x3) = (if ((w0_239l x0 x1 x2 x3) - ((w0_239l x0 x1 x2 x3) / (9 : Int32)) * (9 : Int32)) = (0 : Int32) then (w0_247 x0 x1 x2 x3) else (j0_216_e0 x0 x1 x2 x3)) from (if_neg hc228_39), show (j0_248_e1 x0 x1 x2 x3) = (if ((w0_239l x0 x1 x2 x3) - ((w0_239l x0 x1 x2 x3) / (9 : Int32)) * (9 : Int32)) = (1 : Int32) then (w0_247 x0 x1 x2 x3) else (j0_216_e1 x0 x1 x2 x3)) from (if_neg hc228_39), show (j0_248_e2 x0 x1 x2 x3) = (if ((w0_239l x0 x1 x2 x3) - ((w0_239l x0 x1 x2 x3) / (9 : Int32)) * (9 : Int32)) = (2 : Int32) then (w0_247 x0 x1 x2 x3) else (j0_216_e2 x0 x1 x2 x3)) from (if_neg hc228_39), show (j0_248_e3 x0 x1 x2 x3) = (if ((w0_239l x0 x1 x2 x3) - ((w0_239l x0 x1 x2 x3) / (9 : Int32)) * (9 : Int32)) = (3 : Int32) then (w0_247 x0 x1 x2 x3) else (j0_216_e3 x0 x1 x2 x3)) from (if_neg hc228_39), show (j0_248_e4 x0 x1 x2 x3) = (if ((w0_239l x0 x1 x2 x3) - ((w0_239l x0 x1 x2 x3) / (9 : Int32)) * (9 : Int32)) = (4 : Int32) then (w0_247 x0 x1 x2 x3) else (j0_216_e4 x0 x1 x2 x3)) from (if_neg hc228_39), show (j0_248_e5 x0 x1 x2 x3) = (if ((w0_239l x0 x1 x2 x3) - ((w0_239l x0 x1 x2 x3) / (9 : Int32)) * (9 : Int32)) = (5 : Int32) then (w0_247 x0 x1 x2 x3) else (j0_216_e5 x0 x1 x2 x3)) from (if_neg hc228_39), show (j0_248_e6 x0 x1 x2 x3) = (if ((w0_239l x0 x1 x2 x3) - ((w0_239l x0 x1 x2 x3) / (9 : Int32)) * (9 : Int32)) = (6 : Int32) then (w0_247 x0 x1 x2 x3) else (j0_216_e6 x0 x1 x2 x3)) from (if_neg hc228_39), show (j0_248_e7 x0 x1 x2 x3) = (if ((w0_239l x0 x1 x2 x3) - ((w0_239l x0 x1 x2 x3) / (9 : Int32)) * (9 : Int32)) = (7 : Int32) then (w0_247 x0 x1 x2 x3) else (j0_216_e7 x0 x1 x2 x3)) from (if_neg hc228_39), show (j0_248_e8 x0 x1 x2 x3) = (if ((w0_239l x0 x1 x2 x3) - ((w0_239l x0 x1 x2 x3) / (9 : Int32)) * (9 : Int32)) = (8 : Int32) then (w0_247 x0 x1 x2 x3) else (w0_222 x0 x1 x2 x3)) from (if_neg hc228_39)] at q
      exact q _ _ _ _ X199 e199 N199 Zn199 _ Sn36 hk199e hZ hown (own_IBm IB36 (by decide)) Od199 E_b1 V_b1
  by_cases hc25_2 : (w0_21 x0 x1 x2 x3) = (0 : Int32)
  · skip
    refine GoesW.st (B := T1.setTop (mkF m 28 #[iv x0, jv x1, .second, iv x2, iv x3, iv (w0_10 x0 x1 x2 x3), rv b1, iv (w0_21 x0 x1 x2 x3), .unset, .unset, .unset, .unset, .unset, .unset] [])) (fun t k => ?_) ?_
    · refine XS.ifNo X1.here hx rfl (hb hby at_25) rfl ((if0 _ _).trans (teq hc25_2).2) ?_
      exact k
    refine GoesW.run X1 hx hown hci hcl hby (L := [(28, .aload 6, 2), (30, .iconst 0, 1), (31, .bipush 99, 2)]) (by decide +kernel) rfl (g' := (mkF m 33 #[iv x0, jv x1, .second, iv x2, iv x3, iv (w0_10 x0 x1 x2 x3), rv b1, iv (w0_21 x0 x1 x2 x3), .unset, .unset, .unset, .unset, .unset, .unset] [(.int (99 : Int32)), (.int (0 : Int32)), (.ref b1)])) rfl ?_
    obtain ⟨cl200, Ar200, q200, S200, M200, Hs200, G200⟩ := id V_b1
    have hin200 : ¬ ((0 : Int32) < 0 ∨ cl200.slots.size ≤ ((0 : Int32)).toNatClampNeg) := inb_of S200 ⟨(by decide), (by decide)⟩
    obtain ⟨T200, h200, X200, e200, W200, st200⟩ := stC X1 hx hZ e1 Ar200 (j := (0 : Int32)) hin200 (g := (mkF m 33 #[iv x0, jv x1, .second, iv x2, iv x3, iv (w0_10 x0 x1 x2 x3), rv b1, iv (w0_21 x0 x1 x2 x3), .unset, .unset, .unset, .unset, .unset, .unset] [(.int (99 : Int32)), (.int (0 : Int32)), (.ref b1)])) rfl rfl (hb hby at_33)
    have E_b1 := E_b1.wr W200
    have Zn200 : n0 ≤ h200.size := Nat.le_trans Zn1 (Keep.of_wr W200).1
    have Od200 := Od1.wr W200 g_b1
    have hk200e := Nat.le_trans hk1e (Keep.of_wr W200).1
    have N200 := Fr.snoc X200 N0 g_b1
    have V_b1 : Arv Z h200 b1 k1 .char (9 : Int32) [(.int (w0_33 x0 x1 x2 x3)), (.int (0 : Int32)), (.int (0 : Int32)), (.int (0 : Int32)), (.int (0 : Int32)), (.int (0 : Int32)), (.int (0 : Int32)), (.int (0 : Int32)), (.int (0 : Int32))] (.int (0 : Int32)) := Arv.set Ar200 q200 S200 M200 Hs200 G200 (fits_nar_char _) W200 0 rfl (Nat.le_of_ble_eq_true rfl)
    refine GoesW.st (B := T200.setTop (mkF m 34 #[iv x0, jv x1, .second, iv x2, iv x3, iv (w0_10 x0 x1 x2 x3), rv b1, iv (w0_21 x0 x1 x2 x3), .unset, .unset, .unset, .unset, .unset, .unset] [])) st200 ?_
    refine GoesW.run X200 hx hown hci hcl hby (L := [(34, .aload 6, 2), (36, .iconst 1, 1), (37, .bipush 111, 2)]) (by decide +kernel) rfl (g' := (mkF m 39 #[iv x0, jv x1, .second, iv x2, iv x3, iv (w0_10 x0 x1 x2 x3), rv b1, iv (w0_21 x0 x1 x2 x3), .unset, .unset, .unset, .unset, .unset, .unset] [(.int (111 : Int32)), (.int (1 : Int32)), (.ref b1)])) rfl ?_
    obtain ⟨cl201, Ar201, q201, S201, M201, Hs201, G201⟩ := id V_b1
    have hin201 : ¬ ((1 : Int32) < 0 ∨ cl201.slots.size ≤ ((1 : Int32)).toNatClampNeg) := inb_of S201 ⟨(by decide), (by decide)⟩
    obtain ⟨T201, h201, X201, e201, W201, st201⟩ := stC X200 hx hZ e200 Ar201 (j := (1 : Int32)) hin201 (g := (mkF m 39 #[iv x0, jv x1, .second, iv x2, iv x3, iv (w0_10 x0 x1 x2 x3), rv b1, iv (w0_21 x0 x1 x2 x3), .unset, .unset, .unset, .unset, .unset, .unset] [(.int (111 : Int32)), (.int (1 : Int32)), (.ref b1)])) rfl rfl (hb hby at_39)
    have E_b1 := E_b1.wr W201
    have Zn201 : n0 ≤ h201.size := Nat.le_trans Zn200 (Keep.of_wr W201).1
    have Od201 := Od200.wr W201 g_b1
    have hk201e := Nat.le_trans hk200e (Keep.of_wr W201).1
    have N201 := Fr.snoc X201 N200 g_b1
    have V_b1 : Arv Z h201 b1 k1 .char (9 : Int32) [(.int (w0_33 x0 x1 x2 x3)), (.int (w0_39 x0 x1 x2 x3)), (.int (0 : Int32)), (.int (0 : Int32)), (.int (0 : Int32)), (.int (0 : Int32)), (.int (0 : Int32)), (.int (0 : Int32)), (.int (0 : Int32))] (.int (0 : Int32)) := Arv.set Ar201 q201 S201 M201 Hs201 G201 (fits_nar_char _) W201 1 rfl (Nat.le_of_ble_eq_true rfl)
    refine GoesW.st (B := T201.setTop (mkF m 40 #[iv x0, jv x1, .second, iv x2, iv x3, iv (w0_10 x0 x1 x2 x3), rv b1, iv (w0_21 x0 x1 x2 x3), .unset, .unset, .unset, .unset, .unset, .unset] [])) st201 ?_
    refine GoesW.run X201 hx hown hci hcl hby (L := [(40, .aload 6, 2), (42, .iconst 2, 1), (43, .bipush 110, 2)]) (by decide +kernel) rfl (g' := (mkF m 45 #[iv x0, jv x1, .second, iv x2, iv x3, iv (w0_10 x0 x1 x2 x3), rv b1, iv (w0_21 x0 x1 x2 x3), .unset, .unset, .unset, .unset, .unset, .unset] [(.int (110 : Int32)), (.int (2 : Int32)), (.ref b1)])) rfl ?_
    obtain ⟨cl202, Ar202, q202, S202, M202, Hs202, G202⟩ := id V_b1
    have hin202 : ¬ ((2 : Int32) < 0 ∨ cl202.slots.size ≤ ((2 : Int32)).toNatClampNeg) := inb_of S202 ⟨(by decide), (by decide)⟩
    obtain ⟨T202, h202, X202, e202, W202, st202⟩ := stC X201 hx hZ e201 Ar202 (j := (2 : Int32)) hin202 (g := (mkF m 45 #[iv x0, jv x1, .second, iv x2, iv x3, iv (w0_10 x0 x1 x2 x3), rv b1, iv (w0_21 x0 x1 x2 x3), .unset, .unset, .unset, .unset, .unset, .unset] [(.int (110 : Int32)), (.int (2 : Int32)), (.ref b1)])) rfl rfl (hb hby at_45)
    have E_b1 := E_b1.wr W202
    have Zn202 : n0 ≤ h202.size := Nat.le_trans Zn201 (Keep.of_wr W202).1
    have Od202 := Od201.wr W202 g_b1
    have hk202e := Nat.le_trans hk201e (Keep.of_wr W202).1
    have N202 := Fr.snoc X202 N201 g_b1
    have V_b1 : Arv Z h202 b1 k1 .char (9 : Int32) [(.int (w0_33 x0 x1 x2 x3)), (.int (w0_39 x0 x1 x2 x3)), (.int (w0_45 x0 x1 x2 x3)), (.int (0 : Int32)), (.int (0 : Int32)), (.int (0 : Int32)), (.int (0 : Int32)), (.int (0 : Int32)), (.int (0 : Int32))] (.int (0 : Int32)) := Arv.set Ar202 q202 S202 M202 Hs202 G202 (fits_nar_char _) W202 2 rfl (Nat.le_of_ble_eq_true rfl)
    refine GoesW.st (B := T202.setTop (mkF m 46 #[iv x0, jv x1, .second, iv x2, iv x3, iv (w0_10 x0 x1 x2 x3), rv b1, iv (w0_21 x0 x1 x2 x3), .unset, .unset, .unset, .unset, .unset, .unset] [])) st202 ?_
    refine GoesW.run X202 hx hown hci hcl hby (L := [(46, .aload 6, 2), (48, .iconst 3, 1), (49, .bipush 115, 2)]) (by decide +kernel) rfl (g' := (mkF m 51 #[iv x0, jv x1, .second, iv x2, iv x3, iv (w0_10 x0 x1 x2 x3), rv b1, iv (w0_21 x0 x1 x2 x3), .unset, .unset, .unset, .unset, .unset, .unset] [(.int (115 : Int32)), (.int (3 : Int32)), (.ref b1)])) rfl ?_
    obtain ⟨cl203, Ar203, q203, S203, M203, Hs203, G203⟩ := id V_b1
    have hin203 : ¬ ((3 : Int32) < 0 ∨ cl203.slots.size ≤ ((3 : Int32)).toNatClampNeg) := inb_of S203 ⟨(by decide), (by decide)⟩
    obtain ⟨T203, h203, X203, e203, W203, st203⟩ := stC X202 hx hZ e202 Ar203 (j := (3 : Int32)) hin203 (g := (mkF m 51 #[iv x0, jv x1, .second, iv x2, iv x3, iv (w0_10 x0 x1 x2 x3), rv b1, iv (w0_21 x0 x1 x2 x3), .unset, .unset, .unset, .unset, .unset, .unset] [(.int (115 : Int32)), (.int (3 : Int32)), (.ref b1)])) rfl rfl (hb hby at_51)
    have E_b1 := E_b1.wr W203
    have Zn203 : n0 ≤ h203.size := Nat.le_trans Zn202 (Keep.of_wr W203).1
    have Od203 := Od202.wr W203 g_b1
    have hk203e := Nat.le_trans hk202e (Keep.of_wr W203).1
    have N203 := Fr.snoc X203 N202 g_b1
    have V_b1 : Arv Z h203 b1 k1 .char (9 : Int32) [(.int (w0_33 x0 x1 x2 x3)), (.int (w0_39 x0 x1 x2 x3)), (.int (w0_45 x0 x1 x2 x3)), (.int (w0_51 x0 x1 x2 x3)), (.int (0 : Int32)), (.int (0 : Int32)), (.int (0 : Int32)), (.int (0 : Int32)), (.int (0 : Int32))] (.int (0 : Int32)) := Arv.set Ar203 q203 S203 M203 Hs203 G203 (fits_nar_char _) W203 3 rfl (Nat.le_of_ble_eq_true rfl)
    refine GoesW.st (B := T203.setTop (mkF m 52 #[iv x0, jv x1, .second, iv x2, iv x3, iv (w0_10 x0 x1 x2 x3), rv b1, iv (w0_21 x0 x1 x2 x3), .unset, .unset, .unset, .unset, .unset, .unset] [])) st203 ?_
    refine GoesW.run X203 hx hown hci hcl hby (L := [(52, .aload 6, 2), (54, .iconst 4, 1), (55, .bipush 117, 2)]) (by decide +kernel) rfl (g' := (mkF m 57 #[iv x0, jv x1, .second, iv x2, iv x3, iv (w0_10 x0 x1 x2 x3), rv b1, iv (w0_21 x0 x1 x2 x3), .unset, .unset, .unset, .unset, .unset, .unset] [(.int (117 : Int32)), (.int (4 : Int32)), (.ref b1)])) rfl ?_
    obtain ⟨cl204, Ar204, q204, S204, M204, Hs204, G204⟩ := id V_b1
    have hin204 : ¬ ((4 : Int32) < 0 ∨ cl204.slots.size ≤ ((4 : Int32)).toNatClampNeg) := inb_of S204 ⟨(by decide), (by decide)⟩
    obtain ⟨T204, h204, X204, e204, W204, st204⟩ := stC X203 hx hZ e203 Ar204 (j := (4 : Int32)) hin204 (g := (mkF m 57 #[iv x0, jv x1, .second, iv x2, iv x3, iv (w0_10 x0 x1 x2 x3), rv b1, iv (w0_21 x0 x1 x2 x3), .unset, .unset, .unset, .unset, .unset, .unset] [(.int (117 : Int32)), (.int (4 : Int32)), (.ref b1)])) rfl rfl (hb hby at_57)
    have E_b1 := E_b1.wr W204
    have Zn204 : n0 ≤ h204.size := Nat.le_trans Zn203 (Keep.of_wr W204).1
    have Od204 := Od203.wr W204 g_b1
    have hk204e := Nat.le_trans hk203e (Keep.of_wr W204).1
    have N204 := Fr.snoc X204 N203 g_b1
    have V_b1 : Arv Z h204 b1 k1 .char (9 : Int32) [(.int (w0_33 x0 x1 x2 x3)), (.int (w0_39 x0 x1 x2 x3)), (.int (w0_45 x0 x1 x2 x3)), (.int (w0_51 x0 x1 x2 x3)), (.int (w0_57 x0 x1 x2 x3)), (.int (0 : Int32)), (.int (0 : Int32)), (.int (0 : Int32)), (.int (0 : Int32))] (.int (0 : Int32)) := Arv.set Ar204 q204 S204 M204 Hs204 G204 (fits_nar_char _) W204 4 rfl (Nat.le_of_ble_eq_true rfl)
    refine GoesW.st (B := T204.setTop (mkF m 58 #[iv x0, jv x1, .second, iv x2, iv x3, iv (w0_10 x0 x1 x2 x3), rv b1, iv (w0_21 x0 x1 x2 x3), .unset, .unset, .unset, .unset, .unset, .unset] [])) st204 ?_
    refine GoesW.run X204 hx hown hci hcl hby (L := [(58, .aload 6, 2), (60, .iconst 5, 1), (61, .bipush 109, 2)]) (by decide +kernel) rfl (g' := (mkF m 63 #[iv x0, jv x1, .second, iv x2, iv x3, iv (w0_10 x0 x1 x2 x3), rv b1, iv (w0_21 x0 x1 x2 x3), .unset, .unset, .unset, .unset, .unset, .unset] [(.int (109 : Int32)), (.int (5 : Int32)), (.ref b1)])) rfl ?_
    obtain ⟨cl205, Ar205, q205, S205, M205, Hs205, G205⟩ := id V_b1
    have hin205 : ¬ ((5 : Int32) < 0 ∨ cl205.slots.size ≤ ((5 : Int32)).toNatClampNeg) := inb_of S205 ⟨(by decide), (by decide)⟩
    obtain ⟨T205, h205, X205, e205, W205, st205⟩ := stC X204 hx hZ e204 Ar205 (j := (5 : Int32)) hin205 (g := (mkF m 63 #[iv x0, jv x1, .second, iv x2, iv x3, iv (w0_10 x0 x1 x2 x3), rv b1, iv (w0_21 x0 x1 x2 x3), .unset, .unset, .unset, .unset, .unset, .unset] [(.int (109 : Int32)), (.int (5 : Int32)), (.ref b1)])) rfl rfl (hb hby at_63)
    have E_b1 := E_b1.wr W205
    have Zn205 : n0 ≤ h205.size := Nat.le_trans Zn204 (Keep.of_wr W205).1
    have Od205 := Od204.wr W205 g_b1
    have hk205e := Nat.le_trans hk204e (Keep.of_wr W205).1
    have N205 := Fr.snoc X205 N204 g_b1
    have V_b1 : Arv Z h205 b1 k1 .char (9 : Int32) [(.int (w0_33 x0 x1 x2 x3)), (.int (w0_39 x0 x1 x2 x3)), (.int (w0_45 x0 x1 x2 x3)), (.int (w0_51 x0 x1 x2 x3)), (.int (w0_57 x0 x1 x2 x3)), (.int (w0_63 x0 x1 x2 x3)), (.int (0 : Int32)), (.int (0 : Int32)), (.int (0 : Int32))] (.int (0 : Int32)) := Arv.set Ar205 q205 S205 M205 Hs205 G205 (fits_nar_char _) W205 5 rfl (Nat.le_of_ble_eq_true rfl)
    refine GoesW.st (B := T205.setTop (mkF m 64 #[iv x0, jv x1, .second, iv x2, iv x3, iv (w0_10 x0 x1 x2 x3), rv b1, iv (w0_21 x0 x1 x2 x3), .unset, .unset, .unset, .unset, .unset, .unset] [])) st205 ?_
    refine GoesW.run X205 hx hown hci hcl hby (L := [(64, .aload 6, 2), (66, .bipush 6, 2), (68, .bipush 101, 2)]) (by decide +kernel) rfl (g' := (mkF m 70 #[iv x0, jv x1, .second, iv x2, iv x3, iv (w0_10 x0 x1 x2 x3), rv b1, iv (w0_21 x0 x1 x2 x3), .unset, .unset, .unset, .unset, .unset, .unset] [(.int (101 : Int32)), (.int (6 : Int32)), (.ref b1)])) rfl ?_
    obtain ⟨cl206, Ar206, q206, S206, M206, Hs206, G206⟩ := id V_b1
    have hin206 : ¬ ((6 : Int32) < 0 ∨ cl206.slots.size ≤ ((6 : Int32)).toNatClampNeg) := inb_of S206 ⟨(by decide), (by decide)⟩
    obtain ⟨T206, h206, X206, e206, W206, st206⟩ := stC X205 hx hZ e205 Ar206 (j := (6 : Int32)) hin206 (g := (mkF m 70 #[iv x0, jv x1, .second, iv x2, iv x3, iv (w0_10 x0 x1 x2 x3), rv b1, iv (w0_21 x0 x1 x2 x3), .unset, .unset, .unset, .unset, .unset, .unset] [(.int (101 : Int32)), (.int (6 : Int32)), (.ref b1)])) rfl rfl (hb hby at_70)
    have E_b1 := E_b1.wr W206
    have Zn206 : n0 ≤ h206.size := Nat.le_trans Zn205 (Keep.of_wr W206).1
    have Od206 := Od205.wr W206 g_b1
    have hk206e := Nat.le_trans hk205e (Keep.of_wr W206).1
    have N206 := Fr.snoc X206 N205 g_b1
    have V_b1 : Arv Z h206 b1 k1 .char (9 : Int32) [(.int (w0_33 x0 x1 x2 x3)), (.int (w0_39 x0 x1 x2 x3)), (.int (w0_45 x0 x1 x2 x3)), (.int (w0_51 x0 x1 x2 x3)), (.int (w0_57 x0 x1 x2 x3)), (.int (w0_63 x0 x1 x2 x3)), (.int (w0_70 x0 x1 x2 x3)), (.int (0 : Int32)), (.int (0 : Int32))] (.int (0 : Int32)) := Arv.set Ar206 q206 S206 M206 Hs206 G206 (fits_nar_char _) W206 6 rfl (Nat.le_of_ble_eq_true rfl)
    refine GoesW.st (B := T206.setTop (mkF m 71 #[iv x0, jv x1, .second, iv x2, iv x3, iv (w0_10 x0 x1 x2 x3), rv b1, iv (w0_21 x0 x1 x2 x3), .unset, .unset, .unset, .unset, .unset, .unset] [])) st206 ?_
    refine GoesW.run X206 hx hown hci hcl hby (L := [(71, .aload 6, 2), (73, .bipush 7, 2), (75, .bipush 114, 2)]) (by decide +kernel) rfl (g' := (mkF m 77 #[iv x0, jv x1, .second, iv x2, iv x3, iv (w0_10 x0 x1 x2 x3), rv b1, iv (w0_21 x0 x1 x2 x3), .unset, .unset, .unset, .unset, .unset, .unset] [(.int (114 : Int32)), (.int (7 : Int32)), (.ref b1)])) rfl ?_
    obtain ⟨cl207, Ar207, q207, S207, M207, Hs207, G207⟩ := id V_b1
    have hin207 : ¬ ((7 : Int32) < 0 ∨ cl207.slots.size ≤ ((7 : Int32)).toNatClampNeg) := inb_of S207 ⟨(by decide), (by decide)⟩
    obtain ⟨T207, h207, X207, e207, W207, st207⟩ := stC X206 hx hZ e206 Ar207 (j := (7 : Int32)) hin207 (g := (mkF m 77 #[iv x0, jv x1, .second, iv x2, iv x3, iv (w0_10 x0 x1 x2 x3), rv b1, iv (w0_21 x0 x1 x2 x3), .unset, .unset, .unset, .unset, .unset, .unset] [(.int (114 : Int32)), (.int (7 : Int32)), (.ref b1)])) rfl rfl (hb hby at_77)
    have E_b1 := E_b1.wr W207
    have Zn207 : n0 ≤ h207.size := Nat.le_trans Zn206 (Keep.of_wr W207).1
    have Od207 := Od206.wr W207 g_b1
    have hk207e := Nat.le_trans hk206e (Keep.of_wr W207).1
    have N207 := Fr.snoc X207 N206 g_b1
    have V_b1 : Arv Z h207 b1 k1 .char (9 : Int32) [(.int (w0_33 x0 x1 x2 x3)), (.int (w0_39 x0 x1 x2 x3)), (.int (w0_45 x0 x1 x2 x3)), (.int (w0_51 x0 x1 x2 x3)), (.int (w0_57 x0 x1 x2 x3)), (.int (w0_63 x0 x1 x2 x3)), (.int (w0_70 x0 x1 x2 x3)), (.int (w0_77 x0 x1 x2 x3)), (.int (0 : Int32))] (.int (0 : Int32)) := Arv.set Ar207 q207 S207 M207 Hs207 G207 (fits_nar_char _) W207 7 rfl (Nat.le_of_ble_eq_true rfl)
    refine GoesW.st (B := T207.setTop (mkF m 78 #[iv x0, jv x1, .second, iv x2, iv x3, iv (w0_10 x0 x1 x2 x3), rv b1, iv (w0_21 x0 x1 x2 x3), .unset, .unset, .unset, .unset, .unset, .unset] [])) st207 ?_
    refine GoesW.run X207 hx hown hci hcl hby (L := [(78, .goto 138, 3)]) (by decide +kernel) rfl (g' := (mkF m 216 #[iv x0, jv x1, .second, iv x2, iv x3, iv (w0_10 x0 x1 x2 x3), rv b1, iv (w0_21 x0 x1 x2 x3), .unset, .unset, .unset, .unset, .unset, .unset] [])) rfl ?_
    have q := jn216_37
    rw [show (j0_216_e0 x0 x1 x2 x3) = (w0_33 x0 x1 x2 x3) from (if_pos hc25_2), show (j0_216_e1 x0 x1 x2 x3) = (w0_39 x0 x1 x2 x3) from (if_pos hc25_2), show (j0_216_e2 x0 x1 x2 x3) = (w0_45 x0 x1 x2 x3) from (if_pos hc25_2), show (j0_216_e3 x0 x1 x2 x3) = (w0_51 x0 x1 x2 x3) from (if_pos hc25_2), show (j0_216_e4 x0 x1 x2 x3) = (w0_57 x0 x1 x2 x3) from (if_pos hc25_2), show (j0_216_e5 x0 x1 x2 x3) = (w0_63 x0 x1 x2 x3) from (if_pos hc25_2), show (j0_216_e6 x0 x1 x2 x3) = (w0_70 x0 x1 x2 x3) from (if_pos hc25_2), show (j0_216_e7 x0 x1 x2 x3) = (w0_77 x0 x1 x2 x3) from (if_pos hc25_2)] at q
    exact q _ _ _ _ X207 e207 N207 Zn207 _ Sn0 hk207e hZ hown (own_IBm IB0 (by decide)) Od207 E_b1 V_b1
  · skip
    refine GoesW.st (B := T1.setTop (mkF m 81 #[iv x0, jv x1, .second, iv x2, iv x3, iv (w0_10 x0 x1 x2 x3), rv b1, iv (w0_21 x0 x1 x2 x3), .unset, .unset, .unset, .unset, .unset, .unset] [])) (fun t k => ?_) ?_
    · refine XS.ifYes X1.here hx rfl (pc0 := 25) (pc' := 81) rfl (hb hby at_25) rfl ((if0 _ _).trans (feq hc25_2).2) (by decide) (by decide) ?_
      exact k
    refine GoesW.run X1 hx hown hci hcl hby (L := [(81, .iload 7, 2), (83, .iconst 1, 1)]) (by decide +kernel) rfl (g' := (mkF m 84 #[iv x0, jv x1, .second, iv x2, iv x3, iv (w0_10 x0 x1 x2 x3), rv b1, iv (w0_21 x0 x1 x2 x3), .unset, .unset, .unset, .unset, .unset, .unset] [(.int (1 : Int32)), (.int (w0_21 x0 x1 x2 x3))])) rfl ?_
    by_cases hc84_208 : (w0_21 x0 x1 x2 x3) = (1 : Int32)
    · skip
      refine GoesW.st (B := T1.setTop (mkF m 87 #[iv x0, jv x1, .second, iv x2, iv x3, iv (w0_10 x0 x1 x2 x3), rv b1, iv (w0_21 x0 x1 x2 x3), .unset, .unset, .unset, .unset, .unset, .unset] [])) (fun t k => ?_) ?_
      · refine XS.icmpNo X1.here hx rfl (hb hby at_84) rfl (teq hc84_208).2 ?_
        exact k
      refine GoesW.run X1 hx hown hci hcl hby (L := [(87, .aload 6, 2), (89, .iconst 0, 1), (90, .bipush 98, 2)]) (by decide +kernel) rfl (g' := (mkF m 92 #[iv x0, jv x1, .second, iv x2, iv x3, iv (w0_10 x0 x1 x2 x3), rv b1, iv (w0_21 x0 x1 x2 x3), .unset, .unset, .unset, .unset, .unset, .unset] [(.int (98 : Int32)), (.int (0 : Int32)), (.ref b1)])) rfl ?_
      obtain ⟨cl209, Ar209, q209, S209, M209, Hs209, G209⟩ := id V_b1
      have hin209 : ¬ ((0 : Int32) < 0 ∨ cl209.slots.size ≤ ((0 : Int32)).toNatClampNeg) := inb_of S209 ⟨(by decide), (by decide)⟩
      obtain ⟨T209, h209, X209, e209, W209, st209⟩ := stC X1 hx hZ e1 Ar209 (j := (0 : Int32)) hin209 (g := (mkF m 92 #[iv x0, jv x1, .second, iv x2, iv x3, iv (w0_10 x0 x1 x2 x3), rv b1, iv (w0_21 x0 x1 x2 x3), .unset, .unset, .unset, .unset, .unset, .unset] [(.int (98 : Int32)), (.int (0 : Int32)), (.ref b1)])) rfl rfl (hb hby at_92)
      have E_b1 := E_b1.wr W209
      have Zn209 : n0 ≤ h209.size := Nat.le_trans Zn1 (Keep.of_wr W209).1
      have Od209 := Od1.wr W209 g_b1
      have hk209e := Nat.le_trans hk1e (Keep.of_wr W209).1
      have N209 := Fr.snoc X209 N0 g_b1
      have V_b1 : Arv Z h209 b1 k1 .char (9 : Int32) [(.int (w0_92 x0 x1 x2 x3)), (.int (0 : Int32)), (.int (0 : Int32)), (.int (0 : Int32)), (.int (0 : Int32)), (.int (0 : Int32)), (.int (0 : Int32)), (.int (0 : Int32)), (.int (0 : Int32))] (.int (0 : Int32)) := Arv.set Ar209 q209 S209 M209 Hs209 G209 (fits_nar_char _) W209 0 rfl (Nat.le_of_ble_eq_true rfl)
      refine GoesW.st (B := T209.setTop (mkF m 93 #[iv x0, jv x1, .second, iv x2, iv x3, iv (w0_10 x0 x1 x2 x3), rv b1, iv (w0_21 x0 x1 x2 x3), .unset, .unset, .unset, .unset, .unset, .unset] [])) st209 ?_
      refine GoesW.run X209 hx hown hci hcl hby (L := [(93, .aload 6, 2), (95, .iconst 1, 1), (96, .bipush 117, 2)]) (by decide +kernel) rfl (g' := (mkF m 98 #[iv x0, jv x1, .second, iv x2, iv x3, iv (w0_10 x0 x1 x2 x3), rv b1, iv (w0_21 x0 x1 x2 x3), .unset, .unset, .unset, .unset, .unset, .unset] [(.int (117 : Int32)), (.int (1 : Int32)), (.ref b1)])) rfl ?_
      obtain ⟨cl210, Ar210, q210, S210, M210, Hs210, G210⟩ := id V_b1
      have hin210 : ¬ ((1 : Int32) < 0 ∨ cl210.slots.size ≤ ((1 : Int32)).toNatClampNeg) := inb_of S210 ⟨(by decide), (by decide)⟩
      obtain ⟨T210, h210, X210, e210, W210, st210⟩ := stC X209 hx hZ e209 Ar210 (j := (1 : Int32)) hin210 (g := (mkF m 98 #[iv x0, jv x1, .second, iv x2, iv x3, iv (w0_10 x0 x1 x2 x3), rv b1, iv (w0_21 x0 x1 x2 x3), .unset, .unset, .unset, .unset, .unset, .unset] [(.int (117 : Int32)), (.int (1 : Int32)), (.ref b1)])) rfl rfl (hb hby at_98)
      have E_b1 := E_b1.wr W210
      have Zn210 : n0 ≤ h210.size := Nat.le_trans Zn209 (Keep.of_wr W210).1
      have Od210 := Od209.wr W210 g_b1
      have hk210e := Nat.le_trans hk209e (Keep.of_wr W210).1
      have N210 := Fr.snoc X210 N209 g_b1
      have V_b1 : Arv Z h210 b1 k1 .char (9 : Int32) [(.int (w0_92 x0 x1 x2 x3)), (.int (w0_57 x0 x1 x2 x3)), (.int (0 : Int32)), (.int (0 : Int32)), (.int (0 : Int32)), (.int (0 : Int32)), (.int (0 : Int32)), (.int (0 : Int32)), (.int (0 : Int32))] (.int (0 : Int32)) := Arv.set Ar210 q210 S210 M210 Hs210 G210 (fits_nar_char _) W210 1 rfl (Nat.le_of_ble_eq_true rfl)
      refine GoesW.st (B := T210.setTop (mkF m 99 #[iv x0, jv x1, .second, iv x2, iv x3, iv (w0_10 x0 x1 x2 x3), rv b1, iv (w0_21 x0 x1 x2 x3), .unset, .unset, .unset, .unset, .unset, .unset] [])) st210 ?_
      refine GoesW.run X210 hx hown hci hcl hby (L := [(99, .aload 6, 2), (101, .iconst 2, 1), (102, .bipush 115, 2)]) (by decide +kernel) rfl (g' := (mkF m 104 #[iv x0, jv x1, .second, iv x2, iv x3, iv (w0_10 x0 x1 x2 x3), rv b1, iv (w0_21 x0 x1 x2 x3), .unset, .unset, .unset, .unset, .unset, .unset] [(.int (115 : Int32)), (.int (2 : Int32)), (.ref b1)])) rfl ?_
      obtain ⟨cl211, Ar211, q211, S211, M211, Hs211, G211⟩ := id V_b1
      have hin211 : ¬ ((2 : Int32) < 0 ∨ cl211.slots.size ≤ ((2 : Int32)).toNatClampNeg) := inb_of S211 ⟨(by decide), (by decide)⟩
      obtain ⟨T211, h211, X211, e211, W211, st211⟩ := stC X210 hx hZ e210 Ar211 (j := (2 : Int32)) hin211 (g := (mkF m 104 #[iv x0, jv x1, .second, iv x2, iv x3, iv (w0_10 x0 x1 x2 x3), rv b1, iv (w0_21 x0 x1 x2 x3), .unset, .unset, .unset, .unset, .unset, .unset] [(.int (115 : Int32)), (.int (2 : Int32)), (.ref b1)])) rfl rfl (hb hby at_104)
      have E_b1 := E_b1.wr W211
      have Zn211 : n0 ≤ h211.size := Nat.le_trans Zn210 (Keep.of_wr W211).1
      have Od211 := Od210.wr W211 g_b1
      have hk211e := Nat.le_trans hk210e (Keep.of_wr W211).1
      have N211 := Fr.snoc X211 N210 g_b1
      have V_b1 : Arv Z h211 b1 k1 .char (9 : Int32) [(.int (w0_92 x0 x1 x2 x3)), (.int (w0_57 x0 x1 x2 x3)), (.int (w0_51 x0 x1 x2 x3)), (.int (0 : Int32)), (.int (0 : Int32)), (.int (0 : Int32)), (.int (0 : Int32)), (.int (0 : Int32)), (.int (0 : Int32))] (.int (0 : Int32)) := Arv.set Ar211 q211 S211 M211 Hs211 G211 (fits_nar_char _) W211 2 rfl (Nat.le_of_ble_eq_true rfl)
      refine GoesW.st (B := T211.setTop (mkF m 105 #[iv x0, jv x1, .second, iv x2, iv x3, iv (w0_10 x0 x1 x2 x3), rv b1, iv (w0_21 x0 x1 x2 x3), .unset, .unset, .unset, .unset, .unset, .unset] [])) st211 ?_
      refine GoesW.run X211 hx hown hci hcl hby (L := [(105, .aload 6, 2), (107, .iconst 3, 1), (108, .bipush 105, 2)]) (by decide +kernel) rfl (g' := (mkF m 110 #[iv x0, jv x1, .second, iv x2, iv x3, iv (w0_10 x0 x1 x2 x3), rv b1, iv (w0_21 x0 x1 x2 x3), .unset, .unset, .unset, .unset, .unset, .unset] [(.int (105 : Int32)), (.int (3 : Int32)), (.ref b1)])) rfl ?_
      obtain ⟨cl212, Ar212, q212, S212, M212, Hs212, G212⟩ := id V_b1
      have hin212 : ¬ ((3 : Int32) < 0 ∨ cl212.slots.size ≤ ((3 : Int32)).toNatClampNeg) := inb_of S212 ⟨(by decide), (by decide)⟩
      obtain ⟨T212, h212, X212, e212, W212, st212⟩ := stC X211 hx hZ e211 Ar212 (j := (3 : Int32)) hin212 (g := (mkF m 110 #[iv x0, jv x1, .second, iv x2, iv x3, iv (w0_10 x0 x1 x2 x3), rv b1, iv (w0_21 x0 x1 x2 x3), .unset, .unset, .unset, .unset, .unset, .unset] [(.int (105 : Int32)), (.int (3 : Int32)), (.ref b1)])) rfl rfl (hb hby at_110)
      have E_b1 := E_b1.wr W212
      have Zn212 : n0 ≤ h212.size := Nat.le_trans Zn211 (Keep.of_wr W212).1
      have Od212 := Od211.wr W212 g_b1
      have hk212e := Nat.le_trans hk211e (Keep.of_wr W212).1
      have N212 := Fr.snoc X212 N211 g_b1
      have V_b1 : Arv Z h212 b1 k1 .char (9 : Int32) [(.int (w0_92 x0 x1 x2 x3)), (.int (w0_57 x0 x1 x2 x3)), (.int (w0_51 x0 x1 x2 x3)), (.int (w0_110 x0 x1 x2 x3)), (.int (0 : Int32)), (.int (0 : Int32)), (.int (0 : Int32)), (.int (0 : Int32)), (.int (0 : Int32))] (.int (0 : Int32)) := Arv.set Ar212 q212 S212 M212 Hs212 G212 (fits_nar_char _) W212 3 rfl (Nat.le_of_ble_eq_true rfl)
      refine GoesW.st (B := T212.setTop (mkF m 111 #[iv x0, jv x1, .second, iv x2, iv x3, iv (w0_10 x0 x1 x2 x3), rv b1, iv (w0_21 x0 x1 x2 x3), .unset, .unset, .unset, .unset, .unset, .unset] [])) st212 ?_
      refine GoesW.run X212 hx hown hci hcl hby (L := [(111, .aload 6, 2), (113, .iconst 4, 1), (114, .bipush 110, 2)]) (by decide +kernel) rfl (g' := (mkF m 116 #[iv x0, jv x1, .second, iv x2, iv x3, iv (w0_10 x0 x1 x2 x3), rv b1, iv (w0_21 x0 x1 x2 x3), .unset, .unset, .unset, .unset, .unset, .unset] [(.int (110 : Int32)), (.int (4 : Int32)), (.ref b1)])) rfl ?_
      obtain ⟨cl213, Ar213, q213, S213, M213, Hs213, G213⟩ := id V_b1
      have hin213 : ¬ ((4 : Int32) < 0 ∨ cl213.slots.size ≤ ((4 : Int32)).toNatClampNeg) := inb_of S213 ⟨(by decide), (by decide)⟩
      obtain ⟨T213, h213, X213, e213, W213, st213⟩ := stC X212 hx hZ e212 Ar213 (j := (4 : Int32)) hin213 (g := (mkF m 116 #[iv x0, jv x1, .second, iv x2, iv x3, iv (w0_10 x0 x1 x2 x3), rv b1, iv (w0_21 x0 x1 x2 x3), .unset, .unset, .unset, .unset, .unset, .unset] [(.int (110 : Int32)), (.int (4 : Int32)), (.ref b1)])) rfl rfl (hb hby at_116)
      have E_b1 := E_b1.wr W213
      have Zn213 : n0 ≤ h213.size := Nat.le_trans Zn212 (Keep.of_wr W213).1
      have Od213 := Od212.wr W213 g_b1
      have hk213e := Nat.le_trans hk212e (Keep.of_wr W213).1
      have N213 := Fr.snoc X213 N212 g_b1
      have V_b1 : Arv Z h213 b1 k1 .char (9 : Int32) [(.int (w0_92 x0 x1 x2 x3)), (.int (w0_57 x0 x1 x2 x3)), (.int (w0_51 x0 x1 x2 x3)), (.int (w0_110 x0 x1 x2 x3)), (.int (w0_45 x0 x1 x2 x3)), (.int (0 : Int32)), (.int (0 : Int32)), (.int (0 : Int32)), (.int (0 : Int32))] (.int (0 : Int32)) := Arv.set Ar213 q213 S213 M213 Hs213 G213 (fits_nar_char _) W213 4 rfl (Nat.le_of_ble_eq_true rfl)
      refine GoesW.st (B := T213.setTop (mkF m 117 #[iv x0, jv x1, .second, iv x2, iv x3, iv (w0_10 x0 x1 x2 x3), rv b1, iv (w0_21 x0 x1 x2 x3), .unset, .unset, .unset, .unset, .unset, .unset] [])) st213 ?_
      refine GoesW.run X213 hx hown hci hcl hby (L := [(117, .aload 6, 2), (119, .iconst 5, 1), (120, .bipush 101, 2)]) (by decide +kernel) rfl (g' := (mkF m 122 #[iv x0, jv x1, .second, iv x2, iv x3, iv (w0_10 x0 x1 x2 x3), rv b1, iv (w0_21 x0 x1 x2 x3), .unset, .unset, .unset, .unset, .unset, .unset] [(.int (101 : Int32)), (.int (5 : Int32)), (.ref b1)])) rfl ?_
      obtain ⟨cl214, Ar214, q214, S214, M214, Hs214, G214⟩ := id V_b1
      have hin214 : ¬ ((5 : Int32) < 0 ∨ cl214.slots.size ≤ ((5 : Int32)).toNatClampNeg) := inb_of S214 ⟨(by decide), (by decide)⟩
      obtain ⟨T214, h214, X214, e214, W214, st214⟩ := stC X213 hx hZ e213 Ar214 (j := (5 : Int32)) hin214 (g := (mkF m 122 #[iv x0, jv x1, .second, iv x2, iv x3, iv (w0_10 x0 x1 x2 x3), rv b1, iv (w0_21 x0 x1 x2 x3), .unset, .unset, .unset, .unset, .unset, .unset] [(.int (101 : Int32)), (.int (5 : Int32)), (.ref b1)])) rfl rfl (hb hby at_122)
      have E_b1 := E_b1.wr W214
      have Zn214 : n0 ≤ h214.size := Nat.le_trans Zn213 (Keep.of_wr W214).1
      have Od214 := Od213.wr W214 g_b1
      have hk214e := Nat.le_trans hk213e (Keep.of_wr W214).1
      have N214 := Fr.snoc X214 N213 g_b1
      have V_b1 : Arv Z h214 b1 k1 .char (9 : Int32) [(.int (w0_92 x0 x1 x2 x3)), (.int (w0_57 x0 x1 x2 x3)), (.int (w0_51 x0 x1 x2 x3)), (.int (w0_110 x0 x1 x2 x3)), (.int (w0_45 x0 x1 x2 x3)), (.int (w0_70 x0 x1 x2 x3)), (.int (0 : Int32)), (.int (0 : Int32)), (.int (0 : Int32))] (.int (0 : Int32)) := Arv.set Ar214 q214 S214 M214 Hs214 G214 (fits_nar_char _) W214 5 rfl (Nat.le_of_ble_eq_true rfl)
      refine GoesW.st (B := T214.setTop (mkF m 123 #[iv x0, jv x1, .second, iv x2, iv x3, iv (w0_10 x0 x1 x2 x3), rv b1, iv (w0_21 x0 x1 x2 x3), .unset, .unset, .unset, .unset, .unset, .unset] [])) st214 ?_
      refine GoesW.run X214 hx hown hci hcl hby (L := [(123, .aload 6, 2), (125, .bipush 6, 2), (127, .bipush 115, 2)]) (by decide +kernel) rfl (g' := (mkF m 129 #[iv x0, jv x1, .second, iv x2, iv x3, iv (w0_10 x0 x1 x2 x3), rv b1, iv (w0_21 x0 x1 x2 x3), .unset, .unset, .unset, .unset, .unset, .unset] [(.int (115 : Int32)), (.int (6 : Int32)), (.ref b1)])) rfl ?_
      obtain ⟨cl215, Ar215, q215, S215, M215, Hs215, G215⟩ := id V_b1
      have hin215 : ¬ ((6 : Int32) < 0 ∨ cl215.slots.size ≤ ((6 : Int32)).toNatClampNeg) := inb_of S215 ⟨(by decide), (by decide)⟩
      obtain ⟨T215, h215, X215, e215, W215, st215⟩ := stC X214 hx hZ e214 Ar215 (j := (6 : Int32)) hin215 (g := (mkF m 129 #[iv x0, jv x1, .second, iv x2, iv x3, iv (w0_10 x0 x1 x2 x3), rv b1, iv (w0_21 x0 x1 x2 x3), .unset, .unset, .unset, .unset, .unset, .unset] [(.int (115 : Int32)), (.int (6 : Int32)), (.ref b1)])) rfl rfl (hb hby at_129)
      have E_b1 := E_b1.wr W215
      have Zn215 : n0 ≤ h215.size := Nat.le_trans Zn214 (Keep.of_wr W215).1
      have Od215 := Od214.wr W215 g_b1
      have hk215e := Nat.le_trans hk214e (Keep.of_wr W215).1
      have N215 := Fr.snoc X215 N214 g_b1
      have V_b1 : Arv Z h215 b1 k1 .char (9 : Int32) [(.int (w0_92 x0 x1 x2 x3)), (.int (w0_57 x0 x1 x2 x3)), (.int (w0_51 x0 x1 x2 x3)), (.int (w0_110 x0 x1 x2 x3)), (.int (w0_45 x0 x1 x2 x3)), (.int (w0_70 x0 x1 x2 x3)), (.int (w0_51 x0 x1 x2 x3)), (.int (0 : Int32)), (.int (0 : Int32))] (.int (0 : Int32)) := Arv.set Ar215 q215 S215 M215 Hs215 G215 (fits_nar_char _) W215 6 rfl (Nat.le_of_ble_eq_true rfl)
      refine GoesW.st (B := T215.setTop (mkF m 130 #[iv x0, jv x1, .second, iv x2, iv x3, iv (w0_10 x0 x1 x2 x3), rv b1, iv (w0_21 x0 x1 x2 x3), .unset, .unset, .unset, .unset, .unset, .unset] [])) st215 ?_
      refine GoesW.run X215 hx hown hci hcl hby (L := [(130, .aload 6, 2), (132, .bipush 7, 2), (134, .bipush 115, 2)]) (by decide +kernel) rfl (g' := (mkF m 136 #[iv x0, jv x1, .second, iv x2, iv x3, iv (w0_10 x0 x1 x2 x3), rv b1, iv (w0_21 x0 x1 x2 x3), .unset, .unset, .unset, .unset, .unset, .unset] [(.int (115 : Int32)), (.int (7 : Int32)), (.ref b1)])) rfl ?_
      obtain ⟨cl216, Ar216, q216, S216, M216, Hs216, G216⟩ := id V_b1
      have hin216 : ¬ ((7 : Int32) < 0 ∨ cl216.slots.size ≤ ((7 : Int32)).toNatClampNeg) := inb_of S216 ⟨(by decide), (by decide)⟩
      obtain ⟨T216, h216, X216, e216, W216, st216⟩ := stC X215 hx hZ e215 Ar216 (j := (7 : Int32)) hin216 (g := (mkF m 136 #[iv x0, jv x1, .second, iv x2, iv x3, iv (w0_10 x0 x1 x2 x3), rv b1, iv (w0_21 x0 x1 x2 x3), .unset, .unset, .unset, .unset, .unset, .unset] [(.int (115 : Int32)), (.int (7 : Int32)), (.ref b1)])) rfl rfl (hb hby at_136)
      have E_b1 := E_b1.wr W216
      have Zn216 : n0 ≤ h216.size := Nat.le_trans Zn215 (Keep.of_wr W216).1
      have Od216 := Od215.wr W216 g_b1
      have hk216e := Nat.le_trans hk215e (Keep.of_wr W216).1
      have N216 := Fr.snoc X216 N215 g_b1
      have V_b1 : Arv Z h216 b1 k1 .char (9 : Int32) [(.int (w0_92 x0 x1 x2 x3)), (.int (w0_57 x0 x1 x2 x3)), (.int (w0_51 x0 x1 x2 x3)), (.int (w0_110 x0 x1 x2 x3)), (.int (w0_45 x0 x1 x2 x3)), (.int (w0_70 x0 x1 x2 x3)), (.int (w0_51 x0 x1 x2 x3)), (.int (w0_51 x0 x1 x2 x3)), (.int (0 : Int32))] (.int (0 : Int32)) := Arv.set Ar216 q216 S216 M216 Hs216 G216 (fits_nar_char _) W216 7 rfl (Nat.le_of_ble_eq_true rfl)
      refine GoesW.st (B := T216.setTop (mkF m 137 #[iv x0, jv x1, .second, iv x2, iv x3, iv (w0_10 x0 x1 x2 x3), rv b1, iv (w0_21 x0 x1 x2 x3), .unset, .unset, .unset, .unset, .unset, .unset] [])) st216 ?_
      refine GoesW.run X216 hx hown hci hcl hby (L := [(137, .goto 79, 3)]) (by decide +kernel) rfl (g' := (mkF m 216 #[iv x0, jv x1, .second, iv x2, iv x3, iv (w0_10 x0 x1 x2 x3), rv b1, iv (w0_21 x0 x1 x2 x3), .unset, .unset, .unset, .unset, .unset, .unset] [])) rfl ?_
      have q := jn216_37
      rw [show (j0_216_e0 x0 x1 x2 x3) = (w0_92 x0 x1 x2 x3) from ((if_neg hc25_2).trans (if_pos hc84_208)), show (j0_216_e1 x0 x1 x2 x3) = (w0_57 x0 x1 x2 x3) from ((if_neg hc25_2).trans (if_pos hc84_208)), show (j0_216_e2 x0 x1 x2 x3) = (w0_51 x0 x1 x2 x3) from ((if_neg hc25_2).trans (if_pos hc84_208)), show (j0_216_e3 x0 x1 x2 x3) = (w0_110 x0 x1 x2 x3) from ((if_neg hc25_2).trans (if_pos hc84_208)), show (j0_216_e4 x0 x1 x2 x3) = (w0_45 x0 x1 x2 x3) from ((if_neg hc25_2).trans (if_pos hc84_208)), show (j0_216_e5 x0 x1 x2 x3) = (w0_70 x0 x1 x2 x3) from ((if_neg hc25_2).trans (if_pos hc84_208)), show (j0_216_e6 x0 x1 x2 x3) = (w0_51 x0 x1 x2 x3) from ((if_neg hc25_2).trans (if_pos hc84_208)), show (j0_216_e7 x0 x1 x2 x3) = (w0_51 x0 x1 x2 x3) from ((if_neg hc25_2).trans (if_pos hc84_208))] at q
      exact q _ _ _ _ X216 e216 N216 Zn216 _ Sn0 hk216e hZ hown (own_IBm IB0 (by decide)) Od216 E_b1 V_b1
    · skip
      refine GoesW.st (B := T1.setTop (mkF m 140 #[iv x0, jv x1, .second, iv x2, iv x3, iv (w0_10 x0 x1 x2 x3), rv b1, iv (w0_21 x0 x1 x2 x3), .unset, .unset, .unset, .unset, .unset, .unset] [])) (fun t k => ?_) ?_
      · refine XS.icmpYes X1.here hx rfl (pc0 := 84) (pc' := 140) rfl (hb hby at_84) rfl (feq hc84_208).2 (by decide) (by decide) ?_
        exact k
      refine GoesW.run X1 hx hown hci hcl hby (L := [(140, .aload 6, 2), (142, .iconst 0, 1), (143, .lload_n 1, 1), (144, .iconst 0, 1)]) (by decide +kernel) rfl (g' := (mkF m 145 #[iv x0, jv x1, .second, iv x2, iv x3, iv (w0_10 x0 x1 x2 x3), rv b1, iv (w0_21 x0 x1 x2 x3), .unset, .unset, .unset, .unset, .unset, .unset] [(.int (0 : Int32)), (.long x1), (.int (0 : Int32)), (.ref b1)])) rfl ?_
      obtain ⟨_, _, ⟨T217, L217, k217, n217⟩, -, X217, ⟨Lc217, hQ217, l217, y217, z217⟩, st217⟩ := Jvm.LawKit.callS X1 hx (y := ym0) hown (mvT hZ w_93) (mvT hZ w_94) (mvT hZ w_95) (mvT hZ w_96) (by decide) (backOf (W := 2) (rm1 l Z a0 hw [] x1 (0 : Int32) h1 n0 Zn1 ) hZ w_96 w_95 (by decide) (by decide)) (g := (mkF m 145 #[iv x0, jv x1, .second, iv x2, iv x3, iv (w0_10 x0 x1 x2 x3), rv b1, iv (w0_21 x0 x1 x2 x3), .unset, .unset, .unset, .unset, .unset, .unset] [(.int (0 : Int32)), (.long x1), (.int (0 : Int32)), (.ref b1)])) rfl (by rw [hml]; rfl) (argsL := [(.long x1), (.int (0 : Int32))]) (rest := [(.int (0 : Int32)), (.ref b1)]) (lenOf pd0_0 rfl) rfl (by show 2 * 0 + _ ≤ _; exact Nat.le_of_eq rfl) (hb hby at_145) (fun _ _ => ⟨rfl, e1, (by decide : 1 + 0 ≤ _), (by decide : 9 + 0 ≤ _)⟩)
      dsimp only [Pt.U, Pt.locs, Pt.cells, Pt.slots] at X217 l217 y217 z217 st217 hQ217
      subst l217 y217 z217
      obtain ⟨rfl, N217q, e217⟩ := hQ217
      have N217 := Fr.app N0 N217q
      refine GoesW.st (B := T217.setTop (mkF m 148 #[iv x0, jv x1, .second, iv x2, iv x3, iv (w0_10 x0 x1 x2 x3), rv b1, iv (w0_21 x0 x1 x2 x3), .unset, .unset, .unset, .unset, .unset, .unset] [(.int (r1 x1 (0 : Int32))), (.int (0 : Int32)), (.ref b1)])) st217 ?_
      obtain ⟨cl218, Ar218, q218, S218, M218, Hs218, G218⟩ := id V_b1
      have hin218 : ¬ ((0 : Int32) < 0 ∨ cl218.slots.size ≤ ((0 : Int32)).toNatClampNeg) := inb_of S218 ⟨(by decide), (by decide)⟩
      obtain ⟨T218, h218, X218, e218, W218, st218⟩ := stC X217 hx hZ e217 Ar218 (j := (0 : Int32)) hin218 (g := (mkF m 148 #[iv x0, jv x1, .second, iv x2, iv x3, iv (w0_10 x0 x1 x2 x3), rv b1, iv (w0_21 x0 x1 x2 x3), .unset, .unset, .unset, .unset, .unset, .unset] [(.int (r1 x1 (0 : Int32))), (.int (0 : Int32)), (.ref b1)])) rfl rfl (hb hby at_148)
      have E_b1 := E_b1.wr W218
      have Zn218 : n0 ≤ h218.size := Nat.le_trans Zn1 (Keep.of_wr W218).1
      have Od218 := Od1.wr W218 g_b1
      have hk218e := Nat.le_trans hk1e (Keep.of_wr W218).1
      have N218 := Fr.snoc X218 N217 g_b1
      have V_b1 : Arv Z h218 b1 k1 .char (9 : Int32) [(.int (w0_148 x0 x1 x2 x3)), (.int (0 : Int32)), (.int (0 : Int32)), (.int (0 : Int32)), (.int (0 : Int32)), (.int (0 : Int32)), (.int (0 : Int32)), (.int (0 : Int32)), (.int (0 : Int32))] (.int (0 : Int32)) := Arv.set Ar218 q218 S218 M218 Hs218 G218 (fits_nar_char _) W218 0 rfl (Nat.le_of_ble_eq_true rfl)
      refine GoesW.st (B := T218.setTop (mkF m 149 #[iv x0, jv x1, .second, iv x2, iv x3, iv (w0_10 x0 x1 x2 x3), rv b1, iv (w0_21 x0 x1 x2 x3), .unset, .unset, .unset, .unset, .unset, .unset] [])) st218 ?_
      refine GoesW.run X218 hx hown hci hcl hby (L := [(149, .aload 6, 2), (151, .iconst 1, 1), (152, .lload_n 1, 1), (153, .iconst 1, 1)]) (by decide +kernel) rfl (g' := (mkF m 154 #[iv x0, jv x1, .second, iv x2, iv x3, iv (w0_10 x0 x1 x2 x3), rv b1, iv (w0_21 x0 x1 x2 x3), .unset, .unset, .unset, .unset, .unset, .unset] [(.int (1 : Int32)), (.long x1), (.int (1 : Int32)), (.ref b1)])) rfl ?_
      obtain ⟨_, _, ⟨T219, L219, k219, n219⟩, -, X219, ⟨Lc219, hQ219, l219, y219, z219⟩, st219⟩ := Jvm.LawKit.callS X218 hx (y := ym0) hown (mvT hZ w_93) (mvT hZ w_94) (mvT hZ w_95) (mvT hZ w_96) (by decide) (backOf (W := 2) (rm1 l Z a0 hw [] x1 (1 : Int32) h218 n0 Zn218 ) hZ w_96 w_95 (by decide) (by decide)) (g := (mkF m 154 #[iv x0, jv x1, .second, iv x2, iv x3, iv (w0_10 x0 x1 x2 x3), rv b1, iv (w0_21 x0 x1 x2 x3), .unset, .unset, .unset, .unset, .unset, .unset] [(.int (1 : Int32)), (.long x1), (.int (1 : Int32)), (.ref b1)])) rfl (by rw [hml]; rfl) (argsL := [(.long x1), (.int (1 : Int32))]) (rest := [(.int (1 : Int32)), (.ref b1)]) (lenOf pd0_0 rfl) rfl (by show 2 * 0 + _ ≤ _; exact Nat.le_of_eq rfl) (hb hby at_154) (fun _ _ => ⟨rfl, e218, (by decide : 1 + 0 ≤ _), (by decide : 9 + 0 ≤ _)⟩)
      dsimp only [Pt.U, Pt.locs, Pt.cells, Pt.slots] at X219 l219 y219 z219 st219 hQ219
      subst l219 y219 z219
      obtain ⟨rfl, N219q, e219⟩ := hQ219
      have N219 := Fr.app N218 N219q
      refine GoesW.st (B := T219.setTop (mkF m 157 #[iv x0, jv x1, .second, iv x2, iv x3, iv (w0_10 x0 x1 x2 x3), rv b1, iv (w0_21 x0 x1 x2 x3), .unset, .unset, .unset, .unset, .unset, .unset] [(.int (r1 x1 (1 : Int32))), (.int (1 : Int32)), (.ref b1)])) st219 ?_
      obtain ⟨cl220, Ar220, q220, S220, M220, Hs220, G220⟩ := id V_b1
      have hin220 : ¬ ((1 : Int32) < 0 ∨ cl220.slots.size ≤ ((1 : Int32)).toNatClampNeg) := inb_of S220 ⟨(by decide), (by decide)⟩
      obtain ⟨T220, h220, X220, e220, W220, st220⟩ := stC X219 hx hZ e219 Ar220 (j := (1 : Int32)) hin220 (g := (mkF m 157 #[iv x0, jv x1, .second, iv x2, iv x3, iv (w0_10 x0 x1 x2 x3), rv b1, iv (w0_21 x0 x1 x2 x3), .unset, .unset, .unset, .unset, .unset, .unset] [(.int (r1 x1 (1 : Int32))), (.int (1 : Int32)), (.ref b1)])) rfl rfl (hb hby at_157)
      have E_b1 := E_b1.wr W220
      have Zn220 : n0 ≤ h220.size := Nat.le_trans Zn218 (Keep.of_wr W220).1
      have Od220 := Od218.wr W220 g_b1
      have hk220e := Nat.le_trans hk218e (Keep.of_wr W220).1
      have N220 := Fr.snoc X220 N219 g_b1
      have V_b1 : Arv Z h220 b1 k1 .char (9 : Int32) [(.int (w0_148 x0 x1 x2 x3)), (.int (w0_157 x0 x1 x2 x3)), (.int (0 : Int32)), (.int (0 : Int32)), (.int (0 : Int32)), (.int (0 : Int32)), (.int (0 : Int32)), (.int (0 : Int32)), (.int (0 : Int32))] (.int (0 : Int32)) := Arv.set Ar220 q220 S220 M220 Hs220 G220 (fits_nar_char _) W220 1 rfl (Nat.le_of_ble_eq_true rfl)
      refine GoesW.st (B := T220.setTop (mkF m 158 #[iv x0, jv x1, .second, iv x2, iv x3, iv (w0_10 x0 x1 x2 x3), rv b1, iv (w0_21 x0 x1 x2 x3), .unset, .unset, .unset, .unset, .unset, .unset] [])) st220 ?_
      refine GoesW.run X220 hx hown hci hcl hby (L := [(158, .aload 6, 2), (160, .iconst 2, 1), (161, .lload_n 1, 1), (162, .iconst 2, 1)]) (by decide +kernel) rfl (g' := (mkF m 163 #[iv x0, jv x1, .second, iv x2, iv x3, iv (w0_10 x0 x1 x2 x3), rv b1, iv (w0_21 x0 x1 x2 x3), .unset, .unset, .unset, .unset, .unset, .unset] [(.int (2 : Int32)), (.long x1), (.int (2 : Int32)), (.ref b1)])) rfl ?_
      obtain ⟨_, _, ⟨T221, L221, k221, n221⟩, -, X221, ⟨Lc221, hQ221, l221, y221, z221⟩, st221⟩ := Jvm.LawKit.callS X220 hx (y := ym0) hown (mvT hZ w_93) (mvT hZ w_94) (mvT hZ w_95) (mvT hZ w_96) (by decide) (backOf (W := 2) (rm1 l Z a0 hw [] x1 (2 : Int32) h220 n0 Zn220 ) hZ w_96 w_95 (by decide) (by decide)) (g := (mkF m 163 #[iv x0, jv x1, .second, iv x2, iv x3, iv (w0_10 x0 x1 x2 x3), rv b1, iv (w0_21 x0 x1 x2 x3), .unset, .unset, .unset, .unset, .unset, .unset] [(.int (2 : Int32)), (.long x1), (.int (2 : Int32)), (.ref b1)])) rfl (by rw [hml]; rfl) (argsL := [(.long x1), (.int (2 : Int32))]) (rest := [(.int (2 : Int32)), (.ref b1)]) (lenOf pd0_0 rfl) rfl (by show 2 * 0 + _ ≤ _; exact Nat.le_of_eq rfl) (hb hby at_163) (fun _ _ => ⟨rfl, e220, (by decide : 1 + 0 ≤ _), (by decide : 9 + 0 ≤ _)⟩)
      dsimp only [Pt.U, Pt.locs, Pt.cells, Pt.slots] at X221 l221 y221 z221 st221 hQ221
      subst l221 y221 z221
      obtain ⟨rfl, N221q, e221⟩ := hQ221
      have N221 := Fr.app N220 N221q
      refine GoesW.st (B := T221.setTop (mkF m 166 #[iv x0, jv x1, .second, iv x2, iv x3, iv (w0_10 x0 x1 x2 x3), rv b1, iv (w0_21 x0 x1 x2 x3), .unset, .unset, .unset, .unset, .unset, .unset] [(.int (r1 x1 (2 : Int32))), (.int (2 : Int32)), (.ref b1)])) st221 ?_
      obtain ⟨cl222, Ar222, q222, S222, M222, Hs222, G222⟩ := id V_b1
      have hin222 : ¬ ((2 : Int32) < 0 ∨ cl222.slots.size ≤ ((2 : Int32)).toNatClampNeg) := inb_of S222 ⟨(by decide), (by decide)⟩
      obtain ⟨T222, h222, X222, e222, W222, st222⟩ := stC X221 hx hZ e221 Ar222 (j := (2 : Int32)) hin222 (g := (mkF m 166 #[iv x0, jv x1, .second, iv x2, iv x3, iv (w0_10 x0 x1 x2 x3), rv b1, iv (w0_21 x0 x1 x2 x3), .unset, .unset, .unset, .unset, .unset, .unset] [(.int (r1 x1 (2 : Int32))), (.int (2 : Int32)), (.ref b1)])) rfl rfl (hb hby at_166)
      have E_b1 := E_b1.wr W222
      have Zn222 : n0 ≤ h222.size := Nat.le_trans Zn220 (Keep.of_wr W222).1
      have Od222 := Od220.wr W222 g_b1
      have hk222e := Nat.le_trans hk220e (Keep.of_wr W222).1
      have N222 := Fr.snoc X222 N221 g_b1
      have V_b1 : Arv Z h222 b1 k1 .char (9 : Int32) [(.int (w0_148 x0 x1 x2 x3)), (.int (w0_157 x0 x1 x2 x3)), (.int (w0_166 x0 x1 x2 x3)), (.int (0 : Int32)), (.int (0 : Int32)), (.int (0 : Int32)), (.int (0 : Int32)), (.int (0 : Int32)), (.int (0 : Int32))] (.int (0 : Int32)) := Arv.set Ar222 q222 S222 M222 Hs222 G222 (fits_nar_char _) W222 2 rfl (Nat.le_of_ble_eq_true rfl)
      refine GoesW.st (B := T222.setTop (mkF m 167 #[iv x0, jv x1, .second, iv x2, iv x3, iv (w0_10 x0 x1 x2 x3), rv b1, iv (w0_21 x0 x1 x2 x3), .unset, .unset, .unset, .unset, .unset, .unset] [])) st222 ?_
      refine GoesW.run X222 hx hown hci hcl hby (L := [(167, .aload 6, 2), (169, .iconst 3, 1), (170, .lload_n 1, 1), (171, .iconst 3, 1)]) (by decide +kernel) rfl (g' := (mkF m 172 #[iv x0, jv x1, .second, iv x2, iv x3, iv (w0_10 x0 x1 x2 x3), rv b1, iv (w0_21 x0 x1 x2 x3), .unset, .unset, .unset, .unset, .unset, .unset] [(.int (3 : Int32)), (.long x1), (.int (3 : Int32)), (.ref b1)])) rfl ?_
      obtain ⟨_, _, ⟨T223, L223, k223, n223⟩, -, X223, ⟨Lc223, hQ223, l223, y223, z223⟩, st223⟩ := Jvm.LawKit.callS X222 hx (y := ym0) hown (mvT hZ w_93) (mvT hZ w_94) (mvT hZ w_95) (mvT hZ w_96) (by decide) (backOf (W := 2) (rm1 l Z a0 hw [] x1 (3 : Int32) h222 n0 Zn222 ) hZ w_96 w_95 (by decide) (by decide)) (g := (mkF m 172 #[iv x0, jv x1, .second, iv x2, iv x3, iv (w0_10 x0 x1 x2 x3), rv b1, iv (w0_21 x0 x1 x2 x3), .unset, .unset, .unset, .unset, .unset, .unset] [(.int (3 : Int32)), (.long x1), (.int (3 : Int32)), (.ref b1)])) rfl (by rw [hml]; rfl) (argsL := [(.long x1), (.int (3 : Int32))]) (rest := [(.int (3 : Int32)), (.ref b1)]) (lenOf pd0_0 rfl) rfl (by show 2 * 0 + _ ≤ _; exact Nat.le_of_eq rfl) (hb hby at_172) (fun _ _ => ⟨rfl, e222, (by decide : 1 + 0 ≤ _), (by decide : 9 + 0 ≤ _)⟩)
      dsimp only [Pt.U, Pt.locs, Pt.cells, Pt.slots] at X223 l223 y223 z223 st223 hQ223
      subst l223 y223 z223
      obtain ⟨rfl, N223q, e223⟩ := hQ223
      have N223 := Fr.app N222 N223q
      refine GoesW.st (B := T223.setTop (mkF m 175 #[iv x0, jv x1, .second, iv x2, iv x3, iv (w0_10 x0 x1 x2 x3), rv b1, iv (w0_21 x0 x1 x2 x3), .unset, .unset, .unset, .unset, .unset, .unset] [(.int (r1 x1 (3 : Int32))), (.int (3 : Int32)), (.ref b1)])) st223 ?_
      obtain ⟨cl224, Ar224, q224, S224, M224, Hs224, G224⟩ := id V_b1
      have hin224 : ¬ ((3 : Int32) < 0 ∨ cl224.slots.size ≤ ((3 : Int32)).toNatClampNeg) := inb_of S224 ⟨(by decide), (by decide)⟩
      obtain ⟨T224, h224, X224, e224, W224, st224⟩ := stC X223 hx hZ e223 Ar224 (j := (3 : Int32)) hin224 (g := (mkF m 175 #[iv x0, jv x1, .second, iv x2, iv x3, iv (w0_10 x0 x1 x2 x3), rv b1, iv (w0_21 x0 x1 x2 x3), .unset, .unset, .unset, .unset, .unset, .unset] [(.int (r1 x1 (3 : Int32))), (.int (3 : Int32)), (.ref b1)])) rfl rfl (hb hby at_175)
      have E_b1 := E_b1.wr W224
      have Zn224 : n0 ≤ h224.size := Nat.le_trans Zn222 (Keep.of_wr W224).1
      have Od224 := Od222.wr W224 g_b1
      have hk224e := Nat.le_trans hk222e (Keep.of_wr W224).1
      have N224 := Fr.snoc X224 N223 g_b1
      have V_b1 : Arv Z h224 b1 k1 .char (9 : Int32) [(.int (w0_148 x0 x1 x2 x3)), (.int (w0_157 x0 x1 x2 x3)), (.int (w0_166 x0 x1 x2 x3)), (.int (w0_175 x0 x1 x2 x3)), (.int (0 : Int32)), (.int (0 : Int32)), (.int (0 : Int32)), (.int (0 : Int32)), (.int (0 : Int32))] (.int (0 : Int32)) := Arv.set Ar224 q224 S224 M224 Hs224 G224 (fits_nar_char _) W224 3 rfl (Nat.le_of_ble_eq_true rfl)
      refine GoesW.st (B := T224.setTop (mkF m 176 #[iv x0, jv x1, .second, iv x2, iv x3, iv (w0_10 x0 x1 x2 x3), rv b1, iv (w0_21 x0 x1 x2 x3), .unset, .unset, .unset, .unset, .unset, .unset] [])) st224 ?_
      refine GoesW.run X224 hx hown hci hcl hby (L := [(176, .aload 6, 2), (178, .iconst 4, 1), (179, .lload_n 1, 1), (180, .iconst 4, 1)]) (by decide +kernel) rfl (g' := (mkF m 181 #[iv x0, jv x1, .second, iv x2, iv x3, iv (w0_10 x0 x1 x2 x3), rv b1, iv (w0_21 x0 x1 x2 x3), .unset, .unset, .unset, .unset, .unset, .unset] [(.int (4 : Int32)), (.long x1), (.int (4 : Int32)), (.ref b1)])) rfl ?_
      obtain ⟨_, _, ⟨T225, L225, k225, n225⟩, -, X225, ⟨Lc225, hQ225, l225, y225, z225⟩, st225⟩ := Jvm.LawKit.callS X224 hx (y := ym0) hown (mvT hZ w_93) (mvT hZ w_94) (mvT hZ w_95) (mvT hZ w_96) (by decide) (backOf (W := 2) (rm1 l Z a0 hw [] x1 (4 : Int32) h224 n0 Zn224 ) hZ w_96 w_95 (by decide) (by decide)) (g := (mkF m 181 #[iv x0, jv x1, .second, iv x2, iv x3, iv (w0_10 x0 x1 x2 x3), rv b1, iv (w0_21 x0 x1 x2 x3), .unset, .unset, .unset, .unset, .unset, .unset] [(.int (4 : Int32)), (.long x1), (.int (4 : Int32)), (.ref b1)])) rfl (by rw [hml]; rfl) (argsL := [(.long x1), (.int (4 : Int32))]) (rest := [(.int (4 : Int32)), (.ref b1)]) (lenOf pd0_0 rfl) rfl (by show 2 * 0 + _ ≤ _; exact Nat.le_of_eq rfl) (hb hby at_181) (fun _ _ => ⟨rfl, e224, (by decide : 1 + 0 ≤ _), (by decide : 9 + 0 ≤ _)⟩)
      dsimp only [Pt.U, Pt.locs, Pt.cells, Pt.slots] at X225 l225 y225 z225 st225 hQ225
      subst l225 y225 z225
      obtain ⟨rfl, N225q, e225⟩ := hQ225
      have N225 := Fr.app N224 N225q
      refine GoesW.st (B := T225.setTop (mkF m 184 #[iv x0, jv x1, .second, iv x2, iv x3, iv (w0_10 x0 x1 x2 x3), rv b1, iv (w0_21 x0 x1 x2 x3), .unset, .unset, .unset, .unset, .unset, .unset] [(.int (r1 x1 (4 : Int32))), (.int (4 : Int32)), (.ref b1)])) st225 ?_
      obtain ⟨cl226, Ar226, q226, S226, M226, Hs226, G226⟩ := id V_b1
      have hin226 : ¬ ((4 : Int32) < 0 ∨ cl226.slots.size ≤ ((4 : Int32)).toNatClampNeg) := inb_of S226 ⟨(by decide), (by decide)⟩
      obtain ⟨T226, h226, X226, e226, W226, st226⟩ := stC X225 hx hZ e225 Ar226 (j := (4 : Int32)) hin226 (g := (mkF m 184 #[iv x0, jv x1, .second, iv x2, iv x3, iv (w0_10 x0 x1 x2 x3), rv b1, iv (w0_21 x0 x1 x2 x3), .unset, .unset, .unset, .unset, .unset, .unset] [(.int (r1 x1 (4 : Int32))), (.int (4 : Int32)), (.ref b1)])) rfl rfl (hb hby at_184)
      have E_b1 := E_b1.wr W226
      have Zn226 : n0 ≤ h226.size := Nat.le_trans Zn224 (Keep.of_wr W226).1
      have Od226 := Od224.wr W226 g_b1
      have hk226e := Nat.le_trans hk224e (Keep.of_wr W226).1
      have N226 := Fr.snoc X226 N225 g_b1
      have V_b1 : Arv Z h226 b1 k1 .char (9 : Int32) [(.int (w0_148 x0 x1 x2 x3)), (.int (w0_157 x0 x1 x2 x3)), (.int (w0_166 x0 x1 x2 x3)), (.int (w0_175 x0 x1 x2 x3)), (.int (w0_184 x0 x1 x2 x3)), (.int (0 : Int32)), (.int (0 : Int32)), (.int (0 : Int32)), (.int (0 : Int32))] (.int (0 : Int32)) := Arv.set Ar226 q226 S226 M226 Hs226 G226 (fits_nar_char _) W226 4 rfl (Nat.le_of_ble_eq_true rfl)
      refine GoesW.st (B := T226.setTop (mkF m 185 #[iv x0, jv x1, .second, iv x2, iv x3, iv (w0_10 x0 x1 x2 x3), rv b1, iv (w0_21 x0 x1 x2 x3), .unset, .unset, .unset, .unset, .unset, .unset] [])) st226 ?_
      refine GoesW.run X226 hx hown hci hcl hby (L := [(185, .aload 6, 2), (187, .iconst 5, 1), (188, .lload_n 1, 1), (189, .iconst 5, 1)]) (by decide +kernel) rfl (g' := (mkF m 190 #[iv x0, jv x1, .second, iv x2, iv x3, iv (w0_10 x0 x1 x2 x3), rv b1, iv (w0_21 x0 x1 x2 x3), .unset, .unset, .unset, .unset, .unset, .unset] [(.int (5 : Int32)), (.long x1), (.int (5 : Int32)), (.ref b1)])) rfl ?_
      obtain ⟨_, _, ⟨T227, L227, k227, n227⟩, -, X227, ⟨Lc227, hQ227, l227, y227, z227⟩, st227⟩ := Jvm.LawKit.callS X226 hx (y := ym0) hown (mvT hZ w_93) (mvT hZ w_94) (mvT hZ w_95) (mvT hZ w_96) (by decide) (backOf (W := 2) (rm1 l Z a0 hw [] x1 (5 : Int32) h226 n0 Zn226 ) hZ w_96 w_95 (by decide) (by decide)) (g := (mkF m 190 #[iv x0, jv x1, .second, iv x2, iv x3, iv (w0_10 x0 x1 x2 x3), rv b1, iv (w0_21 x0 x1 x2 x3), .unset, .unset, .unset, .unset, .unset, .unset] [(.int (5 : Int32)), (.long x1), (.int (5 : Int32)), (.ref b1)])) rfl (by rw [hml]; rfl) (argsL := [(.long x1), (.int (5 : Int32))]) (rest := [(.int (5 : Int32)), (.ref b1)]) (lenOf pd0_0 rfl) rfl (by show 2 * 0 + _ ≤ _; exact Nat.le_of_eq rfl) (hb hby at_190) (fun _ _ => ⟨rfl, e226, (by decide : 1 + 0 ≤ _), (by decide : 9 + 0 ≤ _)⟩)
      dsimp only [Pt.U, Pt.locs, Pt.cells, Pt.slots] at X227 l227 y227 z227 st227 hQ227
      subst l227 y227 z227
      obtain ⟨rfl, N227q, e227⟩ := hQ227
      have N227 := Fr.app N226 N227q
      refine GoesW.st (B := T227.setTop (mkF m 193 #[iv x0, jv x1, .second, iv x2, iv x3, iv (w0_10 x0 x1 x2 x3), rv b1, iv (w0_21 x0 x1 x2 x3), .unset, .unset, .unset, .unset, .unset, .unset] [(.int (r1 x1 (5 : Int32))), (.int (5 : Int32)), (.ref b1)])) st227 ?_
      obtain ⟨cl228, Ar228, q228, S228, M228, Hs228, G228⟩ := id V_b1
      have hin228 : ¬ ((5 : Int32) < 0 ∨ cl228.slots.size ≤ ((5 : Int32)).toNatClampNeg) := inb_of S228 ⟨(by decide), (by decide)⟩
      obtain ⟨T228, h228, X228, e228, W228, st228⟩ := stC X227 hx hZ e227 Ar228 (j := (5 : Int32)) hin228 (g := (mkF m 193 #[iv x0, jv x1, .second, iv x2, iv x3, iv (w0_10 x0 x1 x2 x3), rv b1, iv (w0_21 x0 x1 x2 x3), .unset, .unset, .unset, .unset, .unset, .unset] [(.int (r1 x1 (5 : Int32))), (.int (5 : Int32)), (.ref b1)])) rfl rfl (hb hby at_193)
      have E_b1 := E_b1.wr W228
      have Zn228 : n0 ≤ h228.size := Nat.le_trans Zn226 (Keep.of_wr W228).1
      have Od228 := Od226.wr W228 g_b1
      have hk228e := Nat.le_trans hk226e (Keep.of_wr W228).1
      have N228 := Fr.snoc X228 N227 g_b1
      have V_b1 : Arv Z h228 b1 k1 .char (9 : Int32) [(.int (w0_148 x0 x1 x2 x3)), (.int (w0_157 x0 x1 x2 x3)), (.int (w0_166 x0 x1 x2 x3)), (.int (w0_175 x0 x1 x2 x3)), (.int (w0_184 x0 x1 x2 x3)), (.int (w0_193 x0 x1 x2 x3)), (.int (0 : Int32)), (.int (0 : Int32)), (.int (0 : Int32))] (.int (0 : Int32)) := Arv.set Ar228 q228 S228 M228 Hs228 G228 (fits_nar_char _) W228 5 rfl (Nat.le_of_ble_eq_true rfl)
      refine GoesW.st (B := T228.setTop (mkF m 194 #[iv x0, jv x1, .second, iv x2, iv x3, iv (w0_10 x0 x1 x2 x3), rv b1, iv (w0_21 x0 x1 x2 x3), .unset, .unset, .unset, .unset, .unset, .unset] [])) st228 ?_
      refine GoesW.run X228 hx hown hci hcl hby (L := [(194, .aload 6, 2), (196, .bipush 6, 2), (198, .lload_n 1, 1), (199, .bipush 6, 2)]) (by decide +kernel) rfl (g' := (mkF m 201 #[iv x0, jv x1, .second, iv x2, iv x3, iv (w0_10 x0 x1 x2 x3), rv b1, iv (w0_21 x0 x1 x2 x3), .unset, .unset, .unset, .unset, .unset, .unset] [(.int (6 : Int32)), (.long x1), (.int (6 : Int32)), (.ref b1)])) rfl ?_
      obtain ⟨_, _, ⟨T229, L229, k229, n229⟩, -, X229, ⟨Lc229, hQ229, l229, y229, z229⟩, st229⟩ := Jvm.LawKit.callS X228 hx (y := ym0) hown (mvT hZ w_93) (mvT hZ w_94) (mvT hZ w_95) (mvT hZ w_96) (by decide) (backOf (W := 2) (rm1 l Z a0 hw [] x1 (6 : Int32) h228 n0 Zn228 ) hZ w_96 w_95 (by decide) (by decide)) (g := (mkF m 201 #[iv x0, jv x1, .second, iv x2, iv x3, iv (w0_10 x0 x1 x2 x3), rv b1, iv (w0_21 x0 x1 x2 x3), .unset, .unset, .unset, .unset, .unset, .unset] [(.int (6 : Int32)), (.long x1), (.int (6 : Int32)), (.ref b1)])) rfl (by rw [hml]; rfl) (argsL := [(.long x1), (.int (6 : Int32))]) (rest := [(.int (6 : Int32)), (.ref b1)]) (lenOf pd0_0 rfl) rfl (by show 2 * 0 + _ ≤ _; exact Nat.le_of_eq rfl) (hb hby at_201) (fun _ _ => ⟨rfl, e228, (by decide : 1 + 0 ≤ _), (by decide : 9 + 0 ≤ _)⟩)
      dsimp only [Pt.U, Pt.locs, Pt.cells, Pt.slots] at X229 l229 y229 z229 st229 hQ229
      subst l229 y229 z229
      obtain ⟨rfl, N229q, e229⟩ := hQ229
      have N229 := Fr.app N228 N229q
      refine GoesW.st (B := T229.setTop (mkF m 204 #[iv x0, jv x1, .second, iv x2, iv x3, iv (w0_10 x0 x1 x2 x3), rv b1, iv (w0_21 x0 x1 x2 x3), .unset, .unset, .unset, .unset, .unset, .unset] [(.int (r1 x1 (6 : Int32))), (.int (6 : Int32)), (.ref b1)])) st229 ?_
      obtain ⟨cl230, Ar230, q230, S230, M230, Hs230, G230⟩ := id V_b1
      have hin230 : ¬ ((6 : Int32) < 0 ∨ cl230.slots.size ≤ ((6 : Int32)).toNatClampNeg) := inb_of S230 ⟨(by decide), (by decide)⟩
      obtain ⟨T230, h230, X230, e230, W230, st230⟩ := stC X229 hx hZ e229 Ar230 (j := (6 : Int32)) hin230 (g := (mkF m 204 #[iv x0, jv x1, .second, iv x2, iv x3, iv (w0_10 x0 x1 x2 x3), rv b1, iv (w0_21 x0 x1 x2 x3), .unset, .unset, .unset, .unset, .unset, .unset] [(.int (r1 x1 (6 : Int32))), (.int (6 : Int32)), (.ref b1)])) rfl rfl (hb hby at_204)
      have E_b1 := E_b1.wr W230
      have Zn230 : n0 ≤ h230.size := Nat.le_trans Zn228 (Keep.of_wr W230).1
      have Od230 := Od228.wr W230 g_b1
      have hk230e := Nat.le_trans hk228e (Keep.of_wr W230).1
      have N230 := Fr.snoc X230 N229 g_b1
      have V_b1 : Arv Z h230 b1 k1 .char (9 : Int32) [(.int (w0_148 x0 x1 x2 x3)), (.int (w0_157 x0 x1 x2 x3)), (.int (w0_166 x0 x1 x2 x3)), (.int (w0_175 x0 x1 x2 x3)), (.int (w0_184 x0 x1 x2 x3)), (.int (w0_193 x0 x1 x2 x3)), (.int (w0_204 x0 x1 x2 x3)), (.int (0 : Int32)), (.int (0 : Int32))] (.int (0 : Int32)) := Arv.set Ar230 q230 S230 M230 Hs230 G230 (fits_nar_char _) W230 6 rfl (Nat.le_of_ble_eq_true rfl)
      refine GoesW.st (B := T230.setTop (mkF m 205 #[iv x0, jv x1, .second, iv x2, iv x3, iv (w0_10 x0 x1 x2 x3), rv b1, iv (w0_21 x0 x1 x2 x3), .unset, .unset, .unset, .unset, .unset, .unset] [])) st230 ?_
      refine GoesW.run X230 hx hown hci hcl hby (L := [(205, .aload 6, 2), (207, .bipush 7, 2), (209, .lload_n 1, 1), (210, .bipush 7, 2)]) (by decide +kernel) rfl (g' := (mkF m 212 #[iv x0, jv x1, .second, iv x2, iv x3, iv (w0_10 x0 x1 x2 x3), rv b1, iv (w0_21 x0 x1 x2 x3), .unset, .unset, .unset, .unset, .unset, .unset] [(.int (7 : Int32)), (.long x1), (.int (7 : Int32)), (.ref b1)])) rfl ?_
      obtain ⟨_, _, ⟨T231, L231, k231, n231⟩, -, X231, ⟨Lc231, hQ231, l231, y231, z231⟩, st231⟩ := Jvm.LawKit.callS X230 hx (y := ym0) hown (mvT hZ w_93) (mvT hZ w_94) (mvT hZ w_95) (mvT hZ w_96) (by decide) (backOf (W := 2) (rm1 l Z a0 hw [] x1 (7 : Int32) h230 n0 Zn230 ) hZ w_96 w_95 (by decide) (by decide)) (g := (mkF m 212 #[iv x0, jv x1, .second, iv x2, iv x3, iv (w0_10 x0 x1 x2 x3), rv b1, iv (w0_21 x0 x1 x2 x3), .unset, .unset, .unset, .unset, .unset, .unset] [(.int (7 : Int32)), (.long x1), (.int (7 : Int32)), (.ref b1)])) rfl (by rw [hml]; rfl) (argsL := [(.long x1), (.int (7 : Int32))]) (rest := [(.int (7 : Int32)), (.ref b1)]) (lenOf pd0_0 rfl) rfl (by show 2 * 0 + _ ≤ _; exact Nat.le_of_eq rfl) (hb hby at_212) (fun _ _ => ⟨rfl, e230, (by decide : 1 + 0 ≤ _), (by decide : 9 + 0 ≤ _)⟩)
      dsimp only [Pt.U, Pt.locs, Pt.cells, Pt.slots] at X231 l231 y231 z231 st231 hQ231
      subst l231 y231 z231
      obtain ⟨rfl, N231q, e231⟩ := hQ231
      have N231 := Fr.app N230 N231q
      refine GoesW.st (B := T231.setTop (mkF m 215 #[iv x0, jv x1, .second, iv x2, iv x3, iv (w0_10 x0 x1 x2 x3), rv b1, iv (w0_21 x0 x1 x2 x3), .unset, .unset, .unset, .unset, .unset, .unset] [(.int (r1 x1 (7 : Int32))), (.int (7 : Int32)), (.ref b1)])) st231 ?_
      obtain ⟨cl232, Ar232, q232, S232, M232, Hs232, G232⟩ := id V_b1
      have hin232 : ¬ ((7 : Int32) < 0 ∨ cl232.slots.size ≤ ((7 : Int32)).toNatClampNeg) := inb_of S232 ⟨(by decide), (by decide)⟩
      obtain ⟨T232, h232, X232, e232, W232, st232⟩ := stC X231 hx hZ e231 Ar232 (j := (7 : Int32)) hin232 (g := (mkF m 215 #[iv x0, jv x1, .second, iv x2, iv x3, iv (w0_10 x0 x1 x2 x3), rv b1, iv (w0_21 x0 x1 x2 x3), .unset, .unset, .unset, .unset, .unset, .unset] [(.int (r1 x1 (7 : Int32))), (.int (7 : Int32)), (.ref b1)])) rfl rfl (hb hby at_215)
      have E_b1 := E_b1.wr W232
      have Zn232 : n0 ≤ h232.size := Nat.le_trans Zn230 (Keep.of_wr W232).1
      have Od232 := Od230.wr W232 g_b1
      have hk232e := Nat.le_trans hk230e (Keep.of_wr W232).1
      have N232 := Fr.snoc X232 N231 g_b1
      have V_b1 : Arv Z h232 b1 k1 .char (9 : Int32) [(.int (w0_148 x0 x1 x2 x3)), (.int (w0_157 x0 x1 x2 x3)), (.int (w0_166 x0 x1 x2 x3)), (.int (w0_175 x0 x1 x2 x3)), (.int (w0_184 x0 x1 x2 x3)), (.int (w0_193 x0 x1 x2 x3)), (.int (w0_204 x0 x1 x2 x3)), (.int (w0_215 x0 x1 x2 x3)), (.int (0 : Int32))] (.int (0 : Int32)) := Arv.set Ar232 q232 S232 M232 Hs232 G232 (fits_nar_char _) W232 7 rfl (Nat.le_of_ble_eq_true rfl)
      refine GoesW.st (B := T232.setTop (mkF m 216 #[iv x0, jv x1, .second, iv x2, iv x3, iv (w0_10 x0 x1 x2 x3), rv b1, iv (w0_21 x0 x1 x2 x3), .unset, .unset, .unset, .unset, .unset, .unset] [])) st232 ?_
      have q := jn216_37
      rw [show (j0_216_e0 x0 x1 x2 x3) = (w0_148 x0 x1 x2 x3) from ((if_neg hc25_2).trans (if_neg hc84_208)), show (j0_216_e1 x0 x1 x2 x3) = (w0_157 x0 x1 x2 x3) from ((if_neg hc25_2).trans (if_neg hc84_208)), show (j0_216_e2 x0 x1 x2 x3) = (w0_166 x0 x1 x2 x3) from ((if_neg hc25_2).trans (if_neg hc84_208)), show (j0_216_e3 x0 x1 x2 x3) = (w0_175 x0 x1 x2 x3) from ((if_neg hc25_2).trans (if_neg hc84_208)), show (j0_216_e4 x0 x1 x2 x3) = (w0_184 x0 x1 x2 x3) from ((if_neg hc25_2).trans (if_neg hc84_208)), show (j0_216_e5 x0 x1 x2 x3) = (w0_193 x0 x1 x2 x3) from ((if_neg hc25_2).trans (if_neg hc84_208)), show (j0_216_e6 x0 x1 x2 x3) = (w0_204 x0 x1 x2 x3) from ((if_neg hc25_2).trans (if_neg hc84_208)), show (j0_216_e7 x0 x1 x2 x3) = (w0_215 x0 x1 x2 x3) from ((if_neg hc25_2).trans (if_neg hc84_208))] at q
      exact q _ _ _ _ X232 e232 N232 Zn232 _ Sn0 hk232e hZ hown (own_IBm IB0 (by decide)) Od232 E_b1 V_b1
theorem own_size {Z : State} {args : Array Value} {t : Term} {a : Addr} {cl : Cell} {z : Int32} (ev : t.eval args Z none [] Z = some (.ref a)) (ha : Z.arrayAt? a = some cl) (h : (Term.length t).eval args Z none [] Z = some (.int z)) : cl.slots.size < 2 ^ 31 ∧ cl.slots.size.toInt32 = z := by
  simp only [Term.eval, ev, ha, Option.bind_eq_bind, Option.bind_some, Option.pure_def] at h
  split at h
  · rename_i q
    exact ⟨q, Value.int.inj (Option.some.inj h)⟩
  · cases h
theorem own_str {Z : State} {args : Array Value} {t : Term} {x : Addr} (hf : Fit Z) (et : t.eval args Z none [] Z = some (.ref x)) {c0 c1 c2 c3 c4 c5 c6 c7 : Int32} (h1 : (Cond.exactly (.field t "com/example/mahnwerk/mahnwerk/model/DebtorKind" "written" "Ljava/lang/String;") "java/lang/String").value args Z none Z [] = some true) (h2 : (Cond.eq (.field (.field t "com/example/mahnwerk/mahnwerk/model/DebtorKind" "written" "Ljava/lang/String;") "java/lang/String" "coder" "B") (.int 0)).value args Z none Z [] = some true) (h3 : (Cond.arrayOf (.field (.field t "com/example/mahnwerk/mahnwerk/model/DebtorKind" "written" "Ljava/lang/String;") "java/lang/String" "value" "[B") .byte).value args Z none Z [] = some true) (h4 : (Cond.eq (.length (.field (.field t "com/example/mahnwerk/mahnwerk/model/DebtorKind" "written" "Ljava/lang/String;") "java/lang/String" "value" "[B")) (.int 8)).value args Z none Z [] = some true)
    (k0 : (Cond.eq (.elem (.field (.field t "com/example/mahnwerk/mahnwerk/model/DebtorKind" "written" "Ljava/lang/String;") "java/lang/String" "value" "[B") (.int 0)) (.int c0)).value args Z none Z [] = some true) (k1 : (Cond.eq (.elem (.field (.field t "com/example/mahnwerk/mahnwerk/model/DebtorKind" "written" "Ljava/lang/String;") "java/lang/String" "value" "[B") (.int 1)) (.int c1)).value args Z none Z [] = some true) (k2 : (Cond.eq (.elem (.field (.field t "com/example/mahnwerk/mahnwerk/model/DebtorKind" "written" "Ljava/lang/String;") "java/lang/String" "value" "[B") (.int 2)) (.int c2)).value args Z none Z [] = some true) (k3 : (Cond.eq (.elem (.field (.field t "com/example/mahnwerk/mahnwerk/model/DebtorKind" "written" "Ljava/lang/String;") "java/lang/String" "value" "[B") (.int 3)) (.int c3)).value args Z none Z [] = some true) (k4 : (Cond.eq (.elem (.field (.field t "com/example/mahnwerk/mahnwerk/model/DebtorKind" "written" "Ljava/lang/String;") "java/lang/String" "value" "[B") (.int 4)) (.int c4)).value args Z none Z [] = some true) (k5 : (Cond.eq (.elem (.field (.field t "com/example/mahnwerk/mahnwerk/model/DebtorKind" "written" "Ljava/lang/String;") "java/lang/String" "value" "[B") (.int 5)) (.int c5)).value args Z none Z [] = some true) (k6 : (Cond.eq (.elem (.field (.field t "com/example/mahnwerk/mahnwerk/model/DebtorKind" "written" "Ljava/lang/String;") "java/lang/String" "value" "[B") (.int 6)) (.int c6)).value args Z none Z [] = some true) (k7 : (Cond.eq (.elem (.field (.field t "com/example/mahnwerk/mahnwerk/model/DebtorKind" "written" "Ljava/lang/String;") "java/lang/String" "value" "[B") (.int 7)) (.int c7)).value args Z none Z [] = some true) :
    ∃ (w b : Addr) (k : ClassId), Fld Z Z.heap x "com/example/mahnwerk/mahnwerk/model/DebtorKind" "written" "Ljava/lang/String;" (.ref w) ∧ Exa Z Z.heap w "java/lang/String" ∧ Fld Z Z.heap w "java/lang/String" "coder" "B" (.int 0) ∧ Fld Z Z.heap w "java/lang/String" "value" "[B" (.ref b) ∧ Arv Z Z.heap b k .byte 8 [.int c0, .int c1, .int c2, .int c3, .int c4, .int c5, .int c6, .int c7] (.int 0) := by
  obtain ⟨w, ew⟩ := exa_v h1
  obtain ⟨b, eb⟩ := arr_v h3
  obtain ⟨cl, A⟩ := Arr.start eb h3
  have af := A.fin (Vm.Alike.refl _)
  obtain ⟨z1, z2⟩ := own_size eb af (eqv_i (Term.int_eval (8)) h4)
  have el : ∀ (i c : Int32), ¬ i < 0 → (Cond.eq (.elem (.field (.field t "com/example/mahnwerk/mahnwerk/model/DebtorKind" "written" "Ljava/lang/String;") "java/lang/String" "value" "[B") (.int i)) (.int c)).value args Z none Z [] = some true → cl.slots[i.toNatClampNeg]? = some (.int c) := fun i c hi h => (elem_f eb (Term.int_eval i) af hi).symm.trans (eqv_i (Term.int_eval c) h)
  exact ⟨w, b, cl.cls, Fld.start ((fld_at et).symm.trans ew), Exa.start ew h1, Fld.start ((fld_at ew).symm.trans (eqv_i (Term.int_eval (0)) h2)), Fld.start ((fld_at ew).symm.trans eb), Arv.start hf A z1 z2 (by decide) rfl ⟨el 0 _ (by decide) k0, el 1 _ (by decide) k1, el 2 _ (by decide) k2, el 3 _ (by decide) k3, el 4 _ (by decide) k4, el 5 _ (by decide) k5, el 6 _ (by decide) k6, el 7 _ (by decide) k7, trivial⟩⟩
set_option maxRecDepth 65536 in
set_option maxHeartbeats 40000000 in
theorem comes_1 {Post : Tables → Env → Array Value → State → Outcome → State → Prop} (hpost : ∀ tb e args s v u, (limb_1_1.after args s (.returned v) u = true ∧ limb_1_2.after args s (.returned v) u = true ∧ True) → FramedW s (.returned v) u (Jvm.fieldLocs frame_1_writes args s ++ Jvm.arrayLocs frame_1_arrays args s ++ Jvm.staticLocs frame_1_statics s) 32 3264 → Post tb e args s (.returned v) u) :
    ArmFor flags0 classFile x code maxLocals ret World_1 tables_1 room_1 Calls_1 rest_1 Pre_1 Post := by
  intro l hfl _ _ p e ha hc hk s m args below hf hA hF happ hP
  obtain ⟨hcalls, hrest, hpre⟩ := hP
  obtain ⟨-, -, -, hnamed, -, -, -, hat⟩ := (Spec.applies_iff hf).mp happ
  obtain ⟨hg, hn⟩ := and_e (Cond.before_iff.mp (show (Jvm.Cond.and given_1 narrow_1).before args s = true from hpre))
  obtain ⟨g0, g0r⟩ := and_e hg
  obtain ⟨g1, g1r⟩ := and_e g0r
  obtain ⟨g2, g2r⟩ := and_e g1r
  obtain ⟨g3, g4⟩ := and_e g2r
  obtain ⟨w0, w1, w2, w3, rfl⟩ : ∃ w0 w1 w2 w3 : Value, args = #[w0, w1, w2, w3] := by
    have hs : args.size = 4 := by simpa [Cond.value, given_1] using g0
    obtain ⟨L⟩ := args
    match L, hs with
    | [w0, w1, w2, w3], _ => exact ⟨w0, w1, w2, w3, rfl⟩
  have hw := fun d (hd : d ∈ tables_1) => atoms_spec (ws := Jvm.Cond.code x code maxLocals ret :: tables_1) hat d (List.mem_cons_of_mem _ hd)
  have hfit : Fit s := fun {y c} hc i hi => by
    obtain ⟨ha, rfl⟩ := Array.getElem?_eq_some_iff.mp hc
    have q := List.all_eq_true.mp ((Array.all_eq_true_iff_forall_mem.mp hF) _ (Array.getElem_mem ha)) i (List.mem_range.mpr hi)
    simpa [Array.getElem?_eq_getElem hi] using q
  obtain ⟨i0, ei0⟩ := is_v g1
  obtain rfl : w0 = (.int i0) := Option.some.inj ei0
  obtain ⟨i1, ei1⟩ := isL_v g2
  obtain rfl : w1 = (.long i1) := Option.some.inj ei1
  obtain ⟨i2, ei2⟩ := is_v g3
  obtain rfl : w2 = (.int i2) := Option.some.inj ei2
  obtain ⟨i3, ei3⟩ := is_v g4
  obtain rfl : w3 = (.int i3) := Option.some.inj ei3
  obtain ⟨hsets, hown0⟩ := atoms_of _ (rest_1_c_eq ▸ (show rest_1_c.before _ s = true from hrest))
  have hr0 := Cond.before_iff.mp hown0
  have n3 := not_v (Cond.before_iff.mp (hsets _ (List.mem_of_getElem? (i := 2) rfl)))
  obtain ⟨i7, e6⟩ := is_v (Cond.before_iff.mp (hsets _ (List.mem_of_getElem? (i := 1) rfl)))
  have S8 : Sta s s.heap "java/lang/String" "COMPACT_STRINGS" "Z" (.int i7) := Sta.start e6 (Or.inl (hsets _ (List.mem_of_getElem? (i := 0) rfl)))
  obtain ⟨v9, e10, r11⟩ := isR_v (Cond.before_iff.mp (hsets _ (List.mem_of_getElem? (i := 8) rfl)))
  have S12 : Sta s s.heap "jdk/internal/util/Preconditions" "SIOOBE_FORMATTER" "Ljava/util/function/BiFunction;" v9 := Sta.start e10 (Or.inl (hsets _ (List.mem_of_getElem? (i := 7) rfl)))
  have c13 : ¬ (i7 = (0 : Int32)) := gotF (Cond.eq_ints e6 (Term.int_eval (0))) n3
  obtain ⟨n1, nr1⟩ := and_e hn
  obtain ⟨n2, nr2⟩ := and_e nr1
  obtain ⟨n3, nr3⟩ := and_e nr2
  obtain ⟨n4, nr4⟩ := and_e nr3
  obtain ⟨n5, nr5⟩ := and_e nr4
  obtain ⟨n6, nr6⟩ := and_e nr5
  obtain ⟨n7, nr7⟩ := and_e nr6
  obtain ⟨n8, nr8⟩ := and_e nr7
  obtain ⟨n9, nr9⟩ := and_e nr8
  obtain ⟨n10, nr10⟩ := and_e nr9
  obtain ⟨n11, nr11⟩ := and_e nr10
  obtain ⟨n12, nr12⟩ := and_e nr11
  obtain ⟨n13, nr13⟩ := and_e nr12
  obtain ⟨n14, nr14⟩ := and_e nr13
  obtain ⟨n15, nr15⟩ := and_e nr14
  obtain ⟨n16, nr16⟩ := and_e nr15
  obtain ⟨n17, nr17⟩ := and_e nr16
  obtain ⟨n18, nr18⟩ := and_e nr17
  obtain ⟨n19, nr19⟩ := and_e nr18
  obtain ⟨n20, nr20⟩ := and_e nr19
  obtain ⟨n21, nr21⟩ := and_e nr20
  obtain ⟨n22, nr22⟩ := and_e nr21
  obtain ⟨n23, nr23⟩ := and_e nr22
  obtain ⟨n24, nr24⟩ := and_e nr23
  obtain ⟨n25, nr25⟩ := and_e nr24
  obtain ⟨n26, nr26⟩ := and_e nr25
  obtain ⟨n27, nr27⟩ := and_e nr26
  obtain ⟨n28, nr28⟩ := and_e nr27
  obtain ⟨n29, nr29⟩ := and_e nr28
  obtain ⟨n30, nr30⟩ := and_e nr29
  obtain ⟨va, ev⟩ := arr_v n1
  obtain ⟨clv, AV⟩ := Arr.start ev n1
  have afv := AV.fin (Vm.Alike.refl _)
  obtain ⟨zv1, zv2⟩ := own_size ev afv (eqv_i (Term.int_eval (2)) n3)
  obtain ⟨cA, eA⟩ := exa_v n4
  obtain ⟨cB, eB⟩ := exa_v n6
  have m0 : clv.slots[(0 : Int32).toNatClampNeg]? = some (.ref cA) := (elem_f ev (Term.int_eval 0) afv (by decide)).symm.trans (Cond.eq_refs (Cond.before_iff.mpr n5) eA rfl)
  have m1 : clv.slots[(1 : Int32).toNatClampNeg]? = some (.ref cB) := (elem_f ev (Term.int_eval 1) afv (by decide)).symm.trans (Cond.eq_refs (Cond.before_iff.mpr n7) eB rfl)
  have VV : Arv s s.heap va clv.cls (.object "com/example/mahnwerk/mahnwerk/model/DebtorKind") 2 [.ref cA, .ref cB] .null := Arv.start hfit AV zv1 zv2 (by decide) rfl ⟨m0, m1, trivial⟩
  obtain ⟨wA, tA, kA, a1, a2, a3, a4, a5⟩ := own_str hfit eA n8 n9 n10 n11 n16 n17 n18 n19 n20 n21 n22 n23
  obtain ⟨wB, tB, kB, b1, b2, b3, b4, b5⟩ := own_str hfit eB n12 n13 n14 n15 n24 n25 n26 n27 n28 n29 n30 nr30
  obtain ⟨em, eE⟩ := exa_v (Cond.before_iff.mp (hsets _ (List.mem_of_getElem? (i := 11) rfl)))
  have xE := Exa.start eE (Cond.before_iff.mp (hsets _ (List.mem_of_getElem? (i := 11) rfl)))
  have fE := Fld.start ((fld_at eE).symm.trans (Cond.eq_refs (hsets _ (List.mem_of_getElem? (i := 12) rfl)) (show Term.null.eval _ s none [] s = some .null from rfl) rfl))
  have SV := Sta.start ev (Or.inl (hw _ (List.mem_of_getElem? (i := 62) rfl)))
  have SC := Sta.start eA (Or.inr ⟨(hw _ (List.mem_of_getElem? (i := 46) rfl)), (hw _ (List.mem_of_getElem? (i := 60) rfl))⟩)
  have SB := Sta.start eB (Or.inr ⟨(hw _ (List.mem_of_getElem? (i := 46) rfl)), (hw _ (List.mem_of_getElem? (i := 61) rfl))⟩)
  have SE := Sta.start eE (Or.inl (hsets _ (List.mem_of_getElem? (i := 10) rfl)))
  obtain ⟨n, o, h1, h2, h3, v, L, rfl, hv, hq⟩ := rm0 l s _ hw tables_1 i0 i1 i2 i3 va clv.cls cA cB wA tA kA wB tB kB em i7 v9 s.heap s.heap.size (Nat.le_refl _) (Old.start s) S8 S12 c13 r11 (Exa.start ev n2) VV a1 b1 a2 a3 a4 a5 b2 b3 b4 b5 xE fE (Exa.start eA n4) (Exa.start eB n6) SV SE SC SB rfl (fun p hp => hcalls.1 p hp) (hsets _ (List.mem_of_getElem? (i := 2) rfl)) p e ha hc hk s m _ below hf ((Spec.applies_iff_loose hf).mp happ).1 ⟨rfl, State.Warmed39.refl s, rfl, rfl⟩ trivial
  have N := hv.2
  have hv1 : v = some (.int 1) := hv.1.trans (congrArg (fun z => some (Value.int z)) (law_true i0 i1 i2 i3))
  subst hv1
  refine ⟨n, _, h1, h2, h3, hpost _ _ _ _ _ _ ⟨Cond.after_iff.mpr rfl, Cond.after_iff.mpr (eq_i res_at (Term.int_eval (1)) rfl), trivial⟩ ⟨hq.1, hq.2.1, hq.2.2.1, (hq.2.2.2.sift fun y hy => Or.inr (N y hy)).mono (by decide) (by decide)⟩⟩
theorem main_1_1 : Claimed_1_1 := comes_1 fun _ _ _ _ _ _ h hF => ⟨h.1, hF⟩
theorem main_1_2 : Claimed_1_2 := comes_1 fun _ _ _ _ _ _ h hF => ⟨h.2.1, hF⟩
end Jvm.Pilot.@@N@@
namespace Jvm.Pilot.@@N@@
open Jvm Jvm.ClassFile Sem Op Lib Jvm.Free Jvm.Stand Jvm.Pilot.@@N@@.Jvm.D
/-! MADE BY PROGRAM (witnessworld.py) out of the Statement's table words and the real class files: 24 classes; the members and pool entries that the words name. The judged class is class 1, her method 2. -/
namespace start1
open Jvm.ClassFile
def u (s : String) : CpInfo := .utf8 (stringToUtf16 s)
/-- a pool by its gaps: so many unusable entries, then the entry; so many at the end -/
def gap : Nat → List CpInfo → List CpInfo
  | 0, r => r
  | n + 1, r => .unusable :: gap n r
def poolList (es : List (Nat × CpInfo)) (last : Nat) : List CpInfo := es.foldr (fun e r => gap e.1 (e.2 :: r)) (gap last [])
def pool (es : List (Nat × CpInfo)) (last : Nat) : Array CpInfo := ⟨poolList es last⟩
def fileOf (pool : Array CpInfo) (this : Nat) (attrs : Array Attribute := #[]) (ms : Array MethodInfo := #[]) (fl : Nat := 33) (sup : Nat := 0) (ifs : Array Nat := #[]) (fds : Array FieldInfo := #[]) : ClassFile where
  minorVersion := 0
  majorVersion := 65
  constantPool := pool
  accessFlags := fl
  thisClass := this
  superClass := sup
  interfaces := ifs
  fields := fds
  methods := ms
  attributes := attrs
def plain (name : String) (sup : Option ClassId) : Class where
  name := name
  kind := .ordinary
  loader := none
  accessFlags := 33
  super := sup
  interfaces := #[]
  cf := none
  fields := #[]
  methods := #[]
  instanceTypes := #[]
  staticTypes := #[]
  resolved := #[]
  callSites := []
  init := .initialized
  statics := none
  mirror := none

def pool0 : Array CpInfo := pool [(5, u "<init>"), (0, u "()V"), (1, .class_ 10), (1, u "java/lang/Object"), (85, u "clone"), (0, u "()Ljava/lang/Object;")] 26

def k0c0 : Code := { maxStack := 0, maxLocals := 1, code := object_method_1_code, exceptionTable := #[], attributes := #[] }
def k0m0 : Method := { name := "<init>", desc := "()V", sig := { parameters := [], returnType := none }, accessFlags := 1, code := some k0c0 }
def k0m1 : Method := { name := "clone", desc := "()Ljava/lang/Object;", sig := { parameters := [], returnType := some (.object "java/lang/Object") }, accessFlags := 260, code := none }
/-- java/lang/Object -/
def k0 : Class := { plain "java/lang/Object" none with
  accessFlags := 33
  interfaces := #[]
  cf := some (fileOf pool0 8 #[] #[{ accessFlags := 1, nameIndex := 5, descriptorIndex := 6, attributes := #[] }, { accessFlags := 260, nameIndex := 96, descriptorIndex := 97, attributes := #[] }] 33 0 #[] #[])
  fields := #[]
  methods := #[k0m0, k0m1]
  instanceTypes := #[]
  staticTypes := #[]
  resolved := Array.replicate 124 none
  statics := none }

def pool1 : Array CpInfo := pool [(2, .class_ 4), (1, u "java/lang/Object"), (0, u "<init>"), (0, u "()V"), (0, .long 255), (1, .methodref 10 11), (0, .class_ 12), (0, .nameAndType 13 14), (0, u "com/example/mahnwerk/mahnwerk/model/DebtorKindOfPinLaw"), (0, u "byteAt"), (0, u "(JI)C"), (0, .integer 2147483647), (0, .class_ 17), (0, u "java/lang/String"), (0, .methodref 16 19), (0, .nameAndType 5 20), (0, u "([C)V"), (0, .string 22), (0, u ""), (0, .methodref 16 24), (0, .nameAndType 25 26), (0, u "valueOf"), (0, u "(C)Ljava/lang/String;"), (0, .string 28), (0, u "consumer"), (0, .methodref 16 30), (0, .nameAndType 31 32), (0, u "equals"), (0, u "(Ljava/lang/Object;)Z"), (0, .string 34), (0, u "business"), (0, .methodref 36 37), (0, .class_ 38), (0, .nameAndType 39 40), (0, u "com/example/mahnwerk/mahnwerk/model/DebtorKind"), (0, u "of"), (0, u "(Ljava/lang/String;)Ljava/util/Optional;"), (0, .methodref 42 43), (0, .class_ 44), (0, .nameAndType 45 46), (0, u "java/util/Optional"), (0, u "orElse"), (0, u "(Ljava/lang/Object;)Ljava/lang/Object;"), (0, .fieldref 36 48), (0, .nameAndType 49 50), (0, u "CONSUMER"), (0, u "Lcom/example/mahnwerk/mahnwerk/model/DebtorKind;"), (0, .fieldref 36 52), (0, .nameAndType 53 50), (0, u "BUSINESS"), (2, u "law"), (0, u "(IJII)Z")] 5

def k1m0 : Method := { name := "<init>", desc := "()V", sig := { parameters := [], returnType := none }, accessFlags := 2, code := none }
def k1c1 : Code := { maxStack := 4, maxLocals := 3, code := method_2_code, exceptionTable := #[], attributes := #[] }
def k1m1 : Method := { name := "byteAt", desc := "(JI)C", sig := { parameters := [.long, .int], returnType := some .char }, accessFlags := 10, code := some k1c1 }
def k1c2 : Code := { maxStack := 7, maxLocals := 14, code := code, exceptionTable := #[], attributes := #[] }
def k1m2 : Method := { name := "law", desc := "(IJII)Z", sig := { parameters := [.int, .long, .int, .int], returnType := some .boolean }, accessFlags := 9, code := some k1c2 }
/-- com/example/mahnwerk/mahnwerk/model/DebtorKindOfPinLaw -/
def k1 : Class := { plain "com/example/mahnwerk/mahnwerk/model/DebtorKindOfPinLaw" (some 0) with
  accessFlags := 49
  interfaces := #[]
  cf := some (fileOf pool1 10 #[] #[{ accessFlags := 2, nameIndex := 5, descriptorIndex := 6, attributes := #[] }, { accessFlags := 10, nameIndex := 13, descriptorIndex := 14, attributes := #[] }, { accessFlags := 9, nameIndex := 56, descriptorIndex := 57, attributes := #[] }] 49 2 #[] #[])
  fields := #[]
  methods := #[k1m0, k1m1, k1m2]
  instanceTypes := #[]
  staticTypes := #[]
  resolved := Array.replicate 63 none
  statics := none }

def pool2 : Array CpInfo := pool [(1, .class_ 2), (0, u "java/io/Serializable"), (0, .class_ 4), (0, u "java/lang/Object")] 2

/-- java/io/Serializable -/
def k2 : Class := { plain "java/io/Serializable" (some 0) with
  accessFlags := 1537
  interfaces := #[]
  cf := some (fileOf pool2 1 #[] #[] 1537 3 #[] #[])
  fields := #[]
  methods := #[]
  instanceTypes := #[]
  staticTypes := #[]
  resolved := Array.replicate 7 none
  statics := none }

def pool3 : Array CpInfo := pool [(1, .class_ 2), (0, u "java/lang/Comparable"), (0, .class_ 4), (0, u "java/lang/Object")] 7

/-- java/lang/Comparable -/
def k3 : Class := { plain "java/lang/Comparable" (some 0) with
  accessFlags := 1537
  interfaces := #[]
  cf := some (fileOf pool3 1 #[] #[] 1537 3 #[] #[])
  fields := #[]
  methods := #[]
  instanceTypes := #[]
  staticTypes := #[]
  resolved := Array.replicate 12 none
  statics := none }

def pool4 : Array CpInfo := pool [(2, .class_ 4), (1, u "java/lang/CharSequence"), (42, .class_ 48), (0, u "java/lang/CharSequence$1CodePointIterator"), (10, .class_ 60), (0, u "java/lang/CharSequence$1CharIterator"), (5, .class_ 67), (0, u "java/lang/Object")] 63

/-- java/lang/CharSequence -/
def k4 : Class := { plain "java/lang/CharSequence" (some 0) with
  accessFlags := 1537
  interfaces := #[]
  cf := some (fileOf pool4 2 #[.nestMembers #[47, 59]] #[] 1537 66 #[] #[])
  fields := #[]
  methods := #[]
  instanceTypes := #[]
  staticTypes := #[]
  resolved := Array.replicate 131 none
  statics := none }

def pool5 : Array CpInfo := pool [(1, .class_ 2), (0, u "java/lang/constant/Constable"), (0, .class_ 4), (0, u "java/lang/Object")] 6

/-- java/lang/constant/Constable -/
def k5 : Class := { plain "java/lang/constant/Constable" (some 0) with
  accessFlags := 1537
  interfaces := #[]
  cf := some (fileOf pool5 1 #[] #[] 1537 3 #[] #[])
  fields := #[]
  methods := #[]
  instanceTypes := #[]
  staticTypes := #[]
  resolved := Array.replicate 11 none
  statics := none }

def pool6 : Array CpInfo := pool [(1, .class_ 2), (0, u "java/lang/constant/ConstantDesc"), (0, .class_ 4), (0, u "java/lang/Object")] 32

/-- java/lang/constant/ConstantDesc -/
def k6 : Class := { plain "java/lang/constant/ConstantDesc" (some 0) with
  accessFlags := 1537
  interfaces := #[]
  cf := some (fileOf pool6 1 #[] #[] 1537 3 #[] #[])
  fields := #[]
  methods := #[]
  instanceTypes := #[]
  staticTypes := #[]
  resolved := Array.replicate 37 none
  statics := none }

def pool7 : Array CpInfo := pool [(1, .methodref 2 3), (0, .class_ 4), (0, .nameAndType 5 6), (0, u "java/lang/Object"), (0, u "<init>"), (0, u "()V"), (2, .fieldref 10 11), (0, .class_ 12), (0, .nameAndType 13 14), (0, u "java/lang/String"), (0, u "value"), (0, u "[B"), (0, .fieldref 10 16), (0, .nameAndType 17 18), (0, u "coder"), (0, u "B"), (2, u "hash"), (0, u "I"), (2, u "hashIsZero"), (0, u "Z"), (0, .methodref 10 28), (0, .nameAndType 5 29), (0, u "([CIILjava/lang/Void;)V"), (8, .fieldref 10 39), (0, .nameAndType 40 26), (0, u "COMPACT_STRINGS"), (1, .class_ 44), (1, u "java/lang/StringUTF16"), (0, u "compress"), (1, .methodref 42 48), (0, .nameAndType 49 50), (0, u "coderFromArrayLen"), (0, u "([BI)B"), (2, u "toBytes"), (53, .class_ 109), (1, u "java/lang/StringLatin1"), (67, .methodref 42 178), (0, .nameAndType 45 179), (0, u "([CII)[B"), (29, .methodref 10 210), (0, .nameAndType 5 211), (0, u "([BB)V"), (157, u "(C)Z"), (171, .methodref 107 542), (0, .nameAndType 543 544), (0, u "equals"), (0, u "([B[B)Z"), (28, u "(Ljava/lang/Object;)Z"), (1, .class_ 576), (0, u "java/lang/CharSequence"), (22, u "CASE_INSENSITIVE_ORDER"), (0, u "Ljava/util/Comparator;"), (181, u "valueOf"), (0, u "(C)Ljava/lang/String;"), (226, u "([C)V"), (4, .methodref 107 1016), (0, .nameAndType 1017 369), (0, u "canEncode"), (0, .methodref 107 1019), (0, .nameAndType 53 1020), (0, u "(C)[B"), (80, u "serialPersistentFields"), (0, u "[Ljava/io/ObjectStreamField;"), (0, .class_ 1104), (0, u "java/lang/String$CaseInsensitiveComparator"), (1, .class_ 1107), (0, u "java/io/Serializable"), (0, .class_ 1109), (0, u "java/lang/Comparable"), (0, .class_ 1111), (0, u "java/lang/constant/Constable"), (0, .class_ 1113), (0, u "java/lang/constant/ConstantDesc"), (2, u "serialVersionUID"), (0, u "J"), (3, u "REPL"), (0, u "C"), (2, u "LATIN1"), (1, u "UTF16")] 323

def k7m0 : Method := { name := "<init>", desc := "()V", sig := { parameters := [], returnType := none }, accessFlags := 1, code := none }
def k7c1 : Code := { maxStack := 5, maxLocals := 2, code := jdk_42_method_3_code, exceptionTable := #[], attributes := #[] }
def k7m1 : Method := { name := "<init>", desc := "([C)V", sig := { parameters := [(.array .char)], returnType := none }, accessFlags := 1, code := some k7c1 }
def k7c2 : Code := { maxStack := 2, maxLocals := 3, code := jdk_42_method_66_code, exceptionTable := #[], attributes := #[] }
def k7m2 : Method := { name := "equals", desc := "(Ljava/lang/Object;)Z", sig := { parameters := [(.object "java/lang/Object")], returnType := some .boolean }, accessFlags := 1, code := some k7c2 }
def k7c3 : Code := { maxStack := 4, maxLocals := 1, code := jdk_42_method_139_code, exceptionTable := #[], attributes := #[] }
def k7m3 : Method := { name := "valueOf", desc := "(C)Ljava/lang/String;", sig := { parameters := [.char], returnType := some (.object "java/lang/String") }, accessFlags := 9, code := some k7c3 }
def k7c4 : Code := { maxStack := 4, maxLocals := 6, code := jdk_42_method_149_code, exceptionTable := #[], attributes := #[] }
def k7m4 : Method := { name := "<init>", desc := "([CIILjava/lang/Void;)V", sig := { parameters := [(.array .char), .int, .int, (.object "java/lang/Void")], returnType := none }, accessFlags := 2, code := some k7c4 }
def k7c5 : Code := { maxStack := 2, maxLocals := 3, code := jdk_42_method_151_code, exceptionTable := #[], attributes := #[] }
def k7m5 : Method := { name := "<init>", desc := "([BB)V", sig := { parameters := [(.array .byte), .byte], returnType := none }, accessFlags := 0, code := some k7c5 }
/-- java/lang/String -/
def k7 : Class := { plain "java/lang/String" (some 0) with
  accessFlags := 49
  interfaces := #[2, 3, 4, 5, 6]
  cf := some (fileOf pool7 10 #[.nestMembers #[1103]] #[{ accessFlags := 1, nameIndex := 5, descriptorIndex := 6, attributes := #[] }, { accessFlags := 1, nameIndex := 5, descriptorIndex := 1010, attributes := #[] }, { accessFlags := 1, nameIndex := 543, descriptorIndex := 573, attributes := #[] }, { accessFlags := 9, nameIndex := 782, descriptorIndex := 783, attributes := #[] }, { accessFlags := 2, nameIndex := 5, descriptorIndex := 29, attributes := #[] }, { accessFlags := 0, nameIndex := 5, descriptorIndex := 211, attributes := #[] }] 49 2 #[1106, 1108, 575, 1110, 1112] #[{ accessFlags := 18, nameIndex := 13, descriptorIndex := 14, attributes := #[] }, { accessFlags := 18, nameIndex := 17, descriptorIndex := 18, attributes := #[] }, { accessFlags := 2, nameIndex := 21, descriptorIndex := 22, attributes := #[] }, { accessFlags := 2, nameIndex := 25, descriptorIndex := 26, attributes := #[] }, { accessFlags := 26, nameIndex := 1116, descriptorIndex := 1117, attributes := #[] }, { accessFlags := 24, nameIndex := 40, descriptorIndex := 26, attributes := #[] }, { accessFlags := 26, nameIndex := 1101, descriptorIndex := 1102, attributes := #[] }, { accessFlags := 26, nameIndex := 1121, descriptorIndex := 1122, attributes := #[] }, { accessFlags := 25, nameIndex := 599, descriptorIndex := 600, attributes := #[] }, { accessFlags := 24, nameIndex := 1125, descriptorIndex := 18, attributes := #[] }, { accessFlags := 24, nameIndex := 1127, descriptorIndex := 18, attributes := #[] }])
  fields := #[{ name := "value", type := (.array .byte), accessFlags := 18, slot := 0, constantValue := 0 }, { name := "coder", type := .byte, accessFlags := 18, slot := 1, constantValue := 0 }, { name := "hash", type := .int, accessFlags := 2, slot := 2, constantValue := 0 }, { name := "hashIsZero", type := .boolean, accessFlags := 2, slot := 3, constantValue := 0 }, { name := "serialVersionUID", type := .long, accessFlags := 26, slot := 0, constantValue := 0 }, { name := "COMPACT_STRINGS", type := .boolean, accessFlags := 24, slot := 1, constantValue := 0 }, { name := "serialPersistentFields", type := (.array (.object "java/io/ObjectStreamField")), accessFlags := 26, slot := 2, constantValue := 0 }, { name := "REPL", type := .char, accessFlags := 26, slot := 3, constantValue := 0 }, { name := "CASE_INSENSITIVE_ORDER", type := (.object "java/util/Comparator"), accessFlags := 25, slot := 4, constantValue := 0 }, { name := "LATIN1", type := .byte, accessFlags := 24, slot := 5, constantValue := 0 }, { name := "UTF16", type := .byte, accessFlags := 24, slot := 6, constantValue := 0 }]
  methods := #[k7m0, k7m1, k7m2, k7m3, k7m4, k7m5]
  instanceTypes := #[(.array .byte), .byte, .int, .boolean]
  staticTypes := #[.long, .boolean, (.array (.object "java/io/ObjectStreamField")), .char, (.object "java/util/Comparator"), .byte, .byte]
  resolved := Array.replicate 1451 none
  statics := some 0 }

def pool8 : Array CpInfo := pool [(6, .class_ 8), (1, u "java/lang/Object"), (0, u "<init>"), (0, u "()V"), (1, .class_ 14), (1, u "java/lang/StringUTF16"), (31, u "$assertionsDisabled"), (0, u "Z"), (13, u "HI_BYTE_SHIFT"), (0, u "I"), (2, u "LO_BYTE_SHIFT"), (49, .methodref 12 116), (0, .nameAndType 117 118), (0, u "compress"), (0, u "([CI[BII)I"), (3, u "([CII)[B"), (138, u "coderFromArrayLen"), (0, u "([BI)B"), (106, .class_ 371), (1, u "java/lang/StringUTF16$LinesSpliterator"), (58, u "MAX_LENGTH"), (196, .class_ 628), (0, u "java/lang/StringUTF16$CodePointsSpliterator"), (0, .class_ 630), (0, u "java/lang/StringUTF16$CharsSpliterator")] 4

def k8m0 : Method := { name := "<init>", desc := "()V", sig := { parameters := [], returnType := none }, accessFlags := 0, code := none }
def k8c1 : Code := { maxStack := 2, maxLocals := 2, code := jdk_52_method_15_code, exceptionTable := #[], attributes := #[] }
def k8m1 : Method := { name := "coderFromArrayLen", desc := "([BI)B", sig := { parameters := [(.array .byte), .int], returnType := some .byte }, accessFlags := 8, code := some k8c1 }
def k8c2 : Code := { maxStack := 5, maxLocals := 6, code := jdk_52_method_16_code, exceptionTable := #[], attributes := #[] }
def k8m2 : Method := { name := "compress", desc := "([CII)[B", sig := { parameters := [(.array .char), .int, .int], returnType := some (.array .byte) }, accessFlags := 9, code := some k8c2 }
def k8c3 : Code := { maxStack := 3, maxLocals := 7, code := jdk_52_method_21_code, exceptionTable := #[], attributes := #[] }
def k8m3 : Method := { name := "compress", desc := "([CI[BII)I", sig := { parameters := [(.array .char), .int, (.array .byte), .int, .int], returnType := some .int }, accessFlags := 9, code := some k8c3 }
/-- java/lang/StringUTF16 -/
def k8 : Class := { plain "java/lang/StringUTF16" (some 0) with
  accessFlags := 48
  interfaces := #[]
  cf := some (fileOf pool8 12 #[.nestMembers #[627, 629, 369]] #[{ accessFlags := 0, nameIndex := 9, descriptorIndex := 10, attributes := #[] }, { accessFlags := 8, nameIndex := 261, descriptorIndex := 262, attributes := #[] }, { accessFlags := 9, nameIndex := 117, descriptorIndex := 122, attributes := #[] }, { accessFlags := 9, nameIndex := 117, descriptorIndex := 118, attributes := #[] }] 48 6 #[] #[{ accessFlags := 26, nameIndex := 61, descriptorIndex := 62, attributes := #[] }, { accessFlags := 26, nameIndex := 65, descriptorIndex := 62, attributes := #[] }, { accessFlags := 24, nameIndex := 430, descriptorIndex := 62, attributes := #[] }, { accessFlags := 4120, nameIndex := 46, descriptorIndex := 47, attributes := #[] }])
  fields := #[{ name := "HI_BYTE_SHIFT", type := .int, accessFlags := 26, slot := 0, constantValue := 0 }, { name := "LO_BYTE_SHIFT", type := .int, accessFlags := 26, slot := 1, constantValue := 0 }, { name := "MAX_LENGTH", type := .int, accessFlags := 24, slot := 2, constantValue := 0 }, { name := "$assertionsDisabled", type := .boolean, accessFlags := 4120, slot := 3, constantValue := 0 }]
  methods := #[k8m0, k8m1, k8m2, k8m3]
  instanceTypes := #[]
  staticTypes := #[.int, .int, .int, .boolean]
  resolved := Array.replicate 635 none
  statics := none }

def pool9 : Array CpInfo := pool [(4, .class_ 6), (1, u "java/lang/Object"), (0, u "<init>"), (0, u "()V"), (5, .class_ 16), (1, u "java/lang/StringLatin1"), (73, u "canEncode"), (14, u "(C)Z"), (15, u "$assertionsDisabled"), (0, u "Z"), (98, .class_ 223), (1, u "java/lang/StringLatin1$LinesSpliterator"), (57, u "equals"), (0, u "([B[B)Z"), (97, u "toBytes"), (1, u "(C)[B"), (7, .class_ 391), (0, u "java/lang/StringLatin1$CharsSpliterator")] 3

def k9m0 : Method := { name := "<init>", desc := "()V", sig := { parameters := [], returnType := none }, accessFlags := 0, code := none }
def k9c1 : Code := { maxStack := 2, maxLocals := 1, code := jdk_43_method_3_code, exceptionTable := #[], attributes := #[] }
def k9m1 : Method := { name := "canEncode", desc := "(C)Z", sig := { parameters := [.char], returnType := some .boolean }, accessFlags := 9, code := some k9c1 }
def k9c2 : Code := { maxStack := 3, maxLocals := 3, code := jdk_43_method_13_code, exceptionTable := #[], attributes := #[] }
def k9m2 : Method := { name := "equals", desc := "([B[B)Z", sig := { parameters := [(.array .byte), (.array .byte)], returnType := some .boolean }, accessFlags := 9, code := some k9c2 }
def k9c3 : Code := { maxStack := 4, maxLocals := 1, code := jdk_43_method_46_code, exceptionTable := #[], attributes := #[] }
def k9m3 : Method := { name := "toBytes", desc := "(C)[B", sig := { parameters := [.char], returnType := some (.array .byte) }, accessFlags := 9, code := some k9c3 }
/-- java/lang/StringLatin1 -/
def k9 : Class := { plain "java/lang/StringLatin1" (some 0) with
  accessFlags := 48
  interfaces := #[]
  cf := some (fileOf pool9 14 #[.nestMembers #[390, 221]] #[{ accessFlags := 0, nameIndex := 7, descriptorIndex := 8, attributes := #[] }, { accessFlags := 9, nameIndex := 90, descriptorIndex := 105, attributes := #[] }, { accessFlags := 9, nameIndex := 281, descriptorIndex := 282, attributes := #[] }, { accessFlags := 9, nameIndex := 380, descriptorIndex := 382, attributes := #[] }] 48 4 #[] #[{ accessFlags := 4120, nameIndex := 121, descriptorIndex := 122, attributes := #[] }])
  fields := #[{ name := "$assertionsDisabled", type := .boolean, accessFlags := 4120, slot := 0, constantValue := 0 }]
  methods := #[k9m0, k9m1, k9m2, k9m3]
  instanceTypes := #[]
  staticTypes := #[.boolean]
  resolved := Array.replicate 395 none
  statics := none }

def pool10 : Array CpInfo := pool [(2, .class_ 4), (1, u "java/lang/Enum"), (0, u "name"), (0, u "Ljava/lang/String;"), (2, u "ordinal"), (0, u "I"), (1, .class_ 14), (1, u "java/lang/Object"), (4, u "hash"), (86, .class_ 108), (1, u "java/lang/Enum$EnumDesc"), (2, .class_ 112), (0, u "java/lang/constant/Constable"), (0, .class_ 114), (0, u "java/lang/Comparable"), (0, .class_ 116), (0, u "java/io/Serializable")] 87

/-- java/lang/Enum -/
def k10 : Class := { plain "java/lang/Enum" (some 0) with
  accessFlags := 1057
  interfaces := #[5, 3, 2]
  cf := some (fileOf pool10 2 #[.nestMembers #[106]] #[] 1057 12 #[111, 113, 115] #[{ accessFlags := 18, nameIndex := 5, descriptorIndex := 6, attributes := #[] }, { accessFlags := 18, nameIndex := 9, descriptorIndex := 10, attributes := #[] }, { accessFlags := 2, nameIndex := 19, descriptorIndex := 10, attributes := #[] }])
  fields := #[{ name := "name", type := (.object "java/lang/String"), accessFlags := 18, slot := 0, constantValue := 0 }, { name := "ordinal", type := .int, accessFlags := 18, slot := 1, constantValue := 0 }, { name := "hash", type := .int, accessFlags := 2, slot := 2, constantValue := 0 }]
  methods := #[]
  instanceTypes := #[(.object "java/lang/String"), .int, .int]
  staticTypes := #[]
  resolved := Array.replicate 204 none
  statics := none }

def pool11 : Array CpInfo := pool [(1, .class_ 2), (0, u "com/example/mahnwerk/mahnwerk/model/DebtorKind"), (2, u "CONSUMER"), (0, u "Lcom/example/mahnwerk/mahnwerk/model/DebtorKind;"), (2, u "BUSINESS"), (0, .fieldref 1 11), (0, .nameAndType 12 13), (0, u "$VALUES"), (0, u "[Lcom/example/mahnwerk/mahnwerk/model/DebtorKind;"), (0, .methodref 15 16), (0, .class_ 13), (0, .nameAndType 17 18), (0, u "clone"), (0, u "()Ljava/lang/Object;"), (1, .class_ 22), (1, u "java/lang/Enum"), (6, .fieldref 1 30), (0, .nameAndType 31 32), (0, u "written"), (0, u "Ljava/lang/String;"), (0, .methodref 1 34), (0, .nameAndType 35 36), (0, u "values"), (0, u "()[Lcom/example/mahnwerk/mahnwerk/model/DebtorKind;"), (0, .methodref 38 39), (0, .class_ 40), (0, .nameAndType 41 42), (0, u "java/lang/String"), (0, u "equals"), (0, u "(Ljava/lang/Object;)Z"), (0, .methodref 44 45), (0, .class_ 46), (0, .nameAndType 47 48), (0, u "java/util/Optional"), (0, u "of"), (0, u "(Ljava/lang/Object;)Ljava/util/Optional;"), (0, .methodref 44 50), (0, .nameAndType 51 52), (0, u "empty"), (0, u "()Ljava/util/Optional;"), (18, u "(Ljava/lang/String;)Ljava/util/Optional;")] 9

def k11c0 : Code := { maxStack := 1, maxLocals := 0, code := prog_69_method_1_code, exceptionTable := #[], attributes := #[] }
def k11m0 : Method := { name := "values", desc := "()[Lcom/example/mahnwerk/mahnwerk/model/DebtorKind;", sig := { parameters := [], returnType := some (.array (.object "com/example/mahnwerk/mahnwerk/model/DebtorKind")) }, accessFlags := 9, code := some k11c0 }
def k11c1 : Code := { maxStack := 2, maxLocals := 5, code := prog_69_method_4_code, exceptionTable := #[], attributes := #[] }
def k11m1 : Method := { name := "of", desc := "(Ljava/lang/String;)Ljava/util/Optional;", sig := { parameters := [(.object "java/lang/String")], returnType := some (.object "java/util/Optional") }, accessFlags := 9, code := some k11c1 }
/-- com/example/mahnwerk/mahnwerk/model/DebtorKind -/
def k11 : Class := { plain "com/example/mahnwerk/mahnwerk/model/DebtorKind" (some 10) with
  accessFlags := 16433
  interfaces := #[]
  cf := some (fileOf pool11 1 #[] #[{ accessFlags := 9, nameIndex := 35, descriptorIndex := 36, attributes := #[] }, { accessFlags := 9, nameIndex := 47, descriptorIndex := 71, attributes := #[] }] 16433 20 #[] #[{ accessFlags := 16409, nameIndex := 5, descriptorIndex := 6, attributes := #[] }, { accessFlags := 16409, nameIndex := 9, descriptorIndex := 6, attributes := #[] }, { accessFlags := 18, nameIndex := 31, descriptorIndex := 32, attributes := #[] }, { accessFlags := 4122, nameIndex := 12, descriptorIndex := 13, attributes := #[] }])
  fields := #[{ name := "CONSUMER", type := (.object "com/example/mahnwerk/mahnwerk/model/DebtorKind"), accessFlags := 16409, slot := 0, constantValue := 0 }, { name := "BUSINESS", type := (.object "com/example/mahnwerk/mahnwerk/model/DebtorKind"), accessFlags := 16409, slot := 1, constantValue := 0 }, { name := "written", type := (.object "java/lang/String"), accessFlags := 18, slot := 3, constantValue := 0 }, { name := "$VALUES", type := (.array (.object "com/example/mahnwerk/mahnwerk/model/DebtorKind")), accessFlags := 4122, slot := 2, constantValue := 0 }]
  methods := #[k11m0, k11m1]
  instanceTypes := #[(.object "java/lang/String"), .int, .int, (.object "java/lang/String")]
  staticTypes := #[(.object "com/example/mahnwerk/mahnwerk/model/DebtorKind"), (.object "com/example/mahnwerk/mahnwerk/model/DebtorKind"), (.array (.object "com/example/mahnwerk/mahnwerk/model/DebtorKind"))]
  resolved := Array.replicate 81 none
  statics := some 1 }

def pool12 : Array CpInfo := pool [(1, .class_ 2), (0, u "java/lang/Cloneable"), (0, .class_ 4), (0, u "java/lang/Object")] 2

/-- java/lang/Cloneable -/
def k12 : Class := { plain "java/lang/Cloneable" (some 0) with
  accessFlags := 1537
  interfaces := #[]
  cf := some (fileOf pool12 1 #[] #[] 1537 3 #[] #[])
  fields := #[]
  methods := #[]
  instanceTypes := #[]
  staticTypes := #[]
  resolved := Array.replicate 7 none
  statics := none }

def pool13 : Array CpInfo := pool [(1, .fieldref 2 3), (0, .class_ 4), (0, .nameAndType 5 6), (0, u "java/util/Optional"), (0, u "EMPTY"), (0, u "Ljava/util/Optional;"), (0, .methodref 8 9), (0, .class_ 10), (0, .nameAndType 11 12), (0, u "java/lang/Object"), (0, u "<init>"), (0, u "()V"), (0, .fieldref 2 14), (0, .nameAndType 15 16), (0, u "value"), (0, u "Ljava/lang/Object;"), (0, .methodref 18 19), (0, .class_ 20), (0, .nameAndType 21 22), (0, u "java/util/Objects"), (0, u "requireNonNull"), (0, u "(Ljava/lang/Object;)Ljava/lang/Object;"), (0, .methodref 2 24), (0, .nameAndType 11 25), (0, u "(Ljava/lang/Object;)V"), (29, u "empty"), (0, u "()Ljava/util/Optional;"), (8, u "(Ljava/lang/Object;)Ljava/util/Optional;"), (16, u "of"), (82, u "orElse")] 21

def k13c0 : Code := { maxStack := 1, maxLocals := 1, code := jdk_32_method_1_code, exceptionTable := #[], attributes := #[] }
def k13m0 : Method := { name := "empty", desc := "()Ljava/util/Optional;", sig := { parameters := [], returnType := some (.object "java/util/Optional") }, accessFlags := 9, code := some k13c0 }
def k13c1 : Code := { maxStack := 2, maxLocals := 2, code := jdk_32_method_2_code, exceptionTable := #[], attributes := #[] }
def k13m1 : Method := { name := "<init>", desc := "(Ljava/lang/Object;)V", sig := { parameters := [(.object "java/lang/Object")], returnType := none }, accessFlags := 2, code := some k13c1 }
def k13c2 : Code := { maxStack := 3, maxLocals := 1, code := jdk_32_method_3_code, exceptionTable := #[], attributes := #[] }
def k13m2 : Method := { name := "of", desc := "(Ljava/lang/Object;)Ljava/util/Optional;", sig := { parameters := [(.object "java/lang/Object")], returnType := some (.object "java/util/Optional") }, accessFlags := 9, code := some k13c2 }
def k13c3 : Code := { maxStack := 1, maxLocals := 2, code := jdk_32_method_15_code, exceptionTable := #[], attributes := #[] }
def k13m3 : Method := { name := "orElse", desc := "(Ljava/lang/Object;)Ljava/lang/Object;", sig := { parameters := [(.object "java/lang/Object")], returnType := some (.object "java/lang/Object") }, accessFlags := 1, code := some k13c3 }
/-- java/util/Optional -/
def k13 : Class := { plain "java/util/Optional" (some 0) with
  accessFlags := 49
  interfaces := #[]
  cf := some (fileOf pool13 2 #[] #[{ accessFlags := 9, nameIndex := 55, descriptorIndex := 56, attributes := #[] }, { accessFlags := 2, nameIndex := 11, descriptorIndex := 25, attributes := #[] }, { accessFlags := 9, nameIndex := 82, descriptorIndex := 65, attributes := #[] }, { accessFlags := 1, nameIndex := 165, descriptorIndex := 22, attributes := #[] }] 49 8 #[] #[{ accessFlags := 26, nameIndex := 5, descriptorIndex := 6, attributes := #[] }, { accessFlags := 18, nameIndex := 15, descriptorIndex := 16, attributes := #[] }])
  fields := #[{ name := "EMPTY", type := (.object "java/util/Optional"), accessFlags := 26, slot := 0, constantValue := 0 }, { name := "value", type := (.object "java/lang/Object"), accessFlags := 18, slot := 0, constantValue := 0 }]
  methods := #[k13m0, k13m1, k13m2, k13m3]
  instanceTypes := #[(.object "java/lang/Object")]
  staticTypes := #[(.object "java/util/Optional")]
  resolved := Array.replicate 187 none
  statics := some 2 }

def pool14 : Array CpInfo := pool [(2, .class_ 4), (1, u "java/lang/Object"), (0, u "<init>"), (0, u "()V"), (35, .class_ 44), (1, u "java/util/Objects"), (0, u "requireNonNull"), (0, u "(Ljava/lang/Object;)Ljava/lang/Object;")] 137

def k14m0 : Method := { name := "<init>", desc := "()V", sig := { parameters := [], returnType := none }, accessFlags := 2, code := none }
def k14c1 : Code := { maxStack := 2, maxLocals := 1, code := jdk_31_method_10_code, exceptionTable := #[], attributes := #[] }
def k14m1 : Method := { name := "requireNonNull", desc := "(Ljava/lang/Object;)Ljava/lang/Object;", sig := { parameters := [(.object "java/lang/Object")], returnType := some (.object "java/lang/Object") }, accessFlags := 9, code := some k14c1 }
/-- java/util/Objects -/
def k14 : Class := { plain "java/util/Objects" (some 0) with
  accessFlags := 49
  interfaces := #[]
  cf := some (fileOf pool14 42 #[] #[{ accessFlags := 2, nameIndex := 5, descriptorIndex := 6, attributes := #[] }, { accessFlags := 9, nameIndex := 45, descriptorIndex := 46, attributes := #[] }] 49 2 #[] #[])
  fields := #[]
  methods := #[k14m0, k14m1]
  instanceTypes := #[]
  staticTypes := #[]
  resolved := Array.replicate 184 none
  statics := none }

def pool15 : Array CpInfo := pool [(2, .class_ 4), (1, u "java/lang/Object"), (0, u "<init>"), (0, u "()V"), (17, .class_ 26), (1, u "jdk/internal/util/Preconditions"), (28, .class_ 56), (0, u "jdk/internal/util/Preconditions$4"), (57, .class_ 115), (0, u "jdk/internal/util/Preconditions$1"), (7, u "SIOOBE_FORMATTER"), (0, u "Ljava/util/function/BiFunction;"), (0, .class_ 126), (0, u "jdk/internal/util/Preconditions$2"), (3, u "AIOOBE_FORMATTER"), (0, .class_ 132), (0, u "jdk/internal/util/Preconditions$3"), (3, u "IOOBE_FORMATTER")] 57

def k15m0 : Method := { name := "<init>", desc := "()V", sig := { parameters := [], returnType := none }, accessFlags := 1, code := none }
/-- jdk/internal/util/Preconditions -/
def k15 : Class := { plain "jdk/internal/util/Preconditions" (some 0) with
  accessFlags := 33
  interfaces := #[]
  cf := some (fileOf pool15 24 #[.nestMembers #[55, 131, 125, 114]] #[{ accessFlags := 1, nameIndex := 5, descriptorIndex := 6, attributes := #[] }] 33 2 #[] #[{ accessFlags := 25, nameIndex := 123, descriptorIndex := 124, attributes := #[] }, { accessFlags := 25, nameIndex := 130, descriptorIndex := 124, attributes := #[] }, { accessFlags := 25, nameIndex := 136, descriptorIndex := 124, attributes := #[] }])
  fields := #[{ name := "SIOOBE_FORMATTER", type := (.object "java/util/function/BiFunction"), accessFlags := 25, slot := 0, constantValue := 0 }, { name := "AIOOBE_FORMATTER", type := (.object "java/util/function/BiFunction"), accessFlags := 25, slot := 1, constantValue := 0 }, { name := "IOOBE_FORMATTER", type := (.object "java/util/function/BiFunction"), accessFlags := 25, slot := 2, constantValue := 0 }]
  methods := #[k15m0]
  instanceTypes := #[]
  staticTypes := #[(.object "java/util/function/BiFunction"), (.object "java/util/function/BiFunction"), (.object "java/util/function/BiFunction")]
  resolved := Array.replicate 194 none
  statics := some 3 }

def pool16 : Array CpInfo := pool [(9, u "<init>"), (6, .class_ 18), (1, u "java/lang/Object"), (0, u "()V"), (1, .class_ 23), (1, u "jdk/internal/util/ArraysSupport"), (0, u "LOG2_ARRAY_LONG_INDEX_SCALE"), (0, u "I"), (2, u "U"), (0, u "Ljdk/internal/misc/Unsafe;"), (8, u "BIG_ENDIAN"), (0, u "Z"), (8, u "LOG2_BYTE_BIT_SIZE"), (4, u "LOG2_ARRAY_INT_INDEX_SCALE"), (54, u "JLA"), (0, u "Ljdk/internal/access/JavaLangAccess;"), (11, u "LOG2_ARRAY_BOOLEAN_INDEX_SCALE"), (9, u "LOG2_ARRAY_BYTE_INDEX_SCALE"), (5, u "LOG2_ARRAY_CHAR_INDEX_SCALE"), (5, u "LOG2_ARRAY_SHORT_INDEX_SCALE"), (18, u "LOG2_ARRAY_FLOAT_INDEX_SCALE"), (24, u "LOG2_ARRAY_DOUBLE_INDEX_SCALE"), (89, u "T_BOOLEAN"), (2, u "T_CHAR"), (1, u "T_FLOAT"), (1, u "T_DOUBLE"), (1, u "T_BYTE"), (1, u "T_SHORT"), (1, u "T_INT"), (1, u "T_LONG"), (1, u "SOFT_MAX_ARRAY_LENGTH")] 83

def k16m0 : Method := { name := "<init>", desc := "()V", sig := { parameters := [], returnType := none }, accessFlags := 2, code := none }
/-- jdk/internal/util/ArraysSupport -/
def k16 : Class := { plain "jdk/internal/util/ArraysSupport" (some 0) with
  accessFlags := 33
  interfaces := #[]
  cf := some (fileOf pool16 21 #[] #[{ accessFlags := 2, nameIndex := 9, descriptorIndex := 19, attributes := #[] }] 33 16 #[] #[{ accessFlags := 24, nameIndex := 28, descriptorIndex := 29, attributes := #[] }, { accessFlags := 26, nameIndex := 38, descriptorIndex := 39, attributes := #[] }, { accessFlags := 25, nameIndex := 121, descriptorIndex := 25, attributes := #[] }, { accessFlags := 25, nameIndex := 131, descriptorIndex := 25, attributes := #[] }, { accessFlags := 25, nameIndex := 137, descriptorIndex := 25, attributes := #[] }, { accessFlags := 25, nameIndex := 143, descriptorIndex := 25, attributes := #[] }, { accessFlags := 25, nameIndex := 53, descriptorIndex := 25, attributes := #[] }, { accessFlags := 25, nameIndex := 24, descriptorIndex := 25, attributes := #[] }, { accessFlags := 25, nameIndex := 162, descriptorIndex := 25, attributes := #[] }, { accessFlags := 25, nameIndex := 187, descriptorIndex := 25, attributes := #[] }, { accessFlags := 26, nameIndex := 48, descriptorIndex := 25, attributes := #[] }, { accessFlags := 25, nameIndex := 277, descriptorIndex := 25, attributes := #[] }, { accessFlags := 25, nameIndex := 280, descriptorIndex := 25, attributes := #[] }, { accessFlags := 25, nameIndex := 282, descriptorIndex := 25, attributes := #[] }, { accessFlags := 25, nameIndex := 284, descriptorIndex := 25, attributes := #[] }, { accessFlags := 25, nameIndex := 286, descriptorIndex := 25, attributes := #[] }, { accessFlags := 25, nameIndex := 288, descriptorIndex := 25, attributes := #[] }, { accessFlags := 25, nameIndex := 290, descriptorIndex := 25, attributes := #[] }, { accessFlags := 25, nameIndex := 292, descriptorIndex := 25, attributes := #[] }, { accessFlags := 26, nameIndex := 108, descriptorIndex := 109, attributes := #[] }, { accessFlags := 25, nameIndex := 294, descriptorIndex := 25, attributes := #[] }])
  fields := #[{ name := "U", type := (.object "jdk/internal/misc/Unsafe"), accessFlags := 24, slot := 0, constantValue := 0 }, { name := "BIG_ENDIAN", type := .boolean, accessFlags := 26, slot := 1, constantValue := 0 }, { name := "LOG2_ARRAY_BOOLEAN_INDEX_SCALE", type := .int, accessFlags := 25, slot := 2, constantValue := 0 }, { name := "LOG2_ARRAY_BYTE_INDEX_SCALE", type := .int, accessFlags := 25, slot := 3, constantValue := 0 }, { name := "LOG2_ARRAY_CHAR_INDEX_SCALE", type := .int, accessFlags := 25, slot := 4, constantValue := 0 }, { name := "LOG2_ARRAY_SHORT_INDEX_SCALE", type := .int, accessFlags := 25, slot := 5, constantValue := 0 }, { name := "LOG2_ARRAY_INT_INDEX_SCALE", type := .int, accessFlags := 25, slot := 6, constantValue := 0 }, { name := "LOG2_ARRAY_LONG_INDEX_SCALE", type := .int, accessFlags := 25, slot := 7, constantValue := 0 }, { name := "LOG2_ARRAY_FLOAT_INDEX_SCALE", type := .int, accessFlags := 25, slot := 8, constantValue := 0 }, { name := "LOG2_ARRAY_DOUBLE_INDEX_SCALE", type := .int, accessFlags := 25, slot := 9, constantValue := 0 }, { name := "LOG2_BYTE_BIT_SIZE", type := .int, accessFlags := 26, slot := 10, constantValue := 0 }, { name := "T_BOOLEAN", type := .int, accessFlags := 25, slot := 11, constantValue := 0 }, { name := "T_CHAR", type := .int, accessFlags := 25, slot := 12, constantValue := 0 }, { name := "T_FLOAT", type := .int, accessFlags := 25, slot := 13, constantValue := 0 }, { name := "T_DOUBLE", type := .int, accessFlags := 25, slot := 14, constantValue := 0 }, { name := "T_BYTE", type := .int, accessFlags := 25, slot := 15, constantValue := 0 }, { name := "T_SHORT", type := .int, accessFlags := 25, slot := 16, constantValue := 0 }, { name := "T_INT", type := .int, accessFlags := 25, slot := 17, constantValue := 0 }, { name := "T_LONG", type := .int, accessFlags := 25, slot := 18, constantValue := 0 }, { name := "JLA", type := (.object "jdk/internal/access/JavaLangAccess"), accessFlags := 26, slot := 19, constantValue := 0 }, { name := "SOFT_MAX_ARRAY_LENGTH", type := .int, accessFlags := 25, slot := 20, constantValue := 0 }]
  methods := #[k16m0]
  instanceTypes := #[]
  staticTypes := #[(.object "jdk/internal/misc/Unsafe"), .boolean, .int, .int, .int, .int, .int, .int, .int, .int, .int, .int, .int, .int, .int, .int, .int, .int, .int, (.object "jdk/internal/access/JavaLangAccess"), .int]
  resolved := Array.replicate 378 none
  statics := none }

/-- the primitive byte -/
def k17 : Class := { plain "byte" none with kind := .primitive 'B', accessFlags := 0x411 }
/-- [B -/
def k18 : Class := { plain "[B" (some 0) with kind := .array 17 .byte, interfaces := #[12, 2], accessFlags := 1041 }

/-- the primitive char -/
def k19 : Class := { plain "char" none with kind := .primitive 'C', accessFlags := 0x411 }
/-- [C -/
def k20 : Class := { plain "[C" (some 0) with kind := .array 19 .char, interfaces := #[12, 2], accessFlags := 1041 }

/-- the primitive int -/
def k21 : Class := { plain "int" none with kind := .primitive 'I', accessFlags := 0x411 }
/-- [I -/
def k22 : Class := { plain "[I" (some 0) with kind := .array 21 .int, interfaces := #[12, 2], accessFlags := 1041 }

/-- [Lcom/example/mahnwerk/mahnwerk/model/DebtorKind; -/
def k23 : Class := { plain "[Lcom/example/mahnwerk/mahnwerk/model/DebtorKind;" (some 0) with kind := .array 11 (.object "com/example/mahnwerk/mahnwerk/model/DebtorKind"), interfaces := #[12, 2], accessFlags := 1041 }

def heap : Heap := #[{ cls := 7, slots := #[.long 0, .int 1, .null, .int 0, .null, .int 0, .int 0], vm := .statics 7 },
  { cls := 11, slots := #[.ref 5, .ref 6, .ref 4], vm := .statics 11 },
  { cls := 13, slots := #[.ref 11], vm := .statics 13 },
  { cls := 15, slots := #[.null, .null, .null], vm := .statics 15 },
  { cls := 23, slots := #[.ref 5, .ref 6], vm := .none },
  { cls := 11, slots := #[.null, .int 0, .int 0, .ref 7], vm := .none },
  { cls := 11, slots := #[.null, .int 1, .int 0, .ref 8], vm := .none },
  { cls := 7, slots := #[.ref 9, .int 0, .int 0, .int 0], vm := .none },
  { cls := 7, slots := #[.ref 10, .int 0, .int 0, .int 0], vm := .none },
  { cls := 18, slots := #[.int 99, .int 111, .int 110, .int 115, .int 117, .int 109, .int 101, .int 114], vm := .none },
  { cls := 18, slots := #[.int 98, .int 117, .int 115, .int 105, .int 110, .int 101, .int 115, .int 115], vm := .none },
  { cls := 13, slots := #[.null], vm := .none }]
def classes : Array Class := #[k0, k1, k2, k3, k4, k5, k6, k7, k8, k9, k10, k11, k12, k13, k14, k15, k16, k17, k18, k19, k20, k21, k22, k23]
def interned : List (Array UInt16 × Addr) := []
def slotsUsed : Nat := 49
def theMethod : MethodId := ⟨1, 2⟩
def args0 : Array Value := #[.int 5, .long 7, .int 9, .int 3]
def aboutOver (below : List Frame) : State where
  vm := { classes := classes, interned := interned.toArray }
  heap := heap
  slotsUsed := slotsUsed
  threads := #[{ frames := .invoking theMethod args0 :: below }]
def below0 : List Frame := [.native { method := ⟨0, 0⟩, args := #[] }]
def about1 : State := aboutOver below0
def p0 : Program := .bare "" "" ""
def e0 : Env := launch0.env 0 0 0
theorem w_frames : about1.frames = Frame.invoking theMethod args0 :: below0 := rfl
set_option maxRecDepth 65536 in
theorem w_args : argsFit about1.vm theMethod args0 = true := by decide +kernel
set_option maxRecDepth 65536 in
theorem w_heap : heapFits about1 = true := by decide +kernel
set_option maxRecDepth 65536 in
theorem w_runnable : about1.curStatus? = some .runnable := by decide +kernel
set_option maxRecDepth 65536 in
theorem w_alone : about1.alone = true := by decide +kernel
set_option maxRecDepth 65536 in
theorem w_named : about1.methodNamed? x = some theMethod := by decide +kernel
set_option maxRecDepth 65536 in
theorem w_hears : about1.hears theMethod below0 = true := by decide +kernel
set_option maxRecDepth 65536 in
theorem w_ripe : about1.ripe theMethod args0 below0 = true := by decide +kernel
theorem w_running : about1.status = .running := rfl
set_option maxRecDepth 65536 in
theorem w_room : about1.hasRoom e0.platform room_1 = true :=
  launch0.hasRoom_least _ room_1 (by decide +kernel) (by decide +kernel) (by decide +kernel) (by decide +kernel) (by decide +kernel) (by decide +kernel)
theorem allAtoms_all (ts : List Jvm.Cond) (a : Array Jvm.Value) (st : Jvm.State) : (allAtoms ts).before a st = ts.all (fun c => c.before a st) := by
  induction ts with
  | nil => rfl
  | cons c t ih =>
    show (Jvm.Cond.and c (allAtoms t)).before a st = _
    rw [Jvm.Cond.before_and, ih, List.all_cons]
def words1 : List Jvm.Cond := Jvm.Cond.code x code maxLocals ret :: tables_1
/-- a 'code' word, met by the world's own term for the bytes: nothing is compared byte by byte -/
theorem code_word {y : MethodName} {bytes : ByteArray} {mx : Nat} {rt : Option FieldType} {a : Array Value} {s : State} {m : MethodId} {meth : Method} {c : Code} (h1 : s.methodNamed? y = some m) (h2 : s.vm.method? m = some meth) (h3 : meth.code = some c) (h4 : c.code = bytes)
    (h5 : (c.maxLocals == mx && c.exceptionTable.isEmpty && decide (c.maxStack ≤ mostOperands) && decide (meth.sig.returnType = rt) && !meth.locks && decide (parseMethodDescriptor y.desc = some meth.sig)) = true) : (Jvm.Cond.code y bytes mx rt).before a s = true := by
  simp only [Bool.and_eq_true, beq_iff_eq, Bool.not_eq_true', decide_eq_true_eq] at h5
  obtain ⟨⟨⟨⟨⟨g1, g2⟩, g3⟩, g4⟩, g5⟩, g6⟩ := h5
  simp [Cond.before, Cond.holds, Cond.value, h1, h2, h3, h4, g1, g2, g3, g4, g5, g6]
def isCode : Jvm.Cond → Bool
  | .code _ _ _ _ => true
  | _ => false
theorem all_split {L : List Jvm.Cond} {P : Jvm.Cond → Bool} (h1 : L.all (fun c => isCode c || P c) = true) (h2 : ∀ c ∈ L.filter isCode, P c = true) : L.all P = true := by
  refine List.all_eq_true.mpr fun c hc => ?_
  have h := List.all_eq_true.mp h1 c hc
  rcases Bool.eq_false_or_eq_true (isCode c) with hi | hi
  · exact h2 c (List.mem_filter.mpr ⟨hc, hi⟩)
  · simpa [hi] using h
set_option maxRecDepth 65536 in
theorem w_c0 : (Jvm.Cond.code x code maxLocals ret).before args0 about1 = true := code_word (m := ⟨1, 2⟩) (meth := k1m2) (c := k1c2) (by decide +kernel) rfl rfl rfl (by decide +kernel)
set_option maxRecDepth 65536 in
theorem w_c1 : (Jvm.Cond.code ({ cls := "java/lang/String", name := "<init>", desc := "([C)V" } : Jvm.MethodName) jdk_42_method_3_code (2 : Nat) (Option.none : Option Jvm.ClassFile.FieldType)).before args0 about1 = true := code_word (m := ⟨7, 1⟩) (meth := k7m1) (c := k7c1) (by decide +kernel) rfl rfl rfl (by decide +kernel)
set_option maxRecDepth 65536 in
theorem w_c2 : (Jvm.Cond.code ({ cls := "java/lang/String", name := "<init>", desc := "([CIILjava/lang/Void;)V" } : Jvm.MethodName) jdk_42_method_149_code (6 : Nat) (Option.none : Option Jvm.ClassFile.FieldType)).before args0 about1 = true := code_word (m := ⟨7, 4⟩) (meth := k7m4) (c := k7c4) (by decide +kernel) rfl rfl rfl (by decide +kernel)
set_option maxRecDepth 65536 in
theorem w_c3 : (Jvm.Cond.code ({ cls := "java/lang/Object", name := "<init>", desc := "()V" } : Jvm.MethodName) object_method_1_code (1 : Nat) (Option.none : Option Jvm.ClassFile.FieldType)).before args0 about1 = true := code_word (m := ⟨0, 0⟩) (meth := k0m0) (c := k0c0) (by decide +kernel) rfl rfl rfl (by decide +kernel)
set_option maxRecDepth 65536 in
theorem w_c4 : (Jvm.Cond.code ({ cls := "java/lang/StringUTF16", name := "compress", desc := "([CII)[B" } : Jvm.MethodName) jdk_52_method_16_code (6 : Nat) (Option.some (Jvm.ClassFile.FieldType.array Jvm.ClassFile.FieldType.byte))).before args0 about1 = true := code_word (m := ⟨8, 2⟩) (meth := k8m2) (c := k8c2) (by decide +kernel) rfl rfl rfl (by decide +kernel)
set_option maxRecDepth 65536 in
theorem w_c5 : (Jvm.Cond.code ({ cls := "java/lang/StringUTF16", name := "compress", desc := "([CI[BII)I" } : Jvm.MethodName) jdk_52_method_21_code (7 : Nat) (Option.some Jvm.ClassFile.FieldType.int)).before args0 about1 = true := code_word (m := ⟨8, 3⟩) (meth := k8m3) (c := k8c3) (by decide +kernel) rfl rfl rfl (by decide +kernel)
set_option maxRecDepth 65536 in
theorem w_c6 : (Jvm.Cond.code ({ cls := "java/lang/StringUTF16", name := "coderFromArrayLen", desc := "([BI)B" } : Jvm.MethodName) jdk_52_method_15_code (2 : Nat) (Option.some Jvm.ClassFile.FieldType.byte)).before args0 about1 = true := code_word (m := ⟨8, 1⟩) (meth := k8m1) (c := k8c1) (by decide +kernel) rfl rfl rfl (by decide +kernel)
set_option maxRecDepth 65536 in
theorem w_c7 : (Jvm.Cond.code ({ cls := "java/lang/String", name := "equals", desc := "(Ljava/lang/Object;)Z" } : Jvm.MethodName) jdk_42_method_66_code (3 : Nat) (Option.some Jvm.ClassFile.FieldType.boolean)).before args0 about1 = true := code_word (m := ⟨7, 2⟩) (meth := k7m2) (c := k7c2) (by decide +kernel) rfl rfl rfl (by decide +kernel)
set_option maxRecDepth 65536 in
theorem w_c8 : (Jvm.Cond.code ({ cls := "java/lang/StringLatin1", name := "equals", desc := "([B[B)Z" } : Jvm.MethodName) jdk_43_method_13_code (3 : Nat) (Option.some Jvm.ClassFile.FieldType.boolean)).before args0 about1 = true := code_word (m := ⟨9, 2⟩) (meth := k9m2) (c := k9c2) (by decide +kernel) rfl rfl rfl (by decide +kernel)
set_option maxRecDepth 65536 in
theorem w_c9 : (Jvm.Cond.code ({ cls := "com/example/mahnwerk/mahnwerk/model/DebtorKind", name := "of", desc := "(Ljava/lang/String;)Ljava/util/Optional;" } : Jvm.MethodName) prog_69_method_4_code (5 : Nat) (Option.some (Jvm.ClassFile.FieldType.object "java/util/Optional"))).before args0 about1 = true := code_word (m := ⟨11, 1⟩) (meth := k11m1) (c := k11c1) (by decide +kernel) rfl rfl rfl (by decide +kernel)
set_option maxRecDepth 65536 in
theorem w_c10 : (Jvm.Cond.code ({ cls := "com/example/mahnwerk/mahnwerk/model/DebtorKind", name := "values", desc := "()[Lcom/example/mahnwerk/mahnwerk/model/DebtorKind;" } : Jvm.MethodName) prog_69_method_1_code (0 : Nat) (Option.some (Jvm.ClassFile.FieldType.array (Jvm.ClassFile.FieldType.object "com/example/mahnwerk/mahnwerk/model/DebtorKind")))).before args0 about1 = true := code_word (m := ⟨11, 0⟩) (meth := k11m0) (c := k11c0) (by decide +kernel) rfl rfl rfl (by decide +kernel)
set_option maxRecDepth 65536 in
theorem w_c11 : (Jvm.Cond.code ({ cls := "java/util/Optional", name := "of", desc := "(Ljava/lang/Object;)Ljava/util/Optional;" } : Jvm.MethodName) jdk_32_method_3_code (1 : Nat) (Option.some (Jvm.ClassFile.FieldType.object "java/util/Optional"))).before args0 about1 = true := code_word (m := ⟨13, 2⟩) (meth := k13m2) (c := k13c2) (by decide +kernel) rfl rfl rfl (by decide +kernel)
set_option maxRecDepth 65536 in
theorem w_c12 : (Jvm.Cond.code ({ cls := "java/util/Objects", name := "requireNonNull", desc := "(Ljava/lang/Object;)Ljava/lang/Object;" } : Jvm.MethodName) jdk_31_method_10_code (1 : Nat) (Option.some (Jvm.ClassFile.FieldType.object "java/lang/Object"))).before args0 about1 = true := code_word (m := ⟨14, 1⟩) (meth := k14m1) (c := k14c1) (by decide +kernel) rfl rfl rfl (by decide +kernel)
set_option maxRecDepth 65536 in
theorem w_c13 : (Jvm.Cond.code ({ cls := "java/util/Optional", name := "<init>", desc := "(Ljava/lang/Object;)V" } : Jvm.MethodName) jdk_32_method_2_code (2 : Nat) (Option.none : Option Jvm.ClassFile.FieldType)).before args0 about1 = true := code_word (m := ⟨13, 1⟩) (meth := k13m1) (c := k13c1) (by decide +kernel) rfl rfl rfl (by decide +kernel)
set_option maxRecDepth 65536 in
theorem w_c14 : (Jvm.Cond.code ({ cls := "java/util/Optional", name := "orElse", desc := "(Ljava/lang/Object;)Ljava/lang/Object;" } : Jvm.MethodName) jdk_32_method_15_code (2 : Nat) (Option.some (Jvm.ClassFile.FieldType.object "java/lang/Object"))).before args0 about1 = true := code_word (m := ⟨13, 3⟩) (meth := k13m3) (c := k13c3) (by decide +kernel) rfl rfl rfl (by decide +kernel)
set_option maxRecDepth 65536 in
theorem w_c15 : (Jvm.Cond.code ({ cls := "com/example/mahnwerk/mahnwerk/model/DebtorKindOfPinLaw", name := "byteAt", desc := "(JI)C" } : Jvm.MethodName) method_2_code (3 : Nat) (Option.some Jvm.ClassFile.FieldType.char)).before args0 about1 = true := code_word (m := ⟨1, 1⟩) (meth := k1m1) (c := k1c1) (by decide +kernel) rfl rfl rfl (by decide +kernel)
set_option maxRecDepth 65536 in
theorem w_c16 : (Jvm.Cond.code ({ cls := "java/util/Optional", name := "empty", desc := "()Ljava/util/Optional;" } : Jvm.MethodName) jdk_32_method_1_code (1 : Nat) (Option.some (Jvm.ClassFile.FieldType.object "java/util/Optional"))).before args0 about1 = true := code_word (m := ⟨13, 0⟩) (meth := k13m0) (c := k13c0) (by decide +kernel) rfl rfl rfl (by decide +kernel)
set_option maxRecDepth 65536 in
theorem w_c17 : (Jvm.Cond.code ({ cls := "java/lang/String", name := "valueOf", desc := "(C)Ljava/lang/String;" } : Jvm.MethodName) jdk_42_method_139_code (1 : Nat) (Option.some (Jvm.ClassFile.FieldType.object "java/lang/String"))).before args0 about1 = true := code_word (m := ⟨7, 3⟩) (meth := k7m3) (c := k7c3) (by decide +kernel) rfl rfl rfl (by decide +kernel)
set_option maxRecDepth 65536 in
theorem w_c18 : (Jvm.Cond.code ({ cls := "java/lang/StringLatin1", name := "canEncode", desc := "(C)Z" } : Jvm.MethodName) jdk_43_method_3_code (1 : Nat) (Option.some Jvm.ClassFile.FieldType.boolean)).before args0 about1 = true := code_word (m := ⟨9, 1⟩) (meth := k9m1) (c := k9c1) (by decide +kernel) rfl rfl rfl (by decide +kernel)
set_option maxRecDepth 65536 in
theorem w_c19 : (Jvm.Cond.code ({ cls := "java/lang/StringLatin1", name := "toBytes", desc := "(C)[B" } : Jvm.MethodName) jdk_43_method_46_code (1 : Nat) (Option.some (Jvm.ClassFile.FieldType.array Jvm.ClassFile.FieldType.byte))).before args0 about1 = true := code_word (m := ⟨9, 3⟩) (meth := k9m3) (c := k9c3) (by decide +kernel) rfl rfl rfl (by decide +kernel)
set_option maxRecDepth 65536 in
theorem w_c20 : (Jvm.Cond.code ({ cls := "java/lang/String", name := "<init>", desc := "([BB)V" } : Jvm.MethodName) jdk_42_method_151_code (3 : Nat) (Option.none : Option Jvm.ClassFile.FieldType)).before args0 about1 = true := code_word (m := ⟨7, 5⟩) (meth := k7m5) (c := k7c5) (by decide +kernel) rfl rfl rfl (by decide +kernel)
def codes1 : List Jvm.Cond := [Jvm.Cond.code x code maxLocals ret, Jvm.Cond.code ({ cls := "java/lang/String", name := "<init>", desc := "([C)V" } : Jvm.MethodName) jdk_42_method_3_code (2 : Nat) (Option.none : Option Jvm.ClassFile.FieldType), Jvm.Cond.code ({ cls := "java/lang/String", name := "<init>", desc := "([CIILjava/lang/Void;)V" } : Jvm.MethodName) jdk_42_method_149_code (6 : Nat) (Option.none : Option Jvm.ClassFile.FieldType), Jvm.Cond.code ({ cls := "java/lang/Object", name := "<init>", desc := "()V" } : Jvm.MethodName) object_method_1_code (1 : Nat) (Option.none : Option Jvm.ClassFile.FieldType), Jvm.Cond.code ({ cls := "java/lang/StringUTF16", name := "compress", desc := "([CII)[B" } : Jvm.MethodName) jdk_52_method_16_code (6 : Nat) (Option.some (Jvm.ClassFile.FieldType.array Jvm.ClassFile.FieldType.byte)), Jvm.Cond.code ({ cls := "java/lang/StringUTF16", name := "compress", desc := "([CI[BII)I" } : Jvm.MethodName) jdk_52_method_21_code (7 : Nat) (Option.some Jvm.ClassFile.FieldType.int), Jvm.Cond.code ({ cls := "java/lang/StringUTF16", name := "coderFromArrayLen", desc := "([BI)B" } : Jvm.MethodName) jdk_52_method_15_code (2 : Nat) (Option.some Jvm.ClassFile.FieldType.byte), Jvm.Cond.code ({ cls := "java/lang/String", name := "equals", desc := "(Ljava/lang/Object;)Z" } : Jvm.MethodName) jdk_42_method_66_code (3 : Nat) (Option.some Jvm.ClassFile.FieldType.boolean), Jvm.Cond.code ({ cls := "java/lang/StringLatin1", name := "equals", desc := "([B[B)Z" } : Jvm.MethodName) jdk_43_method_13_code (3 : Nat) (Option.some Jvm.ClassFile.FieldType.boolean), Jvm.Cond.code ({ cls := "com/example/mahnwerk/mahnwerk/model/DebtorKind", name := "of", desc := "(Ljava/lang/String;)Ljava/util/Optional;" } : Jvm.MethodName) prog_69_method_4_code (5 : Nat) (Option.some (Jvm.ClassFile.FieldType.object "java/util/Optional")), Jvm.Cond.code ({ cls := "com/example/mahnwerk/mahnwerk/model/DebtorKind", name := "values", desc := "()[Lcom/example/mahnwerk/mahnwerk/model/DebtorKind;" } : Jvm.MethodName) prog_69_method_1_code (0 : Nat) (Option.some (Jvm.ClassFile.FieldType.array (Jvm.ClassFile.FieldType.object "com/example/mahnwerk/mahnwerk/model/DebtorKind"))), Jvm.Cond.code ({ cls := "java/util/Optional", name := "of", desc := "(Ljava/lang/Object;)Ljava/util/Optional;" } : Jvm.MethodName) jdk_32_method_3_code (1 : Nat) (Option.some (Jvm.ClassFile.FieldType.object "java/util/Optional")), Jvm.Cond.code ({ cls := "java/util/Objects", name := "requireNonNull", desc := "(Ljava/lang/Object;)Ljava/lang/Object;" } : Jvm.MethodName) jdk_31_method_10_code (1 : Nat) (Option.some (Jvm.ClassFile.FieldType.object "java/lang/Object")), Jvm.Cond.code ({ cls := "java/util/Optional", name := "<init>", desc := "(Ljava/lang/Object;)V" } : Jvm.MethodName) jdk_32_method_2_code (2 : Nat) (Option.none : Option Jvm.ClassFile.FieldType), Jvm.Cond.code ({ cls := "java/util/Optional", name := "orElse", desc := "(Ljava/lang/Object;)Ljava/lang/Object;" } : Jvm.MethodName) jdk_32_method_15_code (2 : Nat) (Option.some (Jvm.ClassFile.FieldType.object "java/lang/Object")), Jvm.Cond.code ({ cls := "com/example/mahnwerk/mahnwerk/model/DebtorKindOfPinLaw", name := "byteAt", desc := "(JI)C" } : Jvm.MethodName) method_2_code (3 : Nat) (Option.some Jvm.ClassFile.FieldType.char), Jvm.Cond.code ({ cls := "java/util/Optional", name := "empty", desc := "()Ljava/util/Optional;" } : Jvm.MethodName) jdk_32_method_1_code (1 : Nat) (Option.some (Jvm.ClassFile.FieldType.object "java/util/Optional")), Jvm.Cond.code ({ cls := "java/lang/String", name := "valueOf", desc := "(C)Ljava/lang/String;" } : Jvm.MethodName) jdk_42_method_139_code (1 : Nat) (Option.some (Jvm.ClassFile.FieldType.object "java/lang/String")), Jvm.Cond.code ({ cls := "java/lang/StringLatin1", name := "canEncode", desc := "(C)Z" } : Jvm.MethodName) jdk_43_method_3_code (1 : Nat) (Option.some Jvm.ClassFile.FieldType.boolean), Jvm.Cond.code ({ cls := "java/lang/StringLatin1", name := "toBytes", desc := "(C)[B" } : Jvm.MethodName) jdk_43_method_46_code (1 : Nat) (Option.some (Jvm.ClassFile.FieldType.array Jvm.ClassFile.FieldType.byte)), Jvm.Cond.code ({ cls := "java/lang/String", name := "<init>", desc := "([BB)V" } : Jvm.MethodName) jdk_42_method_151_code (3 : Nat) (Option.none : Option Jvm.ClassFile.FieldType)]
set_option maxRecDepth 65536 in
theorem codes_eq : words1.filter isCode = codes1 := rfl
theorem w_codes : ∀ c ∈ words1.filter isCode, c.before args0 about1 = true := by
  rw [codes_eq]
  intro c hc
  simp only [codes1, List.mem_cons, List.not_mem_nil, or_false] at hc
  rcases hc with rfl | rfl | rfl | rfl | rfl | rfl | rfl | rfl | rfl | rfl | rfl | rfl | rfl | rfl | rfl | rfl | rfl | rfl | rfl | rfl | rfl
  · exact w_c0
  · exact w_c1
  · exact w_c2
  · exact w_c3
  · exact w_c4
  · exact w_c5
  · exact w_c6
  · exact w_c7
  · exact w_c8
  · exact w_c9
  · exact w_c10
  · exact w_c11
  · exact w_c12
  · exact w_c13
  · exact w_c14
  · exact w_c15
  · exact w_c16
  · exact w_c17
  · exact w_c18
  · exact w_c19
  · exact w_c20
set_option maxRecDepth 65536 in
theorem w_t1 : (words1.take 24).all (fun c => isCode c || c.before args0 about1) = true := by decide +kernel
set_option maxRecDepth 65536 in
theorem w_t2 : ((words1.drop 24).take 24).all (fun c => isCode c || c.before args0 about1) = true := by decide +kernel
set_option maxRecDepth 65536 in
theorem w_t3 : (((words1.drop 24).drop 24).take 24).all (fun c => isCode c || c.before args0 about1) = true := by decide +kernel
set_option maxRecDepth 65536 in
theorem w_t4 : ((((words1.drop 24).drop 24).drop 24).take 24).all (fun c => isCode c || c.before args0 about1) = true := by decide +kernel
set_option maxRecDepth 65536 in
theorem w_t5 : ((((words1.drop 24).drop 24).drop 24).drop 24).all (fun c => isCode c || c.before args0 about1) = true := by decide +kernel
theorem w_tables : (allAtoms (Jvm.Cond.code x code maxLocals ret :: tables_1)).before args0 about1 = true := by
  rw [allAtoms_all]
  show words1.all (fun c => c.before args0 about1) = true
  refine all_split ?_ w_codes
  rw [← List.take_append_drop 24 words1, List.all_append, w_t1, ← List.take_append_drop 24 (words1.drop 24), List.all_append, w_t2, ← List.take_append_drop 24 ((words1.drop 24).drop 24), List.all_append, w_t3, ← List.take_append_drop 24 (((words1.drop 24).drop 24).drop 24), List.all_append, w_t4, w_t5]
  rfl
set_option maxRecDepth 65536 in
theorem w_rest : rest_1_c.before args0 about1 = true := by decide +kernel
set_option maxRecDepth 65536 in
theorem w_case : (Jvm.Cond.and given_1 narrow_1).before args0 about1 = true := by decide +kernel
set_option maxRecDepth 65536 in
theorem w_consts : constsHeld consts_1 about1 := Jvm.Lit.constsHeldB_iff.mp (by decide +kernel)
theorem w_applies : (headSpec (Jvm.Cond.code x code maxLocals ret :: tables_1) room_1).applies x e0.platform about1 = true :=
  (Spec.applies_iff w_frames).mpr ⟨w_running, w_runnable, w_alone, w_named, w_hears, w_ripe, w_room, w_tables⟩
theorem atStart : AtStart classFile x code maxLocals ret World_1 tables_1 room_1 Calls_1 rest_1 Pre_1 launch0 p0 e0 about1 theMethod args0 below0 :=
  ⟨lists_1, trivial, launch0.admits_env _ _ _, launch0.least_env, fairChoices_fair.cas, fairChoices_fair.clock, w_frames, w_args, w_heap, w_applies, ⟨w_consts, trivial⟩, w_rest, w_case⟩
end start1
theorem witness_1 : WitnessClaimed_1 := ⟨start1.p0, start1.e0, start1.about1, start1.theMethod, start1.args0, start1.below0, start1.atStart⟩
end Jvm.Pilot.@@N@@
