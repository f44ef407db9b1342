import JvmDerived
import JvmDerived.Pilot.@@N@@Statement
import JvmDerived.Pilot.@@N@@Code
set_option linter.unusedVariables false
set_option linter.unusedSimpArgs false
@@BLOCK:NumsL.lean.txt@@
/- laws to paste: Road.backV, Road.lenW, Road.chN, Road.codOf (cut by pick.py; bodies as the Statement names them) -/
namespace Jvm.Pilot.@@N@@
namespace StrChars
open Jvm Sem ClassFile Op Lib Jvm.Stand Jvm.Free.XT Jvm.Free.ALB Jvm.Free.JM Jvm.Free
open Jvm.Lib.Cold (StaticIs)
/-- a char array whose places are chars -/
def Ch (a : Addr) (A : Cell) (U : State) : Prop := Arr .char a A U ∧ Typed .char A
theorem Ch.mv {a : Addr} {A : Cell} {U U' : State} (h : Ch a A U) (hal : U.vm.Alike U'.vm) (hh : U'.heap = U.heap) : Ch a A U' := ⟨h.1.mv hal hh, h.2⟩
theorem Ch.keep {a : Addr} {A : Cell} {U U' : State} (h : Ch a A U) (hal : U.vm.Alike U'.vm) (hk : U'.heap[a]? = some A) : Ch a A U' := ⟨h.1.keep hal hk, h.2⟩
/-- what place i of a char[]'s cell holds -/
def cv (A : Cell) (i : Nat) : Int32 := match A.slots[i]? with | some (.int x) => x | _ => 0
theorem Ch.get {a : Addr} {A : Cell} {U : State} (h : Ch a A U) {i : Nat} (hi : i < A.slots.size) : A.slots[i]? = some (.int (cv A i)) := by
  have e := Array.getElem?_eq_getElem hi
  have f := h.2 i _ e
  unfold cv; rw [e]
  generalize A.slots[i] = v at f
  cases v <;> simp [fits] at f ⊢
/-- the byte that i2b leaves of a char -/
def lo8 (x : Int32) : Int32 := x.toInt8.toInt32
theorem fits_lo8 (y : Int32) : fits .byte (.int (lo8 y)) = true := by
  have h1 := y.toInt8.le_toInt
  have h2 := y.toInt8.toInt_lt
  simp only [lo8, fits, Bool.and_eq_true, decide_eq_true_eq, Int32.le_iff_toInt_le, Int8.toInt_toInt32, show (-128 : Int32).toInt = -128 from by decide, show (127 : Int32).toInt = 127 from by decide]
  omega
/-- A' is A but that each place j of lo .. hi - 1 holds f j -/
def Laid (A A' : Cell) (lo hi : Nat) (f : Nat → Value) : Prop := A'.cls = A.cls ∧ A'.vm = A.vm ∧ A'.slots.size = A.slots.size ∧ ∀ i, A'.slots[i]? = if lo ≤ i ∧ i < hi then some (f i) else A.slots[i]?
theorem Laid.zero (A : Cell) (lo : Nat) (f : Nat → Value) : Laid A A lo (lo + 0) f := ⟨rfl, rfl, rfl, fun i => by rw [if_neg (by omega)]⟩
theorem Laid.step {A Ak : Cell} {lo k : Nat} {f : Nat → Value} {v : Value} (h : Laid A Ak lo k f) (hlo : lo ≤ k) (hk : k < Ak.slots.size) (hv : v = f k) : Laid A (Ak.setSlot k v) lo (k + 1) f := by
  refine ⟨h.1, h.2.1, by simpa [Cell.setSlot] using h.2.2.1, fun i => ?_⟩
  by_cases e : k = i
  · subst e; rw [Cell.slots_setSlot_self v hk, if_pos (by omega), hv]
  · rw [Cell.slots_setSlot_ne v e, h.2.2.2 i]
    by_cases q : lo ≤ i ∧ i < k
    · rw [if_pos q, if_pos (by omega)]
    · rw [if_neg q, if_neg (by omega)]
def U16 : String := "java/lang/StringUTF16"
namespace Cmp5
def yN : MethodName := ⟨"java/lang/StringUTF16", "compress", "([CI[BII)I"⟩
abbrev yB : ByteArray := jdk_52_method_21_code
theorem d0 : decode yB 0 = .ok (.iconst 0, 1) := by decide +kernel
theorem d1 : decode yB 1 = .ok (.istore 5, 2) := by decide +kernel
theorem d3 : decode yB 3 = .ok (.iload 5, 2) := by decide +kernel
theorem d5 : decode yB 5 = .ok (.iload 4, 2) := by decide +kernel
theorem d7 : decode yB 7 = .ok (.if_icmp (.ge) 37, 3) := by decide +kernel
theorem d10 : decode yB 10 = .ok (.aload_n 0, 1) := by decide +kernel
theorem d11 : decode yB 11 = .ok (.iload_n 1, 1) := by decide +kernel
theorem d12 : decode yB 12 = .ok (.caload, 1) := by decide +kernel
theorem d13 : decode yB 13 = .ok (.istore 6, 2) := by decide +kernel
theorem d15 : decode yB 15 = .ok (.iload 6, 2) := by decide +kernel
theorem d17 : decode yB 17 = .ok (.sipush 255, 3) := by decide +kernel
theorem d20 : decode yB 20 = .ok (.if_icmp (.le) 6, 3) := by decide +kernel
theorem d26 : decode yB 26 = .ok (.aload_n 2, 1) := by decide +kernel
theorem d27 : decode yB 27 = .ok (.iload_n 3, 1) := by decide +kernel
theorem d28 : decode yB 28 = .ok (.iload 6, 2) := by decide +kernel
theorem d30 : decode yB 30 = .ok (.i2b, 1) := by decide +kernel
theorem d31 : decode yB 31 = .ok (.bastore, 1) := by decide +kernel
theorem d32 : decode yB 32 = .ok (.iinc 1 1, 3) := by decide +kernel
theorem d35 : decode yB 35 = .ok (.iinc 3 1, 3) := by decide +kernel
theorem d38 : decode yB 38 = .ok (.iinc 5 1, 3) := by decide +kernel
theorem d41 : decode yB 41 = .ok (.goto (-38), 3) := by decide +kernel
theorem d44 : decode yB 44 = .ok (.iload 4, 2) := by decide +kernel
theorem d46 : decode yB 46 = .ok (.ireturn, 1) := by decide +kernel
def site : List Cond := []
def tab : Cond := tabOf yN yB 7 (some .int) site
def P (b : Addr) (A : Cell) (d : Addr) (B : Cell) (o q len : Nat) (args : Array Value) (s : State) : Prop := args = #[.ref b, .int (Int32.ofNat o), .ref d, .int (Int32.ofNat q), .int (Int32.ofNat len)] ∧ Ch b A s ∧ Arr .byte d B s ∧ b ≠ d ∧ o + len ≤ A.slots.size ∧ q + len ≤ B.slots.size ∧ ∀ i, i < len → ¬ 255 < cv A (o + i)
def E (b : Addr) (A : Cell) (d : Addr) (B : Cell) (o q len : Nat) (r : Option Value) (s u : State) : Prop := r = some (.int (Int32.ofNat len)) ∧ ∃ B', Put d B' s u ∧ Laid B B' q (q + len) (fun j => Value.int (lo8 (cv A (o + (j - q)))))
/-- no char of the range above 255: len; the places written hold each char's low byte -/
theorem law (l : Launch) (b : Addr) (A : Cell) (d : Addr) (B : Cell) (o q len : Nat) : Law l yN 5 5 0 0 yB 7 (some .int) site (P b A d B o q len) (E b A d B o q len) (copyLocs d q len) 0 0 := by
  refine Law.of_walk (plainFor_of_name (by decide +kernel)) (by decide +kernel) (by decide +kernel) (by decide) (fun _ _ h => by rw [h.1]; rfl) (fun _ U U' hal hh h => ⟨h.1, h.2.1.mv hal hh, h.2.2.1.mv hal hh, h.2.2.2⟩) (fun r U U' V V' h1 hal h2 h => ⟨h.1, h.2.elim fun B' q => ⟨B', q.1.mv h1 h2, q.2⟩⟩) ?_
  intro p e s m args below meth c s₁ X0 hexec hbytes hml hret hlk hnm hown hh0 W hP
  obtain ⟨rfl, hA, hB, hne, l1, l2, hp⟩ := hP
  have c1 : Steps p.tables e below (s₁.setTop (entryFrame m #[.ref b, .int (Int32.ofNat o), .ref d, .int (Int32.ofNat q), .int (Int32.ofNat len)] 7)) (s₁.setTop (mkF m 0 #[.val (.ref b), .val (.int (Int32.ofNat o)), .val (.ref d), .val (.int (Int32.ofNat q)), .val (.int (Int32.ofNat len)), .unset, .unset] [])) := entry rfl
  have hA0 := hA.1.mv X0.warmed.alike hh0
  have hB0 := hB.mv X0.warmed.alike hh0
  have a31 := hA.1.2.2.2
  have c2 : Steps p.tables e below (s₁.setTop (entryFrame m #[.ref b, .int (Int32.ofNat o), .ref d, .int (Int32.ofNat q), .int (Int32.ofNat len)] 7)) (s₁.setTop (mkF m 3 #[.val (.ref b), .val (.int (Int32.ofNat o)), .val (.ref d), .val (.int (Int32.ofNat q)), .val (.int (Int32.ofNat len)), .val (.int 0), .unset] [])) := c1.trans (by
    refine iconstV X0.here hexec rfl 0 (hb hbytes d0) (by decide) ?_
    refine XS.istore X0.here hexec rfl (hb hbytes d1) rfl rfl ?_
    exact Steps.refl _)
  have loop : ∀ (r i : Nat), i + r = len → ∀ (z : Slot), (z = .unset ∨ ∃ w, z = .val w ∧ w.category = 1) → ∀ (Tl : State) (Bk : Cell), Stand p l e { frames := 0, locals := 0, cells := 0, slots := 0 } s m #[.ref b, .int (Int32.ofNat o), .ref d, .int (Int32.ofNat q), .int (Int32.ofNat len)] below meth c Tl ([] ++ copyLocs d q i) 0 0 → Put d Bk s₁ Tl → Laid B Bk q (q + i) (fun j => Value.int (lo8 (cv A (o + (j - q))))) →
      Steps p.tables e below (s₁.setTop (entryFrame m #[.ref b, .int (Int32.ofNat o), .ref d, .int (Int32.ofNat q), .int (Int32.ofNat len)] 7)) (Tl.setTop (mkF m 3 #[.val (.ref b), .val (.int (Int32.ofNat (o + i))), .val (.ref d), .val (.int (Int32.ofNat (q + i))), .val (.int (Int32.ofNat len)), .val (.int (Int32.ofNat i)), z] [])) → ∃ (T' : State) (B' : Cell) (z' : Slot), Stand p l e { frames := 0, locals := 0, cells := 0, slots := 0 } s m #[.ref b, .int (Int32.ofNat o), .ref d, .int (Int32.ofNat q), .int (Int32.ofNat len)] below meth c T' ([] ++ copyLocs d q len) 0 0 ∧ Put d B' s₁ T' ∧ Laid B B' q (q + len) (fun j => Value.int (lo8 (cv A (o + (j - q))))) ∧
      Steps p.tables e below (s₁.setTop (entryFrame m #[.ref b, .int (Int32.ofNat o), .ref d, .int (Int32.ofNat q), .int (Int32.ofNat len)] 7)) (T'.setTop (mkF m 3 #[.val (.ref b), .val (.int (Int32.ofNat (o + len))), .val (.ref d), .val (.int (Int32.ofNat (q + len))), .val (.int (Int32.ofNat len)), .val (.int (Int32.ofNat len)), z'] [])) := by
    intro r
    induction r with
    | zero =>
      intro i hi z hz Tl Bk Xl pl fl cl
      have hil : i = len := by omega
      rw [hil] at Xl fl cl
      exact ⟨Tl, Bk, z, Xl, pl, fl, cl⟩
    | succ r ih =>
      intro i hi z hz Tl Bk Xl pl fl cl
      have all := X0.warmed.alike.symm.trans Xl.warmed.alike
      have hAl := hA0.keep all (pl.other hne hA0.1)
      have hBk := hB0.like all pl.1 fl.1 fl.2.1 fl.2.2.1
      have hlt : q + i < Bk.slots.size := by rw [fl.2.2.1]; omega
      have c3 : Steps p.tables e below (s₁.setTop (entryFrame m #[.ref b, .int (Int32.ofNat o), .ref d, .int (Int32.ofNat q), .int (Int32.ofNat len)] 7)) (Tl.setTop (mkF m 12 #[.val (.ref b), .val (.int (Int32.ofNat (o + i))), .val (.ref d), .val (.int (Int32.ofNat (q + i))), .val (.int (Int32.ofNat len)), .val (.int (Int32.ofNat i)), z] [.int (Int32.ofNat (o + i)), .ref b])) := cl.trans (by
        refine XS.iload Xl.here hexec rfl (hb hbytes d3) rfl ?_
        refine XS.iload Xl.here hexec rfl (hb hbytes d5) rfl ?_
        refine XS.icmpNo Xl.here hexec rfl (hb hbytes d7) rfl (ii_ge_f (lt32 (by omega) (by omega))) ?_
        refine XS.aloadN Xl.here hexec rfl (hb hbytes d10) rfl rfl ?_
        refine XS.iloadN Xl.here hexec rfl (hb hbytes d11) rfl ?_
        exact Steps.refl _)
      have c4 : Steps p.tables e below (s₁.setTop (entryFrame m #[.ref b, .int (Int32.ofNat o), .ref d, .int (Int32.ofNat q), .int (Int32.ofNat len)] 7)) (Tl.setTop (mkF m 13 #[.val (.ref b), .val (.int (Int32.ofNat (o + i))), .val (.ref d), .val (.int (Int32.ofNat (q + i))), .val (.int (Int32.ofNat len)), .val (.int (Int32.ofNat i)), z] [.int (cv A (o + i))])) := c3.trans (by
        refine Xl.aget hexec hAl rfl (hA.get (i := o + i) (by omega)) rfl rfl (hb hbytes d12) ?_
        exact Steps.refl _)
      have c5 : Steps p.tables e below (s₁.setTop (entryFrame m #[.ref b, .int (Int32.ofNat o), .ref d, .int (Int32.ofNat q), .int (Int32.ofNat len)] 7)) (Tl.setTop (mkF m 15 #[.val (.ref b), .val (.int (Int32.ofNat (o + i))), .val (.ref d), .val (.int (Int32.ofNat (q + i))), .val (.int (Int32.ofNat len)), .val (.int (Int32.ofNat i)), .val (.int (cv A (o + i)))] [])) := c4.trans (by
        refine XS.istoreS Xl.here hexec rfl (hb hbytes d13) rfl rfl hz ?_
        exact Steps.refl _)
      have c6 : Steps p.tables e below (s₁.setTop (entryFrame m #[.ref b, .int (Int32.ofNat o), .ref d, .int (Int32.ofNat q), .int (Int32.ofNat len)] 7)) (Tl.setTop (mkF m 31 #[.val (.ref b), .val (.int (Int32.ofNat (o + i))), .val (.ref d), .val (.int (Int32.ofNat (q + i))), .val (.int (Int32.ofNat len)), .val (.int (Int32.ofNat i)), .val (.int (cv A (o + i)))] [.int (lo8 (cv A (o + i))), .int (Int32.ofNat (q + i)), .ref d])) := c5.trans (by
        refine XS.iload Xl.here hexec rfl (hb hbytes d15) rfl ?_
        refine sipushV Xl.here hexec rfl 255 (hb hbytes d17) (by decide) ?_
        refine XS.icmpYes Xl.here hexec rfl (pc0 := 20) rfl (hb hbytes d20) rfl (ii_le_t (hp i (by omega))) (by decide) rfl ?_
        refine XS.aloadN Xl.here hexec rfl (hb hbytes d26) rfl rfl ?_
        refine XS.iloadN Xl.here hexec rfl (hb hbytes d27) rfl ?_
        refine XS.iload Xl.here hexec rfl (hb hbytes d28) rfl ?_
        refine i2b Xl.here hexec rfl (hb hbytes d30) rfl ?_
        exact Steps.refl _)
      obtain ⟨T7, X7, p7, st7⟩ := Xl.aput hexec hBk rfl hlt rfl (fits_lo8 (cv A (o + i))) (g := (mkF m 31 #[.val (.ref b), .val (.int (Int32.ofNat (o + i))), .val (.ref d), .val (.int (Int32.ofNat (q + i))), .val (.int (Int32.ofNat len)), .val (.int (Int32.ofNat i)), .val (.int (cv A (o + i)))] [.int (lo8 (cv A (o + i))), .int (Int32.ofNat (q + i)), .ref d])) rfl (rest := []) rfl (hb hbytes d31)
      have c8 : Steps p.tables e below (s₁.setTop (entryFrame m #[.ref b, .int (Int32.ofNat o), .ref d, .int (Int32.ofNat q), .int (Int32.ofNat len)] 7)) (T7.setTop (mkF m 32 #[.val (.ref b), .val (.int (Int32.ofNat (o + i))), .val (.ref d), .val (.int (Int32.ofNat (q + i))), .val (.int (Int32.ofNat len)), .val (.int (Int32.ofNat i)), .val (.int (cv A (o + i)))] [])) := c6.trans (st7 _ (Steps.refl _))
      have c9 : Steps p.tables e below (s₁.setTop (entryFrame m #[.ref b, .int (Int32.ofNat o), .ref d, .int (Int32.ofNat q), .int (Int32.ofNat len)] 7)) (T7.setTop (mkF m 3 #[.val (.ref b), .val (.int (Int32.ofNat (o + i) + 1)), .val (.ref d), .val (.int (Int32.ofNat (q + i) + 1)), .val (.int (Int32.ofNat len)), .val (.int (Int32.ofNat i + 1)), .val (.int (cv A (o + i)))] [])) := c8.trans (by
        refine iincV X7.here hexec rfl 1 (hb hbytes d32) (by decide) rfl rfl ?_
        refine iincV X7.here hexec rfl 1 (hb hbytes d35) (by decide) rfl rfl ?_
        refine iincV X7.here hexec rfl 1 (hb hbytes d38) (by decide) rfl rfl ?_
        refine XS.goto X7.here hexec rfl (pc0 := 41) rfl (hb hbytes d41) (by decide) rfl ?_
        exact Steps.refl _)
      have c10 : Steps p.tables e below (s₁.setTop (entryFrame m #[.ref b, .int (Int32.ofNat o), .ref d, .int (Int32.ofNat q), .int (Int32.ofNat len)] 7)) (T7.setTop (mkF m 3 #[.val (.ref b), .val (.int (Int32.ofNat (o + (i + 1)))), .val (.ref d), .val (.int (Int32.ofNat (q + (i + 1)))), .val (.int (Int32.ofNat len)), .val (.int (Int32.ofNat (i + 1))), .val (.int (cv A (o + i)))] [])) := by
        have := c9
        rw [succ32, succ32, succ32] at this
        exact this
      exact ih (i + 1) (by omega) _ (Or.inr ⟨_, rfl, rfl⟩) T7 _ (by rw [copyLocs_step, ← List.append_assoc]; exact X7) (pl.trans p7) (fl.step (by omega) hlt (by simp)) c10
  obtain ⟨T9, B9, z9, X9, p9, f9, g9⟩ := loop len 0 (by omega) .unset (Or.inl rfl) s₁ B (by simpa [copyLocs] using X0) ⟨hB0.1, fun _ _ => rfl, rfl⟩ (Laid.zero _ _ _) c2
  have c11 : Steps p.tables e below (s₁.setTop (entryFrame m #[.ref b, .int (Int32.ofNat o), .ref d, .int (Int32.ofNat q), .int (Int32.ofNat len)] 7)) (T9.setTop (mkF m 46 #[.val (.ref b), .val (.int (Int32.ofNat (o + len))), .val (.ref d), .val (.int (Int32.ofNat (q + len))), .val (.int (Int32.ofNat len)), .val (.int (Int32.ofNat len)), z9] [.int (Int32.ofNat len)])) := g9.trans (by
    refine XS.iload X9.here hexec rfl (hb hbytes d3) rfl ?_
    refine XS.iload X9.here hexec rfl (hb hbytes d5) rfl ?_
    refine XS.icmpYes X9.here hexec rfl (pc0 := 7) rfl (hb hbytes d7) rfl (ii_ge_t (nlt32 (by omega) (Nat.le_refl _))) (by decide) rfl ?_
    refine XS.iload X9.here hexec rfl (hb hbytes d44) rfl ?_
    exact Steps.refl _)
  exact ⟨T9, some (.int (Int32.ofNat len)), _, _, _, X9, by simp, rfl, rfl, (fun h => by cases h), ⟨rfl, B9, p9.from hh0, f9⟩, fun fs hl => c11.trans (X9.ireturnOut hexec hret rfl (Or.inl rfl) (hb hbytes d46) hl)⟩
end Cmp5
namespace Cmp3
def yN : MethodName := ⟨"java/lang/StringUTF16", "compress", "([CII)[B"⟩
abbrev yB : ByteArray := jdk_52_method_16_code
theorem d0 : decode yB 0 = .ok (.iload_n 2, 1) := by decide +kernel
theorem d1 : decode yB 1 = .ok (.newarray .byte, 2) := by decide +kernel
theorem d3 : decode yB 3 = .ok (.astore_n 3, 1) := by decide +kernel
theorem d4 : decode yB 4 = .ok (.aload_n 0, 1) := by decide +kernel
theorem d5 : decode yB 5 = .ok (.iload_n 1, 1) := by decide +kernel
theorem d6 : decode yB 6 = .ok (.aload_n 3, 1) := by decide +kernel
theorem d7 : decode yB 7 = .ok (.iconst 0, 1) := by decide +kernel
theorem d8 : decode yB 8 = .ok (.iload_n 2, 1) := by decide +kernel
theorem d9 : decode yB 9 = .ok (.invokestatic 115, 3) := by decide +kernel
theorem d12 : decode yB 12 = .ok (.istore 4, 2) := by decide +kernel
theorem d14 : decode yB 14 = .ok (.iload 4, 2) := by decide +kernel
theorem d16 : decode yB 16 = .ok (.iload_n 2, 1) := by decide +kernel
theorem d17 : decode yB 17 = .ok (.if_icmp (.eq) 40, 3) := by decide +kernel
theorem d57 : decode yB 57 = .ok (.aload_n 3, 1) := by decide +kernel
theorem d58 : decode yB 58 = .ok (.areturn, 1) := by decide +kernel
def site : List Cond := [.arrayClass .byte, Cmp5.tab] ++ staticW U16 115 Cmp5.yN
def tab : Cond := tabOf yN yB 6 (some (.array .byte)) site
def P (b : Addr) (A : Cell) (o len : Nat) (args : Array Value) (s : State) : Prop := args = #[.ref b, .int (Int32.ofNat o), .int (Int32.ofNat len)] ∧ Ch b A s ∧ o + len ≤ A.slots.size ∧ len ≤ 536870912 ∧ ∀ i, i < len → ¬ 255 < cv A (o + i)
def E (b : Addr) (A : Cell) (o len : Nat) (r : Option Value) (s u : State) : Prop := NewArr .byte "[B" len (fun j => .int (lo8 (cv A (o + j)))) r s u ∧ u.heap.size = s.heap.size + 1
/-- no char of the range above 255: a new byte[] of their low bytes -/
theorem law (l : Launch) (b : Addr) (A : Cell) (o len : Nat) : Law l yN 3 3 1 18 yB 6 (some (.array .byte)) site (P b A o len) (E b A o len) [] 1 len := by
  refine Law.of_walk (plainFor_of_name (by decide +kernel)) (by decide +kernel) (by decide +kernel) (by decide) (fun _ _ h => by rw [h.1]; rfl) (fun _ U U' hal hh h => ⟨h.1, h.2.1.mv hal hh, h.2.2⟩) (fun r U U' V V' h1 hal h2 h => ⟨NewArr.mv r U U' V V' h1 hal h2 h.1, by rw [h1, h2]; exact h.2⟩) ?_
  intro p e s m args below meth c s₁ X0 hexec hbytes hml hret hlk hnm hown hh0 W hP
  obtain ⟨rfl, hA, l1, l2, hp⟩ := hP
  have a31 := hA.1.2.2.2
  have c1 : Steps p.tables e below (s₁.setTop (entryFrame m #[.ref b, .int (Int32.ofNat o), .int (Int32.ofNat len)] 6)) (s₁.setTop (mkF m 0 #[.val (.ref b), .val (.int (Int32.ofNat o)), .val (.int (Int32.ofNat len)), .unset, .unset, .unset] [])) := entry rfl
  have c2 : Steps p.tables e below (s₁.setTop (entryFrame m #[.ref b, .int (Int32.ofNat o), .int (Int32.ofNat len)] 6)) (s₁.setTop (mkF m 1 #[.val (.ref b), .val (.int (Int32.ofNat o)), .val (.int (Int32.ofNat len)), .unset, .unset, .unset] [.int (Int32.ofNat len)])) := c1.trans (by
    refine XS.iloadN X0.here hexec rfl (hb hbytes d0) rfl ?_
    exact Steps.refl _)
  obtain ⟨T3, B3, X3, ba3, bs3, bv3, bh3, bf3, st3⟩ := X0.anew hexec (atype := .byte) (wk W (.arrayClass .byte)) rfl (by show len * 1 ≤ _; omega) (by omega) (g := (mkF m 1 #[.val (.ref b), .val (.int (Int32.ofNat o)), .val (.int (Int32.ofNat len)), .unset, .unset, .unset] [.int (Int32.ofNat len)])) rfl (hb hbytes d1) (rest := []) rfl (Nat.le_refl _) (by show 0 + len ≤ len; omega)
  rw [hh0] at ba3 st3
  have kp3 : XT.Kept s T3 := (XT.Kept.of_eq hh0).push bh3
  have hA3 := hA.keep X3.warmed.alike (kp3 _ _ hA.1.1)
  have hne : b ≠ s.heap.size := hA.1.ne
  have c4 : Steps p.tables e below (s₁.setTop (entryFrame m #[.ref b, .int (Int32.ofNat o), .int (Int32.ofNat len)] 6)) (T3.setTop (mkF m 3 #[.val (.ref b), .val (.int (Int32.ofNat o)), .val (.int (Int32.ofNat len)), .unset, .unset, .unset] [.ref s.heap.size])) := c2.trans (st3 _ (Steps.refl _))
  have c5 : Steps p.tables e below (s₁.setTop (entryFrame m #[.ref b, .int (Int32.ofNat o), .int (Int32.ofNat len)] 6)) (T3.setTop (mkF m 9 #[.val (.ref b), .val (.int (Int32.ofNat o)), .val (.int (Int32.ofNat len)), .val (.ref s.heap.size), .unset, .unset] [.int (Int32.ofNat len), .int 0, .ref s.heap.size, .int (Int32.ofNat o), .ref b])) := c4.trans (by
    refine XS.astoreN X3.here hexec rfl (hb hbytes d3) rfl rfl rfl ?_
    refine XS.aloadN X3.here hexec rfl (hb hbytes d4) rfl rfl ?_
    refine XS.iloadN X3.here hexec rfl (hb hbytes d5) rfl ?_
    refine XS.aloadN X3.here hexec rfl (hb hbytes d6) rfl rfl ?_
    refine iconstV X3.here hexec rfl 0 (hb hbytes d7) (by decide) ?_
    refine XS.iloadN X3.here hexec rfl (hb hbytes d8) rfl ?_
    exact Steps.refl _)
  obtain ⟨v6, T6, X6, E6, g6⟩ := X3.callS hexec (Cmp5.law l b A s.heap.size B3 o 0 len) hown (wks W (staticW U16 115 Cmp5.yN)) (wk W Cmp5.tab) (W := 0) (Nat.le_of_ble_eq_true rfl) (Nat.le_of_ble_eq_true rfl) (Nat.le_refl _) (by show 0 + len + 0 ≤ len; omega) (g := (mkF m 9 #[.val (.ref b), .val (.int (Int32.ofNat o)), .val (.int (Int32.ofNat len)), .val (.ref s.heap.size), .unset, .unset] [.int (Int32.ofNat len), .int (Int32.ofNat 0), .ref s.heap.size, .int (Int32.ofNat o), .ref b])) rfl (by rw [hml]; rfl) c5 (argsL := [.ref b, .int (Int32.ofNat o), .ref s.heap.size, .int (Int32.ofNat 0), .int (Int32.ofNat len)]) (rest := []) rfl rfl (by show 2 * 0 + 0 ≤ _; decide) (hb hbytes d9) (⟨rfl, hA3, ba3, hne, l1, by rw [bs3]; simp, hp⟩)
  obtain ⟨rfl, B6, p6, f6⟩ := E6
  have c7 : Steps p.tables e below (s₁.setTop (entryFrame m #[.ref b, .int (Int32.ofNat o), .int (Int32.ofNat len)] 6)) (T6.setTop (mkF m 12 #[.val (.ref b), .val (.int (Int32.ofNat o)), .val (.int (Int32.ofNat len)), .val (.ref s.heap.size), .unset, .unset] [.int (Int32.ofNat len)])) := g6
  have c8 : Steps p.tables e below (s₁.setTop (entryFrame m #[.ref b, .int (Int32.ofNat o), .int (Int32.ofNat len)] 6)) (T6.setTop (mkF m 58 #[.val (.ref b), .val (.int (Int32.ofNat o)), .val (.int (Int32.ofNat len)), .val (.ref s.heap.size), .val (.int (Int32.ofNat len)), .unset] [.ref s.heap.size])) := c7.trans (by
    refine XS.istore X6.here hexec rfl (hb hbytes d12) rfl rfl ?_
    refine XS.iload X6.here hexec rfl (hb hbytes d14) rfl ?_
    refine XS.iloadN X6.here hexec rfl (hb hbytes d16) rfl ?_
    refine XS.icmpYes X6.here hexec rfl (pc0 := 17) rfl (hb hbytes d17) rfl (ii_eq_t rfl) (by decide) rfl ?_
    refine XS.aloadN X6.here hexec rfl (hb hbytes d57) rfl rfl ?_
    exact Steps.refl _)
  have X8 := X6.wide (L' := []) (cells' := 1) (slots' := len) (fun x hx hlt => by
    simp only [List.nil_append, copyLocs, List.mem_map, List.mem_range] at hx
    obtain ⟨i, -, rfl⟩ := hx
    exact absurd hlt (Nat.lt_irrefl _)) (Nat.le_refl _) (by omega)
  exact ⟨T6, some (.ref s.heap.size), _, _, _, X8, rfl, rfl, rfl, (fun h => by cases h), ⟨⟨rfl, B6, ba3.like (X3.warmed.alike.symm.trans X6.warmed.alike) p6.1 f6.1 f6.2.1 f6.2.2.1, f6.2.1.trans bv3, by rw [X6.warmed.alike.findClass, f6.1]; exact bf3, by rw [f6.2.2.1, bs3]; simp, fun j hj => by rw [f6.2.2.2 j, if_pos (by omega)]; rfl, kp3.put p6 (Nat.le_refl _)⟩, by rw [p6.2.2, bh3, hh0]; simp⟩, fun fs hl => c8.trans (X8.areturnOut hexec rfl hret rfl (hb hbytes d58) hl)⟩
end Cmp3
namespace CodL
def yN : MethodName := ⟨"java/lang/StringUTF16", "coderFromArrayLen", "([BI)B"⟩
abbrev yB : ByteArray := jdk_52_method_15_code
theorem d0 : decode yB 0 = .ok (.iload_n 1, 1) := by decide +kernel
theorem d1 : decode yB 1 = .ok (.aload_n 0, 1) := by decide +kernel
theorem d2 : decode yB 2 = .ok (.arraylength, 1) := by decide +kernel
theorem d3 : decode yB 3 = .ok (.isub, 1) := by decide +kernel
theorem d4 : decode yB 4 = .ok (.bipush 31, 2) := by decide +kernel
theorem d6 : decode yB 6 = .ok (.iushr, 1) := by decide +kernel
theorem d7 : decode yB 7 = .ok (.i2b, 1) := by decide +kernel
theorem d8 : decode yB 8 = .ok (.ireturn, 1) := by decide +kernel
def site : List Cond := []
def tab : Cond := tabOf yN yB 2 (some .byte) site
def P (d : Addr) (B : Cell) (args : Array Value) (s : State) : Prop := args = #[.ref d, .int (Int32.ofNat B.slots.size)] ∧ Arr .byte d B s
def E (r : Option Value) (s u : State) : Prop := XT.PureE (some (.int 0)) r s u
/-- an array as long as the number of chars: LATIN1 -/
theorem law (l : Launch) (d : Addr) (B : Cell) : Law l yN 2 2 0 0 yB 2 (some .byte) site (P d B) E [] 0 0 := by
  refine Law.of_walk (plainFor_of_name (by decide +kernel)) (by decide +kernel) (by decide +kernel) (by decide) (fun _ _ h => by rw [h.1]; rfl) (fun _ U U' hal hh h => ⟨h.1, h.2.mv hal hh⟩) (fun r U U' V V' h1 hal h2 h => XT.PureE.mv r U U' V V' h1 hal h2 h) ?_
  intro p e s m args below meth c s₁ X0 hexec hbytes hml hret hlk hnm hown hh0 W hP
  obtain ⟨rfl, hB⟩ := hP
  have hB0 := hB.mv X0.warmed.alike hh0
  have c1 : Steps p.tables e below (s₁.setTop (entryFrame m #[.ref d, .int (Int32.ofNat B.slots.size)] 2)) (s₁.setTop (mkF m 0 #[.val (.ref d), .val (.int (Int32.ofNat B.slots.size))] [])) := entry rfl
  have c2 : Steps p.tables e below (s₁.setTop (entryFrame m #[.ref d, .int (Int32.ofNat B.slots.size)] 2)) (s₁.setTop (mkF m 2 #[.val (.ref d), .val (.int (Int32.ofNat B.slots.size))] [.ref d, .int (Int32.ofNat B.slots.size)])) := c1.trans (by
    refine XS.iloadN X0.here hexec rfl (hb hbytes d0) rfl ?_
    refine XS.aloadN X0.here hexec rfl (hb hbytes d1) rfl rfl ?_
    exact Steps.refl _)
  have c3 : Steps p.tables e below (s₁.setTop (entryFrame m #[.ref d, .int (Int32.ofNat B.slots.size)] 2)) (s₁.setTop (mkF m 8 #[.val (.ref d), .val (.int (Int32.ofNat B.slots.size))] [.int (lo8 (ushr (Int32.ofNat B.slots.size - Int32.ofNat B.slots.size) 31))])) := c2.trans (by
    refine X0.alen hexec hB0 rfl rfl (hb hbytes d2) ?_
    refine XS.isub X0.here hexec rfl (hb hbytes d3) rfl ?_
    refine bipushV X0.here hexec rfl 31 (hb hbytes d4) (by decide) ?_
    refine iushr X0.here hexec rfl (hb hbytes d6) rfl ?_
    refine i2b X0.here hexec rfl (hb hbytes d7) rfl ?_
    exact Steps.refl _)
  have e0 : lo8 (ushr (Int32.ofNat B.slots.size - Int32.ofNat B.slots.size) 31) = 0 := by rw [Int32.sub_self]; decide
  rw [e0] at c3
  exact ⟨s₁, some (.int 0), _, _, _, X0, rfl, rfl, rfl, (fun h => by cases h), ⟨rfl, hh0⟩, fun fs hl => c3.trans (X0.ireturnOut hexec hret rfl (Or.inr (Or.inr (Or.inl rfl))) (hb hbytes d8) hl)⟩
end CodL
/-- the String at a is Latin-1 over a new byte[] (the heap's one new cell): the low bytes of the len chars of A from o on; every cell but a is kept -/
def Got (a : Addr) (D : Cell) (fV fC : Field) (A : Cell) (o len : Nat) (r : Option Value) (s u : State) : Prop := r = none ∧ ∃ D' V : Cell, Blank "java/lang/String" a D' u ∧ Same D D' [fV.slot, fC.slot] ∧ D'.slots[fV.slot]? = some (.ref s.heap.size) ∧ D'.slots[fC.slot]? = some (.int 0) ∧ Arr .byte s.heap.size V u ∧ V.vm = .none ∧ u.vm.findClass "[B" = some V.cls ∧ V.slots.size = len ∧ (∀ j, j < len → V.slots[j]? = some (.int (lo8 (cv A (o + j))))) ∧ (∀ (y : Addr) (c : Cell), y ≠ a → s.heap[y]? = some c → u.heap[y]? = some c) ∧ u.heap.size = s.heap.size + 1
theorem Got.mv {a : Addr} {D A : Cell} {fV fC : Field} {o len : Nat} : ∀ r (U U' V V' : State), U'.heap = U.heap → V.vm.Alike V'.vm → V'.heap = V.heap → Got a D fV fC A o len r U V → Got a D fV fC A o len r U' V' :=
  fun r U U' V V' h1 hal h2 ⟨e0, D', X, a1, a2, a3, a4, a5, a6, a7, a8, a9, a10, a11⟩ => ⟨e0, D', X, a1.mv hal h2, a2, by rw [h1]; exact a3, a4, by rw [h1]; exact a5.mv hal h2, a6, by rw [hal.findClass]; exact a7, a8, a9, by rw [h1, h2]; exact a10, by rw [h1, h2]; exact a11⟩
namespace New4
def yN : MethodName := ⟨"java/lang/String", "<init>", "([CIILjava/lang/Void;)V"⟩
abbrev yB : ByteArray := jdk_42_method_149_code
theorem d0 : decode yB 0 = .ok (.aload_n 0, 1) := by decide +kernel
theorem d1 : decode yB 1 = .ok (.invokespecial 1, 3) := by decide +kernel
theorem d4 : decode yB 4 = .ok (.iload_n 3, 1) := by decide +kernel
theorem d5 : decode yB 5 = .ok (.ifCond (.ne) 22, 3) := by decide +kernel
theorem d27 : decode yB 27 = .ok (.getstatic 38, 3) := by decide +kernel
theorem d30 : decode yB 30 = .ok (.ifCond (.eq) 28, 3) := by decide +kernel
theorem d33 : decode yB 33 = .ok (.aload_n 1, 1) := by decide +kernel
theorem d34 : decode yB 34 = .ok (.iload_n 2, 1) := by decide +kernel
theorem d35 : decode yB 35 = .ok (.iload_n 3, 1) := by decide +kernel
theorem d36 : decode yB 36 = .ok (.invokestatic 177, 3) := by decide +kernel
theorem d39 : decode yB 39 = .ok (.astore 5, 2) := by decide +kernel
theorem d41 : decode yB 41 = .ok (.aload_n 0, 1) := by decide +kernel
theorem d42 : decode yB 42 = .ok (.aload 5, 2) := by decide +kernel
theorem d44 : decode yB 44 = .ok (.iload_n 3, 1) := by decide +kernel
theorem d45 : decode yB 45 = .ok (.invokestatic 47, 3) := by decide +kernel
theorem d48 : decode yB 48 = .ok (.putfield 15, 3) := by decide +kernel
theorem d51 : decode yB 51 = .ok (.aload_n 0, 1) := by decide +kernel
theorem d52 : decode yB 52 = .ok (.aload 5, 2) := by decide +kernel
theorem d54 : decode yB 54 = .ok (.putfield 9, 3) := by decide +kernel
theorem d57 : decode yB 57 = .ok (.return_, 1) := by decide +kernel
def site : List Cond := [.fieldLink "java/lang/String" 38 "java/lang/String" "COMPACT_STRINGS" "Z", Cmp3.tab, CodL.tab, .laysFinal "java/lang/String" "java/lang/String" "value" "[B", .fieldLink "java/lang/String" 9 "java/lang/String" "value" "[B", .laysFinal "java/lang/String" "java/lang/String" "coder" "B", .fieldLink "java/lang/String" 15 "java/lang/String" "coder" "B"] ++ objW "java/lang/String" 1 ++ staticW "java/lang/String" 177 Cmp3.yN ++ staticW "java/lang/String" 47 CodL.yN
def tab : Cond := tabOf yN yB 6 none site
def P (a : Addr) (D : Cell) (fV fC : Field) (b : Addr) (A : Cell) (z : Int32) (o len : Nat) (args : Array Value) (s : State) : Prop := args = #[.ref a, .ref b, .int (Int32.ofNat o), .int (Int32.ofNat len), .null] ∧ Blank "java/lang/String" a D s ∧ Found "java/lang/String" "value" "[B" fV s ∧ Found "java/lang/String" "coder" "B" fC s ∧ Ch b A s ∧ StaticIs s "java/lang/String" "COMPACT_STRINGS" "Z" (.int z) ∧ ¬ z = 0 ∧ 0 < len ∧ o + len ≤ A.slots.size ∧ len ≤ 536870912 ∧ ∀ i, i < len → ¬ 255 < cv A (o + i)
def E (a : Addr) (D : Cell) (fV fC : Field) (A : Cell) (o len : Nat) (r : Option Value) (s u : State) : Prop := Got a D fV fC A o len r s u
/-- len > 0, no char of the range above 255: a Latin-1 String of their low bytes -/
theorem law (l : Launch) (a : Addr) (D : Cell) (fV fC : Field) (b : Addr) (A : Cell) (z : Int32) (o len : Nat) : Law l yN 5 4 2 35 yB 6 none site (P a D fV fC b A z o len) (E a D fV fC A o len) [⟨a, fC.slot⟩, ⟨a, fV.slot⟩] 1 len := by
  refine Law.of_walk (plainFor_of_name (by decide +kernel)) (by decide +kernel) (by decide +kernel) (by decide) (fun _ _ h => by rw [h.1]; rfl) (fun _ U U' hal hh h => ⟨h.1, h.2.1.mv hal hh, h.2.2.1.al hal, h.2.2.2.1.al hal, h.2.2.2.2.1.mv hal hh, h.2.2.2.2.2.1.there hal hh, h.2.2.2.2.2.2⟩) (fun r U U' V V' h1 hal h2 h => Got.mv r U U' V V' h1 hal h2 h) ?_
  intro p e s m args below meth c s₁ X0 hexec hbytes hml hret hlk hnm hown hh0 W hP
  obtain ⟨rfl, hB, f1, f2, hA, s1, hz, l0, l1, l2, hp⟩ := hP
  have a31 := hA.1.2.2.2
  have c1 : Steps p.tables e below (s₁.setTop (entryFrame m #[.ref a, .ref b, .int (Int32.ofNat o), .int (Int32.ofNat len), .null] 6)) (s₁.setTop (mkF m 0 #[.val (.ref a), .val (.ref b), .val (.int (Int32.ofNat o)), .val (.int (Int32.ofNat len)), .val .null, .unset] [])) := entry rfl
  have c2 : Steps p.tables e below (s₁.setTop (entryFrame m #[.ref a, .ref b, .int (Int32.ofNat o), .int (Int32.ofNat len), .null] 6)) (s₁.setTop (mkF m 1 #[.val (.ref a), .val (.ref b), .val (.int (Int32.ofNat o)), .val (.int (Int32.ofNat len)), .val .null, .unset] [.ref a])) := c1.trans (by
    refine XS.aloadN X0.here hexec rfl (hb hbytes d0) rfl rfl ?_
    exact Steps.refl _)
  obtain ⟨T3, X3, q3, st3⟩ := X0.oinit hexec hown (wks W (objW "java/lang/String" 1)) (g := (mkF m 1 #[.val (.ref a), .val (.ref b), .val (.int (Int32.ofNat o)), .val (.int (Int32.ofNat len)), .val .null, .unset] [.ref a])) rfl (by rw [hml]; rfl) (rest := []) rfl (hb hbytes d1) (W := 0) (by show 2 * 0 + 0 ≤ _; decide) (Nat.le_of_ble_eq_true rfl) (Nat.le_of_ble_eq_true rfl)
  have hh3 := q3.trans hh0
  have c4 : Steps p.tables e below (s₁.setTop (entryFrame m #[.ref a, .ref b, .int (Int32.ofNat o), .int (Int32.ofNat len), .null] 6)) (T3.setTop (mkF m 27 #[.val (.ref a), .val (.ref b), .val (.int (Int32.ofNat o)), .val (.int (Int32.ofNat len)), .val .null, .unset] [])) := (c2.trans (st3 _ (Steps.refl _))).trans (by
    refine XS.iloadN X3.here hexec rfl (hb hbytes d4) rfl ?_
    refine XS.ifYes X3.here hexec rfl (pc0 := 5) rfl (hb hbytes d5) rfl (i0_ne_t (nz32 (by omega) l0)) (by decide) rfl ?_
    exact Steps.refl _)
  obtain ⟨T5, X5, q5, st5⟩ := X3.sget hexec hown (wk W (.fieldLink "java/lang/String" 38 "java/lang/String" "COMPACT_STRINGS" "Z")) s1 (fun _ _ h => by rw [hh3]; exact h) (g := (mkF m 27 #[.val (.ref a), .val (.ref b), .val (.int (Int32.ofNat o)), .val (.int (Int32.ofNat len)), .val .null, .unset] [])) rfl (hb hbytes d27)
  have hh5 := q5.trans hh3
  have c6 : Steps p.tables e below (s₁.setTop (entryFrame m #[.ref a, .ref b, .int (Int32.ofNat o), .int (Int32.ofNat len), .null] 6)) (T5.setTop (mkF m 30 #[.val (.ref a), .val (.ref b), .val (.int (Int32.ofNat o)), .val (.int (Int32.ofNat len)), .val .null, .unset] [.int z])) := c4.trans (st5 _ (Steps.refl _))
  have c7 : Steps p.tables e below (s₁.setTop (entryFrame m #[.ref a, .ref b, .int (Int32.ofNat o), .int (Int32.ofNat len), .null] 6)) (T5.setTop (mkF m 36 #[.val (.ref a), .val (.ref b), .val (.int (Int32.ofNat o)), .val (.int (Int32.ofNat len)), .val .null, .unset] [.int (Int32.ofNat len), .int (Int32.ofNat o), .ref b])) := c6.trans (by
    refine XS.ifNo X5.here hexec rfl (hb hbytes d30) rfl (i0_eq_f hz) ?_
    refine XS.aloadN X5.here hexec rfl (hb hbytes d33) rfl rfl ?_
    refine XS.iloadN X5.here hexec rfl (hb hbytes d34) rfl ?_
    refine XS.iloadN X5.here hexec rfl (hb hbytes d35) rfl ?_
    exact Steps.refl _)
  obtain ⟨v8, T8, X8, E8, g8⟩ := X5.callS hexec (Cmp3.law l b A o len) hown (wks W (staticW "java/lang/String" 177 Cmp3.yN)) (wk W Cmp3.tab) (W := 0) (Nat.le_of_ble_eq_true rfl) (Nat.le_of_ble_eq_true rfl) (Nat.le_refl _) (by show 0 + len ≤ len; omega) (g := (mkF m 36 #[.val (.ref a), .val (.ref b), .val (.int (Int32.ofNat o)), .val (.int (Int32.ofNat len)), .val .null, .unset] [.int (Int32.ofNat len), .int (Int32.ofNat o), .ref b])) rfl (by rw [hml]; rfl) c7 (argsL := [.ref b, .int (Int32.ofNat o), .int (Int32.ofNat len)]) (rest := []) rfl rfl (by show 2 * 0 + 0 ≤ _; decide) (hb hbytes d36) (⟨rfl, hA.mv X5.warmed.alike hh5, l1, l2, hp⟩)
  obtain ⟨e8, z8⟩ := E8
  obtain ⟨rfl, N, n1, n2, n3, n4, n5, n6⟩ := NewArr.mv _ T5 s _ _ hh5.symm (Vm.Alike.refl _) rfl e8
  rw [hh5] at z8
  have hB1 := hB.keep X8.warmed.alike (n6 _ _ hB.1)
  have hne : s.heap.size ≠ a := (Nat.ne_of_lt (Array.getElem?_eq_some_iff.mp hB.1).1).symm
  have c9 : Steps p.tables e below (s₁.setTop (entryFrame m #[.ref a, .ref b, .int (Int32.ofNat o), .int (Int32.ofNat len), .null] 6)) (T8.setTop (mkF m 39 #[.val (.ref a), .val (.ref b), .val (.int (Int32.ofNat o)), .val (.int (Int32.ofNat len)), .val .null, .unset] [.ref s.heap.size])) := g8
  have c10 : Steps p.tables e below (s₁.setTop (entryFrame m #[.ref a, .ref b, .int (Int32.ofNat o), .int (Int32.ofNat len), .null] 6)) (T8.setTop (mkF m 45 #[.val (.ref a), .val (.ref b), .val (.int (Int32.ofNat o)), .val (.int (Int32.ofNat len)), .val .null, .val (.ref s.heap.size)] [.int (Int32.ofNat N.slots.size), .ref s.heap.size, .ref a])) := by
    have hc : Steps p.tables e below (s₁.setTop (entryFrame m #[.ref a, .ref b, .int (Int32.ofNat o), .int (Int32.ofNat len), .null] 6)) (T8.setTop (mkF m 45 #[.val (.ref a), .val (.ref b), .val (.int (Int32.ofNat o)), .val (.int (Int32.ofNat len)), .val .null, .val (.ref s.heap.size)] [.int (Int32.ofNat len), .ref s.heap.size, .ref a])) := c9.trans (by
      refine XS.astore X8.here hexec rfl (hb hbytes d39) rfl rfl rfl ?_
      refine XS.aloadN X8.here hexec rfl (hb hbytes d41) rfl rfl ?_
      refine XS.aload X8.here hexec rfl (hb hbytes d42) rfl rfl ?_
      refine XS.iloadN X8.here hexec rfl (hb hbytes d44) rfl ?_
      exact Steps.refl _)
    rw [n4]; exact hc
  obtain ⟨v11, T11, X11, E11, g11⟩ := X8.callS hexec (CodL.law l s.heap.size N) hown (wks W (staticW "java/lang/String" 47 CodL.yN)) (wk W CodL.tab) (W := 1) (Nat.le_of_ble_eq_true rfl) (Nat.le_of_ble_eq_true rfl) (Nat.le_refl _) (by show 0 + len + 0 ≤ len; omega) (g := (mkF m 45 #[.val (.ref a), .val (.ref b), .val (.int (Int32.ofNat o)), .val (.int (Int32.ofNat len)), .val .null, .val (.ref s.heap.size)] [.int (Int32.ofNat N.slots.size), .ref s.heap.size, .ref a])) rfl (by rw [hml]; rfl) c10 (argsL := [.ref s.heap.size, .int (Int32.ofNat N.slots.size)]) (rest := [.ref a]) rfl rfl (by show 2 * 0 + (1 + 0) ≤ _; decide) (hb hbytes d45) (⟨rfl, n1⟩)
  obtain ⟨rfl, q11⟩ := E11
  have hB11 := hB1.mv (X8.warmed.alike.symm.trans X11.warmed.alike) q11
  have c12 : Steps p.tables e below (s₁.setTop (entryFrame m #[.ref a, .ref b, .int (Int32.ofNat o), .int (Int32.ofNat len), .null] 6)) (T11.setTop (mkF m 48 #[.val (.ref a), .val (.ref b), .val (.int (Int32.ofNat o)), .val (.int (Int32.ofNat len)), .val .null, .val (.ref s.heap.size)] [.int 0, .ref a])) := g11
  obtain ⟨T13, X13, p13, bl13, sl13, st13⟩ := X11.finit hexec hown (wk W (.fieldLink "java/lang/String" 15 "java/lang/String" "coder" "B")) (Or.inr ⟨_, (wk W (.laysFinal "java/lang/String" "java/lang/String" "coder" "B"))⟩) (Or.inl ⟨rfl, hnm⟩) f2 (Or.inl rfl) hB11 (t := .byte) (by decide +kernel) rfl (g := (mkF m 48 #[.val (.ref a), .val (.ref b), .val (.int (Int32.ofNat o)), .val (.int (Int32.ofNat len)), .val .null, .val (.ref s.heap.size)] [.int 0, .ref a])) rfl (rest := []) rfl (hb hbytes d48)
  have c14 : Steps p.tables e below (s₁.setTop (entryFrame m #[.ref a, .ref b, .int (Int32.ofNat o), .int (Int32.ofNat len), .null] 6)) (T13.setTop (mkF m 54 #[.val (.ref a), .val (.ref b), .val (.int (Int32.ofNat o)), .val (.int (Int32.ofNat len)), .val .null, .val (.ref s.heap.size)] [.ref s.heap.size, .ref a])) := (c12.trans (st13 _ (Steps.refl _))).trans (by
    refine XS.aloadN X13.here hexec rfl (hb hbytes d51) rfl rfl ?_
    refine XS.aload X13.here hexec rfl (hb hbytes d52) rfl rfl ?_
    exact Steps.refl _)
  obtain ⟨T15, X15, p15, bl15, sl15, st15⟩ := X13.finit hexec hown (wk W (.fieldLink "java/lang/String" 9 "java/lang/String" "value" "[B")) (Or.inr ⟨_, (wk W (.laysFinal "java/lang/String" "java/lang/String" "value" "[B"))⟩) (Or.inl ⟨rfl, hnm⟩) f1 (Or.inl rfl) bl13 (t := (.array .byte)) (by decide +kernel) rfl (g := (mkF m 54 #[.val (.ref a), .val (.ref b), .val (.int (Int32.ofNat o)), .val (.int (Int32.ofNat len)), .val .null, .val (.ref s.heap.size)] [.ref s.heap.size, .ref a])) rfl (rest := []) rfl (hb hbytes d54)
  have c16 : Steps p.tables e below (s₁.setTop (entryFrame m #[.ref a, .ref b, .int (Int32.ofNat o), .int (Int32.ofNat len), .null] 6)) (T15.setTop (mkF m 57 #[.val (.ref a), .val (.ref b), .val (.int (Int32.ofNat o)), .val (.int (Int32.ofNat len)), .val .null, .val (.ref s.heap.size)] [])) := c14.trans (st15 _ (Steps.refl _))
  have ap := apart (Or.inr ⟨_, (wk W (.laysFinal "java/lang/String" "java/lang/String" "value" "[B"))⟩) (Or.inr ⟨_, (wk W (.laysFinal "java/lang/String" "java/lang/String" "coder" "B"))⟩) f1 f2 (t₁ := .array .byte) (t₂ := .byte) (by decide +kernel) (by decide +kernel) (by decide)
  have al := X8.warmed.alike.symm.trans X15.warmed.alike
  have n7 : T11.heap[s.heap.size]? = some N := by rw [q11]; exact n1.1
  exact ⟨T15, none, _, _, _, X15, by simp, rfl, by omega, (fun _ => rfl), ⟨rfl, _, N, bl15, ((Same.refl D _).set _ (by simp)).set _ (by simp), sl15, (Cell.slots_setSlot_ne _ ap).trans sl13, n1.keep al (p15.other hne (p13.other hne n7)), n2, by rw [al.findClass]; exact n3, n4, n5, fun y c h1 h2 => p15.other h1 (p13.other h1 (by rw [q11]; exact n6 y c h2)), by rw [p15.2.2, p13.2.2, q11]; exact z8⟩, fun fs hl => c16.trans (X15.returnOut hexec hret (hb hbytes d57) hl)⟩
end New4
namespace New1
def yN : MethodName := ⟨"java/lang/String", "<init>", "([C)V"⟩
abbrev yB : ByteArray := jdk_42_method_3_code
theorem d0 : decode yB 0 = .ok (.aload_n 0, 1) := by decide +kernel
theorem d1 : decode yB 1 = .ok (.aload_n 1, 1) := by decide +kernel
theorem d2 : decode yB 2 = .ok (.iconst 0, 1) := by decide +kernel
theorem d3 : decode yB 3 = .ok (.aload_n 1, 1) := by decide +kernel
theorem d4 : decode yB 4 = .ok (.arraylength, 1) := by decide +kernel
theorem d5 : decode yB 5 = .ok (.aconst_null, 1) := by decide +kernel
theorem d6 : decode yB 6 = .ok (.invokespecial 27, 3) := by decide +kernel
theorem d9 : decode yB 9 = .ok (.return_, 1) := by decide +kernel
def site : List Cond := [New4.tab] ++ initW "java/lang/String" 27 New4.yN
def tab : Cond := tabOf yN yB 2 none site
def P (a : Addr) (D : Cell) (fV fC : Field) (b : Addr) (A : Cell) (z : Int32) (args : Array Value) (s : State) : Prop := args = #[.ref a, .ref b] ∧ Blank "java/lang/String" a D s ∧ Found "java/lang/String" "value" "[B" fV s ∧ Found "java/lang/String" "coder" "B" fC s ∧ Ch b A s ∧ StaticIs s "java/lang/String" "COMPACT_STRINGS" "Z" (.int z) ∧ ¬ z = 0 ∧ 0 < A.slots.size ∧ A.slots.size ≤ 536870912 ∧ ∀ i, i < A.slots.size → ¬ 255 < cv A i
def E (a : Addr) (D : Cell) (fV fC : Field) (A : Cell) (r : Option Value) (s u : State) : Prop := Got a D fV fC A 0 A.slots.size r s u
/-- new String(chars), not empty, no char above 255: a Latin-1 String of their low bytes -/
theorem law (l : Launch) (a : Addr) (D : Cell) (fV fC : Field) (b : Addr) (A : Cell) (z : Int32) : Law l yN 2 1 3 52 yB 2 none site (P a D fV fC b A z) (E a D fV fC A) [⟨a, fC.slot⟩, ⟨a, fV.slot⟩] 1 A.slots.size := by
  refine Law.of_walk (plainFor_of_name (by decide +kernel)) (by decide +kernel) (by decide +kernel) (by decide) (fun _ _ h => by rw [h.1]; rfl) (fun _ U U' hal hh h => ⟨h.1, h.2.1.mv hal hh, h.2.2.1.al hal, h.2.2.2.1.al hal, h.2.2.2.2.1.mv hal hh, h.2.2.2.2.2.1.there hal hh, h.2.2.2.2.2.2⟩) (fun r U U' V V' h1 hal h2 h => Got.mv r U U' V V' h1 hal h2 h) ?_
  intro p e s m args below meth c s₁ X0 hexec hbytes hml hret hlk hnm hown hh0 W hP
  obtain ⟨rfl, hB, f1, f2, hA, s1, hz, l0, l2, hp⟩ := hP
  have c1 : Steps p.tables e below (s₁.setTop (entryFrame m #[.ref a, .ref b] 2)) (s₁.setTop (mkF m 0 #[.val (.ref a), .val (.ref b)] [])) := entry rfl
  have c2 : Steps p.tables e below (s₁.setTop (entryFrame m #[.ref a, .ref b] 2)) (s₁.setTop (mkF m 6 #[.val (.ref a), .val (.ref b)] [.null, .int (Int32.ofNat A.slots.size), .int 0, .ref b, .ref a])) := c1.trans (by
    refine XS.aloadN X0.here hexec rfl (hb hbytes d0) rfl rfl ?_
    refine XS.aloadN X0.here hexec rfl (hb hbytes d1) rfl rfl ?_
    refine iconstV X0.here hexec rfl 0 (hb hbytes d2) (by decide) ?_
    refine XS.aloadN X0.here hexec rfl (hb hbytes d3) rfl rfl ?_
    refine X0.alen hexec (hA.1.mv X0.warmed.alike hh0) rfl rfl (hb hbytes d4) ?_
    refine XS.aconstNull X0.here hexec rfl (hb hbytes d5) ?_
    exact Steps.refl _)
  obtain ⟨v3, T3, X3, E3, g3⟩ := X0.callN hexec (New4.law l a D fV fC b A z 0 A.slots.size) rfl hown (wks W (initW "java/lang/String" 27 New4.yN)) (W New4.tab (by simp only [site, List.mem_cons, List.mem_append, true_or, or_true])) (W := 0) (Nat.le_of_ble_eq_true rfl) (Nat.le_of_ble_eq_true rfl) (Nat.le_refl _) (by show 0 + A.slots.size ≤ A.slots.size; omega) (g := (mkF m 6 #[.val (.ref a), .val (.ref b)] [.null, .int (Int32.ofNat A.slots.size), .int (Int32.ofNat 0), .ref b, .ref a])) rfl (by rw [hml]; rfl) c2 (argsL := [.ref b, .int (Int32.ofNat 0), .int (Int32.ofNat A.slots.size), .null]) (rest := []) rfl rfl (by show 2 * 0 + 0 ≤ _; decide) (hb hbytes d6) (⟨rfl, hB.mv X0.warmed.alike hh0, f1.al X0.warmed.alike, f2.al X0.warmed.alike, hA.mv X0.warmed.alike hh0, s1.there X0.warmed.alike hh0, hz, l0, by omega, l2, fun i hi => by rw [Nat.zero_add]; exact hp i hi⟩)
  have e0 := Got.mv _ s₁ s _ _ hh0.symm (Vm.Alike.refl _) rfl E3
  obtain rfl := e0.1
  have c4 : Steps p.tables e below (s₁.setTop (entryFrame m #[.ref a, .ref b] 2)) (T3.setTop (mkF m 9 #[.val (.ref a), .val (.ref b)] [])) := g3
  exact ⟨T3, none, _, _, _, X3, by simp, rfl, by omega, (fun _ => rfl), e0, fun fs hl => c4.trans (X3.returnOut hexec hret (hb hbytes d9) hl)⟩
theorem pays {l : Launch} {R : Room} {p : Program} {e : Env} {below : List Frame} {s : State} {sargs : Array Value} {len W : Nat} (a : Addr) (D : Cell) (fV fC : Field) (b : Addr) (A : Cell) (z : Int32) (htab : tab.before sargs s = true) (hfr : 4 ≤ R.frames) (hlo : W + 65 ≤ R.locals) :
    Back l R p e below s sargs yN len W (fun A₁ a₁ => A₁.cells + 1 ≤ R.cells ∧ A₁.slots + A.slots.size ≤ R.slots ∧ P a D fV fC b A z a₁ A₁.U) (fun A₁ _ v₁ B₁ => E a D fV fC A v₁ A₁.U B₁.U ∧ B₁.locs = A₁.locs ++ [⟨a, fC.slot⟩, ⟨a, fV.slot⟩] ∧ B₁.cells = A₁.cells + 1 ∧ B₁.slots = A₁.slots + A.slots.size) :=
  (law l a D fV fC b A z).pays htab hfr (by omega)
end New1
/-- the byte, read back as charAt reads it, is the char -/
theorem lo8_mask {x : Int32} (h0 : ¬ x < 0) (h1 : ¬ 255 < x) : lo8 x &&& 255 = x := by
  have t : ∀ k : Fin 256, lo8 (Int32.ofNat k.val) &&& 255 = Int32.ofNat k.val := by decide +kernel
  rw [Int32.lt_iff_toInt_lt] at h0 h1
  have e0 : (0 : Int32).toInt = 0 := rfl
  have e1 : (255 : Int32).toInt = 255 := rfl
  obtain ⟨k, hk⟩ : ∃ k : Nat, x.toInt = k := ⟨x.toInt.toNat, by omega⟩
  have hx : x = Int32.ofNat k := Int32.toInt_inj.mp (by rw [hk, Int32.toInt_ofNat_small (by omega)])
  rw [hx]
  exact t ⟨k, by omega⟩
end StrChars
namespace StrChars.Road
open Jvm Sem ClassFile Op Lib Jvm.Stand Jvm.Free Jvm.Free.XT
open Jvm.Lib.Cold (StaticIs)
abbrev ST : String := "java/lang/String"
/-- every table word that New1's law asks, flat -/
abbrev words : List Jvm.Cond := [.code New1.yN New1.yB 2 none, .initialized ST, .methodLink ST 27 New4.yN, .instanceMethod New4.yN,
  .code New4.yN New4.yB 6 none, .fieldLink ST 38 ST "COMPACT_STRINGS" "Z", .laysFinal ST ST "value" "[B", .fieldLink ST 9 ST "value" "[B", .laysFinal ST ST "coder" "B", .fieldLink ST 15 ST "coder" "B",
  .methodLink ST 1 Lib.objectInit, .instanceMethod Lib.objectInit, .code Lib.objectInit ⟨#[0xb1]⟩ 1 none, .methodLink ST 177 Cmp3.yN, .static Cmp3.yN, .methodLink ST 47 CodL.yN, .static CodL.yN,
  .code Cmp3.yN Cmp3.yB 6 (some (.array .byte)), .initialized U16, .arrayClass .byte, .methodLink U16 115 Cmp5.yN, .static Cmp5.yN, .code Cmp5.yN Cmp5.yB 7 (some .int), .code CodL.yN CodL.yB 2 (some .byte)]
theorem tab_of {a : Array Value} {s : State} (h : ∀ w ∈ words, w.before a s = true) : New1.tab.before a s = true := by
  have h5 : Cmp5.tab.before a s = true := unparts (wk h (.code Cmp5.yN Cmp5.yB 7 (some .int))) (wks h (.initialized Cmp5.yN.cls :: Cmp5.site))
  have hc : CodL.tab.before a s = true := unparts (wk h (.code CodL.yN CodL.yB 2 (some .byte))) (wks h (.initialized CodL.yN.cls :: CodL.site))
  have q5 : ∀ w ∈ Cmp5.tab :: words, w.before a s = true := fun w hw => (List.mem_cons.mp hw).elim (fun e => e ▸ h5) (h w)
  have h3 : Cmp3.tab.before a s = true := unparts (wk q5 (.code Cmp3.yN Cmp3.yB 6 (some (.array .byte)))) (wks q5 (.initialized Cmp3.yN.cls :: Cmp3.site))
  have q3 : ∀ w ∈ Cmp3.tab :: CodL.tab :: words, w.before a s = true := fun w hw => (List.mem_cons.mp hw).elim (fun e => e ▸ h3) fun hw => (List.mem_cons.mp hw).elim (fun e => e ▸ hc) (h w)
  have h4 : New4.tab.before a s = true := unparts (wk q3 (.code New4.yN New4.yB 6 none)) (wks q3 (.initialized New4.yN.cls :: New4.site))
  have q4 : ∀ w ∈ New4.tab :: words, w.before a s = true := fun w hw => (List.mem_cons.mp hw).elim (fun e => e ▸ h4) (h w)
  exact unparts (wk q4 (.code New1.yN New1.yB 2 none)) (wks q4 (.initialized New1.yN.cls :: New1.site))
/-- the words ride from the start Z to the walk's own state -/
theorem moved {Z s : State} {a0 args : Array Value} (hZ : Z.Warmed39 s.vm) (hw : ∀ d ∈ words, d.before a0 Z = true) : ∀ d ∈ words, d.before args s = true := fun d hd => by
  have q := hw d hd
  have t : ∀ d ∈ words, d = .arrayClass .byte ∨ (d.onTables && d.keepsFace) = true := by decide +kernel
  rcases t d hd with rfl | t
  · exact RoadKit.mvA hZ q
  · exact RoadKit.mv hZ q t
/-- WHAT COMES BACK, over the tables of the start Z: h the heap at the call, h' behind it -/
def Q (Z : State) (x : Addr) (A : Cell) (h : Heap) (v : Option Value) (h' : Heap) (L : List Loc) : Prop := v = none ∧ (∀ y ∈ L, y.base = x) ∧ RoadKit.Keep h h' [x] ∧ h'.size = h.size + 1 ∧ RoadKit.Exa Z h' x ST ∧ RoadKit.Fld Z h' x ST "value" "[B" (.ref h.size) ∧ RoadKit.Fld Z h' x ST "coder" "B" (.int 0) ∧
  (∃ V : Cell, RoadKit.Arr Z h' h.size V .byte ∧ V.vm = .none ∧ Z.vm.findClass "[B" = some V.cls ∧ V.slots.size = A.slots.size ∧ ∀ j, j < A.slots.size → V.slots[j]? = some (.int (lo8 (cv A j)))) ∧
  ∀ (O n d : String) (w : Value), RoadKit.Fld Z h x O n d w → RoadKit.slotOf Z O n d ≠ RoadKit.slotOf Z ST "value" "[B" → RoadKit.slotOf Z O n d ≠ RoadKit.slotOf Z ST "coder" "B" → RoadKit.Fld Z h' x O n d w
/-- **new String(chars) AT A CALL, IN THE ROAD'S FORM**: for specialBack behind newO: x the fresh String, b the char[] with the cell A -/
theorem back {p : Program} {l : Launch} {e : Env} {R : Room} {s : State} {args : Array Value} {below : List Frame} {len W : Nat} {Z : State} {a0 : Array Value} {h : Heap} (hZ : Z.Warmed39 s.vm) (hw : ∀ d ∈ words, d.before a0 Z = true) {kI : Nat} (wi : (Jvm.Cond.instantiable ST kI).before a0 Z = true)
    {x b : Addr} {A : Cell} {z : Int32} {v0 c0 : Value} (E : RoadKit.Exa Z h x ST) (V : RoadKit.Fld Z h x ST "value" "[B" v0) (C : RoadKit.Fld Z h x ST "coder" "B" c0) (K : RoadKit.Arr Z h b A .char) (hty : Typed .char A) (S : RoadKit.Sta Z h ST "COMPACT_STRINGS" "Z" (.int z)) (hz : ¬ z = 0)
    (l0 : 0 < A.slots.size) (l2 : A.slots.size ≤ 536870912) (hp : ∀ i, i < A.slots.size → ¬ 255 < cv A i) (hfr : 4 ≤ R.frames) (hlo : W + 65 ≤ R.locals) :
    Back l R p e below s args New1.yN len W (fun P a => a = #[.ref x, .ref b] ∧ P.U.heap = h ∧ P.cells + 1 ≤ R.cells ∧ P.slots + A.slots.size ≤ R.slots)
      (fun P _ v B => ∃ L, Q Z x A h v B.U.heap L ∧ B.locs = P.locs ++ L ∧ B.cells = P.cells + 1 ∧ B.slots = P.slots + A.slots.size) := by
  intro m meth c P g ig mk a X hg hsize hdg hW hn hp'
  obtain ⟨rfl, rfl, r1, r2⟩ := hp'
  have al : Z.vm.Alike P.U.vm := hZ.alike.trans X.warmed.alike
  obtain ⟨D, cfV, kV, iV, fV, hD, gV, stV, knV, obV, asV, slV⟩ := id V
  obtain ⟨D', cfC, kC, iC, fC, hD', gC, stC, -, -, asC, slC⟩ := id C
  cases hD.symm.trans hD'
  obtain ⟨D2, kD, e1, e2, e3, e4, e5⟩ := id E
  cases hD.symm.trans e1
  obtain ⟨c2, k2, i1, i2, i3, -⟩ := Cond.instantiable_spec wi
  cases e2.symm.trans i1
  cases e3.symm.trans i2
  obtain ⟨kU, u1, u2⟩ := al.2.2 _ _ e3
  have hB : Blank ST x D P.U := ⟨hD, ⟨knV, fun q hq => by rw [hq] at obV; cases obV⟩, by rw [al.findClass]; exact e2, kU, u1, by rw [u2]; exact i3, by rw [u2]; exact e5 i3⟩
  have F1 : Found ST "value" "[B" fV P.U := ⟨SBG.found_only al ⟨cfV, kV, iV, gV⟩, stV⟩
  have F2 : Found ST "coder" "B" fC P.U := ⟨SBG.found_only al ⟨cfC, kC, iC, gC⟩, stC⟩
  have hA : Ch b A P.U := ⟨⟨K.1, State.isArrayOf_alike al K.2.1, K.2.2, by omega⟩, hty⟩
  have hS : StaticIs P.U ST "COMPACT_STRINGS" "Z" (.int z) := by
    obtain ⟨cfS, iS, kS, fS, st, cS, t1, t2, t3, t4, t5, t6, t7⟩ := S
    exact StaticIs.there (s := { Z with heap := P.U.heap }) ⟨cfS, iS, kS, fS, st, cS, t1, t2, t3, t4, t5, (fun q => by rw [q] at t6; cases t6), t7⟩ al rfl
  obtain ⟨v, B, X', ⟨⟨hv, E', V', q1, q2, q3, q4, q5, q6, q7, q8, q9, q10, q11⟩, hl, hc, hs⟩, st⟩ := New1.pays x D fV fC b A z (tab_of (moved hZ hw)) hfr hlo m meth c P g ig mk _ X hg hsize hdg hW hn ⟨r1, r2, rfl, hB, F1, F2, hA, hS, hz, l0, l2, hp⟩
  have al' : Z.vm.Alike B.U.vm := hZ.alike.trans X'.warmed.alike
  have hsz : E'.slots.size = D.slots.size := by
    obtain ⟨-, -, -, kB, w1, w2, w3⟩ := q1
    obtain ⟨kB', y1, y2⟩ := al'.2.2 _ _ e3
    rw [q2.2.1] at w1
    cases w1.symm.trans y1
    rw [w3, e5 i3, y2]
  refine ⟨v, B, X', ⟨_, ⟨hv, ?_, ⟨by omega, fun y cy hy hn' => q10 y cy (by simpa using hn') hy, fun y cy hy => ?_⟩, q11, ⟨E', _, q1.1, by rw [q2.2.1]; exact e2, by rw [q2.2.1]; exact e3, by rw [q2.1]; exact obV, fun _ => by rw [hsz]; exact e5 i3⟩,
    ⟨E', cfV, kV, iV, fV, q1.1, gV, stV, by rw [q2.1]; exact knV, by rw [q2.1]; exact obV, by rw [q2.2.1]; exact asV, q3⟩, ⟨E', cfC, kC, iC, fC, q1.1, gC, stC, by rw [q2.1]; exact knV, by rw [q2.1]; exact obV, by rw [q2.2.1]; exact asC, q4⟩,
    ⟨V', ⟨q5.1, State.isArrayOf_alike al'.symm q5.2.1, q5.2.2.1⟩, q6, by rw [← al'.findClass]; exact q7, q8, fun j hj => by have := q9 j hj; rwa [Nat.zero_add] at this⟩, fun O n d w F n1 n2 => ?_⟩, hl, hc, hs⟩, st⟩
  · intro y hy
    simp only [List.mem_cons, List.not_mem_nil, or_false] at hy
    rcases hy with rfl | rfl <;> rfl
  · by_cases q : y = x
    · subst q
      cases hD.symm.trans hy
      exact ⟨E', q1.1, q2.2.1, q2.1, hsz⟩
    · exact ⟨cy, q10 y cy q hy, rfl, rfl, rfl⟩
  · obtain ⟨D3, cf, k, i, f, g1, g2, g3, g4, g5, g6, g7⟩ := F
    cases hD.symm.trans g1
    simp only [RoadKit.slotOf, g2, gV, gC, Option.map_some, Option.getD_some] at n1 n2
    exact ⟨E', cf, k, i, f, q1.1, g2, g3, by rw [q2.1]; exact g4, by rw [q2.1]; exact g5, by rw [q2.2.1]; exact g6, by rw [q2.2.2 f.slot (by simp [n1, n2])]; exact g7⟩
end StrChars.Road
namespace StrChars.Road
open Jvm Sem ClassFile Op Lib Jvm.Stand Jvm.Free Jvm.Free.XT
/-- WHAT COMES BACK, the byte[] as a list of values -/
def QA (Z : State) (x : Addr) (zn : Int32) (cs : List Int32) (h : Heap) (v : Option Value) (h' : Heap) (L : List Loc) : Prop := v = none ∧ (∀ y ∈ L, y.base = x) ∧ RoadKit.Keep h h' [x] ∧ h'.size = h.size + 1 ∧ RoadKit.Exa Z h' x ST ∧ RoadKit.Fld Z h' x ST "value" "[B" (.ref h.size) ∧ RoadKit.Fld Z h' x ST "coder" "B" (.int 0) ∧
  (∃ kb, Z.vm.findClass "[B" = some kb ∧ RoadKit.Arv Z h' h.size kb .byte zn (cs.map fun c => .int (lo8 c)) (.int 0)) ∧
  ∀ (O n d : String) (w : Value), RoadKit.Fld Z h x O n d w → RoadKit.slotOf Z O n d ≠ RoadKit.slotOf Z ST "value" "[B" → RoadKit.slotOf Z O n d ≠ RoadKit.slotOf Z ST "coder" "B" → RoadKit.Fld Z h' x O n d w
/-- **new String(chars) AT A CALL, THE ARRAYS AS LISTS**: the char[] at b holds cs, not empty, no char above 255 -/
theorem backArv {p : Program} {l : Launch} {e : Env} {R : Room} {s : State} {args : Array Value} {below : List Frame} {len W : Nat} {Z : State} {a0 : Array Value} {h : Heap} (hZ : Z.Warmed39 s.vm) (hw : ∀ d ∈ words, d.before a0 Z = true) {kI : Nat} (wi : (Jvm.Cond.instantiable ST kI).before a0 Z = true)
    {x b : Addr} {k : ClassId} {zn z : Int32} {cs : List Int32} {dv v0 c0 : Value} (E : RoadKit.Exa Z h x ST) (V : RoadKit.Fld Z h x ST "value" "[B" v0) (C : RoadKit.Fld Z h x ST "coder" "B" c0) (K : RoadKit.Arv Z h b k .char zn (cs.map Value.int) dv) (S : RoadKit.Sta Z h ST "COMPACT_STRINGS" "Z" (.int z)) (hz : ¬ z = 0)
    (hlen : zn.toNatClampNeg = cs.length) (h0 : 0 < cs.length) (hbig : cs.length ≤ 536870912) (hall : ∀ c ∈ cs, ¬ 255 < c) (hfr : 4 ≤ R.frames) (hlo : W + 65 ≤ R.locals) :
    Back l R p e below s args New1.yN len W (fun P a => a = #[.ref x, .ref b] ∧ P.U.heap = h ∧ P.cells + 1 ≤ R.cells ∧ P.slots + cs.length ≤ R.slots)
      (fun P _ v B => ∃ L, QA Z x zn cs h v B.U.heap L ∧ B.locs = P.locs ++ L ∧ B.cells = P.cells + 1 ∧ B.slots = P.slots + cs.length) := by
  obtain ⟨A, K1, K2, K3, K4, K5, K6⟩ := K
  have e : A.slots.size = cs.length := K3.trans hlen
  have hat : ∀ (i : Nat) (hi : i < cs.length), A.slots[i]? = some (.int cs[i]) := fun i hi => by rw [K5 i (by omega)]; simp [List.getD_eq_getElem?_getD, hi]
  have hcv : ∀ (i : Nat) (hi : i < cs.length), cv A i = cs[i] := fun i hi => by unfold cv; rw [hat i hi]
  have hty : Typed .char A := fun i v hv => by
    have hi : i < A.slots.size := (Array.getElem?_eq_some_iff.mp hv).1
    have q := K5 i hi
    rw [hv] at q
    rw [Option.some.inj q]
    exact K6 i hi
  refine Back.mono (back hZ hw wi E V C K1 hty S hz (by omega) (by omega) (fun i hi => by rw [hcv i (by omega)]; exact hall _ (List.getElem_mem _)) hfr hlo) (fun P a hp => ⟨hp.1, hp.2.1, hp.2.2.1, by rw [e]; exact hp.2.2.2⟩) (fun P a v B hp hq => ?_)
  obtain ⟨L, ⟨q1, q2, q3, q4, q5, q6, q7, ⟨V', v1, v2, v3, v4, v5⟩, q9⟩, hl, hc, hs⟩ := hq
  refine ⟨L, ⟨q1, q2, q3, q4, q5, q6, q7, ⟨V'.cls, v3, V', v1, rfl, by rw [v4, e, hlen], K4, fun i hi => ?_, fun i hi => ?_⟩, q9⟩, hl, hc, by rw [hs, e]⟩
  · have hi' : i < cs.length := by omega
    rw [v5 i (by omega), hcv i hi']; simp [List.getD_eq_getElem?_getD, hi']
  · have hi' : i < cs.length := by omega
    simp only [List.getD_eq_getElem?_getD, List.getElem?_map, List.getElem?_eq_getElem hi', Option.map_some, Option.getD_some]
    exact fits_lo8 _
end StrChars.Road
namespace StrChars.Road
open Jvm Sem ClassFile Op Lib Jvm.Stand Jvm.Free Jvm.Free.XT
/-- WHAT COMES BACK, in the writer's own shape -/
def QV (Z : State) (x : Addr) (N : Int32) (bs : List Int32) (h : Heap) (n0 : Nat) (v : Option Value) (h' : Heap) (L : List Loc) : Prop := v = none ∧ RoadKit.Fr n0 L ∧ RoadKit.Keep h h' [x] ∧ RoadKit.Exa Z h' x ST ∧ RoadKit.Fld Z h' x ST "coder" "B" (.int 0) ∧
  ∃ (t : Addr) (kb : ClassId), n0 ≤ t ∧ h.size ≤ t ∧ ¬ t = x ∧ RoadKit.Fld Z h' x ST "value" "[B" (.ref t) ∧ RoadKit.Arv Z h' t kb .byte N (bs.map Value.int) (.int 0)
/-- **new String(chars) AT A CALL, FOR THE WRITER**: a char[] of n known ints, each 0 to 255 -/
theorem backV {p : Program} {l : Launch} {e : Env} {R : Room} {s : State} {args : Array Value} {below : List Frame} {len W : Nat} {Z : State} {a0 : Array Value} {h : Heap} (hZ : Z.Warmed39 s.vm) (hw : ∀ d ∈ words, d.before a0 Z = true) {kI : Nat} (wi : (Jvm.Cond.instantiable ST kI).before a0 Z = true)
    {x b : Addr} {kC : ClassId} {cs bs : List Int32} {d v0 c0 : Value} {z N : Int32} {n n0 : Nat} (hx0 : n0 ≤ x) (hh0 : n0 ≤ h.size) (E : RoadKit.Exa Z h x ST) (V : RoadKit.Fld Z h x ST "value" "[B" v0) (C : RoadKit.Fld Z h x ST "coder" "B" c0) (K : RoadKit.Arv Z h b kC .char N (cs.map Value.int) d) (S : RoadKit.Sta Z h ST "COMPACT_STRINGS" "Z" (.int z)) (hz : ¬ z = 0)
    (hn : cs.length = n) (hN : N = Int32.ofNat n) (l0 : 0 < n) (l2 : n ≤ 4000) (hp : ∀ c ∈ cs, ¬ c < 0 ∧ ¬ (255 : Int32) < c) (hb : bs = cs.map (fun c => c.toInt8.toInt32)) (hfr : 4 ≤ R.frames) (hlo : W + 65 ≤ R.locals) :
    Back l R p e below s args (⟨"java/lang/String", "<init>", "([C)V"⟩ : MethodName) len W (fun P a => a = #[.ref x, .ref b] ∧ P.U.heap = h ∧ P.cells + 1 ≤ R.cells ∧ P.slots + n ≤ R.slots)
      (fun P _ v B => ∃ L, QV Z x N bs h n0 v B.U.heap L ∧ B.locs = P.locs ++ L ∧ B.cells = P.cells + 1 ∧ B.slots = P.slots + n) := by
  subst hn hN hb
  refine Back.mono (backArv hZ hw wi E V C K S hz (n32 (by omega)) l0 (by omega) (fun c hc => (hp c hc).2) hfr hlo) (fun P a hp => hp) (fun P a v B hp hq => ?_)
  obtain ⟨L, ⟨q1, q2, q3, q4, q5, q6, q7, ⟨kb, v1, v2⟩, q9⟩, hl, hc, hs⟩ := hq
  exact ⟨L, ⟨q1, fun y hy => by rw [q2 y hy]; exact hx0, q3, q5, q7, h.size, kb, hh0, Nat.le_refl _, Nat.ne_of_gt E.lt, q6, by rw [List.map_map]; exact v2⟩, hl, hc, hs⟩
end StrChars.Road
namespace StrChars
open Jvm Sem ClassFile Op Lib Jvm.Stand Jvm.Free.XT Jvm.Free.ALB Jvm.Free.JM Jvm.Free
open Jvm.Lib.Cold (StaticIs)
def hi8 (x : Int32) : Int32 := lo8 (x >>> ((8 : Int32) &&& 31))
/-- what StringUTF16.getChar makes of two bytes -/
def pairCh (u v : Int32) : Int32 := (((u &&& 255) <<< ((0 : Int32) &&& 31)) ||| ((v &&& 255) <<< ((8 : Int32) &&& 31))).toUInt32.toUInt16.toUInt32.toInt32
theorem shr0 (c : Int32) : c >>> ((0 : Int32) &&& 31) = c := by
  have e : ((0 : Int32) &&& 31) = 0 := by decide
  rw [e]
  apply Int32.toBitVec_inj.mp
  rw [Int32.toBitVec_shiftRight]
  have e1 : ((0 : Int32).toBitVec.smod 32) = 0#32 := by decide
  rw [e1, BitVec.sshiftRight_eq']
  exact BitVec.sshiftRight_zero
theorem lo8_and (x : Int32) : (lo8 x &&& 255).toBitVec.toNat = x.toBitVec.toNat % 256 := by
  have h : (lo8 x).toBitVec = (x.toBitVec.signExtend 8).signExtend 32 := by rw [lo8, Int8.toBitVec_toInt32, Int32.toBitVec_toInt8]
  rw [Int32.toBitVec_and, BitVec.toNat_and, h]
  have e : ((x.toBitVec.signExtend 8).signExtend 32).toNat % 256 = x.toBitVec.toNat % 256 := by
    rw [BitVec.toNat_signExtend]
    have hlt := x.toBitVec.isLt
    simp only [BitVec.toNat_setWidth, BitVec.toNat_signExtend]
    split <;> split <;> omega
  rw [← e]
  exact Nat.and_two_pow_sub_one_eq_mod _ 8
theorem pair_says {c : Int32} (h0 : ¬ c < 0) (h1 : ¬ 65535 < c) : pairCh (lo8 c) (hi8 c) = c := by
  rw [Int32.lt_iff_toInt_lt] at h0 h1
  have e0 : (0 : Int32).toInt = 0 := rfl
  have e1 : (65535 : Int32).toInt = 65535 := rfl
  have hc : c.toInt = c.toBitVec.toNat := by
    have := c.toBitVec.isLt
    have e : c.toInt = c.toBitVec.toInt := rfl
    rw [e] at h0 h1
    rw [e]
    rw [BitVec.toInt_eq_toNat_cond] at h0 h1 ⊢
    split at h0 <;> split <;> omega
  have hn : c.toBitVec.toNat < 65536 := by omega
  have a1 := lo8_and c
  have a2 : (hi8 c &&& 255).toBitVec.toNat = c.toBitVec.toNat / 256 := by
    rw [hi8, lo8_and]
    have e : ((8 : Int32) &&& 31) = 8 := by decide
    rw [e, Int32.toBitVec_shiftRight]
    have e2 : ((8 : Int32).toBitVec.smod 32) = 8#32 := by decide
    rw [e2, BitVec.sshiftRight_eq', BitVec.toNat_sshiftRight_of_msb_false (by rw [BitVec.msb_eq_false_iff_two_mul_lt]; omega)]
    show c.toBitVec.toNat >>> 8 % 256 = _
    rw [Nat.shiftRight_eq_div_pow]
    omega
  unfold pairCh
  apply Int32.toBitVec_inj.mp
  apply BitVec.eq_of_toNat_eq
  have f0 : ((0 : Int32) &&& 31) = 0 := by decide
  have f8 : ((8 : Int32) &&& 31) = 8 := by decide
  rw [f0, f8]
  have g : (((lo8 c &&& 255) <<< (0 : Int32)) ||| ((hi8 c &&& 255) <<< (8 : Int32))).toBitVec.toNat = c.toBitVec.toNat := by
    rw [Int32.toBitVec_or, Int32.toBitVec_shiftLeft, Int32.toBitVec_shiftLeft]
    have s0 : ((0 : Int32).toBitVec.smod 32) = 0#32 := by decide
    have s8 : ((8 : Int32).toBitVec.smod 32) = 8#32 := by decide
    rw [s0, s8, BitVec.toNat_or]
    simp only [BitVec.shiftLeft_eq', BitVec.toNat_shiftLeft, a1, a2]
    show (c.toBitVec.toNat % 256) <<< 0 % 2 ^ 32 ||| (c.toBitVec.toNat / 256) <<< 8 % 2 ^ 32 = _
    rw [Nat.shiftLeft_zero, Nat.mod_eq_of_lt (show c.toBitVec.toNat % 256 < 2 ^ 32 by omega), Nat.mod_eq_of_lt (show (c.toBitVec.toNat / 256) <<< 8 < 2 ^ 32 by rw [Nat.shiftLeft_eq]; omega), Nat.or_comm, ← Nat.shiftLeft_add_eq_or_of_lt (by omega), Nat.shiftLeft_eq]
    omega
  show BitVec.toNat (((((lo8 c &&& 255) <<< (0 : Int32)) ||| ((hi8 c &&& 255) <<< (8 : Int32))).toBitVec.setWidth 16).setWidth 32) = _
  rw [BitVec.toNat_setWidth, BitVec.toNat_setWidth, g]
  omega
end StrChars
namespace StrChars
open Jvm Sem ClassFile Op Lib Jvm.Stand Jvm.Free.XT Jvm.Free.ALB Jvm.Free.JM Jvm.Free
open Jvm.Lib.Cold (StaticIs)
theorem shr1 {n : Nat} (h : 2 * n < 2 ^ 31) : Int32.ofNat (2 * n) >>> ((1 : Int32) &&& 31) = Int32.ofNat n := by
  have e : ((1 : Int32) &&& 31) = 1 := by decide
  rw [e]
  apply Int32.toBitVec_inj.mp
  rw [Int32.toBitVec_shiftRight]
  have e1 : ((1 : Int32).toBitVec.smod 32) = 1#32 := by decide
  have hm : (BitVec.ofNat 32 (2 * n)).toNat = 2 * n := by rw [BitVec.toNat_ofNat, Nat.mod_eq_of_lt (by omega)]
  rw [e1, BitVec.sshiftRight_eq']
  apply BitVec.eq_of_toNat_eq
  show ((BitVec.ofNat 32 (2 * n)).sshiftRight 1).toNat = (BitVec.ofNat 32 n).toNat
  rw [BitVec.toNat_sshiftRight_of_msb_false (by rw [BitVec.msb_eq_false_iff_two_mul_lt, hm]; omega), hm, BitVec.toNat_ofNat, Nat.shiftRight_eq_div_pow]
  omega
/-- charAt's cast of a byte read back -/
def chr8 (u : Int32) : Int32 := (u &&& 255).toUInt32.toUInt16.toUInt32.toInt32
theorem chr8_lo8 {c : Int32} (h0 : ¬ c < 0) (h1 : ¬ 255 < c) : chr8 (lo8 c) = c := by
  have t : ∀ k : Fin 256, (Int32.ofNat k.val).toUInt32.toUInt16.toUInt32.toInt32 = Int32.ofNat k.val := by decide +kernel
  unfold chr8
  rw [lo8_mask h0 h1]
  rw [Int32.lt_iff_toInt_lt] at h0 h1
  have e0 : (0 : Int32).toInt = 0 := rfl
  have e1 : (255 : Int32).toInt = 255 := rfl
  obtain ⟨k, hk⟩ : ∃ k : Nat, c.toInt = k := ⟨c.toInt.toNat, by omega⟩
  have hx : c = Int32.ofNat k := Int32.toInt_inj.mp (by rw [hk, Int32.toInt_ofNat_small (by omega)])
  rw [hx]
  exact t ⟨k, by omega⟩
theorem narrow_ch {c : Int32} (h0 : ¬ c < 0) (h1 : ¬ 65535 < c) : narrow .char (.int c) = .int c := by
  have q : narrow .char (.int (pairCh (lo8 c) (hi8 c))) = .int (pairCh (lo8 c) (hi8 c)) := narrow_c _
  rwa [pair_says h0 h1] at q
/-- the array's cell V codes the n chars f 0 .. f (n - 1) by the coder cd, as the JDK does: coder 1 just where some char is above 255 -/
def Cod (cd : Int32) (n : Nat) (f : Nat → Int32) (V : Cell) : Prop := (cd = 0 ∧ V.slots.size = n ∧ ∀ j, j < n → V.slots[j]? = some (.int (lo8 (f j))) ∧ ¬ 255 < f j) ∨ (cd = 1 ∧ V.slots.size = 2 * n ∧ (∀ j, j < n → V.slots[2 * j]? = some (.int (lo8 (f j))) ∧ V.slots[2 * j + 1]? = some (.int (hi8 (f j)))) ∧ ∃ j, j < n ∧ 255 < f j)
theorem Cod.cd {cd : Int32} {n : Nat} {f : Nat → Int32} {V : Cell} (h : Cod cd n f V) : cd = 0 ∨ cd = 1 := h.imp (fun q => q.1) fun q => q.1
theorem Cod.len {cd : Int32} {n : Nat} {f : Nat → Int32} {V : Cell} (h : Cod cd n f V) (hs : V.slots.size < 2 ^ 31) : Int32.ofNat V.slots.size >>> (cd &&& 31) = Int32.ofNat n := by
  rcases h with ⟨rfl, h, -⟩ | ⟨rfl, h, -⟩
  · rw [shr0, h]
  · rw [h, shr1 (by omega)]
/-- **x is a String of the n chars f 0 .. f (n - 1)**, Latin-1 or UTF-16; its array at t has the cell V -/
def Txt (x t : Addr) (V : Cell) (cd : Int32) (n : Nat) (f : Nat → Int32) (U : State) : Prop := Exact "java/lang/String" x U ∧ Has x "java/lang/String" "value" "[B" (.ref t) U ∧ Has x "java/lang/String" "coder" "B" (.int cd) U ∧ XT.Arr .byte t V U ∧ Cod cd n f V ∧ ∀ j, j < n → ¬ f j < 0 ∧ ¬ 65535 < f j
theorem Txt.mv {x t : Addr} {V : Cell} {cd : Int32} {n : Nat} {f : Nat → Int32} {U U' : State} (h : Txt x t V cd n f U) (hal : U.vm.Alike U'.vm) (hh : U'.heap = U.heap) : Txt x t V cd n f U' := ⟨h.1.mv hal hh, h.2.1.mv hal hh, h.2.2.1.mv hal hh, h.2.2.2.1.mv hal hh, h.2.2.2.2⟩
namespace Cdr
def yN : MethodName := ⟨"java/lang/String", "coder", "()B"⟩
abbrev yB : ByteArray := jdk_42_method_152_code
theorem d0 : decode yB 0 = .ok (.getstatic 38, 3) := by decide +kernel
theorem d3 : decode yB 3 = .ok (.ifCond (.eq) 10, 3) := by decide +kernel
theorem d6 : decode yB 6 = .ok (.aload_n 0, 1) := by decide +kernel
theorem d7 : decode yB 7 = .ok (.getfield 15, 3) := by decide +kernel
theorem d10 : decode yB 10 = .ok (.goto 4, 3) := by decide +kernel
theorem d14 : decode yB 14 = .ok (.ireturn, 1) := by decide +kernel
def site : List Cond := [.fieldLink "java/lang/String" 38 "java/lang/String" "COMPACT_STRINGS" "Z", .fieldLink "java/lang/String" 15 "java/lang/String" "coder" "B"]
def tab : Cond := tabOf yN yB 1 (some .byte) site
def P (x : Addr) (cd z : Int32) (args : Array Value) (s : State) : Prop := args = #[.ref x] ∧ Has x "java/lang/String" "coder" "B" (.int cd) s ∧ (cd = 0 ∨ cd = 1) ∧ StaticIs s "java/lang/String" "COMPACT_STRINGS" "Z" (.int z) ∧ ¬ z = 0
def E (cd : Int32) (r : Option Value) (s u : State) : Prop := XT.PureE (some (.int cd)) r s u
theorem law (l : Launch) (x : Addr) (cd z : Int32) : Law l yN 1 0 0 0 yB 1 (some .byte) site (P x cd z) (E cd) [] 0 0 := by
  refine Law.of_walk (plainFor_of_name (by decide +kernel)) (by decide +kernel) (by decide +kernel) (by decide) (fun _ _ h => by rw [h.1]; rfl) (fun _ U U' hal hh h => ⟨h.1, h.2.1.mv hal hh, h.2.2.1, h.2.2.2.1.there hal hh, h.2.2.2.2⟩) (fun r U U' V V' h1 hal h2 h => XT.PureE.mv r U U' V V' h1 hal h2 h) ?_
  intro p e s m args below meth c s₁ X0 hexec hbytes hml hret hlk hnm hown hh0 W hP
  obtain ⟨rfl, hx, hc, s1, hz⟩ := hP
  have c1 : Steps p.tables e below (s₁.setTop (entryFrame m #[.ref x] 1)) (s₁.setTop (mkF m 0 #[.val (.ref x)] [])) := entry rfl
  obtain ⟨T2, X2, q2, st2⟩ := X0.sget hexec hown (wk W (.fieldLink "java/lang/String" 38 "java/lang/String" "COMPACT_STRINGS" "Z")) s1 (fun _ _ h => by rw [hh0]; exact h) (g := (mkF m 0 #[.val (.ref x)] [])) rfl (hb hbytes d0)
  have hh2 := q2.trans hh0
  have c3 : Steps p.tables e below (s₁.setTop (entryFrame m #[.ref x] 1)) (T2.setTop (mkF m 7 #[.val (.ref x)] [.ref x])) := (c1.trans (st2 _ (Steps.refl _))).trans (by
    refine XS.ifNo X2.here hexec rfl (hb hbytes d3) rfl (i0_eq_f hz) ?_
    refine XS.aloadN X2.here hexec rfl (hb hbytes d6) rfl rfl ?_
    exact Steps.refl _)
  obtain ⟨T4, X4, q4, st4⟩ := X2.hget hexec hown (wk W (.fieldLink "java/lang/String" 15 "java/lang/String" "coder" "B")) (hx.mv X2.warmed.alike hh2) (g := (mkF m 7 #[.val (.ref x)] [.ref x])) rfl (rest := []) rfl (hb hbytes d7)
  have c5 : Steps p.tables e below (s₁.setTop (entryFrame m #[.ref x] 1)) (T4.setTop (mkF m 14 #[.val (.ref x)] [.int cd])) := (c3.trans (st4 _ (Steps.refl _))).trans (by
    refine XS.goto X4.here hexec rfl (pc0 := 10) rfl (hb hbytes d10) (by decide) rfl ?_
    exact Steps.refl _)
  exact ⟨T4, some (.int cd), _, _, _, X4, rfl, rfl, rfl, (fun h => by cases h), ⟨rfl, q4.trans hh2⟩, fun fs hl => c5.trans (X4.ireturnOut hexec hret (by rcases hc with rfl | rfl <;> rfl) (Or.inr (Or.inr (Or.inl rfl))) (hb hbytes d14) hl)⟩
end Cdr
namespace Len
def yN : MethodName := ⟨"java/lang/String", "length", "()I"⟩
abbrev yB : ByteArray := jdk_42_method_54_code
theorem d0 : decode yB 0 = .ok (.aload_n 0, 1) := by decide +kernel
theorem d1 : decode yB 1 = .ok (.getfield 9, 3) := by decide +kernel
theorem d4 : decode yB 4 = .ok (.arraylength, 1) := by decide +kernel
theorem d5 : decode yB 5 = .ok (.aload_n 0, 1) := by decide +kernel
theorem d6 : decode yB 6 = .ok (.invokevirtual 335, 3) := by decide +kernel
theorem d9 : decode yB 9 = .ok (.ishr, 1) := by decide +kernel
theorem d10 : decode yB 10 = .ok (.ireturn, 1) := by decide +kernel
def site : List Cond := [.fieldLink "java/lang/String" 9 "java/lang/String" "value" "[B", Cdr.tab] ++ virtW "java/lang/String" 335 "java/lang/String" Cdr.yN Cdr.yN
def tab : Cond := tabOf yN yB 1 (some .int) site
def P (x t : Addr) (V : Cell) (cd : Int32) (n : Nat) (f : Nat → Int32) (z : Int32) (args : Array Value) (s : State) : Prop := args = #[.ref x] ∧ Txt x t V cd n f s ∧ StaticIs s "java/lang/String" "COMPACT_STRINGS" "Z" (.int z) ∧ ¬ z = 0
def E (n : Nat) (r : Option Value) (s u : State) : Prop := XT.PureE (some (.int (Int32.ofNat n))) r s u
/-- length() of a String of n chars, in either coding -/
theorem law (l : Launch) (x t : Addr) (V : Cell) (cd : Int32) (n : Nat) (f : Nat → Int32) (z : Int32) : Law l yN 1 0 1 13 yB 1 (some .int) site (P x t V cd n f z) (E n) [] 0 0 := by
  refine Law.of_walk (plainFor_of_name (by decide +kernel)) (by decide +kernel) (by decide +kernel) (by decide) (fun _ _ h => by rw [h.1]; rfl) (fun _ U U' hal hh h => ⟨h.1, h.2.1.mv hal hh, h.2.2.1.there hal hh, h.2.2.2⟩) (fun r U U' V V' h1 hal h2 h => XT.PureE.mv r U U' V V' h1 hal h2 h) ?_
  intro p e s m args below meth c s₁ X0 hexec hbytes hml hret hlk hnm hown hh0 W hP
  obtain ⟨rfl, hx, s1, hz⟩ := hP
  have v31 := hx.2.2.2.1.2.2.2
  have c1 : Steps p.tables e below (s₁.setTop (entryFrame m #[.ref x] 1)) (s₁.setTop (mkF m 1 #[.val (.ref x)] [.ref x])) := Steps.trans (entry rfl) (by
    show Steps p.tables e below (s₁.setTop (mkF m 0 #[.val (.ref x)] [])) _
    refine XS.aloadN X0.here hexec rfl (hb hbytes d0) rfl rfl ?_
    exact Steps.refl _)
  obtain ⟨T2, X2, q2, st2⟩ := X0.hget hexec hown (wk W (.fieldLink "java/lang/String" 9 "java/lang/String" "value" "[B")) (hx.mv X0.warmed.alike hh0).2.1 (g := (mkF m 1 #[.val (.ref x)] [.ref x])) rfl (rest := []) rfl (hb hbytes d1)
  have hh2 := q2.trans hh0
  have hx2 := hx.mv X2.warmed.alike hh2
  have c3 : Steps p.tables e below (s₁.setTop (entryFrame m #[.ref x] 1)) (T2.setTop (mkF m 6 #[.val (.ref x)] [.ref x, .int (Int32.ofNat V.slots.size)])) := (c1.trans (st2 _ (Steps.refl _))).trans (by
    refine X2.alen hexec hx2.2.2.2.1 rfl rfl (hb hbytes d4) ?_
    refine XS.aloadN X2.here hexec rfl (hb hbytes d5) rfl rfl ?_
    exact Steps.refl _)
  obtain ⟨v4, T4, X4, E4, g4⟩ := X2.callV hexec (Cdr.law l x cd z) hown (wks W (virtW "java/lang/String" 335 "java/lang/String" Cdr.yN Cdr.yN)) rfl (by decide) (wk W Cdr.tab) (W := 1) (Nat.le_of_ble_eq_true rfl) (Nat.le_of_ble_eq_true rfl) (Nat.le_refl _) (Nat.le_refl _) (hx2.1.fc X2.warmed.alike) hx2.1.is (g := (mkF m 6 #[.val (.ref x)] [.ref x, .int (Int32.ofNat V.slots.size)])) rfl (by rw [hml]; rfl) c3 (argsL := []) (rest := [.int (Int32.ofNat V.slots.size)]) rfl rfl (by show 2 * 0 + (1 + 0) ≤ _; decide) (hb hbytes d6) (⟨rfl, hx2.2.2.1, hx.2.2.2.2.1.cd, s1.there X2.warmed.alike hh2, hz⟩)
  obtain ⟨rfl, q4⟩ := E4
  have c5 : Steps p.tables e below (s₁.setTop (entryFrame m #[.ref x] 1)) (T4.setTop (mkF m 10 #[.val (.ref x)] [.int (Int32.ofNat V.slots.size >>> (cd &&& 31))])) := Steps.trans g4 (by
    refine ishr X4.here hexec rfl (hb hbytes d9) rfl ?_
    exact Steps.refl _)
  rw [hx.2.2.2.2.1.len v31] at c5
  exact ⟨T4, some (.int (Int32.ofNat n)), _, _, _, X4, rfl, rfl, rfl, (fun h => by cases h), ⟨rfl, q4.trans hh2⟩, fun fs hl => c5.trans (X4.ireturnOut hexec hret rfl (Or.inl rfl) (hb hbytes d10) hl)⟩
theorem pays {l : Launch} {R : Room} {p : Program} {e : Env} {below : List Frame} {s : State} {sargs : Array Value} {len W : Nat} (x t : Addr) (V : Cell) (cd : Int32) (n : Nat) (f : Nat → Int32) (z : Int32) (htab : tab.before sargs s = true) (hfr : 2 ≤ R.frames) (hlo : W + 25 ≤ R.locals) :
    Back l R p e below s sargs yN len W (fun A₁ a₁ => A₁.cells + 0 ≤ R.cells ∧ A₁.slots + 0 ≤ R.slots ∧ P x t V cd n f z a₁ A₁.U) (fun A₁ _ v₁ B₁ => E n v₁ A₁.U B₁.U ∧ B₁.locs = A₁.locs ++ [] ∧ B₁.cells = A₁.cells + 0 ∧ B₁.slots = A₁.slots + 0) :=
  (law l x t V cd n f z).pays htab hfr (by omega)
end Len
namespace IsL
def yN : MethodName := ⟨"java/lang/String", "isLatin1", "()Z"⟩
abbrev yB : ByteArray := jdk_42_method_154_code
theorem d0 : decode yB 0 = .ok (.getstatic 38, 3) := by decide +kernel
theorem d3 : decode yB 3 = .ok (.ifCond (.eq) 14, 3) := by decide +kernel
theorem d6 : decode yB 6 = .ok (.aload_n 0, 1) := by decide +kernel
theorem d7 : decode yB 7 = .ok (.getfield 15, 3) := by decide +kernel
theorem d10 : decode yB 10 = .ok (.ifCond (.ne) 7, 3) := by decide +kernel
theorem d13 : decode yB 13 = .ok (.iconst 1, 1) := by decide +kernel
theorem d14 : decode yB 14 = .ok (.goto 4, 3) := by decide +kernel
theorem d17 : decode yB 17 = .ok (.iconst 0, 1) := by decide +kernel
theorem d18 : decode yB 18 = .ok (.ireturn, 1) := by decide +kernel
def site : List Cond := [.fieldLink "java/lang/String" 38 "java/lang/String" "COMPACT_STRINGS" "Z", .fieldLink "java/lang/String" 15 "java/lang/String" "coder" "B"]
def tab : Cond := tabOf yN yB 1 (some .boolean) site
def P (x : Addr) (cd z : Int32) (args : Array Value) (s : State) : Prop := args = #[.ref x] ∧ Has x "java/lang/String" "coder" "B" (.int cd) s ∧ (cd = 0 ∨ cd = 1) ∧ StaticIs s "java/lang/String" "COMPACT_STRINGS" "Z" (.int z) ∧ ¬ z = 0
def E (cd : Int32) (r : Option Value) (s u : State) : Prop := XT.PureE (some (.int (1 - cd))) r s u
theorem law (l : Launch) (x : Addr) (cd z : Int32) : Law l yN 1 0 0 0 yB 1 (some .boolean) site (P x cd z) (E cd) [] 0 0 := by
  refine Law.of_walk (plainFor_of_name (by decide +kernel)) (by decide +kernel) (by decide +kernel) (by decide) (fun _ _ h => by rw [h.1]; rfl) (fun _ U U' hal hh h => ⟨h.1, h.2.1.mv hal hh, h.2.2.1, h.2.2.2.1.there hal hh, h.2.2.2.2⟩) (fun r U U' V V' h1 hal h2 h => XT.PureE.mv r U U' V V' h1 hal h2 h) ?_
  intro p e s m args below meth c s₁ X0 hexec hbytes hml hret hlk hnm hown hh0 W hP
  obtain ⟨rfl, hx, hc, s1, hz⟩ := hP
  have c1 : Steps p.tables e below (s₁.setTop (entryFrame m #[.ref x] 1)) (s₁.setTop (mkF m 0 #[.val (.ref x)] [])) := entry rfl
  obtain ⟨T2, X2, q2, st2⟩ := X0.sget hexec hown (wk W (.fieldLink "java/lang/String" 38 "java/lang/String" "COMPACT_STRINGS" "Z")) s1 (fun _ _ h => by rw [hh0]; exact h) (g := (mkF m 0 #[.val (.ref x)] [])) rfl (hb hbytes d0)
  have hh2 := q2.trans hh0
  have c3 : Steps p.tables e below (s₁.setTop (entryFrame m #[.ref x] 1)) (T2.setTop (mkF m 7 #[.val (.ref x)] [.ref x])) := (c1.trans (st2 _ (Steps.refl _))).trans (by
    refine XS.ifNo X2.here hexec rfl (hb hbytes d3) rfl (i0_eq_f hz) ?_
    refine XS.aloadN X2.here hexec rfl (hb hbytes d6) rfl rfl ?_
    exact Steps.refl _)
  obtain ⟨T4, X4, q4, st4⟩ := X2.hget hexec hown (wk W (.fieldLink "java/lang/String" 15 "java/lang/String" "coder" "B")) (hx.mv X2.warmed.alike hh2) (g := (mkF m 7 #[.val (.ref x)] [.ref x])) rfl (rest := []) rfl (hb hbytes d7)
  have c5 : Steps p.tables e below (s₁.setTop (entryFrame m #[.ref x] 1)) (T4.setTop (mkF m 10 #[.val (.ref x)] [.int cd])) := c3.trans (st4 _ (Steps.refl _))
  have c6 : Steps p.tables e below (s₁.setTop (entryFrame m #[.ref x] 1)) (T4.setTop (mkF m 18 #[.val (.ref x)] [.int (1 - cd)])) := by
    rcases hc with rfl | rfl
    · exact c5.trans (by
        refine XS.ifNo X4.here hexec rfl (hb hbytes d10) rfl (i0_ne_f rfl) ?_
        refine iconstV X4.here hexec rfl 1 (hb hbytes d13) (by decide) ?_
        refine XS.goto X4.here hexec rfl (pc0 := 14) rfl (hb hbytes d14) (by decide) rfl ?_
        exact Steps.refl _)
    · exact c5.trans (by
        refine XS.ifYes X4.here hexec rfl (pc0 := 10) rfl (hb hbytes d10) rfl (i0_ne_t (by decide)) (by decide) rfl ?_
        refine iconstV X4.here hexec rfl 0 (hb hbytes d17) (by decide) ?_
        exact Steps.refl _)
  exact ⟨T4, some (.int (1 - cd)), _, _, _, X4, rfl, rfl, rfl, (fun h => by cases h), ⟨rfl, q4.trans hh2⟩, fun fs hl => c6.trans (X4.ireturnOut hexec hret (by rcases hc with rfl | rfl <;> rfl) (Or.inr (Or.inl rfl)) (hb hbytes d18) hl)⟩
end IsL
namespace LChA
def yN : MethodName := ⟨"java/lang/StringLatin1", "charAt", "([BI)C"⟩
abbrev yB : ByteArray := jdk_43_method_2_code
theorem d0 : decode yB 0 = .ok (.iload_n 1, 1) := by decide +kernel
theorem d1 : decode yB 1 = .ok (.aload_n 0, 1) := by decide +kernel
theorem d2 : decode yB 2 = .ok (.arraylength, 1) := by decide +kernel
theorem d3 : decode yB 3 = .ok (.invokestatic 9, 3) := by decide +kernel
theorem d6 : decode yB 6 = .ok (.aload_n 0, 1) := by decide +kernel
theorem d7 : decode yB 7 = .ok (.iload_n 1, 1) := by decide +kernel
theorem d8 : decode yB 8 = .ok (.baload, 1) := by decide +kernel
theorem d9 : decode yB 9 = .ok (.sipush 255, 3) := by decide +kernel
theorem d12 : decode yB 12 = .ok (.iand, 1) := by decide +kernel
theorem d13 : decode yB 13 = .ok (.i2c, 1) := by decide +kernel
theorem d14 : decode yB 14 = .ok (.ireturn, 1) := by decide +kernel
def site : List Cond := [JO.Str_checkIndex.tab] ++ staticW "java/lang/StringLatin1" 9 JO.Str_checkIndex.yN
def tab : Cond := tabOf yN yB 2 (some .char) site
def P (t : Addr) (V : Cell) (i : Nat) (u : Int32) (fm : Value) (args : Array Value) (s : State) : Prop := args = #[.ref t, .int (Int32.ofNat i)] ∧ XT.Arr .byte t V s ∧ V.slots[i]? = some (.int u) ∧ (StaticIs s "jdk/internal/util/Preconditions" "SIOOBE_FORMATTER" "Ljava/util/function/BiFunction;" fm ∧ fm.isRef = true)
def E (u : Int32) (r : Option Value) (s w : State) : Prop := XT.PureE (some (.int (chr8 u))) r s w
theorem law (l : Launch) (t : Addr) (V : Cell) (i : Nat) (u : Int32) (fm : Value) : Law l yN 2 2 2 27 yB 2 (some .char) site (P t V i u fm) (E u) [] 0 0 := by
  refine Law.of_walk (plainFor_of_name (by decide +kernel)) (by decide +kernel) (by decide +kernel) (by decide) (fun _ _ h => by rw [h.1]; rfl) (fun _ U U' hal hh h => ⟨h.1, h.2.1.mv hal hh, h.2.2.1, h.2.2.2.1.there hal hh, h.2.2.2.2⟩) (fun r U U' V V' h1 hal h2 h => XT.PureE.mv r U U' V V' h1 hal h2 h) ?_
  intro p e s m args below meth c s₁ X0 hexec hbytes hml hret hlk hnm hown hh0 W hP
  obtain ⟨rfl, hV, hu, s1, rf⟩ := hP
  have v31 := hV.2.2.2
  have hi : i < V.slots.size := (Array.getElem?_eq_some_iff.mp hu).1
  have c1 : Steps p.tables e below (s₁.setTop (entryFrame m #[.ref t, .int (Int32.ofNat i)] 2)) (s₁.setTop (mkF m 0 #[.val (.ref t), .val (.int (Int32.ofNat i))] [])) := entry rfl
  have c2 : Steps p.tables e below (s₁.setTop (entryFrame m #[.ref t, .int (Int32.ofNat i)] 2)) (s₁.setTop (mkF m 3 #[.val (.ref t), .val (.int (Int32.ofNat i))] [.int (Int32.ofNat V.slots.size), .int (Int32.ofNat i)])) := c1.trans (by
    refine XS.iloadN X0.here hexec rfl (hb hbytes d0) rfl ?_
    refine XS.aloadN X0.here hexec rfl (hb hbytes d1) rfl rfl ?_
    refine X0.alen hexec (hV.mv X0.warmed.alike hh0) rfl rfl (hb hbytes d2) ?_
    exact Steps.refl _)
  obtain ⟨v3, T3, X3, E3, g3⟩ := X0.callS hexec (JO.Str_checkIndex.law l (Int32.ofNat i) (Int32.ofNat V.slots.size) fm) hown (wks W (staticW "java/lang/StringLatin1" 9 JO.Str_checkIndex.yN)) (wk W JO.Str_checkIndex.tab) (W := 0) (Nat.le_of_ble_eq_true rfl) (Nat.le_of_ble_eq_true rfl) (Nat.le_refl _) (Nat.le_refl _) (g := (mkF m 3 #[.val (.ref t), .val (.int (Int32.ofNat i))] [.int (Int32.ofNat V.slots.size), .int (Int32.ofNat i)])) rfl (by rw [hml]; rfl) c2 (argsL := [.int (Int32.ofNat i), .int (Int32.ofNat V.slots.size)]) (rest := []) rfl rfl (by show 2 * 0 + 0 ≤ _; decide) (hb hbytes d3) (⟨rfl, rf, s1.there X0.warmed.alike hh0, Int32.ofNat_not_neg (by omega), lt32 v31 hi⟩)
  obtain ⟨rfl, q3⟩ := E3
  have hh3 := q3.trans hh0
  have c4 : Steps p.tables e below (s₁.setTop (entryFrame m #[.ref t, .int (Int32.ofNat i)] 2)) (T3.setTop (mkF m 14 #[.val (.ref t), .val (.int (Int32.ofNat i))] [.int (chr8 u)])) := Steps.trans g3 (by
    refine XS.aloadN X3.here hexec rfl (hb hbytes d6) rfl rfl ?_
    refine XS.iloadN X3.here hexec rfl (hb hbytes d7) rfl ?_
    refine X3.aget hexec (hV.mv X3.warmed.alike hh3) rfl hu rfl rfl (hb hbytes d8) ?_
    refine sipushV X3.here hexec rfl 255 (hb hbytes d9) (by decide) ?_
    refine XS.iand X3.here hexec rfl (hb hbytes d12) rfl ?_
    refine i2c X3.here hexec rfl (hb hbytes d13) rfl ?_
    exact Steps.refl _)
  exact ⟨T3, some (.int (chr8 u)), _, _, _, X3, rfl, rfl, rfl, (fun h => by cases h), ⟨rfl, hh3⟩, fun fs hl => c4.trans (X3.ireturnOut hexec hret (narrow_c _) (Or.inr (Or.inr (Or.inr (Or.inl rfl)))) (hb hbytes d14) hl)⟩
end LChA
end StrChars
namespace StrChars.Road
open Jvm Sem ClassFile Op Lib Jvm.Stand Jvm.Free Jvm.Free.XT
open Jvm.Lib.Cold (StaticIs)
theorem consq {a : Array Value} {s : State} {c : Jvm.Cond} {L : List Jvm.Cond} (h0 : c.before a s = true) (h : ∀ w ∈ L, w.before a s = true) : ∀ w ∈ c :: L, w.before a s = true := fun w hw => (List.mem_cons.mp hw).elim (fun e => e ▸ h0) (h w)
/-- the words of String.length(), either coding -/
abbrev wordsLen : List Jvm.Cond := [.code Len.yN Len.yB 1 (some .int), .initialized ST, .fieldLink ST 9 ST "value" "[B", .fieldLink ST 38 ST "COMPACT_STRINGS" "Z", .fieldLink ST 15 ST "coder" "B", .code Cdr.yN Cdr.yB 1 (some .byte), .methodLink ST 335 Cdr.yN, .declares Cdr.yN, .selects ST Cdr.yN Cdr.yN, .instanceMethod Cdr.yN]
theorem tabLen_of {a : Array Value} {s : State} (h : ∀ w ∈ wordsLen, w.before a s = true) : Len.tab.before a s = true := by
  have hc : Cdr.tab.before a s = true := unparts (wk h (.code Cdr.yN Cdr.yB 1 (some .byte))) (wks h (.initialized Cdr.yN.cls :: Cdr.site))
  have q := consq hc h
  exact unparts (wk q (.code Len.yN Len.yB 1 (some .int))) (wks q (.initialized Len.yN.cls :: Len.site))
theorem movedLen {Z s : State} {a0 args : Array Value} (hZ : Z.Warmed39 s.vm) (hw : ∀ d ∈ wordsLen, d.before a0 Z = true) : ∀ d ∈ wordsLen, d.before args s = true := fun d hd => by
  have q := hw d hd
  have t : ∀ d ∈ wordsLen, d = .arrayClass .byte ∨ (d.onTables && d.keepsFace) = true := by decide +kernel
  rcases t d hd with rfl | t
  · exact RoadKit.mvA hZ q
  · exact RoadKit.mv hZ q t
/-- the bytes of the chars cs, low before high -/
def wideBytes : List Int32 → List Value
  | [] => []
  | c :: cs => .int (lo8 c) :: .int (hi8 c) :: wideBytes cs
theorem wide_lo (d : Value) : ∀ (cs : List Int32) (j : Nat), j < cs.length → (wideBytes cs).getD (2 * j) d = .int (lo8 (cs.getD j 0))
  | [], j, h => absurd h (Nat.not_lt_zero j)
  | c :: cs, 0, _ => rfl
  | c :: cs, j + 1, h => by
    have q := wide_lo d cs j (by simpa using h)
    rw [show 2 * (j + 1) = 2 * j + 1 + 1 from by omega]
    simpa [wideBytes] using q
theorem wide_hi (d : Value) : ∀ (cs : List Int32) (j : Nat), j < cs.length → (wideBytes cs).getD (2 * j + 1) d = .int (hi8 (cs.getD j 0))
  | [], j, h => absurd h (Nat.not_lt_zero j)
  | c :: cs, 0, _ => rfl
  | c :: cs, j + 1, h => by
    have q := wide_hi d cs j (by simpa using h)
    rw [show 2 * (j + 1) + 1 = 2 * j + 1 + 1 + 1 from by omega]
    simpa [wideBytes] using q
theorem low_at (d : Value) (cs : List Int32) (j : Nat) (h : j < cs.length) : (cs.map fun c => Value.int (lo8 c)).getD j d = .int (lo8 (cs.getD j 0)) := by
  simp [List.getD_eq_getElem?_getD, h]
/-- an array of N2 bytes vs codes the chars cs by the coder cd -/
def CodA (cs : List Int32) (cd N2 : Int32) (vs : List Value) : Prop := (cd = 0 ∧ N2 = Int32.ofNat cs.length ∧ vs = (cs.map fun c => Value.int (lo8 c)) ∧ ∀ c ∈ cs, ¬ 255 < c) ∨ (cd = 1 ∧ N2 = Int32.ofNat (2 * cs.length) ∧ vs = wideBytes cs ∧ ∃ c ∈ cs, 255 < c)
theorem CodA.cod {cs : List Int32} {cd N2 : Int32} {vs : List Value} {V : Cell} (h : CodA cs cd N2 vs) (hn : 2 * cs.length < 2 ^ 31) (hs : V.slots.size = N2.toNatClampNeg) (hv : RoadKit.Has V vs (.int 0)) : Cod cd cs.length (fun j => cs.getD j 0) V := by
  rcases h with ⟨rfl, rfl, rfl, h⟩ | ⟨rfl, rfl, rfl, c, hc, hw⟩
  · rw [n32 (by omega)] at hs
    exact Or.inl ⟨rfl, hs, fun j hj => ⟨by rw [hv j (by omega), low_at _ _ _ hj], by
      have e : cs.getD j 0 = cs[j] := by simp [List.getD_eq_getElem?_getD, hj]
      show ¬ 255 < cs.getD j 0
      rw [e]; exact h _ (List.getElem_mem _)⟩⟩
  · rw [n32 (by omega)] at hs
    obtain ⟨j, hj, rfl⟩ := List.getElem_of_mem hc
    exact Or.inr ⟨rfl, hs, fun j hj => ⟨by rw [hv _ (by omega), wide_lo _ _ _ hj], by rw [hv _ (by omega), wide_hi _ _ _ hj]⟩, j, hj, by
      have e : cs.getD j 0 = cs[j] := by simp [List.getD_eq_getElem?_getD, hj]
      show 255 < cs.getD j 0
      rw [e]; exact hw⟩
/-- an object of exactly java/lang/String, its two fields found: as the laws ask it -/
theorem strObj {Z U : State} {a0 : Array Value} {kI : Nat} (wi : (Jvm.Cond.instantiable ST kI).before a0 Z = true) (al : Z.vm.Alike U.vm) {x : Addr} {v0 c0 : Value} (E : RoadKit.Exa Z U.heap x ST) (V : RoadKit.Fld Z U.heap x ST "value" "[B" v0) (C : RoadKit.Fld Z U.heap x ST "coder" "B" c0) :
    ∃ (D : Cell) (fV fC : Field), Blank ST x D U ∧ Found ST "value" "[B" fV U ∧ Found ST "coder" "B" fC U ∧ D.slots[fV.slot]? = some v0 ∧ D.slots[fC.slot]? = some c0 ∧ RoadKit.slotOf Z ST "value" "[B" = fV.slot ∧ RoadKit.slotOf Z ST "coder" "B" = fC.slot := by
  obtain ⟨D, cfV, kV, iV, fV, hD, gV, stV, knV, obV, asV, slV⟩ := V
  obtain ⟨D', cfC, kC, iC, fC, hD', gC, stC, -, -, asC, slC⟩ := C
  cases hD.symm.trans hD'
  obtain ⟨D2, kD, e1, e2, e3, e4, e5⟩ := E
  cases hD.symm.trans e1
  obtain ⟨c2, k2, i1, i2, i3, -⟩ := Cond.instantiable_spec wi
  cases e2.symm.trans i1
  cases e3.symm.trans i2
  obtain ⟨kU, u1, u2⟩ := al.2.2 _ _ e3
  exact ⟨D, fV, fC, ⟨hD, ⟨knV, fun q hq => by rw [hq] at obV; cases obV⟩, by rw [al.findClass]; exact e2, kU, u1, by rw [u2]; exact i3, by rw [u2]; exact e5 i3⟩, ⟨SBG.found_only al ⟨cfV, kV, iV, gV⟩, stV⟩, ⟨SBG.found_only al ⟨cfC, kC, iC, gC⟩, stC⟩, slV, slC, by simp [RoadKit.slotOf, gV], by simp [RoadKit.slotOf, gC]⟩
theorem sta_is {Z U : State} (al : Z.vm.Alike U.vm) {C n d : String} {v : Value} (S : RoadKit.Sta Z U.heap C n d v) : StaticIs U C n d v := by
  obtain ⟨cfS, iS, kS, fS, st, cS, t1, t2, t3, t4, t5, t6, t7⟩ := S
  exact StaticIs.there (s := { Z with heap := U.heap }) ⟨cfS, iS, kS, fS, st, cS, t1, t2, t3, t4, t5, (fun q => by rw [q] at t6; cases t6), t7⟩ al rfl
/-- **length() OF SUCH A STRING** -/
theorem lenW {p : Program} {l : Launch} {e : Env} {R : Room} {s : State} {args : Array Value} {below : List Frame} {len W : Nat} {Z : State} {a0 : Array Value} {h : Heap} (hZ : Z.Warmed39 s.vm) (hw : ∀ d ∈ wordsLen, d.before a0 Z = true) {kI : Nat} (wi : (Jvm.Cond.instantiable ST kI).before a0 Z = true)
    {x t : Addr} {kb : ClassId} {cs : List Int32} {cd N2 z : Int32} {vs : List Value} (E : RoadKit.Exa Z h x ST) (V : RoadKit.Fld Z h x ST "value" "[B" (.ref t)) (C : RoadKit.Fld Z h x ST "coder" "B" (.int cd)) (K : RoadKit.Arv Z h t kb .byte N2 vs (.int 0)) (hc : CodA cs cd N2 vs) (hb : ∀ c ∈ cs, ¬ c < 0 ∧ ¬ (65535 : Int32) < c)
    (S : RoadKit.Sta Z h ST "COMPACT_STRINGS" "Z" (.int z)) (hz : ¬ z = 0) (l2 : cs.length ≤ 4000) (hfr : 2 ≤ R.frames) (hlo : W + 25 ≤ R.locals) :
    Back l R p e below s args (⟨"java/lang/String", "length", "()I"⟩ : MethodName) len W (fun P a => a = #[.ref x] ∧ P.U.heap = h ∧ P.cells + 0 ≤ R.cells ∧ P.slots + 0 ≤ R.slots)
      (fun P _ v B => ∃ L, (v = some (.int (Int32.ofNat cs.length)) ∧ L = [] ∧ B.U.heap = h) ∧ B.locs = P.locs ++ L ∧ B.cells = P.cells + 0 ∧ B.slots = P.slots + 0) := by
  obtain ⟨A, K1, K2, K3, K4, K5, K6⟩ := K
  have hcod := hc.cod (by omega) K3 K5
  intro m meth c P g ig mk a X hg hsize hdg hW hn hp'
  obtain ⟨rfl, rfl, r1, r2⟩ := hp'
  have al : Z.vm.Alike P.U.vm := hZ.alike.trans X.warmed.alike
  obtain ⟨D, fV, fC, hB, F1, F2, g1, g2, -, -⟩ := strObj wi al E V C
  have hx : Txt x t A cd cs.length (fun j => cs.getD j 0) P.U := ⟨⟨_, hB.2.2.1, D, hB.1, rfl, by cases q : D.vm <;> first | rfl | exact absurd q (hB.2.1.2 _)⟩, Has.of hB F1 g1, Has.of hB F2 g2, ⟨K1.1, State.isArrayOf_alike al K1.2.1, K1.2.2, by rcases hcod with ⟨-, q, -⟩ | ⟨-, q, -⟩ <;> omega⟩, hcod, fun j hj => by
    have e : cs.getD j 0 = cs[j] := by simp [List.getD_eq_getElem?_getD, hj]
    show ¬ cs.getD j 0 < 0 ∧ ¬ 65535 < cs.getD j 0
    rw [e]; exact hb _ (List.getElem_mem _)⟩
  obtain ⟨v, B, X', ⟨⟨hv, hh⟩, hl, hk, hs⟩, st⟩ := Len.pays x t A cd cs.length (fun j => cs.getD j 0) z (tabLen_of (movedLen hZ hw)) hfr hlo m meth c P g ig mk _ X hg hsize hdg hW hn ⟨r1, r2, rfl, hx, sta_is al S, hz⟩
  exact ⟨v, B, X', ⟨[], ⟨hv, rfl, hh⟩, hl, hk, hs⟩, st⟩
end StrChars.Road
namespace StrChars.Road
open Jvm Sem ClassFile Op Lib Jvm.Stand Jvm.Free Jvm.Free.XT
open Jvm.Lib.Cold (StaticIs)
/-- the road's facts of a String, as the laws ask it -/
theorem txt_of {Z U : State} {a0 : Array Value} {kI : Nat} (wi : (Jvm.Cond.instantiable ST kI).before a0 Z = true) (al : Z.vm.Alike U.vm) {x t : Addr} {kb : ClassId} {cs : List Int32} {cd N2 : Int32} {vs : List Value} (E : RoadKit.Exa Z U.heap x ST) (V : RoadKit.Fld Z U.heap x ST "value" "[B" (.ref t)) (C : RoadKit.Fld Z U.heap x ST "coder" "B" (.int cd)) (K : RoadKit.Arv Z U.heap t kb .byte N2 vs (.int 0)) (hc : CodA cs cd N2 vs) (hb : ∀ c ∈ cs, ¬ c < 0 ∧ ¬ (65535 : Int32) < c) (l2 : cs.length ≤ 4000) :
    ∃ A, Txt x t A cd cs.length (fun j => cs.getD j 0) U := by
  obtain ⟨A, K1, K2, K3, K4, K5, K6⟩ := K
  have hcod := hc.cod (by omega) K3 K5
  obtain ⟨D, fV, fC, hB, F1, F2, g1, g2, -, -⟩ := strObj wi al E V C
  exact ⟨A, ⟨_, hB.2.2.1, D, hB.1, rfl, by cases q : D.vm <;> first | rfl | exact absurd q (hB.2.1.2 _)⟩, Has.of hB F1 g1, Has.of hB F2 g2, ⟨K1.1, State.isArrayOf_alike al K1.2.1, K1.2.2, by rcases hcod with ⟨-, q, -⟩ | ⟨-, q, -⟩ <;> omega⟩, hcod, fun j hj => by
    have e : cs.getD j 0 = cs[j] := by simp [List.getD_eq_getElem?_getD, hj]
    show ¬ cs.getD j 0 < 0 ∧ ¬ 65535 < cs.getD j 0
    rw [e]; exact hb _ (List.getElem_mem _)⟩
end StrChars.Road
namespace StrChars
open Jvm Sem ClassFile Op Lib Jvm.Stand Jvm.Free.XT Jvm.Free.ALB Jvm.Free.JM Jvm.Free
open Jvm.Lib.Cold (StaticIs)
namespace ChN
def yN : MethodName := ⟨"java/lang/String", "charAt", "(I)C"⟩
abbrev yB : ByteArray := jdk_42_method_56_code
theorem d0 : decode yB 0 = .ok (.aload_n 0, 1) := by decide +kernel
theorem d1 : decode yB 1 = .ok (.invokevirtual 492, 3) := by decide +kernel
theorem d4 : decode yB 4 = .ok (.ifCond (.eq) 12, 3) := by decide +kernel
theorem d7 : decode yB 7 = .ok (.aload_n 0, 1) := by decide +kernel
theorem d8 : decode yB 8 = .ok (.getfield 9, 3) := by decide +kernel
theorem d11 : decode yB 11 = .ok (.iload_n 1, 1) := by decide +kernel
theorem d12 : decode yB 12 = .ok (.invokestatic 495, 3) := by decide +kernel
theorem d15 : decode yB 15 = .ok (.ireturn, 1) := by decide +kernel
def site : List Cond := [.fieldLink "java/lang/String" 9 "java/lang/String" "value" "[B", IsL.tab, LChA.tab] ++ virtW "java/lang/String" 492 "java/lang/String" IsL.yN IsL.yN ++ staticW "java/lang/String" 495 LChA.yN
def tab : Cond := tabOf yN yB 2 (some .char) site
def P (x t : Addr) (V : Cell) (n : Nat) (f : Nat → Int32) (z : Int32) (fm : Value) (i : Nat) (args : Array Value) (s : State) : Prop := args = #[.ref x, .int (Int32.ofNat i)] ∧ Txt x t V 0 n f s ∧ i < n ∧ StaticIs s "java/lang/String" "COMPACT_STRINGS" "Z" (.int z) ∧ ¬ z = 0 ∧ StaticIs s "jdk/internal/util/Preconditions" "SIOOBE_FORMATTER" "Ljava/util/function/BiFunction;" fm ∧ fm.isRef = true
def E (f : Nat → Int32) (i : Nat) (r : Option Value) (s u : State) : Prop := XT.PureE (some (.int (f i))) r s u
/-- charAt(i) of a Latin-1 String of n chars, i < n: f i -/
theorem law (l : Launch) (x t : Addr) (V : Cell) (n : Nat) (f : Nat → Int32) (z : Int32) (fm : Value) (i : Nat) : Law l yN 2 1 3 40 yB 2 (some .char) site (P x t V n f z fm i) (E f i) [] 0 0 := by
  refine Law.of_walk (plainFor_of_name (by decide +kernel)) (by decide +kernel) (by decide +kernel) (by decide) (fun _ _ h => by rw [h.1]; rfl) (fun _ U U' hal hh h => ⟨h.1, h.2.1.mv hal hh, h.2.2.1, h.2.2.2.1.there hal hh, h.2.2.2.2.1, h.2.2.2.2.2.1.there hal hh, h.2.2.2.2.2.2⟩) (fun r U U' V V' h1 hal h2 h => XT.PureE.mv r U U' V V' h1 hal h2 h) ?_
  intro p e s m args below meth c s₁ X0 hexec hbytes hml hret hlk hnm hown hh0 W hP
  obtain ⟨rfl, hx, hi, s1, hz, s3, rf⟩ := hP
  have v31 := hx.2.2.2.1.2.2.2
  have hr := hx.2.2.2.2.2 i hi
  have hx0 := hx.mv X0.warmed.alike hh0
  have c1 : Steps p.tables e below (s₁.setTop (entryFrame m #[.ref x, .int (Int32.ofNat i)] 2)) (s₁.setTop (mkF m 1 #[.val (.ref x), .val (.int (Int32.ofNat i))] [.ref x])) := Steps.trans (entry rfl) (by
    show Steps p.tables e below (s₁.setTop (mkF m 0 #[.val (.ref x), .val (.int (Int32.ofNat i))] [])) _
    refine XS.aloadN X0.here hexec rfl (hb hbytes d0) rfl rfl ?_
    exact Steps.refl _)
  obtain ⟨v2, T2, X2, E2, g2⟩ := X0.callV hexec (IsL.law l x 0 z) hown (wks W (virtW "java/lang/String" 492 "java/lang/String" IsL.yN IsL.yN)) rfl (by decide) (wk W IsL.tab) (W := 0) (Nat.le_of_ble_eq_true rfl) (Nat.le_of_ble_eq_true rfl) (Nat.le_refl _) (Nat.le_refl _) (hx0.1.fc X0.warmed.alike) hx0.1.is (g := (mkF m 1 #[.val (.ref x), .val (.int (Int32.ofNat i))] [.ref x])) rfl (by rw [hml]; rfl) c1 (argsL := []) (rest := []) rfl rfl (by show 2 * 0 + 0 ≤ _; decide) (hb hbytes d1) (⟨rfl, hx0.2.2.1, hx.2.2.2.2.1.cd, s1.there X0.warmed.alike hh0, hz⟩)
  obtain ⟨rfl, q2⟩ := E2
  have hh2 := q2.trans hh0
  have hx2 := hx.mv X2.warmed.alike hh2
  obtain ⟨-, k1, k2⟩ | ⟨k0, -⟩ := hx.2.2.2.2.1
  · have c3 : Steps p.tables e below (s₁.setTop (entryFrame m #[.ref x, .int (Int32.ofNat i)] 2)) (T2.setTop (mkF m 8 #[.val (.ref x), .val (.int (Int32.ofNat i))] [.ref x])) := Steps.trans g2 (by
      refine XS.ifNo X2.here hexec rfl (hb hbytes d4) rfl (i0_eq_f (by decide)) ?_
      refine XS.aloadN X2.here hexec rfl (hb hbytes d7) rfl rfl ?_
      exact Steps.refl _)
    obtain ⟨T4, X4, q4, st4⟩ := X2.hget hexec hown (wk W (.fieldLink "java/lang/String" 9 "java/lang/String" "value" "[B")) hx2.2.1 (g := (mkF m 8 #[.val (.ref x), .val (.int (Int32.ofNat i))] [.ref x])) rfl (rest := []) rfl (hb hbytes d8)
    have hh4 := q4.trans hh2
    have c5 : Steps p.tables e below (s₁.setTop (entryFrame m #[.ref x, .int (Int32.ofNat i)] 2)) (T4.setTop (mkF m 12 #[.val (.ref x), .val (.int (Int32.ofNat i))] [.int (Int32.ofNat i), .ref t])) := (c3.trans (st4 _ (Steps.refl _))).trans (by
      refine XS.iloadN X4.here hexec rfl (hb hbytes d11) rfl ?_
      exact Steps.refl _)
    obtain ⟨v6, T6, X6, E6, g6⟩ := X4.callS hexec (LChA.law l t V i (lo8 (f i)) fm) hown (wks W (staticW "java/lang/String" 495 LChA.yN)) (wk W LChA.tab) (W := 0) (Nat.le_of_ble_eq_true rfl) (Nat.le_of_ble_eq_true rfl) (Nat.le_refl _) (Nat.le_refl _) (g := (mkF m 12 #[.val (.ref x), .val (.int (Int32.ofNat i))] [.int (Int32.ofNat i), .ref t])) rfl (by rw [hml]; rfl) c5 (argsL := [.ref t, .int (Int32.ofNat i)]) (rest := []) rfl rfl (by show 2 * 0 + 0 ≤ _; decide) (hb hbytes d12) (⟨rfl, hx.2.2.2.1.mv X4.warmed.alike hh4, (k2 i hi).1, s3.there X4.warmed.alike hh4, rf⟩)
    obtain ⟨rfl, q6⟩ := E6
    rw [chr8_lo8 hr.1 (k2 i hi).2] at g6
    exact ⟨T6, some (.int (f i)), _, _, _, X6, rfl, rfl, rfl, (fun h => by cases h), ⟨rfl, q6.trans hh4⟩, fun fs hl => Steps.trans g6 (X6.ireturnOut hexec hret (narrow_ch hr.1 hr.2) (Or.inr (Or.inr (Or.inr (Or.inl rfl)))) (hb hbytes d15) hl)⟩
  · exact absurd k0 (by decide)
theorem pays {l : Launch} {R : Room} {p : Program} {e : Env} {below : List Frame} {s : State} {sargs : Array Value} {len W : Nat} (x t : Addr) (V : Cell) (n : Nat) (f : Nat → Int32) (z : Int32) (fm : Value) (i : Nat) (htab : tab.before sargs s = true) (hfr : 4 ≤ R.frames) (hlo : W + 53 ≤ R.locals) :
    Back l R p e below s sargs yN len W (fun A₁ a₁ => A₁.cells + 0 ≤ R.cells ∧ A₁.slots + 0 ≤ R.slots ∧ P x t V n f z fm i a₁ A₁.U) (fun A₁ _ v₁ B₁ => E f i v₁ A₁.U B₁.U ∧ B₁.locs = A₁.locs ++ [] ∧ B₁.cells = A₁.cells + 0 ∧ B₁.slots = A₁.slots + 0) :=
  (law l x t V n f z fm i).pays htab hfr (by omega)
end ChN
end StrChars
namespace StrChars.Road
open Jvm Sem ClassFile Op Lib Jvm.Stand Jvm.Free Jvm.Free.XT
open Jvm.Lib.Cold (StaticIs)
/-- the words of String.charAt(int), the Latin-1 road alone -/
abbrev wordsChN : List Jvm.Cond := [.code ChN.yN ChN.yB 2 (some .char), .initialized ST, .fieldLink ST 9 ST "value" "[B", .fieldLink ST 38 ST "COMPACT_STRINGS" "Z", .fieldLink ST 15 ST "coder" "B", .code IsL.yN IsL.yB 1 (some .boolean), .methodLink ST 492 IsL.yN, .declares IsL.yN, .selects ST IsL.yN IsL.yN, .instanceMethod IsL.yN,
  .methodLink ST 495 LChA.yN, .static LChA.yN, .code LChA.yN LChA.yB 2 (some .char), .initialized "java/lang/StringLatin1", .methodLink "java/lang/StringLatin1" 9 JO.Str_checkIndex.yN, .static JO.Str_checkIndex.yN, .code JO.Str_checkIndex.yN JO.Str_checkIndex.yB 2 none,
  .fieldLink ST 1053 "jdk/internal/util/Preconditions" "SIOOBE_FORMATTER" "Ljava/util/function/BiFunction;", .methodLink ST 1059 JC.PreCheck.yN, .static JC.PreCheck.yN, .code JC.PreCheck.yN JC.PreCheck.yB 3 (some .int), .initialized "jdk/internal/util/Preconditions"]
theorem tabChN_of {a : Array Value} {s : State} (h : ∀ w ∈ wordsChN, w.before a s = true) : ChN.tab.before a s = true := by
  have hp : JC.PreCheck.tab.before a s = true := unparts (wk h (.code JC.PreCheck.yN JC.PreCheck.yB 3 (some .int))) (wks h (.initialized JC.PreCheck.yN.cls :: JC.PreCheck.site))
  have qk := consq hp h
  have hk : JO.Str_checkIndex.tab.before a s = true := unparts (wk qk (.code JO.Str_checkIndex.yN JO.Str_checkIndex.yB 2 none)) (wks qk (.initialized JO.Str_checkIndex.yN.cls :: JO.Str_checkIndex.site))
  have ql := consq hk h
  have hl : LChA.tab.before a s = true := unparts (wk ql (.code LChA.yN LChA.yB 2 (some .char))) (wks ql (.initialized LChA.yN.cls :: LChA.site))
  have hi : IsL.tab.before a s = true := unparts (wk h (.code IsL.yN IsL.yB 1 (some .boolean))) (wks h (.initialized IsL.yN.cls :: IsL.site))
  have q := consq hi (consq hl h)
  exact unparts (wk q (.code ChN.yN ChN.yB 2 (some .char))) (wks q (.initialized ChN.yN.cls :: ChN.site))
theorem movedChN {Z s : State} {a0 args : Array Value} (hZ : Z.Warmed39 s.vm) (hw : ∀ d ∈ wordsChN, d.before a0 Z = true) : ∀ d ∈ wordsChN, d.before args s = true := fun d hd => by
  have t : ∀ d ∈ wordsChN, (d.onTables && d.keepsFace) = true := by decide +kernel
  exact RoadKit.mv hZ (hw d hd) (t d hd)
/-- **charAt(i) OF A LATIN-1 STRING**, i < n: the char -/
theorem chN {p : Program} {l : Launch} {e : Env} {R : Room} {s : State} {args : Array Value} {below : List Frame} {len W : Nat} {Z : State} {a0 : Array Value} {h : Heap} (hZ : Z.Warmed39 s.vm) (hw : ∀ d ∈ wordsChN, d.before a0 Z = true) {kI : Nat} (wi : (Jvm.Cond.instantiable ST kI).before a0 Z = true)
    {x t : Addr} {kb : ClassId} {cs : List Int32} {N2 z : Int32} {vs : List Value} {fm : Value} {i : Nat} {j : Int32} (E : RoadKit.Exa Z h x ST) (V : RoadKit.Fld Z h x ST "value" "[B" (.ref t)) (C : RoadKit.Fld Z h x ST "coder" "B" (.int 0)) (K : RoadKit.Arv Z h t kb .byte N2 vs (.int 0)) (hc : CodA cs 0 N2 vs) (hb : ∀ c ∈ cs, ¬ c < 0 ∧ ¬ (65535 : Int32) < c)
    (S : RoadKit.Sta Z h ST "COMPACT_STRINGS" "Z" (.int z)) (hz : ¬ z = 0) (F : RoadKit.Sta Z h "jdk/internal/util/Preconditions" "SIOOBE_FORMATTER" "Ljava/util/function/BiFunction;" fm) (rf : fm.isRef = true) (l2 : cs.length ≤ 4000) (hi : i < cs.length) (hj : j = Int32.ofNat i) (hfr : 4 ≤ R.frames) (hlo : W + 53 ≤ R.locals) :
    Back l R p e below s args (⟨"java/lang/String", "charAt", "(I)C"⟩ : MethodName) len W (fun P a => a = #[.ref x, .int j] ∧ P.U.heap = h ∧ P.cells + 0 ≤ R.cells ∧ P.slots + 0 ≤ R.slots)
      (fun P _ v B => ∃ L, (v = some (.int (cs.getD i 0)) ∧ L = [] ∧ B.U.heap = h) ∧ B.locs = P.locs ++ L ∧ B.cells = P.cells + 0 ∧ B.slots = P.slots + 0) := by
  subst hj
  intro m meth c P g ig mk a X hg hsize hdg hW hn hp'
  obtain ⟨rfl, rfl, r1, r2⟩ := hp'
  have al : Z.vm.Alike P.U.vm := hZ.alike.trans X.warmed.alike
  obtain ⟨A, hx⟩ := txt_of wi al E V C K hc hb l2
  obtain ⟨v, B, X', ⟨⟨hv, hh⟩, hl, hk, hs⟩, st⟩ := ChN.pays x t A cs.length (fun j => cs.getD j 0) z fm i (tabChN_of (movedChN hZ hw)) hfr hlo m meth c P g ig mk _ X hg hsize hdg hW hn ⟨r1, r2, rfl, hx, hi, sta_is al S, hz, sta_is al F, rf⟩
  exact ⟨v, B, X', ⟨[], ⟨hv, rfl, hh⟩, hl, hk, hs⟩, st⟩
/-- what backV says of its String, as the contracts of this text ask it: cs's low bytes, coder 0 -/
theorem codOf {cs : List Int32} {n : Nat} (hn : cs.length = n) (hb : ∀ c ∈ cs, ¬ 255 < c) : CodA cs 0 (Int32.ofNat n) ((cs.map lo8).map Value.int) := Or.inl ⟨rfl, by rw [hn], by simp [List.map_map, Function.comp_def], hb⟩
end StrChars.Road
end Jvm.Pilot.@@N@@
namespace Jvm.RoadKit
open Sem ClassFile Op Lib Jvm.Stand Jvm.Free Jvm.LawKit
section New
variable {p : Program} {l : Launch} {e : Env} {R : Room} {s : State} {m : MethodId} {args : Array Value} {below : List Frame} {meth : Method} {c : Code} {T : State} {locs : List Loc} {cells slots : Nat}
theorem retI (X : Stand p l e R s m args below meth c T locs cells slots) (hx : p.tables.exec = Jvm.exec) {pc : Nat} {Ls : Array Slot} {z : Int32} {rest : List Value} (hret : meth.sig.returnType = some .int) (hd : decode c.code pc = .ok (.ireturn, 1)) {fs : List Frame}
    (hl : ∀ (f : JFrame) (acts : List Action), f.method = m → f.locked = none → f.entered = [] → (doReturn e (T.setTop f) acts (some (.int z))).1 = T.setFrames fs) : Steps p.tables e below (T.setTop (mkF m pc Ls (.int z :: rest))) (T.setFrames fs) := by
  have hm' : T.vm.method? m = some meth := X.method'
  have hn : narrow .int (.int z) = .int z := rfl
  show Steps p.tables e below (T.setTop { method := m, pc := pc, locals := Ls, stack := _ :: rest, locked := none }) _
  jvm_step X.here [X.here.top, hx, hd, hm', hret, hn]
  first | (intro acts; rw [hl _ acts rfl rfl rfl]) | rw [hl _ _ rfl rfl rfl]
  exact Steps.refl _
end New
end Jvm.RoadKit
namespace Jvm.Pilot.@@N@@
open Jvm Jvm.ClassFile Sem Op Lib Jvm.Free Jvm.Stand Jvm.LawKit Jvm.RoadKit Bundle Jvm.Pilot.@@N@@.Jvm.D

def fPK (p1 : Int32) (p2 : Int32) (p3 : Int32) : Int32 := (if (p3 &&& (1 : Int32)) = (0 : Int32) then ((((p1.toUInt32 >>> (p2 &&& 31).toUInt32).toInt32) &&& (255 : Int32)).toUInt32.toUInt16.toUInt32.toInt32) else (((48 : Int32) + ((((p1.toUInt32 >>> (p2 &&& 31).toUInt32).toInt32) &&& (255 : Int32)) % (10 : Int32))).toUInt32.toUInt16.toUInt32.toInt32))
def fDG (p1 : Int32) : Int32 := (if p1 < (48 : Int32) then (-1 : Int32) else (if (57 : Int32) < p1 then (-1 : Int32) else (p1 - (48 : Int32))))
def fRF (p1 : Int32) (p2 : Int32) (p3 : Int32) (p4 : Int32) (p5 : Int32) (p6 : Int32) (p7 : Int32) (p8 : Int32) : Int32 := (if p1 = (7 : Int32) then (if p6 = (45 : Int32) then (if (fDG p2) < (0 : Int32) then (-1 : Int32) else (if (fDG p3) < (0 : Int32) then (-1 : Int32) else (if (fDG p4) < (0 : Int32) then (-1 : Int32) else (if (fDG p5) < (0 : Int32) then (-1 : Int32) else (if (fDG p7) < (0 : Int32) then (-1 : Int32) else (if (fDG p8) < (0 : Int32) then (-1 : Int32) else (if (((fDG p7) * (10 : Int32)) + (fDG p8)) < (1 : Int32) then (-1 : Int32) else (if (12 : Int32) < (((fDG p7) * (10 : Int32)) + (fDG p8)) then (-1 : Int32) else ((((((((fDG p2) * (1000 : Int32)) + ((fDG p3) * (100 : Int32))) + ((fDG p4) * (10 : Int32))) + (fDG p5)) * (12 : Int32)) + (((fDG p7) * (10 : Int32)) + (fDG p8))) - (1 : Int32)))))))))) else (-1 : Int32)) else (-1 : Int32))
def fD4 (c0 : Int32) (c1 : Int32) (c2 : Int32) (c3 : Int32) : Int32 := (if c0 < (48 : Int32) then (-1 : Int32) else (if (57 : Int32) < c0 then (-1 : Int32) else (if c1 < (48 : Int32) then (-1 : Int32) else (if (57 : Int32) < c1 then (-1 : Int32) else (if c2 < (48 : Int32) then (-1 : Int32) else (if (57 : Int32) < c2 then (-1 : Int32) else (if c3 < (48 : Int32) then (-1 : Int32) else (if (57 : Int32) < c3 then (-1 : Int32) else ((((((((0 : Int32) + (c0 - (48 : Int32))) * (10 : Int32)) + (c1 - (48 : Int32))) * (10 : Int32)) + (c2 - (48 : Int32))) * (10 : Int32)) + (c3 - (48 : Int32)))))))))))
def fD7 (c5 : Int32) (c6 : Int32) : Int32 := (if c5 < (48 : Int32) then (-1 : Int32) else (if (57 : Int32) < c5 then (-1 : Int32) else (if c6 < (48 : Int32) then (-1 : Int32) else (if (57 : Int32) < c6 then (-1 : Int32) else ((((0 : Int32) + (c5 - (48 : Int32))) * (10 : Int32)) + (c6 - (48 : Int32)))))))
def fN7 (c0 : Int32) (c1 : Int32) (c2 : Int32) (c3 : Int32) (c4 : Int32) (c5 : Int32) (c6 : Int32) : Int32 := (if c4 = (45 : Int32) then (if (fD4 c0 c1 c2 c3) < (0 : Int32) then (-1 : Int32) else (if (fD7 c5 c6) < (1 : Int32) then (-1 : Int32) else (if (12 : Int32) < (fD7 c5 c6) then (-1 : Int32) else ((((fD4 c0 c1 c2 c3) * (12 : Int32)) + (fD7 c5 c6)) - (1 : Int32))))) else (-1 : Int32))
def ELs : List (String × Nat) := [("com/example/reta/reta/calendar/Months", 15), ("com/example/reta/reta/calendar/MonthsNumberPinLaw", 13)]
theorem own_EL {Z : State} {a0 : Array Value} (hw : ∀ d ∈ tables_1, d.before a0 Z = true) : EW Z a0 ELs := (EW.cons (hw _ (List.mem_of_getElem? (i := 55) rfl)) (by decide +kernel) (EW.cons (hw _ (List.mem_of_getElem? (i := 61) rfl)) (by decide +kernel) EW.nil))
theorem own_str {Z : State} {a0 : Array Value} (hw : ∀ d ∈ tables_1, d.before a0 Z = true) : ∀ a ∈ Bundle.stringAtoms, a.before a0 Z = true := fun a ha => hw a ((by decide +kernel : ∀ a ∈ Bundle.stringAtoms, a ∈ tables_1) a ha)
/-- a String of known chars, each 0 to 255 -/
def Stx (Z : State) (h : Heap) (x : Addr) (cs : List Int32) : Prop := ∃ (t : Addr) (kb : ClassId), Exa Z h x "java/lang/String" ∧ Fld Z h x "java/lang/String" "value" "[B" (.ref t) ∧ Fld Z h x "java/lang/String" "coder" "B" (.int 0) ∧ Arv Z h t kb .byte (Int32.ofNat cs.length) ((cs.map (fun c => c.toInt8.toInt32)).map Value.int) (.int 0) ∧ (∀ c ∈ cs, ¬ c < 0 ∧ ¬ (255 : Int32) < c) ∧ cs.length ≤ 4000
theorem Stx.ext {Z : State} {h h' : Heap} {x : Addr} {cs : List Int32} (T : Stx Z h x cs) (E : Ext h h') : Stx Z h' x cs := by
  obtain ⟨t, kb, a, b, c, d, f, g⟩ := T; exact ⟨t, kb, a.ext E, b.ext E, c.ext E, d.ext E, f, g⟩
theorem Stx.keep {Z : State} {h h' : Heap} {x : Addr} {cs : List Int32} (T : Stx Z h x cs) (K : Keep h h' []) : Stx Z h' x cs := by
  obtain ⟨t, kb, a, b, c, d, f, g⟩ := T; exact ⟨t, kb, a.keep K, b.keep K nin0, c.keep K nin0, d.keep K nin0, f, g⟩
theorem own_up {cs : List Int32} (hp : ∀ c ∈ cs, ¬ c < 0 ∧ ¬ (255 : Int32) < c) : ∀ c ∈ cs, ¬ c < 0 ∧ ¬ (65535 : Int32) < c := fun c hc => ⟨(hp c hc).1, fun q => (hp c hc).2 (by
  rw [Int32.lt_iff_toInt_lt] at q ⊢; have e1 : (255 : Int32).toInt = 255 := rfl; have e2 : (65535 : Int32).toInt = 65535 := rfl; omega)⟩
theorem own_len {p : Program} {l : Launch} {e : Env} {R : Room} {s : State} {args : Array Value} {below : List Frame} {len W : Nat} {Z : State} {a0 : Array Value} {h : Heap} (hZ : Z.Warmed39 s.vm) (hw : ∀ d ∈ tables_1, d.before a0 Z = true) {x : Addr} {cs : List Int32} {z : Int32} (T : Stx Z h x cs)
    (S : Sta Z h "java/lang/String" "COMPACT_STRINGS" "Z" (.int z)) (hz : ¬ z = 0) (hfr : 2 ≤ R.frames) (hlo : W + 25 ≤ R.locals) :
    Back l R p e below s args (⟨"java/lang/String", "length", "()I"⟩ : MethodName) len W (fun P a => a = #[.ref x] ∧ P.U.heap = h ∧ P.cells + 0 ≤ R.cells ∧ P.slots + 0 ≤ R.slots)
      (fun P _ v B => ∃ L, (v = some (.int (Int32.ofNat cs.length)) ∧ L = [] ∧ B.U.heap = h) ∧ B.locs = P.locs ++ L ∧ B.cells = P.cells + 0 ∧ B.slots = P.slots + 0) := by
  obtain ⟨t, kb, E, V, C, K, hp, l2⟩ := T
  exact StrChars.Road.lenW hZ (fun d hd => hw d ((by decide +kernel : ∀ d ∈ StrChars.Road.wordsLen, d ∈ tables_1) d hd)) (kI := 4) (hw _ (List.mem_of_getElem? (i := 5) rfl)) E V C K (StrChars.Road.codOf rfl (fun c hc => (hp c hc).2)) (own_up hp) S hz l2 hfr hlo
theorem own_chr {p : Program} {l : Launch} {e : Env} {R : Room} {s : State} {args : Array Value} {below : List Frame} {len W : Nat} {Z : State} {a0 : Array Value} {h : Heap} (hZ : Z.Warmed39 s.vm) (hw : ∀ d ∈ tables_1, d.before a0 Z = true) {x : Addr} {cs : List Int32} {z : Int32} {fm : Value} {i : Nat} {j : Int32} (T : Stx Z h x cs)
    (S : Sta Z h "java/lang/String" "COMPACT_STRINGS" "Z" (.int z)) (hz : ¬ z = 0) (F : Sta Z h "jdk/internal/util/Preconditions" "SIOOBE_FORMATTER" "Ljava/util/function/BiFunction;" fm) (rf : fm.isRef = true) (hi : i < cs.length) (hj : j = Int32.ofNat i) (hfr : 4 ≤ R.frames) (hlo : W + 53 ≤ R.locals) :
    Back l R p e below s args (⟨"java/lang/String", "charAt", "(I)C"⟩ : MethodName) len W (fun P a => a = #[.ref x, .int j] ∧ P.U.heap = h ∧ P.cells + 0 ≤ R.cells ∧ P.slots + 0 ≤ R.slots)
      (fun P _ v B => ∃ L, (v = some (.int (cs.getD i 0)) ∧ L = [] ∧ B.U.heap = h) ∧ B.locs = P.locs ++ L ∧ B.cells = P.cells + 0 ∧ B.slots = P.slots + 0) := by
  obtain ⟨t, kb, E, V, C, K, hp, l2⟩ := T
  exact StrChars.Road.chN hZ (fun d hd => hw d ((by decide +kernel : ∀ d ∈ StrChars.Road.wordsChN, d ∈ tables_1) d hd)) (kI := 4) (hw _ (List.mem_of_getElem? (i := 5) rfl)) E V C K (StrChars.Road.codOf rfl (fun c hc => (hp c hc).2)) (own_up hp) S hz F rf l2 hi hj hfr hlo
theorem own_new {p : Program} {l : Launch} {e : Env} {R : Room} {s : State} {args : Array Value} {below : List Frame} {len W : Nat} {Z : State} {a0 : Array Value} {h : Heap} (hZ : Z.Warmed39 s.vm) (hw : ∀ d ∈ tables_1, d.before a0 Z = true)
    {x b : Addr} {kC : ClassId} {cs : List Int32} {d v0 c0 : Value} {z N : Int32} {n n0 : Nat} (hx0 : n0 ≤ x) (hh0 : n0 ≤ h.size) (E : Exa Z h x "java/lang/String") (V : Fld Z h x "java/lang/String" "value" "[B" v0) (C : Fld Z h x "java/lang/String" "coder" "B" c0) (K : Arv Z h b kC .char N (cs.map Value.int) d) (S : Sta Z h "java/lang/String" "COMPACT_STRINGS" "Z" (.int z)) (hz : ¬ z = 0)
    (hn : cs.length = n) (hN : N = Int32.ofNat n) (l0 : 0 < n) (l2 : n ≤ 4000) (hp : ∀ c ∈ cs, ¬ c < 0 ∧ ¬ (255 : Int32) < c) (hfr : 4 ≤ R.frames) (hlo : W + 65 ≤ R.locals) :
    Back l R p e below s args (⟨"java/lang/String", "<init>", "([C)V"⟩ : MethodName) len W (fun P a => a = #[.ref x, .ref b] ∧ P.U.heap = h ∧ P.cells + 1 ≤ R.cells ∧ P.slots + n ≤ R.slots)
      (fun P _ v B => ∃ L, (v = none ∧ Fr n0 L ∧ Keep h B.U.heap [x] ∧ Stx Z B.U.heap x cs) ∧ B.locs = P.locs ++ L ∧ B.cells = P.cells + 1 ∧ B.slots = P.slots + n) := by
  subst hn hN
  refine Back.mono (StrChars.Road.backV hZ (fun d hd => hw d ((by decide +kernel : ∀ d ∈ StrChars.Road.words, d ∈ tables_1) d hd)) (kI := 4) (hw _ (List.mem_of_getElem? (i := 5) rfl)) hx0 hh0 E V C K S hz rfl rfl l0 l2 hp rfl hfr hlo) (fun P a hp => hp) (fun P a v B hp' hq => ?_)
  obtain ⟨L, ⟨q1, q2, q3, q5, q7, t, kb, -, -, -, q6, q8⟩, hl, hc, hs⟩ := hq
  exact ⟨L, ⟨q1, q2, q3, t, kb, q5, q6, q7, q8, hp, l2⟩, hl, hc, hs⟩
theorem own_and (y : Int32) : ∃ k : Fin 256, y &&& (255 : Int32) = Int32.ofNat k.val := by
  have e : (y &&& (255 : Int32)).toInt = y.toInt % 2 ^ 8 := Jvm.Kit.i32_mask y 255 (k := 8) (by decide) (by decide)
  have b0 : 0 ≤ y.toInt % 2 ^ 8 ∧ y.toInt % 2 ^ 8 < 256 := by omega
  refine ⟨⟨(y.toInt % 2 ^ 8).toNat, by omega⟩, Int32.toInt_inj.mp ?_⟩
  rw [e, Int32.toInt_ofNat_small (by show (y.toInt % 2 ^ 8).toNat < _; omega)]
  show _ = (((y.toInt % 2 ^ 8).toNat : Nat) : Int)
  omega
theorem own_nar (x : Int32) : nar .char (x.toUInt32.toUInt16.toUInt32.toInt32) = x.toUInt32.toUInt16.toUInt32.toInt32 := by
  show (x.toUInt32.toUInt16.toUInt32.toInt32).toUInt32.toUInt16.toUInt32.toInt32 = _
  rw [UInt32.toUInt32_toInt32, UInt16.toUInt16_toUInt32]
abbrev Byt (x : Int32) : Prop := ¬ nar .char x < 0 ∧ ¬ (255 : Int32) < nar .char x ∧ nar .char x = x
theorem own_t1 : ∀ k : Fin 256, Byt ((Int32.ofNat k.val).toUInt32.toUInt16.toUInt32.toInt32) := by decide +kernel
theorem own_t2 : ∀ k : Fin 256, Byt (((48 : Int32) + (Int32.ofNat k.val % (10 : Int32))).toUInt32.toUInt16.toUInt32.toInt32) := by decide +kernel
theorem own_b_v {a b c v : Int32} (h : v = fPK a b c) : Byt v := by
  subst h
  obtain ⟨k, hk⟩ := own_and ((a.toUInt32 >>> (b &&& 31).toUInt32).toInt32)
  have e : fPK a b c = if (c &&& (1 : Int32)) = (0 : Int32) then (Int32.ofNat k.val).toUInt32.toUInt16.toUInt32.toInt32 else ((48 : Int32) + (Int32.ofNat k.val % (10 : Int32))).toUInt32.toUInt16.toUInt32.toInt32 := by rw [fPK, hk]
  by_cases q : (c &&& (1 : Int32)) = (0 : Int32)
  · rw [e, if_pos q]; exact own_t1 k
  · rw [e, if_neg q]; exact own_t2 k
theorem own_b_z {P : Prop} [Decidable P] {a b c v : Int32} (h : v = if P then fPK a b c else (45 : Int32)) : Byt v := by
  by_cases q : P
  · rw [if_pos q] at h; exact own_b_v h
  · rw [if_neg q] at h; subst h; decide +kernel
theorem own_l6 {a b c d f g : Int32} (h1 : Byt a) (h2 : Byt b) (h3 : Byt c) (h4 : Byt d) (h5 : Byt f) (h6 : Byt g) : ∀ x ∈ [nar .char a, nar .char b, nar .char c, nar .char d, nar .char f, nar .char g], ¬ x < 0 ∧ ¬ (255 : Int32) < x := by
  intro x hx; simp only [List.mem_cons, List.not_mem_nil, or_false] at hx
  rcases hx with rfl | rfl | rfl | rfl | rfl | rfl
  · exact ⟨h1.1, h1.2.1⟩
  · exact ⟨h2.1, h2.2.1⟩
  · exact ⟨h3.1, h3.2.1⟩
  · exact ⟨h4.1, h4.2.1⟩
  · exact ⟨h5.1, h5.2.1⟩
  · exact ⟨h6.1, h6.2.1⟩
theorem own_l7 {a b c d f g i : Int32} (h1 : Byt a) (h2 : Byt b) (h3 : Byt c) (h4 : Byt d) (h5 : Byt f) (h6 : Byt g) (h7 : Byt i) : ∀ x ∈ [nar .char a, nar .char b, nar .char c, nar .char d, nar .char f, nar .char g, nar .char i], ¬ x < 0 ∧ ¬ (255 : Int32) < x := by
  intro x hx; simp only [List.mem_cons, List.not_mem_nil, or_false] at hx
  rcases hx with rfl | rfl | rfl | rfl | rfl | rfl | rfl
  · exact ⟨h1.1, h1.2.1⟩
  · exact ⟨h2.1, h2.2.1⟩
  · exact ⟨h3.1, h3.2.1⟩
  · exact ⟨h4.1, h4.2.1⟩
  · exact ⟨h5.1, h5.2.1⟩
  · exact ⟨h6.1, h6.2.1⟩
  · exact ⟨h7.1, h7.2.1⟩
theorem own_l8 {a b c d f g i j : Int32} (h1 : Byt a) (h2 : Byt b) (h3 : Byt c) (h4 : Byt d) (h5 : Byt f) (h6 : Byt g) (h7 : Byt i) (h8 : Byt j) : ∀ x ∈ [nar .char a, nar .char b, nar .char c, nar .char d, nar .char f, nar .char g, nar .char i, nar .char j], ¬ x < 0 ∧ ¬ (255 : Int32) < x := by
  intro x hx; simp only [List.mem_cons, List.not_mem_nil, or_false] at hx
  rcases hx with rfl | rfl | rfl | rfl | rfl | rfl | rfl | rfl
  · exact ⟨h1.1, h1.2.1⟩
  · exact ⟨h2.1, h2.2.1⟩
  · exact ⟨h3.1, h3.2.1⟩
  · exact ⟨h4.1, h4.2.1⟩
  · exact ⟨h5.1, h5.2.1⟩
  · exact ⟨h6.1, h6.2.1⟩
  · exact ⟨h7.1, h7.2.1⟩
  · exact ⟨h8.1, h8.2.1⟩
theorem own_dig (c : Int32) : (fDG c = (-1 : Int32) ∧ (c < (48 : Int32) ∨ (¬ c < (48 : Int32) ∧ (57 : Int32) < c))) ∨ (¬ c < (48 : Int32) ∧ ¬ (57 : Int32) < c ∧ fDG c = c - (48 : Int32) ∧ 0 ≤ (c - (48 : Int32)).toInt ∧ (c - (48 : Int32)).toInt ≤ 9) := by
  by_cases h1 : c < (48 : Int32)
  · exact Or.inl ⟨by rw [fDG, if_pos h1], Or.inl h1⟩
  · by_cases h2 : (57 : Int32) < c
    · exact Or.inl ⟨by rw [fDG, if_neg h1, if_pos h2], Or.inr ⟨h1, h2⟩⟩
    · refine Or.inr ⟨h1, h2, by rw [fDG, if_neg h1, if_neg h2], ?_⟩
      rw [Int32.lt_iff_toInt_lt] at h1 h2
      have e1 : (48 : Int32).toInt = 48 := rfl
      have e2 : (57 : Int32).toInt = 57 := rfl
      have e3 : (c - (48 : Int32)).toInt = c.toInt - (48 : Int32).toInt := Jvm.Kit.i32_sub (by omega) (by omega)
      omega
theorem own_year {a b c d : Int32} (ha : 0 ≤ a.toInt ∧ a.toInt ≤ 9) (hb' : 0 ≤ b.toInt ∧ b.toInt ≤ 9) (hc : 0 ≤ c.toInt ∧ c.toInt ≤ 9) (hd : 0 ≤ d.toInt ∧ d.toInt ≤ 9) :
    ((((((((0 : Int32) + a) * (10 : Int32)) + b) * (10 : Int32)) + c) * (10 : Int32)) + d) = ((((a * (1000 : Int32)) + (b * (100 : Int32))) + (c * (10 : Int32))) + d) ∧ ¬ ((((((((0 : Int32) + a) * (10 : Int32)) + b) * (10 : Int32)) + c) * (10 : Int32)) + d) < (0 : Int32) := by
  have e0 : (0 : Int32).toInt = 0 := rfl
  have e1 : (10 : Int32).toInt = 10 := rfl
  have e2 : (100 : Int32).toInt = 100 := rfl
  have e3 : (1000 : Int32).toInt = 1000 := rfl
  rw [Int32.zero_add]
  have f1 : (a * (10 : Int32)).toInt = a.toInt * 10 := by rw [Jvm.Kit.i32_mul (by rw [e1]; omega) (by rw [e1]; omega), e1]
  have f2 : (a * (10 : Int32) + b).toInt = a.toInt * 10 + b.toInt := by rw [Jvm.Kit.i32_add (by omega) (by omega), f1]
  have f3 : ((a * (10 : Int32) + b) * (10 : Int32)).toInt = (a.toInt * 10 + b.toInt) * 10 := by rw [Jvm.Kit.i32_mul (by rw [e1]; omega) (by rw [e1]; omega), e1, f2]
  have f4 : ((a * (10 : Int32) + b) * (10 : Int32) + c).toInt = (a.toInt * 10 + b.toInt) * 10 + c.toInt := by rw [Jvm.Kit.i32_add (by omega) (by omega), f3]
  have f5 : (((a * (10 : Int32) + b) * (10 : Int32) + c) * (10 : Int32)).toInt = ((a.toInt * 10 + b.toInt) * 10 + c.toInt) * 10 := by rw [Jvm.Kit.i32_mul (by rw [e1]; omega) (by rw [e1]; omega), e1, f4]
  have f6 : (((a * (10 : Int32) + b) * (10 : Int32) + c) * (10 : Int32) + d).toInt = ((a.toInt * 10 + b.toInt) * 10 + c.toInt) * 10 + d.toInt := by rw [Jvm.Kit.i32_add (by omega) (by omega), f5]
  have g1 : (a * (1000 : Int32)).toInt = a.toInt * 1000 := by rw [Jvm.Kit.i32_mul (by rw [e3]; omega) (by rw [e3]; omega), e3]
  have g2 : (b * (100 : Int32)).toInt = b.toInt * 100 := by rw [Jvm.Kit.i32_mul (by rw [e2]; omega) (by rw [e2]; omega), e2]
  have g3 : (c * (10 : Int32)).toInt = c.toInt * 10 := by rw [Jvm.Kit.i32_mul (by rw [e1]; omega) (by rw [e1]; omega), e1]
  have g4 : (a * (1000 : Int32) + b * (100 : Int32)).toInt = a.toInt * 1000 + b.toInt * 100 := by rw [Jvm.Kit.i32_add (by omega) (by omega), g1, g2]
  have g5 : (a * (1000 : Int32) + b * (100 : Int32) + c * (10 : Int32)).toInt = a.toInt * 1000 + b.toInt * 100 + c.toInt * 10 := by rw [Jvm.Kit.i32_add (by omega) (by omega), g4, g3]
  have g6 : (a * (1000 : Int32) + b * (100 : Int32) + c * (10 : Int32) + d).toInt = a.toInt * 1000 + b.toInt * 100 + c.toInt * 10 + d.toInt := by rw [Jvm.Kit.i32_add (by omega) (by omega), g5]
  refine ⟨Int32.toInt_inj.mp (by rw [f6, g6]; omega), ?_⟩
  rw [Int32.lt_iff_toInt_lt, f6, e0]; omega
theorem own_neg {c : Int32} (h : 0 ≤ (c - (48 : Int32)).toInt) : ¬ c - (48 : Int32) < (0 : Int32) := by
  rw [Int32.lt_iff_toInt_lt]; have e0 : (0 : Int32).toInt = 0 := rfl; omega
theorem own_eq7 (c0 c1 c2 c3 c4 c5 c6 : Int32) : fN7 c0 c1 c2 c3 c4 c5 c6 = fRF (7 : Int32) c0 c1 c2 c3 c4 c5 c6 := by
  have m1 : (-1 : Int32) < (0 : Int32) := by decide
  have m2 : (-1 : Int32) < (1 : Int32) := by decide
  by_cases h45 : c4 = (45 : Int32)
  · rw [fN7, fRF, if_pos h45, if_pos rfl, if_pos h45]
    rcases own_dig c0 with ⟨e0, q⟩ | ⟨a0, b0, e0, l0, u0⟩
    · have hN : fD4 c0 c1 c2 c3 = (-1 : Int32) := by rcases q with q | ⟨q, q'⟩ <;> simp only [fD4, *, if_true, if_false]
      rw [hN, e0, if_pos m1, if_pos m1]
    rcases own_dig c1 with ⟨e1, q⟩ | ⟨a1, b1, e1, l1, u1⟩
    · have hN : fD4 c0 c1 c2 c3 = (-1 : Int32) := by rcases q with q | ⟨q, q'⟩ <;> simp only [fD4, *, if_true, if_false]
      rw [hN, e0, e1, if_pos m1, if_neg (own_neg l0), if_pos m1]
    rcases own_dig c2 with ⟨e2, q⟩ | ⟨a2, b2, e2, l2, u2⟩
    · have hN : fD4 c0 c1 c2 c3 = (-1 : Int32) := by rcases q with q | ⟨q, q'⟩ <;> simp only [fD4, *, if_true, if_false]
      rw [hN, e0, e1, e2, if_pos m1, if_neg (own_neg l0), if_neg (own_neg l1), if_pos m1]
    rcases own_dig c3 with ⟨e3, q⟩ | ⟨a3, b3, e3, l3, u3⟩
    · have hN : fD4 c0 c1 c2 c3 = (-1 : Int32) := by rcases q with q | ⟨q, q'⟩ <;> simp only [fD4, *, if_true, if_false]
      rw [hN, e0, e1, e2, e3, if_pos m1, if_neg (own_neg l0), if_neg (own_neg l1), if_neg (own_neg l2), if_pos m1]
    have hY := own_year ⟨l0, u0⟩ ⟨l1, u1⟩ ⟨l2, u2⟩ ⟨l3, u3⟩
    have hN : fD4 c0 c1 c2 c3 = ((((((((0 : Int32) + (c0 - (48 : Int32))) * (10 : Int32)) + (c1 - (48 : Int32))) * (10 : Int32)) + (c2 - (48 : Int32))) * (10 : Int32)) + (c3 - (48 : Int32))) := by
      rw [fD4, if_neg a0, if_neg b0, if_neg a1, if_neg b1, if_neg a2, if_neg b2, if_neg a3, if_neg b3]
    rw [hN, if_neg hY.2, hY.1, e0, e1, e2, e3, if_neg (own_neg l0), if_neg (own_neg l1), if_neg (own_neg l2), if_neg (own_neg l3)]
    rcases own_dig c5 with ⟨e5, q⟩ | ⟨a5, b5, e5, l5, u5⟩
    · have hM : fD7 c5 c6 = (-1 : Int32) := by rcases q with q | ⟨q, q'⟩ <;> simp only [fD7, *, if_true, if_false]
      rw [hM, e5, if_pos m2, if_pos m1]
    rcases own_dig c6 with ⟨e6, q⟩ | ⟨a6, b6, e6, l6, u6⟩
    · have hM : fD7 c5 c6 = (-1 : Int32) := by rcases q with q | ⟨q, q'⟩ <;> simp only [fD7, *, if_true, if_false]
      rw [hM, e5, e6, if_pos m2, if_neg (own_neg l5), if_pos m1]
    have hM : fD7 c5 c6 = (((c5 - (48 : Int32)) * (10 : Int32)) + (c6 - (48 : Int32))) := by
      rw [fD7, if_neg a5, if_neg b5, if_neg a6, if_neg b6, Int32.zero_add]
    rw [hM, e5, e6, if_neg (own_neg l5), if_neg (own_neg l6)]
  · rw [fN7, fRF, if_neg h45, if_pos rfl, if_neg h45]
theorem own_law7 {a b c d f g i r z : Int32} (h1 : Byt a) (h2 : Byt b) (h3 : Byt c) (h4 : Byt d) (h5 : Byt f) (h6 : Byt g) (h7 : Byt i) (hr : r = fRF (7 : Int32) a b c d f g i) (hz : z = if fN7 (nar .char a) (nar .char b) (nar .char c) (nar .char d) (nar .char f) (nar .char g) (nar .char i) = r then (1 : Int32) else (0 : Int32)) : z = (1 : Int32) := by
  rw [h1.2.2, h2.2.2, h3.2.2, h4.2.2, h5.2.2, h6.2.2, h7.2.2, hr, own_eq7, if_pos rfl] at hz
  exact hz
theorem own_lawo {n a b c d f g i r z : Int32} (hn : ¬ n = (7 : Int32)) (hr : r = fRF n a b c d f g i) (hz : z = if (-1 : Int32) = r then (1 : Int32) else (0 : Int32)) : z = (1 : Int32) := by
  rw [fRF, if_neg hn] at hr
  rw [hz, hr, if_pos rfl]
theorem own_eqi {t : Term} {n : Int32} {args : Array Value} {s : State} (h : (Cond.eq t (.int n)).before args s = true) : t.eval args s none [] s = some (.int n) := Jvm.Free.NT.SwA.eq_int h

theorem d1_0 : decode method_3_code 0 = .ok (.iload_n 0, 1) := by decide +kernel
theorem d1_1 : decode method_3_code 1 = .ok (.iload_n 1, 1) := by decide +kernel
theorem d1_2 : decode method_3_code 2 = .ok (.iushr, 1) := by decide +kernel
theorem d1_3 : decode method_3_code 3 = .ok (.sipush 255, 3) := by decide +kernel
theorem d1_6 : decode method_3_code 6 = .ok (.iand, 1) := by decide +kernel
theorem d1_7 : decode method_3_code 7 = .ok (.istore_n 3, 1) := by decide +kernel
theorem d1_8 : decode method_3_code 8 = .ok (.iload_n 2, 1) := by decide +kernel
theorem d1_9 : decode method_3_code 9 = .ok (.iconst 1, 1) := by decide +kernel
theorem d1_10 : decode method_3_code 10 = .ok (.iand, 1) := by decide +kernel
theorem d1_11 : decode method_3_code 11 = .ok (.ifCond .eq 12, 3) := by decide +kernel
theorem d1_23 : decode method_3_code 23 = .ok (.iload_n 3, 1) := by decide +kernel
theorem d1_24 : decode method_3_code 24 = .ok (.i2c, 1) := by decide +kernel
theorem d1_25 : decode method_3_code 25 = .ok (.ireturn, 1) := by decide +kernel
theorem d1_14 : decode method_3_code 14 = .ok (.bipush 48, 2) := by decide +kernel
theorem d1_16 : decode method_3_code 16 = .ok (.iload_n 3, 1) := by decide +kernel
theorem d1_17 : decode method_3_code 17 = .ok (.bipush 10, 2) := by decide +kernel
theorem d1_19 : decode method_3_code 19 = .ok (.irem, 1) := by decide +kernel
theorem d1_20 : decode method_3_code 20 = .ok (.iadd, 1) := by decide +kernel
theorem d1_21 : decode method_3_code 21 = .ok (.i2c, 1) := by decide +kernel
theorem d1_22 : decode method_3_code 22 = .ok (.ireturn, 1) := by decide +kernel
theorem d12_0 : decode method_4_code 0 = .ok (.iload_n 0, 1) := by decide +kernel
theorem d12_1 : decode method_4_code 1 = .ok (.bipush 48, 2) := by decide +kernel
theorem d12_3 : decode method_4_code 3 = .ok (.if_icmp .lt 9, 3) := by decide +kernel
theorem d12_12 : decode method_4_code 12 = .ok (.iconst (-1), 1) := by decide +kernel
theorem d12_13 : decode method_4_code 13 = .ok (.ireturn, 1) := by decide +kernel
theorem d12_6 : decode method_4_code 6 = .ok (.iload_n 0, 1) := by decide +kernel
theorem d12_7 : decode method_4_code 7 = .ok (.bipush 57, 2) := by decide +kernel
theorem d12_9 : decode method_4_code 9 = .ok (.if_icmp .le 5, 3) := by decide +kernel
theorem d12_14 : decode method_4_code 14 = .ok (.iload_n 0, 1) := by decide +kernel
theorem d12_15 : decode method_4_code 15 = .ok (.bipush 48, 2) := by decide +kernel
theorem d12_17 : decode method_4_code 17 = .ok (.isub, 1) := by decide +kernel
theorem d12_18 : decode method_4_code 18 = .ok (.ireturn, 1) := by decide +kernel
theorem d8_0 : decode method_5_code 0 = .ok (.iload_n 0, 1) := by decide +kernel
theorem d8_1 : decode method_5_code 1 = .ok (.bipush 7, 2) := by decide +kernel
theorem d8_3 : decode method_5_code 3 = .ok (.if_icmp .ne 10, 3) := by decide +kernel
theorem d8_6 : decode method_5_code 6 = .ok (.iload 5, 2) := by decide +kernel
theorem d8_8 : decode method_5_code 8 = .ok (.bipush 45, 2) := by decide +kernel
theorem d8_10 : decode method_5_code 10 = .ok (.if_icmp .eq 5, 3) := by decide +kernel
theorem d8_15 : decode method_5_code 15 = .ok (.iload_n 1, 1) := by decide +kernel
theorem d8_16 : decode method_5_code 16 = .ok (.invokestatic 30, 3) := by decide +kernel
theorem d8_19 : decode method_5_code 19 = .ok (.istore 8, 2) := by decide +kernel
theorem d8_21 : decode method_5_code 21 = .ok (.iload_n 2, 1) := by decide +kernel
theorem d8_22 : decode method_5_code 22 = .ok (.invokestatic 30, 3) := by decide +kernel
theorem d8_25 : decode method_5_code 25 = .ok (.istore 9, 2) := by decide +kernel
theorem d8_27 : decode method_5_code 27 = .ok (.iload_n 3, 1) := by decide +kernel
theorem d8_28 : decode method_5_code 28 = .ok (.invokestatic 30, 3) := by decide +kernel
theorem d8_31 : decode method_5_code 31 = .ok (.istore 10, 2) := by decide +kernel
theorem d8_33 : decode method_5_code 33 = .ok (.iload 4, 2) := by decide +kernel
theorem d8_35 : decode method_5_code 35 = .ok (.invokestatic 30, 3) := by decide +kernel
theorem d8_38 : decode method_5_code 38 = .ok (.istore 11, 2) := by decide +kernel
theorem d8_40 : decode method_5_code 40 = .ok (.iload 6, 2) := by decide +kernel
theorem d8_42 : decode method_5_code 42 = .ok (.invokestatic 30, 3) := by decide +kernel
theorem d8_45 : decode method_5_code 45 = .ok (.istore 12, 2) := by decide +kernel
theorem d8_47 : decode method_5_code 47 = .ok (.iload 7, 2) := by decide +kernel
theorem d8_49 : decode method_5_code 49 = .ok (.invokestatic 30, 3) := by decide +kernel
theorem d8_52 : decode method_5_code 52 = .ok (.istore 13, 2) := by decide +kernel
theorem d8_54 : decode method_5_code 54 = .ok (.iload 8, 2) := by decide +kernel
theorem d8_56 : decode method_5_code 56 = .ok (.ifCond .lt 28, 3) := by decide +kernel
theorem d8_84 : decode method_5_code 84 = .ok (.iconst (-1), 1) := by decide +kernel
theorem d8_85 : decode method_5_code 85 = .ok (.ireturn, 1) := by decide +kernel
theorem d8_59 : decode method_5_code 59 = .ok (.iload 9, 2) := by decide +kernel
theorem d8_61 : decode method_5_code 61 = .ok (.ifCond .lt 23, 3) := by decide +kernel
theorem d8_64 : decode method_5_code 64 = .ok (.iload 10, 2) := by decide +kernel
theorem d8_66 : decode method_5_code 66 = .ok (.ifCond .lt 18, 3) := by decide +kernel
theorem d8_69 : decode method_5_code 69 = .ok (.iload 11, 2) := by decide +kernel
theorem d8_71 : decode method_5_code 71 = .ok (.ifCond .lt 13, 3) := by decide +kernel
theorem d8_74 : decode method_5_code 74 = .ok (.iload 12, 2) := by decide +kernel
theorem d8_76 : decode method_5_code 76 = .ok (.ifCond .lt 8, 3) := by decide +kernel
theorem d8_79 : decode method_5_code 79 = .ok (.iload 13, 2) := by decide +kernel
theorem d8_81 : decode method_5_code 81 = .ok (.ifCond .ge 5, 3) := by decide +kernel
theorem d8_86 : decode method_5_code 86 = .ok (.iload 12, 2) := by decide +kernel
theorem d8_88 : decode method_5_code 88 = .ok (.bipush 10, 2) := by decide +kernel
theorem d8_90 : decode method_5_code 90 = .ok (.imul, 1) := by decide +kernel
theorem d8_91 : decode method_5_code 91 = .ok (.iload 13, 2) := by decide +kernel
theorem d8_93 : decode method_5_code 93 = .ok (.iadd, 1) := by decide +kernel
theorem d8_94 : decode method_5_code 94 = .ok (.istore 14, 2) := by decide +kernel
theorem d8_96 : decode method_5_code 96 = .ok (.iload 14, 2) := by decide +kernel
theorem d8_98 : decode method_5_code 98 = .ok (.iconst 1, 1) := by decide +kernel
theorem d8_99 : decode method_5_code 99 = .ok (.if_icmp .lt 10, 3) := by decide +kernel
theorem d8_109 : decode method_5_code 109 = .ok (.iconst (-1), 1) := by decide +kernel
theorem d8_110 : decode method_5_code 110 = .ok (.ireturn, 1) := by decide +kernel
theorem d8_102 : decode method_5_code 102 = .ok (.iload 14, 2) := by decide +kernel
theorem d8_104 : decode method_5_code 104 = .ok (.bipush 12, 2) := by decide +kernel
theorem d8_106 : decode method_5_code 106 = .ok (.if_icmp .le 5, 3) := by decide +kernel
theorem d8_111 : decode method_5_code 111 = .ok (.iload 8, 2) := by decide +kernel
theorem d8_113 : decode method_5_code 113 = .ok (.sipush 1000, 3) := by decide +kernel
theorem d8_116 : decode method_5_code 116 = .ok (.imul, 1) := by decide +kernel
theorem d8_117 : decode method_5_code 117 = .ok (.iload 9, 2) := by decide +kernel
theorem d8_119 : decode method_5_code 119 = .ok (.bipush 100, 2) := by decide +kernel
theorem d8_121 : decode method_5_code 121 = .ok (.imul, 1) := by decide +kernel
theorem d8_122 : decode method_5_code 122 = .ok (.iadd, 1) := by decide +kernel
theorem d8_123 : decode method_5_code 123 = .ok (.iload 10, 2) := by decide +kernel
theorem d8_125 : decode method_5_code 125 = .ok (.bipush 10, 2) := by decide +kernel
theorem d8_127 : decode method_5_code 127 = .ok (.imul, 1) := by decide +kernel
theorem d8_128 : decode method_5_code 128 = .ok (.iadd, 1) := by decide +kernel
theorem d8_129 : decode method_5_code 129 = .ok (.iload 11, 2) := by decide +kernel
theorem d8_131 : decode method_5_code 131 = .ok (.iadd, 1) := by decide +kernel
theorem d8_132 : decode method_5_code 132 = .ok (.istore 15, 2) := by decide +kernel
theorem d8_134 : decode method_5_code 134 = .ok (.iload 15, 2) := by decide +kernel
theorem d8_136 : decode method_5_code 136 = .ok (.bipush 12, 2) := by decide +kernel
theorem d8_138 : decode method_5_code 138 = .ok (.imul, 1) := by decide +kernel
theorem d8_139 : decode method_5_code 139 = .ok (.iload 14, 2) := by decide +kernel
theorem d8_141 : decode method_5_code 141 = .ok (.iadd, 1) := by decide +kernel
theorem d8_142 : decode method_5_code 142 = .ok (.iconst 1, 1) := by decide +kernel
theorem d8_143 : decode method_5_code 143 = .ok (.isub, 1) := by decide +kernel
theorem d8_144 : decode method_5_code 144 = .ok (.ireturn, 1) := by decide +kernel
theorem d8_13 : decode method_5_code 13 = .ok (.iconst (-1), 1) := by decide +kernel
theorem d8_14 : decode method_5_code 14 = .ok (.ireturn, 1) := by decide +kernel
theorem d18_0 : decode prog_1_method_7_code 0 = .ok (.iconst 0, 1) := by decide +kernel
theorem d18_1 : decode prog_1_method_7_code 1 = .ok (.istore_n 3, 1) := by decide +kernel
theorem d18_2 : decode prog_1_method_7_code 2 = .ok (.iload_n 1, 1) := by decide +kernel
theorem d18_3 : decode prog_1_method_7_code 3 = .ok (.istore 4, 2) := by decide +kernel
theorem d18_5 : decode prog_1_method_7_code 5 = .ok (.iload 4, 2) := by decide +kernel
theorem d18_7 : decode prog_1_method_7_code 7 = .ok (.iload_n 2, 1) := by decide +kernel
theorem d18_8 : decode prog_1_method_7_code 8 = .ok (.if_icmp .ge 46, 3) := by decide +kernel
theorem d18_11 : decode prog_1_method_7_code 11 = .ok (.aload_n 0, 1) := by decide +kernel
theorem d18_12 : decode prog_1_method_7_code 12 = .ok (.iload 4, 2) := by decide +kernel
theorem d18_14 : decode prog_1_method_7_code 14 = .ok (.invokeinterface 24 2, 5) := by decide +kernel
theorem d18_19 : decode prog_1_method_7_code 19 = .ok (.istore 5, 2) := by decide +kernel
theorem d18_21 : decode prog_1_method_7_code 21 = .ok (.iload 5, 2) := by decide +kernel
theorem d18_23 : decode prog_1_method_7_code 23 = .ok (.bipush 48, 2) := by decide +kernel
theorem d18_25 : decode prog_1_method_7_code 25 = .ok (.if_icmp .lt 10, 3) := by decide +kernel
theorem d18_35 : decode prog_1_method_7_code 35 = .ok (.iconst (-1), 1) := by decide +kernel
theorem d18_36 : decode prog_1_method_7_code 36 = .ok (.ireturn, 1) := by decide +kernel
theorem d18_28 : decode prog_1_method_7_code 28 = .ok (.iload 5, 2) := by decide +kernel
theorem d18_30 : decode prog_1_method_7_code 30 = .ok (.bipush 57, 2) := by decide +kernel
theorem d18_32 : decode prog_1_method_7_code 32 = .ok (.if_icmp .le 5, 3) := by decide +kernel
theorem d18_37 : decode prog_1_method_7_code 37 = .ok (.iload_n 3, 1) := by decide +kernel
theorem d18_38 : decode prog_1_method_7_code 38 = .ok (.bipush 10, 2) := by decide +kernel
theorem d18_40 : decode prog_1_method_7_code 40 = .ok (.imul, 1) := by decide +kernel
theorem d18_41 : decode prog_1_method_7_code 41 = .ok (.iload 5, 2) := by decide +kernel
theorem d18_43 : decode prog_1_method_7_code 43 = .ok (.bipush 48, 2) := by decide +kernel
theorem d18_45 : decode prog_1_method_7_code 45 = .ok (.isub, 1) := by decide +kernel
theorem d18_46 : decode prog_1_method_7_code 46 = .ok (.iadd, 1) := by decide +kernel
theorem d18_47 : decode prog_1_method_7_code 47 = .ok (.istore_n 3, 1) := by decide +kernel
theorem d18_48 : decode prog_1_method_7_code 48 = .ok (.iinc 4 1, 3) := by decide +kernel
theorem d18_51 : decode prog_1_method_7_code 51 = .ok (.goto (-46), 3) := by decide +kernel
theorem d18_54 : decode prog_1_method_7_code 54 = .ok (.iload_n 3, 1) := by decide +kernel
theorem d18_55 : decode prog_1_method_7_code 55 = .ok (.ireturn, 1) := by decide +kernel
theorem d9_0 : decode prog_1_method_2_code 0 = .ok (.iconst (-1), 1) := by decide +kernel
theorem d9_1 : decode prog_1_method_2_code 1 = .ok (.istore_n 1, 1) := by decide +kernel
theorem d9_2 : decode prog_1_method_2_code 2 = .ok (.aload_n 0, 1) := by decide +kernel
theorem d9_3 : decode prog_1_method_2_code 3 = .ok (.invokeinterface 9 1, 5) := by decide +kernel
theorem d9_8 : decode prog_1_method_2_code 8 = .ok (.ldc 15, 2) := by decide +kernel
theorem d9_10 : decode prog_1_method_2_code 10 = .ok (.invokevirtual 17, 3) := by decide +kernel
theorem d9_13 : decode prog_1_method_2_code 13 = .ok (.if_icmp .ne 66, 3) := by decide +kernel
theorem d9_16 : decode prog_1_method_2_code 16 = .ok (.aload_n 0, 1) := by decide +kernel
theorem d9_17 : decode prog_1_method_2_code 17 = .ok (.getstatic 20, 3) := by decide +kernel
theorem d9_20 : decode prog_1_method_2_code 20 = .ok (.invokeinterface 24 2, 5) := by decide +kernel
theorem d9_25 : decode prog_1_method_2_code 25 = .ok (.bipush 45, 2) := by decide +kernel
theorem d9_27 : decode prog_1_method_2_code 27 = .ok (.if_icmp .ne 52, 3) := by decide +kernel
theorem d9_30 : decode prog_1_method_2_code 30 = .ok (.aload_n 0, 1) := by decide +kernel
theorem d9_31 : decode prog_1_method_2_code 31 = .ok (.iconst 0, 1) := by decide +kernel
theorem d9_32 : decode prog_1_method_2_code 32 = .ok (.getstatic 20, 3) := by decide +kernel
theorem d9_35 : decode prog_1_method_2_code 35 = .ok (.invokestatic 28, 3) := by decide +kernel
theorem d9_38 : decode prog_1_method_2_code 38 = .ok (.istore_n 2, 1) := by decide +kernel
theorem d9_39 : decode prog_1_method_2_code 39 = .ok (.aload_n 0, 1) := by decide +kernel
theorem d9_40 : decode prog_1_method_2_code 40 = .ok (.getstatic 20, 3) := by decide +kernel
theorem d9_43 : decode prog_1_method_2_code 43 = .ok (.iconst 1, 1) := by decide +kernel
theorem d9_44 : decode prog_1_method_2_code 44 = .ok (.iadd, 1) := by decide +kernel
theorem d9_45 : decode prog_1_method_2_code 45 = .ok (.aload_n 0, 1) := by decide +kernel
theorem d9_46 : decode prog_1_method_2_code 46 = .ok (.invokeinterface 9 1, 5) := by decide +kernel
theorem d9_51 : decode prog_1_method_2_code 51 = .ok (.invokestatic 28, 3) := by decide +kernel
theorem d9_54 : decode prog_1_method_2_code 54 = .ok (.istore_n 3, 1) := by decide +kernel
theorem d9_55 : decode prog_1_method_2_code 55 = .ok (.iload_n 2, 1) := by decide +kernel
theorem d9_56 : decode prog_1_method_2_code 56 = .ok (.ifCond .lt 23, 3) := by decide +kernel
theorem d9_79 : decode prog_1_method_2_code 79 = .ok (.iload_n 1, 1) := by decide +kernel
theorem d9_80 : decode prog_1_method_2_code 80 = .ok (.ireturn, 1) := by decide +kernel
theorem d9_59 : decode prog_1_method_2_code 59 = .ok (.iload_n 3, 1) := by decide +kernel
theorem d9_60 : decode prog_1_method_2_code 60 = .ok (.iconst 1, 1) := by decide +kernel
theorem d9_61 : decode prog_1_method_2_code 61 = .ok (.if_icmp .lt 18, 3) := by decide +kernel
theorem d9_64 : decode prog_1_method_2_code 64 = .ok (.iload_n 3, 1) := by decide +kernel
theorem d9_65 : decode prog_1_method_2_code 65 = .ok (.bipush 12, 2) := by decide +kernel
theorem d9_67 : decode prog_1_method_2_code 67 = .ok (.if_icmp .gt 12, 3) := by decide +kernel
theorem d9_70 : decode prog_1_method_2_code 70 = .ok (.iload_n 2, 1) := by decide +kernel
theorem d9_71 : decode prog_1_method_2_code 71 = .ok (.bipush 12, 2) := by decide +kernel
theorem d9_73 : decode prog_1_method_2_code 73 = .ok (.imul, 1) := by decide +kernel
theorem d9_74 : decode prog_1_method_2_code 74 = .ok (.iload_n 3, 1) := by decide +kernel
theorem d9_75 : decode prog_1_method_2_code 75 = .ok (.iadd, 1) := by decide +kernel
theorem d9_76 : decode prog_1_method_2_code 76 = .ok (.iconst 1, 1) := by decide +kernel
theorem d9_77 : decode prog_1_method_2_code 77 = .ok (.isub, 1) := by decide +kernel
theorem d9_78 : decode prog_1_method_2_code 78 = .ok (.istore_n 1, 1) := by decide +kernel
theorem pn_0 : plainName "com/example/reta/reta/calendar/MonthsNumberPinLaw" = true := by first | (simp [plainName, overriddenIn]; done) | decide +kernel
theorem pn_1 : plainName "com/example/reta/reta/calendar/Months" = true := by first | (simp [plainName, overriddenIn]; done) | decide +kernel
theorem pd_0 : parseMethodDescriptor "(C)I" = some ⟨[.char], some .int⟩ := by decide +kernel
theorem pd_1 : parseMethodDescriptor "(I)C" = some ⟨[.int], some .char⟩ := by decide +kernel
theorem pd_2 : parseMethodDescriptor "()I" = some ⟨[], some .int⟩ := by decide +kernel
theorem pd_3 : parseMethodDescriptor "(Ljava/lang/CharSequence;II)I" = some ⟨[(.object "java/lang/CharSequence"), .int, .int], some .int⟩ := by decide +kernel
theorem pd_4 : parseMethodDescriptor "(III)C" = some ⟨[.int, .int, .int], some .char⟩ := by decide +kernel
theorem pd_5 : parseMethodDescriptor "(ICCCCCCC)I" = some ⟨[.int, .char, .char, .char, .char, .char, .char, .char], some .int⟩ := by decide +kernel
theorem pd_6 : parseMethodDescriptor "(Ljava/lang/CharSequence;)I" = some ⟨[(.object "java/lang/CharSequence")], some .int⟩ := by decide +kernel
theorem pd_7 : parseMethodDescriptor "([C)V" = some ⟨[(.array .char)], none⟩ := by decide +kernel
def QPK (Z : State) (p1 : Int32) (p2 : Int32) (p3 : Int32) (h0 : Heap) (n0 : Nat) (v : Option Value) (h : Heap) (L : List Loc) : Prop := v = some (.int (fPK p1 p2 p3)) ∧ Fr n0 L ∧ h = h0
theorem ef_PK (m : MethodId) (p1 : Int32) (p2 : Int32) (p3 : Int32) : entryFrame m #[(.int p1), (.int p2), (.int p3)] 4 = mkF m 0 #[.val (.int p1), .val (.int p2), .val (.int p3), .unset] [] := by first | (simp [entryFrame, mkF, argsToLocals, Value.category]; done) | rfl
set_option maxRecDepth 65536 in
set_option maxHeartbeats 40000000 in
theorem rmPK (l : Launch) (Z : State) (a0 : Array Value) (hw : ∀ d ∈ tables_1, d.before a0 Z = true) (ws : List Jvm.Cond) (p1 : Int32) (p2 : Int32) (p3 : Int32) (h0 : Heap) (n0 : Nat) (Zs : n0 ≤ h0.size)  :
    MetFree l (⟨"com/example/reta/reta/calendar/MonthsNumberPinLaw", "pick", "(III)C"⟩ : MethodName) (head1 (Jvm.Cond.code (⟨"com/example/reta/reta/calendar/MonthsNumberPinLaw", "pick", "(III)C"⟩ : MethodName) method_3_code 4 (some .char) :: ws) ({ frames := 0, cells := 0, slots := 0, locals := 0 } : Room)) (fun a U => a = #[(.int p1), (.int p2), (.int p3)] ∧ Z.Warmed39 U.vm ∧ U.heap = h0) (fun _ _ _ _ _ => True) (fun _ U o U' => ∃ v L, o = .returned v ∧ QPK Z p1 p2 p3 h0 n0 v U'.heap L ∧ FrameEnd U o U' L ({ frames := 0, cells := 0, slots := 0, locals := 0 } : Room).cells ({ frames := 0, cells := 0, slots := 0, locals := 0 } : Room).slots) := by
  refine MetFree.of_bodySF (plainFor_of_name pn_0) hisR ?_
  intro p e s m args below meth c s₁ Bd hml0 hP hK
  obtain ⟨rfl, hZ, hh⟩ := hP
  have hx := Bd.exec
  have hby := Bd.bytes
  have hml : c.maxLocals = 4 := hml0
  have hown : s.vm.findClass "com/example/reta/reta/calendar/MonthsNumberPinLaw" = some m.cls := findClass_of_methodNamed Bd.named
  have hnm := (name_of_methodNamed Bd.named Bd.method).1
  have X0 : Stand p l e ({ frames := 0, cells := 0, slots := 0, locals := 0 } : Room) s m #[(.int p1), (.int p2), (.int p3)] below meth c s₁ [] 0 0 := Stand.of_body Bd
  have e0 : s₁.heap = h0 := by rw [← hh, Bd.state]; rfl
  have N0 := Fr.nil n0
  have pre0 : ∀ t, Steps p.tables e below (s₁.setTop (mkF m 0 #[.val (.int p1), .val (.int p2), .val (.int p3), .unset] [])) t → Steps p.tables e below (s₁.setTop (entryFrame m #[(.int p1), (.int p2), (.int p3)] 4)) t := fun t k => castTop (ef_PK m p1 p2 p3) k
  have pre1 : ∀ t, Steps p.tables e below (s₁.setTop (mkF m 11 #[.val (.int p1), .val (.int p2), .val (.int p3), .val (.int (((p1.toUInt32 >>> (p2 &&& 31).toUInt32).toInt32) &&& (255 : Int32)))] [(.int (p3 &&& (1 : Int32)))])) t → Steps p.tables e below (s₁.setTop (entryFrame m #[(.int p1), (.int p2), (.int p3)] 4)) t := fun t k => pre0 t (by
    show Steps p.tables e below (s₁.setTop (mkF m 0 #[.val (.int p1), .val (.int p2), .val (.int p3), .unset] [])) _
    refine XS.iloadN X0.here hx rfl (hb hby d1_0) rfl ?_
    show Steps p.tables e below (s₁.setTop (mkF m 1 #[.val (.int p1), .val (.int p2), .val (.int p3), .unset] [(.int p1)])) _
    refine XS.iloadN X0.here hx rfl (hb hby d1_1) rfl ?_
    show Steps p.tables e below (s₁.setTop (mkF m 2 #[.val (.int p1), .val (.int p2), .val (.int p3), .unset] [(.int p2), (.int p1)])) _
    refine XS.iushr X0.here hx rfl (hb hby d1_2) rfl ?_
    show Steps p.tables e below (s₁.setTop (mkF m 3 #[.val (.int p1), .val (.int p2), .val (.int p3), .unset] [(.int ((p1.toUInt32 >>> (p2 &&& 31).toUInt32).toInt32))])) _
    refine XS.sipush X0.here hx rfl (hb hby d1_3) ?_
    show Steps p.tables e below (s₁.setTop (mkF m 6 #[.val (.int p1), .val (.int p2), .val (.int p3), .unset] [(.int (255 : Int32)), (.int ((p1.toUInt32 >>> (p2 &&& 31).toUInt32).toInt32))])) _
    refine XS.iand X0.here hx rfl (hb hby d1_6) rfl ?_
    show Steps p.tables e below (s₁.setTop (mkF m 7 #[.val (.int p1), .val (.int p2), .val (.int p3), .unset] [(.int (((p1.toUInt32 >>> (p2 &&& 31).toUInt32).toInt32) &&& (255 : Int32)))])) _
    refine XS.istoreN X0.here hx rfl (hb hby d1_7) rfl (l' := #[.val (.int p1), .val (.int p2), .val (.int p3), .val (.int (((p1.toUInt32 >>> (p2 &&& 31).toUInt32).toInt32) &&& (255 : Int32)))]) rfl ?_
    show Steps p.tables e below (s₁.setTop (mkF m 8 #[.val (.int p1), .val (.int p2), .val (.int p3), .val (.int (((p1.toUInt32 >>> (p2 &&& 31).toUInt32).toInt32) &&& (255 : Int32)))] [])) _
    refine XS.iloadN X0.here hx rfl (hb hby d1_8) rfl ?_
    show Steps p.tables e below (s₁.setTop (mkF m 9 #[.val (.int p1), .val (.int p2), .val (.int p3), .val (.int (((p1.toUInt32 >>> (p2 &&& 31).toUInt32).toInt32) &&& (255 : Int32)))] [(.int p3)])) _
    refine XS.iconst X0.here hx rfl (hb hby d1_9) ?_
    show Steps p.tables e below (s₁.setTop (mkF m 10 #[.val (.int p1), .val (.int p2), .val (.int p3), .val (.int (((p1.toUInt32 >>> (p2 &&& 31).toUInt32).toInt32) &&& (255 : Int32)))] [(.int (1 : Int32)), (.int p3)])) _
    refine XS.iand X0.here hx rfl (hb hby d1_10) rfl ?_
    exact k)
  by_cases hc11 : (p3 &&& (1 : Int32)) = (0 : Int32)
  ·
    obtain ⟨fs, hr, hrun, hended, hW, hsame⟩ := X0.leave (v := some (.int (nar .char ((((p1.toUInt32 >>> (p2 &&& 31).toUInt32).toInt32) &&& (255 : Int32)).toUInt32.toUInt16.toUInt32.toInt32)))) (fun h => by rw [Bd.returns] at h; cases h)
    refine ⟨_, _, pre1 _ ?_, hrun, hended, _, _, rfl, ?_, ⟨_, rfl⟩, hW, hsame.mono (by decide) (by decide)⟩
    · show Steps p.tables e below (s₁.setTop (mkF m 11 #[.val (.int p1), .val (.int p2), .val (.int p3), .val (.int (((p1.toUInt32 >>> (p2 &&& 31).toUInt32).toInt32) &&& (255 : Int32)))] [(.int (p3 &&& (1 : Int32)))])) _
      refine XS.ifYes X0.here hx rfl (pc0 := 11) (pc' := 23) rfl (hb hby d1_11) rfl ((if0 _ _).trans (teq hc11).1) (by decide) (by decide) ?_
      show Steps p.tables e below (s₁.setTop (mkF m 23 #[.val (.int p1), .val (.int p2), .val (.int p3), .val (.int (((p1.toUInt32 >>> (p2 &&& 31).toUInt32).toInt32) &&& (255 : Int32)))] [])) _
      refine XS.iloadN X0.here hx rfl (hb hby d1_23) rfl ?_
      show Steps p.tables e below (s₁.setTop (mkF m 24 #[.val (.int p1), .val (.int p2), .val (.int p3), .val (.int (((p1.toUInt32 >>> (p2 &&& 31).toUInt32).toInt32) &&& (255 : Int32)))] [(.int (((p1.toUInt32 >>> (p2 &&& 31).toUInt32).toInt32) &&& (255 : Int32)))])) _
      refine XS.i2c X0.here hx rfl (hb hby d1_24) rfl ?_
      show Steps p.tables e below (s₁.setTop (mkF m 25 #[.val (.int p1), .val (.int p2), .val (.int p3), .val (.int (((p1.toUInt32 >>> (p2 &&& 31).toUInt32).toInt32) &&& (255 : Int32)))] [(.int ((((p1.toUInt32 >>> (p2 &&& 31).toUInt32).toInt32) &&& (255 : Int32)).toUInt32.toUInt16.toUInt32.toInt32))])) _
      exact retN X0 hx (t := .char) Bd.returns (by simp) (hb hby d1_25) hr
    · show QPK Z p1 p2 p3 h0 n0 _ s₁.heap _
      rw [e0]
      exact ⟨congrArg some (congrArg Value.int (show nar .char ((((p1.toUInt32 >>> (p2 &&& 31).toUInt32).toInt32) &&& (255 : Int32)).toUInt32.toUInt16.toUInt32.toInt32) = (fPK p1 p2 p3) from by rw [fPK, if_pos hc11]; exact own_nar _)), N0, rfl⟩
  ·
    obtain ⟨fs, hr, hrun, hended, hW, hsame⟩ := X0.leave (v := some (.int (nar .char (((48 : Int32) + ((((p1.toUInt32 >>> (p2 &&& 31).toUInt32).toInt32) &&& (255 : Int32)) % (10 : Int32))).toUInt32.toUInt16.toUInt32.toInt32)))) (fun h => by rw [Bd.returns] at h; cases h)
    refine ⟨_, _, pre1 _ ?_, hrun, hended, _, _, rfl, ?_, ⟨_, rfl⟩, hW, hsame.mono (by decide) (by decide)⟩
    · show Steps p.tables e below (s₁.setTop (mkF m 11 #[.val (.int p1), .val (.int p2), .val (.int p3), .val (.int (((p1.toUInt32 >>> (p2 &&& 31).toUInt32).toInt32) &&& (255 : Int32)))] [(.int (p3 &&& (1 : Int32)))])) _
      refine XS.ifNo X0.here hx rfl (hb hby d1_11) rfl ((if0 _ _).trans (feq hc11).1) ?_
      show Steps p.tables e below (s₁.setTop (mkF m 14 #[.val (.int p1), .val (.int p2), .val (.int p3), .val (.int (((p1.toUInt32 >>> (p2 &&& 31).toUInt32).toInt32) &&& (255 : Int32)))] [])) _
      refine XS.bipush X0.here hx rfl (hb hby d1_14) ?_
      show Steps p.tables e below (s₁.setTop (mkF m 16 #[.val (.int p1), .val (.int p2), .val (.int p3), .val (.int (((p1.toUInt32 >>> (p2 &&& 31).toUInt32).toInt32) &&& (255 : Int32)))] [(.int (48 : Int32))])) _
      refine XS.iloadN X0.here hx rfl (hb hby d1_16) rfl ?_
      show Steps p.tables e below (s₁.setTop (mkF m 17 #[.val (.int p1), .val (.int p2), .val (.int p3), .val (.int (((p1.toUInt32 >>> (p2 &&& 31).toUInt32).toInt32) &&& (255 : Int32)))] [(.int (((p1.toUInt32 >>> (p2 &&& 31).toUInt32).toInt32) &&& (255 : Int32))), (.int (48 : Int32))])) _
      refine XS.bipush X0.here hx rfl (hb hby d1_17) ?_
      show Steps p.tables e below (s₁.setTop (mkF m 19 #[.val (.int p1), .val (.int p2), .val (.int p3), .val (.int (((p1.toUInt32 >>> (p2 &&& 31).toUInt32).toInt32) &&& (255 : Int32)))] [(.int (10 : Int32)), (.int (((p1.toUInt32 >>> (p2 &&& 31).toUInt32).toInt32) &&& (255 : Int32))), (.int (48 : Int32))])) _
      refine iremM X0 hx rfl (hb hby d1_19) rfl (by decide) ?_
      show Steps p.tables e below (s₁.setTop (mkF m 20 #[.val (.int p1), .val (.int p2), .val (.int p3), .val (.int (((p1.toUInt32 >>> (p2 &&& 31).toUInt32).toInt32) &&& (255 : Int32)))] [(.int ((((p1.toUInt32 >>> (p2 &&& 31).toUInt32).toInt32) &&& (255 : Int32)) % (10 : Int32))), (.int (48 : Int32))])) _
      refine XS.iadd X0.here hx rfl (hb hby d1_20) rfl ?_
      show Steps p.tables e below (s₁.setTop (mkF m 21 #[.val (.int p1), .val (.int p2), .val (.int p3), .val (.int (((p1.toUInt32 >>> (p2 &&& 31).toUInt32).toInt32) &&& (255 : Int32)))] [(.int ((48 : Int32) + ((((p1.toUInt32 >>> (p2 &&& 31).toUInt32).toInt32) &&& (255 : Int32)) % (10 : Int32))))])) _
      refine XS.i2c X0.here hx rfl (hb hby d1_21) rfl ?_
      show Steps p.tables e below (s₁.setTop (mkF m 22 #[.val (.int p1), .val (.int p2), .val (.int p3), .val (.int (((p1.toUInt32 >>> (p2 &&& 31).toUInt32).toInt32) &&& (255 : Int32)))] [(.int (((48 : Int32) + ((((p1.toUInt32 >>> (p2 &&& 31).toUInt32).toInt32) &&& (255 : Int32)) % (10 : Int32))).toUInt32.toUInt16.toUInt32.toInt32))])) _
      exact retN X0 hx (t := .char) Bd.returns (by simp) (hb hby d1_22) hr
    · show QPK Z p1 p2 p3 h0 n0 _ s₁.heap _
      rw [e0]
      exact ⟨congrArg some (congrArg Value.int (show nar .char (((48 : Int32) + ((((p1.toUInt32 >>> (p2 &&& 31).toUInt32).toInt32) &&& (255 : Int32)) % (10 : Int32))).toUInt32.toUInt16.toUInt32.toInt32) = (fPK p1 p2 p3) from by rw [fPK, if_neg hc11]; exact own_nar _)), N0, rfl⟩
def QDG (Z : State) (p1 : Int32) (h0 : Heap) (n0 : Nat) (v : Option Value) (h : Heap) (L : List Loc) : Prop := v = some (.int (fDG p1)) ∧ Fr n0 L ∧ h = h0
theorem ef_DG (m : MethodId) (p1 : Int32) : entryFrame m #[(.int p1)] 1 = mkF m 0 #[.val (.int p1)] [] := by first | (simp [entryFrame, mkF, argsToLocals, Value.category]; done) | rfl
set_option maxRecDepth 65536 in
set_option maxHeartbeats 40000000 in
theorem rmDG (l : Launch) (Z : State) (a0 : Array Value) (hw : ∀ d ∈ tables_1, d.before a0 Z = true) (ws : List Jvm.Cond) (p1 : Int32) (h0 : Heap) (n0 : Nat) (Zs : n0 ≤ h0.size)  :
    MetFree l (⟨"com/example/reta/reta/calendar/MonthsNumberPinLaw", "dig", "(C)I"⟩ : MethodName) (head1 (Jvm.Cond.code (⟨"com/example/reta/reta/calendar/MonthsNumberPinLaw", "dig", "(C)I"⟩ : MethodName) method_4_code 1 (some .int) :: ws) ({ frames := 0, cells := 0, slots := 0, locals := 0 } : Room)) (fun a U => a = #[(.int p1)] ∧ Z.Warmed39 U.vm ∧ U.heap = h0) (fun _ _ _ _ _ => True) (fun _ U o U' => ∃ v L, o = .returned v ∧ QDG Z p1 h0 n0 v U'.heap L ∧ FrameEnd U o U' L ({ frames := 0, cells := 0, slots := 0, locals := 0 } : Room).cells ({ frames := 0, cells := 0, slots := 0, locals := 0 } : Room).slots) := by
  refine MetFree.of_bodySF (plainFor_of_name pn_0) hisR ?_
  intro p e s m args below meth c s₁ Bd hml0 hP hK
  obtain ⟨rfl, hZ, hh⟩ := hP
  have hx := Bd.exec
  have hby := Bd.bytes
  have hml : c.maxLocals = 1 := hml0
  have hown : s.vm.findClass "com/example/reta/reta/calendar/MonthsNumberPinLaw" = some m.cls := findClass_of_methodNamed Bd.named
  have hnm := (name_of_methodNamed Bd.named Bd.method).1
  have X0 : Stand p l e ({ frames := 0, cells := 0, slots := 0, locals := 0 } : Room) s m #[(.int p1)] below meth c s₁ [] 0 0 := Stand.of_body Bd
  have e0 : s₁.heap = h0 := by rw [← hh, Bd.state]; rfl
  have N0 := Fr.nil n0
  have pre0 : ∀ t, Steps p.tables e below (s₁.setTop (mkF m 0 #[.val (.int p1)] [])) t → Steps p.tables e below (s₁.setTop (entryFrame m #[(.int p1)] 1)) t := fun t k => castTop (ef_DG m p1) k
  have pre2 : ∀ t, Steps p.tables e below (s₁.setTop (mkF m 3 #[.val (.int p1)] [(.int (48 : Int32)), (.int p1)])) t → Steps p.tables e below (s₁.setTop (entryFrame m #[(.int p1)] 1)) t := fun t k => pre0 t (by
    show Steps p.tables e below (s₁.setTop (mkF m 0 #[.val (.int p1)] [])) _
    refine XS.iloadN X0.here hx rfl (hb hby d12_0) rfl ?_
    show Steps p.tables e below (s₁.setTop (mkF m 1 #[.val (.int p1)] [(.int p1)])) _
    refine XS.bipush X0.here hx rfl (hb hby d12_1) ?_
    exact k)
  by_cases hc3 : p1 < (48 : Int32)
  ·
    obtain ⟨fs, hr, hrun, hended, hW, hsame⟩ := X0.leave (v := some (.int (-1 : Int32))) (fun h => by rw [Bd.returns] at h; cases h)
    refine ⟨_, _, pre2 _ ?_, hrun, hended, _, _, rfl, ?_, ⟨_, rfl⟩, hW, hsame.mono (by decide) (by decide)⟩
    · show Steps p.tables e below (s₁.setTop (mkF m 3 #[.val (.int p1)] [(.int (48 : Int32)), (.int p1)])) _
      refine XS.icmpYes X0.here hx rfl (pc0 := 3) (pc' := 12) rfl (hb hby d12_3) rfl (tlt hc3).1 (by decide) (by decide) ?_
      show Steps p.tables e below (s₁.setTop (mkF m 12 #[.val (.int p1)] [])) _
      refine XS.iconst X0.here hx rfl (hb hby d12_12) ?_
      show Steps p.tables e below (s₁.setTop (mkF m 13 #[.val (.int p1)] [(.int (-1 : Int32))])) _
      exact retI X0 hx Bd.returns (hb hby d12_13) hr
    · show QDG Z p1 h0 n0 _ s₁.heap _
      rw [e0]
      exact ⟨congrArg some (congrArg Value.int (show (-1 : Int32) = (fDG p1) from by rw [fDG, if_pos hc3])), N0, rfl⟩
  ·
    have pre3 : ∀ t, Steps p.tables e below (s₁.setTop (mkF m 9 #[.val (.int p1)] [(.int (57 : Int32)), (.int p1)])) t → Steps p.tables e below (s₁.setTop (entryFrame m #[(.int p1)] 1)) t := fun t k => pre2 t (by
      show Steps p.tables e below (s₁.setTop (mkF m 3 #[.val (.int p1)] [(.int (48 : Int32)), (.int p1)])) _
      refine XS.icmpNo X0.here hx rfl (hb hby d12_3) rfl (flt hc3).1 ?_
      show Steps p.tables e below (s₁.setTop (mkF m 6 #[.val (.int p1)] [])) _
      refine XS.iloadN X0.here hx rfl (hb hby d12_6) rfl ?_
      show Steps p.tables e below (s₁.setTop (mkF m 7 #[.val (.int p1)] [(.int p1)])) _
      refine XS.bipush X0.here hx rfl (hb hby d12_7) ?_
      exact k)
    by_cases hc9 : (57 : Int32) < p1
    ·
      obtain ⟨fs, hr, hrun, hended, hW, hsame⟩ := X0.leave (v := some (.int (-1 : Int32))) (fun h => by rw [Bd.returns] at h; cases h)
      refine ⟨_, _, pre3 _ ?_, hrun, hended, _, _, rfl, ?_, ⟨_, rfl⟩, hW, hsame.mono (by decide) (by decide)⟩
      · show Steps p.tables e below (s₁.setTop (mkF m 9 #[.val (.int p1)] [(.int (57 : Int32)), (.int p1)])) _
        refine XS.icmpNo X0.here hx rfl (hb hby d12_9) rfl (tlt hc9).2.2.2 ?_
        show Steps p.tables e below (s₁.setTop (mkF m 12 #[.val (.int p1)] [])) _
        refine XS.iconst X0.here hx rfl (hb hby d12_12) ?_
        show Steps p.tables e below (s₁.setTop (mkF m 13 #[.val (.int p1)] [(.int (-1 : Int32))])) _
        exact retI X0 hx Bd.returns (hb hby d12_13) hr
      · show QDG Z p1 h0 n0 _ s₁.heap _
        rw [e0]
        exact ⟨congrArg some (congrArg Value.int (show (-1 : Int32) = (fDG p1) from by rw [fDG, if_neg hc3, if_pos hc9])), N0, rfl⟩
    ·
      obtain ⟨fs, hr, hrun, hended, hW, hsame⟩ := X0.leave (v := some (.int (p1 - (48 : Int32)))) (fun h => by rw [Bd.returns] at h; cases h)
      refine ⟨_, _, pre3 _ ?_, hrun, hended, _, _, rfl, ?_, ⟨_, rfl⟩, hW, hsame.mono (by decide) (by decide)⟩
      · show Steps p.tables e below (s₁.setTop (mkF m 9 #[.val (.int p1)] [(.int (57 : Int32)), (.int p1)])) _
        refine XS.icmpYes X0.here hx rfl (pc0 := 9) (pc' := 14) rfl (hb hby d12_9) rfl (flt hc9).2.2.2 (by decide) (by decide) ?_
        show Steps p.tables e below (s₁.setTop (mkF m 14 #[.val (.int p1)] [])) _
        refine XS.iloadN X0.here hx rfl (hb hby d12_14) rfl ?_
        show Steps p.tables e below (s₁.setTop (mkF m 15 #[.val (.int p1)] [(.int p1)])) _
        refine XS.bipush X0.here hx rfl (hb hby d12_15) ?_
        show Steps p.tables e below (s₁.setTop (mkF m 17 #[.val (.int p1)] [(.int (48 : Int32)), (.int p1)])) _
        refine XS.isub X0.here hx rfl (hb hby d12_17) rfl ?_
        show Steps p.tables e below (s₁.setTop (mkF m 18 #[.val (.int p1)] [(.int (p1 - (48 : Int32)))])) _
        exact retI X0 hx Bd.returns (hb hby d12_18) hr
      · show QDG Z p1 h0 n0 _ s₁.heap _
        rw [e0]
        exact ⟨congrArg some (congrArg Value.int (show (p1 - (48 : Int32)) = (fDG p1) from by rw [fDG, if_neg hc3, if_neg hc9])), N0, rfl⟩
def QRF (Z : State) (p1 : Int32) (p2 : Int32) (p3 : Int32) (p4 : Int32) (p5 : Int32) (p6 : Int32) (p7 : Int32) (p8 : Int32) (h0 : Heap) (n0 : Nat) (v : Option Value) (h : Heap) (L : List Loc) : Prop := v = some (.int (fRF p1 p2 p3 p4 p5 p6 p7 p8)) ∧ Fr n0 L ∧ h = h0
theorem ef_RF (m : MethodId) (p1 : Int32) (p2 : Int32) (p3 : Int32) (p4 : Int32) (p5 : Int32) (p6 : Int32) (p7 : Int32) (p8 : Int32) : entryFrame m #[(.int p1), (.int p2), (.int p3), (.int p4), (.int p5), (.int p6), (.int p7), (.int p8)] 16 = mkF m 0 #[.val (.int p1), .val (.int p2), .val (.int p3), .val (.int p4), .val (.int p5), .val (.int p6), .val (.int p7), .val (.int p8), .unset, .unset, .unset, .unset, .unset, .unset, .unset, .unset] [] := by first | (simp [entryFrame, mkF, argsToLocals, Value.category]; done) | rfl
set_option maxRecDepth 65536 in
set_option maxHeartbeats 40000000 in
theorem rmRF (l : Launch) (Z : State) (a0 : Array Value) (hw : ∀ d ∈ tables_1, d.before a0 Z = true) (ws : List Jvm.Cond) (p1 : Int32) (p2 : Int32) (p3 : Int32) (p4 : Int32) (p5 : Int32) (p6 : Int32) (p7 : Int32) (p8 : Int32) (h0 : Heap) (n0 : Nat) (Zs : n0 ≤ h0.size)  :
    MetFree l (⟨"com/example/reta/reta/calendar/MonthsNumberPinLaw", "reference", "(ICCCCCCC)I"⟩ : MethodName) (head1 (Jvm.Cond.code (⟨"com/example/reta/reta/calendar/MonthsNumberPinLaw", "reference", "(ICCCCCCC)I"⟩ : MethodName) method_5_code 16 (some .int) :: ws) ({ frames := 1, cells := 0, slots := 0, locals := 12 } : Room)) (fun a U => a = #[(.int p1), (.int p2), (.int p3), (.int p4), (.int p5), (.int p6), (.int p7), (.int p8)] ∧ Z.Warmed39 U.vm ∧ U.heap = h0) (fun _ _ _ _ _ => True) (fun _ U o U' => ∃ v L, o = .returned v ∧ QRF Z p1 p2 p3 p4 p5 p6 p7 p8 h0 n0 v U'.heap L ∧ FrameEnd U o U' L ({ frames := 1, cells := 0, slots := 0, locals := 12 } : Room).cells ({ frames := 1, cells := 0, slots := 0, locals := 12 } : Room).slots) := by
  refine MetFree.of_bodySF (plainFor_of_name pn_0) hisR ?_
  intro p e s m args below meth c s₁ Bd hml0 hP hK
  obtain ⟨rfl, hZ, hh⟩ := hP
  have hx := Bd.exec
  have hby := Bd.bytes
  have hml : c.maxLocals = 16 := hml0
  have hown : s.vm.findClass "com/example/reta/reta/calendar/MonthsNumberPinLaw" = some m.cls := findClass_of_methodNamed Bd.named
  have hnm := (name_of_methodNamed Bd.named Bd.method).1
  have X0 : Stand p l e ({ frames := 1, cells := 0, slots := 0, locals := 12 } : Room) s m #[(.int p1), (.int p2), (.int p3), (.int p4), (.int p5), (.int p6), (.int p7), (.int p8)] below meth c s₁ [] 0 0 := Stand.of_body Bd
  have e0 : s₁.heap = h0 := by rw [← hh, Bd.state]; rfl
  have N0 := Fr.nil n0
  have pre0 : ∀ t, Steps p.tables e below (s₁.setTop (mkF m 0 #[.val (.int p1), .val (.int p2), .val (.int p3), .val (.int p4), .val (.int p5), .val (.int p6), .val (.int p7), .val (.int p8), .unset, .unset, .unset, .unset, .unset, .unset, .unset, .unset] [])) t → Steps p.tables e below (s₁.setTop (entryFrame m #[(.int p1), (.int p2), (.int p3), (.int p4), (.int p5), (.int p6), (.int p7), (.int p8)] 16)) t := fun t k => castTop (ef_RF m p1 p2 p3 p4 p5 p6 p7 p8) k
  have pre4 : ∀ t, Steps p.tables e below (s₁.setTop (mkF m 3 #[.val (.int p1), .val (.int p2), .val (.int p3), .val (.int p4), .val (.int p5), .val (.int p6), .val (.int p7), .val (.int p8), .unset, .unset, .unset, .unset, .unset, .unset, .unset, .unset] [(.int (7 : Int32)), (.int p1)])) t → Steps p.tables e below (s₁.setTop (entryFrame m #[(.int p1), (.int p2), (.int p3), (.int p4), (.int p5), (.int p6), (.int p7), (.int p8)] 16)) t := fun t k => pre0 t (by
    show Steps p.tables e below (s₁.setTop (mkF m 0 #[.val (.int p1), .val (.int p2), .val (.int p3), .val (.int p4), .val (.int p5), .val (.int p6), .val (.int p7), .val (.int p8), .unset, .unset, .unset, .unset, .unset, .unset, .unset, .unset] [])) _
    refine XS.iloadN X0.here hx rfl (hb hby d8_0) rfl ?_
    show Steps p.tables e below (s₁.setTop (mkF m 1 #[.val (.int p1), .val (.int p2), .val (.int p3), .val (.int p4), .val (.int p5), .val (.int p6), .val (.int p7), .val (.int p8), .unset, .unset, .unset, .unset, .unset, .unset, .unset, .unset] [(.int p1)])) _
    refine XS.bipush X0.here hx rfl (hb hby d8_1) ?_
    exact k)
  by_cases hc3 : p1 = (7 : Int32)
  ·
    have pre5 : ∀ t, Steps p.tables e below (s₁.setTop (mkF m 10 #[.val (.int p1), .val (.int p2), .val (.int p3), .val (.int p4), .val (.int p5), .val (.int p6), .val (.int p7), .val (.int p8), .unset, .unset, .unset, .unset, .unset, .unset, .unset, .unset] [(.int (45 : Int32)), (.int p6)])) t → Steps p.tables e below (s₁.setTop (entryFrame m #[(.int p1), (.int p2), (.int p3), (.int p4), (.int p5), (.int p6), (.int p7), (.int p8)] 16)) t := fun t k => pre4 t (by
      show Steps p.tables e below (s₁.setTop (mkF m 3 #[.val (.int p1), .val (.int p2), .val (.int p3), .val (.int p4), .val (.int p5), .val (.int p6), .val (.int p7), .val (.int p8), .unset, .unset, .unset, .unset, .unset, .unset, .unset, .unset] [(.int (7 : Int32)), (.int p1)])) _
      refine XS.icmpNo X0.here hx rfl (hb hby d8_3) rfl (teq hc3).2 ?_
      show Steps p.tables e below (s₁.setTop (mkF m 6 #[.val (.int p1), .val (.int p2), .val (.int p3), .val (.int p4), .val (.int p5), .val (.int p6), .val (.int p7), .val (.int p8), .unset, .unset, .unset, .unset, .unset, .unset, .unset, .unset] [])) _
      refine XS.iload X0.here hx rfl (hb hby d8_6) rfl ?_
      show Steps p.tables e below (s₁.setTop (mkF m 8 #[.val (.int p1), .val (.int p2), .val (.int p3), .val (.int p4), .val (.int p5), .val (.int p6), .val (.int p7), .val (.int p8), .unset, .unset, .unset, .unset, .unset, .unset, .unset, .unset] [(.int p6)])) _
      refine XS.bipush X0.here hx rfl (hb hby d8_8) ?_
      exact k)
    by_cases hc10 : p6 = (45 : Int32)
    ·
      obtain ⟨_, _, ⟨T6, L6, k6, n6⟩, -, X6, ⟨Lc6, hQ6, l6, y6, z6⟩, st6⟩ := Jvm.LawKit.callS X0 hx (y := (⟨"com/example/reta/reta/calendar/MonthsNumberPinLaw", "dig", "(C)I"⟩ : MethodName)) hown (mvT hZ (hw _ (List.mem_of_getElem? (i := 62) rfl))) (mvT hZ (hw _ (List.mem_of_getElem? (i := 63) rfl))) (mvT hZ (hw _ (List.mem_of_getElem? (i := 2) rfl))) (mvT hZ (hw _ (List.mem_of_getElem? (i := 64) rfl))) (by decide) (backOf (W := 0) (rmDG l Z a0 hw [] p2 h0 n0 Zs ) hZ (hw _ (List.mem_of_getElem? (i := 64) rfl)) (hw _ (List.mem_of_getElem? (i := 2) rfl)) (by decide) (by decide)) (g := (mkF m 16 #[.val (.int p1), .val (.int p2), .val (.int p3), .val (.int p4), .val (.int p5), .val (.int p6), .val (.int p7), .val (.int p8), .unset, .unset, .unset, .unset, .unset, .unset, .unset, .unset] [(.int p2)])) rfl (by rw [hml]; rfl) (argsL := [(.int p2)]) (rest := []) (lenOf pd_0 rfl) rfl (by show 2 * 0 + _ ≤ _; exact Nat.le_of_eq rfl) (hb hby d8_16) (fun _ _ => ⟨rfl, e0, (by decide : 0 + 0 ≤ _), (by decide : 0 + 0 ≤ _)⟩)
      dsimp only [Pt.U, Pt.locs, Pt.cells, Pt.slots] at X6 l6 y6 z6 st6 hQ6
      subst l6 y6 z6
      obtain ⟨rfl, N6q, e6⟩ := hQ6
      have N6 := Fr.app N0 N6q
      obtain ⟨_, _, ⟨T7, L7, k7, n7⟩, -, X7, ⟨Lc7, hQ7, l7, y7, z7⟩, st7⟩ := Jvm.LawKit.callS X6 hx (y := (⟨"com/example/reta/reta/calendar/MonthsNumberPinLaw", "dig", "(C)I"⟩ : MethodName)) hown (mvT hZ (hw _ (List.mem_of_getElem? (i := 62) rfl))) (mvT hZ (hw _ (List.mem_of_getElem? (i := 63) rfl))) (mvT hZ (hw _ (List.mem_of_getElem? (i := 2) rfl))) (mvT hZ (hw _ (List.mem_of_getElem? (i := 64) rfl))) (by decide) (backOf (W := 0) (rmDG l Z a0 hw [] p3 h0 n0 Zs ) hZ (hw _ (List.mem_of_getElem? (i := 64) rfl)) (hw _ (List.mem_of_getElem? (i := 2) rfl)) (by decide) (by decide)) (g := (mkF m 22 #[.val (.int p1), .val (.int p2), .val (.int p3), .val (.int p4), .val (.int p5), .val (.int p6), .val (.int p7), .val (.int p8), .val (.int (fDG p2)), .unset, .unset, .unset, .unset, .unset, .unset, .unset] [(.int p3)])) rfl (by rw [hml]; rfl) (argsL := [(.int p3)]) (rest := []) (lenOf pd_0 rfl) rfl (by show 2 * 0 + _ ≤ _; exact Nat.le_of_eq rfl) (hb hby d8_22) (fun _ _ => ⟨rfl, e6, (by decide : 0 + 0 ≤ _), (by decide : 0 + 0 ≤ _)⟩)
      dsimp only [Pt.U, Pt.locs, Pt.cells, Pt.slots] at X7 l7 y7 z7 st7 hQ7
      subst l7 y7 z7
      obtain ⟨rfl, N7q, e7⟩ := hQ7
      have N7 := Fr.app N6 N7q
      obtain ⟨_, _, ⟨T8, L8, k8, n8⟩, -, X8, ⟨Lc8, hQ8, l8, y8, z8⟩, st8⟩ := Jvm.LawKit.callS X7 hx (y := (⟨"com/example/reta/reta/calendar/MonthsNumberPinLaw", "dig", "(C)I"⟩ : MethodName)) hown (mvT hZ (hw _ (List.mem_of_getElem? (i := 62) rfl))) (mvT hZ (hw _ (List.mem_of_getElem? (i := 63) rfl))) (mvT hZ (hw _ (List.mem_of_getElem? (i := 2) rfl))) (mvT hZ (hw _ (List.mem_of_getElem? (i := 64) rfl))) (by decide) (backOf (W := 0) (rmDG l Z a0 hw [] p4 h0 n0 Zs ) hZ (hw _ (List.mem_of_getElem? (i := 64) rfl)) (hw _ (List.mem_of_getElem? (i := 2) rfl)) (by decide) (by decide)) (g := (mkF m 28 #[.val (.int p1), .val (.int p2), .val (.int p3), .val (.int p4), .val (.int p5), .val (.int p6), .val (.int p7), .val (.int p8), .val (.int (fDG p2)), .val (.int (fDG p3)), .unset, .unset, .unset, .unset, .unset, .unset] [(.int p4)])) rfl (by rw [hml]; rfl) (argsL := [(.int p4)]) (rest := []) (lenOf pd_0 rfl) rfl (by show 2 * 0 + _ ≤ _; exact Nat.le_of_eq rfl) (hb hby d8_28) (fun _ _ => ⟨rfl, e7, (by decide : 0 + 0 ≤ _), (by decide : 0 + 0 ≤ _)⟩)
      dsimp only [Pt.U, Pt.locs, Pt.cells, Pt.slots] at X8 l8 y8 z8 st8 hQ8
      subst l8 y8 z8
      obtain ⟨rfl, N8q, e8⟩ := hQ8
      have N8 := Fr.app N7 N8q
      obtain ⟨_, _, ⟨T9, L9, k9, n9⟩, -, X9, ⟨Lc9, hQ9, l9, y9, z9⟩, st9⟩ := Jvm.LawKit.callS X8 hx (y := (⟨"com/example/reta/reta/calendar/MonthsNumberPinLaw", "dig", "(C)I"⟩ : MethodName)) hown (mvT hZ (hw _ (List.mem_of_getElem? (i := 62) rfl))) (mvT hZ (hw _ (List.mem_of_getElem? (i := 63) rfl))) (mvT hZ (hw _ (List.mem_of_getElem? (i := 2) rfl))) (mvT hZ (hw _ (List.mem_of_getElem? (i := 64) rfl))) (by decide) (backOf (W := 0) (rmDG l Z a0 hw [] p5 h0 n0 Zs ) hZ (hw _ (List.mem_of_getElem? (i := 64) rfl)) (hw _ (List.mem_of_getElem? (i := 2) rfl)) (by decide) (by decide)) (g := (mkF m 35 #[.val (.int p1), .val (.int p2), .val (.int p3), .val (.int p4), .val (.int p5), .val (.int p6), .val (.int p7), .val (.int p8), .val (.int (fDG p2)), .val (.int (fDG p3)), .val (.int (fDG p4)), .unset, .unset, .unset, .unset, .unset] [(.int p5)])) rfl (by rw [hml]; rfl) (argsL := [(.int p5)]) (rest := []) (lenOf pd_0 rfl) rfl (by show 2 * 0 + _ ≤ _; exact Nat.le_of_eq rfl) (hb hby d8_35) (fun _ _ => ⟨rfl, e8, (by decide : 0 + 0 ≤ _), (by decide : 0 + 0 ≤ _)⟩)
      dsimp only [Pt.U, Pt.locs, Pt.cells, Pt.slots] at X9 l9 y9 z9 st9 hQ9
      subst l9 y9 z9
      obtain ⟨rfl, N9q, e9⟩ := hQ9
      have N9 := Fr.app N8 N9q
      obtain ⟨_, _, ⟨T10, L10, k10, n10⟩, -, X10, ⟨Lc10, hQ10, l10, y10, z10⟩, st10⟩ := Jvm.LawKit.callS X9 hx (y := (⟨"com/example/reta/reta/calendar/MonthsNumberPinLaw", "dig", "(C)I"⟩ : MethodName)) hown (mvT hZ (hw _ (List.mem_of_getElem? (i := 62) rfl))) (mvT hZ (hw _ (List.mem_of_getElem? (i := 63) rfl))) (mvT hZ (hw _ (List.mem_of_getElem? (i := 2) rfl))) (mvT hZ (hw _ (List.mem_of_getElem? (i := 64) rfl))) (by decide) (backOf (W := 0) (rmDG l Z a0 hw [] p7 h0 n0 Zs ) hZ (hw _ (List.mem_of_getElem? (i := 64) rfl)) (hw _ (List.mem_of_getElem? (i := 2) rfl)) (by decide) (by decide)) (g := (mkF m 42 #[.val (.int p1), .val (.int p2), .val (.int p3), .val (.int p4), .val (.int p5), .val (.int p6), .val (.int p7), .val (.int p8), .val (.int (fDG p2)), .val (.int (fDG p3)), .val (.int (fDG p4)), .val (.int (fDG p5)), .unset, .unset, .unset, .unset] [(.int p7)])) rfl (by rw [hml]; rfl) (argsL := [(.int p7)]) (rest := []) (lenOf pd_0 rfl) rfl (by show 2 * 0 + _ ≤ _; exact Nat.le_of_eq rfl) (hb hby d8_42) (fun _ _ => ⟨rfl, e9, (by decide : 0 + 0 ≤ _), (by decide : 0 + 0 ≤ _)⟩)
      dsimp only [Pt.U, Pt.locs, Pt.cells, Pt.slots] at X10 l10 y10 z10 st10 hQ10
      subst l10 y10 z10
      obtain ⟨rfl, N10q, e10⟩ := hQ10
      have N10 := Fr.app N9 N10q
      obtain ⟨_, _, ⟨T11, L11, k11, n11⟩, -, X11, ⟨Lc11, hQ11, l11, y11, z11⟩, st11⟩ := Jvm.LawKit.callS X10 hx (y := (⟨"com/example/reta/reta/calendar/MonthsNumberPinLaw", "dig", "(C)I"⟩ : MethodName)) hown (mvT hZ (hw _ (List.mem_of_getElem? (i := 62) rfl))) (mvT hZ (hw _ (List.mem_of_getElem? (i := 63) rfl))) (mvT hZ (hw _ (List.mem_of_getElem? (i := 2) rfl))) (mvT hZ (hw _ (List.mem_of_getElem? (i := 64) rfl))) (by decide) (backOf (W := 0) (rmDG l Z a0 hw [] p8 h0 n0 Zs ) hZ (hw _ (List.mem_of_getElem? (i := 64) rfl)) (hw _ (List.mem_of_getElem? (i := 2) rfl)) (by decide) (by decide)) (g := (mkF m 49 #[.val (.int p1), .val (.int p2), .val (.int p3), .val (.int p4), .val (.int p5), .val (.int p6), .val (.int p7), .val (.int p8), .val (.int (fDG p2)), .val (.int (fDG p3)), .val (.int (fDG p4)), .val (.int (fDG p5)), .val (.int (fDG p7)), .unset, .unset, .unset] [(.int p8)])) rfl (by rw [hml]; rfl) (argsL := [(.int p8)]) (rest := []) (lenOf pd_0 rfl) rfl (by show 2 * 0 + _ ≤ _; exact Nat.le_of_eq rfl) (hb hby d8_49) (fun _ _ => ⟨rfl, e10, (by decide : 0 + 0 ≤ _), (by decide : 0 + 0 ≤ _)⟩)
      dsimp only [Pt.U, Pt.locs, Pt.cells, Pt.slots] at X11 l11 y11 z11 st11 hQ11
      subst l11 y11 z11
      obtain ⟨rfl, N11q, e11⟩ := hQ11
      have N11 := Fr.app N10 N11q
      have pre12 : ∀ t, Steps p.tables e below (T11.setTop (mkF m 56 #[.val (.int p1), .val (.int p2), .val (.int p3), .val (.int p4), .val (.int p5), .val (.int p6), .val (.int p7), .val (.int p8), .val (.int (fDG p2)), .val (.int (fDG p3)), .val (.int (fDG p4)), .val (.int (fDG p5)), .val (.int (fDG p7)), .val (.int (fDG p8)), .unset, .unset] [(.int (fDG p2))])) t → Steps p.tables e below (s₁.setTop (entryFrame m #[(.int p1), (.int p2), (.int p3), (.int p4), (.int p5), (.int p6), (.int p7), (.int p8)] 16)) t := fun t k => pre5 t (by
        show Steps p.tables e below (s₁.setTop (mkF m 10 #[.val (.int p1), .val (.int p2), .val (.int p3), .val (.int p4), .val (.int p5), .val (.int p6), .val (.int p7), .val (.int p8), .unset, .unset, .unset, .unset, .unset, .unset, .unset, .unset] [(.int (45 : Int32)), (.int p6)])) _
        refine XS.icmpYes X0.here hx rfl (pc0 := 10) (pc' := 15) rfl (hb hby d8_10) rfl (teq hc10).1 (by decide) (by decide) ?_
        show Steps p.tables e below (s₁.setTop (mkF m 15 #[.val (.int p1), .val (.int p2), .val (.int p3), .val (.int p4), .val (.int p5), .val (.int p6), .val (.int p7), .val (.int p8), .unset, .unset, .unset, .unset, .unset, .unset, .unset, .unset] [])) _
        refine XS.iloadN X0.here hx rfl (hb hby d8_15) rfl ?_
        show Steps p.tables e below (s₁.setTop (mkF m 16 #[.val (.int p1), .val (.int p2), .val (.int p3), .val (.int p4), .val (.int p5), .val (.int p6), .val (.int p7), .val (.int p8), .unset, .unset, .unset, .unset, .unset, .unset, .unset, .unset] [(.int p2)])) _
        refine st6 _ ?_
        show Steps p.tables e below (T6.setTop (mkF m 19 #[.val (.int p1), .val (.int p2), .val (.int p3), .val (.int p4), .val (.int p5), .val (.int p6), .val (.int p7), .val (.int p8), .unset, .unset, .unset, .unset, .unset, .unset, .unset, .unset] [(.int (fDG p2))])) _
        refine XS.istore X6.here hx rfl (hb hby d8_19) rfl (l' := #[.val (.int p1), .val (.int p2), .val (.int p3), .val (.int p4), .val (.int p5), .val (.int p6), .val (.int p7), .val (.int p8), .val (.int (fDG p2)), .unset, .unset, .unset, .unset, .unset, .unset, .unset]) rfl ?_
        show Steps p.tables e below (T6.setTop (mkF m 21 #[.val (.int p1), .val (.int p2), .val (.int p3), .val (.int p4), .val (.int p5), .val (.int p6), .val (.int p7), .val (.int p8), .val (.int (fDG p2)), .unset, .unset, .unset, .unset, .unset, .unset, .unset] [])) _
        refine XS.iloadN X6.here hx rfl (hb hby d8_21) rfl ?_
        show Steps p.tables e below (T6.setTop (mkF m 22 #[.val (.int p1), .val (.int p2), .val (.int p3), .val (.int p4), .val (.int p5), .val (.int p6), .val (.int p7), .val (.int p8), .val (.int (fDG p2)), .unset, .unset, .unset, .unset, .unset, .unset, .unset] [(.int p3)])) _
        refine st7 _ ?_
        show Steps p.tables e below (T7.setTop (mkF m 25 #[.val (.int p1), .val (.int p2), .val (.int p3), .val (.int p4), .val (.int p5), .val (.int p6), .val (.int p7), .val (.int p8), .val (.int (fDG p2)), .unset, .unset, .unset, .unset, .unset, .unset, .unset] [(.int (fDG p3))])) _
        refine XS.istore X7.here hx rfl (hb hby d8_25) rfl (l' := #[.val (.int p1), .val (.int p2), .val (.int p3), .val (.int p4), .val (.int p5), .val (.int p6), .val (.int p7), .val (.int p8), .val (.int (fDG p2)), .val (.int (fDG p3)), .unset, .unset, .unset, .unset, .unset, .unset]) rfl ?_
        show Steps p.tables e below (T7.setTop (mkF m 27 #[.val (.int p1), .val (.int p2), .val (.int p3), .val (.int p4), .val (.int p5), .val (.int p6), .val (.int p7), .val (.int p8), .val (.int (fDG p2)), .val (.int (fDG p3)), .unset, .unset, .unset, .unset, .unset, .unset] [])) _
        refine XS.iloadN X7.here hx rfl (hb hby d8_27) rfl ?_
        show Steps p.tables e below (T7.setTop (mkF m 28 #[.val (.int p1), .val (.int p2), .val (.int p3), .val (.int p4), .val (.int p5), .val (.int p6), .val (.int p7), .val (.int p8), .val (.int (fDG p2)), .val (.int (fDG p3)), .unset, .unset, .unset, .unset, .unset, .unset] [(.int p4)])) _
        refine st8 _ ?_
        show Steps p.tables e below (T8.setTop (mkF m 31 #[.val (.int p1), .val (.int p2), .val (.int p3), .val (.int p4), .val (.int p5), .val (.int p6), .val (.int p7), .val (.int p8), .val (.int (fDG p2)), .val (.int (fDG p3)), .unset, .unset, .unset, .unset, .unset, .unset] [(.int (fDG p4))])) _
        refine XS.istore X8.here hx rfl (hb hby d8_31) rfl (l' := #[.val (.int p1), .val (.int p2), .val (.int p3), .val (.int p4), .val (.int p5), .val (.int p6), .val (.int p7), .val (.int p8), .val (.int (fDG p2)), .val (.int (fDG p3)), .val (.int (fDG p4)), .unset, .unset, .unset, .unset, .unset]) rfl ?_
        show Steps p.tables e below (T8.setTop (mkF m 33 #[.val (.int p1), .val (.int p2), .val (.int p3), .val (.int p4), .val (.int p5), .val (.int p6), .val (.int p7), .val (.int p8), .val (.int (fDG p2)), .val (.int (fDG p3)), .val (.int (fDG p4)), .unset, .unset, .unset, .unset, .unset] [])) _
        refine XS.iload X8.here hx rfl (hb hby d8_33) rfl ?_
        show Steps p.tables e below (T8.setTop (mkF m 35 #[.val (.int p1), .val (.int p2), .val (.int p3), .val (.int p4), .val (.int p5), .val (.int p6), .val (.int p7), .val (.int p8), .val (.int (fDG p2)), .val (.int (fDG p3)), .val (.int (fDG p4)), .unset, .unset, .unset, .unset, .unset] [(.int p5)])) _
        refine st9 _ ?_
        show Steps p.tables e below (T9.setTop (mkF m 38 #[.val (.int p1), .val (.int p2), .val (.int p3), .val (.int p4), .val (.int p5), .val (.int p6), .val (.int p7), .val (.int p8), .val (.int (fDG p2)), .val (.int (fDG p3)), .val (.int (fDG p4)), .unset, .unset, .unset, .unset, .unset] [(.int (fDG p5))])) _
        refine XS.istore X9.here hx rfl (hb hby d8_38) rfl (l' := #[.val (.int p1), .val (.int p2), .val (.int p3), .val (.int p4), .val (.int p5), .val (.int p6), .val (.int p7), .val (.int p8), .val (.int (fDG p2)), .val (.int (fDG p3)), .val (.int (fDG p4)), .val (.int (fDG p5)), .unset, .unset, .unset, .unset]) rfl ?_
        show Steps p.tables e below (T9.setTop (mkF m 40 #[.val (.int p1), .val (.int p2), .val (.int p3), .val (.int p4), .val (.int p5), .val (.int p6), .val (.int p7), .val (.int p8), .val (.int (fDG p2)), .val (.int (fDG p3)), .val (.int (fDG p4)), .val (.int (fDG p5)), .unset, .unset, .unset, .unset] [])) _
        refine XS.iload X9.here hx rfl (hb hby d8_40) rfl ?_
        show Steps p.tables e below (T9.setTop (mkF m 42 #[.val (.int p1), .val (.int p2), .val (.int p3), .val (.int p4), .val (.int p5), .val (.int p6), .val (.int p7), .val (.int p8), .val (.int (fDG p2)), .val (.int (fDG p3)), .val (.int (fDG p4)), .val (.int (fDG p5)), .unset, .unset, .unset, .unset] [(.int p7)])) _
        refine st10 _ ?_
        show Steps p.tables e below (T10.setTop (mkF m 45 #[.val (.int p1), .val (.int p2), .val (.int p3), .val (.int p4), .val (.int p5), .val (.int p6), .val (.int p7), .val (.int p8), .val (.int (fDG p2)), .val (.int (fDG p3)), .val (.int (fDG p4)), .val (.int (fDG p5)), .unset, .unset, .unset, .unset] [(.int (fDG p7))])) _
        refine XS.istore X10.here hx rfl (hb hby d8_45) rfl (l' := #[.val (.int p1), .val (.int p2), .val (.int p3), .val (.int p4), .val (.int p5), .val (.int p6), .val (.int p7), .val (.int p8), .val (.int (fDG p2)), .val (.int (fDG p3)), .val (.int (fDG p4)), .val (.int (fDG p5)), .val (.int (fDG p7)), .unset, .unset, .unset]) rfl ?_
        show Steps p.tables e below (T10.setTop (mkF m 47 #[.val (.int p1), .val (.int p2), .val (.int p3), .val (.int p4), .val (.int p5), .val (.int p6), .val (.int p7), .val (.int p8), .val (.int (fDG p2)), .val (.int (fDG p3)), .val (.int (fDG p4)), .val (.int (fDG p5)), .val (.int (fDG p7)), .unset, .unset, .unset] [])) _
        refine XS.iload X10.here hx rfl (hb hby d8_47) rfl ?_
        show Steps p.tables e below (T10.setTop (mkF m 49 #[.val (.int p1), .val (.int p2), .val (.int p3), .val (.int p4), .val (.int p5), .val (.int p6), .val (.int p7), .val (.int p8), .val (.int (fDG p2)), .val (.int (fDG p3)), .val (.int (fDG p4)), .val (.int (fDG p5)), .val (.int (fDG p7)), .unset, .unset, .unset] [(.int p8)])) _
        refine st11 _ ?_
        show Steps p.tables e below (T11.setTop (mkF m 52 #[.val (.int p1), .val (.int p2), .val (.int p3), .val (.int p4), .val (.int p5), .val (.int p6), .val (.int p7), .val (.int p8), .val (.int (fDG p2)), .val (.int (fDG p3)), .val (.int (fDG p4)), .val (.int (fDG p5)), .val (.int (fDG p7)), .unset, .unset, .unset] [(.int (fDG p8))])) _
        refine XS.istore X11.here hx rfl (hb hby d8_52) rfl (l' := #[.val (.int p1), .val (.int p2), .val (.int p3), .val (.int p4), .val (.int p5), .val (.int p6), .val (.int p7), .val (.int p8), .val (.int (fDG p2)), .val (.int (fDG p3)), .val (.int (fDG p4)), .val (.int (fDG p5)), .val (.int (fDG p7)), .val (.int (fDG p8)), .unset, .unset]) rfl ?_
        show Steps p.tables e below (T11.setTop (mkF m 54 #[.val (.int p1), .val (.int p2), .val (.int p3), .val (.int p4), .val (.int p5), .val (.int p6), .val (.int p7), .val (.int p8), .val (.int (fDG p2)), .val (.int (fDG p3)), .val (.int (fDG p4)), .val (.int (fDG p5)), .val (.int (fDG p7)), .val (.int (fDG p8)), .unset, .unset] [])) _
        refine XS.iload X11.here hx rfl (hb hby d8_54) rfl ?_
        exact k)
      by_cases hc56 : (fDG p2) < (0 : Int32)
      ·
        obtain ⟨fs, hr, hrun, hended, hW, hsame⟩ := X11.leave (v := some (.int (-1 : Int32))) (fun h => by rw [Bd.returns] at h; cases h)
        refine ⟨_, _, pre12 _ ?_, hrun, hended, _, _, rfl, ?_, ⟨_, rfl⟩, hW, hsame.mono (by decide) (by decide)⟩
        · show Steps p.tables e below (T11.setTop (mkF m 56 #[.val (.int p1), .val (.int p2), .val (.int p3), .val (.int p4), .val (.int p5), .val (.int p6), .val (.int p7), .val (.int p8), .val (.int (fDG p2)), .val (.int (fDG p3)), .val (.int (fDG p4)), .val (.int (fDG p5)), .val (.int (fDG p7)), .val (.int (fDG p8)), .unset, .unset] [(.int (fDG p2))])) _
          refine XS.ifYes X11.here hx rfl (pc0 := 56) (pc' := 84) rfl (hb hby d8_56) rfl ((if0 _ _).trans (tlt hc56).1) (by decide) (by decide) ?_
          show Steps p.tables e below (T11.setTop (mkF m 84 #[.val (.int p1), .val (.int p2), .val (.int p3), .val (.int p4), .val (.int p5), .val (.int p6), .val (.int p7), .val (.int p8), .val (.int (fDG p2)), .val (.int (fDG p3)), .val (.int (fDG p4)), .val (.int (fDG p5)), .val (.int (fDG p7)), .val (.int (fDG p8)), .unset, .unset] [])) _
          refine XS.iconst X11.here hx rfl (hb hby d8_84) ?_
          show Steps p.tables e below (T11.setTop (mkF m 85 #[.val (.int p1), .val (.int p2), .val (.int p3), .val (.int p4), .val (.int p5), .val (.int p6), .val (.int p7), .val (.int p8), .val (.int (fDG p2)), .val (.int (fDG p3)), .val (.int (fDG p4)), .val (.int (fDG p5)), .val (.int (fDG p7)), .val (.int (fDG p8)), .unset, .unset] [(.int (-1 : Int32))])) _
          exact retI X11 hx Bd.returns (hb hby d8_85) hr
        · show QRF Z p1 p2 p3 p4 p5 p6 p7 p8 h0 n0 _ T11.heap _
          rw [e11]
          exact ⟨congrArg some (congrArg Value.int (show (-1 : Int32) = (fRF p1 p2 p3 p4 p5 p6 p7 p8) from by rw [fRF, if_pos hc3, if_pos hc10, if_pos hc56])), N11, rfl⟩
      ·
        have pre13 : ∀ t, Steps p.tables e below (T11.setTop (mkF m 61 #[.val (.int p1), .val (.int p2), .val (.int p3), .val (.int p4), .val (.int p5), .val (.int p6), .val (.int p7), .val (.int p8), .val (.int (fDG p2)), .val (.int (fDG p3)), .val (.int (fDG p4)), .val (.int (fDG p5)), .val (.int (fDG p7)), .val (.int (fDG p8)), .unset, .unset] [(.int (fDG p3))])) t → Steps p.tables e below (s₁.setTop (entryFrame m #[(.int p1), (.int p2), (.int p3), (.int p4), (.int p5), (.int p6), (.int p7), (.int p8)] 16)) t := fun t k => pre12 t (by
          show Steps p.tables e below (T11.setTop (mkF m 56 #[.val (.int p1), .val (.int p2), .val (.int p3), .val (.int p4), .val (.int p5), .val (.int p6), .val (.int p7), .val (.int p8), .val (.int (fDG p2)), .val (.int (fDG p3)), .val (.int (fDG p4)), .val (.int (fDG p5)), .val (.int (fDG p7)), .val (.int (fDG p8)), .unset, .unset] [(.int (fDG p2))])) _
          refine XS.ifNo X11.here hx rfl (hb hby d8_56) rfl ((if0 _ _).trans (flt hc56).1) ?_
          show Steps p.tables e below (T11.setTop (mkF m 59 #[.val (.int p1), .val (.int p2), .val (.int p3), .val (.int p4), .val (.int p5), .val (.int p6), .val (.int p7), .val (.int p8), .val (.int (fDG p2)), .val (.int (fDG p3)), .val (.int (fDG p4)), .val (.int (fDG p5)), .val (.int (fDG p7)), .val (.int (fDG p8)), .unset, .unset] [])) _
          refine XS.iload X11.here hx rfl (hb hby d8_59) rfl ?_
          exact k)
        by_cases hc61 : (fDG p3) < (0 : Int32)
        ·
          obtain ⟨fs, hr, hrun, hended, hW, hsame⟩ := X11.leave (v := some (.int (-1 : Int32))) (fun h => by rw [Bd.returns] at h; cases h)
          refine ⟨_, _, pre13 _ ?_, hrun, hended, _, _, rfl, ?_, ⟨_, rfl⟩, hW, hsame.mono (by decide) (by decide)⟩
          · show Steps p.tables e below (T11.setTop (mkF m 61 #[.val (.int p1), .val (.int p2), .val (.int p3), .val (.int p4), .val (.int p5), .val (.int p6), .val (.int p7), .val (.int p8), .val (.int (fDG p2)), .val (.int (fDG p3)), .val (.int (fDG p4)), .val (.int (fDG p5)), .val (.int (fDG p7)), .val (.int (fDG p8)), .unset, .unset] [(.int (fDG p3))])) _
            refine XS.ifYes X11.here hx rfl (pc0 := 61) (pc' := 84) rfl (hb hby d8_61) rfl ((if0 _ _).trans (tlt hc61).1) (by decide) (by decide) ?_
            show Steps p.tables e below (T11.setTop (mkF m 84 #[.val (.int p1), .val (.int p2), .val (.int p3), .val (.int p4), .val (.int p5), .val (.int p6), .val (.int p7), .val (.int p8), .val (.int (fDG p2)), .val (.int (fDG p3)), .val (.int (fDG p4)), .val (.int (fDG p5)), .val (.int (fDG p7)), .val (.int (fDG p8)), .unset, .unset] [])) _
            refine XS.iconst X11.here hx rfl (hb hby d8_84) ?_
            show Steps p.tables e below (T11.setTop (mkF m 85 #[.val (.int p1), .val (.int p2), .val (.int p3), .val (.int p4), .val (.int p5), .val (.int p6), .val (.int p7), .val (.int p8), .val (.int (fDG p2)), .val (.int (fDG p3)), .val (.int (fDG p4)), .val (.int (fDG p5)), .val (.int (fDG p7)), .val (.int (fDG p8)), .unset, .unset] [(.int (-1 : Int32))])) _
            exact retI X11 hx Bd.returns (hb hby d8_85) hr
          · show QRF Z p1 p2 p3 p4 p5 p6 p7 p8 h0 n0 _ T11.heap _
            rw [e11]
            exact ⟨congrArg some (congrArg Value.int (show (-1 : Int32) = (fRF p1 p2 p3 p4 p5 p6 p7 p8) from by rw [fRF, if_pos hc3, if_pos hc10, if_neg hc56, if_pos hc61])), N11, rfl⟩
        ·
          have pre14 : ∀ t, Steps p.tables e below (T11.setTop (mkF m 66 #[.val (.int p1), .val (.int p2), .val (.int p3), .val (.int p4), .val (.int p5), .val (.int p6), .val (.int p7), .val (.int p8), .val (.int (fDG p2)), .val (.int (fDG p3)), .val (.int (fDG p4)), .val (.int (fDG p5)), .val (.int (fDG p7)), .val (.int (fDG p8)), .unset, .unset] [(.int (fDG p4))])) t → Steps p.tables e below (s₁.setTop (entryFrame m #[(.int p1), (.int p2), (.int p3), (.int p4), (.int p5), (.int p6), (.int p7), (.int p8)] 16)) t := fun t k => pre13 t (by
            show Steps p.tables e below (T11.setTop (mkF m 61 #[.val (.int p1), .val (.int p2), .val (.int p3), .val (.int p4), .val (.int p5), .val (.int p6), .val (.int p7), .val (.int p8), .val (.int (fDG p2)), .val (.int (fDG p3)), .val (.int (fDG p4)), .val (.int (fDG p5)), .val (.int (fDG p7)), .val (.int (fDG p8)), .unset, .unset] [(.int (fDG p3))])) _
            refine XS.ifNo X11.here hx rfl (hb hby d8_61) rfl ((if0 _ _).trans (flt hc61).1) ?_
            show Steps p.tables e below (T11.setTop (mkF m 64 #[.val (.int p1), .val (.int p2), .val (.int p3), .val (.int p4), .val (.int p5), .val (.int p6), .val (.int p7), .val (.int p8), .val (.int (fDG p2)), .val (.int (fDG p3)), .val (.int (fDG p4)), .val (.int (fDG p5)), .val (.int (fDG p7)), .val (.int (fDG p8)), .unset, .unset] [])) _
            refine XS.iload X11.here hx rfl (hb hby d8_64) rfl ?_
            exact k)
          by_cases hc66 : (fDG p4) < (0 : Int32)
          ·
            obtain ⟨fs, hr, hrun, hended, hW, hsame⟩ := X11.leave (v := some (.int (-1 : Int32))) (fun h => by rw [Bd.returns] at h; cases h)
            refine ⟨_, _, pre14 _ ?_, hrun, hended, _, _, rfl, ?_, ⟨_, rfl⟩, hW, hsame.mono (by decide) (by decide)⟩
            · show Steps p.tables e below (T11.setTop (mkF m 66 #[.val (.int p1), .val (.int p2), .val (.int p3), .val (.int p4), .val (.int p5), .val (.int p6), .val (.int p7), .val (.int p8), .val (.int (fDG p2)), .val (.int (fDG p3)), .val (.int (fDG p4)), .val (.int (fDG p5)), .val (.int (fDG p7)), .val (.int (fDG p8)), .unset, .unset] [(.int (fDG p4))])) _
              refine XS.ifYes X11.here hx rfl (pc0 := 66) (pc' := 84) rfl (hb hby d8_66) rfl ((if0 _ _).trans (tlt hc66).1) (by decide) (by decide) ?_
              show Steps p.tables e below (T11.setTop (mkF m 84 #[.val (.int p1), .val (.int p2), .val (.int p3), .val (.int p4), .val (.int p5), .val (.int p6), .val (.int p7), .val (.int p8), .val (.int (fDG p2)), .val (.int (fDG p3)), .val (.int (fDG p4)), .val (.int (fDG p5)), .val (.int (fDG p7)), .val (.int (fDG p8)), .unset, .unset] [])) _
              refine XS.iconst X11.here hx rfl (hb hby d8_84) ?_
              show Steps p.tables e below (T11.setTop (mkF m 85 #[.val (.int p1), .val (.int p2), .val (.int p3), .val (.int p4), .val (.int p5), .val (.int p6), .val (.int p7), .val (.int p8), .val (.int (fDG p2)), .val (.int (fDG p3)), .val (.int (fDG p4)), .val (.int (fDG p5)), .val (.int (fDG p7)), .val (.int (fDG p8)), .unset, .unset] [(.int (-1 : Int32))])) _
              exact retI X11 hx Bd.returns (hb hby d8_85) hr
            · show QRF Z p1 p2 p3 p4 p5 p6 p7 p8 h0 n0 _ T11.heap _
              rw [e11]
              exact ⟨congrArg some (congrArg Value.int (show (-1 : Int32) = (fRF p1 p2 p3 p4 p5 p6 p7 p8) from by rw [fRF, if_pos hc3, if_pos hc10, if_neg hc56, if_neg hc61, if_pos hc66])), N11, rfl⟩
          ·
            have pre15 : ∀ t, Steps p.tables e below (T11.setTop (mkF m 71 #[.val (.int p1), .val (.int p2), .val (.int p3), .val (.int p4), .val (.int p5), .val (.int p6), .val (.int p7), .val (.int p8), .val (.int (fDG p2)), .val (.int (fDG p3)), .val (.int (fDG p4)), .val (.int (fDG p5)), .val (.int (fDG p7)), .val (.int (fDG p8)), .unset, .unset] [(.int (fDG p5))])) t → Steps p.tables e below (s₁.setTop (entryFrame m #[(.int p1), (.int p2), (.int p3), (.int p4), (.int p5), (.int p6), (.int p7), (.int p8)] 16)) t := fun t k => pre14 t (by
              show Steps p.tables e below (T11.setTop (mkF m 66 #[.val (.int p1), .val (.int p2), .val (.int p3), .val (.int p4), .val (.int p5), .val (.int p6), .val (.int p7), .val (.int p8), .val (.int (fDG p2)), .val (.int (fDG p3)), .val (.int (fDG p4)), .val (.int (fDG p5)), .val (.int (fDG p7)), .val (.int (fDG p8)), .unset, .unset] [(.int (fDG p4))])) _
              refine XS.ifNo X11.here hx rfl (hb hby d8_66) rfl ((if0 _ _).trans (flt hc66).1) ?_
              show Steps p.tables e below (T11.setTop (mkF m 69 #[.val (.int p1), .val (.int p2), .val (.int p3), .val (.int p4), .val (.int p5), .val (.int p6), .val (.int p7), .val (.int p8), .val (.int (fDG p2)), .val (.int (fDG p3)), .val (.int (fDG p4)), .val (.int (fDG p5)), .val (.int (fDG p7)), .val (.int (fDG p8)), .unset, .unset] [])) _
              refine XS.iload X11.here hx rfl (hb hby d8_69) rfl ?_
              exact k)
            by_cases hc71 : (fDG p5) < (0 : Int32)
            ·
              obtain ⟨fs, hr, hrun, hended, hW, hsame⟩ := X11.leave (v := some (.int (-1 : Int32))) (fun h => by rw [Bd.returns] at h; cases h)
              refine ⟨_, _, pre15 _ ?_, hrun, hended, _, _, rfl, ?_, ⟨_, rfl⟩, hW, hsame.mono (by decide) (by decide)⟩
              · show Steps p.tables e below (T11.setTop (mkF m 71 #[.val (.int p1), .val (.int p2), .val (.int p3), .val (.int p4), .val (.int p5), .val (.int p6), .val (.int p7), .val (.int p8), .val (.int (fDG p2)), .val (.int (fDG p3)), .val (.int (fDG p4)), .val (.int (fDG p5)), .val (.int (fDG p7)), .val (.int (fDG p8)), .unset, .unset] [(.int (fDG p5))])) _
                refine XS.ifYes X11.here hx rfl (pc0 := 71) (pc' := 84) rfl (hb hby d8_71) rfl ((if0 _ _).trans (tlt hc71).1) (by decide) (by decide) ?_
                show Steps p.tables e below (T11.setTop (mkF m 84 #[.val (.int p1), .val (.int p2), .val (.int p3), .val (.int p4), .val (.int p5), .val (.int p6), .val (.int p7), .val (.int p8), .val (.int (fDG p2)), .val (.int (fDG p3)), .val (.int (fDG p4)), .val (.int (fDG p5)), .val (.int (fDG p7)), .val (.int (fDG p8)), .unset, .unset] [])) _
                refine XS.iconst X11.here hx rfl (hb hby d8_84) ?_
                show Steps p.tables e below (T11.setTop (mkF m 85 #[.val (.int p1), .val (.int p2), .val (.int p3), .val (.int p4), .val (.int p5), .val (.int p6), .val (.int p7), .val (.int p8), .val (.int (fDG p2)), .val (.int (fDG p3)), .val (.int (fDG p4)), .val (.int (fDG p5)), .val (.int (fDG p7)), .val (.int (fDG p8)), .unset, .unset] [(.int (-1 : Int32))])) _
                exact retI X11 hx Bd.returns (hb hby d8_85) hr
              · show QRF Z p1 p2 p3 p4 p5 p6 p7 p8 h0 n0 _ T11.heap _
                rw [e11]
                exact ⟨congrArg some (congrArg Value.int (show (-1 : Int32) = (fRF p1 p2 p3 p4 p5 p6 p7 p8) from by rw [fRF, if_pos hc3, if_pos hc10, if_neg hc56, if_neg hc61, if_neg hc66, if_pos hc71])), N11, rfl⟩
            ·
              have pre16 : ∀ t, Steps p.tables e below (T11.setTop (mkF m 76 #[.val (.int p1), .val (.int p2), .val (.int p3), .val (.int p4), .val (.int p5), .val (.int p6), .val (.int p7), .val (.int p8), .val (.int (fDG p2)), .val (.int (fDG p3)), .val (.int (fDG p4)), .val (.int (fDG p5)), .val (.int (fDG p7)), .val (.int (fDG p8)), .unset, .unset] [(.int (fDG p7))])) t → Steps p.tables e below (s₁.setTop (entryFrame m #[(.int p1), (.int p2), (.int p3), (.int p4), (.int p5), (.int p6), (.int p7), (.int p8)] 16)) t := fun t k => pre15 t (by
                show Steps p.tables e below (T11.setTop (mkF m 71 #[.val (.int p1), .val (.int p2), .val (.int p3), .val (.int p4), .val (.int p5), .val (.int p6), .val (.int p7), .val (.int p8), .val (.int (fDG p2)), .val (.int (fDG p3)), .val (.int (fDG p4)), .val (.int (fDG p5)), .val (.int (fDG p7)), .val (.int (fDG p8)), .unset, .unset] [(.int (fDG p5))])) _
                refine XS.ifNo X11.here hx rfl (hb hby d8_71) rfl ((if0 _ _).trans (flt hc71).1) ?_
                show Steps p.tables e below (T11.setTop (mkF m 74 #[.val (.int p1), .val (.int p2), .val (.int p3), .val (.int p4), .val (.int p5), .val (.int p6), .val (.int p7), .val (.int p8), .val (.int (fDG p2)), .val (.int (fDG p3)), .val (.int (fDG p4)), .val (.int (fDG p5)), .val (.int (fDG p7)), .val (.int (fDG p8)), .unset, .unset] [])) _
                refine XS.iload X11.here hx rfl (hb hby d8_74) rfl ?_
                exact k)
              by_cases hc76 : (fDG p7) < (0 : Int32)
              ·
                obtain ⟨fs, hr, hrun, hended, hW, hsame⟩ := X11.leave (v := some (.int (-1 : Int32))) (fun h => by rw [Bd.returns] at h; cases h)
                refine ⟨_, _, pre16 _ ?_, hrun, hended, _, _, rfl, ?_, ⟨_, rfl⟩, hW, hsame.mono (by decide) (by decide)⟩
                · show Steps p.tables e below (T11.setTop (mkF m 76 #[.val (.int p1), .val (.int p2), .val (.int p3), .val (.int p4), .val (.int p5), .val (.int p6), .val (.int p7), .val (.int p8), .val (.int (fDG p2)), .val (.int (fDG p3)), .val (.int (fDG p4)), .val (.int (fDG p5)), .val (.int (fDG p7)), .val (.int (fDG p8)), .unset, .unset] [(.int (fDG p7))])) _
                  refine XS.ifYes X11.here hx rfl (pc0 := 76) (pc' := 84) rfl (hb hby d8_76) rfl ((if0 _ _).trans (tlt hc76).1) (by decide) (by decide) ?_
                  show Steps p.tables e below (T11.setTop (mkF m 84 #[.val (.int p1), .val (.int p2), .val (.int p3), .val (.int p4), .val (.int p5), .val (.int p6), .val (.int p7), .val (.int p8), .val (.int (fDG p2)), .val (.int (fDG p3)), .val (.int (fDG p4)), .val (.int (fDG p5)), .val (.int (fDG p7)), .val (.int (fDG p8)), .unset, .unset] [])) _
                  refine XS.iconst X11.here hx rfl (hb hby d8_84) ?_
                  show Steps p.tables e below (T11.setTop (mkF m 85 #[.val (.int p1), .val (.int p2), .val (.int p3), .val (.int p4), .val (.int p5), .val (.int p6), .val (.int p7), .val (.int p8), .val (.int (fDG p2)), .val (.int (fDG p3)), .val (.int (fDG p4)), .val (.int (fDG p5)), .val (.int (fDG p7)), .val (.int (fDG p8)), .unset, .unset] [(.int (-1 : Int32))])) _
                  exact retI X11 hx Bd.returns (hb hby d8_85) hr
                · show QRF Z p1 p2 p3 p4 p5 p6 p7 p8 h0 n0 _ T11.heap _
                  rw [e11]
                  exact ⟨congrArg some (congrArg Value.int (show (-1 : Int32) = (fRF p1 p2 p3 p4 p5 p6 p7 p8) from by rw [fRF, if_pos hc3, if_pos hc10, if_neg hc56, if_neg hc61, if_neg hc66, if_neg hc71, if_pos hc76])), N11, rfl⟩
              ·
                have pre17 : ∀ t, Steps p.tables e below (T11.setTop (mkF m 81 #[.val (.int p1), .val (.int p2), .val (.int p3), .val (.int p4), .val (.int p5), .val (.int p6), .val (.int p7), .val (.int p8), .val (.int (fDG p2)), .val (.int (fDG p3)), .val (.int (fDG p4)), .val (.int (fDG p5)), .val (.int (fDG p7)), .val (.int (fDG p8)), .unset, .unset] [(.int (fDG p8))])) t → Steps p.tables e below (s₁.setTop (entryFrame m #[(.int p1), (.int p2), (.int p3), (.int p4), (.int p5), (.int p6), (.int p7), (.int p8)] 16)) t := fun t k => pre16 t (by
                  show Steps p.tables e below (T11.setTop (mkF m 76 #[.val (.int p1), .val (.int p2), .val (.int p3), .val (.int p4), .val (.int p5), .val (.int p6), .val (.int p7), .val (.int p8), .val (.int (fDG p2)), .val (.int (fDG p3)), .val (.int (fDG p4)), .val (.int (fDG p5)), .val (.int (fDG p7)), .val (.int (fDG p8)), .unset, .unset] [(.int (fDG p7))])) _
                  refine XS.ifNo X11.here hx rfl (hb hby d8_76) rfl ((if0 _ _).trans (flt hc76).1) ?_
                  show Steps p.tables e below (T11.setTop (mkF m 79 #[.val (.int p1), .val (.int p2), .val (.int p3), .val (.int p4), .val (.int p5), .val (.int p6), .val (.int p7), .val (.int p8), .val (.int (fDG p2)), .val (.int (fDG p3)), .val (.int (fDG p4)), .val (.int (fDG p5)), .val (.int (fDG p7)), .val (.int (fDG p8)), .unset, .unset] [])) _
                  refine XS.iload X11.here hx rfl (hb hby d8_79) rfl ?_
                  exact k)
                by_cases hc81 : (fDG p8) < (0 : Int32)
                ·
                  obtain ⟨fs, hr, hrun, hended, hW, hsame⟩ := X11.leave (v := some (.int (-1 : Int32))) (fun h => by rw [Bd.returns] at h; cases h)
                  refine ⟨_, _, pre17 _ ?_, hrun, hended, _, _, rfl, ?_, ⟨_, rfl⟩, hW, hsame.mono (by decide) (by decide)⟩
                  · show Steps p.tables e below (T11.setTop (mkF m 81 #[.val (.int p1), .val (.int p2), .val (.int p3), .val (.int p4), .val (.int p5), .val (.int p6), .val (.int p7), .val (.int p8), .val (.int (fDG p2)), .val (.int (fDG p3)), .val (.int (fDG p4)), .val (.int (fDG p5)), .val (.int (fDG p7)), .val (.int (fDG p8)), .unset, .unset] [(.int (fDG p8))])) _
                    refine XS.ifNo X11.here hx rfl (hb hby d8_81) rfl ((if0 _ _).trans (tlt hc81).2.1) ?_
                    show Steps p.tables e below (T11.setTop (mkF m 84 #[.val (.int p1), .val (.int p2), .val (.int p3), .val (.int p4), .val (.int p5), .val (.int p6), .val (.int p7), .val (.int p8), .val (.int (fDG p2)), .val (.int (fDG p3)), .val (.int (fDG p4)), .val (.int (fDG p5)), .val (.int (fDG p7)), .val (.int (fDG p8)), .unset, .unset] [])) _
                    refine XS.iconst X11.here hx rfl (hb hby d8_84) ?_
                    show Steps p.tables e below (T11.setTop (mkF m 85 #[.val (.int p1), .val (.int p2), .val (.int p3), .val (.int p4), .val (.int p5), .val (.int p6), .val (.int p7), .val (.int p8), .val (.int (fDG p2)), .val (.int (fDG p3)), .val (.int (fDG p4)), .val (.int (fDG p5)), .val (.int (fDG p7)), .val (.int (fDG p8)), .unset, .unset] [(.int (-1 : Int32))])) _
                    exact retI X11 hx Bd.returns (hb hby d8_85) hr
                  · show QRF Z p1 p2 p3 p4 p5 p6 p7 p8 h0 n0 _ T11.heap _
                    rw [e11]
                    exact ⟨congrArg some (congrArg Value.int (show (-1 : Int32) = (fRF p1 p2 p3 p4 p5 p6 p7 p8) from by rw [fRF, if_pos hc3, if_pos hc10, if_neg hc56, if_neg hc61, if_neg hc66, if_neg hc71, if_neg hc76, if_pos hc81])), N11, rfl⟩
                ·
                  have pre18 : ∀ t, Steps p.tables e below (T11.setTop (mkF m 99 #[.val (.int p1), .val (.int p2), .val (.int p3), .val (.int p4), .val (.int p5), .val (.int p6), .val (.int p7), .val (.int p8), .val (.int (fDG p2)), .val (.int (fDG p3)), .val (.int (fDG p4)), .val (.int (fDG p5)), .val (.int (fDG p7)), .val (.int (fDG p8)), .val (.int (((fDG p7) * (10 : Int32)) + (fDG p8))), .unset] [(.int (1 : Int32)), (.int (((fDG p7) * (10 : Int32)) + (fDG p8)))])) t → Steps p.tables e below (s₁.setTop (entryFrame m #[(.int p1), (.int p2), (.int p3), (.int p4), (.int p5), (.int p6), (.int p7), (.int p8)] 16)) t := fun t k => pre17 t (by
                    show Steps p.tables e below (T11.setTop (mkF m 81 #[.val (.int p1), .val (.int p2), .val (.int p3), .val (.int p4), .val (.int p5), .val (.int p6), .val (.int p7), .val (.int p8), .val (.int (fDG p2)), .val (.int (fDG p3)), .val (.int (fDG p4)), .val (.int (fDG p5)), .val (.int (fDG p7)), .val (.int (fDG p8)), .unset, .unset] [(.int (fDG p8))])) _
                    refine XS.ifYes X11.here hx rfl (pc0 := 81) (pc' := 86) rfl (hb hby d8_81) rfl ((if0 _ _).trans (flt hc81).2.1) (by decide) (by decide) ?_
                    show Steps p.tables e below (T11.setTop (mkF m 86 #[.val (.int p1), .val (.int p2), .val (.int p3), .val (.int p4), .val (.int p5), .val (.int p6), .val (.int p7), .val (.int p8), .val (.int (fDG p2)), .val (.int (fDG p3)), .val (.int (fDG p4)), .val (.int (fDG p5)), .val (.int (fDG p7)), .val (.int (fDG p8)), .unset, .unset] [])) _
                    refine XS.iload X11.here hx rfl (hb hby d8_86) rfl ?_
                    show Steps p.tables e below (T11.setTop (mkF m 88 #[.val (.int p1), .val (.int p2), .val (.int p3), .val (.int p4), .val (.int p5), .val (.int p6), .val (.int p7), .val (.int p8), .val (.int (fDG p2)), .val (.int (fDG p3)), .val (.int (fDG p4)), .val (.int (fDG p5)), .val (.int (fDG p7)), .val (.int (fDG p8)), .unset, .unset] [(.int (fDG p7))])) _
                    refine XS.bipush X11.here hx rfl (hb hby d8_88) ?_
                    show Steps p.tables e below (T11.setTop (mkF m 90 #[.val (.int p1), .val (.int p2), .val (.int p3), .val (.int p4), .val (.int p5), .val (.int p6), .val (.int p7), .val (.int p8), .val (.int (fDG p2)), .val (.int (fDG p3)), .val (.int (fDG p4)), .val (.int (fDG p5)), .val (.int (fDG p7)), .val (.int (fDG p8)), .unset, .unset] [(.int (10 : Int32)), (.int (fDG p7))])) _
                    refine XS.imul X11.here hx rfl (hb hby d8_90) rfl ?_
                    show Steps p.tables e below (T11.setTop (mkF m 91 #[.val (.int p1), .val (.int p2), .val (.int p3), .val (.int p4), .val (.int p5), .val (.int p6), .val (.int p7), .val (.int p8), .val (.int (fDG p2)), .val (.int (fDG p3)), .val (.int (fDG p4)), .val (.int (fDG p5)), .val (.int (fDG p7)), .val (.int (fDG p8)), .unset, .unset] [(.int ((fDG p7) * (10 : Int32)))])) _
                    refine XS.iload X11.here hx rfl (hb hby d8_91) rfl ?_
                    show Steps p.tables e below (T11.setTop (mkF m 93 #[.val (.int p1), .val (.int p2), .val (.int p3), .val (.int p4), .val (.int p5), .val (.int p6), .val (.int p7), .val (.int p8), .val (.int (fDG p2)), .val (.int (fDG p3)), .val (.int (fDG p4)), .val (.int (fDG p5)), .val (.int (fDG p7)), .val (.int (fDG p8)), .unset, .unset] [(.int (fDG p8)), (.int ((fDG p7) * (10 : Int32)))])) _
                    refine XS.iadd X11.here hx rfl (hb hby d8_93) rfl ?_
                    show Steps p.tables e below (T11.setTop (mkF m 94 #[.val (.int p1), .val (.int p2), .val (.int p3), .val (.int p4), .val (.int p5), .val (.int p6), .val (.int p7), .val (.int p8), .val (.int (fDG p2)), .val (.int (fDG p3)), .val (.int (fDG p4)), .val (.int (fDG p5)), .val (.int (fDG p7)), .val (.int (fDG p8)), .unset, .unset] [(.int (((fDG p7) * (10 : Int32)) + (fDG p8)))])) _
                    refine XS.istore X11.here hx rfl (hb hby d8_94) rfl (l' := #[.val (.int p1), .val (.int p2), .val (.int p3), .val (.int p4), .val (.int p5), .val (.int p6), .val (.int p7), .val (.int p8), .val (.int (fDG p2)), .val (.int (fDG p3)), .val (.int (fDG p4)), .val (.int (fDG p5)), .val (.int (fDG p7)), .val (.int (fDG p8)), .val (.int (((fDG p7) * (10 : Int32)) + (fDG p8))), .unset]) rfl ?_
                    show Steps p.tables e below (T11.setTop (mkF m 96 #[.val (.int p1), .val (.int p2), .val (.int p3), .val (.int p4), .val (.int p5), .val (.int p6), .val (.int p7), .val (.int p8), .val (.int (fDG p2)), .val (.int (fDG p3)), .val (.int (fDG p4)), .val (.int (fDG p5)), .val (.int (fDG p7)), .val (.int (fDG p8)), .val (.int (((fDG p7) * (10 : Int32)) + (fDG p8))), .unset] [])) _
                    refine XS.iload X11.here hx rfl (hb hby d8_96) rfl ?_
                    show Steps p.tables e below (T11.setTop (mkF m 98 #[.val (.int p1), .val (.int p2), .val (.int p3), .val (.int p4), .val (.int p5), .val (.int p6), .val (.int p7), .val (.int p8), .val (.int (fDG p2)), .val (.int (fDG p3)), .val (.int (fDG p4)), .val (.int (fDG p5)), .val (.int (fDG p7)), .val (.int (fDG p8)), .val (.int (((fDG p7) * (10 : Int32)) + (fDG p8))), .unset] [(.int (((fDG p7) * (10 : Int32)) + (fDG p8)))])) _
                    refine XS.iconst X11.here hx rfl (hb hby d8_98) ?_
                    exact k)
                  by_cases hc99 : (((fDG p7) * (10 : Int32)) + (fDG p8)) < (1 : Int32)
                  ·
                    obtain ⟨fs, hr, hrun, hended, hW, hsame⟩ := X11.leave (v := some (.int (-1 : Int32))) (fun h => by rw [Bd.returns] at h; cases h)
                    refine ⟨_, _, pre18 _ ?_, hrun, hended, _, _, rfl, ?_, ⟨_, rfl⟩, hW, hsame.mono (by decide) (by decide)⟩
                    · show Steps p.tables e below (T11.setTop (mkF m 99 #[.val (.int p1), .val (.int p2), .val (.int p3), .val (.int p4), .val (.int p5), .val (.int p6), .val (.int p7), .val (.int p8), .val (.int (fDG p2)), .val (.int (fDG p3)), .val (.int (fDG p4)), .val (.int (fDG p5)), .val (.int (fDG p7)), .val (.int (fDG p8)), .val (.int (((fDG p7) * (10 : Int32)) + (fDG p8))), .unset] [(.int (1 : Int32)), (.int (((fDG p7) * (10 : Int32)) + (fDG p8)))])) _
                      refine XS.icmpYes X11.here hx rfl (pc0 := 99) (pc' := 109) rfl (hb hby d8_99) rfl (tlt hc99).1 (by decide) (by decide) ?_
                      show Steps p.tables e below (T11.setTop (mkF m 109 #[.val (.int p1), .val (.int p2), .val (.int p3), .val (.int p4), .val (.int p5), .val (.int p6), .val (.int p7), .val (.int p8), .val (.int (fDG p2)), .val (.int (fDG p3)), .val (.int (fDG p4)), .val (.int (fDG p5)), .val (.int (fDG p7)), .val (.int (fDG p8)), .val (.int (((fDG p7) * (10 : Int32)) + (fDG p8))), .unset] [])) _
                      refine XS.iconst X11.here hx rfl (hb hby d8_109) ?_
                      show Steps p.tables e below (T11.setTop (mkF m 110 #[.val (.int p1), .val (.int p2), .val (.int p3), .val (.int p4), .val (.int p5), .val (.int p6), .val (.int p7), .val (.int p8), .val (.int (fDG p2)), .val (.int (fDG p3)), .val (.int (fDG p4)), .val (.int (fDG p5)), .val (.int (fDG p7)), .val (.int (fDG p8)), .val (.int (((fDG p7) * (10 : Int32)) + (fDG p8))), .unset] [(.int (-1 : Int32))])) _
                      exact retI X11 hx Bd.returns (hb hby d8_110) hr
                    · show QRF Z p1 p2 p3 p4 p5 p6 p7 p8 h0 n0 _ T11.heap _
                      rw [e11]
                      exact ⟨congrArg some (congrArg Value.int (show (-1 : Int32) = (fRF p1 p2 p3 p4 p5 p6 p7 p8) from by rw [fRF, if_pos hc3, if_pos hc10, if_neg hc56, if_neg hc61, if_neg hc66, if_neg hc71, if_neg hc76, if_neg hc81, if_pos hc99])), N11, rfl⟩
                  ·
                    have pre19 : ∀ t, Steps p.tables e below (T11.setTop (mkF m 106 #[.val (.int p1), .val (.int p2), .val (.int p3), .val (.int p4), .val (.int p5), .val (.int p6), .val (.int p7), .val (.int p8), .val (.int (fDG p2)), .val (.int (fDG p3)), .val (.int (fDG p4)), .val (.int (fDG p5)), .val (.int (fDG p7)), .val (.int (fDG p8)), .val (.int (((fDG p7) * (10 : Int32)) + (fDG p8))), .unset] [(.int (12 : Int32)), (.int (((fDG p7) * (10 : Int32)) + (fDG p8)))])) t → Steps p.tables e below (s₁.setTop (entryFrame m #[(.int p1), (.int p2), (.int p3), (.int p4), (.int p5), (.int p6), (.int p7), (.int p8)] 16)) t := fun t k => pre18 t (by
                      show Steps p.tables e below (T11.setTop (mkF m 99 #[.val (.int p1), .val (.int p2), .val (.int p3), .val (.int p4), .val (.int p5), .val (.int p6), .val (.int p7), .val (.int p8), .val (.int (fDG p2)), .val (.int (fDG p3)), .val (.int (fDG p4)), .val (.int (fDG p5)), .val (.int (fDG p7)), .val (.int (fDG p8)), .val (.int (((fDG p7) * (10 : Int32)) + (fDG p8))), .unset] [(.int (1 : Int32)), (.int (((fDG p7) * (10 : Int32)) + (fDG p8)))])) _
                      refine XS.icmpNo X11.here hx rfl (hb hby d8_99) rfl (flt hc99).1 ?_
                      show Steps p.tables e below (T11.setTop (mkF m 102 #[.val (.int p1), .val (.int p2), .val (.int p3), .val (.int p4), .val (.int p5), .val (.int p6), .val (.int p7), .val (.int p8), .val (.int (fDG p2)), .val (.int (fDG p3)), .val (.int (fDG p4)), .val (.int (fDG p5)), .val (.int (fDG p7)), .val (.int (fDG p8)), .val (.int (((fDG p7) * (10 : Int32)) + (fDG p8))), .unset] [])) _
                      refine XS.iload X11.here hx rfl (hb hby d8_102) rfl ?_
                      show Steps p.tables e below (T11.setTop (mkF m 104 #[.val (.int p1), .val (.int p2), .val (.int p3), .val (.int p4), .val (.int p5), .val (.int p6), .val (.int p7), .val (.int p8), .val (.int (fDG p2)), .val (.int (fDG p3)), .val (.int (fDG p4)), .val (.int (fDG p5)), .val (.int (fDG p7)), .val (.int (fDG p8)), .val (.int (((fDG p7) * (10 : Int32)) + (fDG p8))), .unset] [(.int (((fDG p7) * (10 : Int32)) + (fDG p8)))])) _
                      refine XS.bipush X11.here hx rfl (hb hby d8_104) ?_
                      exact k)
                    by_cases hc106 : (12 : Int32) < (((fDG p7) * (10 : Int32)) + (fDG p8))
                    ·
                      obtain ⟨fs, hr, hrun, hended, hW, hsame⟩ := X11.leave (v := some (.int (-1 : Int32))) (fun h => by rw [Bd.returns] at h; cases h)
                      refine ⟨_, _, pre19 _ ?_, hrun, hended, _, _, rfl, ?_, ⟨_, rfl⟩, hW, hsame.mono (by decide) (by decide)⟩
                      · show Steps p.tables e below (T11.setTop (mkF m 106 #[.val (.int p1), .val (.int p2), .val (.int p3), .val (.int p4), .val (.int p5), .val (.int p6), .val (.int p7), .val (.int p8), .val (.int (fDG p2)), .val (.int (fDG p3)), .val (.int (fDG p4)), .val (.int (fDG p5)), .val (.int (fDG p7)), .val (.int (fDG p8)), .val (.int (((fDG p7) * (10 : Int32)) + (fDG p8))), .unset] [(.int (12 : Int32)), (.int (((fDG p7) * (10 : Int32)) + (fDG p8)))])) _
                        refine XS.icmpNo X11.here hx rfl (hb hby d8_106) rfl (tlt hc106).2.2.2 ?_
                        show Steps p.tables e below (T11.setTop (mkF m 109 #[.val (.int p1), .val (.int p2), .val (.int p3), .val (.int p4), .val (.int p5), .val (.int p6), .val (.int p7), .val (.int p8), .val (.int (fDG p2)), .val (.int (fDG p3)), .val (.int (fDG p4)), .val (.int (fDG p5)), .val (.int (fDG p7)), .val (.int (fDG p8)), .val (.int (((fDG p7) * (10 : Int32)) + (fDG p8))), .unset] [])) _
                        refine XS.iconst X11.here hx rfl (hb hby d8_109) ?_
                        show Steps p.tables e below (T11.setTop (mkF m 110 #[.val (.int p1), .val (.int p2), .val (.int p3), .val (.int p4), .val (.int p5), .val (.int p6), .val (.int p7), .val (.int p8), .val (.int (fDG p2)), .val (.int (fDG p3)), .val (.int (fDG p4)), .val (.int (fDG p5)), .val (.int (fDG p7)), .val (.int (fDG p8)), .val (.int (((fDG p7) * (10 : Int32)) + (fDG p8))), .unset] [(.int (-1 : Int32))])) _
                        exact retI X11 hx Bd.returns (hb hby d8_110) hr
                      · show QRF Z p1 p2 p3 p4 p5 p6 p7 p8 h0 n0 _ T11.heap _
                        rw [e11]
                        exact ⟨congrArg some (congrArg Value.int (show (-1 : Int32) = (fRF p1 p2 p3 p4 p5 p6 p7 p8) from by rw [fRF, if_pos hc3, if_pos hc10, if_neg hc56, if_neg hc61, if_neg hc66, if_neg hc71, if_neg hc76, if_neg hc81, if_neg hc99, if_pos hc106])), N11, rfl⟩
                    ·
                      obtain ⟨fs, hr, hrun, hended, hW, hsame⟩ := X11.leave (v := some (.int ((((((((fDG p2) * (1000 : Int32)) + ((fDG p3) * (100 : Int32))) + ((fDG p4) * (10 : Int32))) + (fDG p5)) * (12 : Int32)) + (((fDG p7) * (10 : Int32)) + (fDG p8))) - (1 : Int32)))) (fun h => by rw [Bd.returns] at h; cases h)
                      refine ⟨_, _, pre19 _ ?_, hrun, hended, _, _, rfl, ?_, ⟨_, rfl⟩, hW, hsame.mono (by decide) (by decide)⟩
                      · show Steps p.tables e below (T11.setTop (mkF m 106 #[.val (.int p1), .val (.int p2), .val (.int p3), .val (.int p4), .val (.int p5), .val (.int p6), .val (.int p7), .val (.int p8), .val (.int (fDG p2)), .val (.int (fDG p3)), .val (.int (fDG p4)), .val (.int (fDG p5)), .val (.int (fDG p7)), .val (.int (fDG p8)), .val (.int (((fDG p7) * (10 : Int32)) + (fDG p8))), .unset] [(.int (12 : Int32)), (.int (((fDG p7) * (10 : Int32)) + (fDG p8)))])) _
                        refine XS.icmpYes X11.here hx rfl (pc0 := 106) (pc' := 111) rfl (hb hby d8_106) rfl (flt hc106).2.2.2 (by decide) (by decide) ?_
                        show Steps p.tables e below (T11.setTop (mkF m 111 #[.val (.int p1), .val (.int p2), .val (.int p3), .val (.int p4), .val (.int p5), .val (.int p6), .val (.int p7), .val (.int p8), .val (.int (fDG p2)), .val (.int (fDG p3)), .val (.int (fDG p4)), .val (.int (fDG p5)), .val (.int (fDG p7)), .val (.int (fDG p8)), .val (.int (((fDG p7) * (10 : Int32)) + (fDG p8))), .unset] [])) _
                        refine XS.iload X11.here hx rfl (hb hby d8_111) rfl ?_
                        show Steps p.tables e below (T11.setTop (mkF m 113 #[.val (.int p1), .val (.int p2), .val (.int p3), .val (.int p4), .val (.int p5), .val (.int p6), .val (.int p7), .val (.int p8), .val (.int (fDG p2)), .val (.int (fDG p3)), .val (.int (fDG p4)), .val (.int (fDG p5)), .val (.int (fDG p7)), .val (.int (fDG p8)), .val (.int (((fDG p7) * (10 : Int32)) + (fDG p8))), .unset] [(.int (fDG p2))])) _
                        refine XS.sipush X11.here hx rfl (hb hby d8_113) ?_
                        show Steps p.tables e below (T11.setTop (mkF m 116 #[.val (.int p1), .val (.int p2), .val (.int p3), .val (.int p4), .val (.int p5), .val (.int p6), .val (.int p7), .val (.int p8), .val (.int (fDG p2)), .val (.int (fDG p3)), .val (.int (fDG p4)), .val (.int (fDG p5)), .val (.int (fDG p7)), .val (.int (fDG p8)), .val (.int (((fDG p7) * (10 : Int32)) + (fDG p8))), .unset] [(.int (1000 : Int32)), (.int (fDG p2))])) _
                        refine XS.imul X11.here hx rfl (hb hby d8_116) rfl ?_
                        show Steps p.tables e below (T11.setTop (mkF m 117 #[.val (.int p1), .val (.int p2), .val (.int p3), .val (.int p4), .val (.int p5), .val (.int p6), .val (.int p7), .val (.int p8), .val (.int (fDG p2)), .val (.int (fDG p3)), .val (.int (fDG p4)), .val (.int (fDG p5)), .val (.int (fDG p7)), .val (.int (fDG p8)), .val (.int (((fDG p7) * (10 : Int32)) + (fDG p8))), .unset] [(.int ((fDG p2) * (1000 : Int32)))])) _
                        refine XS.iload X11.here hx rfl (hb hby d8_117) rfl ?_
                        show Steps p.tables e below (T11.setTop (mkF m 119 #[.val (.int p1), .val (.int p2), .val (.int p3), .val (.int p4), .val (.int p5), .val (.int p6), .val (.int p7), .val (.int p8), .val (.int (fDG p2)), .val (.int (fDG p3)), .val (.int (fDG p4)), .val (.int (fDG p5)), .val (.int (fDG p7)), .val (.int (fDG p8)), .val (.int (((fDG p7) * (10 : Int32)) + (fDG p8))), .unset] [(.int (fDG p3)), (.int ((fDG p2) * (1000 : Int32)))])) _
                        refine XS.bipush X11.here hx rfl (hb hby d8_119) ?_
                        show Steps p.tables e below (T11.setTop (mkF m 121 #[.val (.int p1), .val (.int p2), .val (.int p3), .val (.int p4), .val (.int p5), .val (.int p6), .val (.int p7), .val (.int p8), .val (.int (fDG p2)), .val (.int (fDG p3)), .val (.int (fDG p4)), .val (.int (fDG p5)), .val (.int (fDG p7)), .val (.int (fDG p8)), .val (.int (((fDG p7) * (10 : Int32)) + (fDG p8))), .unset] [(.int (100 : Int32)), (.int (fDG p3)), (.int ((fDG p2) * (1000 : Int32)))])) _
                        refine XS.imul X11.here hx rfl (hb hby d8_121) rfl ?_
                        show Steps p.tables e below (T11.setTop (mkF m 122 #[.val (.int p1), .val (.int p2), .val (.int p3), .val (.int p4), .val (.int p5), .val (.int p6), .val (.int p7), .val (.int p8), .val (.int (fDG p2)), .val (.int (fDG p3)), .val (.int (fDG p4)), .val (.int (fDG p5)), .val (.int (fDG p7)), .val (.int (fDG p8)), .val (.int (((fDG p7) * (10 : Int32)) + (fDG p8))), .unset] [(.int ((fDG p3) * (100 : Int32))), (.int ((fDG p2) * (1000 : Int32)))])) _
                        refine XS.iadd X11.here hx rfl (hb hby d8_122) rfl ?_
                        show Steps p.tables e below (T11.setTop (mkF m 123 #[.val (.int p1), .val (.int p2), .val (.int p3), .val (.int p4), .val (.int p5), .val (.int p6), .val (.int p7), .val (.int p8), .val (.int (fDG p2)), .val (.int (fDG p3)), .val (.int (fDG p4)), .val (.int (fDG p5)), .val (.int (fDG p7)), .val (.int (fDG p8)), .val (.int (((fDG p7) * (10 : Int32)) + (fDG p8))), .unset] [(.int (((fDG p2) * (1000 : Int32)) + ((fDG p3) * (100 : Int32))))])) _
                        refine XS.iload X11.here hx rfl (hb hby d8_123) rfl ?_
                        show Steps p.tables e below (T11.setTop (mkF m 125 #[.val (.int p1), .val (.int p2), .val (.int p3), .val (.int p4), .val (.int p5), .val (.int p6), .val (.int p7), .val (.int p8), .val (.int (fDG p2)), .val (.int (fDG p3)), .val (.int (fDG p4)), .val (.int (fDG p5)), .val (.int (fDG p7)), .val (.int (fDG p8)), .val (.int (((fDG p7) * (10 : Int32)) + (fDG p8))), .unset] [(.int (fDG p4)), (.int (((fDG p2) * (1000 : Int32)) + ((fDG p3) * (100 : Int32))))])) _
                        refine XS.bipush X11.here hx rfl (hb hby d8_125) ?_
                        show Steps p.tables e below (T11.setTop (mkF m 127 #[.val (.int p1), .val (.int p2), .val (.int p3), .val (.int p4), .val (.int p5), .val (.int p6), .val (.int p7), .val (.int p8), .val (.int (fDG p2)), .val (.int (fDG p3)), .val (.int (fDG p4)), .val (.int (fDG p5)), .val (.int (fDG p7)), .val (.int (fDG p8)), .val (.int (((fDG p7) * (10 : Int32)) + (fDG p8))), .unset] [(.int (10 : Int32)), (.int (fDG p4)), (.int (((fDG p2) * (1000 : Int32)) + ((fDG p3) * (100 : Int32))))])) _
                        refine XS.imul X11.here hx rfl (hb hby d8_127) rfl ?_
                        show Steps p.tables e below (T11.setTop (mkF m 128 #[.val (.int p1), .val (.int p2), .val (.int p3), .val (.int p4), .val (.int p5), .val (.int p6), .val (.int p7), .val (.int p8), .val (.int (fDG p2)), .val (.int (fDG p3)), .val (.int (fDG p4)), .val (.int (fDG p5)), .val (.int (fDG p7)), .val (.int (fDG p8)), .val (.int (((fDG p7) * (10 : Int32)) + (fDG p8))), .unset] [(.int ((fDG p4) * (10 : Int32))), (.int (((fDG p2) * (1000 : Int32)) + ((fDG p3) * (100 : Int32))))])) _
                        refine XS.iadd X11.here hx rfl (hb hby d8_128) rfl ?_
                        show Steps p.tables e below (T11.setTop (mkF m 129 #[.val (.int p1), .val (.int p2), .val (.int p3), .val (.int p4), .val (.int p5), .val (.int p6), .val (.int p7), .val (.int p8), .val (.int (fDG p2)), .val (.int (fDG p3)), .val (.int (fDG p4)), .val (.int (fDG p5)), .val (.int (fDG p7)), .val (.int (fDG p8)), .val (.int (((fDG p7) * (10 : Int32)) + (fDG p8))), .unset] [(.int ((((fDG p2) * (1000 : Int32)) + ((fDG p3) * (100 : Int32))) + ((fDG p4) * (10 : Int32))))])) _
                        refine XS.iload X11.here hx rfl (hb hby d8_129) rfl ?_
                        show Steps p.tables e below (T11.setTop (mkF m 131 #[.val (.int p1), .val (.int p2), .val (.int p3), .val (.int p4), .val (.int p5), .val (.int p6), .val (.int p7), .val (.int p8), .val (.int (fDG p2)), .val (.int (fDG p3)), .val (.int (fDG p4)), .val (.int (fDG p5)), .val (.int (fDG p7)), .val (.int (fDG p8)), .val (.int (((fDG p7) * (10 : Int32)) + (fDG p8))), .unset] [(.int (fDG p5)), (.int ((((fDG p2) * (1000 : Int32)) + ((fDG p3) * (100 : Int32))) + ((fDG p4) * (10 : Int32))))])) _
                        refine XS.iadd X11.here hx rfl (hb hby d8_131) rfl ?_
                        show Steps p.tables e below (T11.setTop (mkF m 132 #[.val (.int p1), .val (.int p2), .val (.int p3), .val (.int p4), .val (.int p5), .val (.int p6), .val (.int p7), .val (.int p8), .val (.int (fDG p2)), .val (.int (fDG p3)), .val (.int (fDG p4)), .val (.int (fDG p5)), .val (.int (fDG p7)), .val (.int (fDG p8)), .val (.int (((fDG p7) * (10 : Int32)) + (fDG p8))), .unset] [(.int (((((fDG p2) * (1000 : Int32)) + ((fDG p3) * (100 : Int32))) + ((fDG p4) * (10 : Int32))) + (fDG p5)))])) _
                        refine XS.istore X11.here hx rfl (hb hby d8_132) rfl (l' := #[.val (.int p1), .val (.int p2), .val (.int p3), .val (.int p4), .val (.int p5), .val (.int p6), .val (.int p7), .val (.int p8), .val (.int (fDG p2)), .val (.int (fDG p3)), .val (.int (fDG p4)), .val (.int (fDG p5)), .val (.int (fDG p7)), .val (.int (fDG p8)), .val (.int (((fDG p7) * (10 : Int32)) + (fDG p8))), .val (.int (((((fDG p2) * (1000 : Int32)) + ((fDG p3) * (100 : Int32))) + ((fDG p4) * (10 : Int32))) + (fDG p5)))]) rfl ?_
                        show Steps p.tables e below (T11.setTop (mkF m 134 #[.val (.int p1), .val (.int p2), .val (.int p3), .val (.int p4), .val (.int p5), .val (.int p6), .val (.int p7), .val (.int p8), .val (.int (fDG p2)), .val (.int (fDG p3)), .val (.int (fDG p4)), .val (.int (fDG p5)), .val (.int (fDG p7)), .val (.int (fDG p8)), .val (.int (((fDG p7) * (10 : Int32)) + (fDG p8))), .val (.int (((((fDG p2) * (1000 : Int32)) + ((fDG p3) * (100 : Int32))) + ((fDG p4) * (10 : Int32))) + (fDG p5)))] [])) _
                        refine XS.iload X11.here hx rfl (hb hby d8_134) rfl ?_
                        show Steps p.tables e below (T11.setTop (mkF m 136 #[.val (.int p1), .val (.int p2), .val (.int p3), .val (.int p4), .val (.int p5), .val (.int p6), .val (.int p7), .val (.int p8), .val (.int (fDG p2)), .val (.int (fDG p3)), .val (.int (fDG p4)), .val (.int (fDG p5)), .val (.int (fDG p7)), .val (.int (fDG p8)), .val (.int (((fDG p7) * (10 : Int32)) + (fDG p8))), .val (.int (((((fDG p2) * (1000 : Int32)) + ((fDG p3) * (100 : Int32))) + ((fDG p4) * (10 : Int32))) + (fDG p5)))] [(.int (((((fDG p2) * (1000 : Int32)) + ((fDG p3) * (100 : Int32))) + ((fDG p4) * (10 : Int32))) + (fDG p5)))])) _
                        refine XS.bipush X11.here hx rfl (hb hby d8_136) ?_
                        show Steps p.tables e below (T11.setTop (mkF m 138 #[.val (.int p1), .val (.int p2), .val (.int p3), .val (.int p4), .val (.int p5), .val (.int p6), .val (.int p7), .val (.int p8), .val (.int (fDG p2)), .val (.int (fDG p3)), .val (.int (fDG p4)), .val (.int (fDG p5)), .val (.int (fDG p7)), .val (.int (fDG p8)), .val (.int (((fDG p7) * (10 : Int32)) + (fDG p8))), .val (.int (((((fDG p2) * (1000 : Int32)) + ((fDG p3) * (100 : Int32))) + ((fDG p4) * (10 : Int32))) + (fDG p5)))] [(.int (12 : Int32)), (.int (((((fDG p2) * (1000 : Int32)) + ((fDG p3) * (100 : Int32))) + ((fDG p4) * (10 : Int32))) + (fDG p5)))])) _
                        refine XS.imul X11.here hx rfl (hb hby d8_138) rfl ?_
                        show Steps p.tables e below (T11.setTop (mkF m 139 #[.val (.int p1), .val (.int p2), .val (.int p3), .val (.int p4), .val (.int p5), .val (.int p6), .val (.int p7), .val (.int p8), .val (.int (fDG p2)), .val (.int (fDG p3)), .val (.int (fDG p4)), .val (.int (fDG p5)), .val (.int (fDG p7)), .val (.int (fDG p8)), .val (.int (((fDG p7) * (10 : Int32)) + (fDG p8))), .val (.int (((((fDG p2) * (1000 : Int32)) + ((fDG p3) * (100 : Int32))) + ((fDG p4) * (10 : Int32))) + (fDG p5)))] [(.int ((((((fDG p2) * (1000 : Int32)) + ((fDG p3) * (100 : Int32))) + ((fDG p4) * (10 : Int32))) + (fDG p5)) * (12 : Int32)))])) _
                        refine XS.iload X11.here hx rfl (hb hby d8_139) rfl ?_
                        show Steps p.tables e below (T11.setTop (mkF m 141 #[.val (.int p1), .val (.int p2), .val (.int p3), .val (.int p4), .val (.int p5), .val (.int p6), .val (.int p7), .val (.int p8), .val (.int (fDG p2)), .val (.int (fDG p3)), .val (.int (fDG p4)), .val (.int (fDG p5)), .val (.int (fDG p7)), .val (.int (fDG p8)), .val (.int (((fDG p7) * (10 : Int32)) + (fDG p8))), .val (.int (((((fDG p2) * (1000 : Int32)) + ((fDG p3) * (100 : Int32))) + ((fDG p4) * (10 : Int32))) + (fDG p5)))] [(.int (((fDG p7) * (10 : Int32)) + (fDG p8))), (.int ((((((fDG p2) * (1000 : Int32)) + ((fDG p3) * (100 : Int32))) + ((fDG p4) * (10 : Int32))) + (fDG p5)) * (12 : Int32)))])) _
                        refine XS.iadd X11.here hx rfl (hb hby d8_141) rfl ?_
                        show Steps p.tables e below (T11.setTop (mkF m 142 #[.val (.int p1), .val (.int p2), .val (.int p3), .val (.int p4), .val (.int p5), .val (.int p6), .val (.int p7), .val (.int p8), .val (.int (fDG p2)), .val (.int (fDG p3)), .val (.int (fDG p4)), .val (.int (fDG p5)), .val (.int (fDG p7)), .val (.int (fDG p8)), .val (.int (((fDG p7) * (10 : Int32)) + (fDG p8))), .val (.int (((((fDG p2) * (1000 : Int32)) + ((fDG p3) * (100 : Int32))) + ((fDG p4) * (10 : Int32))) + (fDG p5)))] [(.int (((((((fDG p2) * (1000 : Int32)) + ((fDG p3) * (100 : Int32))) + ((fDG p4) * (10 : Int32))) + (fDG p5)) * (12 : Int32)) + (((fDG p7) * (10 : Int32)) + (fDG p8))))])) _
                        refine XS.iconst X11.here hx rfl (hb hby d8_142) ?_
                        show Steps p.tables e below (T11.setTop (mkF m 143 #[.val (.int p1), .val (.int p2), .val (.int p3), .val (.int p4), .val (.int p5), .val (.int p6), .val (.int p7), .val (.int p8), .val (.int (fDG p2)), .val (.int (fDG p3)), .val (.int (fDG p4)), .val (.int (fDG p5)), .val (.int (fDG p7)), .val (.int (fDG p8)), .val (.int (((fDG p7) * (10 : Int32)) + (fDG p8))), .val (.int (((((fDG p2) * (1000 : Int32)) + ((fDG p3) * (100 : Int32))) + ((fDG p4) * (10 : Int32))) + (fDG p5)))] [(.int (1 : Int32)), (.int (((((((fDG p2) * (1000 : Int32)) + ((fDG p3) * (100 : Int32))) + ((fDG p4) * (10 : Int32))) + (fDG p5)) * (12 : Int32)) + (((fDG p7) * (10 : Int32)) + (fDG p8))))])) _
                        refine XS.isub X11.here hx rfl (hb hby d8_143) rfl ?_
                        show Steps p.tables e below (T11.setTop (mkF m 144 #[.val (.int p1), .val (.int p2), .val (.int p3), .val (.int p4), .val (.int p5), .val (.int p6), .val (.int p7), .val (.int p8), .val (.int (fDG p2)), .val (.int (fDG p3)), .val (.int (fDG p4)), .val (.int (fDG p5)), .val (.int (fDG p7)), .val (.int (fDG p8)), .val (.int (((fDG p7) * (10 : Int32)) + (fDG p8))), .val (.int (((((fDG p2) * (1000 : Int32)) + ((fDG p3) * (100 : Int32))) + ((fDG p4) * (10 : Int32))) + (fDG p5)))] [(.int ((((((((fDG p2) * (1000 : Int32)) + ((fDG p3) * (100 : Int32))) + ((fDG p4) * (10 : Int32))) + (fDG p5)) * (12 : Int32)) + (((fDG p7) * (10 : Int32)) + (fDG p8))) - (1 : Int32)))])) _
                        exact retI X11 hx Bd.returns (hb hby d8_144) hr
                      · show QRF Z p1 p2 p3 p4 p5 p6 p7 p8 h0 n0 _ T11.heap _
                        rw [e11]
                        exact ⟨congrArg some (congrArg Value.int (show ((((((((fDG p2) * (1000 : Int32)) + ((fDG p3) * (100 : Int32))) + ((fDG p4) * (10 : Int32))) + (fDG p5)) * (12 : Int32)) + (((fDG p7) * (10 : Int32)) + (fDG p8))) - (1 : Int32)) = (fRF p1 p2 p3 p4 p5 p6 p7 p8) from by rw [fRF, if_pos hc3, if_pos hc10, if_neg hc56, if_neg hc61, if_neg hc66, if_neg hc71, if_neg hc76, if_neg hc81, if_neg hc99, if_neg hc106])), N11, rfl⟩
    ·
      obtain ⟨fs, hr, hrun, hended, hW, hsame⟩ := X0.leave (v := some (.int (-1 : Int32))) (fun h => by rw [Bd.returns] at h; cases h)
      refine ⟨_, _, pre5 _ ?_, hrun, hended, _, _, rfl, ?_, ⟨_, rfl⟩, hW, hsame.mono (by decide) (by decide)⟩
      · show Steps p.tables e below (s₁.setTop (mkF m 10 #[.val (.int p1), .val (.int p2), .val (.int p3), .val (.int p4), .val (.int p5), .val (.int p6), .val (.int p7), .val (.int p8), .unset, .unset, .unset, .unset, .unset, .unset, .unset, .unset] [(.int (45 : Int32)), (.int p6)])) _
        refine XS.icmpNo X0.here hx rfl (hb hby d8_10) rfl (feq hc10).1 ?_
        show Steps p.tables e below (s₁.setTop (mkF m 13 #[.val (.int p1), .val (.int p2), .val (.int p3), .val (.int p4), .val (.int p5), .val (.int p6), .val (.int p7), .val (.int p8), .unset, .unset, .unset, .unset, .unset, .unset, .unset, .unset] [])) _
        refine XS.iconst X0.here hx rfl (hb hby d8_13) ?_
        show Steps p.tables e below (s₁.setTop (mkF m 14 #[.val (.int p1), .val (.int p2), .val (.int p3), .val (.int p4), .val (.int p5), .val (.int p6), .val (.int p7), .val (.int p8), .unset, .unset, .unset, .unset, .unset, .unset, .unset, .unset] [(.int (-1 : Int32))])) _
        exact retI X0 hx Bd.returns (hb hby d8_14) hr
      · show QRF Z p1 p2 p3 p4 p5 p6 p7 p8 h0 n0 _ s₁.heap _
        rw [e0]
        exact ⟨congrArg some (congrArg Value.int (show (-1 : Int32) = (fRF p1 p2 p3 p4 p5 p6 p7 p8) from by rw [fRF, if_pos hc3, if_neg hc10])), N0, rfl⟩
  ·
    obtain ⟨fs, hr, hrun, hended, hW, hsame⟩ := X0.leave (v := some (.int (-1 : Int32))) (fun h => by rw [Bd.returns] at h; cases h)
    refine ⟨_, _, pre4 _ ?_, hrun, hended, _, _, rfl, ?_, ⟨_, rfl⟩, hW, hsame.mono (by decide) (by decide)⟩
    · show Steps p.tables e below (s₁.setTop (mkF m 3 #[.val (.int p1), .val (.int p2), .val (.int p3), .val (.int p4), .val (.int p5), .val (.int p6), .val (.int p7), .val (.int p8), .unset, .unset, .unset, .unset, .unset, .unset, .unset, .unset] [(.int (7 : Int32)), (.int p1)])) _
      refine XS.icmpYes X0.here hx rfl (pc0 := 3) (pc' := 13) rfl (hb hby d8_3) rfl (feq hc3).2 (by decide) (by decide) ?_
      show Steps p.tables e below (s₁.setTop (mkF m 13 #[.val (.int p1), .val (.int p2), .val (.int p3), .val (.int p4), .val (.int p5), .val (.int p6), .val (.int p7), .val (.int p8), .unset, .unset, .unset, .unset, .unset, .unset, .unset, .unset] [])) _
      refine XS.iconst X0.here hx rfl (hb hby d8_13) ?_
      show Steps p.tables e below (s₁.setTop (mkF m 14 #[.val (.int p1), .val (.int p2), .val (.int p3), .val (.int p4), .val (.int p5), .val (.int p6), .val (.int p7), .val (.int p8), .unset, .unset, .unset, .unset, .unset, .unset, .unset, .unset] [(.int (-1 : Int32))])) _
      exact retI X0 hx Bd.returns (hb hby d8_14) hr
    · show QRF Z p1 p2 p3 p4 p5 p6 p7 p8 h0 n0 _ s₁.heap _
      rw [e0]
      exact ⟨congrArg some (congrArg Value.int (show (-1 : Int32) = (fRF p1 p2 p3 p4 p5 p6 p7 p8) from by rw [fRF, if_neg hc3])), N0, rfl⟩
def QD4 (Z : State) (a1 : Addr) (c0 : Int32) (c1 : Int32) (c2 : Int32) (c3 : Int32) (c4 : Int32) (c5 : Int32) (c6 : Int32) (zc : Int32) (fm : Value) (h0 : Heap) (n0 : Nat) (v : Option Value) (h : Heap) (L : List Loc) : Prop := v = some (.int (fD4 c0 c1 c2 c3)) ∧ Fr n0 L ∧ h = h0
theorem ef_D4 (m : MethodId) (a1 : Addr) : entryFrame m #[(.ref a1), (.int (0 : Int32)), (.int (4 : Int32))] 6 = mkF m 0 #[.val (.ref a1), .val (.int (0 : Int32)), .val (.int (4 : Int32)), .unset, .unset, .unset] [] := by first | (simp [entryFrame, mkF, argsToLocals, Value.category]; done) | rfl
set_option maxRecDepth 65536 in
set_option maxHeartbeats 40000000 in
theorem rmD4 (l : Launch) (Z : State) (a0 : Array Value) (hw : ∀ d ∈ tables_1, d.before a0 Z = true) (ws : List Jvm.Cond) (a1 : Addr) (c0 : Int32) (c1 : Int32) (c2 : Int32) (c3 : Int32) (c4 : Int32) (c5 : Int32) (c6 : Int32) (zc : Int32) (fm : Value) (h0 : Heap) (n0 : Nat) (Zs : n0 ≤ h0.size) (E_a1 : Exa Z h0 a1 "java/lang/String") (T_a1 : Stx Z h0 a1 [c0, c1, c2, c3, c4, c5, c6]) (Ol : Old Z n0 h0) (S_COMPACT_STRINGS : Sta Z Z.heap "java/lang/String" "COMPACT_STRINGS" "Z" (.int zc)) (S_SIOOBE_FORMATTER : Sta Z Z.heap "jdk/internal/util/Preconditions" "SIOOBE_FORMATTER" "Ljava/util/function/BiFunction;" fm) (hzc : ¬ zc = 0) (hfm : fm.isRef = true) :
    MetFree l (⟨"com/example/reta/reta/calendar/Months", "digits", "(Ljava/lang/CharSequence;II)I"⟩ : MethodName) (head1 (Jvm.Cond.code (⟨"com/example/reta/reta/calendar/Months", "digits", "(Ljava/lang/CharSequence;II)I"⟩ : MethodName) prog_1_method_7_code 6 (some .int) :: ws) ({ frames := 4, cells := 0, slots := 0, locals := 53 } : Room)) (fun a U => a = #[(.ref a1), (.int (0 : Int32)), (.int (4 : Int32))] ∧ Z.Warmed39 U.vm ∧ U.heap = h0) (fun _ _ _ _ _ => True) (fun _ U o U' => ∃ v L, o = .returned v ∧ QD4 Z a1 c0 c1 c2 c3 c4 c5 c6 zc fm h0 n0 v U'.heap L ∧ FrameEnd U o U' L ({ frames := 4, cells := 0, slots := 0, locals := 53 } : Room).cells ({ frames := 4, cells := 0, slots := 0, locals := 53 } : Room).slots) := by
  refine MetFree.of_bodySF (plainFor_of_name pn_1) hisR ?_
  intro p e s m args below meth c s₁ Bd hml0 hP hK
  obtain ⟨rfl, hZ, hh⟩ := hP
  have hx := Bd.exec
  have hby := Bd.bytes
  have hml : c.maxLocals = 6 := hml0
  have hown : s.vm.findClass "com/example/reta/reta/calendar/Months" = some m.cls := findClass_of_methodNamed Bd.named
  have hnm := (name_of_methodNamed Bd.named Bd.method).1
  have X0 : Stand p l e ({ frames := 4, cells := 0, slots := 0, locals := 53 } : Room) s m #[(.ref a1), (.int (0 : Int32)), (.int (4 : Int32))] below meth c s₁ [] 0 0 := Stand.of_body Bd
  have e0 : s₁.heap = h0 := by rw [← hh, Bd.state]; rfl
  have N0 := Fr.nil n0
  have pre0 : ∀ t, Steps p.tables e below (s₁.setTop (mkF m 0 #[.val (.ref a1), .val (.int (0 : Int32)), .val (.int (4 : Int32)), .unset, .unset, .unset] [])) t → Steps p.tables e below (s₁.setTop (entryFrame m #[(.ref a1), (.int (0 : Int32)), (.int (4 : Int32))] 6)) t := fun t k => castTop (ef_D4 m a1) k
  obtain ⟨cq20, kq20, q20a, q20b, q20c⟩ := isOf hZ e0 E_a1
  obtain ⟨_, _, ⟨T20, L20, k20, n20⟩, -, X20, ⟨Lc20, hQ20, l20, y20, z20⟩, st20⟩ := X0.interfaceBack hx (xi := (⟨"java/lang/CharSequence", "charAt", "(I)C"⟩ : MethodName)) (y := (⟨"java/lang/String", "charAt", "(I)C"⟩ : MethodName)) hown (mvT hZ (hw _ (List.mem_of_getElem? (i := 67) rfl))) (mvT hZ (hw _ (List.mem_of_getElem? (i := 68) rfl))) (mvT hZ (hw _ (List.mem_of_getElem? (i := 69) rfl))) (mvT hZ (hw _ (List.mem_of_getElem? (i := 70) rfl))) (mvT hZ (hw _ (List.mem_of_getElem? (i := 71) rfl))) (mvT hZ (hw _ (List.mem_of_getElem? (i := 72) rfl))) (mvT hZ (hw _ (List.mem_of_getElem? (i := 73) rfl))) (mvT hZ (hw _ (List.mem_of_getElem? (i := 48) rfl))) (by decide) (own_chr (W := 0) hZ hw T_a1 (Sta.ext Ol.2 S_COMPACT_STRINGS) hzc (Sta.ext Ol.2 S_SIOOBE_FORMATTER) hfm (i := 0) (j := (0 : Int32)) (Nat.le_of_ble_eq_true rfl) rfl (by decide) (by decide)) q20a q20b q20c (g := (mkF m 14 #[.val (.ref a1), .val (.int (0 : Int32)), .val (.int (4 : Int32)), .val (.int (0 : Int32)), .val (.int (0 : Int32)), .unset] [(.int (0 : Int32)), (.ref a1)])) rfl (by rw [hml]; rfl) (Steps.refl _) (argsL := [(.int (0 : Int32))]) (rest := []) (lenOf pd_1 rfl) rfl (by show 2 * 0 + _ ≤ _; exact Nat.le_of_eq rfl) (hb hby d18_14) (fun _ _ => ⟨rfl, e0, (by decide : 0 + 0 ≤ _), (by decide : 0 + 0 ≤ _)⟩)
  dsimp only [Pt.U, Pt.locs, Pt.cells, Pt.slots] at X20 l20 y20 z20 st20 hQ20
  subst l20 y20 z20
  obtain ⟨rfl, rfl, e20⟩ := hQ20
  have N20 := Fr.app N0 (Fr.nil n0)
  have pre21 : ∀ t, Steps p.tables e below (T20.setTop (mkF m 25 #[.val (.ref a1), .val (.int (0 : Int32)), .val (.int (4 : Int32)), .val (.int (0 : Int32)), .val (.int (0 : Int32)), .val (.int c0)] [(.int (48 : Int32)), (.int c0)])) t → Steps p.tables e below (s₁.setTop (entryFrame m #[(.ref a1), (.int (0 : Int32)), (.int (4 : Int32))] 6)) t := fun t k => pre0 t (by
    show Steps p.tables e below (s₁.setTop (mkF m 0 #[.val (.ref a1), .val (.int (0 : Int32)), .val (.int (4 : Int32)), .unset, .unset, .unset] [])) _
    refine XS.iconst X0.here hx rfl (hb hby d18_0) ?_
    show Steps p.tables e below (s₁.setTop (mkF m 1 #[.val (.ref a1), .val (.int (0 : Int32)), .val (.int (4 : Int32)), .unset, .unset, .unset] [(.int (0 : Int32))])) _
    refine XS.istoreN X0.here hx rfl (hb hby d18_1) rfl (l' := #[.val (.ref a1), .val (.int (0 : Int32)), .val (.int (4 : Int32)), .val (.int (0 : Int32)), .unset, .unset]) rfl ?_
    show Steps p.tables e below (s₁.setTop (mkF m 2 #[.val (.ref a1), .val (.int (0 : Int32)), .val (.int (4 : Int32)), .val (.int (0 : Int32)), .unset, .unset] [])) _
    refine XS.iloadN X0.here hx rfl (hb hby d18_2) rfl ?_
    show Steps p.tables e below (s₁.setTop (mkF m 3 #[.val (.ref a1), .val (.int (0 : Int32)), .val (.int (4 : Int32)), .val (.int (0 : Int32)), .unset, .unset] [(.int (0 : Int32))])) _
    refine XS.istore X0.here hx rfl (hb hby d18_3) rfl (l' := #[.val (.ref a1), .val (.int (0 : Int32)), .val (.int (4 : Int32)), .val (.int (0 : Int32)), .val (.int (0 : Int32)), .unset]) rfl ?_
    show Steps p.tables e below (s₁.setTop (mkF m 5 #[.val (.ref a1), .val (.int (0 : Int32)), .val (.int (4 : Int32)), .val (.int (0 : Int32)), .val (.int (0 : Int32)), .unset] [])) _
    refine XS.iload X0.here hx rfl (hb hby d18_5) rfl ?_
    show Steps p.tables e below (s₁.setTop (mkF m 7 #[.val (.ref a1), .val (.int (0 : Int32)), .val (.int (4 : Int32)), .val (.int (0 : Int32)), .val (.int (0 : Int32)), .unset] [(.int (0 : Int32))])) _
    refine XS.iloadN X0.here hx rfl (hb hby d18_7) rfl ?_
    show Steps p.tables e below (s₁.setTop (mkF m 8 #[.val (.ref a1), .val (.int (0 : Int32)), .val (.int (4 : Int32)), .val (.int (0 : Int32)), .val (.int (0 : Int32)), .unset] [(.int (4 : Int32)), (.int (0 : Int32))])) _
    refine XS.icmpNo X0.here hx rfl (hb hby d18_8) rfl (tlt (by decide)).2.1 ?_
    show Steps p.tables e below (s₁.setTop (mkF m 11 #[.val (.ref a1), .val (.int (0 : Int32)), .val (.int (4 : Int32)), .val (.int (0 : Int32)), .val (.int (0 : Int32)), .unset] [])) _
    refine XS.aloadN X0.here hx rfl (hb hby d18_11) rfl rfl ?_
    show Steps p.tables e below (s₁.setTop (mkF m 12 #[.val (.ref a1), .val (.int (0 : Int32)), .val (.int (4 : Int32)), .val (.int (0 : Int32)), .val (.int (0 : Int32)), .unset] [(.ref a1)])) _
    refine XS.iload X0.here hx rfl (hb hby d18_12) rfl ?_
    show Steps p.tables e below (s₁.setTop (mkF m 14 #[.val (.ref a1), .val (.int (0 : Int32)), .val (.int (4 : Int32)), .val (.int (0 : Int32)), .val (.int (0 : Int32)), .unset] [(.int (0 : Int32)), (.ref a1)])) _
    refine st20.trans ?_
    show Steps p.tables e below (T20.setTop (mkF m 19 #[.val (.ref a1), .val (.int (0 : Int32)), .val (.int (4 : Int32)), .val (.int (0 : Int32)), .val (.int (0 : Int32)), .unset] [(.int c0)])) _
    refine XS.istore X20.here hx rfl (hb hby d18_19) rfl (l' := #[.val (.ref a1), .val (.int (0 : Int32)), .val (.int (4 : Int32)), .val (.int (0 : Int32)), .val (.int (0 : Int32)), .val (.int c0)]) rfl ?_
    show Steps p.tables e below (T20.setTop (mkF m 21 #[.val (.ref a1), .val (.int (0 : Int32)), .val (.int (4 : Int32)), .val (.int (0 : Int32)), .val (.int (0 : Int32)), .val (.int c0)] [])) _
    refine XS.iload X20.here hx rfl (hb hby d18_21) rfl ?_
    show Steps p.tables e below (T20.setTop (mkF m 23 #[.val (.ref a1), .val (.int (0 : Int32)), .val (.int (4 : Int32)), .val (.int (0 : Int32)), .val (.int (0 : Int32)), .val (.int c0)] [(.int c0)])) _
    refine XS.bipush X20.here hx rfl (hb hby d18_23) ?_
    exact k)
  by_cases hc25 : c0 < (48 : Int32)
  ·
    obtain ⟨fs, hr, hrun, hended, hW, hsame⟩ := X20.leave (v := some (.int (-1 : Int32))) (fun h => by rw [Bd.returns] at h; cases h)
    refine ⟨_, _, pre21 _ ?_, hrun, hended, _, _, rfl, ?_, ⟨_, rfl⟩, hW, hsame.mono (by decide) (by decide)⟩
    · show Steps p.tables e below (T20.setTop (mkF m 25 #[.val (.ref a1), .val (.int (0 : Int32)), .val (.int (4 : Int32)), .val (.int (0 : Int32)), .val (.int (0 : Int32)), .val (.int c0)] [(.int (48 : Int32)), (.int c0)])) _
      refine XS.icmpYes X20.here hx rfl (pc0 := 25) (pc' := 35) rfl (hb hby d18_25) rfl (tlt hc25).1 (by decide) (by decide) ?_
      show Steps p.tables e below (T20.setTop (mkF m 35 #[.val (.ref a1), .val (.int (0 : Int32)), .val (.int (4 : Int32)), .val (.int (0 : Int32)), .val (.int (0 : Int32)), .val (.int c0)] [])) _
      refine XS.iconst X20.here hx rfl (hb hby d18_35) ?_
      show Steps p.tables e below (T20.setTop (mkF m 36 #[.val (.ref a1), .val (.int (0 : Int32)), .val (.int (4 : Int32)), .val (.int (0 : Int32)), .val (.int (0 : Int32)), .val (.int c0)] [(.int (-1 : Int32))])) _
      exact retI X20 hx Bd.returns (hb hby d18_36) hr
    · show QD4 Z a1 c0 c1 c2 c3 c4 c5 c6 zc fm h0 n0 _ T20.heap _
      rw [e20]
      exact ⟨congrArg some (congrArg Value.int (show (-1 : Int32) = (fD4 c0 c1 c2 c3) from by rw [fD4, if_pos hc25])), N20, rfl⟩
  ·
    have pre22 : ∀ t, Steps p.tables e below (T20.setTop (mkF m 32 #[.val (.ref a1), .val (.int (0 : Int32)), .val (.int (4 : Int32)), .val (.int (0 : Int32)), .val (.int (0 : Int32)), .val (.int c0)] [(.int (57 : Int32)), (.int c0)])) t → Steps p.tables e below (s₁.setTop (entryFrame m #[(.ref a1), (.int (0 : Int32)), (.int (4 : Int32))] 6)) t := fun t k => pre21 t (by
      show Steps p.tables e below (T20.setTop (mkF m 25 #[.val (.ref a1), .val (.int (0 : Int32)), .val (.int (4 : Int32)), .val (.int (0 : Int32)), .val (.int (0 : Int32)), .val (.int c0)] [(.int (48 : Int32)), (.int c0)])) _
      refine XS.icmpNo X20.here hx rfl (hb hby d18_25) rfl (flt hc25).1 ?_
      show Steps p.tables e below (T20.setTop (mkF m 28 #[.val (.ref a1), .val (.int (0 : Int32)), .val (.int (4 : Int32)), .val (.int (0 : Int32)), .val (.int (0 : Int32)), .val (.int c0)] [])) _
      refine XS.iload X20.here hx rfl (hb hby d18_28) rfl ?_
      show Steps p.tables e below (T20.setTop (mkF m 30 #[.val (.ref a1), .val (.int (0 : Int32)), .val (.int (4 : Int32)), .val (.int (0 : Int32)), .val (.int (0 : Int32)), .val (.int c0)] [(.int c0)])) _
      refine XS.bipush X20.here hx rfl (hb hby d18_30) ?_
      exact k)
    by_cases hc32 : (57 : Int32) < c0
    ·
      obtain ⟨fs, hr, hrun, hended, hW, hsame⟩ := X20.leave (v := some (.int (-1 : Int32))) (fun h => by rw [Bd.returns] at h; cases h)
      refine ⟨_, _, pre22 _ ?_, hrun, hended, _, _, rfl, ?_, ⟨_, rfl⟩, hW, hsame.mono (by decide) (by decide)⟩
      · show Steps p.tables e below (T20.setTop (mkF m 32 #[.val (.ref a1), .val (.int (0 : Int32)), .val (.int (4 : Int32)), .val (.int (0 : Int32)), .val (.int (0 : Int32)), .val (.int c0)] [(.int (57 : Int32)), (.int c0)])) _
        refine XS.icmpNo X20.here hx rfl (hb hby d18_32) rfl (tlt hc32).2.2.2 ?_
        show Steps p.tables e below (T20.setTop (mkF m 35 #[.val (.ref a1), .val (.int (0 : Int32)), .val (.int (4 : Int32)), .val (.int (0 : Int32)), .val (.int (0 : Int32)), .val (.int c0)] [])) _
        refine XS.iconst X20.here hx rfl (hb hby d18_35) ?_
        show Steps p.tables e below (T20.setTop (mkF m 36 #[.val (.ref a1), .val (.int (0 : Int32)), .val (.int (4 : Int32)), .val (.int (0 : Int32)), .val (.int (0 : Int32)), .val (.int c0)] [(.int (-1 : Int32))])) _
        exact retI X20 hx Bd.returns (hb hby d18_36) hr
      · show QD4 Z a1 c0 c1 c2 c3 c4 c5 c6 zc fm h0 n0 _ T20.heap _
        rw [e20]
        exact ⟨congrArg some (congrArg Value.int (show (-1 : Int32) = (fD4 c0 c1 c2 c3) from by rw [fD4, if_neg hc25, if_pos hc32])), N20, rfl⟩
    ·
      obtain ⟨cq23, kq23, q23a, q23b, q23c⟩ := isOf hZ e20 E_a1
      obtain ⟨_, _, ⟨T23, L23, k23, n23⟩, -, X23, ⟨Lc23, hQ23, l23, y23, z23⟩, st23⟩ := X20.interfaceBack hx (xi := (⟨"java/lang/CharSequence", "charAt", "(I)C"⟩ : MethodName)) (y := (⟨"java/lang/String", "charAt", "(I)C"⟩ : MethodName)) hown (mvT hZ (hw _ (List.mem_of_getElem? (i := 67) rfl))) (mvT hZ (hw _ (List.mem_of_getElem? (i := 68) rfl))) (mvT hZ (hw _ (List.mem_of_getElem? (i := 69) rfl))) (mvT hZ (hw _ (List.mem_of_getElem? (i := 70) rfl))) (mvT hZ (hw _ (List.mem_of_getElem? (i := 71) rfl))) (mvT hZ (hw _ (List.mem_of_getElem? (i := 72) rfl))) (mvT hZ (hw _ (List.mem_of_getElem? (i := 73) rfl))) (mvT hZ (hw _ (List.mem_of_getElem? (i := 48) rfl))) (by decide) (own_chr (W := 0) hZ hw T_a1 (Sta.ext Ol.2 S_COMPACT_STRINGS) hzc (Sta.ext Ol.2 S_SIOOBE_FORMATTER) hfm (i := 1) (j := (1 : Int32)) (Nat.le_of_ble_eq_true rfl) rfl (by decide) (by decide)) q23a q23b q23c (g := (mkF m 14 #[.val (.ref a1), .val (.int (0 : Int32)), .val (.int (4 : Int32)), .val (.int ((0 : Int32) + (c0 - (48 : Int32)))), .val (.int (1 : Int32)), .val (.int c0)] [(.int (1 : Int32)), (.ref a1)])) rfl (by rw [hml]; rfl) (Steps.refl _) (argsL := [(.int (1 : Int32))]) (rest := []) (lenOf pd_1 rfl) rfl (by show 2 * 0 + _ ≤ _; exact Nat.le_of_eq rfl) (hb hby d18_14) (fun _ _ => ⟨rfl, e20, (by decide : 0 + 0 ≤ _), (by decide : 0 + 0 ≤ _)⟩)
      dsimp only [Pt.U, Pt.locs, Pt.cells, Pt.slots] at X23 l23 y23 z23 st23 hQ23
      subst l23 y23 z23
      obtain ⟨rfl, rfl, e23⟩ := hQ23
      have N23 := Fr.app N20 (Fr.nil n0)
      have pre24 : ∀ t, Steps p.tables e below (T23.setTop (mkF m 25 #[.val (.ref a1), .val (.int (0 : Int32)), .val (.int (4 : Int32)), .val (.int ((0 : Int32) + (c0 - (48 : Int32)))), .val (.int (1 : Int32)), .val (.int c1)] [(.int (48 : Int32)), (.int c1)])) t → Steps p.tables e below (s₁.setTop (entryFrame m #[(.ref a1), (.int (0 : Int32)), (.int (4 : Int32))] 6)) t := fun t k => pre22 t (by
        show Steps p.tables e below (T20.setTop (mkF m 32 #[.val (.ref a1), .val (.int (0 : Int32)), .val (.int (4 : Int32)), .val (.int (0 : Int32)), .val (.int (0 : Int32)), .val (.int c0)] [(.int (57 : Int32)), (.int c0)])) _
        refine XS.icmpYes X20.here hx rfl (pc0 := 32) (pc' := 37) rfl (hb hby d18_32) rfl (flt hc32).2.2.2 (by decide) (by decide) ?_
        show Steps p.tables e below (T20.setTop (mkF m 37 #[.val (.ref a1), .val (.int (0 : Int32)), .val (.int (4 : Int32)), .val (.int (0 : Int32)), .val (.int (0 : Int32)), .val (.int c0)] [])) _
        refine XS.iloadN X20.here hx rfl (hb hby d18_37) rfl ?_
        show Steps p.tables e below (T20.setTop (mkF m 38 #[.val (.ref a1), .val (.int (0 : Int32)), .val (.int (4 : Int32)), .val (.int (0 : Int32)), .val (.int (0 : Int32)), .val (.int c0)] [(.int (0 : Int32))])) _
        refine XS.bipush X20.here hx rfl (hb hby d18_38) ?_
        show Steps p.tables e below (T20.setTop (mkF m 40 #[.val (.ref a1), .val (.int (0 : Int32)), .val (.int (4 : Int32)), .val (.int (0 : Int32)), .val (.int (0 : Int32)), .val (.int c0)] [(.int (10 : Int32)), (.int (0 : Int32))])) _
        refine XS.imul X20.here hx rfl (hb hby d18_40) rfl ?_
        show Steps p.tables e below (T20.setTop (mkF m 41 #[.val (.ref a1), .val (.int (0 : Int32)), .val (.int (4 : Int32)), .val (.int (0 : Int32)), .val (.int (0 : Int32)), .val (.int c0)] [(.int (0 : Int32))])) _
        refine XS.iload X20.here hx rfl (hb hby d18_41) rfl ?_
        show Steps p.tables e below (T20.setTop (mkF m 43 #[.val (.ref a1), .val (.int (0 : Int32)), .val (.int (4 : Int32)), .val (.int (0 : Int32)), .val (.int (0 : Int32)), .val (.int c0)] [(.int c0), (.int (0 : Int32))])) _
        refine XS.bipush X20.here hx rfl (hb hby d18_43) ?_
        show Steps p.tables e below (T20.setTop (mkF m 45 #[.val (.ref a1), .val (.int (0 : Int32)), .val (.int (4 : Int32)), .val (.int (0 : Int32)), .val (.int (0 : Int32)), .val (.int c0)] [(.int (48 : Int32)), (.int c0), (.int (0 : Int32))])) _
        refine XS.isub X20.here hx rfl (hb hby d18_45) rfl ?_
        show Steps p.tables e below (T20.setTop (mkF m 46 #[.val (.ref a1), .val (.int (0 : Int32)), .val (.int (4 : Int32)), .val (.int (0 : Int32)), .val (.int (0 : Int32)), .val (.int c0)] [(.int (c0 - (48 : Int32))), (.int (0 : Int32))])) _
        refine XS.iadd X20.here hx rfl (hb hby d18_46) rfl ?_
        show Steps p.tables e below (T20.setTop (mkF m 47 #[.val (.ref a1), .val (.int (0 : Int32)), .val (.int (4 : Int32)), .val (.int (0 : Int32)), .val (.int (0 : Int32)), .val (.int c0)] [(.int ((0 : Int32) + (c0 - (48 : Int32))))])) _
        refine XS.istoreN X20.here hx rfl (hb hby d18_47) rfl (l' := #[.val (.ref a1), .val (.int (0 : Int32)), .val (.int (4 : Int32)), .val (.int ((0 : Int32) + (c0 - (48 : Int32)))), .val (.int (0 : Int32)), .val (.int c0)]) rfl ?_
        show Steps p.tables e below (T20.setTop (mkF m 48 #[.val (.ref a1), .val (.int (0 : Int32)), .val (.int (4 : Int32)), .val (.int ((0 : Int32) + (c0 - (48 : Int32)))), .val (.int (0 : Int32)), .val (.int c0)] [])) _
        refine XS.iinc X20.here hx rfl (hb hby d18_48) rfl (l' := #[.val (.ref a1), .val (.int (0 : Int32)), .val (.int (4 : Int32)), .val (.int ((0 : Int32) + (c0 - (48 : Int32)))), .val (.int (1 : Int32)), .val (.int c0)]) rfl ?_
        show Steps p.tables e below (T20.setTop (mkF m 51 #[.val (.ref a1), .val (.int (0 : Int32)), .val (.int (4 : Int32)), .val (.int ((0 : Int32) + (c0 - (48 : Int32)))), .val (.int (1 : Int32)), .val (.int c0)] [])) _
        refine XS.goto X20.here hx rfl (pc0 := 51) (pc' := 5) rfl (hb hby d18_51) (by decide) (by decide) ?_
        show Steps p.tables e below (T20.setTop (mkF m 5 #[.val (.ref a1), .val (.int (0 : Int32)), .val (.int (4 : Int32)), .val (.int ((0 : Int32) + (c0 - (48 : Int32)))), .val (.int (1 : Int32)), .val (.int c0)] [])) _
        refine XS.iload X20.here hx rfl (hb hby d18_5) rfl ?_
        show Steps p.tables e below (T20.setTop (mkF m 7 #[.val (.ref a1), .val (.int (0 : Int32)), .val (.int (4 : Int32)), .val (.int ((0 : Int32) + (c0 - (48 : Int32)))), .val (.int (1 : Int32)), .val (.int c0)] [(.int (1 : Int32))])) _
        refine XS.iloadN X20.here hx rfl (hb hby d18_7) rfl ?_
        show Steps p.tables e below (T20.setTop (mkF m 8 #[.val (.ref a1), .val (.int (0 : Int32)), .val (.int (4 : Int32)), .val (.int ((0 : Int32) + (c0 - (48 : Int32)))), .val (.int (1 : Int32)), .val (.int c0)] [(.int (4 : Int32)), (.int (1 : Int32))])) _
        refine XS.icmpNo X20.here hx rfl (hb hby d18_8) rfl (tlt (by decide)).2.1 ?_
        show Steps p.tables e below (T20.setTop (mkF m 11 #[.val (.ref a1), .val (.int (0 : Int32)), .val (.int (4 : Int32)), .val (.int ((0 : Int32) + (c0 - (48 : Int32)))), .val (.int (1 : Int32)), .val (.int c0)] [])) _
        refine XS.aloadN X20.here hx rfl (hb hby d18_11) rfl rfl ?_
        show Steps p.tables e below (T20.setTop (mkF m 12 #[.val (.ref a1), .val (.int (0 : Int32)), .val (.int (4 : Int32)), .val (.int ((0 : Int32) + (c0 - (48 : Int32)))), .val (.int (1 : Int32)), .val (.int c0)] [(.ref a1)])) _
        refine XS.iload X20.here hx rfl (hb hby d18_12) rfl ?_
        show Steps p.tables e below (T20.setTop (mkF m 14 #[.val (.ref a1), .val (.int (0 : Int32)), .val (.int (4 : Int32)), .val (.int ((0 : Int32) + (c0 - (48 : Int32)))), .val (.int (1 : Int32)), .val (.int c0)] [(.int (1 : Int32)), (.ref a1)])) _
        refine st23.trans ?_
        show Steps p.tables e below (T23.setTop (mkF m 19 #[.val (.ref a1), .val (.int (0 : Int32)), .val (.int (4 : Int32)), .val (.int ((0 : Int32) + (c0 - (48 : Int32)))), .val (.int (1 : Int32)), .val (.int c0)] [(.int c1)])) _
        refine XS.istore X23.here hx rfl (hb hby d18_19) rfl (l' := #[.val (.ref a1), .val (.int (0 : Int32)), .val (.int (4 : Int32)), .val (.int ((0 : Int32) + (c0 - (48 : Int32)))), .val (.int (1 : Int32)), .val (.int c1)]) rfl ?_
        show Steps p.tables e below (T23.setTop (mkF m 21 #[.val (.ref a1), .val (.int (0 : Int32)), .val (.int (4 : Int32)), .val (.int ((0 : Int32) + (c0 - (48 : Int32)))), .val (.int (1 : Int32)), .val (.int c1)] [])) _
        refine XS.iload X23.here hx rfl (hb hby d18_21) rfl ?_
        show Steps p.tables e below (T23.setTop (mkF m 23 #[.val (.ref a1), .val (.int (0 : Int32)), .val (.int (4 : Int32)), .val (.int ((0 : Int32) + (c0 - (48 : Int32)))), .val (.int (1 : Int32)), .val (.int c1)] [(.int c1)])) _
        refine XS.bipush X23.here hx rfl (hb hby d18_23) ?_
        exact k)
      by_cases hc25b : c1 < (48 : Int32)
      ·
        obtain ⟨fs, hr, hrun, hended, hW, hsame⟩ := X23.leave (v := some (.int (-1 : Int32))) (fun h => by rw [Bd.returns] at h; cases h)
        refine ⟨_, _, pre24 _ ?_, hrun, hended, _, _, rfl, ?_, ⟨_, rfl⟩, hW, hsame.mono (by decide) (by decide)⟩
        · show Steps p.tables e below (T23.setTop (mkF m 25 #[.val (.ref a1), .val (.int (0 : Int32)), .val (.int (4 : Int32)), .val (.int ((0 : Int32) + (c0 - (48 : Int32)))), .val (.int (1 : Int32)), .val (.int c1)] [(.int (48 : Int32)), (.int c1)])) _
          refine XS.icmpYes X23.here hx rfl (pc0 := 25) (pc' := 35) rfl (hb hby d18_25) rfl (tlt hc25b).1 (by decide) (by decide) ?_
          show Steps p.tables e below (T23.setTop (mkF m 35 #[.val (.ref a1), .val (.int (0 : Int32)), .val (.int (4 : Int32)), .val (.int ((0 : Int32) + (c0 - (48 : Int32)))), .val (.int (1 : Int32)), .val (.int c1)] [])) _
          refine XS.iconst X23.here hx rfl (hb hby d18_35) ?_
          show Steps p.tables e below (T23.setTop (mkF m 36 #[.val (.ref a1), .val (.int (0 : Int32)), .val (.int (4 : Int32)), .val (.int ((0 : Int32) + (c0 - (48 : Int32)))), .val (.int (1 : Int32)), .val (.int c1)] [(.int (-1 : Int32))])) _
          exact retI X23 hx Bd.returns (hb hby d18_36) hr
        · show QD4 Z a1 c0 c1 c2 c3 c4 c5 c6 zc fm h0 n0 _ T23.heap _
          rw [e23]
          exact ⟨congrArg some (congrArg Value.int (show (-1 : Int32) = (fD4 c0 c1 c2 c3) from by rw [fD4, if_neg hc25, if_neg hc32, if_pos hc25b])), N23, rfl⟩
      ·
        have pre25 : ∀ t, Steps p.tables e below (T23.setTop (mkF m 32 #[.val (.ref a1), .val (.int (0 : Int32)), .val (.int (4 : Int32)), .val (.int ((0 : Int32) + (c0 - (48 : Int32)))), .val (.int (1 : Int32)), .val (.int c1)] [(.int (57 : Int32)), (.int c1)])) t → Steps p.tables e below (s₁.setTop (entryFrame m #[(.ref a1), (.int (0 : Int32)), (.int (4 : Int32))] 6)) t := fun t k => pre24 t (by
          show Steps p.tables e below (T23.setTop (mkF m 25 #[.val (.ref a1), .val (.int (0 : Int32)), .val (.int (4 : Int32)), .val (.int ((0 : Int32) + (c0 - (48 : Int32)))), .val (.int (1 : Int32)), .val (.int c1)] [(.int (48 : Int32)), (.int c1)])) _
          refine XS.icmpNo X23.here hx rfl (hb hby d18_25) rfl (flt hc25b).1 ?_
          show Steps p.tables e below (T23.setTop (mkF m 28 #[.val (.ref a1), .val (.int (0 : Int32)), .val (.int (4 : Int32)), .val (.int ((0 : Int32) + (c0 - (48 : Int32)))), .val (.int (1 : Int32)), .val (.int c1)] [])) _
          refine XS.iload X23.here hx rfl (hb hby d18_28) rfl ?_
          show Steps p.tables e below (T23.setTop (mkF m 30 #[.val (.ref a1), .val (.int (0 : Int32)), .val (.int (4 : Int32)), .val (.int ((0 : Int32) + (c0 - (48 : Int32)))), .val (.int (1 : Int32)), .val (.int c1)] [(.int c1)])) _
          refine XS.bipush X23.here hx rfl (hb hby d18_30) ?_
          exact k)
        by_cases hc32b : (57 : Int32) < c1
        ·
          obtain ⟨fs, hr, hrun, hended, hW, hsame⟩ := X23.leave (v := some (.int (-1 : Int32))) (fun h => by rw [Bd.returns] at h; cases h)
          refine ⟨_, _, pre25 _ ?_, hrun, hended, _, _, rfl, ?_, ⟨_, rfl⟩, hW, hsame.mono (by decide) (by decide)⟩
          · show Steps p.tables e below (T23.setTop (mkF m 32 #[.val (.ref a1), .val (.int (0 : Int32)), .val (.int (4 : Int32)), .val (.int ((0 : Int32) + (c0 - (48 : Int32)))), .val (.int (1 : Int32)), .val (.int c1)] [(.int (57 : Int32)), (.int c1)])) _
            refine XS.icmpNo X23.here hx rfl (hb hby d18_32) rfl (tlt hc32b).2.2.2 ?_
            show Steps p.tables e below (T23.setTop (mkF m 35 #[.val (.ref a1), .val (.int (0 : Int32)), .val (.int (4 : Int32)), .val (.int ((0 : Int32) + (c0 - (48 : Int32)))), .val (.int (1 : Int32)), .val (.int c1)] [])) _
            refine XS.iconst X23.here hx rfl (hb hby d18_35) ?_
            show Steps p.tables e below (T23.setTop (mkF m 36 #[.val (.ref a1), .val (.int (0 : Int32)), .val (.int (4 : Int32)), .val (.int ((0 : Int32) + (c0 - (48 : Int32)))), .val (.int (1 : Int32)), .val (.int c1)] [(.int (-1 : Int32))])) _
            exact retI X23 hx Bd.returns (hb hby d18_36) hr
          · show QD4 Z a1 c0 c1 c2 c3 c4 c5 c6 zc fm h0 n0 _ T23.heap _
            rw [e23]
            exact ⟨congrArg some (congrArg Value.int (show (-1 : Int32) = (fD4 c0 c1 c2 c3) from by rw [fD4, if_neg hc25, if_neg hc32, if_neg hc25b, if_pos hc32b])), N23, rfl⟩
        ·
          obtain ⟨cq26, kq26, q26a, q26b, q26c⟩ := isOf hZ e23 E_a1
          obtain ⟨_, _, ⟨T26, L26, k26, n26⟩, -, X26, ⟨Lc26, hQ26, l26, y26, z26⟩, st26⟩ := X23.interfaceBack hx (xi := (⟨"java/lang/CharSequence", "charAt", "(I)C"⟩ : MethodName)) (y := (⟨"java/lang/String", "charAt", "(I)C"⟩ : MethodName)) hown (mvT hZ (hw _ (List.mem_of_getElem? (i := 67) rfl))) (mvT hZ (hw _ (List.mem_of_getElem? (i := 68) rfl))) (mvT hZ (hw _ (List.mem_of_getElem? (i := 69) rfl))) (mvT hZ (hw _ (List.mem_of_getElem? (i := 70) rfl))) (mvT hZ (hw _ (List.mem_of_getElem? (i := 71) rfl))) (mvT hZ (hw _ (List.mem_of_getElem? (i := 72) rfl))) (mvT hZ (hw _ (List.mem_of_getElem? (i := 73) rfl))) (mvT hZ (hw _ (List.mem_of_getElem? (i := 48) rfl))) (by decide) (own_chr (W := 0) hZ hw T_a1 (Sta.ext Ol.2 S_COMPACT_STRINGS) hzc (Sta.ext Ol.2 S_SIOOBE_FORMATTER) hfm (i := 2) (j := (2 : Int32)) (Nat.le_of_ble_eq_true rfl) rfl (by decide) (by decide)) q26a q26b q26c (g := (mkF m 14 #[.val (.ref a1), .val (.int (0 : Int32)), .val (.int (4 : Int32)), .val (.int ((((0 : Int32) + (c0 - (48 : Int32))) * (10 : Int32)) + (c1 - (48 : Int32)))), .val (.int (2 : Int32)), .val (.int c1)] [(.int (2 : Int32)), (.ref a1)])) rfl (by rw [hml]; rfl) (Steps.refl _) (argsL := [(.int (2 : Int32))]) (rest := []) (lenOf pd_1 rfl) rfl (by show 2 * 0 + _ ≤ _; exact Nat.le_of_eq rfl) (hb hby d18_14) (fun _ _ => ⟨rfl, e23, (by decide : 0 + 0 ≤ _), (by decide : 0 + 0 ≤ _)⟩)
          dsimp only [Pt.U, Pt.locs, Pt.cells, Pt.slots] at X26 l26 y26 z26 st26 hQ26
          subst l26 y26 z26
          obtain ⟨rfl, rfl, e26⟩ := hQ26
          have N26 := Fr.app N23 (Fr.nil n0)
          have pre27 : ∀ t, Steps p.tables e below (T26.setTop (mkF m 25 #[.val (.ref a1), .val (.int (0 : Int32)), .val (.int (4 : Int32)), .val (.int ((((0 : Int32) + (c0 - (48 : Int32))) * (10 : Int32)) + (c1 - (48 : Int32)))), .val (.int (2 : Int32)), .val (.int c2)] [(.int (48 : Int32)), (.int c2)])) t → Steps p.tables e below (s₁.setTop (entryFrame m #[(.ref a1), (.int (0 : Int32)), (.int (4 : Int32))] 6)) t := fun t k => pre25 t (by
            show Steps p.tables e below (T23.setTop (mkF m 32 #[.val (.ref a1), .val (.int (0 : Int32)), .val (.int (4 : Int32)), .val (.int ((0 : Int32) + (c0 - (48 : Int32)))), .val (.int (1 : Int32)), .val (.int c1)] [(.int (57 : Int32)), (.int c1)])) _
            refine XS.icmpYes X23.here hx rfl (pc0 := 32) (pc' := 37) rfl (hb hby d18_32) rfl (flt hc32b).2.2.2 (by decide) (by decide) ?_
            show Steps p.tables e below (T23.setTop (mkF m 37 #[.val (.ref a1), .val (.int (0 : Int32)), .val (.int (4 : Int32)), .val (.int ((0 : Int32) + (c0 - (48 : Int32)))), .val (.int (1 : Int32)), .val (.int c1)] [])) _
            refine XS.iloadN X23.here hx rfl (hb hby d18_37) rfl ?_
            show Steps p.tables e below (T23.setTop (mkF m 38 #[.val (.ref a1), .val (.int (0 : Int32)), .val (.int (4 : Int32)), .val (.int ((0 : Int32) + (c0 - (48 : Int32)))), .val (.int (1 : Int32)), .val (.int c1)] [(.int ((0 : Int32) + (c0 - (48 : Int32))))])) _
            refine XS.bipush X23.here hx rfl (hb hby d18_38) ?_
            show Steps p.tables e below (T23.setTop (mkF m 40 #[.val (.ref a1), .val (.int (0 : Int32)), .val (.int (4 : Int32)), .val (.int ((0 : Int32) + (c0 - (48 : Int32)))), .val (.int (1 : Int32)), .val (.int c1)] [(.int (10 : Int32)), (.int ((0 : Int32) + (c0 - (48 : Int32))))])) _
            refine XS.imul X23.here hx rfl (hb hby d18_40) rfl ?_
            show Steps p.tables e below (T23.setTop (mkF m 41 #[.val (.ref a1), .val (.int (0 : Int32)), .val (.int (4 : Int32)), .val (.int ((0 : Int32) + (c0 - (48 : Int32)))), .val (.int (1 : Int32)), .val (.int c1)] [(.int (((0 : Int32) + (c0 - (48 : Int32))) * (10 : Int32)))])) _
            refine XS.iload X23.here hx rfl (hb hby d18_41) rfl ?_
            show Steps p.tables e below (T23.setTop (mkF m 43 #[.val (.ref a1), .val (.int (0 : Int32)), .val (.int (4 : Int32)), .val (.int ((0 : Int32) + (c0 - (48 : Int32)))), .val (.int (1 : Int32)), .val (.int c1)] [(.int c1), (.int (((0 : Int32) + (c0 - (48 : Int32))) * (10 : Int32)))])) _
            refine XS.bipush X23.here hx rfl (hb hby d18_43) ?_
            show Steps p.tables e below (T23.setTop (mkF m 45 #[.val (.ref a1), .val (.int (0 : Int32)), .val (.int (4 : Int32)), .val (.int ((0 : Int32) + (c0 - (48 : Int32)))), .val (.int (1 : Int32)), .val (.int c1)] [(.int (48 : Int32)), (.int c1), (.int (((0 : Int32) + (c0 - (48 : Int32))) * (10 : Int32)))])) _
            refine XS.isub X23.here hx rfl (hb hby d18_45) rfl ?_
            show Steps p.tables e below (T23.setTop (mkF m 46 #[.val (.ref a1), .val (.int (0 : Int32)), .val (.int (4 : Int32)), .val (.int ((0 : Int32) + (c0 - (48 : Int32)))), .val (.int (1 : Int32)), .val (.int c1)] [(.int (c1 - (48 : Int32))), (.int (((0 : Int32) + (c0 - (48 : Int32))) * (10 : Int32)))])) _
            refine XS.iadd X23.here hx rfl (hb hby d18_46) rfl ?_
            show Steps p.tables e below (T23.setTop (mkF m 47 #[.val (.ref a1), .val (.int (0 : Int32)), .val (.int (4 : Int32)), .val (.int ((0 : Int32) + (c0 - (48 : Int32)))), .val (.int (1 : Int32)), .val (.int c1)] [(.int ((((0 : Int32) + (c0 - (48 : Int32))) * (10 : Int32)) + (c1 - (48 : Int32))))])) _
            refine XS.istoreN X23.here hx rfl (hb hby d18_47) rfl (l' := #[.val (.ref a1), .val (.int (0 : Int32)), .val (.int (4 : Int32)), .val (.int ((((0 : Int32) + (c0 - (48 : Int32))) * (10 : Int32)) + (c1 - (48 : Int32)))), .val (.int (1 : Int32)), .val (.int c1)]) rfl ?_
            show Steps p.tables e below (T23.setTop (mkF m 48 #[.val (.ref a1), .val (.int (0 : Int32)), .val (.int (4 : Int32)), .val (.int ((((0 : Int32) + (c0 - (48 : Int32))) * (10 : Int32)) + (c1 - (48 : Int32)))), .val (.int (1 : Int32)), .val (.int c1)] [])) _
            refine XS.iinc X23.here hx rfl (hb hby d18_48) rfl (l' := #[.val (.ref a1), .val (.int (0 : Int32)), .val (.int (4 : Int32)), .val (.int ((((0 : Int32) + (c0 - (48 : Int32))) * (10 : Int32)) + (c1 - (48 : Int32)))), .val (.int (2 : Int32)), .val (.int c1)]) rfl ?_
            show Steps p.tables e below (T23.setTop (mkF m 51 #[.val (.ref a1), .val (.int (0 : Int32)), .val (.int (4 : Int32)), .val (.int ((((0 : Int32) + (c0 - (48 : Int32))) * (10 : Int32)) + (c1 - (48 : Int32)))), .val (.int (2 : Int32)), .val (.int c1)] [])) _
            refine XS.goto X23.here hx rfl (pc0 := 51) (pc' := 5) rfl (hb hby d18_51) (by decide) (by decide) ?_
            show Steps p.tables e below (T23.setTop (mkF m 5 #[.val (.ref a1), .val (.int (0 : Int32)), .val (.int (4 : Int32)), .val (.int ((((0 : Int32) + (c0 - (48 : Int32))) * (10 : Int32)) + (c1 - (48 : Int32)))), .val (.int (2 : Int32)), .val (.int c1)] [])) _
            refine XS.iload X23.here hx rfl (hb hby d18_5) rfl ?_
            show Steps p.tables e below (T23.setTop (mkF m 7 #[.val (.ref a1), .val (.int (0 : Int32)), .val (.int (4 : Int32)), .val (.int ((((0 : Int32) + (c0 - (48 : Int32))) * (10 : Int32)) + (c1 - (48 : Int32)))), .val (.int (2 : Int32)), .val (.int c1)] [(.int (2 : Int32))])) _
            refine XS.iloadN X23.here hx rfl (hb hby d18_7) rfl ?_
            show Steps p.tables e below (T23.setTop (mkF m 8 #[.val (.ref a1), .val (.int (0 : Int32)), .val (.int (4 : Int32)), .val (.int ((((0 : Int32) + (c0 - (48 : Int32))) * (10 : Int32)) + (c1 - (48 : Int32)))), .val (.int (2 : Int32)), .val (.int c1)] [(.int (4 : Int32)), (.int (2 : Int32))])) _
            refine XS.icmpNo X23.here hx rfl (hb hby d18_8) rfl (tlt (by decide)).2.1 ?_
            show Steps p.tables e below (T23.setTop (mkF m 11 #[.val (.ref a1), .val (.int (0 : Int32)), .val (.int (4 : Int32)), .val (.int ((((0 : Int32) + (c0 - (48 : Int32))) * (10 : Int32)) + (c1 - (48 : Int32)))), .val (.int (2 : Int32)), .val (.int c1)] [])) _
            refine XS.aloadN X23.here hx rfl (hb hby d18_11) rfl rfl ?_
            show Steps p.tables e below (T23.setTop (mkF m 12 #[.val (.ref a1), .val (.int (0 : Int32)), .val (.int (4 : Int32)), .val (.int ((((0 : Int32) + (c0 - (48 : Int32))) * (10 : Int32)) + (c1 - (48 : Int32)))), .val (.int (2 : Int32)), .val (.int c1)] [(.ref a1)])) _
            refine XS.iload X23.here hx rfl (hb hby d18_12) rfl ?_
            show Steps p.tables e below (T23.setTop (mkF m 14 #[.val (.ref a1), .val (.int (0 : Int32)), .val (.int (4 : Int32)), .val (.int ((((0 : Int32) + (c0 - (48 : Int32))) * (10 : Int32)) + (c1 - (48 : Int32)))), .val (.int (2 : Int32)), .val (.int c1)] [(.int (2 : Int32)), (.ref a1)])) _
            refine st26.trans ?_
            show Steps p.tables e below (T26.setTop (mkF m 19 #[.val (.ref a1), .val (.int (0 : Int32)), .val (.int (4 : Int32)), .val (.int ((((0 : Int32) + (c0 - (48 : Int32))) * (10 : Int32)) + (c1 - (48 : Int32)))), .val (.int (2 : Int32)), .val (.int c1)] [(.int c2)])) _
            refine XS.istore X26.here hx rfl (hb hby d18_19) rfl (l' := #[.val (.ref a1), .val (.int (0 : Int32)), .val (.int (4 : Int32)), .val (.int ((((0 : Int32) + (c0 - (48 : Int32))) * (10 : Int32)) + (c1 - (48 : Int32)))), .val (.int (2 : Int32)), .val (.int c2)]) rfl ?_
            show Steps p.tables e below (T26.setTop (mkF m 21 #[.val (.ref a1), .val (.int (0 : Int32)), .val (.int (4 : Int32)), .val (.int ((((0 : Int32) + (c0 - (48 : Int32))) * (10 : Int32)) + (c1 - (48 : Int32)))), .val (.int (2 : Int32)), .val (.int c2)] [])) _
            refine XS.iload X26.here hx rfl (hb hby d18_21) rfl ?_
            show Steps p.tables e below (T26.setTop (mkF m 23 #[.val (.ref a1), .val (.int (0 : Int32)), .val (.int (4 : Int32)), .val (.int ((((0 : Int32) + (c0 - (48 : Int32))) * (10 : Int32)) + (c1 - (48 : Int32)))), .val (.int (2 : Int32)), .val (.int c2)] [(.int c2)])) _
            refine XS.bipush X26.here hx rfl (hb hby d18_23) ?_
            exact k)
          by_cases hc25bb : c2 < (48 : Int32)
          ·
            obtain ⟨fs, hr, hrun, hended, hW, hsame⟩ := X26.leave (v := some (.int (-1 : Int32))) (fun h => by rw [Bd.returns] at h; cases h)
            refine ⟨_, _, pre27 _ ?_, hrun, hended, _, _, rfl, ?_, ⟨_, rfl⟩, hW, hsame.mono (by decide) (by decide)⟩
            · show Steps p.tables e below (T26.setTop (mkF m 25 #[.val (.ref a1), .val (.int (0 : Int32)), .val (.int (4 : Int32)), .val (.int ((((0 : Int32) + (c0 - (48 : Int32))) * (10 : Int32)) + (c1 - (48 : Int32)))), .val (.int (2 : Int32)), .val (.int c2)] [(.int (48 : Int32)), (.int c2)])) _
              refine XS.icmpYes X26.here hx rfl (pc0 := 25) (pc' := 35) rfl (hb hby d18_25) rfl (tlt hc25bb).1 (by decide) (by decide) ?_
              show Steps p.tables e below (T26.setTop (mkF m 35 #[.val (.ref a1), .val (.int (0 : Int32)), .val (.int (4 : Int32)), .val (.int ((((0 : Int32) + (c0 - (48 : Int32))) * (10 : Int32)) + (c1 - (48 : Int32)))), .val (.int (2 : Int32)), .val (.int c2)] [])) _
              refine XS.iconst X26.here hx rfl (hb hby d18_35) ?_
              show Steps p.tables e below (T26.setTop (mkF m 36 #[.val (.ref a1), .val (.int (0 : Int32)), .val (.int (4 : Int32)), .val (.int ((((0 : Int32) + (c0 - (48 : Int32))) * (10 : Int32)) + (c1 - (48 : Int32)))), .val (.int (2 : Int32)), .val (.int c2)] [(.int (-1 : Int32))])) _
              exact retI X26 hx Bd.returns (hb hby d18_36) hr
            · show QD4 Z a1 c0 c1 c2 c3 c4 c5 c6 zc fm h0 n0 _ T26.heap _
              rw [e26]
              exact ⟨congrArg some (congrArg Value.int (show (-1 : Int32) = (fD4 c0 c1 c2 c3) from by rw [fD4, if_neg hc25, if_neg hc32, if_neg hc25b, if_neg hc32b, if_pos hc25bb])), N26, rfl⟩
          ·
            have pre28 : ∀ t, Steps p.tables e below (T26.setTop (mkF m 32 #[.val (.ref a1), .val (.int (0 : Int32)), .val (.int (4 : Int32)), .val (.int ((((0 : Int32) + (c0 - (48 : Int32))) * (10 : Int32)) + (c1 - (48 : Int32)))), .val (.int (2 : Int32)), .val (.int c2)] [(.int (57 : Int32)), (.int c2)])) t → Steps p.tables e below (s₁.setTop (entryFrame m #[(.ref a1), (.int (0 : Int32)), (.int (4 : Int32))] 6)) t := fun t k => pre27 t (by
              show Steps p.tables e below (T26.setTop (mkF m 25 #[.val (.ref a1), .val (.int (0 : Int32)), .val (.int (4 : Int32)), .val (.int ((((0 : Int32) + (c0 - (48 : Int32))) * (10 : Int32)) + (c1 - (48 : Int32)))), .val (.int (2 : Int32)), .val (.int c2)] [(.int (48 : Int32)), (.int c2)])) _
              refine XS.icmpNo X26.here hx rfl (hb hby d18_25) rfl (flt hc25bb).1 ?_
              show Steps p.tables e below (T26.setTop (mkF m 28 #[.val (.ref a1), .val (.int (0 : Int32)), .val (.int (4 : Int32)), .val (.int ((((0 : Int32) + (c0 - (48 : Int32))) * (10 : Int32)) + (c1 - (48 : Int32)))), .val (.int (2 : Int32)), .val (.int c2)] [])) _
              refine XS.iload X26.here hx rfl (hb hby d18_28) rfl ?_
              show Steps p.tables e below (T26.setTop (mkF m 30 #[.val (.ref a1), .val (.int (0 : Int32)), .val (.int (4 : Int32)), .val (.int ((((0 : Int32) + (c0 - (48 : Int32))) * (10 : Int32)) + (c1 - (48 : Int32)))), .val (.int (2 : Int32)), .val (.int c2)] [(.int c2)])) _
              refine XS.bipush X26.here hx rfl (hb hby d18_30) ?_
              exact k)
            by_cases hc32bb : (57 : Int32) < c2
            ·
              obtain ⟨fs, hr, hrun, hended, hW, hsame⟩ := X26.leave (v := some (.int (-1 : Int32))) (fun h => by rw [Bd.returns] at h; cases h)
              refine ⟨_, _, pre28 _ ?_, hrun, hended, _, _, rfl, ?_, ⟨_, rfl⟩, hW, hsame.mono (by decide) (by decide)⟩
              · show Steps p.tables e below (T26.setTop (mkF m 32 #[.val (.ref a1), .val (.int (0 : Int32)), .val (.int (4 : Int32)), .val (.int ((((0 : Int32) + (c0 - (48 : Int32))) * (10 : Int32)) + (c1 - (48 : Int32)))), .val (.int (2 : Int32)), .val (.int c2)] [(.int (57 : Int32)), (.int c2)])) _
                refine XS.icmpNo X26.here hx rfl (hb hby d18_32) rfl (tlt hc32bb).2.2.2 ?_
                show Steps p.tables e below (T26.setTop (mkF m 35 #[.val (.ref a1), .val (.int (0 : Int32)), .val (.int (4 : Int32)), .val (.int ((((0 : Int32) + (c0 - (48 : Int32))) * (10 : Int32)) + (c1 - (48 : Int32)))), .val (.int (2 : Int32)), .val (.int c2)] [])) _
                refine XS.iconst X26.here hx rfl (hb hby d18_35) ?_
                show Steps p.tables e below (T26.setTop (mkF m 36 #[.val (.ref a1), .val (.int (0 : Int32)), .val (.int (4 : Int32)), .val (.int ((((0 : Int32) + (c0 - (48 : Int32))) * (10 : Int32)) + (c1 - (48 : Int32)))), .val (.int (2 : Int32)), .val (.int c2)] [(.int (-1 : Int32))])) _
                exact retI X26 hx Bd.returns (hb hby d18_36) hr
              · show QD4 Z a1 c0 c1 c2 c3 c4 c5 c6 zc fm h0 n0 _ T26.heap _
                rw [e26]
                exact ⟨congrArg some (congrArg Value.int (show (-1 : Int32) = (fD4 c0 c1 c2 c3) from by rw [fD4, if_neg hc25, if_neg hc32, if_neg hc25b, if_neg hc32b, if_neg hc25bb, if_pos hc32bb])), N26, rfl⟩
            ·
              obtain ⟨cq29, kq29, q29a, q29b, q29c⟩ := isOf hZ e26 E_a1
              obtain ⟨_, _, ⟨T29, L29, k29, n29⟩, -, X29, ⟨Lc29, hQ29, l29, y29, z29⟩, st29⟩ := X26.interfaceBack hx (xi := (⟨"java/lang/CharSequence", "charAt", "(I)C"⟩ : MethodName)) (y := (⟨"java/lang/String", "charAt", "(I)C"⟩ : MethodName)) hown (mvT hZ (hw _ (List.mem_of_getElem? (i := 67) rfl))) (mvT hZ (hw _ (List.mem_of_getElem? (i := 68) rfl))) (mvT hZ (hw _ (List.mem_of_getElem? (i := 69) rfl))) (mvT hZ (hw _ (List.mem_of_getElem? (i := 70) rfl))) (mvT hZ (hw _ (List.mem_of_getElem? (i := 71) rfl))) (mvT hZ (hw _ (List.mem_of_getElem? (i := 72) rfl))) (mvT hZ (hw _ (List.mem_of_getElem? (i := 73) rfl))) (mvT hZ (hw _ (List.mem_of_getElem? (i := 48) rfl))) (by decide) (own_chr (W := 0) hZ hw T_a1 (Sta.ext Ol.2 S_COMPACT_STRINGS) hzc (Sta.ext Ol.2 S_SIOOBE_FORMATTER) hfm (i := 3) (j := (3 : Int32)) (Nat.le_of_ble_eq_true rfl) rfl (by decide) (by decide)) q29a q29b q29c (g := (mkF m 14 #[.val (.ref a1), .val (.int (0 : Int32)), .val (.int (4 : Int32)), .val (.int ((((((0 : Int32) + (c0 - (48 : Int32))) * (10 : Int32)) + (c1 - (48 : Int32))) * (10 : Int32)) + (c2 - (48 : Int32)))), .val (.int (3 : Int32)), .val (.int c2)] [(.int (3 : Int32)), (.ref a1)])) rfl (by rw [hml]; rfl) (Steps.refl _) (argsL := [(.int (3 : Int32))]) (rest := []) (lenOf pd_1 rfl) rfl (by show 2 * 0 + _ ≤ _; exact Nat.le_of_eq rfl) (hb hby d18_14) (fun _ _ => ⟨rfl, e26, (by decide : 0 + 0 ≤ _), (by decide : 0 + 0 ≤ _)⟩)
              dsimp only [Pt.U, Pt.locs, Pt.cells, Pt.slots] at X29 l29 y29 z29 st29 hQ29
              subst l29 y29 z29
              obtain ⟨rfl, rfl, e29⟩ := hQ29
              have N29 := Fr.app N26 (Fr.nil n0)
              have pre30 : ∀ t, Steps p.tables e below (T29.setTop (mkF m 25 #[.val (.ref a1), .val (.int (0 : Int32)), .val (.int (4 : Int32)), .val (.int ((((((0 : Int32) + (c0 - (48 : Int32))) * (10 : Int32)) + (c1 - (48 : Int32))) * (10 : Int32)) + (c2 - (48 : Int32)))), .val (.int (3 : Int32)), .val (.int c3)] [(.int (48 : Int32)), (.int c3)])) t → Steps p.tables e below (s₁.setTop (entryFrame m #[(.ref a1), (.int (0 : Int32)), (.int (4 : Int32))] 6)) t := fun t k => pre28 t (by
                show Steps p.tables e below (T26.setTop (mkF m 32 #[.val (.ref a1), .val (.int (0 : Int32)), .val (.int (4 : Int32)), .val (.int ((((0 : Int32) + (c0 - (48 : Int32))) * (10 : Int32)) + (c1 - (48 : Int32)))), .val (.int (2 : Int32)), .val (.int c2)] [(.int (57 : Int32)), (.int c2)])) _
                refine XS.icmpYes X26.here hx rfl (pc0 := 32) (pc' := 37) rfl (hb hby d18_32) rfl (flt hc32bb).2.2.2 (by decide) (by decide) ?_
                show Steps p.tables e below (T26.setTop (mkF m 37 #[.val (.ref a1), .val (.int (0 : Int32)), .val (.int (4 : Int32)), .val (.int ((((0 : Int32) + (c0 - (48 : Int32))) * (10 : Int32)) + (c1 - (48 : Int32)))), .val (.int (2 : Int32)), .val (.int c2)] [])) _
                refine XS.iloadN X26.here hx rfl (hb hby d18_37) rfl ?_
                show Steps p.tables e below (T26.setTop (mkF m 38 #[.val (.ref a1), .val (.int (0 : Int32)), .val (.int (4 : Int32)), .val (.int ((((0 : Int32) + (c0 - (48 : Int32))) * (10 : Int32)) + (c1 - (48 : Int32)))), .val (.int (2 : Int32)), .val (.int c2)] [(.int ((((0 : Int32) + (c0 - (48 : Int32))) * (10 : Int32)) + (c1 - (48 : Int32))))])) _
                refine XS.bipush X26.here hx rfl (hb hby d18_38) ?_
                show Steps p.tables e below (T26.setTop (mkF m 40 #[.val (.ref a1), .val (.int (0 : Int32)), .val (.int (4 : Int32)), .val (.int ((((0 : Int32) + (c0 - (48 : Int32))) * (10 : Int32)) + (c1 - (48 : Int32)))), .val (.int (2 : Int32)), .val (.int c2)] [(.int (10 : Int32)), (.int ((((0 : Int32) + (c0 - (48 : Int32))) * (10 : Int32)) + (c1 - (48 : Int32))))])) _
                refine XS.imul X26.here hx rfl (hb hby d18_40) rfl ?_
                show Steps p.tables e below (T26.setTop (mkF m 41 #[.val (.ref a1), .val (.int (0 : Int32)), .val (.int (4 : Int32)), .val (.int ((((0 : Int32) + (c0 - (48 : Int32))) * (10 : Int32)) + (c1 - (48 : Int32)))), .val (.int (2 : Int32)), .val (.int c2)] [(.int (((((0 : Int32) + (c0 - (48 : Int32))) * (10 : Int32)) + (c1 - (48 : Int32))) * (10 : Int32)))])) _
                refine XS.iload X26.here hx rfl (hb hby d18_41) rfl ?_
                show Steps p.tables e below (T26.setTop (mkF m 43 #[.val (.ref a1), .val (.int (0 : Int32)), .val (.int (4 : Int32)), .val (.int ((((0 : Int32) + (c0 - (48 : Int32))) * (10 : Int32)) + (c1 - (48 : Int32)))), .val (.int (2 : Int32)), .val (.int c2)] [(.int c2), (.int (((((0 : Int32) + (c0 - (48 : Int32))) * (10 : Int32)) + (c1 - (48 : Int32))) * (10 : Int32)))])) _
                refine XS.bipush X26.here hx rfl (hb hby d18_43) ?_
                show Steps p.tables e below (T26.setTop (mkF m 45 #[.val (.ref a1), .val (.int (0 : Int32)), .val (.int (4 : Int32)), .val (.int ((((0 : Int32) + (c0 - (48 : Int32))) * (10 : Int32)) + (c1 - (48 : Int32)))), .val (.int (2 : Int32)), .val (.int c2)] [(.int (48 : Int32)), (.int c2), (.int (((((0 : Int32) + (c0 - (48 : Int32))) * (10 : Int32)) + (c1 - (48 : Int32))) * (10 : Int32)))])) _
                refine XS.isub X26.here hx rfl (hb hby d18_45) rfl ?_
                show Steps p.tables e below (T26.setTop (mkF m 46 #[.val (.ref a1), .val (.int (0 : Int32)), .val (.int (4 : Int32)), .val (.int ((((0 : Int32) + (c0 - (48 : Int32))) * (10 : Int32)) + (c1 - (48 : Int32)))), .val (.int (2 : Int32)), .val (.int c2)] [(.int (c2 - (48 : Int32))), (.int (((((0 : Int32) + (c0 - (48 : Int32))) * (10 : Int32)) + (c1 - (48 : Int32))) * (10 : Int32)))])) _
                refine XS.iadd X26.here hx rfl (hb hby d18_46) rfl ?_
                show Steps p.tables e below (T26.setTop (mkF m 47 #[.val (.ref a1), .val (.int (0 : Int32)), .val (.int (4 : Int32)), .val (.int ((((0 : Int32) + (c0 - (48 : Int32))) * (10 : Int32)) + (c1 - (48 : Int32)))), .val (.int (2 : Int32)), .val (.int c2)] [(.int ((((((0 : Int32) + (c0 - (48 : Int32))) * (10 : Int32)) + (c1 - (48 : Int32))) * (10 : Int32)) + (c2 - (48 : Int32))))])) _
                refine XS.istoreN X26.here hx rfl (hb hby d18_47) rfl (l' := #[.val (.ref a1), .val (.int (0 : Int32)), .val (.int (4 : Int32)), .val (.int ((((((0 : Int32) + (c0 - (48 : Int32))) * (10 : Int32)) + (c1 - (48 : Int32))) * (10 : Int32)) + (c2 - (48 : Int32)))), .val (.int (2 : Int32)), .val (.int c2)]) rfl ?_
                show Steps p.tables e below (T26.setTop (mkF m 48 #[.val (.ref a1), .val (.int (0 : Int32)), .val (.int (4 : Int32)), .val (.int ((((((0 : Int32) + (c0 - (48 : Int32))) * (10 : Int32)) + (c1 - (48 : Int32))) * (10 : Int32)) + (c2 - (48 : Int32)))), .val (.int (2 : Int32)), .val (.int c2)] [])) _
                refine XS.iinc X26.here hx rfl (hb hby d18_48) rfl (l' := #[.val (.ref a1), .val (.int (0 : Int32)), .val (.int (4 : Int32)), .val (.int ((((((0 : Int32) + (c0 - (48 : Int32))) * (10 : Int32)) + (c1 - (48 : Int32))) * (10 : Int32)) + (c2 - (48 : Int32)))), .val (.int (3 : Int32)), .val (.int c2)]) rfl ?_
                show Steps p.tables e below (T26.setTop (mkF m 51 #[.val (.ref a1), .val (.int (0 : Int32)), .val (.int (4 : Int32)), .val (.int ((((((0 : Int32) + (c0 - (48 : Int32))) * (10 : Int32)) + (c1 - (48 : Int32))) * (10 : Int32)) + (c2 - (48 : Int32)))), .val (.int (3 : Int32)), .val (.int c2)] [])) _
                refine XS.goto X26.here hx rfl (pc0 := 51) (pc' := 5) rfl (hb hby d18_51) (by decide) (by decide) ?_
                show Steps p.tables e below (T26.setTop (mkF m 5 #[.val (.ref a1), .val (.int (0 : Int32)), .val (.int (4 : Int32)), .val (.int ((((((0 : Int32) + (c0 - (48 : Int32))) * (10 : Int32)) + (c1 - (48 : Int32))) * (10 : Int32)) + (c2 - (48 : Int32)))), .val (.int (3 : Int32)), .val (.int c2)] [])) _
                refine XS.iload X26.here hx rfl (hb hby d18_5) rfl ?_
                show Steps p.tables e below (T26.setTop (mkF m 7 #[.val (.ref a1), .val (.int (0 : Int32)), .val (.int (4 : Int32)), .val (.int ((((((0 : Int32) + (c0 - (48 : Int32))) * (10 : Int32)) + (c1 - (48 : Int32))) * (10 : Int32)) + (c2 - (48 : Int32)))), .val (.int (3 : Int32)), .val (.int c2)] [(.int (3 : Int32))])) _
                refine XS.iloadN X26.here hx rfl (hb hby d18_7) rfl ?_
                show Steps p.tables e below (T26.setTop (mkF m 8 #[.val (.ref a1), .val (.int (0 : Int32)), .val (.int (4 : Int32)), .val (.int ((((((0 : Int32) + (c0 - (48 : Int32))) * (10 : Int32)) + (c1 - (48 : Int32))) * (10 : Int32)) + (c2 - (48 : Int32)))), .val (.int (3 : Int32)), .val (.int c2)] [(.int (4 : Int32)), (.int (3 : Int32))])) _
                refine XS.icmpNo X26.here hx rfl (hb hby d18_8) rfl (tlt (by decide)).2.1 ?_
                show Steps p.tables e below (T26.setTop (mkF m 11 #[.val (.ref a1), .val (.int (0 : Int32)), .val (.int (4 : Int32)), .val (.int ((((((0 : Int32) + (c0 - (48 : Int32))) * (10 : Int32)) + (c1 - (48 : Int32))) * (10 : Int32)) + (c2 - (48 : Int32)))), .val (.int (3 : Int32)), .val (.int c2)] [])) _
                refine XS.aloadN X26.here hx rfl (hb hby d18_11) rfl rfl ?_
                show Steps p.tables e below (T26.setTop (mkF m 12 #[.val (.ref a1), .val (.int (0 : Int32)), .val (.int (4 : Int32)), .val (.int ((((((0 : Int32) + (c0 - (48 : Int32))) * (10 : Int32)) + (c1 - (48 : Int32))) * (10 : Int32)) + (c2 - (48 : Int32)))), .val (.int (3 : Int32)), .val (.int c2)] [(.ref a1)])) _
                refine XS.iload X26.here hx rfl (hb hby d18_12) rfl ?_
                show Steps p.tables e below (T26.setTop (mkF m 14 #[.val (.ref a1), .val (.int (0 : Int32)), .val (.int (4 : Int32)), .val (.int ((((((0 : Int32) + (c0 - (48 : Int32))) * (10 : Int32)) + (c1 - (48 : Int32))) * (10 : Int32)) + (c2 - (48 : Int32)))), .val (.int (3 : Int32)), .val (.int c2)] [(.int (3 : Int32)), (.ref a1)])) _
                refine st29.trans ?_
                show Steps p.tables e below (T29.setTop (mkF m 19 #[.val (.ref a1), .val (.int (0 : Int32)), .val (.int (4 : Int32)), .val (.int ((((((0 : Int32) + (c0 - (48 : Int32))) * (10 : Int32)) + (c1 - (48 : Int32))) * (10 : Int32)) + (c2 - (48 : Int32)))), .val (.int (3 : Int32)), .val (.int c2)] [(.int c3)])) _
                refine XS.istore X29.here hx rfl (hb hby d18_19) rfl (l' := #[.val (.ref a1), .val (.int (0 : Int32)), .val (.int (4 : Int32)), .val (.int ((((((0 : Int32) + (c0 - (48 : Int32))) * (10 : Int32)) + (c1 - (48 : Int32))) * (10 : Int32)) + (c2 - (48 : Int32)))), .val (.int (3 : Int32)), .val (.int c3)]) rfl ?_
                show Steps p.tables e below (T29.setTop (mkF m 21 #[.val (.ref a1), .val (.int (0 : Int32)), .val (.int (4 : Int32)), .val (.int ((((((0 : Int32) + (c0 - (48 : Int32))) * (10 : Int32)) + (c1 - (48 : Int32))) * (10 : Int32)) + (c2 - (48 : Int32)))), .val (.int (3 : Int32)), .val (.int c3)] [])) _
                refine XS.iload X29.here hx rfl (hb hby d18_21) rfl ?_
                show Steps p.tables e below (T29.setTop (mkF m 23 #[.val (.ref a1), .val (.int (0 : Int32)), .val (.int (4 : Int32)), .val (.int ((((((0 : Int32) + (c0 - (48 : Int32))) * (10 : Int32)) + (c1 - (48 : Int32))) * (10 : Int32)) + (c2 - (48 : Int32)))), .val (.int (3 : Int32)), .val (.int c3)] [(.int c3)])) _
                refine XS.bipush X29.here hx rfl (hb hby d18_23) ?_
                exact k)
              by_cases hc25bbb : c3 < (48 : Int32)
              ·
                obtain ⟨fs, hr, hrun, hended, hW, hsame⟩ := X29.leave (v := some (.int (-1 : Int32))) (fun h => by rw [Bd.returns] at h; cases h)
                refine ⟨_, _, pre30 _ ?_, hrun, hended, _, _, rfl, ?_, ⟨_, rfl⟩, hW, hsame.mono (by decide) (by decide)⟩
                · show Steps p.tables e below (T29.setTop (mkF m 25 #[.val (.ref a1), .val (.int (0 : Int32)), .val (.int (4 : Int32)), .val (.int ((((((0 : Int32) + (c0 - (48 : Int32))) * (10 : Int32)) + (c1 - (48 : Int32))) * (10 : Int32)) + (c2 - (48 : Int32)))), .val (.int (3 : Int32)), .val (.int c3)] [(.int (48 : Int32)), (.int c3)])) _
                  refine XS.icmpYes X29.here hx rfl (pc0 := 25) (pc' := 35) rfl (hb hby d18_25) rfl (tlt hc25bbb).1 (by decide) (by decide) ?_
                  show Steps p.tables e below (T29.setTop (mkF m 35 #[.val (.ref a1), .val (.int (0 : Int32)), .val (.int (4 : Int32)), .val (.int ((((((0 : Int32) + (c0 - (48 : Int32))) * (10 : Int32)) + (c1 - (48 : Int32))) * (10 : Int32)) + (c2 - (48 : Int32)))), .val (.int (3 : Int32)), .val (.int c3)] [])) _
                  refine XS.iconst X29.here hx rfl (hb hby d18_35) ?_
                  show Steps p.tables e below (T29.setTop (mkF m 36 #[.val (.ref a1), .val (.int (0 : Int32)), .val (.int (4 : Int32)), .val (.int ((((((0 : Int32) + (c0 - (48 : Int32))) * (10 : Int32)) + (c1 - (48 : Int32))) * (10 : Int32)) + (c2 - (48 : Int32)))), .val (.int (3 : Int32)), .val (.int c3)] [(.int (-1 : Int32))])) _
                  exact retI X29 hx Bd.returns (hb hby d18_36) hr
                · show QD4 Z a1 c0 c1 c2 c3 c4 c5 c6 zc fm h0 n0 _ T29.heap _
                  rw [e29]
                  exact ⟨congrArg some (congrArg Value.int (show (-1 : Int32) = (fD4 c0 c1 c2 c3) from by rw [fD4, if_neg hc25, if_neg hc32, if_neg hc25b, if_neg hc32b, if_neg hc25bb, if_neg hc32bb, if_pos hc25bbb])), N29, rfl⟩
              ·
                have pre31 : ∀ t, Steps p.tables e below (T29.setTop (mkF m 32 #[.val (.ref a1), .val (.int (0 : Int32)), .val (.int (4 : Int32)), .val (.int ((((((0 : Int32) + (c0 - (48 : Int32))) * (10 : Int32)) + (c1 - (48 : Int32))) * (10 : Int32)) + (c2 - (48 : Int32)))), .val (.int (3 : Int32)), .val (.int c3)] [(.int (57 : Int32)), (.int c3)])) t → Steps p.tables e below (s₁.setTop (entryFrame m #[(.ref a1), (.int (0 : Int32)), (.int (4 : Int32))] 6)) t := fun t k => pre30 t (by
                  show Steps p.tables e below (T29.setTop (mkF m 25 #[.val (.ref a1), .val (.int (0 : Int32)), .val (.int (4 : Int32)), .val (.int ((((((0 : Int32) + (c0 - (48 : Int32))) * (10 : Int32)) + (c1 - (48 : Int32))) * (10 : Int32)) + (c2 - (48 : Int32)))), .val (.int (3 : Int32)), .val (.int c3)] [(.int (48 : Int32)), (.int c3)])) _
                  refine XS.icmpNo X29.here hx rfl (hb hby d18_25) rfl (flt hc25bbb).1 ?_
                  show Steps p.tables e below (T29.setTop (mkF m 28 #[.val (.ref a1), .val (.int (0 : Int32)), .val (.int (4 : Int32)), .val (.int ((((((0 : Int32) + (c0 - (48 : Int32))) * (10 : Int32)) + (c1 - (48 : Int32))) * (10 : Int32)) + (c2 - (48 : Int32)))), .val (.int (3 : Int32)), .val (.int c3)] [])) _
                  refine XS.iload X29.here hx rfl (hb hby d18_28) rfl ?_
                  show Steps p.tables e below (T29.setTop (mkF m 30 #[.val (.ref a1), .val (.int (0 : Int32)), .val (.int (4 : Int32)), .val (.int ((((((0 : Int32) + (c0 - (48 : Int32))) * (10 : Int32)) + (c1 - (48 : Int32))) * (10 : Int32)) + (c2 - (48 : Int32)))), .val (.int (3 : Int32)), .val (.int c3)] [(.int c3)])) _
                  refine XS.bipush X29.here hx rfl (hb hby d18_30) ?_
                  exact k)
                by_cases hc32bbb : (57 : Int32) < c3
                ·
                  obtain ⟨fs, hr, hrun, hended, hW, hsame⟩ := X29.leave (v := some (.int (-1 : Int32))) (fun h => by rw [Bd.returns] at h; cases h)
                  refine ⟨_, _, pre31 _ ?_, hrun, hended, _, _, rfl, ?_, ⟨_, rfl⟩, hW, hsame.mono (by decide) (by decide)⟩
                  · show Steps p.tables e below (T29.setTop (mkF m 32 #[.val (.ref a1), .val (.int (0 : Int32)), .val (.int (4 : Int32)), .val (.int ((((((0 : Int32) + (c0 - (48 : Int32))) * (10 : Int32)) + (c1 - (48 : Int32))) * (10 : Int32)) + (c2 - (48 : Int32)))), .val (.int (3 : Int32)), .val (.int c3)] [(.int (57 : Int32)), (.int c3)])) _
                    refine XS.icmpNo X29.here hx rfl (hb hby d18_32) rfl (tlt hc32bbb).2.2.2 ?_
                    show Steps p.tables e below (T29.setTop (mkF m 35 #[.val (.ref a1), .val (.int (0 : Int32)), .val (.int (4 : Int32)), .val (.int ((((((0 : Int32) + (c0 - (48 : Int32))) * (10 : Int32)) + (c1 - (48 : Int32))) * (10 : Int32)) + (c2 - (48 : Int32)))), .val (.int (3 : Int32)), .val (.int c3)] [])) _
                    refine XS.iconst X29.here hx rfl (hb hby d18_35) ?_
                    show Steps p.tables e below (T29.setTop (mkF m 36 #[.val (.ref a1), .val (.int (0 : Int32)), .val (.int (4 : Int32)), .val (.int ((((((0 : Int32) + (c0 - (48 : Int32))) * (10 : Int32)) + (c1 - (48 : Int32))) * (10 : Int32)) + (c2 - (48 : Int32)))), .val (.int (3 : Int32)), .val (.int c3)] [(.int (-1 : Int32))])) _
                    exact retI X29 hx Bd.returns (hb hby d18_36) hr
                  · show QD4 Z a1 c0 c1 c2 c3 c4 c5 c6 zc fm h0 n0 _ T29.heap _
                    rw [e29]
                    exact ⟨congrArg some (congrArg Value.int (show (-1 : Int32) = (fD4 c0 c1 c2 c3) from by rw [fD4, if_neg hc25, if_neg hc32, if_neg hc25b, if_neg hc32b, if_neg hc25bb, if_neg hc32bb, if_neg hc25bbb, if_pos hc32bbb])), N29, rfl⟩
                ·
                  obtain ⟨fs, hr, hrun, hended, hW, hsame⟩ := X29.leave (v := some (.int ((((((((0 : Int32) + (c0 - (48 : Int32))) * (10 : Int32)) + (c1 - (48 : Int32))) * (10 : Int32)) + (c2 - (48 : Int32))) * (10 : Int32)) + (c3 - (48 : Int32))))) (fun h => by rw [Bd.returns] at h; cases h)
                  refine ⟨_, _, pre31 _ ?_, hrun, hended, _, _, rfl, ?_, ⟨_, rfl⟩, hW, hsame.mono (by decide) (by decide)⟩
                  · show Steps p.tables e below (T29.setTop (mkF m 32 #[.val (.ref a1), .val (.int (0 : Int32)), .val (.int (4 : Int32)), .val (.int ((((((0 : Int32) + (c0 - (48 : Int32))) * (10 : Int32)) + (c1 - (48 : Int32))) * (10 : Int32)) + (c2 - (48 : Int32)))), .val (.int (3 : Int32)), .val (.int c3)] [(.int (57 : Int32)), (.int c3)])) _
                    refine XS.icmpYes X29.here hx rfl (pc0 := 32) (pc' := 37) rfl (hb hby d18_32) rfl (flt hc32bbb).2.2.2 (by decide) (by decide) ?_
                    show Steps p.tables e below (T29.setTop (mkF m 37 #[.val (.ref a1), .val (.int (0 : Int32)), .val (.int (4 : Int32)), .val (.int ((((((0 : Int32) + (c0 - (48 : Int32))) * (10 : Int32)) + (c1 - (48 : Int32))) * (10 : Int32)) + (c2 - (48 : Int32)))), .val (.int (3 : Int32)), .val (.int c3)] [])) _
                    refine XS.iloadN X29.here hx rfl (hb hby d18_37) rfl ?_
                    show Steps p.tables e below (T29.setTop (mkF m 38 #[.val (.ref a1), .val (.int (0 : Int32)), .val (.int (4 : Int32)), .val (.int ((((((0 : Int32) + (c0 - (48 : Int32))) * (10 : Int32)) + (c1 - (48 : Int32))) * (10 : Int32)) + (c2 - (48 : Int32)))), .val (.int (3 : Int32)), .val (.int c3)] [(.int ((((((0 : Int32) + (c0 - (48 : Int32))) * (10 : Int32)) + (c1 - (48 : Int32))) * (10 : Int32)) + (c2 - (48 : Int32))))])) _
                    refine XS.bipush X29.here hx rfl (hb hby d18_38) ?_
                    show Steps p.tables e below (T29.setTop (mkF m 40 #[.val (.ref a1), .val (.int (0 : Int32)), .val (.int (4 : Int32)), .val (.int ((((((0 : Int32) + (c0 - (48 : Int32))) * (10 : Int32)) + (c1 - (48 : Int32))) * (10 : Int32)) + (c2 - (48 : Int32)))), .val (.int (3 : Int32)), .val (.int c3)] [(.int (10 : Int32)), (.int ((((((0 : Int32) + (c0 - (48 : Int32))) * (10 : Int32)) + (c1 - (48 : Int32))) * (10 : Int32)) + (c2 - (48 : Int32))))])) _
                    refine XS.imul X29.here hx rfl (hb hby d18_40) rfl ?_
                    show Steps p.tables e below (T29.setTop (mkF m 41 #[.val (.ref a1), .val (.int (0 : Int32)), .val (.int (4 : Int32)), .val (.int ((((((0 : Int32) + (c0 - (48 : Int32))) * (10 : Int32)) + (c1 - (48 : Int32))) * (10 : Int32)) + (c2 - (48 : Int32)))), .val (.int (3 : Int32)), .val (.int c3)] [(.int (((((((0 : Int32) + (c0 - (48 : Int32))) * (10 : Int32)) + (c1 - (48 : Int32))) * (10 : Int32)) + (c2 - (48 : Int32))) * (10 : Int32)))])) _
                    refine XS.iload X29.here hx rfl (hb hby d18_41) rfl ?_
                    show Steps p.tables e below (T29.setTop (mkF m 43 #[.val (.ref a1), .val (.int (0 : Int32)), .val (.int (4 : Int32)), .val (.int ((((((0 : Int32) + (c0 - (48 : Int32))) * (10 : Int32)) + (c1 - (48 : Int32))) * (10 : Int32)) + (c2 - (48 : Int32)))), .val (.int (3 : Int32)), .val (.int c3)] [(.int c3), (.int (((((((0 : Int32) + (c0 - (48 : Int32))) * (10 : Int32)) + (c1 - (48 : Int32))) * (10 : Int32)) + (c2 - (48 : Int32))) * (10 : Int32)))])) _
                    refine XS.bipush X29.here hx rfl (hb hby d18_43) ?_
                    show Steps p.tables e below (T29.setTop (mkF m 45 #[.val (.ref a1), .val (.int (0 : Int32)), .val (.int (4 : Int32)), .val (.int ((((((0 : Int32) + (c0 - (48 : Int32))) * (10 : Int32)) + (c1 - (48 : Int32))) * (10 : Int32)) + (c2 - (48 : Int32)))), .val (.int (3 : Int32)), .val (.int c3)] [(.int (48 : Int32)), (.int c3), (.int (((((((0 : Int32) + (c0 - (48 : Int32))) * (10 : Int32)) + (c1 - (48 : Int32))) * (10 : Int32)) + (c2 - (48 : Int32))) * (10 : Int32)))])) _
                    refine XS.isub X29.here hx rfl (hb hby d18_45) rfl ?_
                    show Steps p.tables e below (T29.setTop (mkF m 46 #[.val (.ref a1), .val (.int (0 : Int32)), .val (.int (4 : Int32)), .val (.int ((((((0 : Int32) + (c0 - (48 : Int32))) * (10 : Int32)) + (c1 - (48 : Int32))) * (10 : Int32)) + (c2 - (48 : Int32)))), .val (.int (3 : Int32)), .val (.int c3)] [(.int (c3 - (48 : Int32))), (.int (((((((0 : Int32) + (c0 - (48 : Int32))) * (10 : Int32)) + (c1 - (48 : Int32))) * (10 : Int32)) + (c2 - (48 : Int32))) * (10 : Int32)))])) _
                    refine XS.iadd X29.here hx rfl (hb hby d18_46) rfl ?_
                    show Steps p.tables e below (T29.setTop (mkF m 47 #[.val (.ref a1), .val (.int (0 : Int32)), .val (.int (4 : Int32)), .val (.int ((((((0 : Int32) + (c0 - (48 : Int32))) * (10 : Int32)) + (c1 - (48 : Int32))) * (10 : Int32)) + (c2 - (48 : Int32)))), .val (.int (3 : Int32)), .val (.int c3)] [(.int ((((((((0 : Int32) + (c0 - (48 : Int32))) * (10 : Int32)) + (c1 - (48 : Int32))) * (10 : Int32)) + (c2 - (48 : Int32))) * (10 : Int32)) + (c3 - (48 : Int32))))])) _
                    refine XS.istoreN X29.here hx rfl (hb hby d18_47) rfl (l' := #[.val (.ref a1), .val (.int (0 : Int32)), .val (.int (4 : Int32)), .val (.int ((((((((0 : Int32) + (c0 - (48 : Int32))) * (10 : Int32)) + (c1 - (48 : Int32))) * (10 : Int32)) + (c2 - (48 : Int32))) * (10 : Int32)) + (c3 - (48 : Int32)))), .val (.int (3 : Int32)), .val (.int c3)]) rfl ?_
                    show Steps p.tables e below (T29.setTop (mkF m 48 #[.val (.ref a1), .val (.int (0 : Int32)), .val (.int (4 : Int32)), .val (.int ((((((((0 : Int32) + (c0 - (48 : Int32))) * (10 : Int32)) + (c1 - (48 : Int32))) * (10 : Int32)) + (c2 - (48 : Int32))) * (10 : Int32)) + (c3 - (48 : Int32)))), .val (.int (3 : Int32)), .val (.int c3)] [])) _
                    refine XS.iinc X29.here hx rfl (hb hby d18_48) rfl (l' := #[.val (.ref a1), .val (.int (0 : Int32)), .val (.int (4 : Int32)), .val (.int ((((((((0 : Int32) + (c0 - (48 : Int32))) * (10 : Int32)) + (c1 - (48 : Int32))) * (10 : Int32)) + (c2 - (48 : Int32))) * (10 : Int32)) + (c3 - (48 : Int32)))), .val (.int (4 : Int32)), .val (.int c3)]) rfl ?_
                    show Steps p.tables e below (T29.setTop (mkF m 51 #[.val (.ref a1), .val (.int (0 : Int32)), .val (.int (4 : Int32)), .val (.int ((((((((0 : Int32) + (c0 - (48 : Int32))) * (10 : Int32)) + (c1 - (48 : Int32))) * (10 : Int32)) + (c2 - (48 : Int32))) * (10 : Int32)) + (c3 - (48 : Int32)))), .val (.int (4 : Int32)), .val (.int c3)] [])) _
                    refine XS.goto X29.here hx rfl (pc0 := 51) (pc' := 5) rfl (hb hby d18_51) (by decide) (by decide) ?_
                    show Steps p.tables e below (T29.setTop (mkF m 5 #[.val (.ref a1), .val (.int (0 : Int32)), .val (.int (4 : Int32)), .val (.int ((((((((0 : Int32) + (c0 - (48 : Int32))) * (10 : Int32)) + (c1 - (48 : Int32))) * (10 : Int32)) + (c2 - (48 : Int32))) * (10 : Int32)) + (c3 - (48 : Int32)))), .val (.int (4 : Int32)), .val (.int c3)] [])) _
                    refine XS.iload X29.here hx rfl (hb hby d18_5) rfl ?_
                    show Steps p.tables e below (T29.setTop (mkF m 7 #[.val (.ref a1), .val (.int (0 : Int32)), .val (.int (4 : Int32)), .val (.int ((((((((0 : Int32) + (c0 - (48 : Int32))) * (10 : Int32)) + (c1 - (48 : Int32))) * (10 : Int32)) + (c2 - (48 : Int32))) * (10 : Int32)) + (c3 - (48 : Int32)))), .val (.int (4 : Int32)), .val (.int c3)] [(.int (4 : Int32))])) _
                    refine XS.iloadN X29.here hx rfl (hb hby d18_7) rfl ?_
                    show Steps p.tables e below (T29.setTop (mkF m 8 #[.val (.ref a1), .val (.int (0 : Int32)), .val (.int (4 : Int32)), .val (.int ((((((((0 : Int32) + (c0 - (48 : Int32))) * (10 : Int32)) + (c1 - (48 : Int32))) * (10 : Int32)) + (c2 - (48 : Int32))) * (10 : Int32)) + (c3 - (48 : Int32)))), .val (.int (4 : Int32)), .val (.int c3)] [(.int (4 : Int32)), (.int (4 : Int32))])) _
                    refine XS.icmpYes X29.here hx rfl (pc0 := 8) (pc' := 54) rfl (hb hby d18_8) rfl (flt (by decide)).2.1 (by decide) (by decide) ?_
                    show Steps p.tables e below (T29.setTop (mkF m 54 #[.val (.ref a1), .val (.int (0 : Int32)), .val (.int (4 : Int32)), .val (.int ((((((((0 : Int32) + (c0 - (48 : Int32))) * (10 : Int32)) + (c1 - (48 : Int32))) * (10 : Int32)) + (c2 - (48 : Int32))) * (10 : Int32)) + (c3 - (48 : Int32)))), .val (.int (4 : Int32)), .val (.int c3)] [])) _
                    refine XS.iloadN X29.here hx rfl (hb hby d18_54) rfl ?_
                    show Steps p.tables e below (T29.setTop (mkF m 55 #[.val (.ref a1), .val (.int (0 : Int32)), .val (.int (4 : Int32)), .val (.int ((((((((0 : Int32) + (c0 - (48 : Int32))) * (10 : Int32)) + (c1 - (48 : Int32))) * (10 : Int32)) + (c2 - (48 : Int32))) * (10 : Int32)) + (c3 - (48 : Int32)))), .val (.int (4 : Int32)), .val (.int c3)] [(.int ((((((((0 : Int32) + (c0 - (48 : Int32))) * (10 : Int32)) + (c1 - (48 : Int32))) * (10 : Int32)) + (c2 - (48 : Int32))) * (10 : Int32)) + (c3 - (48 : Int32))))])) _
                    exact retI X29 hx Bd.returns (hb hby d18_55) hr
                  · show QD4 Z a1 c0 c1 c2 c3 c4 c5 c6 zc fm h0 n0 _ T29.heap _
                    rw [e29]
                    exact ⟨congrArg some (congrArg Value.int (show ((((((((0 : Int32) + (c0 - (48 : Int32))) * (10 : Int32)) + (c1 - (48 : Int32))) * (10 : Int32)) + (c2 - (48 : Int32))) * (10 : Int32)) + (c3 - (48 : Int32))) = (fD4 c0 c1 c2 c3) from by rw [fD4, if_neg hc25, if_neg hc32, if_neg hc25b, if_neg hc32b, if_neg hc25bb, if_neg hc32bb, if_neg hc25bbb, if_neg hc32bbb])), N29, rfl⟩
def QD7 (Z : State) (a1 : Addr) (c0 : Int32) (c1 : Int32) (c2 : Int32) (c3 : Int32) (c4 : Int32) (c5 : Int32) (c6 : Int32) (zc : Int32) (fm : Value) (h0 : Heap) (n0 : Nat) (v : Option Value) (h : Heap) (L : List Loc) : Prop := v = some (.int (fD7 c5 c6)) ∧ Fr n0 L ∧ h = h0
theorem ef_D7 (m : MethodId) (a1 : Addr) : entryFrame m #[(.ref a1), (.int (5 : Int32)), (.int (7 : Int32))] 6 = mkF m 0 #[.val (.ref a1), .val (.int (5 : Int32)), .val (.int (7 : Int32)), .unset, .unset, .unset] [] := by first | (simp [entryFrame, mkF, argsToLocals, Value.category]; done) | rfl
set_option maxRecDepth 65536 in
set_option maxHeartbeats 40000000 in
theorem rmD7 (l : Launch) (Z : State) (a0 : Array Value) (hw : ∀ d ∈ tables_1, d.before a0 Z = true) (ws : List Jvm.Cond) (a1 : Addr) (c0 : Int32) (c1 : Int32) (c2 : Int32) (c3 : Int32) (c4 : Int32) (c5 : Int32) (c6 : Int32) (zc : Int32) (fm : Value) (h0 : Heap) (n0 : Nat) (Zs : n0 ≤ h0.size) (E_a1 : Exa Z h0 a1 "java/lang/String") (T_a1 : Stx Z h0 a1 [c0, c1, c2, c3, c4, c5, c6]) (Ol : Old Z n0 h0) (S_COMPACT_STRINGS : Sta Z Z.heap "java/lang/String" "COMPACT_STRINGS" "Z" (.int zc)) (S_SIOOBE_FORMATTER : Sta Z Z.heap "jdk/internal/util/Preconditions" "SIOOBE_FORMATTER" "Ljava/util/function/BiFunction;" fm) (hzc : ¬ zc = 0) (hfm : fm.isRef = true) :
    MetFree l (⟨"com/example/reta/reta/calendar/Months", "digits", "(Ljava/lang/CharSequence;II)I"⟩ : MethodName) (head1 (Jvm.Cond.code (⟨"com/example/reta/reta/calendar/Months", "digits", "(Ljava/lang/CharSequence;II)I"⟩ : MethodName) prog_1_method_7_code 6 (some .int) :: ws) ({ frames := 4, cells := 0, slots := 0, locals := 53 } : Room)) (fun a U => a = #[(.ref a1), (.int (5 : Int32)), (.int (7 : Int32))] ∧ Z.Warmed39 U.vm ∧ U.heap = h0) (fun _ _ _ _ _ => True) (fun _ U o U' => ∃ v L, o = .returned v ∧ QD7 Z a1 c0 c1 c2 c3 c4 c5 c6 zc fm h0 n0 v U'.heap L ∧ FrameEnd U o U' L ({ frames := 4, cells := 0, slots := 0, locals := 53 } : Room).cells ({ frames := 4, cells := 0, slots := 0, locals := 53 } : Room).slots) := by
  refine MetFree.of_bodySF (plainFor_of_name pn_1) hisR ?_
  intro p e s m args below meth c s₁ Bd hml0 hP hK
  obtain ⟨rfl, hZ, hh⟩ := hP
  have hx := Bd.exec
  have hby := Bd.bytes
  have hml : c.maxLocals = 6 := hml0
  have hown : s.vm.findClass "com/example/reta/reta/calendar/Months" = some m.cls := findClass_of_methodNamed Bd.named
  have hnm := (name_of_methodNamed Bd.named Bd.method).1
  have X0 : Stand p l e ({ frames := 4, cells := 0, slots := 0, locals := 53 } : Room) s m #[(.ref a1), (.int (5 : Int32)), (.int (7 : Int32))] below meth c s₁ [] 0 0 := Stand.of_body Bd
  have e0 : s₁.heap = h0 := by rw [← hh, Bd.state]; rfl
  have N0 := Fr.nil n0
  have pre0 : ∀ t, Steps p.tables e below (s₁.setTop (mkF m 0 #[.val (.ref a1), .val (.int (5 : Int32)), .val (.int (7 : Int32)), .unset, .unset, .unset] [])) t → Steps p.tables e below (s₁.setTop (entryFrame m #[(.ref a1), (.int (5 : Int32)), (.int (7 : Int32))] 6)) t := fun t k => castTop (ef_D7 m a1) k
  obtain ⟨cq32, kq32, q32a, q32b, q32c⟩ := isOf hZ e0 E_a1
  obtain ⟨_, _, ⟨T32, L32, k32, n32⟩, -, X32, ⟨Lc32, hQ32, l32, y32, z32⟩, st32⟩ := X0.interfaceBack hx (xi := (⟨"java/lang/CharSequence", "charAt", "(I)C"⟩ : MethodName)) (y := (⟨"java/lang/String", "charAt", "(I)C"⟩ : MethodName)) hown (mvT hZ (hw _ (List.mem_of_getElem? (i := 67) rfl))) (mvT hZ (hw _ (List.mem_of_getElem? (i := 68) rfl))) (mvT hZ (hw _ (List.mem_of_getElem? (i := 69) rfl))) (mvT hZ (hw _ (List.mem_of_getElem? (i := 70) rfl))) (mvT hZ (hw _ (List.mem_of_getElem? (i := 71) rfl))) (mvT hZ (hw _ (List.mem_of_getElem? (i := 72) rfl))) (mvT hZ (hw _ (List.mem_of_getElem? (i := 73) rfl))) (mvT hZ (hw _ (List.mem_of_getElem? (i := 48) rfl))) (by decide) (own_chr (W := 0) hZ hw T_a1 (Sta.ext Ol.2 S_COMPACT_STRINGS) hzc (Sta.ext Ol.2 S_SIOOBE_FORMATTER) hfm (i := 5) (j := (5 : Int32)) (Nat.le_of_ble_eq_true rfl) rfl (by decide) (by decide)) q32a q32b q32c (g := (mkF m 14 #[.val (.ref a1), .val (.int (5 : Int32)), .val (.int (7 : Int32)), .val (.int (0 : Int32)), .val (.int (5 : Int32)), .unset] [(.int (5 : Int32)), (.ref a1)])) rfl (by rw [hml]; rfl) (Steps.refl _) (argsL := [(.int (5 : Int32))]) (rest := []) (lenOf pd_1 rfl) rfl (by show 2 * 0 + _ ≤ _; exact Nat.le_of_eq rfl) (hb hby d18_14) (fun _ _ => ⟨rfl, e0, (by decide : 0 + 0 ≤ _), (by decide : 0 + 0 ≤ _)⟩)
  dsimp only [Pt.U, Pt.locs, Pt.cells, Pt.slots] at X32 l32 y32 z32 st32 hQ32
  subst l32 y32 z32
  obtain ⟨rfl, rfl, e32⟩ := hQ32
  have N32 := Fr.app N0 (Fr.nil n0)
  have pre33 : ∀ t, Steps p.tables e below (T32.setTop (mkF m 25 #[.val (.ref a1), .val (.int (5 : Int32)), .val (.int (7 : Int32)), .val (.int (0 : Int32)), .val (.int (5 : Int32)), .val (.int c5)] [(.int (48 : Int32)), (.int c5)])) t → Steps p.tables e below (s₁.setTop (entryFrame m #[(.ref a1), (.int (5 : Int32)), (.int (7 : Int32))] 6)) t := fun t k => pre0 t (by
    show Steps p.tables e below (s₁.setTop (mkF m 0 #[.val (.ref a1), .val (.int (5 : Int32)), .val (.int (7 : Int32)), .unset, .unset, .unset] [])) _
    refine XS.iconst X0.here hx rfl (hb hby d18_0) ?_
    show Steps p.tables e below (s₁.setTop (mkF m 1 #[.val (.ref a1), .val (.int (5 : Int32)), .val (.int (7 : Int32)), .unset, .unset, .unset] [(.int (0 : Int32))])) _
    refine XS.istoreN X0.here hx rfl (hb hby d18_1) rfl (l' := #[.val (.ref a1), .val (.int (5 : Int32)), .val (.int (7 : Int32)), .val (.int (0 : Int32)), .unset, .unset]) rfl ?_
    show Steps p.tables e below (s₁.setTop (mkF m 2 #[.val (.ref a1), .val (.int (5 : Int32)), .val (.int (7 : Int32)), .val (.int (0 : Int32)), .unset, .unset] [])) _
    refine XS.iloadN X0.here hx rfl (hb hby d18_2) rfl ?_
    show Steps p.tables e below (s₁.setTop (mkF m 3 #[.val (.ref a1), .val (.int (5 : Int32)), .val (.int (7 : Int32)), .val (.int (0 : Int32)), .unset, .unset] [(.int (5 : Int32))])) _
    refine XS.istore X0.here hx rfl (hb hby d18_3) rfl (l' := #[.val (.ref a1), .val (.int (5 : Int32)), .val (.int (7 : Int32)), .val (.int (0 : Int32)), .val (.int (5 : Int32)), .unset]) rfl ?_
    show Steps p.tables e below (s₁.setTop (mkF m 5 #[.val (.ref a1), .val (.int (5 : Int32)), .val (.int (7 : Int32)), .val (.int (0 : Int32)), .val (.int (5 : Int32)), .unset] [])) _
    refine XS.iload X0.here hx rfl (hb hby d18_5) rfl ?_
    show Steps p.tables e below (s₁.setTop (mkF m 7 #[.val (.ref a1), .val (.int (5 : Int32)), .val (.int (7 : Int32)), .val (.int (0 : Int32)), .val (.int (5 : Int32)), .unset] [(.int (5 : Int32))])) _
    refine XS.iloadN X0.here hx rfl (hb hby d18_7) rfl ?_
    show Steps p.tables e below (s₁.setTop (mkF m 8 #[.val (.ref a1), .val (.int (5 : Int32)), .val (.int (7 : Int32)), .val (.int (0 : Int32)), .val (.int (5 : Int32)), .unset] [(.int (7 : Int32)), (.int (5 : Int32))])) _
    refine XS.icmpNo X0.here hx rfl (hb hby d18_8) rfl (tlt (by decide)).2.1 ?_
    show Steps p.tables e below (s₁.setTop (mkF m 11 #[.val (.ref a1), .val (.int (5 : Int32)), .val (.int (7 : Int32)), .val (.int (0 : Int32)), .val (.int (5 : Int32)), .unset] [])) _
    refine XS.aloadN X0.here hx rfl (hb hby d18_11) rfl rfl ?_
    show Steps p.tables e below (s₁.setTop (mkF m 12 #[.val (.ref a1), .val (.int (5 : Int32)), .val (.int (7 : Int32)), .val (.int (0 : Int32)), .val (.int (5 : Int32)), .unset] [(.ref a1)])) _
    refine XS.iload X0.here hx rfl (hb hby d18_12) rfl ?_
    show Steps p.tables e below (s₁.setTop (mkF m 14 #[.val (.ref a1), .val (.int (5 : Int32)), .val (.int (7 : Int32)), .val (.int (0 : Int32)), .val (.int (5 : Int32)), .unset] [(.int (5 : Int32)), (.ref a1)])) _
    refine st32.trans ?_
    show Steps p.tables e below (T32.setTop (mkF m 19 #[.val (.ref a1), .val (.int (5 : Int32)), .val (.int (7 : Int32)), .val (.int (0 : Int32)), .val (.int (5 : Int32)), .unset] [(.int c5)])) _
    refine XS.istore X32.here hx rfl (hb hby d18_19) rfl (l' := #[.val (.ref a1), .val (.int (5 : Int32)), .val (.int (7 : Int32)), .val (.int (0 : Int32)), .val (.int (5 : Int32)), .val (.int c5)]) rfl ?_
    show Steps p.tables e below (T32.setTop (mkF m 21 #[.val (.ref a1), .val (.int (5 : Int32)), .val (.int (7 : Int32)), .val (.int (0 : Int32)), .val (.int (5 : Int32)), .val (.int c5)] [])) _
    refine XS.iload X32.here hx rfl (hb hby d18_21) rfl ?_
    show Steps p.tables e below (T32.setTop (mkF m 23 #[.val (.ref a1), .val (.int (5 : Int32)), .val (.int (7 : Int32)), .val (.int (0 : Int32)), .val (.int (5 : Int32)), .val (.int c5)] [(.int c5)])) _
    refine XS.bipush X32.here hx rfl (hb hby d18_23) ?_
    exact k)
  by_cases hc25 : c5 < (48 : Int32)
  ·
    obtain ⟨fs, hr, hrun, hended, hW, hsame⟩ := X32.leave (v := some (.int (-1 : Int32))) (fun h => by rw [Bd.returns] at h; cases h)
    refine ⟨_, _, pre33 _ ?_, hrun, hended, _, _, rfl, ?_, ⟨_, rfl⟩, hW, hsame.mono (by decide) (by decide)⟩
    · show Steps p.tables e below (T32.setTop (mkF m 25 #[.val (.ref a1), .val (.int (5 : Int32)), .val (.int (7 : Int32)), .val (.int (0 : Int32)), .val (.int (5 : Int32)), .val (.int c5)] [(.int (48 : Int32)), (.int c5)])) _
      refine XS.icmpYes X32.here hx rfl (pc0 := 25) (pc' := 35) rfl (hb hby d18_25) rfl (tlt hc25).1 (by decide) (by decide) ?_
      show Steps p.tables e below (T32.setTop (mkF m 35 #[.val (.ref a1), .val (.int (5 : Int32)), .val (.int (7 : Int32)), .val (.int (0 : Int32)), .val (.int (5 : Int32)), .val (.int c5)] [])) _
      refine XS.iconst X32.here hx rfl (hb hby d18_35) ?_
      show Steps p.tables e below (T32.setTop (mkF m 36 #[.val (.ref a1), .val (.int (5 : Int32)), .val (.int (7 : Int32)), .val (.int (0 : Int32)), .val (.int (5 : Int32)), .val (.int c5)] [(.int (-1 : Int32))])) _
      exact retI X32 hx Bd.returns (hb hby d18_36) hr
    · show QD7 Z a1 c0 c1 c2 c3 c4 c5 c6 zc fm h0 n0 _ T32.heap _
      rw [e32]
      exact ⟨congrArg some (congrArg Value.int (show (-1 : Int32) = (fD7 c5 c6) from by rw [fD7, if_pos hc25])), N32, rfl⟩
  ·
    have pre34 : ∀ t, Steps p.tables e below (T32.setTop (mkF m 32 #[.val (.ref a1), .val (.int (5 : Int32)), .val (.int (7 : Int32)), .val (.int (0 : Int32)), .val (.int (5 : Int32)), .val (.int c5)] [(.int (57 : Int32)), (.int c5)])) t → Steps p.tables e below (s₁.setTop (entryFrame m #[(.ref a1), (.int (5 : Int32)), (.int (7 : Int32))] 6)) t := fun t k => pre33 t (by
      show Steps p.tables e below (T32.setTop (mkF m 25 #[.val (.ref a1), .val (.int (5 : Int32)), .val (.int (7 : Int32)), .val (.int (0 : Int32)), .val (.int (5 : Int32)), .val (.int c5)] [(.int (48 : Int32)), (.int c5)])) _
      refine XS.icmpNo X32.here hx rfl (hb hby d18_25) rfl (flt hc25).1 ?_
      show Steps p.tables e below (T32.setTop (mkF m 28 #[.val (.ref a1), .val (.int (5 : Int32)), .val (.int (7 : Int32)), .val (.int (0 : Int32)), .val (.int (5 : Int32)), .val (.int c5)] [])) _
      refine XS.iload X32.here hx rfl (hb hby d18_28) rfl ?_
      show Steps p.tables e below (T32.setTop (mkF m 30 #[.val (.ref a1), .val (.int (5 : Int32)), .val (.int (7 : Int32)), .val (.int (0 : Int32)), .val (.int (5 : Int32)), .val (.int c5)] [(.int c5)])) _
      refine XS.bipush X32.here hx rfl (hb hby d18_30) ?_
      exact k)
    by_cases hc32 : (57 : Int32) < c5
    ·
      obtain ⟨fs, hr, hrun, hended, hW, hsame⟩ := X32.leave (v := some (.int (-1 : Int32))) (fun h => by rw [Bd.returns] at h; cases h)
      refine ⟨_, _, pre34 _ ?_, hrun, hended, _, _, rfl, ?_, ⟨_, rfl⟩, hW, hsame.mono (by decide) (by decide)⟩
      · show Steps p.tables e below (T32.setTop (mkF m 32 #[.val (.ref a1), .val (.int (5 : Int32)), .val (.int (7 : Int32)), .val (.int (0 : Int32)), .val (.int (5 : Int32)), .val (.int c5)] [(.int (57 : Int32)), (.int c5)])) _
        refine XS.icmpNo X32.here hx rfl (hb hby d18_32) rfl (tlt hc32).2.2.2 ?_
        show Steps p.tables e below (T32.setTop (mkF m 35 #[.val (.ref a1), .val (.int (5 : Int32)), .val (.int (7 : Int32)), .val (.int (0 : Int32)), .val (.int (5 : Int32)), .val (.int c5)] [])) _
        refine XS.iconst X32.here hx rfl (hb hby d18_35) ?_
        show Steps p.tables e below (T32.setTop (mkF m 36 #[.val (.ref a1), .val (.int (5 : Int32)), .val (.int (7 : Int32)), .val (.int (0 : Int32)), .val (.int (5 : Int32)), .val (.int c5)] [(.int (-1 : Int32))])) _
        exact retI X32 hx Bd.returns (hb hby d18_36) hr
      · show QD7 Z a1 c0 c1 c2 c3 c4 c5 c6 zc fm h0 n0 _ T32.heap _
        rw [e32]
        exact ⟨congrArg some (congrArg Value.int (show (-1 : Int32) = (fD7 c5 c6) from by rw [fD7, if_neg hc25, if_pos hc32])), N32, rfl⟩
    ·
      obtain ⟨cq35, kq35, q35a, q35b, q35c⟩ := isOf hZ e32 E_a1
      obtain ⟨_, _, ⟨T35, L35, k35, n35⟩, -, X35, ⟨Lc35, hQ35, l35, y35, z35⟩, st35⟩ := X32.interfaceBack hx (xi := (⟨"java/lang/CharSequence", "charAt", "(I)C"⟩ : MethodName)) (y := (⟨"java/lang/String", "charAt", "(I)C"⟩ : MethodName)) hown (mvT hZ (hw _ (List.mem_of_getElem? (i := 67) rfl))) (mvT hZ (hw _ (List.mem_of_getElem? (i := 68) rfl))) (mvT hZ (hw _ (List.mem_of_getElem? (i := 69) rfl))) (mvT hZ (hw _ (List.mem_of_getElem? (i := 70) rfl))) (mvT hZ (hw _ (List.mem_of_getElem? (i := 71) rfl))) (mvT hZ (hw _ (List.mem_of_getElem? (i := 72) rfl))) (mvT hZ (hw _ (List.mem_of_getElem? (i := 73) rfl))) (mvT hZ (hw _ (List.mem_of_getElem? (i := 48) rfl))) (by decide) (own_chr (W := 0) hZ hw T_a1 (Sta.ext Ol.2 S_COMPACT_STRINGS) hzc (Sta.ext Ol.2 S_SIOOBE_FORMATTER) hfm (i := 6) (j := (6 : Int32)) (Nat.le_of_ble_eq_true rfl) rfl (by decide) (by decide)) q35a q35b q35c (g := (mkF m 14 #[.val (.ref a1), .val (.int (5 : Int32)), .val (.int (7 : Int32)), .val (.int ((0 : Int32) + (c5 - (48 : Int32)))), .val (.int (6 : Int32)), .val (.int c5)] [(.int (6 : Int32)), (.ref a1)])) rfl (by rw [hml]; rfl) (Steps.refl _) (argsL := [(.int (6 : Int32))]) (rest := []) (lenOf pd_1 rfl) rfl (by show 2 * 0 + _ ≤ _; exact Nat.le_of_eq rfl) (hb hby d18_14) (fun _ _ => ⟨rfl, e32, (by decide : 0 + 0 ≤ _), (by decide : 0 + 0 ≤ _)⟩)
      dsimp only [Pt.U, Pt.locs, Pt.cells, Pt.slots] at X35 l35 y35 z35 st35 hQ35
      subst l35 y35 z35
      obtain ⟨rfl, rfl, e35⟩ := hQ35
      have N35 := Fr.app N32 (Fr.nil n0)
      have pre36 : ∀ t, Steps p.tables e below (T35.setTop (mkF m 25 #[.val (.ref a1), .val (.int (5 : Int32)), .val (.int (7 : Int32)), .val (.int ((0 : Int32) + (c5 - (48 : Int32)))), .val (.int (6 : Int32)), .val (.int c6)] [(.int (48 : Int32)), (.int c6)])) t → Steps p.tables e below (s₁.setTop (entryFrame m #[(.ref a1), (.int (5 : Int32)), (.int (7 : Int32))] 6)) t := fun t k => pre34 t (by
        show Steps p.tables e below (T32.setTop (mkF m 32 #[.val (.ref a1), .val (.int (5 : Int32)), .val (.int (7 : Int32)), .val (.int (0 : Int32)), .val (.int (5 : Int32)), .val (.int c5)] [(.int (57 : Int32)), (.int c5)])) _
        refine XS.icmpYes X32.here hx rfl (pc0 := 32) (pc' := 37) rfl (hb hby d18_32) rfl (flt hc32).2.2.2 (by decide) (by decide) ?_
        show Steps p.tables e below (T32.setTop (mkF m 37 #[.val (.ref a1), .val (.int (5 : Int32)), .val (.int (7 : Int32)), .val (.int (0 : Int32)), .val (.int (5 : Int32)), .val (.int c5)] [])) _
        refine XS.iloadN X32.here hx rfl (hb hby d18_37) rfl ?_
        show Steps p.tables e below (T32.setTop (mkF m 38 #[.val (.ref a1), .val (.int (5 : Int32)), .val (.int (7 : Int32)), .val (.int (0 : Int32)), .val (.int (5 : Int32)), .val (.int c5)] [(.int (0 : Int32))])) _
        refine XS.bipush X32.here hx rfl (hb hby d18_38) ?_
        show Steps p.tables e below (T32.setTop (mkF m 40 #[.val (.ref a1), .val (.int (5 : Int32)), .val (.int (7 : Int32)), .val (.int (0 : Int32)), .val (.int (5 : Int32)), .val (.int c5)] [(.int (10 : Int32)), (.int (0 : Int32))])) _
        refine XS.imul X32.here hx rfl (hb hby d18_40) rfl ?_
        show Steps p.tables e below (T32.setTop (mkF m 41 #[.val (.ref a1), .val (.int (5 : Int32)), .val (.int (7 : Int32)), .val (.int (0 : Int32)), .val (.int (5 : Int32)), .val (.int c5)] [(.int (0 : Int32))])) _
        refine XS.iload X32.here hx rfl (hb hby d18_41) rfl ?_
        show Steps p.tables e below (T32.setTop (mkF m 43 #[.val (.ref a1), .val (.int (5 : Int32)), .val (.int (7 : Int32)), .val (.int (0 : Int32)), .val (.int (5 : Int32)), .val (.int c5)] [(.int c5), (.int (0 : Int32))])) _
        refine XS.bipush X32.here hx rfl (hb hby d18_43) ?_
        show Steps p.tables e below (T32.setTop (mkF m 45 #[.val (.ref a1), .val (.int (5 : Int32)), .val (.int (7 : Int32)), .val (.int (0 : Int32)), .val (.int (5 : Int32)), .val (.int c5)] [(.int (48 : Int32)), (.int c5), (.int (0 : Int32))])) _
        refine XS.isub X32.here hx rfl (hb hby d18_45) rfl ?_
        show Steps p.tables e below (T32.setTop (mkF m 46 #[.val (.ref a1), .val (.int (5 : Int32)), .val (.int (7 : Int32)), .val (.int (0 : Int32)), .val (.int (5 : Int32)), .val (.int c5)] [(.int (c5 - (48 : Int32))), (.int (0 : Int32))])) _
        refine XS.iadd X32.here hx rfl (hb hby d18_46) rfl ?_
        show Steps p.tables e below (T32.setTop (mkF m 47 #[.val (.ref a1), .val (.int (5 : Int32)), .val (.int (7 : Int32)), .val (.int (0 : Int32)), .val (.int (5 : Int32)), .val (.int c5)] [(.int ((0 : Int32) + (c5 - (48 : Int32))))])) _
        refine XS.istoreN X32.here hx rfl (hb hby d18_47) rfl (l' := #[.val (.ref a1), .val (.int (5 : Int32)), .val (.int (7 : Int32)), .val (.int ((0 : Int32) + (c5 - (48 : Int32)))), .val (.int (5 : Int32)), .val (.int c5)]) rfl ?_
        show Steps p.tables e below (T32.setTop (mkF m 48 #[.val (.ref a1), .val (.int (5 : Int32)), .val (.int (7 : Int32)), .val (.int ((0 : Int32) + (c5 - (48 : Int32)))), .val (.int (5 : Int32)), .val (.int c5)] [])) _
        refine XS.iinc X32.here hx rfl (hb hby d18_48) rfl (l' := #[.val (.ref a1), .val (.int (5 : Int32)), .val (.int (7 : Int32)), .val (.int ((0 : Int32) + (c5 - (48 : Int32)))), .val (.int (6 : Int32)), .val (.int c5)]) rfl ?_
        show Steps p.tables e below (T32.setTop (mkF m 51 #[.val (.ref a1), .val (.int (5 : Int32)), .val (.int (7 : Int32)), .val (.int ((0 : Int32) + (c5 - (48 : Int32)))), .val (.int (6 : Int32)), .val (.int c5)] [])) _
        refine XS.goto X32.here hx rfl (pc0 := 51) (pc' := 5) rfl (hb hby d18_51) (by decide) (by decide) ?_
        show Steps p.tables e below (T32.setTop (mkF m 5 #[.val (.ref a1), .val (.int (5 : Int32)), .val (.int (7 : Int32)), .val (.int ((0 : Int32) + (c5 - (48 : Int32)))), .val (.int (6 : Int32)), .val (.int c5)] [])) _
        refine XS.iload X32.here hx rfl (hb hby d18_5) rfl ?_
        show Steps p.tables e below (T32.setTop (mkF m 7 #[.val (.ref a1), .val (.int (5 : Int32)), .val (.int (7 : Int32)), .val (.int ((0 : Int32) + (c5 - (48 : Int32)))), .val (.int (6 : Int32)), .val (.int c5)] [(.int (6 : Int32))])) _
        refine XS.iloadN X32.here hx rfl (hb hby d18_7) rfl ?_
        show Steps p.tables e below (T32.setTop (mkF m 8 #[.val (.ref a1), .val (.int (5 : Int32)), .val (.int (7 : Int32)), .val (.int ((0 : Int32) + (c5 - (48 : Int32)))), .val (.int (6 : Int32)), .val (.int c5)] [(.int (7 : Int32)), (.int (6 : Int32))])) _
        refine XS.icmpNo X32.here hx rfl (hb hby d18_8) rfl (tlt (by decide)).2.1 ?_
        show Steps p.tables e below (T32.setTop (mkF m 11 #[.val (.ref a1), .val (.int (5 : Int32)), .val (.int (7 : Int32)), .val (.int ((0 : Int32) + (c5 - (48 : Int32)))), .val (.int (6 : Int32)), .val (.int c5)] [])) _
        refine XS.aloadN X32.here hx rfl (hb hby d18_11) rfl rfl ?_
        show Steps p.tables e below (T32.setTop (mkF m 12 #[.val (.ref a1), .val (.int (5 : Int32)), .val (.int (7 : Int32)), .val (.int ((0 : Int32) + (c5 - (48 : Int32)))), .val (.int (6 : Int32)), .val (.int c5)] [(.ref a1)])) _
        refine XS.iload X32.here hx rfl (hb hby d18_12) rfl ?_
        show Steps p.tables e below (T32.setTop (mkF m 14 #[.val (.ref a1), .val (.int (5 : Int32)), .val (.int (7 : Int32)), .val (.int ((0 : Int32) + (c5 - (48 : Int32)))), .val (.int (6 : Int32)), .val (.int c5)] [(.int (6 : Int32)), (.ref a1)])) _
        refine st35.trans ?_
        show Steps p.tables e below (T35.setTop (mkF m 19 #[.val (.ref a1), .val (.int (5 : Int32)), .val (.int (7 : Int32)), .val (.int ((0 : Int32) + (c5 - (48 : Int32)))), .val (.int (6 : Int32)), .val (.int c5)] [(.int c6)])) _
        refine XS.istore X35.here hx rfl (hb hby d18_19) rfl (l' := #[.val (.ref a1), .val (.int (5 : Int32)), .val (.int (7 : Int32)), .val (.int ((0 : Int32) + (c5 - (48 : Int32)))), .val (.int (6 : Int32)), .val (.int c6)]) rfl ?_
        show Steps p.tables e below (T35.setTop (mkF m 21 #[.val (.ref a1), .val (.int (5 : Int32)), .val (.int (7 : Int32)), .val (.int ((0 : Int32) + (c5 - (48 : Int32)))), .val (.int (6 : Int32)), .val (.int c6)] [])) _
        refine XS.iload X35.here hx rfl (hb hby d18_21) rfl ?_
        show Steps p.tables e below (T35.setTop (mkF m 23 #[.val (.ref a1), .val (.int (5 : Int32)), .val (.int (7 : Int32)), .val (.int ((0 : Int32) + (c5 - (48 : Int32)))), .val (.int (6 : Int32)), .val (.int c6)] [(.int c6)])) _
        refine XS.bipush X35.here hx rfl (hb hby d18_23) ?_
        exact k)
      by_cases hc25b : c6 < (48 : Int32)
      ·
        obtain ⟨fs, hr, hrun, hended, hW, hsame⟩ := X35.leave (v := some (.int (-1 : Int32))) (fun h => by rw [Bd.returns] at h; cases h)
        refine ⟨_, _, pre36 _ ?_, hrun, hended, _, _, rfl, ?_, ⟨_, rfl⟩, hW, hsame.mono (by decide) (by decide)⟩
        · show Steps p.tables e below (T35.setTop (mkF m 25 #[.val (.ref a1), .val (.int (5 : Int32)), .val (.int (7 : Int32)), .val (.int ((0 : Int32) + (c5 - (48 : Int32)))), .val (.int (6 : Int32)), .val (.int c6)] [(.int (48 : Int32)), (.int c6)])) _
          refine XS.icmpYes X35.here hx rfl (pc0 := 25) (pc' := 35) rfl (hb hby d18_25) rfl (tlt hc25b).1 (by decide) (by decide) ?_
          show Steps p.tables e below (T35.setTop (mkF m 35 #[.val (.ref a1), .val (.int (5 : Int32)), .val (.int (7 : Int32)), .val (.int ((0 : Int32) + (c5 - (48 : Int32)))), .val (.int (6 : Int32)), .val (.int c6)] [])) _
          refine XS.iconst X35.here hx rfl (hb hby d18_35) ?_
          show Steps p.tables e below (T35.setTop (mkF m 36 #[.val (.ref a1), .val (.int (5 : Int32)), .val (.int (7 : Int32)), .val (.int ((0 : Int32) + (c5 - (48 : Int32)))), .val (.int (6 : Int32)), .val (.int c6)] [(.int (-1 : Int32))])) _
          exact retI X35 hx Bd.returns (hb hby d18_36) hr
        · show QD7 Z a1 c0 c1 c2 c3 c4 c5 c6 zc fm h0 n0 _ T35.heap _
          rw [e35]
          exact ⟨congrArg some (congrArg Value.int (show (-1 : Int32) = (fD7 c5 c6) from by rw [fD7, if_neg hc25, if_neg hc32, if_pos hc25b])), N35, rfl⟩
      ·
        have pre37 : ∀ t, Steps p.tables e below (T35.setTop (mkF m 32 #[.val (.ref a1), .val (.int (5 : Int32)), .val (.int (7 : Int32)), .val (.int ((0 : Int32) + (c5 - (48 : Int32)))), .val (.int (6 : Int32)), .val (.int c6)] [(.int (57 : Int32)), (.int c6)])) t → Steps p.tables e below (s₁.setTop (entryFrame m #[(.ref a1), (.int (5 : Int32)), (.int (7 : Int32))] 6)) t := fun t k => pre36 t (by
          show Steps p.tables e below (T35.setTop (mkF m 25 #[.val (.ref a1), .val (.int (5 : Int32)), .val (.int (7 : Int32)), .val (.int ((0 : Int32) + (c5 - (48 : Int32)))), .val (.int (6 : Int32)), .val (.int c6)] [(.int (48 : Int32)), (.int c6)])) _
          refine XS.icmpNo X35.here hx rfl (hb hby d18_25) rfl (flt hc25b).1 ?_
          show Steps p.tables e below (T35.setTop (mkF m 28 #[.val (.ref a1), .val (.int (5 : Int32)), .val (.int (7 : Int32)), .val (.int ((0 : Int32) + (c5 - (48 : Int32)))), .val (.int (6 : Int32)), .val (.int c6)] [])) _
          refine XS.iload X35.here hx rfl (hb hby d18_28) rfl ?_
          show Steps p.tables e below (T35.setTop (mkF m 30 #[.val (.ref a1), .val (.int (5 : Int32)), .val (.int (7 : Int32)), .val (.int ((0 : Int32) + (c5 - (48 : Int32)))), .val (.int (6 : Int32)), .val (.int c6)] [(.int c6)])) _
          refine XS.bipush X35.here hx rfl (hb hby d18_30) ?_
          exact k)
        by_cases hc32b : (57 : Int32) < c6
        ·
          obtain ⟨fs, hr, hrun, hended, hW, hsame⟩ := X35.leave (v := some (.int (-1 : Int32))) (fun h => by rw [Bd.returns] at h; cases h)
          refine ⟨_, _, pre37 _ ?_, hrun, hended, _, _, rfl, ?_, ⟨_, rfl⟩, hW, hsame.mono (by decide) (by decide)⟩
          · show Steps p.tables e below (T35.setTop (mkF m 32 #[.val (.ref a1), .val (.int (5 : Int32)), .val (.int (7 : Int32)), .val (.int ((0 : Int32) + (c5 - (48 : Int32)))), .val (.int (6 : Int32)), .val (.int c6)] [(.int (57 : Int32)), (.int c6)])) _
            refine XS.icmpNo X35.here hx rfl (hb hby d18_32) rfl (tlt hc32b).2.2.2 ?_
            show Steps p.tables e below (T35.setTop (mkF m 35 #[.val (.ref a1), .val (.int (5 : Int32)), .val (.int (7 : Int32)), .val (.int ((0 : Int32) + (c5 - (48 : Int32)))), .val (.int (6 : Int32)), .val (.int c6)] [])) _
            refine XS.iconst X35.here hx rfl (hb hby d18_35) ?_
            show Steps p.tables e below (T35.setTop (mkF m 36 #[.val (.ref a1), .val (.int (5 : Int32)), .val (.int (7 : Int32)), .val (.int ((0 : Int32) + (c5 - (48 : Int32)))), .val (.int (6 : Int32)), .val (.int c6)] [(.int (-1 : Int32))])) _
            exact retI X35 hx Bd.returns (hb hby d18_36) hr
          · show QD7 Z a1 c0 c1 c2 c3 c4 c5 c6 zc fm h0 n0 _ T35.heap _
            rw [e35]
            exact ⟨congrArg some (congrArg Value.int (show (-1 : Int32) = (fD7 c5 c6) from by rw [fD7, if_neg hc25, if_neg hc32, if_neg hc25b, if_pos hc32b])), N35, rfl⟩
        ·
          obtain ⟨fs, hr, hrun, hended, hW, hsame⟩ := X35.leave (v := some (.int ((((0 : Int32) + (c5 - (48 : Int32))) * (10 : Int32)) + (c6 - (48 : Int32))))) (fun h => by rw [Bd.returns] at h; cases h)
          refine ⟨_, _, pre37 _ ?_, hrun, hended, _, _, rfl, ?_, ⟨_, rfl⟩, hW, hsame.mono (by decide) (by decide)⟩
          · show Steps p.tables e below (T35.setTop (mkF m 32 #[.val (.ref a1), .val (.int (5 : Int32)), .val (.int (7 : Int32)), .val (.int ((0 : Int32) + (c5 - (48 : Int32)))), .val (.int (6 : Int32)), .val (.int c6)] [(.int (57 : Int32)), (.int c6)])) _
            refine XS.icmpYes X35.here hx rfl (pc0 := 32) (pc' := 37) rfl (hb hby d18_32) rfl (flt hc32b).2.2.2 (by decide) (by decide) ?_
            show Steps p.tables e below (T35.setTop (mkF m 37 #[.val (.ref a1), .val (.int (5 : Int32)), .val (.int (7 : Int32)), .val (.int ((0 : Int32) + (c5 - (48 : Int32)))), .val (.int (6 : Int32)), .val (.int c6)] [])) _
            refine XS.iloadN X35.here hx rfl (hb hby d18_37) rfl ?_
            show Steps p.tables e below (T35.setTop (mkF m 38 #[.val (.ref a1), .val (.int (5 : Int32)), .val (.int (7 : Int32)), .val (.int ((0 : Int32) + (c5 - (48 : Int32)))), .val (.int (6 : Int32)), .val (.int c6)] [(.int ((0 : Int32) + (c5 - (48 : Int32))))])) _
            refine XS.bipush X35.here hx rfl (hb hby d18_38) ?_
            show Steps p.tables e below (T35.setTop (mkF m 40 #[.val (.ref a1), .val (.int (5 : Int32)), .val (.int (7 : Int32)), .val (.int ((0 : Int32) + (c5 - (48 : Int32)))), .val (.int (6 : Int32)), .val (.int c6)] [(.int (10 : Int32)), (.int ((0 : Int32) + (c5 - (48 : Int32))))])) _
            refine XS.imul X35.here hx rfl (hb hby d18_40) rfl ?_
            show Steps p.tables e below (T35.setTop (mkF m 41 #[.val (.ref a1), .val (.int (5 : Int32)), .val (.int (7 : Int32)), .val (.int ((0 : Int32) + (c5 - (48 : Int32)))), .val (.int (6 : Int32)), .val (.int c6)] [(.int (((0 : Int32) + (c5 - (48 : Int32))) * (10 : Int32)))])) _
            refine XS.iload X35.here hx rfl (hb hby d18_41) rfl ?_
            show Steps p.tables e below (T35.setTop (mkF m 43 #[.val (.ref a1), .val (.int (5 : Int32)), .val (.int (7 : Int32)), .val (.int ((0 : Int32) + (c5 - (48 : Int32)))), .val (.int (6 : Int32)), .val (.int c6)] [(.int c6), (.int (((0 : Int32) + (c5 - (48 : Int32))) * (10 : Int32)))])) _
            refine XS.bipush X35.here hx rfl (hb hby d18_43) ?_
            show Steps p.tables e below (T35.setTop (mkF m 45 #[.val (.ref a1), .val (.int (5 : Int32)), .val (.int (7 : Int32)), .val (.int ((0 : Int32) + (c5 - (48 : Int32)))), .val (.int (6 : Int32)), .val (.int c6)] [(.int (48 : Int32)), (.int c6), (.int (((0 : Int32) + (c5 - (48 : Int32))) * (10 : Int32)))])) _
            refine XS.isub X35.here hx rfl (hb hby d18_45) rfl ?_
            show Steps p.tables e below (T35.setTop (mkF m 46 #[.val (.ref a1), .val (.int (5 : Int32)), .val (.int (7 : Int32)), .val (.int ((0 : Int32) + (c5 - (48 : Int32)))), .val (.int (6 : Int32)), .val (.int c6)] [(.int (c6 - (48 : Int32))), (.int (((0 : Int32) + (c5 - (48 : Int32))) * (10 : Int32)))])) _
            refine XS.iadd X35.here hx rfl (hb hby d18_46) rfl ?_
            show Steps p.tables e below (T35.setTop (mkF m 47 #[.val (.ref a1), .val (.int (5 : Int32)), .val (.int (7 : Int32)), .val (.int ((0 : Int32) + (c5 - (48 : Int32)))), .val (.int (6 : Int32)), .val (.int c6)] [(.int ((((0 : Int32) + (c5 - (48 : Int32))) * (10 : Int32)) + (c6 - (48 : Int32))))])) _
            refine XS.istoreN X35.here hx rfl (hb hby d18_47) rfl (l' := #[.val (.ref a1), .val (.int (5 : Int32)), .val (.int (7 : Int32)), .val (.int ((((0 : Int32) + (c5 - (48 : Int32))) * (10 : Int32)) + (c6 - (48 : Int32)))), .val (.int (6 : Int32)), .val (.int c6)]) rfl ?_
            show Steps p.tables e below (T35.setTop (mkF m 48 #[.val (.ref a1), .val (.int (5 : Int32)), .val (.int (7 : Int32)), .val (.int ((((0 : Int32) + (c5 - (48 : Int32))) * (10 : Int32)) + (c6 - (48 : Int32)))), .val (.int (6 : Int32)), .val (.int c6)] [])) _
            refine XS.iinc X35.here hx rfl (hb hby d18_48) rfl (l' := #[.val (.ref a1), .val (.int (5 : Int32)), .val (.int (7 : Int32)), .val (.int ((((0 : Int32) + (c5 - (48 : Int32))) * (10 : Int32)) + (c6 - (48 : Int32)))), .val (.int (7 : Int32)), .val (.int c6)]) rfl ?_
            show Steps p.tables e below (T35.setTop (mkF m 51 #[.val (.ref a1), .val (.int (5 : Int32)), .val (.int (7 : Int32)), .val (.int ((((0 : Int32) + (c5 - (48 : Int32))) * (10 : Int32)) + (c6 - (48 : Int32)))), .val (.int (7 : Int32)), .val (.int c6)] [])) _
            refine XS.goto X35.here hx rfl (pc0 := 51) (pc' := 5) rfl (hb hby d18_51) (by decide) (by decide) ?_
            show Steps p.tables e below (T35.setTop (mkF m 5 #[.val (.ref a1), .val (.int (5 : Int32)), .val (.int (7 : Int32)), .val (.int ((((0 : Int32) + (c5 - (48 : Int32))) * (10 : Int32)) + (c6 - (48 : Int32)))), .val (.int (7 : Int32)), .val (.int c6)] [])) _
            refine XS.iload X35.here hx rfl (hb hby d18_5) rfl ?_
            show Steps p.tables e below (T35.setTop (mkF m 7 #[.val (.ref a1), .val (.int (5 : Int32)), .val (.int (7 : Int32)), .val (.int ((((0 : Int32) + (c5 - (48 : Int32))) * (10 : Int32)) + (c6 - (48 : Int32)))), .val (.int (7 : Int32)), .val (.int c6)] [(.int (7 : Int32))])) _
            refine XS.iloadN X35.here hx rfl (hb hby d18_7) rfl ?_
            show Steps p.tables e below (T35.setTop (mkF m 8 #[.val (.ref a1), .val (.int (5 : Int32)), .val (.int (7 : Int32)), .val (.int ((((0 : Int32) + (c5 - (48 : Int32))) * (10 : Int32)) + (c6 - (48 : Int32)))), .val (.int (7 : Int32)), .val (.int c6)] [(.int (7 : Int32)), (.int (7 : Int32))])) _
            refine XS.icmpYes X35.here hx rfl (pc0 := 8) (pc' := 54) rfl (hb hby d18_8) rfl (flt (by decide)).2.1 (by decide) (by decide) ?_
            show Steps p.tables e below (T35.setTop (mkF m 54 #[.val (.ref a1), .val (.int (5 : Int32)), .val (.int (7 : Int32)), .val (.int ((((0 : Int32) + (c5 - (48 : Int32))) * (10 : Int32)) + (c6 - (48 : Int32)))), .val (.int (7 : Int32)), .val (.int c6)] [])) _
            refine XS.iloadN X35.here hx rfl (hb hby d18_54) rfl ?_
            show Steps p.tables e below (T35.setTop (mkF m 55 #[.val (.ref a1), .val (.int (5 : Int32)), .val (.int (7 : Int32)), .val (.int ((((0 : Int32) + (c5 - (48 : Int32))) * (10 : Int32)) + (c6 - (48 : Int32)))), .val (.int (7 : Int32)), .val (.int c6)] [(.int ((((0 : Int32) + (c5 - (48 : Int32))) * (10 : Int32)) + (c6 - (48 : Int32))))])) _
            exact retI X35 hx Bd.returns (hb hby d18_55) hr
          · show QD7 Z a1 c0 c1 c2 c3 c4 c5 c6 zc fm h0 n0 _ T35.heap _
            rw [e35]
            exact ⟨congrArg some (congrArg Value.int (show ((((0 : Int32) + (c5 - (48 : Int32))) * (10 : Int32)) + (c6 - (48 : Int32))) = (fD7 c5 c6) from by rw [fD7, if_neg hc25, if_neg hc32, if_neg hc25b, if_neg hc32b])), N35, rfl⟩
def QN7 (Z : State) (a1 : Addr) (c0 : Int32) (c1 : Int32) (c2 : Int32) (c3 : Int32) (c4 : Int32) (c5 : Int32) (c6 : Int32) (zc : Int32) (fm : Value) (h0 : Heap) (n0 : Nat) (v : Option Value) (h : Heap) (L : List Loc) : Prop := v = some (.int (fN7 c0 c1 c2 c3 c4 c5 c6)) ∧ Fr n0 L ∧ (Keep h0 h [])
theorem ef_N7 (m : MethodId) (a1 : Addr) : entryFrame m #[(.ref a1)] 4 = mkF m 0 #[.val (.ref a1), .unset, .unset, .unset] [] := by first | (simp [entryFrame, mkF, argsToLocals, Value.category]; done) | rfl
set_option maxRecDepth 65536 in
set_option maxHeartbeats 40000000 in
theorem rmN7 (l : Launch) (Z : State) (a0 : Array Value) (hw : ∀ d ∈ tables_1, d.before a0 Z = true) (ws : List Jvm.Cond) (a1 : Addr) (c0 : Int32) (c1 : Int32) (c2 : Int32) (c3 : Int32) (c4 : Int32) (c5 : Int32) (c6 : Int32) (zc : Int32) (fm : Value) (h0 : Heap) (n0 : Nat) (Zs : n0 ≤ h0.size) (E_a1 : Exa Z h0 a1 "java/lang/String") (T_a1 : Stx Z h0 a1 [c0, c1, c2, c3, c4, c5, c6]) (Ol : Old Z n0 h0) (S_COMPACT_STRINGS : Sta Z Z.heap "java/lang/String" "COMPACT_STRINGS" "Z" (.int zc)) (S_SIOOBE_FORMATTER : Sta Z Z.heap "jdk/internal/util/Preconditions" "SIOOBE_FORMATTER" "Ljava/util/function/BiFunction;" fm) (hzc : ¬ zc = 0) (hfm : fm.isRef = true) (S_HYPHEN : Sta Z Z.heap "com/example/reta/reta/calendar/Months" "HYPHEN" "I" (.int (4 : Int32))) :
    MetFree l (⟨"com/example/reta/reta/calendar/Months", "number", "(Ljava/lang/CharSequence;)I"⟩ : MethodName) (head1 (Jvm.Cond.code (⟨"com/example/reta/reta/calendar/Months", "number", "(Ljava/lang/CharSequence;)I"⟩ : MethodName) prog_1_method_2_code 4 (some .int) :: ws) ({ frames := 5, cells := 2, slots := 32, locals := 70 } : Room)) (fun a U => a = #[(.ref a1)] ∧ Z.Warmed39 U.vm ∧ U.heap = h0 ∧ CHv Z ELs U.vm h0) (fun _ _ _ _ _ => True) (fun _ U o U' => ∃ v L, o = .returned v ∧ QN7 Z a1 c0 c1 c2 c3 c4 c5 c6 zc fm h0 n0 v U'.heap L ∧ CHr Z ELs U.vm U.heap U'.vm U'.heap ∧ ReturnedEndW U o U' L ({ frames := 5, cells := 2, slots := 32, locals := 70 } : Room).cells ({ frames := 5, cells := 2, slots := 32, locals := 70 } : Room).slots) := by
  refine MetFree.of_bodySF (plainFor_of_name pn_1) hisR ?_
  intro p e s m args below meth c s₁ Bd hml0 hP hK
  obtain ⟨rfl, hZ, hh, hCH⟩ := hP
  have hx := Bd.exec
  have hby := Bd.bytes
  have hml : c.maxLocals = 4 := hml0
  have hown : s.vm.findClass "com/example/reta/reta/calendar/Months" = some m.cls := findClass_of_methodNamed Bd.named
  have hnm := (name_of_methodNamed Bd.named Bd.method).1
  have X0 : Stand p l e ({ frames := 5, cells := 2, slots := 32, locals := 70 } : Room) s m #[(.ref a1)] below meth c s₁ [] 0 0 := Stand.of_body Bd
  have e0 : s₁.heap = h0 := by rw [← hh, Bd.state]; rfl
  have N0 := Fr.nil n0
  have pre0 : ∀ t, Steps p.tables e below (s₁.setTop (mkF m 0 #[.val (.ref a1), .unset, .unset, .unset] [])) t → Steps p.tables e below (s₁.setTop (entryFrame m #[(.ref a1)] 4)) t := fun t k => castTop (ef_N7 m a1) k
  have hEL := own_EL hw
  have hStr := own_str hw
  have Kp : Keep h0 h0 [] := Keep.refl h0 []
  obtain ⟨cq38, kq38, q38a, q38b, q38c⟩ := isOf hZ e0 E_a1
  obtain ⟨_, _, ⟨T38, L38, k38, n38⟩, -, X38, ⟨Lc38, hQ38, l38, y38, z38⟩, st38⟩ := X0.interfaceBack hx (xi := (⟨"java/lang/CharSequence", "length", "()I"⟩ : MethodName)) (y := (⟨"java/lang/String", "length", "()I"⟩ : MethodName)) hown (mvT hZ (hw _ (List.mem_of_getElem? (i := 41) rfl))) (mvT hZ (hw _ (List.mem_of_getElem? (i := 42) rfl))) (mvT hZ (hw _ (List.mem_of_getElem? (i := 43) rfl))) (mvT hZ (hw _ (List.mem_of_getElem? (i := 44) rfl))) (mvT hZ (hw _ (List.mem_of_getElem? (i := 45) rfl))) (mvT hZ (hw _ (List.mem_of_getElem? (i := 46) rfl))) (mvT hZ (hw _ (List.mem_of_getElem? (i := 47) rfl))) (mvT hZ (hw _ (List.mem_of_getElem? (i := 48) rfl))) (by decide) (own_len (W := 0) hZ hw T_a1 (Sta.ext Ol.2 S_COMPACT_STRINGS) hzc (by decide) (by decide)) q38a q38b q38c (g := (mkF m 3 #[.val (.ref a1), .val (.int (-1 : Int32)), .unset, .unset] [(.ref a1)])) rfl (by rw [hml]; rfl) (Steps.refl _) (argsL := []) (rest := []) (lenOf pd_2 rfl) rfl (by show 2 * 0 + _ ≤ _; exact Nat.le_of_eq rfl) (hb hby d9_3) (fun _ _ => ⟨rfl, e0, (by decide : 0 + 0 ≤ _), (by decide : 0 + 0 ≤ _)⟩)
  dsimp only [Pt.U, Pt.locs, Pt.cells, Pt.slots] at X38 l38 y38 z38 st38 hQ38
  subst l38 y38 z38
  obtain ⟨rfl, rfl, e38⟩ := hQ38
  have N38 := Fr.app N0 (Fr.nil n0)
  obtain ⟨a39, T39, h39, k39, b39, kb39, X39, e39, E39, hS39, hk39, hZ, hown, Ea39, C39, V39, K39, -, -, R39, -, -, st39⟩ := ldcCH X38 hx hZ hown (hw _ (List.mem_of_getElem? (i := 55) rfl)) hStr e38 ((State.WarmedH.refl s).since 0) (Nat.zero_le _) hEL (by decide) hCH (text := "AAAA-MM") (vs := ((([(65 : Int32), (65 : Int32), (65 : Int32), (65 : Int32), (45 : Int32), (77 : Int32), (77 : Int32)] : List Int32).map (fun c => c.toInt8.toInt32)).map Value.int)) (z := (7 : Int32)) (by decide +kernel) (by decide) rfl (g := (mkF m 8 #[.val (.ref a1), .val (.int (-1 : Int32)), .unset, .unset] [(.int (7 : Int32))])) rfl (hb hby d9_8) (n := 28) (by decide) (by decide) (by decide) (by decide)
  have Zs : n0 ≤ h39.size := Nat.le_trans Zs E39.1
  have E_a1 : Exa Z h39 a1 "java/lang/String" := E_a1.ext E39
  have T_a1 : Stx Z h39 a1 [c0, c1, c2, c3, c4, c5, c6] := T_a1.ext E39
  have Ol : Old Z n0 h39 := Ol.ext E39
  have Kp : Keep h0 h39 [] := Kp.ext E39
  have E_a39 : Exa Z h39 a39 "java/lang/String" := Ea39
  have T_a39 : Stx Z h39 a39 [(65 : Int32), (65 : Int32), (65 : Int32), (65 : Int32), (45 : Int32), (77 : Int32), (77 : Int32)] := ⟨b39, kb39, Ea39, V39, C39, K39, by decide, by decide⟩
  obtain ⟨cq40, kq40, q40a, q40b, q40c⟩ := isOf hZ e39 E_a39
  obtain ⟨_, _, ⟨T40, L40, k40, n40⟩, -, X40, ⟨Lc40, hQ40, l40, y40, z40⟩, st40⟩ := X39.virtualBack hx (y := (⟨"java/lang/String", "length", "()I"⟩ : MethodName)) (z := (⟨"java/lang/String", "length", "()I"⟩ : MethodName)) hown (mvT hZ (hw _ (List.mem_of_getElem? (i := 58) rfl))) (mvT hZ (hw _ (List.mem_of_getElem? (i := 59) rfl))) (notFace_of_selects (args := #[]) (mvT hZ (hw _ (List.mem_of_getElem? (i := 60) rfl)))) (mvT hZ (hw _ (List.mem_of_getElem? (i := 60) rfl))) (mvT hZ (hw _ (List.mem_of_getElem? (i := 45) rfl))) (by decide) (own_len (W := 1) hZ hw T_a39 (Sta.ext Ol.2 S_COMPACT_STRINGS) hzc (by decide) (by decide)) q40a q40c (g := (mkF m 10 #[.val (.ref a1), .val (.int (-1 : Int32)), .unset, .unset] [(.ref a39), (.int (7 : Int32))])) rfl (by rw [hml]; rfl) (Steps.refl _) (argsL := []) (rest := [(.int (7 : Int32))]) (lenOf pd_2 rfl) rfl (by show 2 * 0 + _ ≤ _; exact Nat.le_of_eq rfl) (hb hby d9_10) (fun _ _ => ⟨rfl, e39, (by decide : 2 + 0 ≤ _), (by decide : 32 + 0 ≤ _)⟩)
  dsimp only [Pt.U, Pt.locs, Pt.cells, Pt.slots] at X40 l40 y40 z40 st40 hQ40
  subst l40 y40 z40
  obtain ⟨rfl, rfl, e40⟩ := hQ40
  have N40 := Fr.app N38 (Fr.nil n0)
  obtain ⟨T41, X41, e41, st41⟩ := getS2 X40 hx hZ hown (host := "") (Or.inl (hw _ (List.mem_of_getElem? (i := 65) rfl))) Via.refl e40 (Sta.ext Ol.2 S_HYPHEN) (g := (mkF m 17 #[.val (.ref a1), .val (.int (-1 : Int32)), .unset, .unset] [(.ref a1)])) rfl (hb hby d9_17)
  obtain ⟨cq42, kq42, q42a, q42b, q42c⟩ := isOf hZ e41 E_a1
  obtain ⟨_, _, ⟨T42, L42, k42, n42⟩, -, X42, ⟨Lc42, hQ42, l42, y42, z42⟩, st42⟩ := X41.interfaceBack hx (xi := (⟨"java/lang/CharSequence", "charAt", "(I)C"⟩ : MethodName)) (y := (⟨"java/lang/String", "charAt", "(I)C"⟩ : MethodName)) hown (mvT hZ (hw _ (List.mem_of_getElem? (i := 67) rfl))) (mvT hZ (hw _ (List.mem_of_getElem? (i := 68) rfl))) (mvT hZ (hw _ (List.mem_of_getElem? (i := 69) rfl))) (mvT hZ (hw _ (List.mem_of_getElem? (i := 70) rfl))) (mvT hZ (hw _ (List.mem_of_getElem? (i := 71) rfl))) (mvT hZ (hw _ (List.mem_of_getElem? (i := 72) rfl))) (mvT hZ (hw _ (List.mem_of_getElem? (i := 73) rfl))) (mvT hZ (hw _ (List.mem_of_getElem? (i := 48) rfl))) (by decide) (own_chr (W := 0) hZ hw T_a1 (Sta.ext Ol.2 S_COMPACT_STRINGS) hzc (Sta.ext Ol.2 S_SIOOBE_FORMATTER) hfm (i := 4) (j := (4 : Int32)) (Nat.le_of_ble_eq_true rfl) rfl (by decide) (by decide)) q42a q42b q42c (g := (mkF m 20 #[.val (.ref a1), .val (.int (-1 : Int32)), .unset, .unset] [(.int (4 : Int32)), (.ref a1)])) rfl (by rw [hml]; rfl) (Steps.refl _) (argsL := [(.int (4 : Int32))]) (rest := []) (lenOf pd_1 rfl) rfl (by show 2 * 0 + _ ≤ _; exact Nat.le_of_eq rfl) (hb hby d9_20) (fun _ _ => ⟨rfl, e41, (by decide : 2 + 0 ≤ _), (by decide : 32 + 0 ≤ _)⟩)
  dsimp only [Pt.U, Pt.locs, Pt.cells, Pt.slots] at X42 l42 y42 z42 st42 hQ42
  subst l42 y42 z42
  obtain ⟨rfl, rfl, e42⟩ := hQ42
  have N42 := Fr.app N40 (Fr.nil n0)
  have pre43 : ∀ t, Steps p.tables e below (T42.setTop (mkF m 27 #[.val (.ref a1), .val (.int (-1 : Int32)), .unset, .unset] [(.int (45 : Int32)), (.int c4)])) t → Steps p.tables e below (s₁.setTop (entryFrame m #[(.ref a1)] 4)) t := fun t k => pre0 t (by
    show Steps p.tables e below (s₁.setTop (mkF m 0 #[.val (.ref a1), .unset, .unset, .unset] [])) _
    refine XS.iconst X0.here hx rfl (hb hby d9_0) ?_
    show Steps p.tables e below (s₁.setTop (mkF m 1 #[.val (.ref a1), .unset, .unset, .unset] [(.int (-1 : Int32))])) _
    refine XS.istoreN X0.here hx rfl (hb hby d9_1) rfl (l' := #[.val (.ref a1), .val (.int (-1 : Int32)), .unset, .unset]) rfl ?_
    show Steps p.tables e below (s₁.setTop (mkF m 2 #[.val (.ref a1), .val (.int (-1 : Int32)), .unset, .unset] [])) _
    refine XS.aloadN X0.here hx rfl (hb hby d9_2) rfl rfl ?_
    show Steps p.tables e below (s₁.setTop (mkF m 3 #[.val (.ref a1), .val (.int (-1 : Int32)), .unset, .unset] [(.ref a1)])) _
    refine st38.trans ?_
    show Steps p.tables e below (T38.setTop (mkF m 8 #[.val (.ref a1), .val (.int (-1 : Int32)), .unset, .unset] [(.int (7 : Int32))])) _
    refine st39 _ ?_
    show Steps p.tables e below (T39.setTop (mkF m 10 #[.val (.ref a1), .val (.int (-1 : Int32)), .unset, .unset] [(.ref a39), (.int (7 : Int32))])) _
    refine st40.trans ?_
    show Steps p.tables e below (T40.setTop (mkF m 13 #[.val (.ref a1), .val (.int (-1 : Int32)), .unset, .unset] [(.int (7 : Int32)), (.int (7 : Int32))])) _
    refine XS.icmpNo X40.here hx rfl (hb hby d9_13) rfl (teq (by decide)).2 ?_
    show Steps p.tables e below (T40.setTop (mkF m 16 #[.val (.ref a1), .val (.int (-1 : Int32)), .unset, .unset] [])) _
    refine XS.aloadN X40.here hx rfl (hb hby d9_16) rfl rfl ?_
    show Steps p.tables e below (T40.setTop (mkF m 17 #[.val (.ref a1), .val (.int (-1 : Int32)), .unset, .unset] [(.ref a1)])) _
    refine st41 _ ?_
    show Steps p.tables e below (T41.setTop (mkF m 20 #[.val (.ref a1), .val (.int (-1 : Int32)), .unset, .unset] [(.int (4 : Int32)), (.ref a1)])) _
    refine st42.trans ?_
    show Steps p.tables e below (T42.setTop (mkF m 25 #[.val (.ref a1), .val (.int (-1 : Int32)), .unset, .unset] [(.int c4)])) _
    refine XS.bipush X42.here hx rfl (hb hby d9_25) ?_
    exact k)
  by_cases hc27 : c4 = (45 : Int32)
  ·
    obtain ⟨T44, X44, e44, st44⟩ := getS2 X42 hx hZ hown (host := "") (Or.inl (hw _ (List.mem_of_getElem? (i := 65) rfl))) Via.refl e42 (Sta.ext Ol.2 S_HYPHEN) (g := (mkF m 32 #[.val (.ref a1), .val (.int (-1 : Int32)), .unset, .unset] [(.int (0 : Int32)), (.ref a1)])) rfl (hb hby d9_32)
    obtain ⟨_, _, ⟨T45, L45, k45, n45⟩, -, X45, ⟨Lc45, hQ45, l45, y45, z45⟩, st45⟩ := Jvm.LawKit.callS X44 hx (y := (⟨"com/example/reta/reta/calendar/Months", "digits", "(Ljava/lang/CharSequence;II)I"⟩ : MethodName)) hown (mvT hZ (hw _ (List.mem_of_getElem? (i := 92) rfl))) (mvT hZ (hw _ (List.mem_of_getElem? (i := 93) rfl))) (mvT hZ (hw _ (List.mem_of_getElem? (i := 39) rfl))) (mvT hZ (hw _ (List.mem_of_getElem? (i := 94) rfl))) (by decide) (backOf (W := 0) (rmD4 l Z a0 hw [] a1 c0 c1 c2 c3 c4 c5 c6 zc fm h39 n0 Zs E_a1 T_a1 Ol S_COMPACT_STRINGS S_SIOOBE_FORMATTER hzc hfm) hZ (hw _ (List.mem_of_getElem? (i := 94) rfl)) (hw _ (List.mem_of_getElem? (i := 39) rfl)) (by decide) (by decide)) (g := (mkF m 35 #[.val (.ref a1), .val (.int (-1 : Int32)), .unset, .unset] [(.int (4 : Int32)), (.int (0 : Int32)), (.ref a1)])) rfl (by rw [hml]; rfl) (argsL := [(.ref a1), (.int (0 : Int32)), (.int (4 : Int32))]) (rest := []) (lenOf pd_3 rfl) rfl (by show 2 * 0 + _ ≤ _; exact Nat.le_of_eq rfl) (hb hby d9_35) (fun _ _ => ⟨rfl, e44, (by decide : 2 + 0 ≤ _), (by decide : 32 + 0 ≤ _)⟩)
    dsimp only [Pt.U, Pt.locs, Pt.cells, Pt.slots] at X45 l45 y45 z45 st45 hQ45
    subst l45 y45 z45
    obtain ⟨rfl, N45q, e45⟩ := hQ45
    have N45 := Fr.app N42 N45q
    obtain ⟨T46, X46, e46, st46⟩ := getS2 X45 hx hZ hown (host := "") (Or.inl (hw _ (List.mem_of_getElem? (i := 65) rfl))) Via.refl e45 (Sta.ext Ol.2 S_HYPHEN) (g := (mkF m 40 #[.val (.ref a1), .val (.int (-1 : Int32)), .val (.int (fD4 c0 c1 c2 c3)), .unset] [(.ref a1)])) rfl (hb hby d9_40)
    obtain ⟨cq47, kq47, q47a, q47b, q47c⟩ := isOf hZ e46 E_a1
    obtain ⟨_, _, ⟨T47, L47, k47, n47⟩, -, X47, ⟨Lc47, hQ47, l47, y47, z47⟩, st47⟩ := X46.interfaceBack hx (xi := (⟨"java/lang/CharSequence", "length", "()I"⟩ : MethodName)) (y := (⟨"java/lang/String", "length", "()I"⟩ : MethodName)) hown (mvT hZ (hw _ (List.mem_of_getElem? (i := 41) rfl))) (mvT hZ (hw _ (List.mem_of_getElem? (i := 42) rfl))) (mvT hZ (hw _ (List.mem_of_getElem? (i := 43) rfl))) (mvT hZ (hw _ (List.mem_of_getElem? (i := 44) rfl))) (mvT hZ (hw _ (List.mem_of_getElem? (i := 45) rfl))) (mvT hZ (hw _ (List.mem_of_getElem? (i := 46) rfl))) (mvT hZ (hw _ (List.mem_of_getElem? (i := 47) rfl))) (mvT hZ (hw _ (List.mem_of_getElem? (i := 48) rfl))) (by decide) (own_len (W := 2) hZ hw T_a1 (Sta.ext Ol.2 S_COMPACT_STRINGS) hzc (by decide) (by decide)) q47a q47b q47c (g := (mkF m 46 #[.val (.ref a1), .val (.int (-1 : Int32)), .val (.int (fD4 c0 c1 c2 c3)), .unset] [(.ref a1), (.int (5 : Int32)), (.ref a1)])) rfl (by rw [hml]; rfl) (Steps.refl _) (argsL := []) (rest := [(.int (5 : Int32)), (.ref a1)]) (lenOf pd_2 rfl) rfl (by show 2 * 0 + _ ≤ _; exact Nat.le_of_eq rfl) (hb hby d9_46) (fun _ _ => ⟨rfl, e46, (by decide : 2 + 0 ≤ _), (by decide : 32 + 0 ≤ _)⟩)
    dsimp only [Pt.U, Pt.locs, Pt.cells, Pt.slots] at X47 l47 y47 z47 st47 hQ47
    subst l47 y47 z47
    obtain ⟨rfl, rfl, e47⟩ := hQ47
    have N47 := Fr.app N45 (Fr.nil n0)
    obtain ⟨_, _, ⟨T48, L48, k48, n48⟩, -, X48, ⟨Lc48, hQ48, l48, y48, z48⟩, st48⟩ := Jvm.LawKit.callS X47 hx (y := (⟨"com/example/reta/reta/calendar/Months", "digits", "(Ljava/lang/CharSequence;II)I"⟩ : MethodName)) hown (mvT hZ (hw _ (List.mem_of_getElem? (i := 92) rfl))) (mvT hZ (hw _ (List.mem_of_getElem? (i := 93) rfl))) (mvT hZ (hw _ (List.mem_of_getElem? (i := 39) rfl))) (mvT hZ (hw _ (List.mem_of_getElem? (i := 94) rfl))) (by decide) (backOf (W := 0) (rmD7 l Z a0 hw [] a1 c0 c1 c2 c3 c4 c5 c6 zc fm h39 n0 Zs E_a1 T_a1 Ol S_COMPACT_STRINGS S_SIOOBE_FORMATTER hzc hfm) hZ (hw _ (List.mem_of_getElem? (i := 94) rfl)) (hw _ (List.mem_of_getElem? (i := 39) rfl)) (by decide) (by decide)) (g := (mkF m 51 #[.val (.ref a1), .val (.int (-1 : Int32)), .val (.int (fD4 c0 c1 c2 c3)), .unset] [(.int (7 : Int32)), (.int (5 : Int32)), (.ref a1)])) rfl (by rw [hml]; rfl) (argsL := [(.ref a1), (.int (5 : Int32)), (.int (7 : Int32))]) (rest := []) (lenOf pd_3 rfl) rfl (by show 2 * 0 + _ ≤ _; exact Nat.le_of_eq rfl) (hb hby d9_51) (fun _ _ => ⟨rfl, e47, (by decide : 2 + 0 ≤ _), (by decide : 32 + 0 ≤ _)⟩)
    dsimp only [Pt.U, Pt.locs, Pt.cells, Pt.slots] at X48 l48 y48 z48 st48 hQ48
    subst l48 y48 z48
    obtain ⟨rfl, N48q, e48⟩ := hQ48
    have N48 := Fr.app N47 N48q
    have pre49 : ∀ t, Steps p.tables e below (T48.setTop (mkF m 56 #[.val (.ref a1), .val (.int (-1 : Int32)), .val (.int (fD4 c0 c1 c2 c3)), .val (.int (fD7 c5 c6))] [(.int (fD4 c0 c1 c2 c3))])) t → Steps p.tables e below (s₁.setTop (entryFrame m #[(.ref a1)] 4)) t := fun t k => pre43 t (by
      show Steps p.tables e below (T42.setTop (mkF m 27 #[.val (.ref a1), .val (.int (-1 : Int32)), .unset, .unset] [(.int (45 : Int32)), (.int c4)])) _
      refine XS.icmpNo X42.here hx rfl (hb hby d9_27) rfl (teq hc27).2 ?_
      show Steps p.tables e below (T42.setTop (mkF m 30 #[.val (.ref a1), .val (.int (-1 : Int32)), .unset, .unset] [])) _
      refine XS.aloadN X42.here hx rfl (hb hby d9_30) rfl rfl ?_
      show Steps p.tables e below (T42.setTop (mkF m 31 #[.val (.ref a1), .val (.int (-1 : Int32)), .unset, .unset] [(.ref a1)])) _
      refine XS.iconst X42.here hx rfl (hb hby d9_31) ?_
      show Steps p.tables e below (T42.setTop (mkF m 32 #[.val (.ref a1), .val (.int (-1 : Int32)), .unset, .unset] [(.int (0 : Int32)), (.ref a1)])) _
      refine st44 _ ?_
      show Steps p.tables e below (T44.setTop (mkF m 35 #[.val (.ref a1), .val (.int (-1 : Int32)), .unset, .unset] [(.int (4 : Int32)), (.int (0 : Int32)), (.ref a1)])) _
      refine st45 _ ?_
      show Steps p.tables e below (T45.setTop (mkF m 38 #[.val (.ref a1), .val (.int (-1 : Int32)), .unset, .unset] [(.int (fD4 c0 c1 c2 c3))])) _
      refine XS.istoreN X45.here hx rfl (hb hby d9_38) rfl (l' := #[.val (.ref a1), .val (.int (-1 : Int32)), .val (.int (fD4 c0 c1 c2 c3)), .unset]) rfl ?_
      show Steps p.tables e below (T45.setTop (mkF m 39 #[.val (.ref a1), .val (.int (-1 : Int32)), .val (.int (fD4 c0 c1 c2 c3)), .unset] [])) _
      refine XS.aloadN X45.here hx rfl (hb hby d9_39) rfl rfl ?_
      show Steps p.tables e below (T45.setTop (mkF m 40 #[.val (.ref a1), .val (.int (-1 : Int32)), .val (.int (fD4 c0 c1 c2 c3)), .unset] [(.ref a1)])) _
      refine st46 _ ?_
      show Steps p.tables e below (T46.setTop (mkF m 43 #[.val (.ref a1), .val (.int (-1 : Int32)), .val (.int (fD4 c0 c1 c2 c3)), .unset] [(.int (4 : Int32)), (.ref a1)])) _
      refine XS.iconst X46.here hx rfl (hb hby d9_43) ?_
      show Steps p.tables e below (T46.setTop (mkF m 44 #[.val (.ref a1), .val (.int (-1 : Int32)), .val (.int (fD4 c0 c1 c2 c3)), .unset] [(.int (1 : Int32)), (.int (4 : Int32)), (.ref a1)])) _
      refine XS.iadd X46.here hx rfl (hb hby d9_44) rfl ?_
      show Steps p.tables e below (T46.setTop (mkF m 45 #[.val (.ref a1), .val (.int (-1 : Int32)), .val (.int (fD4 c0 c1 c2 c3)), .unset] [(.int (5 : Int32)), (.ref a1)])) _
      refine XS.aloadN X46.here hx rfl (hb hby d9_45) rfl rfl ?_
      show Steps p.tables e below (T46.setTop (mkF m 46 #[.val (.ref a1), .val (.int (-1 : Int32)), .val (.int (fD4 c0 c1 c2 c3)), .unset] [(.ref a1), (.int (5 : Int32)), (.ref a1)])) _
      refine st47.trans ?_
      show Steps p.tables e below (T47.setTop (mkF m 51 #[.val (.ref a1), .val (.int (-1 : Int32)), .val (.int (fD4 c0 c1 c2 c3)), .unset] [(.int (7 : Int32)), (.int (5 : Int32)), (.ref a1)])) _
      refine st48 _ ?_
      show Steps p.tables e below (T48.setTop (mkF m 54 #[.val (.ref a1), .val (.int (-1 : Int32)), .val (.int (fD4 c0 c1 c2 c3)), .unset] [(.int (fD7 c5 c6))])) _
      refine XS.istoreN X48.here hx rfl (hb hby d9_54) rfl (l' := #[.val (.ref a1), .val (.int (-1 : Int32)), .val (.int (fD4 c0 c1 c2 c3)), .val (.int (fD7 c5 c6))]) rfl ?_
      show Steps p.tables e below (T48.setTop (mkF m 55 #[.val (.ref a1), .val (.int (-1 : Int32)), .val (.int (fD4 c0 c1 c2 c3)), .val (.int (fD7 c5 c6))] [])) _
      refine XS.iloadN X48.here hx rfl (hb hby d9_55) rfl ?_
      exact k)
    by_cases hc56 : (fD4 c0 c1 c2 c3) < (0 : Int32)
    ·
      obtain ⟨fs, hr, hrun, hended, hRW⟩ := X48.leaveW (s := s) (vm₁ := T39.vm) hS39 (by rw [e48]; exact hk39) (v := some (.int (-1 : Int32))) (fun h => by rw [Bd.returns] at h; cases h)
      have hCR : CHr Z ELs s.vm h0 T48.vm h39 := R39.trans (CHv.at X48 hZ hEL R39.1)
      refine ⟨_, _, pre49 _ ?_, hrun, hended, _, _, rfl, ?_, (by rw [hh]; show CHr Z ELs s.vm h0 T48.vm T48.heap; rw [e48]; exact hCR), ⟨hRW.1, hRW.2.1, hRW.2.2.1, hRW.2.2.2.mono (by decide) (by decide)⟩⟩
      · show Steps p.tables e below (T48.setTop (mkF m 56 #[.val (.ref a1), .val (.int (-1 : Int32)), .val (.int (fD4 c0 c1 c2 c3)), .val (.int (fD7 c5 c6))] [(.int (fD4 c0 c1 c2 c3))])) _
        refine XS.ifYes X48.here hx rfl (pc0 := 56) (pc' := 79) rfl (hb hby d9_56) rfl ((if0 _ _).trans (tlt hc56).1) (by decide) (by decide) ?_
        show Steps p.tables e below (T48.setTop (mkF m 79 #[.val (.ref a1), .val (.int (-1 : Int32)), .val (.int (fD4 c0 c1 c2 c3)), .val (.int (fD7 c5 c6))] [])) _
        refine XS.iloadN X48.here hx rfl (hb hby d9_79) rfl ?_
        show Steps p.tables e below (T48.setTop (mkF m 80 #[.val (.ref a1), .val (.int (-1 : Int32)), .val (.int (fD4 c0 c1 c2 c3)), .val (.int (fD7 c5 c6))] [(.int (-1 : Int32))])) _
        exact retI X48 hx Bd.returns (hb hby d9_80) hr
      · show QN7 Z a1 c0 c1 c2 c3 c4 c5 c6 zc fm h0 n0 _ T48.heap _
        rw [e48]
        exact ⟨congrArg some (congrArg Value.int (show (-1 : Int32) = (fN7 c0 c1 c2 c3 c4 c5 c6) from by rw [fN7, if_pos hc27, if_pos hc56])), N48, Kp⟩
    ·
      have pre50 : ∀ t, Steps p.tables e below (T48.setTop (mkF m 61 #[.val (.ref a1), .val (.int (-1 : Int32)), .val (.int (fD4 c0 c1 c2 c3)), .val (.int (fD7 c5 c6))] [(.int (1 : Int32)), (.int (fD7 c5 c6))])) t → Steps p.tables e below (s₁.setTop (entryFrame m #[(.ref a1)] 4)) t := fun t k => pre49 t (by
        show Steps p.tables e below (T48.setTop (mkF m 56 #[.val (.ref a1), .val (.int (-1 : Int32)), .val (.int (fD4 c0 c1 c2 c3)), .val (.int (fD7 c5 c6))] [(.int (fD4 c0 c1 c2 c3))])) _
        refine XS.ifNo X48.here hx rfl (hb hby d9_56) rfl ((if0 _ _).trans (flt hc56).1) ?_
        show Steps p.tables e below (T48.setTop (mkF m 59 #[.val (.ref a1), .val (.int (-1 : Int32)), .val (.int (fD4 c0 c1 c2 c3)), .val (.int (fD7 c5 c6))] [])) _
        refine XS.iloadN X48.here hx rfl (hb hby d9_59) rfl ?_
        show Steps p.tables e below (T48.setTop (mkF m 60 #[.val (.ref a1), .val (.int (-1 : Int32)), .val (.int (fD4 c0 c1 c2 c3)), .val (.int (fD7 c5 c6))] [(.int (fD7 c5 c6))])) _
        refine XS.iconst X48.here hx rfl (hb hby d9_60) ?_
        exact k)
      by_cases hc61 : (fD7 c5 c6) < (1 : Int32)
      ·
        obtain ⟨fs, hr, hrun, hended, hRW⟩ := X48.leaveW (s := s) (vm₁ := T39.vm) hS39 (by rw [e48]; exact hk39) (v := some (.int (-1 : Int32))) (fun h => by rw [Bd.returns] at h; cases h)
        have hCR : CHr Z ELs s.vm h0 T48.vm h39 := R39.trans (CHv.at X48 hZ hEL R39.1)
        refine ⟨_, _, pre50 _ ?_, hrun, hended, _, _, rfl, ?_, (by rw [hh]; show CHr Z ELs s.vm h0 T48.vm T48.heap; rw [e48]; exact hCR), ⟨hRW.1, hRW.2.1, hRW.2.2.1, hRW.2.2.2.mono (by decide) (by decide)⟩⟩
        · show Steps p.tables e below (T48.setTop (mkF m 61 #[.val (.ref a1), .val (.int (-1 : Int32)), .val (.int (fD4 c0 c1 c2 c3)), .val (.int (fD7 c5 c6))] [(.int (1 : Int32)), (.int (fD7 c5 c6))])) _
          refine XS.icmpYes X48.here hx rfl (pc0 := 61) (pc' := 79) rfl (hb hby d9_61) rfl (tlt hc61).1 (by decide) (by decide) ?_
          show Steps p.tables e below (T48.setTop (mkF m 79 #[.val (.ref a1), .val (.int (-1 : Int32)), .val (.int (fD4 c0 c1 c2 c3)), .val (.int (fD7 c5 c6))] [])) _
          refine XS.iloadN X48.here hx rfl (hb hby d9_79) rfl ?_
          show Steps p.tables e below (T48.setTop (mkF m 80 #[.val (.ref a1), .val (.int (-1 : Int32)), .val (.int (fD4 c0 c1 c2 c3)), .val (.int (fD7 c5 c6))] [(.int (-1 : Int32))])) _
          exact retI X48 hx Bd.returns (hb hby d9_80) hr
        · show QN7 Z a1 c0 c1 c2 c3 c4 c5 c6 zc fm h0 n0 _ T48.heap _
          rw [e48]
          exact ⟨congrArg some (congrArg Value.int (show (-1 : Int32) = (fN7 c0 c1 c2 c3 c4 c5 c6) from by rw [fN7, if_pos hc27, if_neg hc56, if_pos hc61])), N48, Kp⟩
      ·
        have pre51 : ∀ t, Steps p.tables e below (T48.setTop (mkF m 67 #[.val (.ref a1), .val (.int (-1 : Int32)), .val (.int (fD4 c0 c1 c2 c3)), .val (.int (fD7 c5 c6))] [(.int (12 : Int32)), (.int (fD7 c5 c6))])) t → Steps p.tables e below (s₁.setTop (entryFrame m #[(.ref a1)] 4)) t := fun t k => pre50 t (by
          show Steps p.tables e below (T48.setTop (mkF m 61 #[.val (.ref a1), .val (.int (-1 : Int32)), .val (.int (fD4 c0 c1 c2 c3)), .val (.int (fD7 c5 c6))] [(.int (1 : Int32)), (.int (fD7 c5 c6))])) _
          refine XS.icmpNo X48.here hx rfl (hb hby d9_61) rfl (flt hc61).1 ?_
          show Steps p.tables e below (T48.setTop (mkF m 64 #[.val (.ref a1), .val (.int (-1 : Int32)), .val (.int (fD4 c0 c1 c2 c3)), .val (.int (fD7 c5 c6))] [])) _
          refine XS.iloadN X48.here hx rfl (hb hby d9_64) rfl ?_
          show Steps p.tables e below (T48.setTop (mkF m 65 #[.val (.ref a1), .val (.int (-1 : Int32)), .val (.int (fD4 c0 c1 c2 c3)), .val (.int (fD7 c5 c6))] [(.int (fD7 c5 c6))])) _
          refine XS.bipush X48.here hx rfl (hb hby d9_65) ?_
          exact k)
        by_cases hc67 : (12 : Int32) < (fD7 c5 c6)
        ·
          obtain ⟨fs, hr, hrun, hended, hRW⟩ := X48.leaveW (s := s) (vm₁ := T39.vm) hS39 (by rw [e48]; exact hk39) (v := some (.int (-1 : Int32))) (fun h => by rw [Bd.returns] at h; cases h)
          have hCR : CHr Z ELs s.vm h0 T48.vm h39 := R39.trans (CHv.at X48 hZ hEL R39.1)
          refine ⟨_, _, pre51 _ ?_, hrun, hended, _, _, rfl, ?_, (by rw [hh]; show CHr Z ELs s.vm h0 T48.vm T48.heap; rw [e48]; exact hCR), ⟨hRW.1, hRW.2.1, hRW.2.2.1, hRW.2.2.2.mono (by decide) (by decide)⟩⟩
          · show Steps p.tables e below (T48.setTop (mkF m 67 #[.val (.ref a1), .val (.int (-1 : Int32)), .val (.int (fD4 c0 c1 c2 c3)), .val (.int (fD7 c5 c6))] [(.int (12 : Int32)), (.int (fD7 c5 c6))])) _
            refine XS.icmpYes X48.here hx rfl (pc0 := 67) (pc' := 79) rfl (hb hby d9_67) rfl (tlt hc67).2.2.1 (by decide) (by decide) ?_
            show Steps p.tables e below (T48.setTop (mkF m 79 #[.val (.ref a1), .val (.int (-1 : Int32)), .val (.int (fD4 c0 c1 c2 c3)), .val (.int (fD7 c5 c6))] [])) _
            refine XS.iloadN X48.here hx rfl (hb hby d9_79) rfl ?_
            show Steps p.tables e below (T48.setTop (mkF m 80 #[.val (.ref a1), .val (.int (-1 : Int32)), .val (.int (fD4 c0 c1 c2 c3)), .val (.int (fD7 c5 c6))] [(.int (-1 : Int32))])) _
            exact retI X48 hx Bd.returns (hb hby d9_80) hr
          · show QN7 Z a1 c0 c1 c2 c3 c4 c5 c6 zc fm h0 n0 _ T48.heap _
            rw [e48]
            exact ⟨congrArg some (congrArg Value.int (show (-1 : Int32) = (fN7 c0 c1 c2 c3 c4 c5 c6) from by rw [fN7, if_pos hc27, if_neg hc56, if_neg hc61, if_pos hc67])), N48, Kp⟩
        ·
          obtain ⟨fs, hr, hrun, hended, hRW⟩ := X48.leaveW (s := s) (vm₁ := T39.vm) hS39 (by rw [e48]; exact hk39) (v := some (.int ((((fD4 c0 c1 c2 c3) * (12 : Int32)) + (fD7 c5 c6)) - (1 : Int32)))) (fun h => by rw [Bd.returns] at h; cases h)
          have hCR : CHr Z ELs s.vm h0 T48.vm h39 := R39.trans (CHv.at X48 hZ hEL R39.1)
          refine ⟨_, _, pre51 _ ?_, hrun, hended, _, _, rfl, ?_, (by rw [hh]; show CHr Z ELs s.vm h0 T48.vm T48.heap; rw [e48]; exact hCR), ⟨hRW.1, hRW.2.1, hRW.2.2.1, hRW.2.2.2.mono (by decide) (by decide)⟩⟩
          · show Steps p.tables e below (T48.setTop (mkF m 67 #[.val (.ref a1), .val (.int (-1 : Int32)), .val (.int (fD4 c0 c1 c2 c3)), .val (.int (fD7 c5 c6))] [(.int (12 : Int32)), (.int (fD7 c5 c6))])) _
            refine XS.icmpNo X48.here hx rfl (hb hby d9_67) rfl (flt hc67).2.2.1 ?_
            show Steps p.tables e below (T48.setTop (mkF m 70 #[.val (.ref a1), .val (.int (-1 : Int32)), .val (.int (fD4 c0 c1 c2 c3)), .val (.int (fD7 c5 c6))] [])) _
            refine XS.iloadN X48.here hx rfl (hb hby d9_70) rfl ?_
            show Steps p.tables e below (T48.setTop (mkF m 71 #[.val (.ref a1), .val (.int (-1 : Int32)), .val (.int (fD4 c0 c1 c2 c3)), .val (.int (fD7 c5 c6))] [(.int (fD4 c0 c1 c2 c3))])) _
            refine XS.bipush X48.here hx rfl (hb hby d9_71) ?_
            show Steps p.tables e below (T48.setTop (mkF m 73 #[.val (.ref a1), .val (.int (-1 : Int32)), .val (.int (fD4 c0 c1 c2 c3)), .val (.int (fD7 c5 c6))] [(.int (12 : Int32)), (.int (fD4 c0 c1 c2 c3))])) _
            refine XS.imul X48.here hx rfl (hb hby d9_73) rfl ?_
            show Steps p.tables e below (T48.setTop (mkF m 74 #[.val (.ref a1), .val (.int (-1 : Int32)), .val (.int (fD4 c0 c1 c2 c3)), .val (.int (fD7 c5 c6))] [(.int ((fD4 c0 c1 c2 c3) * (12 : Int32)))])) _
            refine XS.iloadN X48.here hx rfl (hb hby d9_74) rfl ?_
            show Steps p.tables e below (T48.setTop (mkF m 75 #[.val (.ref a1), .val (.int (-1 : Int32)), .val (.int (fD4 c0 c1 c2 c3)), .val (.int (fD7 c5 c6))] [(.int (fD7 c5 c6)), (.int ((fD4 c0 c1 c2 c3) * (12 : Int32)))])) _
            refine XS.iadd X48.here hx rfl (hb hby d9_75) rfl ?_
            show Steps p.tables e below (T48.setTop (mkF m 76 #[.val (.ref a1), .val (.int (-1 : Int32)), .val (.int (fD4 c0 c1 c2 c3)), .val (.int (fD7 c5 c6))] [(.int (((fD4 c0 c1 c2 c3) * (12 : Int32)) + (fD7 c5 c6)))])) _
            refine XS.iconst X48.here hx rfl (hb hby d9_76) ?_
            show Steps p.tables e below (T48.setTop (mkF m 77 #[.val (.ref a1), .val (.int (-1 : Int32)), .val (.int (fD4 c0 c1 c2 c3)), .val (.int (fD7 c5 c6))] [(.int (1 : Int32)), (.int (((fD4 c0 c1 c2 c3) * (12 : Int32)) + (fD7 c5 c6)))])) _
            refine XS.isub X48.here hx rfl (hb hby d9_77) rfl ?_
            show Steps p.tables e below (T48.setTop (mkF m 78 #[.val (.ref a1), .val (.int (-1 : Int32)), .val (.int (fD4 c0 c1 c2 c3)), .val (.int (fD7 c5 c6))] [(.int ((((fD4 c0 c1 c2 c3) * (12 : Int32)) + (fD7 c5 c6)) - (1 : Int32)))])) _
            refine XS.istoreN X48.here hx rfl (hb hby d9_78) rfl (l' := #[.val (.ref a1), .val (.int ((((fD4 c0 c1 c2 c3) * (12 : Int32)) + (fD7 c5 c6)) - (1 : Int32))), .val (.int (fD4 c0 c1 c2 c3)), .val (.int (fD7 c5 c6))]) rfl ?_
            show Steps p.tables e below (T48.setTop (mkF m 79 #[.val (.ref a1), .val (.int ((((fD4 c0 c1 c2 c3) * (12 : Int32)) + (fD7 c5 c6)) - (1 : Int32))), .val (.int (fD4 c0 c1 c2 c3)), .val (.int (fD7 c5 c6))] [])) _
            refine XS.iloadN X48.here hx rfl (hb hby d9_79) rfl ?_
            show Steps p.tables e below (T48.setTop (mkF m 80 #[.val (.ref a1), .val (.int ((((fD4 c0 c1 c2 c3) * (12 : Int32)) + (fD7 c5 c6)) - (1 : Int32))), .val (.int (fD4 c0 c1 c2 c3)), .val (.int (fD7 c5 c6))] [(.int ((((fD4 c0 c1 c2 c3) * (12 : Int32)) + (fD7 c5 c6)) - (1 : Int32)))])) _
            exact retI X48 hx Bd.returns (hb hby d9_80) hr
          · show QN7 Z a1 c0 c1 c2 c3 c4 c5 c6 zc fm h0 n0 _ T48.heap _
            rw [e48]
            exact ⟨congrArg some (congrArg Value.int (show ((((fD4 c0 c1 c2 c3) * (12 : Int32)) + (fD7 c5 c6)) - (1 : Int32)) = (fN7 c0 c1 c2 c3 c4 c5 c6) from by rw [fN7, if_pos hc27, if_neg hc56, if_neg hc61, if_neg hc67])), N48, Kp⟩
  ·
    obtain ⟨fs, hr, hrun, hended, hRW⟩ := X42.leaveW (s := s) (vm₁ := T39.vm) hS39 (by rw [e42]; exact hk39) (v := some (.int (-1 : Int32))) (fun h => by rw [Bd.returns] at h; cases h)
    have hCR : CHr Z ELs s.vm h0 T42.vm h39 := R39.trans (CHv.at X42 hZ hEL R39.1)
    refine ⟨_, _, pre43 _ ?_, hrun, hended, _, _, rfl, ?_, (by rw [hh]; show CHr Z ELs s.vm h0 T42.vm T42.heap; rw [e42]; exact hCR), ⟨hRW.1, hRW.2.1, hRW.2.2.1, hRW.2.2.2.mono (by decide) (by decide)⟩⟩
    · show Steps p.tables e below (T42.setTop (mkF m 27 #[.val (.ref a1), .val (.int (-1 : Int32)), .unset, .unset] [(.int (45 : Int32)), (.int c4)])) _
      refine XS.icmpYes X42.here hx rfl (pc0 := 27) (pc' := 79) rfl (hb hby d9_27) rfl (feq hc27).2 (by decide) (by decide) ?_
      show Steps p.tables e below (T42.setTop (mkF m 79 #[.val (.ref a1), .val (.int (-1 : Int32)), .unset, .unset] [])) _
      refine XS.iloadN X42.here hx rfl (hb hby d9_79) rfl ?_
      show Steps p.tables e below (T42.setTop (mkF m 80 #[.val (.ref a1), .val (.int (-1 : Int32)), .unset, .unset] [(.int (-1 : Int32))])) _
      exact retI X42 hx Bd.returns (hb hby d9_80) hr
    · show QN7 Z a1 c0 c1 c2 c3 c4 c5 c6 zc fm h0 n0 _ T42.heap _
      rw [e42]
      exact ⟨congrArg some (congrArg Value.int (show (-1 : Int32) = (fN7 c0 c1 c2 c3 c4 c5 c6) from by rw [fN7, if_neg hc27])), N42, Kp⟩
def QN0 (Z : State) (a1 : Addr) (zc : Int32) (fm : Value) (h0 : Heap) (n0 : Nat) (v : Option Value) (h : Heap) (L : List Loc) : Prop := v = some (.int (-1 : Int32)) ∧ Fr n0 L ∧ (Keep h0 h [])
theorem ef_N0 (m : MethodId) (a1 : Addr) : entryFrame m #[(.ref a1)] 4 = mkF m 0 #[.val (.ref a1), .unset, .unset, .unset] [] := by first | (simp [entryFrame, mkF, argsToLocals, Value.category]; done) | rfl
set_option maxRecDepth 65536 in
set_option maxHeartbeats 40000000 in
theorem rmN0 (l : Launch) (Z : State) (a0 : Array Value) (hw : ∀ d ∈ tables_1, d.before a0 Z = true) (ws : List Jvm.Cond) (a1 : Addr) (zc : Int32) (fm : Value) (h0 : Heap) (n0 : Nat) (Zs : n0 ≤ h0.size) (E_a1 : Exa Z h0 a1 "java/lang/String") (T_a1 : Stx Z h0 a1 []) (Ol : Old Z n0 h0) (S_COMPACT_STRINGS : Sta Z Z.heap "java/lang/String" "COMPACT_STRINGS" "Z" (.int zc)) (S_SIOOBE_FORMATTER : Sta Z Z.heap "jdk/internal/util/Preconditions" "SIOOBE_FORMATTER" "Ljava/util/function/BiFunction;" fm) (hzc : ¬ zc = 0) (hfm : fm.isRef = true) (S_HYPHEN : Sta Z Z.heap "com/example/reta/reta/calendar/Months" "HYPHEN" "I" (.int (4 : Int32))) :
    MetFree l (⟨"com/example/reta/reta/calendar/Months", "number", "(Ljava/lang/CharSequence;)I"⟩ : MethodName) (head1 (Jvm.Cond.code (⟨"com/example/reta/reta/calendar/Months", "number", "(Ljava/lang/CharSequence;)I"⟩ : MethodName) prog_1_method_2_code 4 (some .int) :: ws) ({ frames := 2, cells := 2, slots := 32, locals := 26 } : Room)) (fun a U => a = #[(.ref a1)] ∧ Z.Warmed39 U.vm ∧ U.heap = h0 ∧ CHv Z ELs U.vm h0) (fun _ _ _ _ _ => True) (fun _ U o U' => ∃ v L, o = .returned v ∧ QN0 Z a1 zc fm h0 n0 v U'.heap L ∧ CHr Z ELs U.vm U.heap U'.vm U'.heap ∧ ReturnedEndW U o U' L ({ frames := 2, cells := 2, slots := 32, locals := 26 } : Room).cells ({ frames := 2, cells := 2, slots := 32, locals := 26 } : Room).slots) := by
  refine MetFree.of_bodySF (plainFor_of_name pn_1) hisR ?_
  intro p e s m args below meth c s₁ Bd hml0 hP hK
  obtain ⟨rfl, hZ, hh, hCH⟩ := hP
  have hx := Bd.exec
  have hby := Bd.bytes
  have hml : c.maxLocals = 4 := hml0
  have hown : s.vm.findClass "com/example/reta/reta/calendar/Months" = some m.cls := findClass_of_methodNamed Bd.named
  have hnm := (name_of_methodNamed Bd.named Bd.method).1
  have X0 : Stand p l e ({ frames := 2, cells := 2, slots := 32, locals := 26 } : Room) s m #[(.ref a1)] below meth c s₁ [] 0 0 := Stand.of_body Bd
  have e0 : s₁.heap = h0 := by rw [← hh, Bd.state]; rfl
  have N0 := Fr.nil n0
  have pre0 : ∀ t, Steps p.tables e below (s₁.setTop (mkF m 0 #[.val (.ref a1), .unset, .unset, .unset] [])) t → Steps p.tables e below (s₁.setTop (entryFrame m #[(.ref a1)] 4)) t := fun t k => castTop (ef_N0 m a1) k
  have hEL := own_EL hw
  have hStr := own_str hw
  have Kp : Keep h0 h0 [] := Keep.refl h0 []
  obtain ⟨cq52, kq52, q52a, q52b, q52c⟩ := isOf hZ e0 E_a1
  obtain ⟨_, _, ⟨T52, L52, k52, n52⟩, -, X52, ⟨Lc52, hQ52, l52, y52, z52⟩, st52⟩ := X0.interfaceBack hx (xi := (⟨"java/lang/CharSequence", "length", "()I"⟩ : MethodName)) (y := (⟨"java/lang/String", "length", "()I"⟩ : MethodName)) hown (mvT hZ (hw _ (List.mem_of_getElem? (i := 41) rfl))) (mvT hZ (hw _ (List.mem_of_getElem? (i := 42) rfl))) (mvT hZ (hw _ (List.mem_of_getElem? (i := 43) rfl))) (mvT hZ (hw _ (List.mem_of_getElem? (i := 44) rfl))) (mvT hZ (hw _ (List.mem_of_getElem? (i := 45) rfl))) (mvT hZ (hw _ (List.mem_of_getElem? (i := 46) rfl))) (mvT hZ (hw _ (List.mem_of_getElem? (i := 47) rfl))) (mvT hZ (hw _ (List.mem_of_getElem? (i := 48) rfl))) (by decide) (own_len (W := 0) hZ hw T_a1 (Sta.ext Ol.2 S_COMPACT_STRINGS) hzc (by decide) (by decide)) q52a q52b q52c (g := (mkF m 3 #[.val (.ref a1), .val (.int (-1 : Int32)), .unset, .unset] [(.ref a1)])) rfl (by rw [hml]; rfl) (Steps.refl _) (argsL := []) (rest := []) (lenOf pd_2 rfl) rfl (by show 2 * 0 + _ ≤ _; exact Nat.le_of_eq rfl) (hb hby d9_3) (fun _ _ => ⟨rfl, e0, (by decide : 0 + 0 ≤ _), (by decide : 0 + 0 ≤ _)⟩)
  dsimp only [Pt.U, Pt.locs, Pt.cells, Pt.slots] at X52 l52 y52 z52 st52 hQ52
  subst l52 y52 z52
  obtain ⟨rfl, rfl, e52⟩ := hQ52
  have N52 := Fr.app N0 (Fr.nil n0)
  obtain ⟨a53, T53, h53, k53, b53, kb53, X53, e53, E53, hS53, hk53, hZ, hown, Ea53, C53, V53, K53, -, -, R53, -, -, st53⟩ := ldcCH X52 hx hZ hown (hw _ (List.mem_of_getElem? (i := 55) rfl)) hStr e52 ((State.WarmedH.refl s).since 0) (Nat.zero_le _) hEL (by decide) hCH (text := "AAAA-MM") (vs := ((([(65 : Int32), (65 : Int32), (65 : Int32), (65 : Int32), (45 : Int32), (77 : Int32), (77 : Int32)] : List Int32).map (fun c => c.toInt8.toInt32)).map Value.int)) (z := (7 : Int32)) (by decide +kernel) (by decide) rfl (g := (mkF m 8 #[.val (.ref a1), .val (.int (-1 : Int32)), .unset, .unset] [(.int (0 : Int32))])) rfl (hb hby d9_8) (n := 28) (by decide) (by decide) (by decide) (by decide)
  have Zs : n0 ≤ h53.size := Nat.le_trans Zs E53.1
  have E_a1 : Exa Z h53 a1 "java/lang/String" := E_a1.ext E53
  have T_a1 : Stx Z h53 a1 [] := T_a1.ext E53
  have Ol : Old Z n0 h53 := Ol.ext E53
  have Kp : Keep h0 h53 [] := Kp.ext E53
  have E_a53 : Exa Z h53 a53 "java/lang/String" := Ea53
  have T_a53 : Stx Z h53 a53 [(65 : Int32), (65 : Int32), (65 : Int32), (65 : Int32), (45 : Int32), (77 : Int32), (77 : Int32)] := ⟨b53, kb53, Ea53, V53, C53, K53, by decide, by decide⟩
  obtain ⟨cq54, kq54, q54a, q54b, q54c⟩ := isOf hZ e53 E_a53
  obtain ⟨_, _, ⟨T54, L54, k54, n54⟩, -, X54, ⟨Lc54, hQ54, l54, y54, z54⟩, st54⟩ := X53.virtualBack hx (y := (⟨"java/lang/String", "length", "()I"⟩ : MethodName)) (z := (⟨"java/lang/String", "length", "()I"⟩ : MethodName)) hown (mvT hZ (hw _ (List.mem_of_getElem? (i := 58) rfl))) (mvT hZ (hw _ (List.mem_of_getElem? (i := 59) rfl))) (notFace_of_selects (args := #[]) (mvT hZ (hw _ (List.mem_of_getElem? (i := 60) rfl)))) (mvT hZ (hw _ (List.mem_of_getElem? (i := 60) rfl))) (mvT hZ (hw _ (List.mem_of_getElem? (i := 45) rfl))) (by decide) (own_len (W := 1) hZ hw T_a53 (Sta.ext Ol.2 S_COMPACT_STRINGS) hzc (by decide) (by decide)) q54a q54c (g := (mkF m 10 #[.val (.ref a1), .val (.int (-1 : Int32)), .unset, .unset] [(.ref a53), (.int (0 : Int32))])) rfl (by rw [hml]; rfl) (Steps.refl _) (argsL := []) (rest := [(.int (0 : Int32))]) (lenOf pd_2 rfl) rfl (by show 2 * 0 + _ ≤ _; exact Nat.le_of_eq rfl) (hb hby d9_10) (fun _ _ => ⟨rfl, e53, (by decide : 2 + 0 ≤ _), (by decide : 32 + 0 ≤ _)⟩)
  dsimp only [Pt.U, Pt.locs, Pt.cells, Pt.slots] at X54 l54 y54 z54 st54 hQ54
  subst l54 y54 z54
  obtain ⟨rfl, rfl, e54⟩ := hQ54
  have N54 := Fr.app N52 (Fr.nil n0)
  obtain ⟨fs, hr, hrun, hended, hRW⟩ := X54.leaveW (s := s) (vm₁ := T53.vm) hS53 (by rw [e54]; exact hk53) (v := some (.int (-1 : Int32))) (fun h => by rw [Bd.returns] at h; cases h)
  have hCR : CHr Z ELs s.vm h0 T54.vm h53 := R53.trans (CHv.at X54 hZ hEL R53.1)
  refine ⟨_, _, pre0 _ ?_, hrun, hended, _, _, rfl, ?_, (by rw [hh]; show CHr Z ELs s.vm h0 T54.vm T54.heap; rw [e54]; exact hCR), ⟨hRW.1, hRW.2.1, hRW.2.2.1, hRW.2.2.2.mono (by decide) (by decide)⟩⟩
  · show Steps p.tables e below (s₁.setTop (mkF m 0 #[.val (.ref a1), .unset, .unset, .unset] [])) _
    refine XS.iconst X0.here hx rfl (hb hby d9_0) ?_
    show Steps p.tables e below (s₁.setTop (mkF m 1 #[.val (.ref a1), .unset, .unset, .unset] [(.int (-1 : Int32))])) _
    refine XS.istoreN X0.here hx rfl (hb hby d9_1) rfl (l' := #[.val (.ref a1), .val (.int (-1 : Int32)), .unset, .unset]) rfl ?_
    show Steps p.tables e below (s₁.setTop (mkF m 2 #[.val (.ref a1), .val (.int (-1 : Int32)), .unset, .unset] [])) _
    refine XS.aloadN X0.here hx rfl (hb hby d9_2) rfl rfl ?_
    show Steps p.tables e below (s₁.setTop (mkF m 3 #[.val (.ref a1), .val (.int (-1 : Int32)), .unset, .unset] [(.ref a1)])) _
    refine st52.trans ?_
    show Steps p.tables e below (T52.setTop (mkF m 8 #[.val (.ref a1), .val (.int (-1 : Int32)), .unset, .unset] [(.int (0 : Int32))])) _
    refine st53 _ ?_
    show Steps p.tables e below (T53.setTop (mkF m 10 #[.val (.ref a1), .val (.int (-1 : Int32)), .unset, .unset] [(.ref a53), (.int (0 : Int32))])) _
    refine st54.trans ?_
    show Steps p.tables e below (T54.setTop (mkF m 13 #[.val (.ref a1), .val (.int (-1 : Int32)), .unset, .unset] [(.int (7 : Int32)), (.int (0 : Int32))])) _
    refine XS.icmpYes X54.here hx rfl (pc0 := 13) (pc' := 79) rfl (hb hby d9_13) rfl (feq (by decide)).2 (by decide) (by decide) ?_
    show Steps p.tables e below (T54.setTop (mkF m 79 #[.val (.ref a1), .val (.int (-1 : Int32)), .unset, .unset] [])) _
    refine XS.iloadN X54.here hx rfl (hb hby d9_79) rfl ?_
    show Steps p.tables e below (T54.setTop (mkF m 80 #[.val (.ref a1), .val (.int (-1 : Int32)), .unset, .unset] [(.int (-1 : Int32))])) _
    exact retI X54 hx Bd.returns (hb hby d9_80) hr
  · show QN0 Z a1 zc fm h0 n0 _ T54.heap _
    rw [e54]
    exact ⟨rfl, N54, Kp⟩
def QN6 (Z : State) (a1 : Addr) (c0 : Int32) (c1 : Int32) (c2 : Int32) (c3 : Int32) (c4 : Int32) (c5 : Int32) (zc : Int32) (fm : Value) (h0 : Heap) (n0 : Nat) (v : Option Value) (h : Heap) (L : List Loc) : Prop := v = some (.int (-1 : Int32)) ∧ Fr n0 L ∧ (Keep h0 h [])
theorem ef_N6 (m : MethodId) (a1 : Addr) : entryFrame m #[(.ref a1)] 4 = mkF m 0 #[.val (.ref a1), .unset, .unset, .unset] [] := by first | (simp [entryFrame, mkF, argsToLocals, Value.category]; done) | rfl
set_option maxRecDepth 65536 in
set_option maxHeartbeats 40000000 in
theorem rmN6 (l : Launch) (Z : State) (a0 : Array Value) (hw : ∀ d ∈ tables_1, d.before a0 Z = true) (ws : List Jvm.Cond) (a1 : Addr) (c0 : Int32) (c1 : Int32) (c2 : Int32) (c3 : Int32) (c4 : Int32) (c5 : Int32) (zc : Int32) (fm : Value) (h0 : Heap) (n0 : Nat) (Zs : n0 ≤ h0.size) (E_a1 : Exa Z h0 a1 "java/lang/String") (T_a1 : Stx Z h0 a1 [c0, c1, c2, c3, c4, c5]) (Ol : Old Z n0 h0) (S_COMPACT_STRINGS : Sta Z Z.heap "java/lang/String" "COMPACT_STRINGS" "Z" (.int zc)) (S_SIOOBE_FORMATTER : Sta Z Z.heap "jdk/internal/util/Preconditions" "SIOOBE_FORMATTER" "Ljava/util/function/BiFunction;" fm) (hzc : ¬ zc = 0) (hfm : fm.isRef = true) (S_HYPHEN : Sta Z Z.heap "com/example/reta/reta/calendar/Months" "HYPHEN" "I" (.int (4 : Int32))) :
    MetFree l (⟨"com/example/reta/reta/calendar/Months", "number", "(Ljava/lang/CharSequence;)I"⟩ : MethodName) (head1 (Jvm.Cond.code (⟨"com/example/reta/reta/calendar/Months", "number", "(Ljava/lang/CharSequence;)I"⟩ : MethodName) prog_1_method_2_code 4 (some .int) :: ws) ({ frames := 2, cells := 2, slots := 32, locals := 26 } : Room)) (fun a U => a = #[(.ref a1)] ∧ Z.Warmed39 U.vm ∧ U.heap = h0 ∧ CHv Z ELs U.vm h0) (fun _ _ _ _ _ => True) (fun _ U o U' => ∃ v L, o = .returned v ∧ QN6 Z a1 c0 c1 c2 c3 c4 c5 zc fm h0 n0 v U'.heap L ∧ CHr Z ELs U.vm U.heap U'.vm U'.heap ∧ ReturnedEndW U o U' L ({ frames := 2, cells := 2, slots := 32, locals := 26 } : Room).cells ({ frames := 2, cells := 2, slots := 32, locals := 26 } : Room).slots) := by
  refine MetFree.of_bodySF (plainFor_of_name pn_1) hisR ?_
  intro p e s m args below meth c s₁ Bd hml0 hP hK
  obtain ⟨rfl, hZ, hh, hCH⟩ := hP
  have hx := Bd.exec
  have hby := Bd.bytes
  have hml : c.maxLocals = 4 := hml0
  have hown : s.vm.findClass "com/example/reta/reta/calendar/Months" = some m.cls := findClass_of_methodNamed Bd.named
  have hnm := (name_of_methodNamed Bd.named Bd.method).1
  have X0 : Stand p l e ({ frames := 2, cells := 2, slots := 32, locals := 26 } : Room) s m #[(.ref a1)] below meth c s₁ [] 0 0 := Stand.of_body Bd
  have e0 : s₁.heap = h0 := by rw [← hh, Bd.state]; rfl
  have N0 := Fr.nil n0
  have pre0 : ∀ t, Steps p.tables e below (s₁.setTop (mkF m 0 #[.val (.ref a1), .unset, .unset, .unset] [])) t → Steps p.tables e below (s₁.setTop (entryFrame m #[(.ref a1)] 4)) t := fun t k => castTop (ef_N6 m a1) k
  have hEL := own_EL hw
  have hStr := own_str hw
  have Kp : Keep h0 h0 [] := Keep.refl h0 []
  obtain ⟨cq55, kq55, q55a, q55b, q55c⟩ := isOf hZ e0 E_a1
  obtain ⟨_, _, ⟨T55, L55, k55, n55⟩, -, X55, ⟨Lc55, hQ55, l55, y55, z55⟩, st55⟩ := X0.interfaceBack hx (xi := (⟨"java/lang/CharSequence", "length", "()I"⟩ : MethodName)) (y := (⟨"java/lang/String", "length", "()I"⟩ : MethodName)) hown (mvT hZ (hw _ (List.mem_of_getElem? (i := 41) rfl))) (mvT hZ (hw _ (List.mem_of_getElem? (i := 42) rfl))) (mvT hZ (hw _ (List.mem_of_getElem? (i := 43) rfl))) (mvT hZ (hw _ (List.mem_of_getElem? (i := 44) rfl))) (mvT hZ (hw _ (List.mem_of_getElem? (i := 45) rfl))) (mvT hZ (hw _ (List.mem_of_getElem? (i := 46) rfl))) (mvT hZ (hw _ (List.mem_of_getElem? (i := 47) rfl))) (mvT hZ (hw _ (List.mem_of_getElem? (i := 48) rfl))) (by decide) (own_len (W := 0) hZ hw T_a1 (Sta.ext Ol.2 S_COMPACT_STRINGS) hzc (by decide) (by decide)) q55a q55b q55c (g := (mkF m 3 #[.val (.ref a1), .val (.int (-1 : Int32)), .unset, .unset] [(.ref a1)])) rfl (by rw [hml]; rfl) (Steps.refl _) (argsL := []) (rest := []) (lenOf pd_2 rfl) rfl (by show 2 * 0 + _ ≤ _; exact Nat.le_of_eq rfl) (hb hby d9_3) (fun _ _ => ⟨rfl, e0, (by decide : 0 + 0 ≤ _), (by decide : 0 + 0 ≤ _)⟩)
  dsimp only [Pt.U, Pt.locs, Pt.cells, Pt.slots] at X55 l55 y55 z55 st55 hQ55
  subst l55 y55 z55
  obtain ⟨rfl, rfl, e55⟩ := hQ55
  have N55 := Fr.app N0 (Fr.nil n0)
  obtain ⟨a56, T56, h56, k56, b56, kb56, X56, e56, E56, hS56, hk56, hZ, hown, Ea56, C56, V56, K56, -, -, R56, -, -, st56⟩ := ldcCH X55 hx hZ hown (hw _ (List.mem_of_getElem? (i := 55) rfl)) hStr e55 ((State.WarmedH.refl s).since 0) (Nat.zero_le _) hEL (by decide) hCH (text := "AAAA-MM") (vs := ((([(65 : Int32), (65 : Int32), (65 : Int32), (65 : Int32), (45 : Int32), (77 : Int32), (77 : Int32)] : List Int32).map (fun c => c.toInt8.toInt32)).map Value.int)) (z := (7 : Int32)) (by decide +kernel) (by decide) rfl (g := (mkF m 8 #[.val (.ref a1), .val (.int (-1 : Int32)), .unset, .unset] [(.int (6 : Int32))])) rfl (hb hby d9_8) (n := 28) (by decide) (by decide) (by decide) (by decide)
  have Zs : n0 ≤ h56.size := Nat.le_trans Zs E56.1
  have E_a1 : Exa Z h56 a1 "java/lang/String" := E_a1.ext E56
  have T_a1 : Stx Z h56 a1 [c0, c1, c2, c3, c4, c5] := T_a1.ext E56
  have Ol : Old Z n0 h56 := Ol.ext E56
  have Kp : Keep h0 h56 [] := Kp.ext E56
  have E_a56 : Exa Z h56 a56 "java/lang/String" := Ea56
  have T_a56 : Stx Z h56 a56 [(65 : Int32), (65 : Int32), (65 : Int32), (65 : Int32), (45 : Int32), (77 : Int32), (77 : Int32)] := ⟨b56, kb56, Ea56, V56, C56, K56, by decide, by decide⟩
  obtain ⟨cq57, kq57, q57a, q57b, q57c⟩ := isOf hZ e56 E_a56
  obtain ⟨_, _, ⟨T57, L57, k57, n57⟩, -, X57, ⟨Lc57, hQ57, l57, y57, z57⟩, st57⟩ := X56.virtualBack hx (y := (⟨"java/lang/String", "length", "()I"⟩ : MethodName)) (z := (⟨"java/lang/String", "length", "()I"⟩ : MethodName)) hown (mvT hZ (hw _ (List.mem_of_getElem? (i := 58) rfl))) (mvT hZ (hw _ (List.mem_of_getElem? (i := 59) rfl))) (notFace_of_selects (args := #[]) (mvT hZ (hw _ (List.mem_of_getElem? (i := 60) rfl)))) (mvT hZ (hw _ (List.mem_of_getElem? (i := 60) rfl))) (mvT hZ (hw _ (List.mem_of_getElem? (i := 45) rfl))) (by decide) (own_len (W := 1) hZ hw T_a56 (Sta.ext Ol.2 S_COMPACT_STRINGS) hzc (by decide) (by decide)) q57a q57c (g := (mkF m 10 #[.val (.ref a1), .val (.int (-1 : Int32)), .unset, .unset] [(.ref a56), (.int (6 : Int32))])) rfl (by rw [hml]; rfl) (Steps.refl _) (argsL := []) (rest := [(.int (6 : Int32))]) (lenOf pd_2 rfl) rfl (by show 2 * 0 + _ ≤ _; exact Nat.le_of_eq rfl) (hb hby d9_10) (fun _ _ => ⟨rfl, e56, (by decide : 2 + 0 ≤ _), (by decide : 32 + 0 ≤ _)⟩)
  dsimp only [Pt.U, Pt.locs, Pt.cells, Pt.slots] at X57 l57 y57 z57 st57 hQ57
  subst l57 y57 z57
  obtain ⟨rfl, rfl, e57⟩ := hQ57
  have N57 := Fr.app N55 (Fr.nil n0)
  obtain ⟨fs, hr, hrun, hended, hRW⟩ := X57.leaveW (s := s) (vm₁ := T56.vm) hS56 (by rw [e57]; exact hk56) (v := some (.int (-1 : Int32))) (fun h => by rw [Bd.returns] at h; cases h)
  have hCR : CHr Z ELs s.vm h0 T57.vm h56 := R56.trans (CHv.at X57 hZ hEL R56.1)
  refine ⟨_, _, pre0 _ ?_, hrun, hended, _, _, rfl, ?_, (by rw [hh]; show CHr Z ELs s.vm h0 T57.vm T57.heap; rw [e57]; exact hCR), ⟨hRW.1, hRW.2.1, hRW.2.2.1, hRW.2.2.2.mono (by decide) (by decide)⟩⟩
  · show Steps p.tables e below (s₁.setTop (mkF m 0 #[.val (.ref a1), .unset, .unset, .unset] [])) _
    refine XS.iconst X0.here hx rfl (hb hby d9_0) ?_
    show Steps p.tables e below (s₁.setTop (mkF m 1 #[.val (.ref a1), .unset, .unset, .unset] [(.int (-1 : Int32))])) _
    refine XS.istoreN X0.here hx rfl (hb hby d9_1) rfl (l' := #[.val (.ref a1), .val (.int (-1 : Int32)), .unset, .unset]) rfl ?_
    show Steps p.tables e below (s₁.setTop (mkF m 2 #[.val (.ref a1), .val (.int (-1 : Int32)), .unset, .unset] [])) _
    refine XS.aloadN X0.here hx rfl (hb hby d9_2) rfl rfl ?_
    show Steps p.tables e below (s₁.setTop (mkF m 3 #[.val (.ref a1), .val (.int (-1 : Int32)), .unset, .unset] [(.ref a1)])) _
    refine st55.trans ?_
    show Steps p.tables e below (T55.setTop (mkF m 8 #[.val (.ref a1), .val (.int (-1 : Int32)), .unset, .unset] [(.int (6 : Int32))])) _
    refine st56 _ ?_
    show Steps p.tables e below (T56.setTop (mkF m 10 #[.val (.ref a1), .val (.int (-1 : Int32)), .unset, .unset] [(.ref a56), (.int (6 : Int32))])) _
    refine st57.trans ?_
    show Steps p.tables e below (T57.setTop (mkF m 13 #[.val (.ref a1), .val (.int (-1 : Int32)), .unset, .unset] [(.int (7 : Int32)), (.int (6 : Int32))])) _
    refine XS.icmpYes X57.here hx rfl (pc0 := 13) (pc' := 79) rfl (hb hby d9_13) rfl (feq (by decide)).2 (by decide) (by decide) ?_
    show Steps p.tables e below (T57.setTop (mkF m 79 #[.val (.ref a1), .val (.int (-1 : Int32)), .unset, .unset] [])) _
    refine XS.iloadN X57.here hx rfl (hb hby d9_79) rfl ?_
    show Steps p.tables e below (T57.setTop (mkF m 80 #[.val (.ref a1), .val (.int (-1 : Int32)), .unset, .unset] [(.int (-1 : Int32))])) _
    exact retI X57 hx Bd.returns (hb hby d9_80) hr
  · show QN6 Z a1 c0 c1 c2 c3 c4 c5 zc fm h0 n0 _ T57.heap _
    rw [e57]
    exact ⟨rfl, N57, Kp⟩
def QN8 (Z : State) (a1 : Addr) (c0 : Int32) (c1 : Int32) (c2 : Int32) (c3 : Int32) (c4 : Int32) (c5 : Int32) (c6 : Int32) (c7 : Int32) (zc : Int32) (fm : Value) (h0 : Heap) (n0 : Nat) (v : Option Value) (h : Heap) (L : List Loc) : Prop := v = some (.int (-1 : Int32)) ∧ Fr n0 L ∧ (Keep h0 h [])
theorem ef_N8 (m : MethodId) (a1 : Addr) : entryFrame m #[(.ref a1)] 4 = mkF m 0 #[.val (.ref a1), .unset, .unset, .unset] [] := by first | (simp [entryFrame, mkF, argsToLocals, Value.category]; done) | rfl
set_option maxRecDepth 65536 in
set_option maxHeartbeats 40000000 in
theorem rmN8 (l : Launch) (Z : State) (a0 : Array Value) (hw : ∀ d ∈ tables_1, d.before a0 Z = true) (ws : List Jvm.Cond) (a1 : Addr) (c0 : Int32) (c1 : Int32) (c2 : Int32) (c3 : Int32) (c4 : Int32) (c5 : Int32) (c6 : Int32) (c7 : Int32) (zc : Int32) (fm : Value) (h0 : Heap) (n0 : Nat) (Zs : n0 ≤ h0.size) (E_a1 : Exa Z h0 a1 "java/lang/String") (T_a1 : Stx Z h0 a1 [c0, c1, c2, c3, c4, c5, c6, c7]) (Ol : Old Z n0 h0) (S_COMPACT_STRINGS : Sta Z Z.heap "java/lang/String" "COMPACT_STRINGS" "Z" (.int zc)) (S_SIOOBE_FORMATTER : Sta Z Z.heap "jdk/internal/util/Preconditions" "SIOOBE_FORMATTER" "Ljava/util/function/BiFunction;" fm) (hzc : ¬ zc = 0) (hfm : fm.isRef = true) (S_HYPHEN : Sta Z Z.heap "com/example/reta/reta/calendar/Months" "HYPHEN" "I" (.int (4 : Int32))) :
    MetFree l (⟨"com/example/reta/reta/calendar/Months", "number", "(Ljava/lang/CharSequence;)I"⟩ : MethodName) (head1 (Jvm.Cond.code (⟨"com/example/reta/reta/calendar/Months", "number", "(Ljava/lang/CharSequence;)I"⟩ : MethodName) prog_1_method_2_code 4 (some .int) :: ws) ({ frames := 2, cells := 2, slots := 32, locals := 26 } : Room)) (fun a U => a = #[(.ref a1)] ∧ Z.Warmed39 U.vm ∧ U.heap = h0 ∧ CHv Z ELs U.vm h0) (fun _ _ _ _ _ => True) (fun _ U o U' => ∃ v L, o = .returned v ∧ QN8 Z a1 c0 c1 c2 c3 c4 c5 c6 c7 zc fm h0 n0 v U'.heap L ∧ CHr Z ELs U.vm U.heap U'.vm U'.heap ∧ ReturnedEndW U o U' L ({ frames := 2, cells := 2, slots := 32, locals := 26 } : Room).cells ({ frames := 2, cells := 2, slots := 32, locals := 26 } : Room).slots) := by
  refine MetFree.of_bodySF (plainFor_of_name pn_1) hisR ?_
  intro p e s m args below meth c s₁ Bd hml0 hP hK
  obtain ⟨rfl, hZ, hh, hCH⟩ := hP
  have hx := Bd.exec
  have hby := Bd.bytes
  have hml : c.maxLocals = 4 := hml0
  have hown : s.vm.findClass "com/example/reta/reta/calendar/Months" = some m.cls := findClass_of_methodNamed Bd.named
  have hnm := (name_of_methodNamed Bd.named Bd.method).1
  have X0 : Stand p l e ({ frames := 2, cells := 2, slots := 32, locals := 26 } : Room) s m #[(.ref a1)] below meth c s₁ [] 0 0 := Stand.of_body Bd
  have e0 : s₁.heap = h0 := by rw [← hh, Bd.state]; rfl
  have N0 := Fr.nil n0
  have pre0 : ∀ t, Steps p.tables e below (s₁.setTop (mkF m 0 #[.val (.ref a1), .unset, .unset, .unset] [])) t → Steps p.tables e below (s₁.setTop (entryFrame m #[(.ref a1)] 4)) t := fun t k => castTop (ef_N8 m a1) k
  have hEL := own_EL hw
  have hStr := own_str hw
  have Kp : Keep h0 h0 [] := Keep.refl h0 []
  obtain ⟨cq58, kq58, q58a, q58b, q58c⟩ := isOf hZ e0 E_a1
  obtain ⟨_, _, ⟨T58, L58, k58, n58⟩, -, X58, ⟨Lc58, hQ58, l58, y58, z58⟩, st58⟩ := X0.interfaceBack hx (xi := (⟨"java/lang/CharSequence", "length", "()I"⟩ : MethodName)) (y := (⟨"java/lang/String", "length", "()I"⟩ : MethodName)) hown (mvT hZ (hw _ (List.mem_of_getElem? (i := 41) rfl))) (mvT hZ (hw _ (List.mem_of_getElem? (i := 42) rfl))) (mvT hZ (hw _ (List.mem_of_getElem? (i := 43) rfl))) (mvT hZ (hw _ (List.mem_of_getElem? (i := 44) rfl))) (mvT hZ (hw _ (List.mem_of_getElem? (i := 45) rfl))) (mvT hZ (hw _ (List.mem_of_getElem? (i := 46) rfl))) (mvT hZ (hw _ (List.mem_of_getElem? (i := 47) rfl))) (mvT hZ (hw _ (List.mem_of_getElem? (i := 48) rfl))) (by decide) (own_len (W := 0) hZ hw T_a1 (Sta.ext Ol.2 S_COMPACT_STRINGS) hzc (by decide) (by decide)) q58a q58b q58c (g := (mkF m 3 #[.val (.ref a1), .val (.int (-1 : Int32)), .unset, .unset] [(.ref a1)])) rfl (by rw [hml]; rfl) (Steps.refl _) (argsL := []) (rest := []) (lenOf pd_2 rfl) rfl (by show 2 * 0 + _ ≤ _; exact Nat.le_of_eq rfl) (hb hby d9_3) (fun _ _ => ⟨rfl, e0, (by decide : 0 + 0 ≤ _), (by decide : 0 + 0 ≤ _)⟩)
  dsimp only [Pt.U, Pt.locs, Pt.cells, Pt.slots] at X58 l58 y58 z58 st58 hQ58
  subst l58 y58 z58
  obtain ⟨rfl, rfl, e58⟩ := hQ58
  have N58 := Fr.app N0 (Fr.nil n0)
  obtain ⟨a59, T59, h59, k59, b59, kb59, X59, e59, E59, hS59, hk59, hZ, hown, Ea59, C59, V59, K59, -, -, R59, -, -, st59⟩ := ldcCH X58 hx hZ hown (hw _ (List.mem_of_getElem? (i := 55) rfl)) hStr e58 ((State.WarmedH.refl s).since 0) (Nat.zero_le _) hEL (by decide) hCH (text := "AAAA-MM") (vs := ((([(65 : Int32), (65 : Int32), (65 : Int32), (65 : Int32), (45 : Int32), (77 : Int32), (77 : Int32)] : List Int32).map (fun c => c.toInt8.toInt32)).map Value.int)) (z := (7 : Int32)) (by decide +kernel) (by decide) rfl (g := (mkF m 8 #[.val (.ref a1), .val (.int (-1 : Int32)), .unset, .unset] [(.int (8 : Int32))])) rfl (hb hby d9_8) (n := 28) (by decide) (by decide) (by decide) (by decide)
  have Zs : n0 ≤ h59.size := Nat.le_trans Zs E59.1
  have E_a1 : Exa Z h59 a1 "java/lang/String" := E_a1.ext E59
  have T_a1 : Stx Z h59 a1 [c0, c1, c2, c3, c4, c5, c6, c7] := T_a1.ext E59
  have Ol : Old Z n0 h59 := Ol.ext E59
  have Kp : Keep h0 h59 [] := Kp.ext E59
  have E_a59 : Exa Z h59 a59 "java/lang/String" := Ea59
  have T_a59 : Stx Z h59 a59 [(65 : Int32), (65 : Int32), (65 : Int32), (65 : Int32), (45 : Int32), (77 : Int32), (77 : Int32)] := ⟨b59, kb59, Ea59, V59, C59, K59, by decide, by decide⟩
  obtain ⟨cq60, kq60, q60a, q60b, q60c⟩ := isOf hZ e59 E_a59
  obtain ⟨_, _, ⟨T60, L60, k60, n60⟩, -, X60, ⟨Lc60, hQ60, l60, y60, z60⟩, st60⟩ := X59.virtualBack hx (y := (⟨"java/lang/String", "length", "()I"⟩ : MethodName)) (z := (⟨"java/lang/String", "length", "()I"⟩ : MethodName)) hown (mvT hZ (hw _ (List.mem_of_getElem? (i := 58) rfl))) (mvT hZ (hw _ (List.mem_of_getElem? (i := 59) rfl))) (notFace_of_selects (args := #[]) (mvT hZ (hw _ (List.mem_of_getElem? (i := 60) rfl)))) (mvT hZ (hw _ (List.mem_of_getElem? (i := 60) rfl))) (mvT hZ (hw _ (List.mem_of_getElem? (i := 45) rfl))) (by decide) (own_len (W := 1) hZ hw T_a59 (Sta.ext Ol.2 S_COMPACT_STRINGS) hzc (by decide) (by decide)) q60a q60c (g := (mkF m 10 #[.val (.ref a1), .val (.int (-1 : Int32)), .unset, .unset] [(.ref a59), (.int (8 : Int32))])) rfl (by rw [hml]; rfl) (Steps.refl _) (argsL := []) (rest := [(.int (8 : Int32))]) (lenOf pd_2 rfl) rfl (by show 2 * 0 + _ ≤ _; exact Nat.le_of_eq rfl) (hb hby d9_10) (fun _ _ => ⟨rfl, e59, (by decide : 2 + 0 ≤ _), (by decide : 32 + 0 ≤ _)⟩)
  dsimp only [Pt.U, Pt.locs, Pt.cells, Pt.slots] at X60 l60 y60 z60 st60 hQ60
  subst l60 y60 z60
  obtain ⟨rfl, rfl, e60⟩ := hQ60
  have N60 := Fr.app N58 (Fr.nil n0)
  obtain ⟨fs, hr, hrun, hended, hRW⟩ := X60.leaveW (s := s) (vm₁ := T59.vm) hS59 (by rw [e60]; exact hk59) (v := some (.int (-1 : Int32))) (fun h => by rw [Bd.returns] at h; cases h)
  have hCR : CHr Z ELs s.vm h0 T60.vm h59 := R59.trans (CHv.at X60 hZ hEL R59.1)
  refine ⟨_, _, pre0 _ ?_, hrun, hended, _, _, rfl, ?_, (by rw [hh]; show CHr Z ELs s.vm h0 T60.vm T60.heap; rw [e60]; exact hCR), ⟨hRW.1, hRW.2.1, hRW.2.2.1, hRW.2.2.2.mono (by decide) (by decide)⟩⟩
  · show Steps p.tables e below (s₁.setTop (mkF m 0 #[.val (.ref a1), .unset, .unset, .unset] [])) _
    refine XS.iconst X0.here hx rfl (hb hby d9_0) ?_
    show Steps p.tables e below (s₁.setTop (mkF m 1 #[.val (.ref a1), .unset, .unset, .unset] [(.int (-1 : Int32))])) _
    refine XS.istoreN X0.here hx rfl (hb hby d9_1) rfl (l' := #[.val (.ref a1), .val (.int (-1 : Int32)), .unset, .unset]) rfl ?_
    show Steps p.tables e below (s₁.setTop (mkF m 2 #[.val (.ref a1), .val (.int (-1 : Int32)), .unset, .unset] [])) _
    refine XS.aloadN X0.here hx rfl (hb hby d9_2) rfl rfl ?_
    show Steps p.tables e below (s₁.setTop (mkF m 3 #[.val (.ref a1), .val (.int (-1 : Int32)), .unset, .unset] [(.ref a1)])) _
    refine st58.trans ?_
    show Steps p.tables e below (T58.setTop (mkF m 8 #[.val (.ref a1), .val (.int (-1 : Int32)), .unset, .unset] [(.int (8 : Int32))])) _
    refine st59 _ ?_
    show Steps p.tables e below (T59.setTop (mkF m 10 #[.val (.ref a1), .val (.int (-1 : Int32)), .unset, .unset] [(.ref a59), (.int (8 : Int32))])) _
    refine st60.trans ?_
    show Steps p.tables e below (T60.setTop (mkF m 13 #[.val (.ref a1), .val (.int (-1 : Int32)), .unset, .unset] [(.int (7 : Int32)), (.int (8 : Int32))])) _
    refine XS.icmpYes X60.here hx rfl (pc0 := 13) (pc' := 79) rfl (hb hby d9_13) rfl (feq (by decide)).2 (by decide) (by decide) ?_
    show Steps p.tables e below (T60.setTop (mkF m 79 #[.val (.ref a1), .val (.int (-1 : Int32)), .unset, .unset] [])) _
    refine XS.iloadN X60.here hx rfl (hb hby d9_79) rfl ?_
    show Steps p.tables e below (T60.setTop (mkF m 80 #[.val (.ref a1), .val (.int (-1 : Int32)), .unset, .unset] [(.int (-1 : Int32))])) _
    exact retI X60 hx Bd.returns (hb hby d9_80) hr
  · show QN8 Z a1 c0 c1 c2 c3 c4 c5 c6 c7 zc fm h0 n0 _ T60.heap _
    rw [e60]
    exact ⟨rfl, N60, Kp⟩
def Q0 (Z : State) (p1 : Int32) (p2 : Int32) (p3 : Int32) (p4 : Int32) (zc : Int32) (fm : Value) (h0 : Heap) (n0 : Nat) (v : Option Value) (h : Heap) (L : List Loc) : Prop := v = some (.int (1 : Int32)) ∧ Fr n0 L
theorem ef_0 (m : MethodId) (p1 : Int32) (p2 : Int32) (p3 : Int32) (p4 : Int32) : entryFrame m #[(.int p1), (.int p2), (.int p3), (.int p4)] maxLocals = mkF m 0 #[.val (.int p1), .val (.int p2), .val (.int p3), .val (.int p4), .unset, .unset, .unset, .unset, .unset, .unset, .unset, .unset, .unset, .unset, .unset, .unset] [] := by first | (simp [entryFrame, mkF, argsToLocals, Value.category, maxLocals]; done) | rfl
set_option maxRecDepth 65536 in
set_option maxHeartbeats 40000000 in
theorem rm0 (l : Launch) (Z : State) (a0 : Array Value) (hw : ∀ d ∈ tables_1, d.before a0 Z = true) (ws : List Jvm.Cond) (p1 : Int32) (p2 : Int32) (p3 : Int32) (p4 : Int32) (zc : Int32) (fm : Value) (h0 : Heap) (n0 : Nat) (Zs : n0 ≤ h0.size) (Ol : Old Z n0 h0) (S_COMPACT_STRINGS : Sta Z Z.heap "java/lang/String" "COMPACT_STRINGS" "Z" (.int zc)) (S_SIOOBE_FORMATTER : Sta Z Z.heap "jdk/internal/util/Preconditions" "SIOOBE_FORMATTER" "Ljava/util/function/BiFunction;" fm) (hzc : ¬ zc = 0) (hfm : fm.isRef = true) (S_HYPHEN : Sta Z Z.heap "com/example/reta/reta/calendar/Months" "HYPHEN" "I" (.int (4 : Int32))) :
    MetFree l x (head1 (Jvm.Cond.code x code maxLocals ret :: ws) room_1) (fun a U => a = #[(.int p1), (.int p2), (.int p3), (.int p4)] ∧ Z.Warmed39 U.vm ∧ U.heap = h0 ∧ CHv Z ELs U.vm Z.heap) (fun _ _ _ _ _ => True) (fun _ U o U' => ∃ v L, o = .returned v ∧ Q0 Z p1 p2 p3 p4 zc fm h0 n0 v U'.heap L ∧ ReturnedEndW U o U' L room_1.cells room_1.slots) := by
  refine MetFree.of_bodySF (plainFor_of_name pn_0) hisR ?_
  intro p e s m args below meth c s₁ Bd hml0 hP hK
  obtain ⟨rfl, hZ, hh, hCH⟩ := hP
  have hx := Bd.exec
  have hby := Bd.bytes
  have hml : c.maxLocals = 16 := hml0
  have hown : s.vm.findClass "com/example/reta/reta/calendar/MonthsNumberPinLaw" = some m.cls := findClass_of_methodNamed Bd.named
  have hnm := (name_of_methodNamed Bd.named Bd.method).1
  have X0 : Stand p l e room_1 s m #[(.int p1), (.int p2), (.int p3), (.int p4)] below meth c s₁ [] 0 0 := Stand.of_body Bd
  have e0 : s₁.heap = h0 := by rw [← hh, Bd.state]; rfl
  have N0 := Fr.nil n0
  have pre0 : ∀ t, Steps p.tables e below (s₁.setTop (mkF m 0 #[.val (.int p1), .val (.int p2), .val (.int p3), .val (.int p4), .unset, .unset, .unset, .unset, .unset, .unset, .unset, .unset, .unset, .unset, .unset, .unset] [])) t → Steps p.tables e below (s₁.setTop (entryFrame m #[(.int p1), (.int p2), (.int p3), (.int p4)] maxLocals)) t := fun t k => castTop (ef_0 m p1 p2 p3 p4) k
  have hEL := own_EL hw
  have hStr := own_str hw
  obtain ⟨_, _, ⟨T61, L61, k61, n61⟩, -, X61, ⟨Lc61, hQ61, l61, y61, z61⟩, st61⟩ := Jvm.LawKit.callS X0 hx (y := (⟨"com/example/reta/reta/calendar/MonthsNumberPinLaw", "pick", "(III)C"⟩ : MethodName)) hown (mvT hZ (hw _ (List.mem_of_getElem? (i := 0) rfl))) (mvT hZ (hw _ (List.mem_of_getElem? (i := 1) rfl))) (mvT hZ (hw _ (List.mem_of_getElem? (i := 2) rfl))) (mvT hZ (hw _ (List.mem_of_getElem? (i := 3) rfl))) (by decide) (backOf (W := 0) (rmPK l Z a0 hw [] p1 (0 : Int32) p3 h0 n0 Zs ) hZ (hw _ (List.mem_of_getElem? (i := 3) rfl)) (hw _ (List.mem_of_getElem? (i := 2) rfl)) (by decide) (by decide)) (g := (mkF m 3 #[.val (.int p1), .val (.int p2), .val (.int p3), .val (.int p4), .unset, .unset, .unset, .unset, .unset, .unset, .unset, .unset, .unset, .unset, .unset, .unset] [(.int p3), (.int (0 : Int32)), (.int p1)])) rfl (by rw [hml]; rfl) (argsL := [(.int p1), (.int (0 : Int32)), (.int p3)]) (rest := []) (lenOf pd_4 rfl) rfl (by show 2 * 0 + _ ≤ _; exact Nat.le_of_eq rfl) (hb hby at_3) (fun _ _ => ⟨rfl, e0, (by decide : 0 + 0 ≤ _), (by decide : 0 + 0 ≤ _)⟩)
  dsimp only [Pt.U, Pt.locs, Pt.cells, Pt.slots] at X61 l61 y61 z61 st61 hQ61
  subst l61 y61 z61
  obtain ⟨rfl, N61q, e61⟩ := hQ61
  have N61 := Fr.app N0 N61q
  obtain ⟨v6, hv6⟩ : ∃ z : Int32, z = (fPK p1 (0 : Int32) p3) := ⟨_, rfl⟩
  have pre62 : ∀ t, Steps p.tables e below (T61.setTop (mkF m 8 #[.val (.int p1), .val (.int p2), .val (.int p3), .val (.int p4), .val (.int v6), .unset, .unset, .unset, .unset, .unset, .unset, .unset, .unset, .unset, .unset, .unset] [])) t → Steps p.tables e below (s₁.setTop (entryFrame m #[(.int p1), (.int p2), (.int p3), (.int p4)] maxLocals)) t := fun t k => pre0 t (by
    show Steps p.tables e below (s₁.setTop (mkF m 0 #[.val (.int p1), .val (.int p2), .val (.int p3), .val (.int p4), .unset, .unset, .unset, .unset, .unset, .unset, .unset, .unset, .unset, .unset, .unset, .unset] [])) _
    refine XS.iloadN X0.here hx rfl (hb hby at_0) rfl ?_
    show Steps p.tables e below (s₁.setTop (mkF m 1 #[.val (.int p1), .val (.int p2), .val (.int p3), .val (.int p4), .unset, .unset, .unset, .unset, .unset, .unset, .unset, .unset, .unset, .unset, .unset, .unset] [(.int p1)])) _
    refine XS.iconst X0.here hx rfl (hb hby at_1) ?_
    show Steps p.tables e below (s₁.setTop (mkF m 2 #[.val (.int p1), .val (.int p2), .val (.int p3), .val (.int p4), .unset, .unset, .unset, .unset, .unset, .unset, .unset, .unset, .unset, .unset, .unset, .unset] [(.int (0 : Int32)), (.int p1)])) _
    refine XS.iloadN X0.here hx rfl (hb hby at_2) rfl ?_
    show Steps p.tables e below (s₁.setTop (mkF m 3 #[.val (.int p1), .val (.int p2), .val (.int p3), .val (.int p4), .unset, .unset, .unset, .unset, .unset, .unset, .unset, .unset, .unset, .unset, .unset, .unset] [(.int p3), (.int (0 : Int32)), (.int p1)])) _
    refine st61 _ ?_
    show Steps p.tables e below (T61.setTop (mkF m 6 #[.val (.int p1), .val (.int p2), .val (.int p3), .val (.int p4), .unset, .unset, .unset, .unset, .unset, .unset, .unset, .unset, .unset, .unset, .unset, .unset] [(.int (fPK p1 (0 : Int32) p3))])) _
    refine XS.istore X61.here hx rfl (hb hby at_6) rfl (l' := #[.val (.int p1), .val (.int p2), .val (.int p3), .val (.int p4), .val (.int (fPK p1 (0 : Int32) p3)), .unset, .unset, .unset, .unset, .unset, .unset, .unset, .unset, .unset, .unset, .unset]) rfl ?_
    rw [hv6] at k
    exact k)
  obtain ⟨_, _, ⟨T63, L63, k63, n63⟩, -, X63, ⟨Lc63, hQ63, l63, y63, z63⟩, st63⟩ := Jvm.LawKit.callS X61 hx (y := (⟨"com/example/reta/reta/calendar/MonthsNumberPinLaw", "pick", "(III)C"⟩ : MethodName)) hown (mvT hZ (hw _ (List.mem_of_getElem? (i := 0) rfl))) (mvT hZ (hw _ (List.mem_of_getElem? (i := 1) rfl))) (mvT hZ (hw _ (List.mem_of_getElem? (i := 2) rfl))) (mvT hZ (hw _ (List.mem_of_getElem? (i := 3) rfl))) (by decide) (backOf (W := 0) (rmPK l Z a0 hw [] p1 (8 : Int32) ((p3.toUInt32 >>> ((1 : Int32) &&& 31).toUInt32).toInt32) h0 n0 Zs ) hZ (hw _ (List.mem_of_getElem? (i := 3) rfl)) (hw _ (List.mem_of_getElem? (i := 2) rfl)) (by decide) (by decide)) (g := (mkF m 14 #[.val (.int p1), .val (.int p2), .val (.int p3), .val (.int p4), .val (.int v6), .unset, .unset, .unset, .unset, .unset, .unset, .unset, .unset, .unset, .unset, .unset] [(.int ((p3.toUInt32 >>> ((1 : Int32) &&& 31).toUInt32).toInt32)), (.int (8 : Int32)), (.int p1)])) rfl (by rw [hml]; rfl) (argsL := [(.int p1), (.int (8 : Int32)), (.int ((p3.toUInt32 >>> ((1 : Int32) &&& 31).toUInt32).toInt32))]) (rest := []) (lenOf pd_4 rfl) rfl (by show 2 * 0 + _ ≤ _; exact Nat.le_of_eq rfl) (hb hby at_14) (fun _ _ => ⟨rfl, e61, (by decide : 0 + 0 ≤ _), (by decide : 0 + 0 ≤ _)⟩)
  dsimp only [Pt.U, Pt.locs, Pt.cells, Pt.slots] at X63 l63 y63 z63 st63 hQ63
  subst l63 y63 z63
  obtain ⟨rfl, N63q, e63⟩ := hQ63
  have N63 := Fr.app N61 N63q
  obtain ⟨v17, hv17⟩ : ∃ z : Int32, z = (fPK p1 (8 : Int32) ((p3.toUInt32 >>> ((1 : Int32) &&& 31).toUInt32).toInt32)) := ⟨_, rfl⟩
  have pre64 : ∀ t, Steps p.tables e below (T63.setTop (mkF m 19 #[.val (.int p1), .val (.int p2), .val (.int p3), .val (.int p4), .val (.int v6), .val (.int v17), .unset, .unset, .unset, .unset, .unset, .unset, .unset, .unset, .unset, .unset] [])) t → Steps p.tables e below (s₁.setTop (entryFrame m #[(.int p1), (.int p2), (.int p3), (.int p4)] maxLocals)) t := fun t k => pre62 t (by
    show Steps p.tables e below (T61.setTop (mkF m 8 #[.val (.int p1), .val (.int p2), .val (.int p3), .val (.int p4), .val (.int v6), .unset, .unset, .unset, .unset, .unset, .unset, .unset, .unset, .unset, .unset, .unset] [])) _
    refine XS.iloadN X61.here hx rfl (hb hby at_8) rfl ?_
    show Steps p.tables e below (T61.setTop (mkF m 9 #[.val (.int p1), .val (.int p2), .val (.int p3), .val (.int p4), .val (.int v6), .unset, .unset, .unset, .unset, .unset, .unset, .unset, .unset, .unset, .unset, .unset] [(.int p1)])) _
    refine XS.bipush X61.here hx rfl (hb hby at_9) ?_
    show Steps p.tables e below (T61.setTop (mkF m 11 #[.val (.int p1), .val (.int p2), .val (.int p3), .val (.int p4), .val (.int v6), .unset, .unset, .unset, .unset, .unset, .unset, .unset, .unset, .unset, .unset, .unset] [(.int (8 : Int32)), (.int p1)])) _
    refine XS.iloadN X61.here hx rfl (hb hby at_11) rfl ?_
    show Steps p.tables e below (T61.setTop (mkF m 12 #[.val (.int p1), .val (.int p2), .val (.int p3), .val (.int p4), .val (.int v6), .unset, .unset, .unset, .unset, .unset, .unset, .unset, .unset, .unset, .unset, .unset] [(.int p3), (.int (8 : Int32)), (.int p1)])) _
    refine XS.iconst X61.here hx rfl (hb hby at_12) ?_
    show Steps p.tables e below (T61.setTop (mkF m 13 #[.val (.int p1), .val (.int p2), .val (.int p3), .val (.int p4), .val (.int v6), .unset, .unset, .unset, .unset, .unset, .unset, .unset, .unset, .unset, .unset, .unset] [(.int (1 : Int32)), (.int p3), (.int (8 : Int32)), (.int p1)])) _
    refine XS.iushr X61.here hx rfl (hb hby at_13) rfl ?_
    show Steps p.tables e below (T61.setTop (mkF m 14 #[.val (.int p1), .val (.int p2), .val (.int p3), .val (.int p4), .val (.int v6), .unset, .unset, .unset, .unset, .unset, .unset, .unset, .unset, .unset, .unset, .unset] [(.int ((p3.toUInt32 >>> ((1 : Int32) &&& 31).toUInt32).toInt32)), (.int (8 : Int32)), (.int p1)])) _
    refine st63 _ ?_
    show Steps p.tables e below (T63.setTop (mkF m 17 #[.val (.int p1), .val (.int p2), .val (.int p3), .val (.int p4), .val (.int v6), .unset, .unset, .unset, .unset, .unset, .unset, .unset, .unset, .unset, .unset, .unset] [(.int (fPK p1 (8 : Int32) ((p3.toUInt32 >>> ((1 : Int32) &&& 31).toUInt32).toInt32)))])) _
    refine XS.istore X63.here hx rfl (hb hby at_17) rfl (l' := #[.val (.int p1), .val (.int p2), .val (.int p3), .val (.int p4), .val (.int v6), .val (.int (fPK p1 (8 : Int32) ((p3.toUInt32 >>> ((1 : Int32) &&& 31).toUInt32).toInt32))), .unset, .unset, .unset, .unset, .unset, .unset, .unset, .unset, .unset, .unset]) rfl ?_
    rw [hv17] at k
    exact k)
  obtain ⟨_, _, ⟨T65, L65, k65, n65⟩, -, X65, ⟨Lc65, hQ65, l65, y65, z65⟩, st65⟩ := Jvm.LawKit.callS X63 hx (y := (⟨"com/example/reta/reta/calendar/MonthsNumberPinLaw", "pick", "(III)C"⟩ : MethodName)) hown (mvT hZ (hw _ (List.mem_of_getElem? (i := 0) rfl))) (mvT hZ (hw _ (List.mem_of_getElem? (i := 1) rfl))) (mvT hZ (hw _ (List.mem_of_getElem? (i := 2) rfl))) (mvT hZ (hw _ (List.mem_of_getElem? (i := 3) rfl))) (by decide) (backOf (W := 0) (rmPK l Z a0 hw [] p1 (16 : Int32) ((p3.toUInt32 >>> ((2 : Int32) &&& 31).toUInt32).toInt32) h0 n0 Zs ) hZ (hw _ (List.mem_of_getElem? (i := 3) rfl)) (hw _ (List.mem_of_getElem? (i := 2) rfl)) (by decide) (by decide)) (g := (mkF m 25 #[.val (.int p1), .val (.int p2), .val (.int p3), .val (.int p4), .val (.int v6), .val (.int v17), .unset, .unset, .unset, .unset, .unset, .unset, .unset, .unset, .unset, .unset] [(.int ((p3.toUInt32 >>> ((2 : Int32) &&& 31).toUInt32).toInt32)), (.int (16 : Int32)), (.int p1)])) rfl (by rw [hml]; rfl) (argsL := [(.int p1), (.int (16 : Int32)), (.int ((p3.toUInt32 >>> ((2 : Int32) &&& 31).toUInt32).toInt32))]) (rest := []) (lenOf pd_4 rfl) rfl (by show 2 * 0 + _ ≤ _; exact Nat.le_of_eq rfl) (hb hby at_25) (fun _ _ => ⟨rfl, e63, (by decide : 0 + 0 ≤ _), (by decide : 0 + 0 ≤ _)⟩)
  dsimp only [Pt.U, Pt.locs, Pt.cells, Pt.slots] at X65 l65 y65 z65 st65 hQ65
  subst l65 y65 z65
  obtain ⟨rfl, N65q, e65⟩ := hQ65
  have N65 := Fr.app N63 N65q
  obtain ⟨v28, hv28⟩ : ∃ z : Int32, z = (fPK p1 (16 : Int32) ((p3.toUInt32 >>> ((2 : Int32) &&& 31).toUInt32).toInt32)) := ⟨_, rfl⟩
  have pre66 : ∀ t, Steps p.tables e below (T65.setTop (mkF m 30 #[.val (.int p1), .val (.int p2), .val (.int p3), .val (.int p4), .val (.int v6), .val (.int v17), .val (.int v28), .unset, .unset, .unset, .unset, .unset, .unset, .unset, .unset, .unset] [])) t → Steps p.tables e below (s₁.setTop (entryFrame m #[(.int p1), (.int p2), (.int p3), (.int p4)] maxLocals)) t := fun t k => pre64 t (by
    show Steps p.tables e below (T63.setTop (mkF m 19 #[.val (.int p1), .val (.int p2), .val (.int p3), .val (.int p4), .val (.int v6), .val (.int v17), .unset, .unset, .unset, .unset, .unset, .unset, .unset, .unset, .unset, .unset] [])) _
    refine XS.iloadN X63.here hx rfl (hb hby at_19) rfl ?_
    show Steps p.tables e below (T63.setTop (mkF m 20 #[.val (.int p1), .val (.int p2), .val (.int p3), .val (.int p4), .val (.int v6), .val (.int v17), .unset, .unset, .unset, .unset, .unset, .unset, .unset, .unset, .unset, .unset] [(.int p1)])) _
    refine XS.bipush X63.here hx rfl (hb hby at_20) ?_
    show Steps p.tables e below (T63.setTop (mkF m 22 #[.val (.int p1), .val (.int p2), .val (.int p3), .val (.int p4), .val (.int v6), .val (.int v17), .unset, .unset, .unset, .unset, .unset, .unset, .unset, .unset, .unset, .unset] [(.int (16 : Int32)), (.int p1)])) _
    refine XS.iloadN X63.here hx rfl (hb hby at_22) rfl ?_
    show Steps p.tables e below (T63.setTop (mkF m 23 #[.val (.int p1), .val (.int p2), .val (.int p3), .val (.int p4), .val (.int v6), .val (.int v17), .unset, .unset, .unset, .unset, .unset, .unset, .unset, .unset, .unset, .unset] [(.int p3), (.int (16 : Int32)), (.int p1)])) _
    refine XS.iconst X63.here hx rfl (hb hby at_23) ?_
    show Steps p.tables e below (T63.setTop (mkF m 24 #[.val (.int p1), .val (.int p2), .val (.int p3), .val (.int p4), .val (.int v6), .val (.int v17), .unset, .unset, .unset, .unset, .unset, .unset, .unset, .unset, .unset, .unset] [(.int (2 : Int32)), (.int p3), (.int (16 : Int32)), (.int p1)])) _
    refine XS.iushr X63.here hx rfl (hb hby at_24) rfl ?_
    show Steps p.tables e below (T63.setTop (mkF m 25 #[.val (.int p1), .val (.int p2), .val (.int p3), .val (.int p4), .val (.int v6), .val (.int v17), .unset, .unset, .unset, .unset, .unset, .unset, .unset, .unset, .unset, .unset] [(.int ((p3.toUInt32 >>> ((2 : Int32) &&& 31).toUInt32).toInt32)), (.int (16 : Int32)), (.int p1)])) _
    refine st65 _ ?_
    show Steps p.tables e below (T65.setTop (mkF m 28 #[.val (.int p1), .val (.int p2), .val (.int p3), .val (.int p4), .val (.int v6), .val (.int v17), .unset, .unset, .unset, .unset, .unset, .unset, .unset, .unset, .unset, .unset] [(.int (fPK p1 (16 : Int32) ((p3.toUInt32 >>> ((2 : Int32) &&& 31).toUInt32).toInt32)))])) _
    refine XS.istore X65.here hx rfl (hb hby at_28) rfl (l' := #[.val (.int p1), .val (.int p2), .val (.int p3), .val (.int p4), .val (.int v6), .val (.int v17), .val (.int (fPK p1 (16 : Int32) ((p3.toUInt32 >>> ((2 : Int32) &&& 31).toUInt32).toInt32))), .unset, .unset, .unset, .unset, .unset, .unset, .unset, .unset, .unset]) rfl ?_
    rw [hv28] at k
    exact k)
  obtain ⟨_, _, ⟨T67, L67, k67, n67⟩, -, X67, ⟨Lc67, hQ67, l67, y67, z67⟩, st67⟩ := Jvm.LawKit.callS X65 hx (y := (⟨"com/example/reta/reta/calendar/MonthsNumberPinLaw", "pick", "(III)C"⟩ : MethodName)) hown (mvT hZ (hw _ (List.mem_of_getElem? (i := 0) rfl))) (mvT hZ (hw _ (List.mem_of_getElem? (i := 1) rfl))) (mvT hZ (hw _ (List.mem_of_getElem? (i := 2) rfl))) (mvT hZ (hw _ (List.mem_of_getElem? (i := 3) rfl))) (by decide) (backOf (W := 0) (rmPK l Z a0 hw [] p1 (24 : Int32) ((p3.toUInt32 >>> ((3 : Int32) &&& 31).toUInt32).toInt32) h0 n0 Zs ) hZ (hw _ (List.mem_of_getElem? (i := 3) rfl)) (hw _ (List.mem_of_getElem? (i := 2) rfl)) (by decide) (by decide)) (g := (mkF m 36 #[.val (.int p1), .val (.int p2), .val (.int p3), .val (.int p4), .val (.int v6), .val (.int v17), .val (.int v28), .unset, .unset, .unset, .unset, .unset, .unset, .unset, .unset, .unset] [(.int ((p3.toUInt32 >>> ((3 : Int32) &&& 31).toUInt32).toInt32)), (.int (24 : Int32)), (.int p1)])) rfl (by rw [hml]; rfl) (argsL := [(.int p1), (.int (24 : Int32)), (.int ((p3.toUInt32 >>> ((3 : Int32) &&& 31).toUInt32).toInt32))]) (rest := []) (lenOf pd_4 rfl) rfl (by show 2 * 0 + _ ≤ _; exact Nat.le_of_eq rfl) (hb hby at_36) (fun _ _ => ⟨rfl, e65, (by decide : 0 + 0 ≤ _), (by decide : 0 + 0 ≤ _)⟩)
  dsimp only [Pt.U, Pt.locs, Pt.cells, Pt.slots] at X67 l67 y67 z67 st67 hQ67
  subst l67 y67 z67
  obtain ⟨rfl, N67q, e67⟩ := hQ67
  have N67 := Fr.app N65 N67q
  obtain ⟨v39, hv39⟩ : ∃ z : Int32, z = (fPK p1 (24 : Int32) ((p3.toUInt32 >>> ((3 : Int32) &&& 31).toUInt32).toInt32)) := ⟨_, rfl⟩
  have pre68 : ∀ t, Steps p.tables e below (T67.setTop (mkF m 41 #[.val (.int p1), .val (.int p2), .val (.int p3), .val (.int p4), .val (.int v6), .val (.int v17), .val (.int v28), .val (.int v39), .unset, .unset, .unset, .unset, .unset, .unset, .unset, .unset] [])) t → Steps p.tables e below (s₁.setTop (entryFrame m #[(.int p1), (.int p2), (.int p3), (.int p4)] maxLocals)) t := fun t k => pre66 t (by
    show Steps p.tables e below (T65.setTop (mkF m 30 #[.val (.int p1), .val (.int p2), .val (.int p3), .val (.int p4), .val (.int v6), .val (.int v17), .val (.int v28), .unset, .unset, .unset, .unset, .unset, .unset, .unset, .unset, .unset] [])) _
    refine XS.iloadN X65.here hx rfl (hb hby at_30) rfl ?_
    show Steps p.tables e below (T65.setTop (mkF m 31 #[.val (.int p1), .val (.int p2), .val (.int p3), .val (.int p4), .val (.int v6), .val (.int v17), .val (.int v28), .unset, .unset, .unset, .unset, .unset, .unset, .unset, .unset, .unset] [(.int p1)])) _
    refine XS.bipush X65.here hx rfl (hb hby at_31) ?_
    show Steps p.tables e below (T65.setTop (mkF m 33 #[.val (.int p1), .val (.int p2), .val (.int p3), .val (.int p4), .val (.int v6), .val (.int v17), .val (.int v28), .unset, .unset, .unset, .unset, .unset, .unset, .unset, .unset, .unset] [(.int (24 : Int32)), (.int p1)])) _
    refine XS.iloadN X65.here hx rfl (hb hby at_33) rfl ?_
    show Steps p.tables e below (T65.setTop (mkF m 34 #[.val (.int p1), .val (.int p2), .val (.int p3), .val (.int p4), .val (.int v6), .val (.int v17), .val (.int v28), .unset, .unset, .unset, .unset, .unset, .unset, .unset, .unset, .unset] [(.int p3), (.int (24 : Int32)), (.int p1)])) _
    refine XS.iconst X65.here hx rfl (hb hby at_34) ?_
    show Steps p.tables e below (T65.setTop (mkF m 35 #[.val (.int p1), .val (.int p2), .val (.int p3), .val (.int p4), .val (.int v6), .val (.int v17), .val (.int v28), .unset, .unset, .unset, .unset, .unset, .unset, .unset, .unset, .unset] [(.int (3 : Int32)), (.int p3), (.int (24 : Int32)), (.int p1)])) _
    refine XS.iushr X65.here hx rfl (hb hby at_35) rfl ?_
    show Steps p.tables e below (T65.setTop (mkF m 36 #[.val (.int p1), .val (.int p2), .val (.int p3), .val (.int p4), .val (.int v6), .val (.int v17), .val (.int v28), .unset, .unset, .unset, .unset, .unset, .unset, .unset, .unset, .unset] [(.int ((p3.toUInt32 >>> ((3 : Int32) &&& 31).toUInt32).toInt32)), (.int (24 : Int32)), (.int p1)])) _
    refine st67 _ ?_
    show Steps p.tables e below (T67.setTop (mkF m 39 #[.val (.int p1), .val (.int p2), .val (.int p3), .val (.int p4), .val (.int v6), .val (.int v17), .val (.int v28), .unset, .unset, .unset, .unset, .unset, .unset, .unset, .unset, .unset] [(.int (fPK p1 (24 : Int32) ((p3.toUInt32 >>> ((3 : Int32) &&& 31).toUInt32).toInt32)))])) _
    refine XS.istore X67.here hx rfl (hb hby at_39) rfl (l' := #[.val (.int p1), .val (.int p2), .val (.int p3), .val (.int p4), .val (.int v6), .val (.int v17), .val (.int v28), .val (.int (fPK p1 (24 : Int32) ((p3.toUInt32 >>> ((3 : Int32) &&& 31).toUInt32).toInt32))), .unset, .unset, .unset, .unset, .unset, .unset, .unset, .unset]) rfl ?_
    rw [hv39] at k
    exact k)
  have pre69 : ∀ t, Steps p.tables e below (T67.setTop (mkF m 47 #[.val (.int p1), .val (.int p2), .val (.int p3), .val (.int p4), .val (.int v6), .val (.int v17), .val (.int v28), .val (.int v39), .unset, .unset, .unset, .unset, .unset, .unset, .unset, .unset] [(.int (((p3.toUInt32 >>> ((8 : Int32) &&& 31).toUInt32).toInt32) &&& (1 : Int32)))])) t → Steps p.tables e below (s₁.setTop (entryFrame m #[(.int p1), (.int p2), (.int p3), (.int p4)] maxLocals)) t := fun t k => pre68 t (by
    show Steps p.tables e below (T67.setTop (mkF m 41 #[.val (.int p1), .val (.int p2), .val (.int p3), .val (.int p4), .val (.int v6), .val (.int v17), .val (.int v28), .val (.int v39), .unset, .unset, .unset, .unset, .unset, .unset, .unset, .unset] [])) _
    refine XS.iloadN X67.here hx rfl (hb hby at_41) rfl ?_
    show Steps p.tables e below (T67.setTop (mkF m 42 #[.val (.int p1), .val (.int p2), .val (.int p3), .val (.int p4), .val (.int v6), .val (.int v17), .val (.int v28), .val (.int v39), .unset, .unset, .unset, .unset, .unset, .unset, .unset, .unset] [(.int p3)])) _
    refine XS.bipush X67.here hx rfl (hb hby at_42) ?_
    show Steps p.tables e below (T67.setTop (mkF m 44 #[.val (.int p1), .val (.int p2), .val (.int p3), .val (.int p4), .val (.int v6), .val (.int v17), .val (.int v28), .val (.int v39), .unset, .unset, .unset, .unset, .unset, .unset, .unset, .unset] [(.int (8 : Int32)), (.int p3)])) _
    refine XS.iushr X67.here hx rfl (hb hby at_44) rfl ?_
    show Steps p.tables e below (T67.setTop (mkF m 45 #[.val (.int p1), .val (.int p2), .val (.int p3), .val (.int p4), .val (.int v6), .val (.int v17), .val (.int v28), .val (.int v39), .unset, .unset, .unset, .unset, .unset, .unset, .unset, .unset] [(.int ((p3.toUInt32 >>> ((8 : Int32) &&& 31).toUInt32).toInt32))])) _
    refine XS.iconst X67.here hx rfl (hb hby at_45) ?_
    show Steps p.tables e below (T67.setTop (mkF m 46 #[.val (.int p1), .val (.int p2), .val (.int p3), .val (.int p4), .val (.int v6), .val (.int v17), .val (.int v28), .val (.int v39), .unset, .unset, .unset, .unset, .unset, .unset, .unset, .unset] [(.int (1 : Int32)), (.int ((p3.toUInt32 >>> ((8 : Int32) &&& 31).toUInt32).toInt32))])) _
    refine XS.iand X67.here hx rfl (hb hby at_46) rfl ?_
    exact k)
  obtain ⟨z63_s0, hz63_s0⟩ : ∃ z : Int32, z = (if (((p3.toUInt32 >>> ((8 : Int32) &&& 31).toUInt32).toInt32) &&& (1 : Int32)) = (0 : Int32) then (fPK p2 (0 : Int32) ((p3.toUInt32 >>> ((4 : Int32) &&& 31).toUInt32).toInt32)) else (45 : Int32)) := ⟨_, rfl⟩
  obtain ⟨T73, Lc73, X73, e73, N73, pre73⟩ : ∃ (T' : State) (locs' : List Loc), Stand p l e room_1 s m #[(.int p1), (.int p2), (.int p3), (.int p4)] below meth c T' locs' 0 0 ∧ T'.heap = h0 ∧ Fr n0 locs' ∧ ∀ t, Steps p.tables e below (T'.setTop (mkF m 63 #[.val (.int p1), .val (.int p2), .val (.int p3), .val (.int p4), .val (.int v6), .val (.int v17), .val (.int v28), .val (.int v39), .unset, .unset, .unset, .unset, .unset, .unset, .unset, .unset] [(.int z63_s0)])) t → Steps p.tables e below (s₁.setTop (entryFrame m #[(.int p1), (.int p2), (.int p3), (.int p4)] maxLocals)) t := by
    by_cases hc47 : (((p3.toUInt32 >>> ((8 : Int32) &&& 31).toUInt32).toInt32) &&& (1 : Int32)) = (0 : Int32)
    ·
      obtain ⟨_, _, ⟨T70, L70, k70, n70⟩, -, X70, ⟨Lc70, hQ70, l70, y70, z70⟩, st70⟩ := Jvm.LawKit.callS X67 hx (y := (⟨"com/example/reta/reta/calendar/MonthsNumberPinLaw", "pick", "(III)C"⟩ : MethodName)) hown (mvT hZ (hw _ (List.mem_of_getElem? (i := 0) rfl))) (mvT hZ (hw _ (List.mem_of_getElem? (i := 1) rfl))) (mvT hZ (hw _ (List.mem_of_getElem? (i := 2) rfl))) (mvT hZ (hw _ (List.mem_of_getElem? (i := 3) rfl))) (by decide) (backOf (W := 0) (rmPK l Z a0 hw [] p2 (0 : Int32) ((p3.toUInt32 >>> ((4 : Int32) &&& 31).toUInt32).toInt32) h0 n0 Zs ) hZ (hw _ (List.mem_of_getElem? (i := 3) rfl)) (hw _ (List.mem_of_getElem? (i := 2) rfl)) (by decide) (by decide)) (g := (mkF m 60 #[.val (.int p1), .val (.int p2), .val (.int p3), .val (.int p4), .val (.int v6), .val (.int v17), .val (.int v28), .val (.int v39), .unset, .unset, .unset, .unset, .unset, .unset, .unset, .unset] [(.int ((p3.toUInt32 >>> ((4 : Int32) &&& 31).toUInt32).toInt32)), (.int (0 : Int32)), (.int p2)])) rfl (by rw [hml]; rfl) (argsL := [(.int p2), (.int (0 : Int32)), (.int ((p3.toUInt32 >>> ((4 : Int32) &&& 31).toUInt32).toInt32))]) (rest := []) (lenOf pd_4 rfl) rfl (by show 2 * 0 + _ ≤ _; exact Nat.le_of_eq rfl) (hb hby at_60) (fun _ _ => ⟨rfl, e67, (by decide : 0 + 0 ≤ _), (by decide : 0 + 0 ≤ _)⟩)
      dsimp only [Pt.U, Pt.locs, Pt.cells, Pt.slots] at X70 l70 y70 z70 st70 hQ70
      subst l70 y70 z70
      obtain ⟨rfl, N70q, e70⟩ := hQ70
      have N70 := Fr.app N67 N70q
      have pre71 : ∀ t, Steps p.tables e below (T70.setTop (mkF m 63 #[.val (.int p1), .val (.int p2), .val (.int p3), .val (.int p4), .val (.int v6), .val (.int v17), .val (.int v28), .val (.int v39), .unset, .unset, .unset, .unset, .unset, .unset, .unset, .unset] [(.int (fPK p2 (0 : Int32) ((p3.toUInt32 >>> ((4 : Int32) &&& 31).toUInt32).toInt32)))])) t → Steps p.tables e below (s₁.setTop (entryFrame m #[(.int p1), (.int p2), (.int p3), (.int p4)] maxLocals)) t := fun t k => pre69 t (by
        show Steps p.tables e below (T67.setTop (mkF m 47 #[.val (.int p1), .val (.int p2), .val (.int p3), .val (.int p4), .val (.int v6), .val (.int v17), .val (.int v28), .val (.int v39), .unset, .unset, .unset, .unset, .unset, .unset, .unset, .unset] [(.int (((p3.toUInt32 >>> ((8 : Int32) &&& 31).toUInt32).toInt32) &&& (1 : Int32)))])) _
        refine XS.ifYes X67.here hx rfl (pc0 := 47) (pc' := 55) rfl (hb hby at_47) rfl ((if0 _ _).trans (teq hc47).1) (by decide) (by decide) ?_
        show Steps p.tables e below (T67.setTop (mkF m 55 #[.val (.int p1), .val (.int p2), .val (.int p3), .val (.int p4), .val (.int v6), .val (.int v17), .val (.int v28), .val (.int v39), .unset, .unset, .unset, .unset, .unset, .unset, .unset, .unset] [])) _
        refine XS.iloadN X67.here hx rfl (hb hby at_55) rfl ?_
        show Steps p.tables e below (T67.setTop (mkF m 56 #[.val (.int p1), .val (.int p2), .val (.int p3), .val (.int p4), .val (.int v6), .val (.int v17), .val (.int v28), .val (.int v39), .unset, .unset, .unset, .unset, .unset, .unset, .unset, .unset] [(.int p2)])) _
        refine XS.iconst X67.here hx rfl (hb hby at_56) ?_
        show Steps p.tables e below (T67.setTop (mkF m 57 #[.val (.int p1), .val (.int p2), .val (.int p3), .val (.int p4), .val (.int v6), .val (.int v17), .val (.int v28), .val (.int v39), .unset, .unset, .unset, .unset, .unset, .unset, .unset, .unset] [(.int (0 : Int32)), (.int p2)])) _
        refine XS.iloadN X67.here hx rfl (hb hby at_57) rfl ?_
        show Steps p.tables e below (T67.setTop (mkF m 58 #[.val (.int p1), .val (.int p2), .val (.int p3), .val (.int p4), .val (.int v6), .val (.int v17), .val (.int v28), .val (.int v39), .unset, .unset, .unset, .unset, .unset, .unset, .unset, .unset] [(.int p3), (.int (0 : Int32)), (.int p2)])) _
        refine XS.iconst X67.here hx rfl (hb hby at_58) ?_
        show Steps p.tables e below (T67.setTop (mkF m 59 #[.val (.int p1), .val (.int p2), .val (.int p3), .val (.int p4), .val (.int v6), .val (.int v17), .val (.int v28), .val (.int v39), .unset, .unset, .unset, .unset, .unset, .unset, .unset, .unset] [(.int (4 : Int32)), (.int p3), (.int (0 : Int32)), (.int p2)])) _
        refine XS.iushr X67.here hx rfl (hb hby at_59) rfl ?_
        show Steps p.tables e below (T67.setTop (mkF m 60 #[.val (.int p1), .val (.int p2), .val (.int p3), .val (.int p4), .val (.int v6), .val (.int v17), .val (.int v28), .val (.int v39), .unset, .unset, .unset, .unset, .unset, .unset, .unset, .unset] [(.int ((p3.toUInt32 >>> ((4 : Int32) &&& 31).toUInt32).toInt32)), (.int (0 : Int32)), (.int p2)])) _
        refine st70 _ ?_
        exact k)
      have q_z63_s0 : z63_s0 = (fPK p2 (0 : Int32) ((p3.toUInt32 >>> ((4 : Int32) &&& 31).toUInt32).toInt32)) := by rw [hz63_s0, if_pos hc47]
      refine ⟨_, _, X70, e70, N70, fun t k => ?_⟩
      rw [q_z63_s0] at k
      exact pre71 t k
    ·
      have pre72 : ∀ t, Steps p.tables e below (T67.setTop (mkF m 63 #[.val (.int p1), .val (.int p2), .val (.int p3), .val (.int p4), .val (.int v6), .val (.int v17), .val (.int v28), .val (.int v39), .unset, .unset, .unset, .unset, .unset, .unset, .unset, .unset] [(.int (45 : Int32))])) t → Steps p.tables e below (s₁.setTop (entryFrame m #[(.int p1), (.int p2), (.int p3), (.int p4)] maxLocals)) t := fun t k => pre69 t (by
        show Steps p.tables e below (T67.setTop (mkF m 47 #[.val (.int p1), .val (.int p2), .val (.int p3), .val (.int p4), .val (.int v6), .val (.int v17), .val (.int v28), .val (.int v39), .unset, .unset, .unset, .unset, .unset, .unset, .unset, .unset] [(.int (((p3.toUInt32 >>> ((8 : Int32) &&& 31).toUInt32).toInt32) &&& (1 : Int32)))])) _
        refine XS.ifNo X67.here hx rfl (hb hby at_47) rfl ((if0 _ _).trans (feq hc47).1) ?_
        show Steps p.tables e below (T67.setTop (mkF m 50 #[.val (.int p1), .val (.int p2), .val (.int p3), .val (.int p4), .val (.int v6), .val (.int v17), .val (.int v28), .val (.int v39), .unset, .unset, .unset, .unset, .unset, .unset, .unset, .unset] [])) _
        refine XS.bipush X67.here hx rfl (hb hby at_50) ?_
        show Steps p.tables e below (T67.setTop (mkF m 52 #[.val (.int p1), .val (.int p2), .val (.int p3), .val (.int p4), .val (.int v6), .val (.int v17), .val (.int v28), .val (.int v39), .unset, .unset, .unset, .unset, .unset, .unset, .unset, .unset] [(.int (45 : Int32))])) _
        refine XS.goto X67.here hx rfl (pc0 := 52) (pc' := 63) rfl (hb hby at_52) (by decide) (by decide) ?_
        exact k)
      have q_z63_s0 : z63_s0 = (45 : Int32) := by rw [hz63_s0, if_neg hc47]
      refine ⟨_, _, X67, e67, N67, fun t k => ?_⟩
      rw [q_z63_s0] at k
      exact pre72 t k
  obtain ⟨_, _, ⟨T74, L74, k74, n74⟩, -, X74, ⟨Lc74, hQ74, l74, y74, z74⟩, st74⟩ := Jvm.LawKit.callS X73 hx (y := (⟨"com/example/reta/reta/calendar/MonthsNumberPinLaw", "pick", "(III)C"⟩ : MethodName)) hown (mvT hZ (hw _ (List.mem_of_getElem? (i := 0) rfl))) (mvT hZ (hw _ (List.mem_of_getElem? (i := 1) rfl))) (mvT hZ (hw _ (List.mem_of_getElem? (i := 2) rfl))) (mvT hZ (hw _ (List.mem_of_getElem? (i := 3) rfl))) (by decide) (backOf (W := 0) (rmPK l Z a0 hw [] p2 (8 : Int32) ((p3.toUInt32 >>> ((5 : Int32) &&& 31).toUInt32).toInt32) h0 n0 Zs ) hZ (hw _ (List.mem_of_getElem? (i := 3) rfl)) (hw _ (List.mem_of_getElem? (i := 2) rfl)) (by decide) (by decide)) (g := (mkF m 71 #[.val (.int p1), .val (.int p2), .val (.int p3), .val (.int p4), .val (.int v6), .val (.int v17), .val (.int v28), .val (.int v39), .val (.int z63_s0), .unset, .unset, .unset, .unset, .unset, .unset, .unset] [(.int ((p3.toUInt32 >>> ((5 : Int32) &&& 31).toUInt32).toInt32)), (.int (8 : Int32)), (.int p2)])) rfl (by rw [hml]; rfl) (argsL := [(.int p2), (.int (8 : Int32)), (.int ((p3.toUInt32 >>> ((5 : Int32) &&& 31).toUInt32).toInt32))]) (rest := []) (lenOf pd_4 rfl) rfl (by show 2 * 0 + _ ≤ _; exact Nat.le_of_eq rfl) (hb hby at_71) (fun _ _ => ⟨rfl, e73, (by decide : 0 + 0 ≤ _), (by decide : 0 + 0 ≤ _)⟩)
  dsimp only [Pt.U, Pt.locs, Pt.cells, Pt.slots] at X74 l74 y74 z74 st74 hQ74
  subst l74 y74 z74
  obtain ⟨rfl, N74q, e74⟩ := hQ74
  have N74 := Fr.app N73 N74q
  obtain ⟨v74, hv74⟩ : ∃ z : Int32, z = (fPK p2 (8 : Int32) ((p3.toUInt32 >>> ((5 : Int32) &&& 31).toUInt32).toInt32)) := ⟨_, rfl⟩
  have pre75 : ∀ t, Steps p.tables e below (T74.setTop (mkF m 76 #[.val (.int p1), .val (.int p2), .val (.int p3), .val (.int p4), .val (.int v6), .val (.int v17), .val (.int v28), .val (.int v39), .val (.int z63_s0), .val (.int v74), .unset, .unset, .unset, .unset, .unset, .unset] [])) t → Steps p.tables e below (s₁.setTop (entryFrame m #[(.int p1), (.int p2), (.int p3), (.int p4)] maxLocals)) t := fun t k => pre73 t (by
    show Steps p.tables e below (T73.setTop (mkF m 63 #[.val (.int p1), .val (.int p2), .val (.int p3), .val (.int p4), .val (.int v6), .val (.int v17), .val (.int v28), .val (.int v39), .unset, .unset, .unset, .unset, .unset, .unset, .unset, .unset] [(.int z63_s0)])) _
    refine XS.istore X73.here hx rfl (hb hby at_63) rfl (l' := #[.val (.int p1), .val (.int p2), .val (.int p3), .val (.int p4), .val (.int v6), .val (.int v17), .val (.int v28), .val (.int v39), .val (.int z63_s0), .unset, .unset, .unset, .unset, .unset, .unset, .unset]) rfl ?_
    show Steps p.tables e below (T73.setTop (mkF m 65 #[.val (.int p1), .val (.int p2), .val (.int p3), .val (.int p4), .val (.int v6), .val (.int v17), .val (.int v28), .val (.int v39), .val (.int z63_s0), .unset, .unset, .unset, .unset, .unset, .unset, .unset] [])) _
    refine XS.iloadN X73.here hx rfl (hb hby at_65) rfl ?_
    show Steps p.tables e below (T73.setTop (mkF m 66 #[.val (.int p1), .val (.int p2), .val (.int p3), .val (.int p4), .val (.int v6), .val (.int v17), .val (.int v28), .val (.int v39), .val (.int z63_s0), .unset, .unset, .unset, .unset, .unset, .unset, .unset] [(.int p2)])) _
    refine XS.bipush X73.here hx rfl (hb hby at_66) ?_
    show Steps p.tables e below (T73.setTop (mkF m 68 #[.val (.int p1), .val (.int p2), .val (.int p3), .val (.int p4), .val (.int v6), .val (.int v17), .val (.int v28), .val (.int v39), .val (.int z63_s0), .unset, .unset, .unset, .unset, .unset, .unset, .unset] [(.int (8 : Int32)), (.int p2)])) _
    refine XS.iloadN X73.here hx rfl (hb hby at_68) rfl ?_
    show Steps p.tables e below (T73.setTop (mkF m 69 #[.val (.int p1), .val (.int p2), .val (.int p3), .val (.int p4), .val (.int v6), .val (.int v17), .val (.int v28), .val (.int v39), .val (.int z63_s0), .unset, .unset, .unset, .unset, .unset, .unset, .unset] [(.int p3), (.int (8 : Int32)), (.int p2)])) _
    refine XS.iconst X73.here hx rfl (hb hby at_69) ?_
    show Steps p.tables e below (T73.setTop (mkF m 70 #[.val (.int p1), .val (.int p2), .val (.int p3), .val (.int p4), .val (.int v6), .val (.int v17), .val (.int v28), .val (.int v39), .val (.int z63_s0), .unset, .unset, .unset, .unset, .unset, .unset, .unset] [(.int (5 : Int32)), (.int p3), (.int (8 : Int32)), (.int p2)])) _
    refine XS.iushr X73.here hx rfl (hb hby at_70) rfl ?_
    show Steps p.tables e below (T73.setTop (mkF m 71 #[.val (.int p1), .val (.int p2), .val (.int p3), .val (.int p4), .val (.int v6), .val (.int v17), .val (.int v28), .val (.int v39), .val (.int z63_s0), .unset, .unset, .unset, .unset, .unset, .unset, .unset] [(.int ((p3.toUInt32 >>> ((5 : Int32) &&& 31).toUInt32).toInt32)), (.int (8 : Int32)), (.int p2)])) _
    refine st74 _ ?_
    show Steps p.tables e below (T74.setTop (mkF m 74 #[.val (.int p1), .val (.int p2), .val (.int p3), .val (.int p4), .val (.int v6), .val (.int v17), .val (.int v28), .val (.int v39), .val (.int z63_s0), .unset, .unset, .unset, .unset, .unset, .unset, .unset] [(.int (fPK p2 (8 : Int32) ((p3.toUInt32 >>> ((5 : Int32) &&& 31).toUInt32).toInt32)))])) _
    refine XS.istore X74.here hx rfl (hb hby at_74) rfl (l' := #[.val (.int p1), .val (.int p2), .val (.int p3), .val (.int p4), .val (.int v6), .val (.int v17), .val (.int v28), .val (.int v39), .val (.int z63_s0), .val (.int (fPK p2 (8 : Int32) ((p3.toUInt32 >>> ((5 : Int32) &&& 31).toUInt32).toInt32))), .unset, .unset, .unset, .unset, .unset, .unset]) rfl ?_
    rw [hv74] at k
    exact k)
  obtain ⟨_, _, ⟨T76, L76, k76, n76⟩, -, X76, ⟨Lc76, hQ76, l76, y76, z76⟩, st76⟩ := Jvm.LawKit.callS X74 hx (y := (⟨"com/example/reta/reta/calendar/MonthsNumberPinLaw", "pick", "(III)C"⟩ : MethodName)) hown (mvT hZ (hw _ (List.mem_of_getElem? (i := 0) rfl))) (mvT hZ (hw _ (List.mem_of_getElem? (i := 1) rfl))) (mvT hZ (hw _ (List.mem_of_getElem? (i := 2) rfl))) (mvT hZ (hw _ (List.mem_of_getElem? (i := 3) rfl))) (by decide) (backOf (W := 0) (rmPK l Z a0 hw [] p2 (16 : Int32) ((p3.toUInt32 >>> ((6 : Int32) &&& 31).toUInt32).toInt32) h0 n0 Zs ) hZ (hw _ (List.mem_of_getElem? (i := 3) rfl)) (hw _ (List.mem_of_getElem? (i := 2) rfl)) (by decide) (by decide)) (g := (mkF m 83 #[.val (.int p1), .val (.int p2), .val (.int p3), .val (.int p4), .val (.int v6), .val (.int v17), .val (.int v28), .val (.int v39), .val (.int z63_s0), .val (.int v74), .unset, .unset, .unset, .unset, .unset, .unset] [(.int ((p3.toUInt32 >>> ((6 : Int32) &&& 31).toUInt32).toInt32)), (.int (16 : Int32)), (.int p2)])) rfl (by rw [hml]; rfl) (argsL := [(.int p2), (.int (16 : Int32)), (.int ((p3.toUInt32 >>> ((6 : Int32) &&& 31).toUInt32).toInt32))]) (rest := []) (lenOf pd_4 rfl) rfl (by show 2 * 0 + _ ≤ _; exact Nat.le_of_eq rfl) (hb hby at_83) (fun _ _ => ⟨rfl, e74, (by decide : 0 + 0 ≤ _), (by decide : 0 + 0 ≤ _)⟩)
  dsimp only [Pt.U, Pt.locs, Pt.cells, Pt.slots] at X76 l76 y76 z76 st76 hQ76
  subst l76 y76 z76
  obtain ⟨rfl, N76q, e76⟩ := hQ76
  have N76 := Fr.app N74 N76q
  obtain ⟨v86, hv86⟩ : ∃ z : Int32, z = (fPK p2 (16 : Int32) ((p3.toUInt32 >>> ((6 : Int32) &&& 31).toUInt32).toInt32)) := ⟨_, rfl⟩
  have pre77 : ∀ t, Steps p.tables e below (T76.setTop (mkF m 88 #[.val (.int p1), .val (.int p2), .val (.int p3), .val (.int p4), .val (.int v6), .val (.int v17), .val (.int v28), .val (.int v39), .val (.int z63_s0), .val (.int v74), .val (.int v86), .unset, .unset, .unset, .unset, .unset] [])) t → Steps p.tables e below (s₁.setTop (entryFrame m #[(.int p1), (.int p2), (.int p3), (.int p4)] maxLocals)) t := fun t k => pre75 t (by
    show Steps p.tables e below (T74.setTop (mkF m 76 #[.val (.int p1), .val (.int p2), .val (.int p3), .val (.int p4), .val (.int v6), .val (.int v17), .val (.int v28), .val (.int v39), .val (.int z63_s0), .val (.int v74), .unset, .unset, .unset, .unset, .unset, .unset] [])) _
    refine XS.iloadN X74.here hx rfl (hb hby at_76) rfl ?_
    show Steps p.tables e below (T74.setTop (mkF m 77 #[.val (.int p1), .val (.int p2), .val (.int p3), .val (.int p4), .val (.int v6), .val (.int v17), .val (.int v28), .val (.int v39), .val (.int z63_s0), .val (.int v74), .unset, .unset, .unset, .unset, .unset, .unset] [(.int p2)])) _
    refine XS.bipush X74.here hx rfl (hb hby at_77) ?_
    show Steps p.tables e below (T74.setTop (mkF m 79 #[.val (.int p1), .val (.int p2), .val (.int p3), .val (.int p4), .val (.int v6), .val (.int v17), .val (.int v28), .val (.int v39), .val (.int z63_s0), .val (.int v74), .unset, .unset, .unset, .unset, .unset, .unset] [(.int (16 : Int32)), (.int p2)])) _
    refine XS.iloadN X74.here hx rfl (hb hby at_79) rfl ?_
    show Steps p.tables e below (T74.setTop (mkF m 80 #[.val (.int p1), .val (.int p2), .val (.int p3), .val (.int p4), .val (.int v6), .val (.int v17), .val (.int v28), .val (.int v39), .val (.int z63_s0), .val (.int v74), .unset, .unset, .unset, .unset, .unset, .unset] [(.int p3), (.int (16 : Int32)), (.int p2)])) _
    refine XS.bipush X74.here hx rfl (hb hby at_80) ?_
    show Steps p.tables e below (T74.setTop (mkF m 82 #[.val (.int p1), .val (.int p2), .val (.int p3), .val (.int p4), .val (.int v6), .val (.int v17), .val (.int v28), .val (.int v39), .val (.int z63_s0), .val (.int v74), .unset, .unset, .unset, .unset, .unset, .unset] [(.int (6 : Int32)), (.int p3), (.int (16 : Int32)), (.int p2)])) _
    refine XS.iushr X74.here hx rfl (hb hby at_82) rfl ?_
    show Steps p.tables e below (T74.setTop (mkF m 83 #[.val (.int p1), .val (.int p2), .val (.int p3), .val (.int p4), .val (.int v6), .val (.int v17), .val (.int v28), .val (.int v39), .val (.int z63_s0), .val (.int v74), .unset, .unset, .unset, .unset, .unset, .unset] [(.int ((p3.toUInt32 >>> ((6 : Int32) &&& 31).toUInt32).toInt32)), (.int (16 : Int32)), (.int p2)])) _
    refine st76 _ ?_
    show Steps p.tables e below (T76.setTop (mkF m 86 #[.val (.int p1), .val (.int p2), .val (.int p3), .val (.int p4), .val (.int v6), .val (.int v17), .val (.int v28), .val (.int v39), .val (.int z63_s0), .val (.int v74), .unset, .unset, .unset, .unset, .unset, .unset] [(.int (fPK p2 (16 : Int32) ((p3.toUInt32 >>> ((6 : Int32) &&& 31).toUInt32).toInt32)))])) _
    refine XS.istore X76.here hx rfl (hb hby at_86) rfl (l' := #[.val (.int p1), .val (.int p2), .val (.int p3), .val (.int p4), .val (.int v6), .val (.int v17), .val (.int v28), .val (.int v39), .val (.int z63_s0), .val (.int v74), .val (.int (fPK p2 (16 : Int32) ((p3.toUInt32 >>> ((6 : Int32) &&& 31).toUInt32).toInt32))), .unset, .unset, .unset, .unset, .unset]) rfl ?_
    rw [hv86] at k
    exact k)
  obtain ⟨_, _, ⟨T78, L78, k78, n78⟩, -, X78, ⟨Lc78, hQ78, l78, y78, z78⟩, st78⟩ := Jvm.LawKit.callS X76 hx (y := (⟨"com/example/reta/reta/calendar/MonthsNumberPinLaw", "pick", "(III)C"⟩ : MethodName)) hown (mvT hZ (hw _ (List.mem_of_getElem? (i := 0) rfl))) (mvT hZ (hw _ (List.mem_of_getElem? (i := 1) rfl))) (mvT hZ (hw _ (List.mem_of_getElem? (i := 2) rfl))) (mvT hZ (hw _ (List.mem_of_getElem? (i := 3) rfl))) (by decide) (backOf (W := 0) (rmPK l Z a0 hw [] p2 (24 : Int32) ((p3.toUInt32 >>> ((7 : Int32) &&& 31).toUInt32).toInt32) h0 n0 Zs ) hZ (hw _ (List.mem_of_getElem? (i := 3) rfl)) (hw _ (List.mem_of_getElem? (i := 2) rfl)) (by decide) (by decide)) (g := (mkF m 95 #[.val (.int p1), .val (.int p2), .val (.int p3), .val (.int p4), .val (.int v6), .val (.int v17), .val (.int v28), .val (.int v39), .val (.int z63_s0), .val (.int v74), .val (.int v86), .unset, .unset, .unset, .unset, .unset] [(.int ((p3.toUInt32 >>> ((7 : Int32) &&& 31).toUInt32).toInt32)), (.int (24 : Int32)), (.int p2)])) rfl (by rw [hml]; rfl) (argsL := [(.int p2), (.int (24 : Int32)), (.int ((p3.toUInt32 >>> ((7 : Int32) &&& 31).toUInt32).toInt32))]) (rest := []) (lenOf pd_4 rfl) rfl (by show 2 * 0 + _ ≤ _; exact Nat.le_of_eq rfl) (hb hby at_95) (fun _ _ => ⟨rfl, e76, (by decide : 0 + 0 ≤ _), (by decide : 0 + 0 ≤ _)⟩)
  dsimp only [Pt.U, Pt.locs, Pt.cells, Pt.slots] at X78 l78 y78 z78 st78 hQ78
  subst l78 y78 z78
  obtain ⟨rfl, N78q, e78⟩ := hQ78
  have N78 := Fr.app N76 N78q
  obtain ⟨v98, hv98⟩ : ∃ z : Int32, z = (fPK p2 (24 : Int32) ((p3.toUInt32 >>> ((7 : Int32) &&& 31).toUInt32).toInt32)) := ⟨_, rfl⟩
  have pre79 : ∀ t, Steps p.tables e below (T78.setTop (mkF m 100 #[.val (.int p1), .val (.int p2), .val (.int p3), .val (.int p4), .val (.int v6), .val (.int v17), .val (.int v28), .val (.int v39), .val (.int z63_s0), .val (.int v74), .val (.int v86), .val (.int v98), .unset, .unset, .unset, .unset] [])) t → Steps p.tables e below (s₁.setTop (entryFrame m #[(.int p1), (.int p2), (.int p3), (.int p4)] maxLocals)) t := fun t k => pre77 t (by
    show Steps p.tables e below (T76.setTop (mkF m 88 #[.val (.int p1), .val (.int p2), .val (.int p3), .val (.int p4), .val (.int v6), .val (.int v17), .val (.int v28), .val (.int v39), .val (.int z63_s0), .val (.int v74), .val (.int v86), .unset, .unset, .unset, .unset, .unset] [])) _
    refine XS.iloadN X76.here hx rfl (hb hby at_88) rfl ?_
    show Steps p.tables e below (T76.setTop (mkF m 89 #[.val (.int p1), .val (.int p2), .val (.int p3), .val (.int p4), .val (.int v6), .val (.int v17), .val (.int v28), .val (.int v39), .val (.int z63_s0), .val (.int v74), .val (.int v86), .unset, .unset, .unset, .unset, .unset] [(.int p2)])) _
    refine XS.bipush X76.here hx rfl (hb hby at_89) ?_
    show Steps p.tables e below (T76.setTop (mkF m 91 #[.val (.int p1), .val (.int p2), .val (.int p3), .val (.int p4), .val (.int v6), .val (.int v17), .val (.int v28), .val (.int v39), .val (.int z63_s0), .val (.int v74), .val (.int v86), .unset, .unset, .unset, .unset, .unset] [(.int (24 : Int32)), (.int p2)])) _
    refine XS.iloadN X76.here hx rfl (hb hby at_91) rfl ?_
    show Steps p.tables e below (T76.setTop (mkF m 92 #[.val (.int p1), .val (.int p2), .val (.int p3), .val (.int p4), .val (.int v6), .val (.int v17), .val (.int v28), .val (.int v39), .val (.int z63_s0), .val (.int v74), .val (.int v86), .unset, .unset, .unset, .unset, .unset] [(.int p3), (.int (24 : Int32)), (.int p2)])) _
    refine XS.bipush X76.here hx rfl (hb hby at_92) ?_
    show Steps p.tables e below (T76.setTop (mkF m 94 #[.val (.int p1), .val (.int p2), .val (.int p3), .val (.int p4), .val (.int v6), .val (.int v17), .val (.int v28), .val (.int v39), .val (.int z63_s0), .val (.int v74), .val (.int v86), .unset, .unset, .unset, .unset, .unset] [(.int (7 : Int32)), (.int p3), (.int (24 : Int32)), (.int p2)])) _
    refine XS.iushr X76.here hx rfl (hb hby at_94) rfl ?_
    show Steps p.tables e below (T76.setTop (mkF m 95 #[.val (.int p1), .val (.int p2), .val (.int p3), .val (.int p4), .val (.int v6), .val (.int v17), .val (.int v28), .val (.int v39), .val (.int z63_s0), .val (.int v74), .val (.int v86), .unset, .unset, .unset, .unset, .unset] [(.int ((p3.toUInt32 >>> ((7 : Int32) &&& 31).toUInt32).toInt32)), (.int (24 : Int32)), (.int p2)])) _
    refine st78 _ ?_
    show Steps p.tables e below (T78.setTop (mkF m 98 #[.val (.int p1), .val (.int p2), .val (.int p3), .val (.int p4), .val (.int v6), .val (.int v17), .val (.int v28), .val (.int v39), .val (.int z63_s0), .val (.int v74), .val (.int v86), .unset, .unset, .unset, .unset, .unset] [(.int (fPK p2 (24 : Int32) ((p3.toUInt32 >>> ((7 : Int32) &&& 31).toUInt32).toInt32)))])) _
    refine XS.istore X78.here hx rfl (hb hby at_98) rfl (l' := #[.val (.int p1), .val (.int p2), .val (.int p3), .val (.int p4), .val (.int v6), .val (.int v17), .val (.int v28), .val (.int v39), .val (.int z63_s0), .val (.int v74), .val (.int v86), .val (.int (fPK p2 (24 : Int32) ((p3.toUInt32 >>> ((7 : Int32) &&& 31).toUInt32).toInt32))), .unset, .unset, .unset, .unset]) rfl ?_
    rw [hv98] at k
    exact k)
  obtain ⟨v104, hv104⟩ : ∃ z : Int32, z = (p4 &&& (7 : Int32)) := ⟨_, rfl⟩
  have pre80 : ∀ t, Steps p.tables e below (T78.setTop (mkF m 106 #[.val (.int p1), .val (.int p2), .val (.int p3), .val (.int p4), .val (.int v6), .val (.int v17), .val (.int v28), .val (.int v39), .val (.int z63_s0), .val (.int v74), .val (.int v86), .val (.int v98), .val (.int v104), .unset, .unset, .unset] [])) t → Steps p.tables e below (s₁.setTop (entryFrame m #[(.int p1), (.int p2), (.int p3), (.int p4)] maxLocals)) t := fun t k => pre79 t (by
    show Steps p.tables e below (T78.setTop (mkF m 100 #[.val (.int p1), .val (.int p2), .val (.int p3), .val (.int p4), .val (.int v6), .val (.int v17), .val (.int v28), .val (.int v39), .val (.int z63_s0), .val (.int v74), .val (.int v86), .val (.int v98), .unset, .unset, .unset, .unset] [])) _
    refine XS.iloadN X78.here hx rfl (hb hby at_100) rfl ?_
    show Steps p.tables e below (T78.setTop (mkF m 101 #[.val (.int p1), .val (.int p2), .val (.int p3), .val (.int p4), .val (.int v6), .val (.int v17), .val (.int v28), .val (.int v39), .val (.int z63_s0), .val (.int v74), .val (.int v86), .val (.int v98), .unset, .unset, .unset, .unset] [(.int p4)])) _
    refine XS.bipush X78.here hx rfl (hb hby at_101) ?_
    show Steps p.tables e below (T78.setTop (mkF m 103 #[.val (.int p1), .val (.int p2), .val (.int p3), .val (.int p4), .val (.int v6), .val (.int v17), .val (.int v28), .val (.int v39), .val (.int z63_s0), .val (.int v74), .val (.int v86), .val (.int v98), .unset, .unset, .unset, .unset] [(.int (7 : Int32)), (.int p4)])) _
    refine XS.iand X78.here hx rfl (hb hby at_103) rfl ?_
    show Steps p.tables e below (T78.setTop (mkF m 104 #[.val (.int p1), .val (.int p2), .val (.int p3), .val (.int p4), .val (.int v6), .val (.int v17), .val (.int v28), .val (.int v39), .val (.int z63_s0), .val (.int v74), .val (.int v86), .val (.int v98), .unset, .unset, .unset, .unset] [(.int (p4 &&& (7 : Int32)))])) _
    refine XS.istore X78.here hx rfl (hb hby at_104) rfl (l' := #[.val (.int p1), .val (.int p2), .val (.int p3), .val (.int p4), .val (.int v6), .val (.int v17), .val (.int v28), .val (.int v39), .val (.int z63_s0), .val (.int v74), .val (.int v86), .val (.int v98), .val (.int (p4 &&& (7 : Int32))), .unset, .unset, .unset]) rfl ?_
    rw [hv104] at k
    exact k)
  have B_v6 : Byt v6 := own_b_v hv6
  have B_v17 : Byt v17 := own_b_v hv17
  have B_v28 : Byt v28 := own_b_v hv28
  have B_v39 : Byt v39 := own_b_v hv39
  have B_z63_s0 : Byt z63_s0 := own_b_z hz63_s0
  have B_v74 : Byt v74 := own_b_v hv74
  have B_v86 : Byt v86 := own_b_v hv86
  have B_v98 : Byt v98 := own_b_v hv98
  have pre81 : ∀ t, Steps p.tables e below (T78.setTop (mkF m 108 #[.val (.int p1), .val (.int p2), .val (.int p3), .val (.int p4), .val (.int v6), .val (.int v17), .val (.int v28), .val (.int v39), .val (.int z63_s0), .val (.int v74), .val (.int v86), .val (.int v98), .val (.int v104), .unset, .unset, .unset] [(.int v104)])) t → Steps p.tables e below (s₁.setTop (entryFrame m #[(.int p1), (.int p2), (.int p3), (.int p4)] maxLocals)) t := fun t k => pre80 t (by
    show Steps p.tables e below (T78.setTop (mkF m 106 #[.val (.int p1), .val (.int p2), .val (.int p3), .val (.int p4), .val (.int v6), .val (.int v17), .val (.int v28), .val (.int v39), .val (.int z63_s0), .val (.int v74), .val (.int v86), .val (.int v98), .val (.int v104), .unset, .unset, .unset] [])) _
    refine XS.iload X78.here hx rfl (hb hby at_106) rfl ?_
    exact k)
  by_cases hc108 : v104 = (0 : Int32)
  ·
    obtain ⟨a82, T82, h82, k82, b82, kb82, X82, e82, E82, hS82, hk82, hZ, hown, Ea82, C82, V82, K82, -, -, R82, -, -, st82⟩ := ldcCH X78 hx hZ hown (hw _ (List.mem_of_getElem? (i := 61) rfl)) hStr e78 ((State.WarmedH.refl s).since 0) (Nat.zero_le _) hEL (by decide) (CHv.ext Ol.2 hCH) (text := "") (vs := ((([] : List Int32).map (fun c => c.toInt8.toInt32)).map Value.int)) (z := (0 : Int32)) (by decide +kernel) (by decide) rfl (g := (mkF m 111 #[.val (.int p1), .val (.int p2), .val (.int p3), .val (.int p4), .val (.int v6), .val (.int v17), .val (.int v28), .val (.int v39), .val (.int z63_s0), .val (.int v74), .val (.int v86), .val (.int v98), .val (.int v104), .unset, .unset, .unset] [])) rfl (hb hby at_111) (n := 0) (by decide) (by decide) (by decide) (by decide)
    have Zs : n0 ≤ h82.size := Nat.le_trans Zs E82.1
    have Ol : Old Z n0 h82 := Ol.ext E82
    have E_a82 : Exa Z h82 a82 "java/lang/String" := Ea82
    have T_a82 : Stx Z h82 a82 [] := ⟨b82, kb82, Ea82, V82, C82, K82, by decide, by decide⟩
    obtain ⟨_, _, ⟨T83, L83, k83, n83⟩, -, X83, ⟨Lc83, hQ83, l83, y83, z83⟩, st83⟩ := Jvm.LawKit.callS X82 hx (y := (⟨"com/example/reta/reta/calendar/MonthsNumberPinLaw", "reference", "(ICCCCCCC)I"⟩ : MethodName)) hown (mvT hZ (hw _ (List.mem_of_getElem? (i := 34) rfl))) (mvT hZ (hw _ (List.mem_of_getElem? (i := 35) rfl))) (mvT hZ (hw _ (List.mem_of_getElem? (i := 2) rfl))) (mvT hZ (hw _ (List.mem_of_getElem? (i := 36) rfl))) (by decide) (backOf (W := 0) (rmRF l Z a0 hw [] (0 : Int32) v6 v17 v28 v39 z63_s0 v74 v86 h82 n0 Zs ) hZ (hw _ (List.mem_of_getElem? (i := 36) rfl)) (hw _ (List.mem_of_getElem? (i := 2) rfl)) (by decide) (by decide)) (g := (mkF m 314 #[.val (.int p1), .val (.int p2), .val (.int p3), .val (.int p4), .val (.int v6), .val (.int v17), .val (.int v28), .val (.int v39), .val (.int z63_s0), .val (.int v74), .val (.int v86), .val (.int v98), .val (.int v104), .val (.ref a82), .val (.int (0 : Int32)), .unset] [(.int v86), (.int v74), (.int z63_s0), (.int v39), (.int v28), (.int v17), (.int v6), (.int (0 : Int32))])) rfl (by rw [hml]; rfl) (argsL := [(.int (0 : Int32)), (.int v6), (.int v17), (.int v28), (.int v39), (.int z63_s0), (.int v74), (.int v86)]) (rest := []) (lenOf pd_5 rfl) rfl (by show 2 * 0 + _ ≤ _; exact Nat.le_of_eq rfl) (hb hby at_314) (fun _ _ => ⟨rfl, e82, (by decide : 2 + 0 ≤ _), (by decide : 4 + 0 ≤ _)⟩)
    dsimp only [Pt.U, Pt.locs, Pt.cells, Pt.slots] at X83 l83 y83 z83 st83 hQ83
    subst l83 y83 z83
    obtain ⟨rfl, N83q, e83⟩ := hQ83
    have N83 := Fr.app N78 N83q
    obtain ⟨v317, hv317⟩ : ∃ z : Int32, z = (fRF (0 : Int32) v6 v17 v28 v39 z63_s0 v74 v86) := ⟨_, rfl⟩
    have pre84 : ∀ t, Steps p.tables e below (T83.setTop (mkF m 319 #[.val (.int p1), .val (.int p2), .val (.int p3), .val (.int p4), .val (.int v6), .val (.int v17), .val (.int v28), .val (.int v39), .val (.int z63_s0), .val (.int v74), .val (.int v86), .val (.int v98), .val (.int v104), .val (.ref a82), .val (.int (0 : Int32)), .val (.int v317)] [])) t → Steps p.tables e below (s₁.setTop (entryFrame m #[(.int p1), (.int p2), (.int p3), (.int p4)] maxLocals)) t := fun t k => pre81 t (by
      show Steps p.tables e below (T78.setTop (mkF m 108 #[.val (.int p1), .val (.int p2), .val (.int p3), .val (.int p4), .val (.int v6), .val (.int v17), .val (.int v28), .val (.int v39), .val (.int z63_s0), .val (.int v74), .val (.int v86), .val (.int v98), .val (.int v104), .unset, .unset, .unset] [(.int v104)])) _
      refine XS.ifNo X78.here hx rfl (hb hby at_108) rfl ((if0 _ _).trans (teq hc108).2) ?_
      show Steps p.tables e below (T78.setTop (mkF m 111 #[.val (.int p1), .val (.int p2), .val (.int p3), .val (.int p4), .val (.int v6), .val (.int v17), .val (.int v28), .val (.int v39), .val (.int z63_s0), .val (.int v74), .val (.int v86), .val (.int v98), .val (.int v104), .unset, .unset, .unset] [])) _
      refine st82 _ ?_
      show Steps p.tables e below (T82.setTop (mkF m 113 #[.val (.int p1), .val (.int p2), .val (.int p3), .val (.int p4), .val (.int v6), .val (.int v17), .val (.int v28), .val (.int v39), .val (.int z63_s0), .val (.int v74), .val (.int v86), .val (.int v98), .val (.int v104), .unset, .unset, .unset] [(.ref a82)])) _
      refine XS.astore X82.here hx rfl (hb hby at_113) rfl rfl (l' := #[.val (.int p1), .val (.int p2), .val (.int p3), .val (.int p4), .val (.int v6), .val (.int v17), .val (.int v28), .val (.int v39), .val (.int z63_s0), .val (.int v74), .val (.int v86), .val (.int v98), .val (.int v104), .val (.ref a82), .unset, .unset]) rfl ?_
      show Steps p.tables e below (T82.setTop (mkF m 115 #[.val (.int p1), .val (.int p2), .val (.int p3), .val (.int p4), .val (.int v6), .val (.int v17), .val (.int v28), .val (.int v39), .val (.int z63_s0), .val (.int v74), .val (.int v86), .val (.int v98), .val (.int v104), .val (.ref a82), .unset, .unset] [])) _
      refine XS.iconst X82.here hx rfl (hb hby at_115) ?_
      show Steps p.tables e below (T82.setTop (mkF m 116 #[.val (.int p1), .val (.int p2), .val (.int p3), .val (.int p4), .val (.int v6), .val (.int v17), .val (.int v28), .val (.int v39), .val (.int z63_s0), .val (.int v74), .val (.int v86), .val (.int v98), .val (.int v104), .val (.ref a82), .unset, .unset] [(.int (0 : Int32))])) _
      refine XS.istore X82.here hx rfl (hb hby at_116) rfl (l' := #[.val (.int p1), .val (.int p2), .val (.int p3), .val (.int p4), .val (.int v6), .val (.int v17), .val (.int v28), .val (.int v39), .val (.int z63_s0), .val (.int v74), .val (.int v86), .val (.int v98), .val (.int v104), .val (.ref a82), .val (.int (0 : Int32)), .unset]) rfl ?_
      show Steps p.tables e below (T82.setTop (mkF m 118 #[.val (.int p1), .val (.int p2), .val (.int p3), .val (.int p4), .val (.int v6), .val (.int v17), .val (.int v28), .val (.int v39), .val (.int z63_s0), .val (.int v74), .val (.int v86), .val (.int v98), .val (.int v104), .val (.ref a82), .val (.int (0 : Int32)), .unset] [])) _
      refine XS.goto X82.here hx rfl (pc0 := 118) (pc' := 298) rfl (hb hby at_118) (by decide) (by decide) ?_
      show Steps p.tables e below (T82.setTop (mkF m 298 #[.val (.int p1), .val (.int p2), .val (.int p3), .val (.int p4), .val (.int v6), .val (.int v17), .val (.int v28), .val (.int v39), .val (.int z63_s0), .val (.int v74), .val (.int v86), .val (.int v98), .val (.int v104), .val (.ref a82), .val (.int (0 : Int32)), .unset] [])) _
      refine XS.iload X82.here hx rfl (hb hby at_298) rfl ?_
      show Steps p.tables e below (T82.setTop (mkF m 300 #[.val (.int p1), .val (.int p2), .val (.int p3), .val (.int p4), .val (.int v6), .val (.int v17), .val (.int v28), .val (.int v39), .val (.int z63_s0), .val (.int v74), .val (.int v86), .val (.int v98), .val (.int v104), .val (.ref a82), .val (.int (0 : Int32)), .unset] [(.int (0 : Int32))])) _
      refine XS.iload X82.here hx rfl (hb hby at_300) rfl ?_
      show Steps p.tables e below (T82.setTop (mkF m 302 #[.val (.int p1), .val (.int p2), .val (.int p3), .val (.int p4), .val (.int v6), .val (.int v17), .val (.int v28), .val (.int v39), .val (.int z63_s0), .val (.int v74), .val (.int v86), .val (.int v98), .val (.int v104), .val (.ref a82), .val (.int (0 : Int32)), .unset] [(.int v6), (.int (0 : Int32))])) _
      refine XS.iload X82.here hx rfl (hb hby at_302) rfl ?_
      show Steps p.tables e below (T82.setTop (mkF m 304 #[.val (.int p1), .val (.int p2), .val (.int p3), .val (.int p4), .val (.int v6), .val (.int v17), .val (.int v28), .val (.int v39), .val (.int z63_s0), .val (.int v74), .val (.int v86), .val (.int v98), .val (.int v104), .val (.ref a82), .val (.int (0 : Int32)), .unset] [(.int v17), (.int v6), (.int (0 : Int32))])) _
      refine XS.iload X82.here hx rfl (hb hby at_304) rfl ?_
      show Steps p.tables e below (T82.setTop (mkF m 306 #[.val (.int p1), .val (.int p2), .val (.int p3), .val (.int p4), .val (.int v6), .val (.int v17), .val (.int v28), .val (.int v39), .val (.int z63_s0), .val (.int v74), .val (.int v86), .val (.int v98), .val (.int v104), .val (.ref a82), .val (.int (0 : Int32)), .unset] [(.int v28), (.int v17), (.int v6), (.int (0 : Int32))])) _
      refine XS.iload X82.here hx rfl (hb hby at_306) rfl ?_
      show Steps p.tables e below (T82.setTop (mkF m 308 #[.val (.int p1), .val (.int p2), .val (.int p3), .val (.int p4), .val (.int v6), .val (.int v17), .val (.int v28), .val (.int v39), .val (.int z63_s0), .val (.int v74), .val (.int v86), .val (.int v98), .val (.int v104), .val (.ref a82), .val (.int (0 : Int32)), .unset] [(.int v39), (.int v28), (.int v17), (.int v6), (.int (0 : Int32))])) _
      refine XS.iload X82.here hx rfl (hb hby at_308) rfl ?_
      show Steps p.tables e below (T82.setTop (mkF m 310 #[.val (.int p1), .val (.int p2), .val (.int p3), .val (.int p4), .val (.int v6), .val (.int v17), .val (.int v28), .val (.int v39), .val (.int z63_s0), .val (.int v74), .val (.int v86), .val (.int v98), .val (.int v104), .val (.ref a82), .val (.int (0 : Int32)), .unset] [(.int z63_s0), (.int v39), (.int v28), (.int v17), (.int v6), (.int (0 : Int32))])) _
      refine XS.iload X82.here hx rfl (hb hby at_310) rfl ?_
      show Steps p.tables e below (T82.setTop (mkF m 312 #[.val (.int p1), .val (.int p2), .val (.int p3), .val (.int p4), .val (.int v6), .val (.int v17), .val (.int v28), .val (.int v39), .val (.int z63_s0), .val (.int v74), .val (.int v86), .val (.int v98), .val (.int v104), .val (.ref a82), .val (.int (0 : Int32)), .unset] [(.int v74), (.int z63_s0), (.int v39), (.int v28), (.int v17), (.int v6), (.int (0 : Int32))])) _
      refine XS.iload X82.here hx rfl (hb hby at_312) rfl ?_
      show Steps p.tables e below (T82.setTop (mkF m 314 #[.val (.int p1), .val (.int p2), .val (.int p3), .val (.int p4), .val (.int v6), .val (.int v17), .val (.int v28), .val (.int v39), .val (.int z63_s0), .val (.int v74), .val (.int v86), .val (.int v98), .val (.int v104), .val (.ref a82), .val (.int (0 : Int32)), .unset] [(.int v86), (.int v74), (.int z63_s0), (.int v39), (.int v28), (.int v17), (.int v6), (.int (0 : Int32))])) _
      refine st83 _ ?_
      show Steps p.tables e below (T83.setTop (mkF m 317 #[.val (.int p1), .val (.int p2), .val (.int p3), .val (.int p4), .val (.int v6), .val (.int v17), .val (.int v28), .val (.int v39), .val (.int z63_s0), .val (.int v74), .val (.int v86), .val (.int v98), .val (.int v104), .val (.ref a82), .val (.int (0 : Int32)), .unset] [(.int (fRF (0 : Int32) v6 v17 v28 v39 z63_s0 v74 v86))])) _
      refine XS.istore X83.here hx rfl (hb hby at_317) rfl (l' := #[.val (.int p1), .val (.int p2), .val (.int p3), .val (.int p4), .val (.int v6), .val (.int v17), .val (.int v28), .val (.int v39), .val (.int z63_s0), .val (.int v74), .val (.int v86), .val (.int v98), .val (.int v104), .val (.ref a82), .val (.int (0 : Int32)), .val (.int (fRF (0 : Int32) v6 v17 v28 v39 z63_s0 v74 v86))]) rfl ?_
      rw [hv317] at k
      exact k)
    obtain ⟨_, _, ⟨T85, L85, k85, n85⟩, -, X85, h285, g285, ⟨Lc85, hQ85, l85, y85, z85, R85⟩, st85⟩ := callSS (s := (s.setVm T82.vm)) X83 hx (y := (⟨"com/example/reta/reta/calendar/Months", "number", "(Ljava/lang/CharSequence;)I"⟩ : MethodName)) hown (mvT hZ (hw _ (List.mem_of_getElem? (i := 37) rfl))) (mvT hZ (hw _ (List.mem_of_getElem? (i := 38) rfl))) (mvT hZ (hw _ (List.mem_of_getElem? (i := 39) rfl))) (mvT hZ (hw _ (List.mem_of_getElem? (i := 40) rfl))) (by decide) (backOfSH (W := 0) (rmN0 l Z a0 hw [] a82 zc fm h82 n0 Zs E_a82 T_a82 Ol S_COMPACT_STRINGS S_SIOOBE_FORMATTER hzc hfm S_HYPHEN) hZ (hw _ (List.mem_of_getElem? (i := 40) rfl)) (hw _ (List.mem_of_getElem? (i := 39) rfl)) (by decide) (by decide) hEL R82.1) (g := (mkF m 321 #[.val (.int p1), .val (.int p2), .val (.int p3), .val (.int p4), .val (.int v6), .val (.int v17), .val (.int v28), .val (.int v39), .val (.int z63_s0), .val (.int v74), .val (.int v86), .val (.int v98), .val (.int v104), .val (.ref a82), .val (.int (0 : Int32)), .val (.int v317)] [(.ref a82)])) rfl (by rw [hml]; rfl) (argsL := [(.ref a82)]) (rest := []) (lenOf pd_6 rfl) rfl (by show 2 * 0 + _ ≤ _; exact Nat.le_of_eq rfl) (hb hby at_321) (fun _ _ => ⟨rfl, e83, (by decide : 2 + 2 ≤ _), (by decide : 4 + 32 ≤ _)⟩)
    dsimp only [Pt.U, Pt.locs, Pt.cells, Pt.slots] at X85 h285 g285 l85 y85 z85 st85 hQ85 R85
    subst l85 y85 z85
    obtain ⟨X85, hS85, hZ, hown⟩ := rebS hS82 (by rw [e83]; exact hk82) X85 h285 g285 hZ hown
    obtain ⟨rfl, N85q, K85⟩ := hQ85
    have Zs : n0 ≤ T85.heap.size := Nat.le_trans Zs K85.1
    have Ol : Old Z n0 T85.heap := Ol.keep K85 all0
    have E_a82 : Exa Z T85.heap a82 "java/lang/String" := E_a82.keep K85
    have T_a82 : Stx Z T85.heap a82 [] := T_a82.keep K85
    have N85 := Fr.app N83 N85q
    have pre86 : ∀ t, Steps p.tables e below (T85.setTop (mkF m 326 #[.val (.int p1), .val (.int p2), .val (.int p3), .val (.int p4), .val (.int v6), .val (.int v17), .val (.int v28), .val (.int v39), .val (.int z63_s0), .val (.int v74), .val (.int v86), .val (.int v98), .val (.int v104), .val (.ref a82), .val (.int (0 : Int32)), .val (.int v317)] [(.int v317), (.int (-1 : Int32))])) t → Steps p.tables e below (s₁.setTop (entryFrame m #[(.int p1), (.int p2), (.int p3), (.int p4)] maxLocals)) t := fun t k => pre84 t (by
      show Steps p.tables e below (T83.setTop (mkF m 319 #[.val (.int p1), .val (.int p2), .val (.int p3), .val (.int p4), .val (.int v6), .val (.int v17), .val (.int v28), .val (.int v39), .val (.int z63_s0), .val (.int v74), .val (.int v86), .val (.int v98), .val (.int v104), .val (.ref a82), .val (.int (0 : Int32)), .val (.int v317)] [])) _
      refine XS.aload X83.here hx rfl (hb hby at_319) rfl rfl ?_
      show Steps p.tables e below (T83.setTop (mkF m 321 #[.val (.int p1), .val (.int p2), .val (.int p3), .val (.int p4), .val (.int v6), .val (.int v17), .val (.int v28), .val (.int v39), .val (.int z63_s0), .val (.int v74), .val (.int v86), .val (.int v98), .val (.int v104), .val (.ref a82), .val (.int (0 : Int32)), .val (.int v317)] [(.ref a82)])) _
      refine st85.trans ?_
      show Steps p.tables e below (T85.setTop (mkF m 324 #[.val (.int p1), .val (.int p2), .val (.int p3), .val (.int p4), .val (.int v6), .val (.int v17), .val (.int v28), .val (.int v39), .val (.int z63_s0), .val (.int v74), .val (.int v86), .val (.int v98), .val (.int v104), .val (.ref a82), .val (.int (0 : Int32)), .val (.int v317)] [(.int (-1 : Int32))])) _
      refine XS.iload X85.here hx rfl (hb hby at_324) rfl ?_
      exact k)
    obtain ⟨z334_s0, hz334_s0⟩ : ∃ z : Int32, z = (if (-1 : Int32) = v317 then (1 : Int32) else (0 : Int32)) := ⟨_, rfl⟩
    obtain ⟨T89, Lc89, X89, e89, N89, pre89⟩ : ∃ (T' : State) (locs' : List Loc), Stand p l e room_1 (s.setVm T85.vm) m #[(.int p1), (.int p2), (.int p3), (.int p4)] below meth c T' locs' 4 36 ∧ T'.heap = T85.heap ∧ Fr n0 locs' ∧ ∀ t, Steps p.tables e below (T'.setTop (mkF m 334 #[.val (.int p1), .val (.int p2), .val (.int p3), .val (.int p4), .val (.int v6), .val (.int v17), .val (.int v28), .val (.int v39), .val (.int z63_s0), .val (.int v74), .val (.int v86), .val (.int v98), .val (.int v104), .val (.ref a82), .val (.int (0 : Int32)), .val (.int v317)] [(.int z334_s0)])) t → Steps p.tables e below (s₁.setTop (entryFrame m #[(.int p1), (.int p2), (.int p3), (.int p4)] maxLocals)) t := by
      by_cases hc326 : (-1 : Int32) = v317
      ·
        have pre87 : ∀ t, Steps p.tables e below (T85.setTop (mkF m 334 #[.val (.int p1), .val (.int p2), .val (.int p3), .val (.int p4), .val (.int v6), .val (.int v17), .val (.int v28), .val (.int v39), .val (.int z63_s0), .val (.int v74), .val (.int v86), .val (.int v98), .val (.int v104), .val (.ref a82), .val (.int (0 : Int32)), .val (.int v317)] [(.int (1 : Int32))])) t → Steps p.tables e below (s₁.setTop (entryFrame m #[(.int p1), (.int p2), (.int p3), (.int p4)] maxLocals)) t := fun t k => pre86 t (by
          show Steps p.tables e below (T85.setTop (mkF m 326 #[.val (.int p1), .val (.int p2), .val (.int p3), .val (.int p4), .val (.int v6), .val (.int v17), .val (.int v28), .val (.int v39), .val (.int z63_s0), .val (.int v74), .val (.int v86), .val (.int v98), .val (.int v104), .val (.ref a82), .val (.int (0 : Int32)), .val (.int v317)] [(.int v317), (.int (-1 : Int32))])) _
          refine XS.icmpNo X85.here hx rfl (hb hby at_326) rfl (teq hc326).2 ?_
          show Steps p.tables e below (T85.setTop (mkF m 329 #[.val (.int p1), .val (.int p2), .val (.int p3), .val (.int p4), .val (.int v6), .val (.int v17), .val (.int v28), .val (.int v39), .val (.int z63_s0), .val (.int v74), .val (.int v86), .val (.int v98), .val (.int v104), .val (.ref a82), .val (.int (0 : Int32)), .val (.int v317)] [])) _
          refine XS.iconst X85.here hx rfl (hb hby at_329) ?_
          show Steps p.tables e below (T85.setTop (mkF m 330 #[.val (.int p1), .val (.int p2), .val (.int p3), .val (.int p4), .val (.int v6), .val (.int v17), .val (.int v28), .val (.int v39), .val (.int z63_s0), .val (.int v74), .val (.int v86), .val (.int v98), .val (.int v104), .val (.ref a82), .val (.int (0 : Int32)), .val (.int v317)] [(.int (1 : Int32))])) _
          refine XS.goto X85.here hx rfl (pc0 := 330) (pc' := 334) rfl (hb hby at_330) (by decide) (by decide) ?_
          exact k)
        have q_z334_s0 : z334_s0 = (1 : Int32) := by rw [hz334_s0, if_pos hc326]
        refine ⟨_, _, X85, rfl, N85, fun t k => ?_⟩
        rw [q_z334_s0] at k
        exact pre87 t k
      ·
        have pre88 : ∀ t, Steps p.tables e below (T85.setTop (mkF m 334 #[.val (.int p1), .val (.int p2), .val (.int p3), .val (.int p4), .val (.int v6), .val (.int v17), .val (.int v28), .val (.int v39), .val (.int z63_s0), .val (.int v74), .val (.int v86), .val (.int v98), .val (.int v104), .val (.ref a82), .val (.int (0 : Int32)), .val (.int v317)] [(.int (0 : Int32))])) t → Steps p.tables e below (s₁.setTop (entryFrame m #[(.int p1), (.int p2), (.int p3), (.int p4)] maxLocals)) t := fun t k => pre86 t (by
          show Steps p.tables e below (T85.setTop (mkF m 326 #[.val (.int p1), .val (.int p2), .val (.int p3), .val (.int p4), .val (.int v6), .val (.int v17), .val (.int v28), .val (.int v39), .val (.int z63_s0), .val (.int v74), .val (.int v86), .val (.int v98), .val (.int v104), .val (.ref a82), .val (.int (0 : Int32)), .val (.int v317)] [(.int v317), (.int (-1 : Int32))])) _
          refine XS.icmpYes X85.here hx rfl (pc0 := 326) (pc' := 333) rfl (hb hby at_326) rfl (feq hc326).2 (by decide) (by decide) ?_
          show Steps p.tables e below (T85.setTop (mkF m 333 #[.val (.int p1), .val (.int p2), .val (.int p3), .val (.int p4), .val (.int v6), .val (.int v17), .val (.int v28), .val (.int v39), .val (.int z63_s0), .val (.int v74), .val (.int v86), .val (.int v98), .val (.int v104), .val (.ref a82), .val (.int (0 : Int32)), .val (.int v317)] [])) _
          refine XS.iconst X85.here hx rfl (hb hby at_333) ?_
          exact k)
        have q_z334_s0 : z334_s0 = (0 : Int32) := by rw [hz334_s0, if_neg hc326]
        refine ⟨_, _, X85, rfl, N85, fun t k => ?_⟩
        rw [q_z334_s0] at k
        exact pre88 t k
    obtain rfl : z334_s0 = (1 : Int32) := own_lawo (by decide) hv317 hz334_s0
    obtain ⟨fs, hr, hrun, hended, hRW⟩ := X89.leaveW (s := s) (vm₁ := T85.vm) hS85 (by rw [e89]; exact (Nat.le_refl _)) (v := some (.int (1 : Int32))) (fun h => by rw [Bd.returns] at h; cases h)
    have hCR := trivial
    refine ⟨_, _, pre89 _ ?_, hrun, hended, _, _, rfl, ?_, ⟨hRW.1, hRW.2.1, hRW.2.2.1, hRW.2.2.2.mono (by decide) (by decide)⟩⟩
    · show Steps p.tables e below (T89.setTop (mkF m 334 #[.val (.int p1), .val (.int p2), .val (.int p3), .val (.int p4), .val (.int v6), .val (.int v17), .val (.int v28), .val (.int v39), .val (.int z63_s0), .val (.int v74), .val (.int v86), .val (.int v98), .val (.int v104), .val (.ref a82), .val (.int (0 : Int32)), .val (.int v317)] [(.int (1 : Int32))])) _
      exact retN X89 hx (t := .boolean) Bd.returns (by simp) (hb hby at_334) hr
    · show Q0 Z p1 p2 p3 p4 zc fm h0 n0 _ T89.heap _
      rw [e89]
      exact ⟨rfl, N89⟩
  ·
    have pre90 : ∀ t, Steps p.tables e below (T78.setTop (mkF m 124 #[.val (.int p1), .val (.int p2), .val (.int p3), .val (.int p4), .val (.int v6), .val (.int v17), .val (.int v28), .val (.int v39), .val (.int z63_s0), .val (.int v74), .val (.int v86), .val (.int v98), .val (.int v104), .unset, .unset, .unset] [(.int (1 : Int32)), (.int v104)])) t → Steps p.tables e below (s₁.setTop (entryFrame m #[(.int p1), (.int p2), (.int p3), (.int p4)] maxLocals)) t := fun t k => pre81 t (by
      show Steps p.tables e below (T78.setTop (mkF m 108 #[.val (.int p1), .val (.int p2), .val (.int p3), .val (.int p4), .val (.int v6), .val (.int v17), .val (.int v28), .val (.int v39), .val (.int z63_s0), .val (.int v74), .val (.int v86), .val (.int v98), .val (.int v104), .unset, .unset, .unset] [(.int v104)])) _
      refine XS.ifYes X78.here hx rfl (pc0 := 108) (pc' := 121) rfl (hb hby at_108) rfl ((if0 _ _).trans (feq hc108).2) (by decide) (by decide) ?_
      show Steps p.tables e below (T78.setTop (mkF m 121 #[.val (.int p1), .val (.int p2), .val (.int p3), .val (.int p4), .val (.int v6), .val (.int v17), .val (.int v28), .val (.int v39), .val (.int z63_s0), .val (.int v74), .val (.int v86), .val (.int v98), .val (.int v104), .unset, .unset, .unset] [])) _
      refine XS.iload X78.here hx rfl (hb hby at_121) rfl ?_
      show Steps p.tables e below (T78.setTop (mkF m 123 #[.val (.int p1), .val (.int p2), .val (.int p3), .val (.int p4), .val (.int v6), .val (.int v17), .val (.int v28), .val (.int v39), .val (.int z63_s0), .val (.int v74), .val (.int v86), .val (.int v98), .val (.int v104), .unset, .unset, .unset] [(.int v104)])) _
      refine XS.iconst X78.here hx rfl (hb hby at_123) ?_
      exact k)
    by_cases hc124 : v104 = (1 : Int32)
    ·
      obtain ⟨T91, h91, X91, e91, E91, A91, D91, -, st91⟩ := newO X78 hx hZ hown (hw _ (List.mem_of_getElem? (i := 4) rfl)) (hw _ (List.mem_of_getElem? (i := 5) rfl)) (hw _ (List.mem_of_getElem? (i := 6) rfl)) e78 (g := (mkF m 127 #[.val (.int p1), .val (.int p2), .val (.int p3), .val (.int p4), .val (.int v6), .val (.int v17), .val (.int v28), .val (.int v39), .val (.int z63_s0), .val (.int v74), .val (.int v86), .val (.int v98), .val (.int v104), .unset, .unset, .unset] [])) rfl (hb hby at_127) (by decide) (by decide)
      obtain ⟨b91, g91⟩ : ∃ z, z = h0.size := ⟨_, rfl⟩
      rw [← g91] at A91 D91 st91
      have g_b91 : n0 ≤ b91 := Nat.le_trans Zs (Nat.le_of_eq g91.symm)
      have Zs : n0 ≤ h91.size := Nat.le_trans Zs E91.1
      have Ol : Old Z n0 h91 := Ol.ext E91
      have E_b91 : Exa Z h91 b91 "java/lang/String" := A91
      have F_coder_b91 : Fld Z h91 b91 "java/lang/String" "coder" "B" (.int (0 : Int32)) := D91 (Or.inr (hw _ (List.mem_of_getElem? (i := 31) rfl))) (ty := .byte) (by decide)
      have F_value_b91 : Fld Z h91 b91 "java/lang/String" "value" "[B" .null := D91 (Or.inr (hw _ (List.mem_of_getElem? (i := 33) rfl))) (ty := (.array .byte)) (by decide)
      obtain ⟨T92, h92, k92, X92, e92, E92, A92, B92, st92⟩ := newPE X91 hx hZ (hw _ (List.mem_of_getElem? (i := 7) rfl)) e91 (g := (mkF m 133 #[.val (.int p1), .val (.int p2), .val (.int p3), .val (.int p4), .val (.int v6), .val (.int v17), .val (.int v28), .val (.int v39), .val (.int z63_s0), .val (.int v74), .val (.int v86), .val (.int v98), .val (.int v104), .unset, .unset, .unset] [(.int (6 : Int32)), (.ref b91), (.ref b91)])) rfl (hb hby at_133) rfl (by decide) (cap := 6) (by decide) (by decide) (by decide) (by decide) (ad := "[C") (by decide)
      obtain ⟨b92, g92⟩ : ∃ z, z = h91.size := ⟨_, rfl⟩
      rw [← g92] at A92 B92 st92
      have g_b92 : n0 ≤ b92 := Nat.le_trans Zs (Nat.le_of_eq g92.symm)
      have ne_b91_b92 : b91 ≠ b92 := Nat.ne_of_lt (Nat.lt_of_lt_of_le E_b91.lt (Nat.le_of_eq g92.symm))
      have Zs : n0 ≤ h92.size := Nat.le_trans Zs E92.1
      have Ol : Old Z n0 h92 := Ol.ext E92
      have E_b91 : Exa Z h92 b91 "java/lang/String" := E_b91.ext E92
      have F_coder_b91 : Fld Z h92 b91 "java/lang/String" "coder" "B" (.int (0 : Int32)) := F_coder_b91.ext E92
      have F_value_b91 : Fld Z h92 b91 "java/lang/String" "value" "[B" .null := F_value_b91.ext E92
      have E_b92 : Exa Z h92 b92 "[C" := B92
      have V_b92 : Arv Z h92 b92 k92 .char (6 : Int32) [(.int (0 : Int32)), (.int (0 : Int32)), (.int (0 : Int32)), (.int (0 : Int32)), (.int (0 : Int32)), (.int (0 : Int32))] (.int (0 : Int32)) := (Arv.new A92 (by decide)).pad (pad_rep [] (.int (0 : Int32)) 6)
      obtain ⟨cl93, Ar93, q93, S93, M93, H93, G93⟩ := V_b92
      obtain ⟨T94, h94, X94, e94, W94, st94⟩ := stC X92 hx hZ e92 Ar93 (j := (0 : Int32)) (inb_of S93 (by decide)) (g := (mkF m 139 #[.val (.int p1), .val (.int p2), .val (.int p3), .val (.int p4), .val (.int v6), .val (.int v17), .val (.int v28), .val (.int v39), .val (.int z63_s0), .val (.int v74), .val (.int v86), .val (.int v98), .val (.int v104), .unset, .unset, .unset] [(.int v6), (.int (0 : Int32)), (.ref b92), (.ref b92), (.ref b91), (.ref b91)])) rfl rfl (hb hby at_139)
      have N94 := Fr.snoc X94 N78 g_b92
      have Zs : n0 ≤ h94.size := Nat.le_trans Zs (Keep.of_wr W94).1
      have Ol : Old Z n0 h94 := Ol.wr W94 g_b92
      have E_b91 : Exa Z h94 b91 "java/lang/String" := E_b91.wr W94
      have F_coder_b91 : Fld Z h94 b91 "java/lang/String" "coder" "B" (.int (0 : Int32)) := F_coder_b91.other W94 (Or.inl ne_b91_b92)
      have F_value_b91 : Fld Z h94 b91 "java/lang/String" "value" "[B" .null := F_value_b91.other W94 (Or.inl ne_b91_b92)
      have E_b92 : Exa Z h94 b92 "[C" := E_b92.wr W94
      have V_b92 : Arv Z h94 b92 k92 .char (6 : Int32) [(.int (nar .char v6)), (.int (0 : Int32)), (.int (0 : Int32)), (.int (0 : Int32)), (.int (0 : Int32)), (.int (0 : Int32))] (.int (0 : Int32)) := Arv.set Ar93 q93 S93 M93 H93 G93 (fits_nar_char _) W94 0 rfl (Nat.le_of_ble_eq_true rfl)
      obtain ⟨cl95, Ar95, q95, S95, M95, H95, G95⟩ := V_b92
      obtain ⟨T96, h96, X96, e96, W96, st96⟩ := stC X94 hx hZ e94 Ar95 (j := (1 : Int32)) (inb_of S95 (by decide)) (g := (mkF m 144 #[.val (.int p1), .val (.int p2), .val (.int p3), .val (.int p4), .val (.int v6), .val (.int v17), .val (.int v28), .val (.int v39), .val (.int z63_s0), .val (.int v74), .val (.int v86), .val (.int v98), .val (.int v104), .unset, .unset, .unset] [(.int v17), (.int (1 : Int32)), (.ref b92), (.ref b92), (.ref b91), (.ref b91)])) rfl rfl (hb hby at_144)
      have N96 := Fr.snoc X96 N94 g_b92
      have Zs : n0 ≤ h96.size := Nat.le_trans Zs (Keep.of_wr W96).1
      have Ol : Old Z n0 h96 := Ol.wr W96 g_b92
      have E_b91 : Exa Z h96 b91 "java/lang/String" := E_b91.wr W96
      have F_coder_b91 : Fld Z h96 b91 "java/lang/String" "coder" "B" (.int (0 : Int32)) := F_coder_b91.other W96 (Or.inl ne_b91_b92)
      have F_value_b91 : Fld Z h96 b91 "java/lang/String" "value" "[B" .null := F_value_b91.other W96 (Or.inl ne_b91_b92)
      have E_b92 : Exa Z h96 b92 "[C" := E_b92.wr W96
      have V_b92 : Arv Z h96 b92 k92 .char (6 : Int32) [(.int (nar .char v6)), (.int (nar .char v17)), (.int (0 : Int32)), (.int (0 : Int32)), (.int (0 : Int32)), (.int (0 : Int32))] (.int (0 : Int32)) := Arv.set Ar95 q95 S95 M95 H95 G95 (fits_nar_char _) W96 1 rfl (Nat.le_of_ble_eq_true rfl)
      obtain ⟨cl97, Ar97, q97, S97, M97, H97, G97⟩ := V_b92
      obtain ⟨T98, h98, X98, e98, W98, st98⟩ := stC X96 hx hZ e96 Ar97 (j := (2 : Int32)) (inb_of S97 (by decide)) (g := (mkF m 149 #[.val (.int p1), .val (.int p2), .val (.int p3), .val (.int p4), .val (.int v6), .val (.int v17), .val (.int v28), .val (.int v39), .val (.int z63_s0), .val (.int v74), .val (.int v86), .val (.int v98), .val (.int v104), .unset, .unset, .unset] [(.int v28), (.int (2 : Int32)), (.ref b92), (.ref b92), (.ref b91), (.ref b91)])) rfl rfl (hb hby at_149)
      have N98 := Fr.snoc X98 N96 g_b92
      have Zs : n0 ≤ h98.size := Nat.le_trans Zs (Keep.of_wr W98).1
      have Ol : Old Z n0 h98 := Ol.wr W98 g_b92
      have E_b91 : Exa Z h98 b91 "java/lang/String" := E_b91.wr W98
      have F_coder_b91 : Fld Z h98 b91 "java/lang/String" "coder" "B" (.int (0 : Int32)) := F_coder_b91.other W98 (Or.inl ne_b91_b92)
      have F_value_b91 : Fld Z h98 b91 "java/lang/String" "value" "[B" .null := F_value_b91.other W98 (Or.inl ne_b91_b92)
      have E_b92 : Exa Z h98 b92 "[C" := E_b92.wr W98
      have V_b92 : Arv Z h98 b92 k92 .char (6 : Int32) [(.int (nar .char v6)), (.int (nar .char v17)), (.int (nar .char v28)), (.int (0 : Int32)), (.int (0 : Int32)), (.int (0 : Int32))] (.int (0 : Int32)) := Arv.set Ar97 q97 S97 M97 H97 G97 (fits_nar_char _) W98 2 rfl (Nat.le_of_ble_eq_true rfl)
      obtain ⟨cl99, Ar99, q99, S99, M99, H99, G99⟩ := V_b92
      obtain ⟨T100, h100, X100, e100, W100, st100⟩ := stC X98 hx hZ e98 Ar99 (j := (3 : Int32)) (inb_of S99 (by decide)) (g := (mkF m 154 #[.val (.int p1), .val (.int p2), .val (.int p3), .val (.int p4), .val (.int v6), .val (.int v17), .val (.int v28), .val (.int v39), .val (.int z63_s0), .val (.int v74), .val (.int v86), .val (.int v98), .val (.int v104), .unset, .unset, .unset] [(.int v39), (.int (3 : Int32)), (.ref b92), (.ref b92), (.ref b91), (.ref b91)])) rfl rfl (hb hby at_154)
      have N100 := Fr.snoc X100 N98 g_b92
      have Zs : n0 ≤ h100.size := Nat.le_trans Zs (Keep.of_wr W100).1
      have Ol : Old Z n0 h100 := Ol.wr W100 g_b92
      have E_b91 : Exa Z h100 b91 "java/lang/String" := E_b91.wr W100
      have F_coder_b91 : Fld Z h100 b91 "java/lang/String" "coder" "B" (.int (0 : Int32)) := F_coder_b91.other W100 (Or.inl ne_b91_b92)
      have F_value_b91 : Fld Z h100 b91 "java/lang/String" "value" "[B" .null := F_value_b91.other W100 (Or.inl ne_b91_b92)
      have E_b92 : Exa Z h100 b92 "[C" := E_b92.wr W100
      have V_b92 : Arv Z h100 b92 k92 .char (6 : Int32) [(.int (nar .char v6)), (.int (nar .char v17)), (.int (nar .char v28)), (.int (nar .char v39)), (.int (0 : Int32)), (.int (0 : Int32))] (.int (0 : Int32)) := Arv.set Ar99 q99 S99 M99 H99 G99 (fits_nar_char _) W100 3 rfl (Nat.le_of_ble_eq_true rfl)
      obtain ⟨cl101, Ar101, q101, S101, M101, H101, G101⟩ := V_b92
      obtain ⟨T102, h102, X102, e102, W102, st102⟩ := stC X100 hx hZ e100 Ar101 (j := (4 : Int32)) (inb_of S101 (by decide)) (g := (mkF m 159 #[.val (.int p1), .val (.int p2), .val (.int p3), .val (.int p4), .val (.int v6), .val (.int v17), .val (.int v28), .val (.int v39), .val (.int z63_s0), .val (.int v74), .val (.int v86), .val (.int v98), .val (.int v104), .unset, .unset, .unset] [(.int z63_s0), (.int (4 : Int32)), (.ref b92), (.ref b92), (.ref b91), (.ref b91)])) rfl rfl (hb hby at_159)
      have N102 := Fr.snoc X102 N100 g_b92
      have Zs : n0 ≤ h102.size := Nat.le_trans Zs (Keep.of_wr W102).1
      have Ol : Old Z n0 h102 := Ol.wr W102 g_b92
      have E_b91 : Exa Z h102 b91 "java/lang/String" := E_b91.wr W102
      have F_coder_b91 : Fld Z h102 b91 "java/lang/String" "coder" "B" (.int (0 : Int32)) := F_coder_b91.other W102 (Or.inl ne_b91_b92)
      have F_value_b91 : Fld Z h102 b91 "java/lang/String" "value" "[B" .null := F_value_b91.other W102 (Or.inl ne_b91_b92)
      have E_b92 : Exa Z h102 b92 "[C" := E_b92.wr W102
      have V_b92 : Arv Z h102 b92 k92 .char (6 : Int32) [(.int (nar .char v6)), (.int (nar .char v17)), (.int (nar .char v28)), (.int (nar .char v39)), (.int (nar .char z63_s0)), (.int (0 : Int32))] (.int (0 : Int32)) := Arv.set Ar101 q101 S101 M101 H101 G101 (fits_nar_char _) W102 4 rfl (Nat.le_of_ble_eq_true rfl)
      obtain ⟨cl103, Ar103, q103, S103, M103, H103, G103⟩ := V_b92
      obtain ⟨T104, h104, X104, e104, W104, st104⟩ := stC X102 hx hZ e102 Ar103 (j := (5 : Int32)) (inb_of S103 (by decide)) (g := (mkF m 164 #[.val (.int p1), .val (.int p2), .val (.int p3), .val (.int p4), .val (.int v6), .val (.int v17), .val (.int v28), .val (.int v39), .val (.int z63_s0), .val (.int v74), .val (.int v86), .val (.int v98), .val (.int v104), .unset, .unset, .unset] [(.int v74), (.int (5 : Int32)), (.ref b92), (.ref b92), (.ref b91), (.ref b91)])) rfl rfl (hb hby at_164)
      have N104 := Fr.snoc X104 N102 g_b92
      have Zs : n0 ≤ h104.size := Nat.le_trans Zs (Keep.of_wr W104).1
      have Ol : Old Z n0 h104 := Ol.wr W104 g_b92
      have E_b91 : Exa Z h104 b91 "java/lang/String" := E_b91.wr W104
      have F_coder_b91 : Fld Z h104 b91 "java/lang/String" "coder" "B" (.int (0 : Int32)) := F_coder_b91.other W104 (Or.inl ne_b91_b92)
      have F_value_b91 : Fld Z h104 b91 "java/lang/String" "value" "[B" .null := F_value_b91.other W104 (Or.inl ne_b91_b92)
      have E_b92 : Exa Z h104 b92 "[C" := E_b92.wr W104
      have V_b92 : Arv Z h104 b92 k92 .char (6 : Int32) [(.int (nar .char v6)), (.int (nar .char v17)), (.int (nar .char v28)), (.int (nar .char v39)), (.int (nar .char z63_s0)), (.int (nar .char v74))] (.int (0 : Int32)) := Arv.set Ar103 q103 S103 M103 H103 G103 (fits_nar_char _) W104 5 rfl (Nat.le_of_ble_eq_true rfl)
      obtain ⟨_, _, ⟨T105, L105, k105, n105⟩, -, X105, ⟨Lc105, hQ105, l105, y105, z105⟩, st105⟩ := X104.specialBack hx (y := (⟨"java/lang/String", "<init>", "([C)V"⟩ : MethodName)) rfl hown (mvT hZ (hw _ (List.mem_of_getElem? (i := 8) rfl))) (mvT hZ (hw _ (List.mem_of_getElem? (i := 9) rfl))) (mvT hZ (hw _ (List.mem_of_getElem? (i := 10) rfl))) (by decide) (own_new (W := 1) hZ hw g_b91 Zs E_b91 F_value_b91 F_coder_b91 (cs := [(nar .char v6), (nar .char v17), (nar .char v28), (nar .char v39), (nar .char z63_s0), (nar .char v74)]) (n := 6) V_b92 (Sta.ext Ol.2 S_COMPACT_STRINGS) hzc rfl rfl (by decide) (by decide) (own_l6 B_v6 B_v17 B_v28 B_v39 B_z63_s0 B_v74) (by decide) (by decide)) (g := (mkF m 165 #[.val (.int p1), .val (.int p2), .val (.int p3), .val (.int p4), .val (.int v6), .val (.int v17), .val (.int v28), .val (.int v39), .val (.int z63_s0), .val (.int v74), .val (.int v86), .val (.int v98), .val (.int v104), .unset, .unset, .unset] [(.ref b92), (.ref b91), (.ref b91)])) rfl (by rw [hml]; rfl) (Steps.refl _) (a := b91) (argsL := [(.ref b92)]) (rest := [(.ref b91)]) (lenOf pd_7 rfl) rfl (by show 2 * 0 + _ ≤ _; exact Nat.le_of_eq rfl) (hb hby at_165) (fun _ _ => ⟨rfl, e104, (by decide : 2 + 1 ≤ _), (by decide : 10 + 6 ≤ _)⟩)
      dsimp only [Pt.U, Pt.locs, Pt.cells, Pt.slots] at X105 l105 y105 z105 st105 hQ105
      subst l105 y105 z105
      obtain ⟨rfl, N105q, K105, T105x⟩ := hQ105
      have Zs : n0 ≤ T105.heap.size := Nat.le_trans Zs K105.1
      have Ol : Old Z n0 T105.heap := Ol.keep K105 (allS g_b91 all0)
      have E_b91 : Exa Z T105.heap b91 "java/lang/String" := E_b91.keep K105
      have E_b92 : Exa Z T105.heap b92 "[C" := E_b92.keep K105
      have T_b91 : Stx Z T105.heap b91 [(nar .char v6), (nar .char v17), (nar .char v28), (nar .char v39), (nar .char z63_s0), (nar .char v74)] := T105x
      have N105 := Fr.app N104 N105q
      obtain ⟨_, _, ⟨T106, L106, k106, n106⟩, -, X106, ⟨Lc106, hQ106, l106, y106, z106⟩, st106⟩ := Jvm.LawKit.callS X105 hx (y := (⟨"com/example/reta/reta/calendar/MonthsNumberPinLaw", "reference", "(ICCCCCCC)I"⟩ : MethodName)) hown (mvT hZ (hw _ (List.mem_of_getElem? (i := 34) rfl))) (mvT hZ (hw _ (List.mem_of_getElem? (i := 35) rfl))) (mvT hZ (hw _ (List.mem_of_getElem? (i := 2) rfl))) (mvT hZ (hw _ (List.mem_of_getElem? (i := 36) rfl))) (by decide) (backOf (W := 0) (rmRF l Z a0 hw [] (6 : Int32) v6 v17 v28 v39 z63_s0 v74 v86 T105.heap n0 Zs ) hZ (hw _ (List.mem_of_getElem? (i := 36) rfl)) (hw _ (List.mem_of_getElem? (i := 2) rfl)) (by decide) (by decide)) (g := (mkF m 314 #[.val (.int p1), .val (.int p2), .val (.int p3), .val (.int p4), .val (.int v6), .val (.int v17), .val (.int v28), .val (.int v39), .val (.int z63_s0), .val (.int v74), .val (.int v86), .val (.int v98), .val (.int v104), .val (.ref b91), .val (.int (6 : Int32)), .unset] [(.int v86), (.int v74), (.int z63_s0), (.int v39), (.int v28), (.int v17), (.int v6), (.int (6 : Int32))])) rfl (by rw [hml]; rfl) (argsL := [(.int (6 : Int32)), (.int v6), (.int v17), (.int v28), (.int v39), (.int z63_s0), (.int v74), (.int v86)]) (rest := []) (lenOf pd_5 rfl) rfl (by show 2 * 0 + _ ≤ _; exact Nat.le_of_eq rfl) (hb hby at_314) (fun _ _ => ⟨rfl, rfl, (by decide : 3 + 0 ≤ _), (by decide : 16 + 0 ≤ _)⟩)
      dsimp only [Pt.U, Pt.locs, Pt.cells, Pt.slots] at X106 l106 y106 z106 st106 hQ106
      subst l106 y106 z106
      obtain ⟨rfl, N106q, e106⟩ := hQ106
      have N106 := Fr.app N105 N106q
      obtain ⟨v317, hv317⟩ : ∃ z : Int32, z = (fRF (6 : Int32) v6 v17 v28 v39 z63_s0 v74 v86) := ⟨_, rfl⟩
      have pre107 : ∀ t, Steps p.tables e below (T106.setTop (mkF m 319 #[.val (.int p1), .val (.int p2), .val (.int p3), .val (.int p4), .val (.int v6), .val (.int v17), .val (.int v28), .val (.int v39), .val (.int z63_s0), .val (.int v74), .val (.int v86), .val (.int v98), .val (.int v104), .val (.ref b91), .val (.int (6 : Int32)), .val (.int v317)] [])) t → Steps p.tables e below (s₁.setTop (entryFrame m #[(.int p1), (.int p2), (.int p3), (.int p4)] maxLocals)) t := fun t k => pre90 t (by
        show Steps p.tables e below (T78.setTop (mkF m 124 #[.val (.int p1), .val (.int p2), .val (.int p3), .val (.int p4), .val (.int v6), .val (.int v17), .val (.int v28), .val (.int v39), .val (.int z63_s0), .val (.int v74), .val (.int v86), .val (.int v98), .val (.int v104), .unset, .unset, .unset] [(.int (1 : Int32)), (.int v104)])) _
        refine XS.icmpNo X78.here hx rfl (hb hby at_124) rfl (teq hc124).2 ?_
        show Steps p.tables e below (T78.setTop (mkF m 127 #[.val (.int p1), .val (.int p2), .val (.int p3), .val (.int p4), .val (.int v6), .val (.int v17), .val (.int v28), .val (.int v39), .val (.int z63_s0), .val (.int v74), .val (.int v86), .val (.int v98), .val (.int v104), .unset, .unset, .unset] [])) _
        refine st91 _ ?_
        show Steps p.tables e below (T91.setTop (mkF m 130 #[.val (.int p1), .val (.int p2), .val (.int p3), .val (.int p4), .val (.int v6), .val (.int v17), .val (.int v28), .val (.int v39), .val (.int z63_s0), .val (.int v74), .val (.int v86), .val (.int v98), .val (.int v104), .unset, .unset, .unset] [(.ref b91)])) _
        refine XS.dup X91.here hx rfl (hb hby at_130) rfl rfl ?_
        show Steps p.tables e below (T91.setTop (mkF m 131 #[.val (.int p1), .val (.int p2), .val (.int p3), .val (.int p4), .val (.int v6), .val (.int v17), .val (.int v28), .val (.int v39), .val (.int z63_s0), .val (.int v74), .val (.int v86), .val (.int v98), .val (.int v104), .unset, .unset, .unset] [(.ref b91), (.ref b91)])) _
        refine XS.bipush X91.here hx rfl (hb hby at_131) ?_
        show Steps p.tables e below (T91.setTop (mkF m 133 #[.val (.int p1), .val (.int p2), .val (.int p3), .val (.int p4), .val (.int v6), .val (.int v17), .val (.int v28), .val (.int v39), .val (.int z63_s0), .val (.int v74), .val (.int v86), .val (.int v98), .val (.int v104), .unset, .unset, .unset] [(.int (6 : Int32)), (.ref b91), (.ref b91)])) _
        refine st92 _ ?_
        show Steps p.tables e below (T92.setTop (mkF m 135 #[.val (.int p1), .val (.int p2), .val (.int p3), .val (.int p4), .val (.int v6), .val (.int v17), .val (.int v28), .val (.int v39), .val (.int z63_s0), .val (.int v74), .val (.int v86), .val (.int v98), .val (.int v104), .unset, .unset, .unset] [(.ref b92), (.ref b91), (.ref b91)])) _
        refine XS.dup X92.here hx rfl (hb hby at_135) rfl rfl ?_
        show Steps p.tables e below (T92.setTop (mkF m 136 #[.val (.int p1), .val (.int p2), .val (.int p3), .val (.int p4), .val (.int v6), .val (.int v17), .val (.int v28), .val (.int v39), .val (.int z63_s0), .val (.int v74), .val (.int v86), .val (.int v98), .val (.int v104), .unset, .unset, .unset] [(.ref b92), (.ref b92), (.ref b91), (.ref b91)])) _
        refine XS.iconst X92.here hx rfl (hb hby at_136) ?_
        show Steps p.tables e below (T92.setTop (mkF m 137 #[.val (.int p1), .val (.int p2), .val (.int p3), .val (.int p4), .val (.int v6), .val (.int v17), .val (.int v28), .val (.int v39), .val (.int z63_s0), .val (.int v74), .val (.int v86), .val (.int v98), .val (.int v104), .unset, .unset, .unset] [(.int (0 : Int32)), (.ref b92), (.ref b92), (.ref b91), (.ref b91)])) _
        refine XS.iload X92.here hx rfl (hb hby at_137) rfl ?_
        show Steps p.tables e below (T92.setTop (mkF m 139 #[.val (.int p1), .val (.int p2), .val (.int p3), .val (.int p4), .val (.int v6), .val (.int v17), .val (.int v28), .val (.int v39), .val (.int z63_s0), .val (.int v74), .val (.int v86), .val (.int v98), .val (.int v104), .unset, .unset, .unset] [(.int v6), (.int (0 : Int32)), (.ref b92), (.ref b92), (.ref b91), (.ref b91)])) _
        refine st94 _ ?_
        show Steps p.tables e below (T94.setTop (mkF m 140 #[.val (.int p1), .val (.int p2), .val (.int p3), .val (.int p4), .val (.int v6), .val (.int v17), .val (.int v28), .val (.int v39), .val (.int z63_s0), .val (.int v74), .val (.int v86), .val (.int v98), .val (.int v104), .unset, .unset, .unset] [(.ref b92), (.ref b91), (.ref b91)])) _
        refine XS.dup X94.here hx rfl (hb hby at_140) rfl rfl ?_
        show Steps p.tables e below (T94.setTop (mkF m 141 #[.val (.int p1), .val (.int p2), .val (.int p3), .val (.int p4), .val (.int v6), .val (.int v17), .val (.int v28), .val (.int v39), .val (.int z63_s0), .val (.int v74), .val (.int v86), .val (.int v98), .val (.int v104), .unset, .unset, .unset] [(.ref b92), (.ref b92), (.ref b91), (.ref b91)])) _
        refine XS.iconst X94.here hx rfl (hb hby at_141) ?_
        show Steps p.tables e below (T94.setTop (mkF m 142 #[.val (.int p1), .val (.int p2), .val (.int p3), .val (.int p4), .val (.int v6), .val (.int v17), .val (.int v28), .val (.int v39), .val (.int z63_s0), .val (.int v74), .val (.int v86), .val (.int v98), .val (.int v104), .unset, .unset, .unset] [(.int (1 : Int32)), (.ref b92), (.ref b92), (.ref b91), (.ref b91)])) _
        refine XS.iload X94.here hx rfl (hb hby at_142) rfl ?_
        show Steps p.tables e below (T94.setTop (mkF m 144 #[.val (.int p1), .val (.int p2), .val (.int p3), .val (.int p4), .val (.int v6), .val (.int v17), .val (.int v28), .val (.int v39), .val (.int z63_s0), .val (.int v74), .val (.int v86), .val (.int v98), .val (.int v104), .unset, .unset, .unset] [(.int v17), (.int (1 : Int32)), (.ref b92), (.ref b92), (.ref b91), (.ref b91)])) _
        refine st96 _ ?_
        show Steps p.tables e below (T96.setTop (mkF m 145 #[.val (.int p1), .val (.int p2), .val (.int p3), .val (.int p4), .val (.int v6), .val (.int v17), .val (.int v28), .val (.int v39), .val (.int z63_s0), .val (.int v74), .val (.int v86), .val (.int v98), .val (.int v104), .unset, .unset, .unset] [(.ref b92), (.ref b91), (.ref b91)])) _
        refine XS.dup X96.here hx rfl (hb hby at_145) rfl rfl ?_
        show Steps p.tables e below (T96.setTop (mkF m 146 #[.val (.int p1), .val (.int p2), .val (.int p3), .val (.int p4), .val (.int v6), .val (.int v17), .val (.int v28), .val (.int v39), .val (.int z63_s0), .val (.int v74), .val (.int v86), .val (.int v98), .val (.int v104), .unset, .unset, .unset] [(.ref b92), (.ref b92), (.ref b91), (.ref b91)])) _
        refine XS.iconst X96.here hx rfl (hb hby at_146) ?_
        show Steps p.tables e below (T96.setTop (mkF m 147 #[.val (.int p1), .val (.int p2), .val (.int p3), .val (.int p4), .val (.int v6), .val (.int v17), .val (.int v28), .val (.int v39), .val (.int z63_s0), .val (.int v74), .val (.int v86), .val (.int v98), .val (.int v104), .unset, .unset, .unset] [(.int (2 : Int32)), (.ref b92), (.ref b92), (.ref b91), (.ref b91)])) _
        refine XS.iload X96.here hx rfl (hb hby at_147) rfl ?_
        show Steps p.tables e below (T96.setTop (mkF m 149 #[.val (.int p1), .val (.int p2), .val (.int p3), .val (.int p4), .val (.int v6), .val (.int v17), .val (.int v28), .val (.int v39), .val (.int z63_s0), .val (.int v74), .val (.int v86), .val (.int v98), .val (.int v104), .unset, .unset, .unset] [(.int v28), (.int (2 : Int32)), (.ref b92), (.ref b92), (.ref b91), (.ref b91)])) _
        refine st98 _ ?_
        show Steps p.tables e below (T98.setTop (mkF m 150 #[.val (.int p1), .val (.int p2), .val (.int p3), .val (.int p4), .val (.int v6), .val (.int v17), .val (.int v28), .val (.int v39), .val (.int z63_s0), .val (.int v74), .val (.int v86), .val (.int v98), .val (.int v104), .unset, .unset, .unset] [(.ref b92), (.ref b91), (.ref b91)])) _
        refine XS.dup X98.here hx rfl (hb hby at_150) rfl rfl ?_
        show Steps p.tables e below (T98.setTop (mkF m 151 #[.val (.int p1), .val (.int p2), .val (.int p3), .val (.int p4), .val (.int v6), .val (.int v17), .val (.int v28), .val (.int v39), .val (.int z63_s0), .val (.int v74), .val (.int v86), .val (.int v98), .val (.int v104), .unset, .unset, .unset] [(.ref b92), (.ref b92), (.ref b91), (.ref b91)])) _
        refine XS.iconst X98.here hx rfl (hb hby at_151) ?_
        show Steps p.tables e below (T98.setTop (mkF m 152 #[.val (.int p1), .val (.int p2), .val (.int p3), .val (.int p4), .val (.int v6), .val (.int v17), .val (.int v28), .val (.int v39), .val (.int z63_s0), .val (.int v74), .val (.int v86), .val (.int v98), .val (.int v104), .unset, .unset, .unset] [(.int (3 : Int32)), (.ref b92), (.ref b92), (.ref b91), (.ref b91)])) _
        refine XS.iload X98.here hx rfl (hb hby at_152) rfl ?_
        show Steps p.tables e below (T98.setTop (mkF m 154 #[.val (.int p1), .val (.int p2), .val (.int p3), .val (.int p4), .val (.int v6), .val (.int v17), .val (.int v28), .val (.int v39), .val (.int z63_s0), .val (.int v74), .val (.int v86), .val (.int v98), .val (.int v104), .unset, .unset, .unset] [(.int v39), (.int (3 : Int32)), (.ref b92), (.ref b92), (.ref b91), (.ref b91)])) _
        refine st100 _ ?_
        show Steps p.tables e below (T100.setTop (mkF m 155 #[.val (.int p1), .val (.int p2), .val (.int p3), .val (.int p4), .val (.int v6), .val (.int v17), .val (.int v28), .val (.int v39), .val (.int z63_s0), .val (.int v74), .val (.int v86), .val (.int v98), .val (.int v104), .unset, .unset, .unset] [(.ref b92), (.ref b91), (.ref b91)])) _
        refine XS.dup X100.here hx rfl (hb hby at_155) rfl rfl ?_
        show Steps p.tables e below (T100.setTop (mkF m 156 #[.val (.int p1), .val (.int p2), .val (.int p3), .val (.int p4), .val (.int v6), .val (.int v17), .val (.int v28), .val (.int v39), .val (.int z63_s0), .val (.int v74), .val (.int v86), .val (.int v98), .val (.int v104), .unset, .unset, .unset] [(.ref b92), (.ref b92), (.ref b91), (.ref b91)])) _
        refine XS.iconst X100.here hx rfl (hb hby at_156) ?_
        show Steps p.tables e below (T100.setTop (mkF m 157 #[.val (.int p1), .val (.int p2), .val (.int p3), .val (.int p4), .val (.int v6), .val (.int v17), .val (.int v28), .val (.int v39), .val (.int z63_s0), .val (.int v74), .val (.int v86), .val (.int v98), .val (.int v104), .unset, .unset, .unset] [(.int (4 : Int32)), (.ref b92), (.ref b92), (.ref b91), (.ref b91)])) _
        refine XS.iload X100.here hx rfl (hb hby at_157) rfl ?_
        show Steps p.tables e below (T100.setTop (mkF m 159 #[.val (.int p1), .val (.int p2), .val (.int p3), .val (.int p4), .val (.int v6), .val (.int v17), .val (.int v28), .val (.int v39), .val (.int z63_s0), .val (.int v74), .val (.int v86), .val (.int v98), .val (.int v104), .unset, .unset, .unset] [(.int z63_s0), (.int (4 : Int32)), (.ref b92), (.ref b92), (.ref b91), (.ref b91)])) _
        refine st102 _ ?_
        show Steps p.tables e below (T102.setTop (mkF m 160 #[.val (.int p1), .val (.int p2), .val (.int p3), .val (.int p4), .val (.int v6), .val (.int v17), .val (.int v28), .val (.int v39), .val (.int z63_s0), .val (.int v74), .val (.int v86), .val (.int v98), .val (.int v104), .unset, .unset, .unset] [(.ref b92), (.ref b91), (.ref b91)])) _
        refine XS.dup X102.here hx rfl (hb hby at_160) rfl rfl ?_
        show Steps p.tables e below (T102.setTop (mkF m 161 #[.val (.int p1), .val (.int p2), .val (.int p3), .val (.int p4), .val (.int v6), .val (.int v17), .val (.int v28), .val (.int v39), .val (.int z63_s0), .val (.int v74), .val (.int v86), .val (.int v98), .val (.int v104), .unset, .unset, .unset] [(.ref b92), (.ref b92), (.ref b91), (.ref b91)])) _
        refine XS.iconst X102.here hx rfl (hb hby at_161) ?_
        show Steps p.tables e below (T102.setTop (mkF m 162 #[.val (.int p1), .val (.int p2), .val (.int p3), .val (.int p4), .val (.int v6), .val (.int v17), .val (.int v28), .val (.int v39), .val (.int z63_s0), .val (.int v74), .val (.int v86), .val (.int v98), .val (.int v104), .unset, .unset, .unset] [(.int (5 : Int32)), (.ref b92), (.ref b92), (.ref b91), (.ref b91)])) _
        refine XS.iload X102.here hx rfl (hb hby at_162) rfl ?_
        show Steps p.tables e below (T102.setTop (mkF m 164 #[.val (.int p1), .val (.int p2), .val (.int p3), .val (.int p4), .val (.int v6), .val (.int v17), .val (.int v28), .val (.int v39), .val (.int z63_s0), .val (.int v74), .val (.int v86), .val (.int v98), .val (.int v104), .unset, .unset, .unset] [(.int v74), (.int (5 : Int32)), (.ref b92), (.ref b92), (.ref b91), (.ref b91)])) _
        refine st104 _ ?_
        show Steps p.tables e below (T104.setTop (mkF m 165 #[.val (.int p1), .val (.int p2), .val (.int p3), .val (.int p4), .val (.int v6), .val (.int v17), .val (.int v28), .val (.int v39), .val (.int z63_s0), .val (.int v74), .val (.int v86), .val (.int v98), .val (.int v104), .unset, .unset, .unset] [(.ref b92), (.ref b91), (.ref b91)])) _
        refine st105.trans ?_
        show Steps p.tables e below (T105.setTop (mkF m 168 #[.val (.int p1), .val (.int p2), .val (.int p3), .val (.int p4), .val (.int v6), .val (.int v17), .val (.int v28), .val (.int v39), .val (.int z63_s0), .val (.int v74), .val (.int v86), .val (.int v98), .val (.int v104), .unset, .unset, .unset] [(.ref b91)])) _
        refine XS.astore X105.here hx rfl (hb hby at_168) rfl rfl (l' := #[.val (.int p1), .val (.int p2), .val (.int p3), .val (.int p4), .val (.int v6), .val (.int v17), .val (.int v28), .val (.int v39), .val (.int z63_s0), .val (.int v74), .val (.int v86), .val (.int v98), .val (.int v104), .val (.ref b91), .unset, .unset]) rfl ?_
        show Steps p.tables e below (T105.setTop (mkF m 170 #[.val (.int p1), .val (.int p2), .val (.int p3), .val (.int p4), .val (.int v6), .val (.int v17), .val (.int v28), .val (.int v39), .val (.int z63_s0), .val (.int v74), .val (.int v86), .val (.int v98), .val (.int v104), .val (.ref b91), .unset, .unset] [])) _
        refine XS.bipush X105.here hx rfl (hb hby at_170) ?_
        show Steps p.tables e below (T105.setTop (mkF m 172 #[.val (.int p1), .val (.int p2), .val (.int p3), .val (.int p4), .val (.int v6), .val (.int v17), .val (.int v28), .val (.int v39), .val (.int z63_s0), .val (.int v74), .val (.int v86), .val (.int v98), .val (.int v104), .val (.ref b91), .unset, .unset] [(.int (6 : Int32))])) _
        refine XS.istore X105.here hx rfl (hb hby at_172) rfl (l' := #[.val (.int p1), .val (.int p2), .val (.int p3), .val (.int p4), .val (.int v6), .val (.int v17), .val (.int v28), .val (.int v39), .val (.int z63_s0), .val (.int v74), .val (.int v86), .val (.int v98), .val (.int v104), .val (.ref b91), .val (.int (6 : Int32)), .unset]) rfl ?_
        show Steps p.tables e below (T105.setTop (mkF m 174 #[.val (.int p1), .val (.int p2), .val (.int p3), .val (.int p4), .val (.int v6), .val (.int v17), .val (.int v28), .val (.int v39), .val (.int z63_s0), .val (.int v74), .val (.int v86), .val (.int v98), .val (.int v104), .val (.ref b91), .val (.int (6 : Int32)), .unset] [])) _
        refine XS.goto X105.here hx rfl (pc0 := 174) (pc' := 298) rfl (hb hby at_174) (by decide) (by decide) ?_
        show Steps p.tables e below (T105.setTop (mkF m 298 #[.val (.int p1), .val (.int p2), .val (.int p3), .val (.int p4), .val (.int v6), .val (.int v17), .val (.int v28), .val (.int v39), .val (.int z63_s0), .val (.int v74), .val (.int v86), .val (.int v98), .val (.int v104), .val (.ref b91), .val (.int (6 : Int32)), .unset] [])) _
        refine XS.iload X105.here hx rfl (hb hby at_298) rfl ?_
        show Steps p.tables e below (T105.setTop (mkF m 300 #[.val (.int p1), .val (.int p2), .val (.int p3), .val (.int p4), .val (.int v6), .val (.int v17), .val (.int v28), .val (.int v39), .val (.int z63_s0), .val (.int v74), .val (.int v86), .val (.int v98), .val (.int v104), .val (.ref b91), .val (.int (6 : Int32)), .unset] [(.int (6 : Int32))])) _
        refine XS.iload X105.here hx rfl (hb hby at_300) rfl ?_
        show Steps p.tables e below (T105.setTop (mkF m 302 #[.val (.int p1), .val (.int p2), .val (.int p3), .val (.int p4), .val (.int v6), .val (.int v17), .val (.int v28), .val (.int v39), .val (.int z63_s0), .val (.int v74), .val (.int v86), .val (.int v98), .val (.int v104), .val (.ref b91), .val (.int (6 : Int32)), .unset] [(.int v6), (.int (6 : Int32))])) _
        refine XS.iload X105.here hx rfl (hb hby at_302) rfl ?_
        show Steps p.tables e below (T105.setTop (mkF m 304 #[.val (.int p1), .val (.int p2), .val (.int p3), .val (.int p4), .val (.int v6), .val (.int v17), .val (.int v28), .val (.int v39), .val (.int z63_s0), .val (.int v74), .val (.int v86), .val (.int v98), .val (.int v104), .val (.ref b91), .val (.int (6 : Int32)), .unset] [(.int v17), (.int v6), (.int (6 : Int32))])) _
        refine XS.iload X105.here hx rfl (hb hby at_304) rfl ?_
        show Steps p.tables e below (T105.setTop (mkF m 306 #[.val (.int p1), .val (.int p2), .val (.int p3), .val (.int p4), .val (.int v6), .val (.int v17), .val (.int v28), .val (.int v39), .val (.int z63_s0), .val (.int v74), .val (.int v86), .val (.int v98), .val (.int v104), .val (.ref b91), .val (.int (6 : Int32)), .unset] [(.int v28), (.int v17), (.int v6), (.int (6 : Int32))])) _
        refine XS.iload X105.here hx rfl (hb hby at_306) rfl ?_
        show Steps p.tables e below (T105.setTop (mkF m 308 #[.val (.int p1), .val (.int p2), .val (.int p3), .val (.int p4), .val (.int v6), .val (.int v17), .val (.int v28), .val (.int v39), .val (.int z63_s0), .val (.int v74), .val (.int v86), .val (.int v98), .val (.int v104), .val (.ref b91), .val (.int (6 : Int32)), .unset] [(.int v39), (.int v28), (.int v17), (.int v6), (.int (6 : Int32))])) _
        refine XS.iload X105.here hx rfl (hb hby at_308) rfl ?_
        show Steps p.tables e below (T105.setTop (mkF m 310 #[.val (.int p1), .val (.int p2), .val (.int p3), .val (.int p4), .val (.int v6), .val (.int v17), .val (.int v28), .val (.int v39), .val (.int z63_s0), .val (.int v74), .val (.int v86), .val (.int v98), .val (.int v104), .val (.ref b91), .val (.int (6 : Int32)), .unset] [(.int z63_s0), (.int v39), (.int v28), (.int v17), (.int v6), (.int (6 : Int32))])) _
        refine XS.iload X105.here hx rfl (hb hby at_310) rfl ?_
        show Steps p.tables e below (T105.setTop (mkF m 312 #[.val (.int p1), .val (.int p2), .val (.int p3), .val (.int p4), .val (.int v6), .val (.int v17), .val (.int v28), .val (.int v39), .val (.int z63_s0), .val (.int v74), .val (.int v86), .val (.int v98), .val (.int v104), .val (.ref b91), .val (.int (6 : Int32)), .unset] [(.int v74), (.int z63_s0), (.int v39), (.int v28), (.int v17), (.int v6), (.int (6 : Int32))])) _
        refine XS.iload X105.here hx rfl (hb hby at_312) rfl ?_
        show Steps p.tables e below (T105.setTop (mkF m 314 #[.val (.int p1), .val (.int p2), .val (.int p3), .val (.int p4), .val (.int v6), .val (.int v17), .val (.int v28), .val (.int v39), .val (.int z63_s0), .val (.int v74), .val (.int v86), .val (.int v98), .val (.int v104), .val (.ref b91), .val (.int (6 : Int32)), .unset] [(.int v86), (.int v74), (.int z63_s0), (.int v39), (.int v28), (.int v17), (.int v6), (.int (6 : Int32))])) _
        refine st106 _ ?_
        show Steps p.tables e below (T106.setTop (mkF m 317 #[.val (.int p1), .val (.int p2), .val (.int p3), .val (.int p4), .val (.int v6), .val (.int v17), .val (.int v28), .val (.int v39), .val (.int z63_s0), .val (.int v74), .val (.int v86), .val (.int v98), .val (.int v104), .val (.ref b91), .val (.int (6 : Int32)), .unset] [(.int (fRF (6 : Int32) v6 v17 v28 v39 z63_s0 v74 v86))])) _
        refine XS.istore X106.here hx rfl (hb hby at_317) rfl (l' := #[.val (.int p1), .val (.int p2), .val (.int p3), .val (.int p4), .val (.int v6), .val (.int v17), .val (.int v28), .val (.int v39), .val (.int z63_s0), .val (.int v74), .val (.int v86), .val (.int v98), .val (.int v104), .val (.ref b91), .val (.int (6 : Int32)), .val (.int (fRF (6 : Int32) v6 v17 v28 v39 z63_s0 v74 v86))]) rfl ?_
        rw [hv317] at k
        exact k)
      obtain ⟨_, _, ⟨T108, L108, k108, n108⟩, -, X108, h2108, g2108, ⟨Lc108, hQ108, l108, y108, z108, R108⟩, st108⟩ := callSS (s := (s.setVm s.vm)) X106 hx (y := (⟨"com/example/reta/reta/calendar/Months", "number", "(Ljava/lang/CharSequence;)I"⟩ : MethodName)) hown (mvT hZ (hw _ (List.mem_of_getElem? (i := 37) rfl))) (mvT hZ (hw _ (List.mem_of_getElem? (i := 38) rfl))) (mvT hZ (hw _ (List.mem_of_getElem? (i := 39) rfl))) (mvT hZ (hw _ (List.mem_of_getElem? (i := 40) rfl))) (by decide) (backOfSH (W := 0) (rmN6 l Z a0 hw [] b91 (nar .char v6) (nar .char v17) (nar .char v28) (nar .char v39) (nar .char z63_s0) (nar .char v74) zc fm T105.heap n0 Zs E_b91 T_b91 Ol S_COMPACT_STRINGS S_SIOOBE_FORMATTER hzc hfm S_HYPHEN) hZ (hw _ (List.mem_of_getElem? (i := 40) rfl)) (hw _ (List.mem_of_getElem? (i := 39) rfl)) (by decide) (by decide) hEL (CHv.ext Ol.2 hCH)) (g := (mkF m 321 #[.val (.int p1), .val (.int p2), .val (.int p3), .val (.int p4), .val (.int v6), .val (.int v17), .val (.int v28), .val (.int v39), .val (.int z63_s0), .val (.int v74), .val (.int v86), .val (.int v98), .val (.int v104), .val (.ref b91), .val (.int (6 : Int32)), .val (.int v317)] [(.ref b91)])) rfl (by rw [hml]; rfl) (argsL := [(.ref b91)]) (rest := []) (lenOf pd_6 rfl) rfl (by show 2 * 0 + _ ≤ _; exact Nat.le_of_eq rfl) (hb hby at_321) (fun _ _ => ⟨rfl, e106, (by decide : 3 + 2 ≤ _), (by decide : 16 + 32 ≤ _)⟩)
      dsimp only [Pt.U, Pt.locs, Pt.cells, Pt.slots] at X108 h2108 g2108 l108 y108 z108 st108 hQ108 R108
      subst l108 y108 z108
      obtain ⟨X108, hS108, hZ, hown⟩ := rebS ((State.WarmedH.refl s).since 0) (by rw [e106]; exact (Nat.zero_le _)) X108 h2108 g2108 hZ hown
      obtain ⟨rfl, N108q, K108⟩ := hQ108
      have Zs : n0 ≤ T108.heap.size := Nat.le_trans Zs K108.1
      have Ol : Old Z n0 T108.heap := Ol.keep K108 all0
      have E_b91 : Exa Z T108.heap b91 "java/lang/String" := E_b91.keep K108
      have E_b92 : Exa Z T108.heap b92 "[C" := E_b92.keep K108
      have T_b91 : Stx Z T108.heap b91 [(nar .char v6), (nar .char v17), (nar .char v28), (nar .char v39), (nar .char z63_s0), (nar .char v74)] := T_b91.keep K108
      have N108 := Fr.app N106 N108q
      have pre109 : ∀ t, Steps p.tables e below (T108.setTop (mkF m 326 #[.val (.int p1), .val (.int p2), .val (.int p3), .val (.int p4), .val (.int v6), .val (.int v17), .val (.int v28), .val (.int v39), .val (.int z63_s0), .val (.int v74), .val (.int v86), .val (.int v98), .val (.int v104), .val (.ref b91), .val (.int (6 : Int32)), .val (.int v317)] [(.int v317), (.int (-1 : Int32))])) t → Steps p.tables e below (s₁.setTop (entryFrame m #[(.int p1), (.int p2), (.int p3), (.int p4)] maxLocals)) t := fun t k => pre107 t (by
        show Steps p.tables e below (T106.setTop (mkF m 319 #[.val (.int p1), .val (.int p2), .val (.int p3), .val (.int p4), .val (.int v6), .val (.int v17), .val (.int v28), .val (.int v39), .val (.int z63_s0), .val (.int v74), .val (.int v86), .val (.int v98), .val (.int v104), .val (.ref b91), .val (.int (6 : Int32)), .val (.int v317)] [])) _
        refine XS.aload X106.here hx rfl (hb hby at_319) rfl rfl ?_
        show Steps p.tables e below (T106.setTop (mkF m 321 #[.val (.int p1), .val (.int p2), .val (.int p3), .val (.int p4), .val (.int v6), .val (.int v17), .val (.int v28), .val (.int v39), .val (.int z63_s0), .val (.int v74), .val (.int v86), .val (.int v98), .val (.int v104), .val (.ref b91), .val (.int (6 : Int32)), .val (.int v317)] [(.ref b91)])) _
        refine st108.trans ?_
        show Steps p.tables e below (T108.setTop (mkF m 324 #[.val (.int p1), .val (.int p2), .val (.int p3), .val (.int p4), .val (.int v6), .val (.int v17), .val (.int v28), .val (.int v39), .val (.int z63_s0), .val (.int v74), .val (.int v86), .val (.int v98), .val (.int v104), .val (.ref b91), .val (.int (6 : Int32)), .val (.int v317)] [(.int (-1 : Int32))])) _
        refine XS.iload X108.here hx rfl (hb hby at_324) rfl ?_
        exact k)
      obtain ⟨z334_s0_2, hz334_s0_2⟩ : ∃ z : Int32, z = (if (-1 : Int32) = v317 then (1 : Int32) else (0 : Int32)) := ⟨_, rfl⟩
      obtain ⟨T112, Lc112, X112, e112, N112, pre112⟩ : ∃ (T' : State) (locs' : List Loc), Stand p l e room_1 (s.setVm T108.vm) m #[(.int p1), (.int p2), (.int p3), (.int p4)] below meth c T' locs' 5 48 ∧ T'.heap = T108.heap ∧ Fr n0 locs' ∧ ∀ t, Steps p.tables e below (T'.setTop (mkF m 334 #[.val (.int p1), .val (.int p2), .val (.int p3), .val (.int p4), .val (.int v6), .val (.int v17), .val (.int v28), .val (.int v39), .val (.int z63_s0), .val (.int v74), .val (.int v86), .val (.int v98), .val (.int v104), .val (.ref b91), .val (.int (6 : Int32)), .val (.int v317)] [(.int z334_s0_2)])) t → Steps p.tables e below (s₁.setTop (entryFrame m #[(.int p1), (.int p2), (.int p3), (.int p4)] maxLocals)) t := by
        by_cases hc326 : (-1 : Int32) = v317
        ·
          have pre110 : ∀ t, Steps p.tables e below (T108.setTop (mkF m 334 #[.val (.int p1), .val (.int p2), .val (.int p3), .val (.int p4), .val (.int v6), .val (.int v17), .val (.int v28), .val (.int v39), .val (.int z63_s0), .val (.int v74), .val (.int v86), .val (.int v98), .val (.int v104), .val (.ref b91), .val (.int (6 : Int32)), .val (.int v317)] [(.int (1 : Int32))])) t → Steps p.tables e below (s₁.setTop (entryFrame m #[(.int p1), (.int p2), (.int p3), (.int p4)] maxLocals)) t := fun t k => pre109 t (by
            show Steps p.tables e below (T108.setTop (mkF m 326 #[.val (.int p1), .val (.int p2), .val (.int p3), .val (.int p4), .val (.int v6), .val (.int v17), .val (.int v28), .val (.int v39), .val (.int z63_s0), .val (.int v74), .val (.int v86), .val (.int v98), .val (.int v104), .val (.ref b91), .val (.int (6 : Int32)), .val (.int v317)] [(.int v317), (.int (-1 : Int32))])) _
            refine XS.icmpNo X108.here hx rfl (hb hby at_326) rfl (teq hc326).2 ?_
            show Steps p.tables e below (T108.setTop (mkF m 329 #[.val (.int p1), .val (.int p2), .val (.int p3), .val (.int p4), .val (.int v6), .val (.int v17), .val (.int v28), .val (.int v39), .val (.int z63_s0), .val (.int v74), .val (.int v86), .val (.int v98), .val (.int v104), .val (.ref b91), .val (.int (6 : Int32)), .val (.int v317)] [])) _
            refine XS.iconst X108.here hx rfl (hb hby at_329) ?_
            show Steps p.tables e below (T108.setTop (mkF m 330 #[.val (.int p1), .val (.int p2), .val (.int p3), .val (.int p4), .val (.int v6), .val (.int v17), .val (.int v28), .val (.int v39), .val (.int z63_s0), .val (.int v74), .val (.int v86), .val (.int v98), .val (.int v104), .val (.ref b91), .val (.int (6 : Int32)), .val (.int v317)] [(.int (1 : Int32))])) _
            refine XS.goto X108.here hx rfl (pc0 := 330) (pc' := 334) rfl (hb hby at_330) (by decide) (by decide) ?_
            exact k)
          have q_z334_s0_2 : z334_s0_2 = (1 : Int32) := by rw [hz334_s0_2, if_pos hc326]
          refine ⟨_, _, X108, rfl, N108, fun t k => ?_⟩
          rw [q_z334_s0_2] at k
          exact pre110 t k
        ·
          have pre111 : ∀ t, Steps p.tables e below (T108.setTop (mkF m 334 #[.val (.int p1), .val (.int p2), .val (.int p3), .val (.int p4), .val (.int v6), .val (.int v17), .val (.int v28), .val (.int v39), .val (.int z63_s0), .val (.int v74), .val (.int v86), .val (.int v98), .val (.int v104), .val (.ref b91), .val (.int (6 : Int32)), .val (.int v317)] [(.int (0 : Int32))])) t → Steps p.tables e below (s₁.setTop (entryFrame m #[(.int p1), (.int p2), (.int p3), (.int p4)] maxLocals)) t := fun t k => pre109 t (by
            show Steps p.tables e below (T108.setTop (mkF m 326 #[.val (.int p1), .val (.int p2), .val (.int p3), .val (.int p4), .val (.int v6), .val (.int v17), .val (.int v28), .val (.int v39), .val (.int z63_s0), .val (.int v74), .val (.int v86), .val (.int v98), .val (.int v104), .val (.ref b91), .val (.int (6 : Int32)), .val (.int v317)] [(.int v317), (.int (-1 : Int32))])) _
            refine XS.icmpYes X108.here hx rfl (pc0 := 326) (pc' := 333) rfl (hb hby at_326) rfl (feq hc326).2 (by decide) (by decide) ?_
            show Steps p.tables e below (T108.setTop (mkF m 333 #[.val (.int p1), .val (.int p2), .val (.int p3), .val (.int p4), .val (.int v6), .val (.int v17), .val (.int v28), .val (.int v39), .val (.int z63_s0), .val (.int v74), .val (.int v86), .val (.int v98), .val (.int v104), .val (.ref b91), .val (.int (6 : Int32)), .val (.int v317)] [])) _
            refine XS.iconst X108.here hx rfl (hb hby at_333) ?_
            exact k)
          have q_z334_s0_2 : z334_s0_2 = (0 : Int32) := by rw [hz334_s0_2, if_neg hc326]
          refine ⟨_, _, X108, rfl, N108, fun t k => ?_⟩
          rw [q_z334_s0_2] at k
          exact pre111 t k
      obtain rfl : z334_s0_2 = (1 : Int32) := own_lawo (by decide) hv317 hz334_s0_2
      obtain ⟨fs, hr, hrun, hended, hRW⟩ := X112.leaveW (s := s) (vm₁ := T108.vm) hS108 (by rw [e112]; exact (Nat.le_refl _)) (v := some (.int (1 : Int32))) (fun h => by rw [Bd.returns] at h; cases h)
      have hCR := trivial
      refine ⟨_, _, pre112 _ ?_, hrun, hended, _, _, rfl, ?_, ⟨hRW.1, hRW.2.1, hRW.2.2.1, hRW.2.2.2.mono (by decide) (by decide)⟩⟩
      · show Steps p.tables e below (T112.setTop (mkF m 334 #[.val (.int p1), .val (.int p2), .val (.int p3), .val (.int p4), .val (.int v6), .val (.int v17), .val (.int v28), .val (.int v39), .val (.int z63_s0), .val (.int v74), .val (.int v86), .val (.int v98), .val (.int v104), .val (.ref b91), .val (.int (6 : Int32)), .val (.int v317)] [(.int (1 : Int32))])) _
        exact retN X112 hx (t := .boolean) Bd.returns (by simp) (hb hby at_334) hr
      · show Q0 Z p1 p2 p3 p4 zc fm h0 n0 _ T112.heap _
        rw [e112]
        exact ⟨rfl, N112⟩
    ·
      have pre113 : ∀ t, Steps p.tables e below (T78.setTop (mkF m 180 #[.val (.int p1), .val (.int p2), .val (.int p3), .val (.int p4), .val (.int v6), .val (.int v17), .val (.int v28), .val (.int v39), .val (.int z63_s0), .val (.int v74), .val (.int v86), .val (.int v98), .val (.int v104), .unset, .unset, .unset] [(.int (2 : Int32)), (.int v104)])) t → Steps p.tables e below (s₁.setTop (entryFrame m #[(.int p1), (.int p2), (.int p3), (.int p4)] maxLocals)) t := fun t k => pre90 t (by
        show Steps p.tables e below (T78.setTop (mkF m 124 #[.val (.int p1), .val (.int p2), .val (.int p3), .val (.int p4), .val (.int v6), .val (.int v17), .val (.int v28), .val (.int v39), .val (.int z63_s0), .val (.int v74), .val (.int v86), .val (.int v98), .val (.int v104), .unset, .unset, .unset] [(.int (1 : Int32)), (.int v104)])) _
        refine XS.icmpYes X78.here hx rfl (pc0 := 124) (pc' := 177) rfl (hb hby at_124) rfl (feq hc124).2 (by decide) (by decide) ?_
        show Steps p.tables e below (T78.setTop (mkF m 177 #[.val (.int p1), .val (.int p2), .val (.int p3), .val (.int p4), .val (.int v6), .val (.int v17), .val (.int v28), .val (.int v39), .val (.int z63_s0), .val (.int v74), .val (.int v86), .val (.int v98), .val (.int v104), .unset, .unset, .unset] [])) _
        refine XS.iload X78.here hx rfl (hb hby at_177) rfl ?_
        show Steps p.tables e below (T78.setTop (mkF m 179 #[.val (.int p1), .val (.int p2), .val (.int p3), .val (.int p4), .val (.int v6), .val (.int v17), .val (.int v28), .val (.int v39), .val (.int z63_s0), .val (.int v74), .val (.int v86), .val (.int v98), .val (.int v104), .unset, .unset, .unset] [(.int v104)])) _
        refine XS.iconst X78.here hx rfl (hb hby at_179) ?_
        exact k)
      by_cases hc180 : v104 = (2 : Int32)
      ·
        obtain ⟨T114, h114, X114, e114, E114, A114, D114, -, st114⟩ := newO X78 hx hZ hown (hw _ (List.mem_of_getElem? (i := 4) rfl)) (hw _ (List.mem_of_getElem? (i := 5) rfl)) (hw _ (List.mem_of_getElem? (i := 6) rfl)) e78 (g := (mkF m 183 #[.val (.int p1), .val (.int p2), .val (.int p3), .val (.int p4), .val (.int v6), .val (.int v17), .val (.int v28), .val (.int v39), .val (.int z63_s0), .val (.int v74), .val (.int v86), .val (.int v98), .val (.int v104), .unset, .unset, .unset] [])) rfl (hb hby at_183) (by decide) (by decide)
        obtain ⟨b114, g114⟩ : ∃ z, z = h0.size := ⟨_, rfl⟩
        rw [← g114] at A114 D114 st114
        have g_b114 : n0 ≤ b114 := Nat.le_trans Zs (Nat.le_of_eq g114.symm)
        have Zs : n0 ≤ h114.size := Nat.le_trans Zs E114.1
        have Ol : Old Z n0 h114 := Ol.ext E114
        have E_b114 : Exa Z h114 b114 "java/lang/String" := A114
        have F_coder_b114 : Fld Z h114 b114 "java/lang/String" "coder" "B" (.int (0 : Int32)) := D114 (Or.inr (hw _ (List.mem_of_getElem? (i := 31) rfl))) (ty := .byte) (by decide)
        have F_value_b114 : Fld Z h114 b114 "java/lang/String" "value" "[B" .null := D114 (Or.inr (hw _ (List.mem_of_getElem? (i := 33) rfl))) (ty := (.array .byte)) (by decide)
        obtain ⟨T115, h115, k115, X115, e115, E115, A115, B115, st115⟩ := newPE X114 hx hZ (hw _ (List.mem_of_getElem? (i := 7) rfl)) e114 (g := (mkF m 189 #[.val (.int p1), .val (.int p2), .val (.int p3), .val (.int p4), .val (.int v6), .val (.int v17), .val (.int v28), .val (.int v39), .val (.int z63_s0), .val (.int v74), .val (.int v86), .val (.int v98), .val (.int v104), .unset, .unset, .unset] [(.int (8 : Int32)), (.ref b114), (.ref b114)])) rfl (hb hby at_189) rfl (by decide) (cap := 8) (by decide) (by decide) (by decide) (by decide) (ad := "[C") (by decide)
        obtain ⟨b115, g115⟩ : ∃ z, z = h114.size := ⟨_, rfl⟩
        rw [← g115] at A115 B115 st115
        have g_b115 : n0 ≤ b115 := Nat.le_trans Zs (Nat.le_of_eq g115.symm)
        have ne_b114_b115 : b114 ≠ b115 := Nat.ne_of_lt (Nat.lt_of_lt_of_le E_b114.lt (Nat.le_of_eq g115.symm))
        have Zs : n0 ≤ h115.size := Nat.le_trans Zs E115.1
        have Ol : Old Z n0 h115 := Ol.ext E115
        have E_b114 : Exa Z h115 b114 "java/lang/String" := E_b114.ext E115
        have F_coder_b114 : Fld Z h115 b114 "java/lang/String" "coder" "B" (.int (0 : Int32)) := F_coder_b114.ext E115
        have F_value_b114 : Fld Z h115 b114 "java/lang/String" "value" "[B" .null := F_value_b114.ext E115
        have E_b115 : Exa Z h115 b115 "[C" := B115
        have V_b115 : Arv Z h115 b115 k115 .char (8 : Int32) [(.int (0 : Int32)), (.int (0 : Int32)), (.int (0 : Int32)), (.int (0 : Int32)), (.int (0 : Int32)), (.int (0 : Int32)), (.int (0 : Int32)), (.int (0 : Int32))] (.int (0 : Int32)) := (Arv.new A115 (by decide)).pad (pad_rep [] (.int (0 : Int32)) 8)
        obtain ⟨cl116, Ar116, q116, S116, M116, H116, G116⟩ := V_b115
        obtain ⟨T117, h117, X117, e117, W117, st117⟩ := stC X115 hx hZ e115 Ar116 (j := (0 : Int32)) (inb_of S116 (by decide)) (g := (mkF m 195 #[.val (.int p1), .val (.int p2), .val (.int p3), .val (.int p4), .val (.int v6), .val (.int v17), .val (.int v28), .val (.int v39), .val (.int z63_s0), .val (.int v74), .val (.int v86), .val (.int v98), .val (.int v104), .unset, .unset, .unset] [(.int v6), (.int (0 : Int32)), (.ref b115), (.ref b115), (.ref b114), (.ref b114)])) rfl rfl (hb hby at_195)
        have N117 := Fr.snoc X117 N78 g_b115
        have Zs : n0 ≤ h117.size := Nat.le_trans Zs (Keep.of_wr W117).1
        have Ol : Old Z n0 h117 := Ol.wr W117 g_b115
        have E_b114 : Exa Z h117 b114 "java/lang/String" := E_b114.wr W117
        have F_coder_b114 : Fld Z h117 b114 "java/lang/String" "coder" "B" (.int (0 : Int32)) := F_coder_b114.other W117 (Or.inl ne_b114_b115)
        have F_value_b114 : Fld Z h117 b114 "java/lang/String" "value" "[B" .null := F_value_b114.other W117 (Or.inl ne_b114_b115)
        have E_b115 : Exa Z h117 b115 "[C" := E_b115.wr W117
        have V_b115 : Arv Z h117 b115 k115 .char (8 : Int32) [(.int (nar .char v6)), (.int (0 : Int32)), (.int (0 : Int32)), (.int (0 : Int32)), (.int (0 : Int32)), (.int (0 : Int32)), (.int (0 : Int32)), (.int (0 : Int32))] (.int (0 : Int32)) := Arv.set Ar116 q116 S116 M116 H116 G116 (fits_nar_char _) W117 0 rfl (Nat.le_of_ble_eq_true rfl)
        obtain ⟨cl118, Ar118, q118, S118, M118, H118, G118⟩ := V_b115
        obtain ⟨T119, h119, X119, e119, W119, st119⟩ := stC X117 hx hZ e117 Ar118 (j := (1 : Int32)) (inb_of S118 (by decide)) (g := (mkF m 200 #[.val (.int p1), .val (.int p2), .val (.int p3), .val (.int p4), .val (.int v6), .val (.int v17), .val (.int v28), .val (.int v39), .val (.int z63_s0), .val (.int v74), .val (.int v86), .val (.int v98), .val (.int v104), .unset, .unset, .unset] [(.int v17), (.int (1 : Int32)), (.ref b115), (.ref b115), (.ref b114), (.ref b114)])) rfl rfl (hb hby at_200)
        have N119 := Fr.snoc X119 N117 g_b115
        have Zs : n0 ≤ h119.size := Nat.le_trans Zs (Keep.of_wr W119).1
        have Ol : Old Z n0 h119 := Ol.wr W119 g_b115
        have E_b114 : Exa Z h119 b114 "java/lang/String" := E_b114.wr W119
        have F_coder_b114 : Fld Z h119 b114 "java/lang/String" "coder" "B" (.int (0 : Int32)) := F_coder_b114.other W119 (Or.inl ne_b114_b115)
        have F_value_b114 : Fld Z h119 b114 "java/lang/String" "value" "[B" .null := F_value_b114.other W119 (Or.inl ne_b114_b115)
        have E_b115 : Exa Z h119 b115 "[C" := E_b115.wr W119
        have V_b115 : Arv Z h119 b115 k115 .char (8 : Int32) [(.int (nar .char v6)), (.int (nar .char v17)), (.int (0 : Int32)), (.int (0 : Int32)), (.int (0 : Int32)), (.int (0 : Int32)), (.int (0 : Int32)), (.int (0 : Int32))] (.int (0 : Int32)) := Arv.set Ar118 q118 S118 M118 H118 G118 (fits_nar_char _) W119 1 rfl (Nat.le_of_ble_eq_true rfl)
        obtain ⟨cl120, Ar120, q120, S120, M120, H120, G120⟩ := V_b115
        obtain ⟨T121, h121, X121, e121, W121, st121⟩ := stC X119 hx hZ e119 Ar120 (j := (2 : Int32)) (inb_of S120 (by decide)) (g := (mkF m 205 #[.val (.int p1), .val (.int p2), .val (.int p3), .val (.int p4), .val (.int v6), .val (.int v17), .val (.int v28), .val (.int v39), .val (.int z63_s0), .val (.int v74), .val (.int v86), .val (.int v98), .val (.int v104), .unset, .unset, .unset] [(.int v28), (.int (2 : Int32)), (.ref b115), (.ref b115), (.ref b114), (.ref b114)])) rfl rfl (hb hby at_205)
        have N121 := Fr.snoc X121 N119 g_b115
        have Zs : n0 ≤ h121.size := Nat.le_trans Zs (Keep.of_wr W121).1
        have Ol : Old Z n0 h121 := Ol.wr W121 g_b115
        have E_b114 : Exa Z h121 b114 "java/lang/String" := E_b114.wr W121
        have F_coder_b114 : Fld Z h121 b114 "java/lang/String" "coder" "B" (.int (0 : Int32)) := F_coder_b114.other W121 (Or.inl ne_b114_b115)
        have F_value_b114 : Fld Z h121 b114 "java/lang/String" "value" "[B" .null := F_value_b114.other W121 (Or.inl ne_b114_b115)
        have E_b115 : Exa Z h121 b115 "[C" := E_b115.wr W121
        have V_b115 : Arv Z h121 b115 k115 .char (8 : Int32) [(.int (nar .char v6)), (.int (nar .char v17)), (.int (nar .char v28)), (.int (0 : Int32)), (.int (0 : Int32)), (.int (0 : Int32)), (.int (0 : Int32)), (.int (0 : Int32))] (.int (0 : Int32)) := Arv.set Ar120 q120 S120 M120 H120 G120 (fits_nar_char _) W121 2 rfl (Nat.le_of_ble_eq_true rfl)
        obtain ⟨cl122, Ar122, q122, S122, M122, H122, G122⟩ := V_b115
        obtain ⟨T123, h123, X123, e123, W123, st123⟩ := stC X121 hx hZ e121 Ar122 (j := (3 : Int32)) (inb_of S122 (by decide)) (g := (mkF m 210 #[.val (.int p1), .val (.int p2), .val (.int p3), .val (.int p4), .val (.int v6), .val (.int v17), .val (.int v28), .val (.int v39), .val (.int z63_s0), .val (.int v74), .val (.int v86), .val (.int v98), .val (.int v104), .unset, .unset, .unset] [(.int v39), (.int (3 : Int32)), (.ref b115), (.ref b115), (.ref b114), (.ref b114)])) rfl rfl (hb hby at_210)
        have N123 := Fr.snoc X123 N121 g_b115
        have Zs : n0 ≤ h123.size := Nat.le_trans Zs (Keep.of_wr W123).1
        have Ol : Old Z n0 h123 := Ol.wr W123 g_b115
        have E_b114 : Exa Z h123 b114 "java/lang/String" := E_b114.wr W123
        have F_coder_b114 : Fld Z h123 b114 "java/lang/String" "coder" "B" (.int (0 : Int32)) := F_coder_b114.other W123 (Or.inl ne_b114_b115)
        have F_value_b114 : Fld Z h123 b114 "java/lang/String" "value" "[B" .null := F_value_b114.other W123 (Or.inl ne_b114_b115)
        have E_b115 : Exa Z h123 b115 "[C" := E_b115.wr W123
        have V_b115 : Arv Z h123 b115 k115 .char (8 : Int32) [(.int (nar .char v6)), (.int (nar .char v17)), (.int (nar .char v28)), (.int (nar .char v39)), (.int (0 : Int32)), (.int (0 : Int32)), (.int (0 : Int32)), (.int (0 : Int32))] (.int (0 : Int32)) := Arv.set Ar122 q122 S122 M122 H122 G122 (fits_nar_char _) W123 3 rfl (Nat.le_of_ble_eq_true rfl)
        obtain ⟨cl124, Ar124, q124, S124, M124, H124, G124⟩ := V_b115
        obtain ⟨T125, h125, X125, e125, W125, st125⟩ := stC X123 hx hZ e123 Ar124 (j := (4 : Int32)) (inb_of S124 (by decide)) (g := (mkF m 215 #[.val (.int p1), .val (.int p2), .val (.int p3), .val (.int p4), .val (.int v6), .val (.int v17), .val (.int v28), .val (.int v39), .val (.int z63_s0), .val (.int v74), .val (.int v86), .val (.int v98), .val (.int v104), .unset, .unset, .unset] [(.int z63_s0), (.int (4 : Int32)), (.ref b115), (.ref b115), (.ref b114), (.ref b114)])) rfl rfl (hb hby at_215)
        have N125 := Fr.snoc X125 N123 g_b115
        have Zs : n0 ≤ h125.size := Nat.le_trans Zs (Keep.of_wr W125).1
        have Ol : Old Z n0 h125 := Ol.wr W125 g_b115
        have E_b114 : Exa Z h125 b114 "java/lang/String" := E_b114.wr W125
        have F_coder_b114 : Fld Z h125 b114 "java/lang/String" "coder" "B" (.int (0 : Int32)) := F_coder_b114.other W125 (Or.inl ne_b114_b115)
        have F_value_b114 : Fld Z h125 b114 "java/lang/String" "value" "[B" .null := F_value_b114.other W125 (Or.inl ne_b114_b115)
        have E_b115 : Exa Z h125 b115 "[C" := E_b115.wr W125
        have V_b115 : Arv Z h125 b115 k115 .char (8 : Int32) [(.int (nar .char v6)), (.int (nar .char v17)), (.int (nar .char v28)), (.int (nar .char v39)), (.int (nar .char z63_s0)), (.int (0 : Int32)), (.int (0 : Int32)), (.int (0 : Int32))] (.int (0 : Int32)) := Arv.set Ar124 q124 S124 M124 H124 G124 (fits_nar_char _) W125 4 rfl (Nat.le_of_ble_eq_true rfl)
        obtain ⟨cl126, Ar126, q126, S126, M126, H126, G126⟩ := V_b115
        obtain ⟨T127, h127, X127, e127, W127, st127⟩ := stC X125 hx hZ e125 Ar126 (j := (5 : Int32)) (inb_of S126 (by decide)) (g := (mkF m 220 #[.val (.int p1), .val (.int p2), .val (.int p3), .val (.int p4), .val (.int v6), .val (.int v17), .val (.int v28), .val (.int v39), .val (.int z63_s0), .val (.int v74), .val (.int v86), .val (.int v98), .val (.int v104), .unset, .unset, .unset] [(.int v74), (.int (5 : Int32)), (.ref b115), (.ref b115), (.ref b114), (.ref b114)])) rfl rfl (hb hby at_220)
        have N127 := Fr.snoc X127 N125 g_b115
        have Zs : n0 ≤ h127.size := Nat.le_trans Zs (Keep.of_wr W127).1
        have Ol : Old Z n0 h127 := Ol.wr W127 g_b115
        have E_b114 : Exa Z h127 b114 "java/lang/String" := E_b114.wr W127
        have F_coder_b114 : Fld Z h127 b114 "java/lang/String" "coder" "B" (.int (0 : Int32)) := F_coder_b114.other W127 (Or.inl ne_b114_b115)
        have F_value_b114 : Fld Z h127 b114 "java/lang/String" "value" "[B" .null := F_value_b114.other W127 (Or.inl ne_b114_b115)
        have E_b115 : Exa Z h127 b115 "[C" := E_b115.wr W127
        have V_b115 : Arv Z h127 b115 k115 .char (8 : Int32) [(.int (nar .char v6)), (.int (nar .char v17)), (.int (nar .char v28)), (.int (nar .char v39)), (.int (nar .char z63_s0)), (.int (nar .char v74)), (.int (0 : Int32)), (.int (0 : Int32))] (.int (0 : Int32)) := Arv.set Ar126 q126 S126 M126 H126 G126 (fits_nar_char _) W127 5 rfl (Nat.le_of_ble_eq_true rfl)
        obtain ⟨cl128, Ar128, q128, S128, M128, H128, G128⟩ := V_b115
        obtain ⟨T129, h129, X129, e129, W129, st129⟩ := stC X127 hx hZ e127 Ar128 (j := (6 : Int32)) (inb_of S128 (by decide)) (g := (mkF m 226 #[.val (.int p1), .val (.int p2), .val (.int p3), .val (.int p4), .val (.int v6), .val (.int v17), .val (.int v28), .val (.int v39), .val (.int z63_s0), .val (.int v74), .val (.int v86), .val (.int v98), .val (.int v104), .unset, .unset, .unset] [(.int v86), (.int (6 : Int32)), (.ref b115), (.ref b115), (.ref b114), (.ref b114)])) rfl rfl (hb hby at_226)
        have N129 := Fr.snoc X129 N127 g_b115
        have Zs : n0 ≤ h129.size := Nat.le_trans Zs (Keep.of_wr W129).1
        have Ol : Old Z n0 h129 := Ol.wr W129 g_b115
        have E_b114 : Exa Z h129 b114 "java/lang/String" := E_b114.wr W129
        have F_coder_b114 : Fld Z h129 b114 "java/lang/String" "coder" "B" (.int (0 : Int32)) := F_coder_b114.other W129 (Or.inl ne_b114_b115)
        have F_value_b114 : Fld Z h129 b114 "java/lang/String" "value" "[B" .null := F_value_b114.other W129 (Or.inl ne_b114_b115)
        have E_b115 : Exa Z h129 b115 "[C" := E_b115.wr W129
        have V_b115 : Arv Z h129 b115 k115 .char (8 : Int32) [(.int (nar .char v6)), (.int (nar .char v17)), (.int (nar .char v28)), (.int (nar .char v39)), (.int (nar .char z63_s0)), (.int (nar .char v74)), (.int (nar .char v86)), (.int (0 : Int32))] (.int (0 : Int32)) := Arv.set Ar128 q128 S128 M128 H128 G128 (fits_nar_char _) W129 6 rfl (Nat.le_of_ble_eq_true rfl)
        obtain ⟨cl130, Ar130, q130, S130, M130, H130, G130⟩ := V_b115
        obtain ⟨T131, h131, X131, e131, W131, st131⟩ := stC X129 hx hZ e129 Ar130 (j := (7 : Int32)) (inb_of S130 (by decide)) (g := (mkF m 232 #[.val (.int p1), .val (.int p2), .val (.int p3), .val (.int p4), .val (.int v6), .val (.int v17), .val (.int v28), .val (.int v39), .val (.int z63_s0), .val (.int v74), .val (.int v86), .val (.int v98), .val (.int v104), .unset, .unset, .unset] [(.int v98), (.int (7 : Int32)), (.ref b115), (.ref b115), (.ref b114), (.ref b114)])) rfl rfl (hb hby at_232)
        have N131 := Fr.snoc X131 N129 g_b115
        have Zs : n0 ≤ h131.size := Nat.le_trans Zs (Keep.of_wr W131).1
        have Ol : Old Z n0 h131 := Ol.wr W131 g_b115
        have E_b114 : Exa Z h131 b114 "java/lang/String" := E_b114.wr W131
        have F_coder_b114 : Fld Z h131 b114 "java/lang/String" "coder" "B" (.int (0 : Int32)) := F_coder_b114.other W131 (Or.inl ne_b114_b115)
        have F_value_b114 : Fld Z h131 b114 "java/lang/String" "value" "[B" .null := F_value_b114.other W131 (Or.inl ne_b114_b115)
        have E_b115 : Exa Z h131 b115 "[C" := E_b115.wr W131
        have V_b115 : Arv Z h131 b115 k115 .char (8 : Int32) [(.int (nar .char v6)), (.int (nar .char v17)), (.int (nar .char v28)), (.int (nar .char v39)), (.int (nar .char z63_s0)), (.int (nar .char v74)), (.int (nar .char v86)), (.int (nar .char v98))] (.int (0 : Int32)) := Arv.set Ar130 q130 S130 M130 H130 G130 (fits_nar_char _) W131 7 rfl (Nat.le_of_ble_eq_true rfl)
        obtain ⟨_, _, ⟨T132, L132, k132, n132⟩, -, X132, ⟨Lc132, hQ132, l132, y132, z132⟩, st132⟩ := X131.specialBack hx (y := (⟨"java/lang/String", "<init>", "([C)V"⟩ : MethodName)) rfl hown (mvT hZ (hw _ (List.mem_of_getElem? (i := 8) rfl))) (mvT hZ (hw _ (List.mem_of_getElem? (i := 9) rfl))) (mvT hZ (hw _ (List.mem_of_getElem? (i := 10) rfl))) (by decide) (own_new (W := 1) hZ hw g_b114 Zs E_b114 F_value_b114 F_coder_b114 (cs := [(nar .char v6), (nar .char v17), (nar .char v28), (nar .char v39), (nar .char z63_s0), (nar .char v74), (nar .char v86), (nar .char v98)]) (n := 8) V_b115 (Sta.ext Ol.2 S_COMPACT_STRINGS) hzc rfl rfl (by decide) (by decide) (own_l8 B_v6 B_v17 B_v28 B_v39 B_z63_s0 B_v74 B_v86 B_v98) (by decide) (by decide)) (g := (mkF m 233 #[.val (.int p1), .val (.int p2), .val (.int p3), .val (.int p4), .val (.int v6), .val (.int v17), .val (.int v28), .val (.int v39), .val (.int z63_s0), .val (.int v74), .val (.int v86), .val (.int v98), .val (.int v104), .unset, .unset, .unset] [(.ref b115), (.ref b114), (.ref b114)])) rfl (by rw [hml]; rfl) (Steps.refl _) (a := b114) (argsL := [(.ref b115)]) (rest := [(.ref b114)]) (lenOf pd_7 rfl) rfl (by show 2 * 0 + _ ≤ _; exact Nat.le_of_eq rfl) (hb hby at_233) (fun _ _ => ⟨rfl, e131, (by decide : 2 + 1 ≤ _), (by decide : 12 + 8 ≤ _)⟩)
        dsimp only [Pt.U, Pt.locs, Pt.cells, Pt.slots] at X132 l132 y132 z132 st132 hQ132
        subst l132 y132 z132
        obtain ⟨rfl, N132q, K132, T132x⟩ := hQ132
        have Zs : n0 ≤ T132.heap.size := Nat.le_trans Zs K132.1
        have Ol : Old Z n0 T132.heap := Ol.keep K132 (allS g_b114 all0)
        have E_b114 : Exa Z T132.heap b114 "java/lang/String" := E_b114.keep K132
        have E_b115 : Exa Z T132.heap b115 "[C" := E_b115.keep K132
        have T_b114 : Stx Z T132.heap b114 [(nar .char v6), (nar .char v17), (nar .char v28), (nar .char v39), (nar .char z63_s0), (nar .char v74), (nar .char v86), (nar .char v98)] := T132x
        have N132 := Fr.app N131 N132q
        obtain ⟨_, _, ⟨T133, L133, k133, n133⟩, -, X133, ⟨Lc133, hQ133, l133, y133, z133⟩, st133⟩ := Jvm.LawKit.callS X132 hx (y := (⟨"com/example/reta/reta/calendar/MonthsNumberPinLaw", "reference", "(ICCCCCCC)I"⟩ : MethodName)) hown (mvT hZ (hw _ (List.mem_of_getElem? (i := 34) rfl))) (mvT hZ (hw _ (List.mem_of_getElem? (i := 35) rfl))) (mvT hZ (hw _ (List.mem_of_getElem? (i := 2) rfl))) (mvT hZ (hw _ (List.mem_of_getElem? (i := 36) rfl))) (by decide) (backOf (W := 0) (rmRF l Z a0 hw [] (8 : Int32) v6 v17 v28 v39 z63_s0 v74 v86 T132.heap n0 Zs ) hZ (hw _ (List.mem_of_getElem? (i := 36) rfl)) (hw _ (List.mem_of_getElem? (i := 2) rfl)) (by decide) (by decide)) (g := (mkF m 314 #[.val (.int p1), .val (.int p2), .val (.int p3), .val (.int p4), .val (.int v6), .val (.int v17), .val (.int v28), .val (.int v39), .val (.int z63_s0), .val (.int v74), .val (.int v86), .val (.int v98), .val (.int v104), .val (.ref b114), .val (.int (8 : Int32)), .unset] [(.int v86), (.int v74), (.int z63_s0), (.int v39), (.int v28), (.int v17), (.int v6), (.int (8 : Int32))])) rfl (by rw [hml]; rfl) (argsL := [(.int (8 : Int32)), (.int v6), (.int v17), (.int v28), (.int v39), (.int z63_s0), (.int v74), (.int v86)]) (rest := []) (lenOf pd_5 rfl) rfl (by show 2 * 0 + _ ≤ _; exact Nat.le_of_eq rfl) (hb hby at_314) (fun _ _ => ⟨rfl, rfl, (by decide : 3 + 0 ≤ _), (by decide : 20 + 0 ≤ _)⟩)
        dsimp only [Pt.U, Pt.locs, Pt.cells, Pt.slots] at X133 l133 y133 z133 st133 hQ133
        subst l133 y133 z133
        obtain ⟨rfl, N133q, e133⟩ := hQ133
        have N133 := Fr.app N132 N133q
        obtain ⟨v317, hv317⟩ : ∃ z : Int32, z = (fRF (8 : Int32) v6 v17 v28 v39 z63_s0 v74 v86) := ⟨_, rfl⟩
        have pre134 : ∀ t, Steps p.tables e below (T133.setTop (mkF m 319 #[.val (.int p1), .val (.int p2), .val (.int p3), .val (.int p4), .val (.int v6), .val (.int v17), .val (.int v28), .val (.int v39), .val (.int z63_s0), .val (.int v74), .val (.int v86), .val (.int v98), .val (.int v104), .val (.ref b114), .val (.int (8 : Int32)), .val (.int v317)] [])) t → Steps p.tables e below (s₁.setTop (entryFrame m #[(.int p1), (.int p2), (.int p3), (.int p4)] maxLocals)) t := fun t k => pre113 t (by
          show Steps p.tables e below (T78.setTop (mkF m 180 #[.val (.int p1), .val (.int p2), .val (.int p3), .val (.int p4), .val (.int v6), .val (.int v17), .val (.int v28), .val (.int v39), .val (.int z63_s0), .val (.int v74), .val (.int v86), .val (.int v98), .val (.int v104), .unset, .unset, .unset] [(.int (2 : Int32)), (.int v104)])) _
          refine XS.icmpNo X78.here hx rfl (hb hby at_180) rfl (teq hc180).2 ?_
          show Steps p.tables e below (T78.setTop (mkF m 183 #[.val (.int p1), .val (.int p2), .val (.int p3), .val (.int p4), .val (.int v6), .val (.int v17), .val (.int v28), .val (.int v39), .val (.int z63_s0), .val (.int v74), .val (.int v86), .val (.int v98), .val (.int v104), .unset, .unset, .unset] [])) _
          refine st114 _ ?_
          show Steps p.tables e below (T114.setTop (mkF m 186 #[.val (.int p1), .val (.int p2), .val (.int p3), .val (.int p4), .val (.int v6), .val (.int v17), .val (.int v28), .val (.int v39), .val (.int z63_s0), .val (.int v74), .val (.int v86), .val (.int v98), .val (.int v104), .unset, .unset, .unset] [(.ref b114)])) _
          refine XS.dup X114.here hx rfl (hb hby at_186) rfl rfl ?_
          show Steps p.tables e below (T114.setTop (mkF m 187 #[.val (.int p1), .val (.int p2), .val (.int p3), .val (.int p4), .val (.int v6), .val (.int v17), .val (.int v28), .val (.int v39), .val (.int z63_s0), .val (.int v74), .val (.int v86), .val (.int v98), .val (.int v104), .unset, .unset, .unset] [(.ref b114), (.ref b114)])) _
          refine XS.bipush X114.here hx rfl (hb hby at_187) ?_
          show Steps p.tables e below (T114.setTop (mkF m 189 #[.val (.int p1), .val (.int p2), .val (.int p3), .val (.int p4), .val (.int v6), .val (.int v17), .val (.int v28), .val (.int v39), .val (.int z63_s0), .val (.int v74), .val (.int v86), .val (.int v98), .val (.int v104), .unset, .unset, .unset] [(.int (8 : Int32)), (.ref b114), (.ref b114)])) _
          refine st115 _ ?_
          show Steps p.tables e below (T115.setTop (mkF m 191 #[.val (.int p1), .val (.int p2), .val (.int p3), .val (.int p4), .val (.int v6), .val (.int v17), .val (.int v28), .val (.int v39), .val (.int z63_s0), .val (.int v74), .val (.int v86), .val (.int v98), .val (.int v104), .unset, .unset, .unset] [(.ref b115), (.ref b114), (.ref b114)])) _
          refine XS.dup X115.here hx rfl (hb hby at_191) rfl rfl ?_
          show Steps p.tables e below (T115.setTop (mkF m 192 #[.val (.int p1), .val (.int p2), .val (.int p3), .val (.int p4), .val (.int v6), .val (.int v17), .val (.int v28), .val (.int v39), .val (.int z63_s0), .val (.int v74), .val (.int v86), .val (.int v98), .val (.int v104), .unset, .unset, .unset] [(.ref b115), (.ref b115), (.ref b114), (.ref b114)])) _
          refine XS.iconst X115.here hx rfl (hb hby at_192) ?_
          show Steps p.tables e below (T115.setTop (mkF m 193 #[.val (.int p1), .val (.int p2), .val (.int p3), .val (.int p4), .val (.int v6), .val (.int v17), .val (.int v28), .val (.int v39), .val (.int z63_s0), .val (.int v74), .val (.int v86), .val (.int v98), .val (.int v104), .unset, .unset, .unset] [(.int (0 : Int32)), (.ref b115), (.ref b115), (.ref b114), (.ref b114)])) _
          refine XS.iload X115.here hx rfl (hb hby at_193) rfl ?_
          show Steps p.tables e below (T115.setTop (mkF m 195 #[.val (.int p1), .val (.int p2), .val (.int p3), .val (.int p4), .val (.int v6), .val (.int v17), .val (.int v28), .val (.int v39), .val (.int z63_s0), .val (.int v74), .val (.int v86), .val (.int v98), .val (.int v104), .unset, .unset, .unset] [(.int v6), (.int (0 : Int32)), (.ref b115), (.ref b115), (.ref b114), (.ref b114)])) _
          refine st117 _ ?_
          show Steps p.tables e below (T117.setTop (mkF m 196 #[.val (.int p1), .val (.int p2), .val (.int p3), .val (.int p4), .val (.int v6), .val (.int v17), .val (.int v28), .val (.int v39), .val (.int z63_s0), .val (.int v74), .val (.int v86), .val (.int v98), .val (.int v104), .unset, .unset, .unset] [(.ref b115), (.ref b114), (.ref b114)])) _
          refine XS.dup X117.here hx rfl (hb hby at_196) rfl rfl ?_
          show Steps p.tables e below (T117.setTop (mkF m 197 #[.val (.int p1), .val (.int p2), .val (.int p3), .val (.int p4), .val (.int v6), .val (.int v17), .val (.int v28), .val (.int v39), .val (.int z63_s0), .val (.int v74), .val (.int v86), .val (.int v98), .val (.int v104), .unset, .unset, .unset] [(.ref b115), (.ref b115), (.ref b114), (.ref b114)])) _
          refine XS.iconst X117.here hx rfl (hb hby at_197) ?_
          show Steps p.tables e below (T117.setTop (mkF m 198 #[.val (.int p1), .val (.int p2), .val (.int p3), .val (.int p4), .val (.int v6), .val (.int v17), .val (.int v28), .val (.int v39), .val (.int z63_s0), .val (.int v74), .val (.int v86), .val (.int v98), .val (.int v104), .unset, .unset, .unset] [(.int (1 : Int32)), (.ref b115), (.ref b115), (.ref b114), (.ref b114)])) _
          refine XS.iload X117.here hx rfl (hb hby at_198) rfl ?_
          show Steps p.tables e below (T117.setTop (mkF m 200 #[.val (.int p1), .val (.int p2), .val (.int p3), .val (.int p4), .val (.int v6), .val (.int v17), .val (.int v28), .val (.int v39), .val (.int z63_s0), .val (.int v74), .val (.int v86), .val (.int v98), .val (.int v104), .unset, .unset, .unset] [(.int v17), (.int (1 : Int32)), (.ref b115), (.ref b115), (.ref b114), (.ref b114)])) _
          refine st119 _ ?_
          show Steps p.tables e below (T119.setTop (mkF m 201 #[.val (.int p1), .val (.int p2), .val (.int p3), .val (.int p4), .val (.int v6), .val (.int v17), .val (.int v28), .val (.int v39), .val (.int z63_s0), .val (.int v74), .val (.int v86), .val (.int v98), .val (.int v104), .unset, .unset, .unset] [(.ref b115), (.ref b114), (.ref b114)])) _
          refine XS.dup X119.here hx rfl (hb hby at_201) rfl rfl ?_
          show Steps p.tables e below (T119.setTop (mkF m 202 #[.val (.int p1), .val (.int p2), .val (.int p3), .val (.int p4), .val (.int v6), .val (.int v17), .val (.int v28), .val (.int v39), .val (.int z63_s0), .val (.int v74), .val (.int v86), .val (.int v98), .val (.int v104), .unset, .unset, .unset] [(.ref b115), (.ref b115), (.ref b114), (.ref b114)])) _
          refine XS.iconst X119.here hx rfl (hb hby at_202) ?_
          show Steps p.tables e below (T119.setTop (mkF m 203 #[.val (.int p1), .val (.int p2), .val (.int p3), .val (.int p4), .val (.int v6), .val (.int v17), .val (.int v28), .val (.int v39), .val (.int z63_s0), .val (.int v74), .val (.int v86), .val (.int v98), .val (.int v104), .unset, .unset, .unset] [(.int (2 : Int32)), (.ref b115), (.ref b115), (.ref b114), (.ref b114)])) _
          refine XS.iload X119.here hx rfl (hb hby at_203) rfl ?_
          show Steps p.tables e below (T119.setTop (mkF m 205 #[.val (.int p1), .val (.int p2), .val (.int p3), .val (.int p4), .val (.int v6), .val (.int v17), .val (.int v28), .val (.int v39), .val (.int z63_s0), .val (.int v74), .val (.int v86), .val (.int v98), .val (.int v104), .unset, .unset, .unset] [(.int v28), (.int (2 : Int32)), (.ref b115), (.ref b115), (.ref b114), (.ref b114)])) _
          refine st121 _ ?_
          show Steps p.tables e below (T121.setTop (mkF m 206 #[.val (.int p1), .val (.int p2), .val (.int p3), .val (.int p4), .val (.int v6), .val (.int v17), .val (.int v28), .val (.int v39), .val (.int z63_s0), .val (.int v74), .val (.int v86), .val (.int v98), .val (.int v104), .unset, .unset, .unset] [(.ref b115), (.ref b114), (.ref b114)])) _
          refine XS.dup X121.here hx rfl (hb hby at_206) rfl rfl ?_
          show Steps p.tables e below (T121.setTop (mkF m 207 #[.val (.int p1), .val (.int p2), .val (.int p3), .val (.int p4), .val (.int v6), .val (.int v17), .val (.int v28), .val (.int v39), .val (.int z63_s0), .val (.int v74), .val (.int v86), .val (.int v98), .val (.int v104), .unset, .unset, .unset] [(.ref b115), (.ref b115), (.ref b114), (.ref b114)])) _
          refine XS.iconst X121.here hx rfl (hb hby at_207) ?_
          show Steps p.tables e below (T121.setTop (mkF m 208 #[.val (.int p1), .val (.int p2), .val (.int p3), .val (.int p4), .val (.int v6), .val (.int v17), .val (.int v28), .val (.int v39), .val (.int z63_s0), .val (.int v74), .val (.int v86), .val (.int v98), .val (.int v104), .unset, .unset, .unset] [(.int (3 : Int32)), (.ref b115), (.ref b115), (.ref b114), (.ref b114)])) _
          refine XS.iload X121.here hx rfl (hb hby at_208) rfl ?_
          show Steps p.tables e below (T121.setTop (mkF m 210 #[.val (.int p1), .val (.int p2), .val (.int p3), .val (.int p4), .val (.int v6), .val (.int v17), .val (.int v28), .val (.int v39), .val (.int z63_s0), .val (.int v74), .val (.int v86), .val (.int v98), .val (.int v104), .unset, .unset, .unset] [(.int v39), (.int (3 : Int32)), (.ref b115), (.ref b115), (.ref b114), (.ref b114)])) _
          refine st123 _ ?_
          show Steps p.tables e below (T123.setTop (mkF m 211 #[.val (.int p1), .val (.int p2), .val (.int p3), .val (.int p4), .val (.int v6), .val (.int v17), .val (.int v28), .val (.int v39), .val (.int z63_s0), .val (.int v74), .val (.int v86), .val (.int v98), .val (.int v104), .unset, .unset, .unset] [(.ref b115), (.ref b114), (.ref b114)])) _
          refine XS.dup X123.here hx rfl (hb hby at_211) rfl rfl ?_
          show Steps p.tables e below (T123.setTop (mkF m 212 #[.val (.int p1), .val (.int p2), .val (.int p3), .val (.int p4), .val (.int v6), .val (.int v17), .val (.int v28), .val (.int v39), .val (.int z63_s0), .val (.int v74), .val (.int v86), .val (.int v98), .val (.int v104), .unset, .unset, .unset] [(.ref b115), (.ref b115), (.ref b114), (.ref b114)])) _
          refine XS.iconst X123.here hx rfl (hb hby at_212) ?_
          show Steps p.tables e below (T123.setTop (mkF m 213 #[.val (.int p1), .val (.int p2), .val (.int p3), .val (.int p4), .val (.int v6), .val (.int v17), .val (.int v28), .val (.int v39), .val (.int z63_s0), .val (.int v74), .val (.int v86), .val (.int v98), .val (.int v104), .unset, .unset, .unset] [(.int (4 : Int32)), (.ref b115), (.ref b115), (.ref b114), (.ref b114)])) _
          refine XS.iload X123.here hx rfl (hb hby at_213) rfl ?_
          show Steps p.tables e below (T123.setTop (mkF m 215 #[.val (.int p1), .val (.int p2), .val (.int p3), .val (.int p4), .val (.int v6), .val (.int v17), .val (.int v28), .val (.int v39), .val (.int z63_s0), .val (.int v74), .val (.int v86), .val (.int v98), .val (.int v104), .unset, .unset, .unset] [(.int z63_s0), (.int (4 : Int32)), (.ref b115), (.ref b115), (.ref b114), (.ref b114)])) _
          refine st125 _ ?_
          show Steps p.tables e below (T125.setTop (mkF m 216 #[.val (.int p1), .val (.int p2), .val (.int p3), .val (.int p4), .val (.int v6), .val (.int v17), .val (.int v28), .val (.int v39), .val (.int z63_s0), .val (.int v74), .val (.int v86), .val (.int v98), .val (.int v104), .unset, .unset, .unset] [(.ref b115), (.ref b114), (.ref b114)])) _
          refine XS.dup X125.here hx rfl (hb hby at_216) rfl rfl ?_
          show Steps p.tables e below (T125.setTop (mkF m 217 #[.val (.int p1), .val (.int p2), .val (.int p3), .val (.int p4), .val (.int v6), .val (.int v17), .val (.int v28), .val (.int v39), .val (.int z63_s0), .val (.int v74), .val (.int v86), .val (.int v98), .val (.int v104), .unset, .unset, .unset] [(.ref b115), (.ref b115), (.ref b114), (.ref b114)])) _
          refine XS.iconst X125.here hx rfl (hb hby at_217) ?_
          show Steps p.tables e below (T125.setTop (mkF m 218 #[.val (.int p1), .val (.int p2), .val (.int p3), .val (.int p4), .val (.int v6), .val (.int v17), .val (.int v28), .val (.int v39), .val (.int z63_s0), .val (.int v74), .val (.int v86), .val (.int v98), .val (.int v104), .unset, .unset, .unset] [(.int (5 : Int32)), (.ref b115), (.ref b115), (.ref b114), (.ref b114)])) _
          refine XS.iload X125.here hx rfl (hb hby at_218) rfl ?_
          show Steps p.tables e below (T125.setTop (mkF m 220 #[.val (.int p1), .val (.int p2), .val (.int p3), .val (.int p4), .val (.int v6), .val (.int v17), .val (.int v28), .val (.int v39), .val (.int z63_s0), .val (.int v74), .val (.int v86), .val (.int v98), .val (.int v104), .unset, .unset, .unset] [(.int v74), (.int (5 : Int32)), (.ref b115), (.ref b115), (.ref b114), (.ref b114)])) _
          refine st127 _ ?_
          show Steps p.tables e below (T127.setTop (mkF m 221 #[.val (.int p1), .val (.int p2), .val (.int p3), .val (.int p4), .val (.int v6), .val (.int v17), .val (.int v28), .val (.int v39), .val (.int z63_s0), .val (.int v74), .val (.int v86), .val (.int v98), .val (.int v104), .unset, .unset, .unset] [(.ref b115), (.ref b114), (.ref b114)])) _
          refine XS.dup X127.here hx rfl (hb hby at_221) rfl rfl ?_
          show Steps p.tables e below (T127.setTop (mkF m 222 #[.val (.int p1), .val (.int p2), .val (.int p3), .val (.int p4), .val (.int v6), .val (.int v17), .val (.int v28), .val (.int v39), .val (.int z63_s0), .val (.int v74), .val (.int v86), .val (.int v98), .val (.int v104), .unset, .unset, .unset] [(.ref b115), (.ref b115), (.ref b114), (.ref b114)])) _
          refine XS.bipush X127.here hx rfl (hb hby at_222) ?_
          show Steps p.tables e below (T127.setTop (mkF m 224 #[.val (.int p1), .val (.int p2), .val (.int p3), .val (.int p4), .val (.int v6), .val (.int v17), .val (.int v28), .val (.int v39), .val (.int z63_s0), .val (.int v74), .val (.int v86), .val (.int v98), .val (.int v104), .unset, .unset, .unset] [(.int (6 : Int32)), (.ref b115), (.ref b115), (.ref b114), (.ref b114)])) _
          refine XS.iload X127.here hx rfl (hb hby at_224) rfl ?_
          show Steps p.tables e below (T127.setTop (mkF m 226 #[.val (.int p1), .val (.int p2), .val (.int p3), .val (.int p4), .val (.int v6), .val (.int v17), .val (.int v28), .val (.int v39), .val (.int z63_s0), .val (.int v74), .val (.int v86), .val (.int v98), .val (.int v104), .unset, .unset, .unset] [(.int v86), (.int (6 : Int32)), (.ref b115), (.ref b115), (.ref b114), (.ref b114)])) _
          refine st129 _ ?_
          show Steps p.tables e below (T129.setTop (mkF m 227 #[.val (.int p1), .val (.int p2), .val (.int p3), .val (.int p4), .val (.int v6), .val (.int v17), .val (.int v28), .val (.int v39), .val (.int z63_s0), .val (.int v74), .val (.int v86), .val (.int v98), .val (.int v104), .unset, .unset, .unset] [(.ref b115), (.ref b114), (.ref b114)])) _
          refine XS.dup X129.here hx rfl (hb hby at_227) rfl rfl ?_
          show Steps p.tables e below (T129.setTop (mkF m 228 #[.val (.int p1), .val (.int p2), .val (.int p3), .val (.int p4), .val (.int v6), .val (.int v17), .val (.int v28), .val (.int v39), .val (.int z63_s0), .val (.int v74), .val (.int v86), .val (.int v98), .val (.int v104), .unset, .unset, .unset] [(.ref b115), (.ref b115), (.ref b114), (.ref b114)])) _
          refine XS.bipush X129.here hx rfl (hb hby at_228) ?_
          show Steps p.tables e below (T129.setTop (mkF m 230 #[.val (.int p1), .val (.int p2), .val (.int p3), .val (.int p4), .val (.int v6), .val (.int v17), .val (.int v28), .val (.int v39), .val (.int z63_s0), .val (.int v74), .val (.int v86), .val (.int v98), .val (.int v104), .unset, .unset, .unset] [(.int (7 : Int32)), (.ref b115), (.ref b115), (.ref b114), (.ref b114)])) _
          refine XS.iload X129.here hx rfl (hb hby at_230) rfl ?_
          show Steps p.tables e below (T129.setTop (mkF m 232 #[.val (.int p1), .val (.int p2), .val (.int p3), .val (.int p4), .val (.int v6), .val (.int v17), .val (.int v28), .val (.int v39), .val (.int z63_s0), .val (.int v74), .val (.int v86), .val (.int v98), .val (.int v104), .unset, .unset, .unset] [(.int v98), (.int (7 : Int32)), (.ref b115), (.ref b115), (.ref b114), (.ref b114)])) _
          refine st131 _ ?_
          show Steps p.tables e below (T131.setTop (mkF m 233 #[.val (.int p1), .val (.int p2), .val (.int p3), .val (.int p4), .val (.int v6), .val (.int v17), .val (.int v28), .val (.int v39), .val (.int z63_s0), .val (.int v74), .val (.int v86), .val (.int v98), .val (.int v104), .unset, .unset, .unset] [(.ref b115), (.ref b114), (.ref b114)])) _
          refine st132.trans ?_
          show Steps p.tables e below (T132.setTop (mkF m 236 #[.val (.int p1), .val (.int p2), .val (.int p3), .val (.int p4), .val (.int v6), .val (.int v17), .val (.int v28), .val (.int v39), .val (.int z63_s0), .val (.int v74), .val (.int v86), .val (.int v98), .val (.int v104), .unset, .unset, .unset] [(.ref b114)])) _
          refine XS.astore X132.here hx rfl (hb hby at_236) rfl rfl (l' := #[.val (.int p1), .val (.int p2), .val (.int p3), .val (.int p4), .val (.int v6), .val (.int v17), .val (.int v28), .val (.int v39), .val (.int z63_s0), .val (.int v74), .val (.int v86), .val (.int v98), .val (.int v104), .val (.ref b114), .unset, .unset]) rfl ?_
          show Steps p.tables e below (T132.setTop (mkF m 238 #[.val (.int p1), .val (.int p2), .val (.int p3), .val (.int p4), .val (.int v6), .val (.int v17), .val (.int v28), .val (.int v39), .val (.int z63_s0), .val (.int v74), .val (.int v86), .val (.int v98), .val (.int v104), .val (.ref b114), .unset, .unset] [])) _
          refine XS.bipush X132.here hx rfl (hb hby at_238) ?_
          show Steps p.tables e below (T132.setTop (mkF m 240 #[.val (.int p1), .val (.int p2), .val (.int p3), .val (.int p4), .val (.int v6), .val (.int v17), .val (.int v28), .val (.int v39), .val (.int z63_s0), .val (.int v74), .val (.int v86), .val (.int v98), .val (.int v104), .val (.ref b114), .unset, .unset] [(.int (8 : Int32))])) _
          refine XS.istore X132.here hx rfl (hb hby at_240) rfl (l' := #[.val (.int p1), .val (.int p2), .val (.int p3), .val (.int p4), .val (.int v6), .val (.int v17), .val (.int v28), .val (.int v39), .val (.int z63_s0), .val (.int v74), .val (.int v86), .val (.int v98), .val (.int v104), .val (.ref b114), .val (.int (8 : Int32)), .unset]) rfl ?_
          show Steps p.tables e below (T132.setTop (mkF m 242 #[.val (.int p1), .val (.int p2), .val (.int p3), .val (.int p4), .val (.int v6), .val (.int v17), .val (.int v28), .val (.int v39), .val (.int z63_s0), .val (.int v74), .val (.int v86), .val (.int v98), .val (.int v104), .val (.ref b114), .val (.int (8 : Int32)), .unset] [])) _
          refine XS.goto X132.here hx rfl (pc0 := 242) (pc' := 298) rfl (hb hby at_242) (by decide) (by decide) ?_
          show Steps p.tables e below (T132.setTop (mkF m 298 #[.val (.int p1), .val (.int p2), .val (.int p3), .val (.int p4), .val (.int v6), .val (.int v17), .val (.int v28), .val (.int v39), .val (.int z63_s0), .val (.int v74), .val (.int v86), .val (.int v98), .val (.int v104), .val (.ref b114), .val (.int (8 : Int32)), .unset] [])) _
          refine XS.iload X132.here hx rfl (hb hby at_298) rfl ?_
          show Steps p.tables e below (T132.setTop (mkF m 300 #[.val (.int p1), .val (.int p2), .val (.int p3), .val (.int p4), .val (.int v6), .val (.int v17), .val (.int v28), .val (.int v39), .val (.int z63_s0), .val (.int v74), .val (.int v86), .val (.int v98), .val (.int v104), .val (.ref b114), .val (.int (8 : Int32)), .unset] [(.int (8 : Int32))])) _
          refine XS.iload X132.here hx rfl (hb hby at_300) rfl ?_
          show Steps p.tables e below (T132.setTop (mkF m 302 #[.val (.int p1), .val (.int p2), .val (.int p3), .val (.int p4), .val (.int v6), .val (.int v17), .val (.int v28), .val (.int v39), .val (.int z63_s0), .val (.int v74), .val (.int v86), .val (.int v98), .val (.int v104), .val (.ref b114), .val (.int (8 : Int32)), .unset] [(.int v6), (.int (8 : Int32))])) _
          refine XS.iload X132.here hx rfl (hb hby at_302) rfl ?_
          show Steps p.tables e below (T132.setTop (mkF m 304 #[.val (.int p1), .val (.int p2), .val (.int p3), .val (.int p4), .val (.int v6), .val (.int v17), .val (.int v28), .val (.int v39), .val (.int z63_s0), .val (.int v74), .val (.int v86), .val (.int v98), .val (.int v104), .val (.ref b114), .val (.int (8 : Int32)), .unset] [(.int v17), (.int v6), (.int (8 : Int32))])) _
          refine XS.iload X132.here hx rfl (hb hby at_304) rfl ?_
          show Steps p.tables e below (T132.setTop (mkF m 306 #[.val (.int p1), .val (.int p2), .val (.int p3), .val (.int p4), .val (.int v6), .val (.int v17), .val (.int v28), .val (.int v39), .val (.int z63_s0), .val (.int v74), .val (.int v86), .val (.int v98), .val (.int v104), .val (.ref b114), .val (.int (8 : Int32)), .unset] [(.int v28), (.int v17), (.int v6), (.int (8 : Int32))])) _
          refine XS.iload X132.here hx rfl (hb hby at_306) rfl ?_
          show Steps p.tables e below (T132.setTop (mkF m 308 #[.val (.int p1), .val (.int p2), .val (.int p3), .val (.int p4), .val (.int v6), .val (.int v17), .val (.int v28), .val (.int v39), .val (.int z63_s0), .val (.int v74), .val (.int v86), .val (.int v98), .val (.int v104), .val (.ref b114), .val (.int (8 : Int32)), .unset] [(.int v39), (.int v28), (.int v17), (.int v6), (.int (8 : Int32))])) _
          refine XS.iload X132.here hx rfl (hb hby at_308) rfl ?_
          show Steps p.tables e below (T132.setTop (mkF m 310 #[.val (.int p1), .val (.int p2), .val (.int p3), .val (.int p4), .val (.int v6), .val (.int v17), .val (.int v28), .val (.int v39), .val (.int z63_s0), .val (.int v74), .val (.int v86), .val (.int v98), .val (.int v104), .val (.ref b114), .val (.int (8 : Int32)), .unset] [(.int z63_s0), (.int v39), (.int v28), (.int v17), (.int v6), (.int (8 : Int32))])) _
          refine XS.iload X132.here hx rfl (hb hby at_310) rfl ?_
          show Steps p.tables e below (T132.setTop (mkF m 312 #[.val (.int p1), .val (.int p2), .val (.int p3), .val (.int p4), .val (.int v6), .val (.int v17), .val (.int v28), .val (.int v39), .val (.int z63_s0), .val (.int v74), .val (.int v86), .val (.int v98), .val (.int v104), .val (.ref b114), .val (.int (8 : Int32)), .unset] [(.int v74), (.int z63_s0), (.int v39), (.int v28), (.int v17), (.int v6), (.int (8 : Int32))])) _
          refine XS.iload X132.here hx rfl (hb hby at_312) rfl ?_
          show Steps p.tables e below (T132.setTop (mkF m 314 #[.val (.int p1), .val (.int p2), .val (.int p3), .val (.int p4), .val (.int v6), .val (.int v17), .val (.int v28), .val (.int v39), .val (.int z63_s0), .val (.int v74), .val (.int v86), .val (.int v98), .val (.int v104), .val (.ref b114), .val (.int (8 : Int32)), .unset] [(.int v86), (.int v74), (.int z63_s0), (.int v39), (.int v28), (.int v17), (.int v6), (.int (8 : Int32))])) _
          refine st133 _ ?_
          show Steps p.tables e below (T133.setTop (mkF m 317 #[.val (.int p1), .val (.int p2), .val (.int p3), .val (.int p4), .val (.int v6), .val (.int v17), .val (.int v28), .val (.int v39), .val (.int z63_s0), .val (.int v74), .val (.int v86), .val (.int v98), .val (.int v104), .val (.ref b114), .val (.int (8 : Int32)), .unset] [(.int (fRF (8 : Int32) v6 v17 v28 v39 z63_s0 v74 v86))])) _
          refine XS.istore X133.here hx rfl (hb hby at_317) rfl (l' := #[.val (.int p1), .val (.int p2), .val (.int p3), .val (.int p4), .val (.int v6), .val (.int v17), .val (.int v28), .val (.int v39), .val (.int z63_s0), .val (.int v74), .val (.int v86), .val (.int v98), .val (.int v104), .val (.ref b114), .val (.int (8 : Int32)), .val (.int (fRF (8 : Int32) v6 v17 v28 v39 z63_s0 v74 v86))]) rfl ?_
          rw [hv317] at k
          exact k)
        obtain ⟨_, _, ⟨T135, L135, k135, n135⟩, -, X135, h2135, g2135, ⟨Lc135, hQ135, l135, y135, z135, R135⟩, st135⟩ := callSS (s := (s.setVm s.vm)) X133 hx (y := (⟨"com/example/reta/reta/calendar/Months", "number", "(Ljava/lang/CharSequence;)I"⟩ : MethodName)) hown (mvT hZ (hw _ (List.mem_of_getElem? (i := 37) rfl))) (mvT hZ (hw _ (List.mem_of_getElem? (i := 38) rfl))) (mvT hZ (hw _ (List.mem_of_getElem? (i := 39) rfl))) (mvT hZ (hw _ (List.mem_of_getElem? (i := 40) rfl))) (by decide) (backOfSH (W := 0) (rmN8 l Z a0 hw [] b114 (nar .char v6) (nar .char v17) (nar .char v28) (nar .char v39) (nar .char z63_s0) (nar .char v74) (nar .char v86) (nar .char v98) zc fm T132.heap n0 Zs E_b114 T_b114 Ol S_COMPACT_STRINGS S_SIOOBE_FORMATTER hzc hfm S_HYPHEN) hZ (hw _ (List.mem_of_getElem? (i := 40) rfl)) (hw _ (List.mem_of_getElem? (i := 39) rfl)) (by decide) (by decide) hEL (CHv.ext Ol.2 hCH)) (g := (mkF m 321 #[.val (.int p1), .val (.int p2), .val (.int p3), .val (.int p4), .val (.int v6), .val (.int v17), .val (.int v28), .val (.int v39), .val (.int z63_s0), .val (.int v74), .val (.int v86), .val (.int v98), .val (.int v104), .val (.ref b114), .val (.int (8 : Int32)), .val (.int v317)] [(.ref b114)])) rfl (by rw [hml]; rfl) (argsL := [(.ref b114)]) (rest := []) (lenOf pd_6 rfl) rfl (by show 2 * 0 + _ ≤ _; exact Nat.le_of_eq rfl) (hb hby at_321) (fun _ _ => ⟨rfl, e133, (by decide : 3 + 2 ≤ _), (by decide : 20 + 32 ≤ _)⟩)
        dsimp only [Pt.U, Pt.locs, Pt.cells, Pt.slots] at X135 h2135 g2135 l135 y135 z135 st135 hQ135 R135
        subst l135 y135 z135
        obtain ⟨X135, hS135, hZ, hown⟩ := rebS ((State.WarmedH.refl s).since 0) (by rw [e133]; exact (Nat.zero_le _)) X135 h2135 g2135 hZ hown
        obtain ⟨rfl, N135q, K135⟩ := hQ135
        have Zs : n0 ≤ T135.heap.size := Nat.le_trans Zs K135.1
        have Ol : Old Z n0 T135.heap := Ol.keep K135 all0
        have E_b114 : Exa Z T135.heap b114 "java/lang/String" := E_b114.keep K135
        have E_b115 : Exa Z T135.heap b115 "[C" := E_b115.keep K135
        have T_b114 : Stx Z T135.heap b114 [(nar .char v6), (nar .char v17), (nar .char v28), (nar .char v39), (nar .char z63_s0), (nar .char v74), (nar .char v86), (nar .char v98)] := T_b114.keep K135
        have N135 := Fr.app N133 N135q
        have pre136 : ∀ t, Steps p.tables e below (T135.setTop (mkF m 326 #[.val (.int p1), .val (.int p2), .val (.int p3), .val (.int p4), .val (.int v6), .val (.int v17), .val (.int v28), .val (.int v39), .val (.int z63_s0), .val (.int v74), .val (.int v86), .val (.int v98), .val (.int v104), .val (.ref b114), .val (.int (8 : Int32)), .val (.int v317)] [(.int v317), (.int (-1 : Int32))])) t → Steps p.tables e below (s₁.setTop (entryFrame m #[(.int p1), (.int p2), (.int p3), (.int p4)] maxLocals)) t := fun t k => pre134 t (by
          show Steps p.tables e below (T133.setTop (mkF m 319 #[.val (.int p1), .val (.int p2), .val (.int p3), .val (.int p4), .val (.int v6), .val (.int v17), .val (.int v28), .val (.int v39), .val (.int z63_s0), .val (.int v74), .val (.int v86), .val (.int v98), .val (.int v104), .val (.ref b114), .val (.int (8 : Int32)), .val (.int v317)] [])) _
          refine XS.aload X133.here hx rfl (hb hby at_319) rfl rfl ?_
          show Steps p.tables e below (T133.setTop (mkF m 321 #[.val (.int p1), .val (.int p2), .val (.int p3), .val (.int p4), .val (.int v6), .val (.int v17), .val (.int v28), .val (.int v39), .val (.int z63_s0), .val (.int v74), .val (.int v86), .val (.int v98), .val (.int v104), .val (.ref b114), .val (.int (8 : Int32)), .val (.int v317)] [(.ref b114)])) _
          refine st135.trans ?_
          show Steps p.tables e below (T135.setTop (mkF m 324 #[.val (.int p1), .val (.int p2), .val (.int p3), .val (.int p4), .val (.int v6), .val (.int v17), .val (.int v28), .val (.int v39), .val (.int z63_s0), .val (.int v74), .val (.int v86), .val (.int v98), .val (.int v104), .val (.ref b114), .val (.int (8 : Int32)), .val (.int v317)] [(.int (-1 : Int32))])) _
          refine XS.iload X135.here hx rfl (hb hby at_324) rfl ?_
          exact k)
        obtain ⟨z334_s0_3, hz334_s0_3⟩ : ∃ z : Int32, z = (if (-1 : Int32) = v317 then (1 : Int32) else (0 : Int32)) := ⟨_, rfl⟩
        obtain ⟨T139, Lc139, X139, e139, N139, pre139⟩ : ∃ (T' : State) (locs' : List Loc), Stand p l e room_1 (s.setVm T135.vm) m #[(.int p1), (.int p2), (.int p3), (.int p4)] below meth c T' locs' 5 52 ∧ T'.heap = T135.heap ∧ Fr n0 locs' ∧ ∀ t, Steps p.tables e below (T'.setTop (mkF m 334 #[.val (.int p1), .val (.int p2), .val (.int p3), .val (.int p4), .val (.int v6), .val (.int v17), .val (.int v28), .val (.int v39), .val (.int z63_s0), .val (.int v74), .val (.int v86), .val (.int v98), .val (.int v104), .val (.ref b114), .val (.int (8 : Int32)), .val (.int v317)] [(.int z334_s0_3)])) t → Steps p.tables e below (s₁.setTop (entryFrame m #[(.int p1), (.int p2), (.int p3), (.int p4)] maxLocals)) t := by
          by_cases hc326 : (-1 : Int32) = v317
          ·
            have pre137 : ∀ t, Steps p.tables e below (T135.setTop (mkF m 334 #[.val (.int p1), .val (.int p2), .val (.int p3), .val (.int p4), .val (.int v6), .val (.int v17), .val (.int v28), .val (.int v39), .val (.int z63_s0), .val (.int v74), .val (.int v86), .val (.int v98), .val (.int v104), .val (.ref b114), .val (.int (8 : Int32)), .val (.int v317)] [(.int (1 : Int32))])) t → Steps p.tables e below (s₁.setTop (entryFrame m #[(.int p1), (.int p2), (.int p3), (.int p4)] maxLocals)) t := fun t k => pre136 t (by
              show Steps p.tables e below (T135.setTop (mkF m 326 #[.val (.int p1), .val (.int p2), .val (.int p3), .val (.int p4), .val (.int v6), .val (.int v17), .val (.int v28), .val (.int v39), .val (.int z63_s0), .val (.int v74), .val (.int v86), .val (.int v98), .val (.int v104), .val (.ref b114), .val (.int (8 : Int32)), .val (.int v317)] [(.int v317), (.int (-1 : Int32))])) _
              refine XS.icmpNo X135.here hx rfl (hb hby at_326) rfl (teq hc326).2 ?_
              show Steps p.tables e below (T135.setTop (mkF m 329 #[.val (.int p1), .val (.int p2), .val (.int p3), .val (.int p4), .val (.int v6), .val (.int v17), .val (.int v28), .val (.int v39), .val (.int z63_s0), .val (.int v74), .val (.int v86), .val (.int v98), .val (.int v104), .val (.ref b114), .val (.int (8 : Int32)), .val (.int v317)] [])) _
              refine XS.iconst X135.here hx rfl (hb hby at_329) ?_
              show Steps p.tables e below (T135.setTop (mkF m 330 #[.val (.int p1), .val (.int p2), .val (.int p3), .val (.int p4), .val (.int v6), .val (.int v17), .val (.int v28), .val (.int v39), .val (.int z63_s0), .val (.int v74), .val (.int v86), .val (.int v98), .val (.int v104), .val (.ref b114), .val (.int (8 : Int32)), .val (.int v317)] [(.int (1 : Int32))])) _
              refine XS.goto X135.here hx rfl (pc0 := 330) (pc' := 334) rfl (hb hby at_330) (by decide) (by decide) ?_
              exact k)
            have q_z334_s0_3 : z334_s0_3 = (1 : Int32) := by rw [hz334_s0_3, if_pos hc326]
            refine ⟨_, _, X135, rfl, N135, fun t k => ?_⟩
            rw [q_z334_s0_3] at k
            exact pre137 t k
          ·
            have pre138 : ∀ t, Steps p.tables e below (T135.setTop (mkF m 334 #[.val (.int p1), .val (.int p2), .val (.int p3), .val (.int p4), .val (.int v6), .val (.int v17), .val (.int v28), .val (.int v39), .val (.int z63_s0), .val (.int v74), .val (.int v86), .val (.int v98), .val (.int v104), .val (.ref b114), .val (.int (8 : Int32)), .val (.int v317)] [(.int (0 : Int32))])) t → Steps p.tables e below (s₁.setTop (entryFrame m #[(.int p1), (.int p2), (.int p3), (.int p4)] maxLocals)) t := fun t k => pre136 t (by
              show Steps p.tables e below (T135.setTop (mkF m 326 #[.val (.int p1), .val (.int p2), .val (.int p3), .val (.int p4), .val (.int v6), .val (.int v17), .val (.int v28), .val (.int v39), .val (.int z63_s0), .val (.int v74), .val (.int v86), .val (.int v98), .val (.int v104), .val (.ref b114), .val (.int (8 : Int32)), .val (.int v317)] [(.int v317), (.int (-1 : Int32))])) _
              refine XS.icmpYes X135.here hx rfl (pc0 := 326) (pc' := 333) rfl (hb hby at_326) rfl (feq hc326).2 (by decide) (by decide) ?_
              show Steps p.tables e below (T135.setTop (mkF m 333 #[.val (.int p1), .val (.int p2), .val (.int p3), .val (.int p4), .val (.int v6), .val (.int v17), .val (.int v28), .val (.int v39), .val (.int z63_s0), .val (.int v74), .val (.int v86), .val (.int v98), .val (.int v104), .val (.ref b114), .val (.int (8 : Int32)), .val (.int v317)] [])) _
              refine XS.iconst X135.here hx rfl (hb hby at_333) ?_
              exact k)
            have q_z334_s0_3 : z334_s0_3 = (0 : Int32) := by rw [hz334_s0_3, if_neg hc326]
            refine ⟨_, _, X135, rfl, N135, fun t k => ?_⟩
            rw [q_z334_s0_3] at k
            exact pre138 t k
        obtain rfl : z334_s0_3 = (1 : Int32) := own_lawo (by decide) hv317 hz334_s0_3
        obtain ⟨fs, hr, hrun, hended, hRW⟩ := X139.leaveW (s := s) (vm₁ := T135.vm) hS135 (by rw [e139]; exact (Nat.le_refl _)) (v := some (.int (1 : Int32))) (fun h => by rw [Bd.returns] at h; cases h)
        have hCR := trivial
        refine ⟨_, _, pre139 _ ?_, hrun, hended, _, _, rfl, ?_, ⟨hRW.1, hRW.2.1, hRW.2.2.1, hRW.2.2.2.mono (by decide) (by decide)⟩⟩
        · show Steps p.tables e below (T139.setTop (mkF m 334 #[.val (.int p1), .val (.int p2), .val (.int p3), .val (.int p4), .val (.int v6), .val (.int v17), .val (.int v28), .val (.int v39), .val (.int z63_s0), .val (.int v74), .val (.int v86), .val (.int v98), .val (.int v104), .val (.ref b114), .val (.int (8 : Int32)), .val (.int v317)] [(.int (1 : Int32))])) _
          exact retN X139 hx (t := .boolean) Bd.returns (by simp) (hb hby at_334) hr
        · show Q0 Z p1 p2 p3 p4 zc fm h0 n0 _ T139.heap _
          rw [e139]
          exact ⟨rfl, N139⟩
      ·
        obtain ⟨T140, h140, X140, e140, E140, A140, D140, -, st140⟩ := newO X78 hx hZ hown (hw _ (List.mem_of_getElem? (i := 4) rfl)) (hw _ (List.mem_of_getElem? (i := 5) rfl)) (hw _ (List.mem_of_getElem? (i := 6) rfl)) e78 (g := (mkF m 245 #[.val (.int p1), .val (.int p2), .val (.int p3), .val (.int p4), .val (.int v6), .val (.int v17), .val (.int v28), .val (.int v39), .val (.int z63_s0), .val (.int v74), .val (.int v86), .val (.int v98), .val (.int v104), .unset, .unset, .unset] [])) rfl (hb hby at_245) (by decide) (by decide)
        obtain ⟨b140, g140⟩ : ∃ z, z = h0.size := ⟨_, rfl⟩
        rw [← g140] at A140 D140 st140
        have g_b140 : n0 ≤ b140 := Nat.le_trans Zs (Nat.le_of_eq g140.symm)
        have Zs : n0 ≤ h140.size := Nat.le_trans Zs E140.1
        have Ol : Old Z n0 h140 := Ol.ext E140
        have E_b140 : Exa Z h140 b140 "java/lang/String" := A140
        have F_coder_b140 : Fld Z h140 b140 "java/lang/String" "coder" "B" (.int (0 : Int32)) := D140 (Or.inr (hw _ (List.mem_of_getElem? (i := 31) rfl))) (ty := .byte) (by decide)
        have F_value_b140 : Fld Z h140 b140 "java/lang/String" "value" "[B" .null := D140 (Or.inr (hw _ (List.mem_of_getElem? (i := 33) rfl))) (ty := (.array .byte)) (by decide)
        obtain ⟨T141, h141, k141, X141, e141, E141, A141, B141, st141⟩ := newPE X140 hx hZ (hw _ (List.mem_of_getElem? (i := 7) rfl)) e140 (g := (mkF m 251 #[.val (.int p1), .val (.int p2), .val (.int p3), .val (.int p4), .val (.int v6), .val (.int v17), .val (.int v28), .val (.int v39), .val (.int z63_s0), .val (.int v74), .val (.int v86), .val (.int v98), .val (.int v104), .unset, .unset, .unset] [(.int (7 : Int32)), (.ref b140), (.ref b140)])) rfl (hb hby at_251) rfl (by decide) (cap := 7) (by decide) (by decide) (by decide) (by decide) (ad := "[C") (by decide)
        obtain ⟨b141, g141⟩ : ∃ z, z = h140.size := ⟨_, rfl⟩
        rw [← g141] at A141 B141 st141
        have g_b141 : n0 ≤ b141 := Nat.le_trans Zs (Nat.le_of_eq g141.symm)
        have ne_b140_b141 : b140 ≠ b141 := Nat.ne_of_lt (Nat.lt_of_lt_of_le E_b140.lt (Nat.le_of_eq g141.symm))
        have Zs : n0 ≤ h141.size := Nat.le_trans Zs E141.1
        have Ol : Old Z n0 h141 := Ol.ext E141
        have E_b140 : Exa Z h141 b140 "java/lang/String" := E_b140.ext E141
        have F_coder_b140 : Fld Z h141 b140 "java/lang/String" "coder" "B" (.int (0 : Int32)) := F_coder_b140.ext E141
        have F_value_b140 : Fld Z h141 b140 "java/lang/String" "value" "[B" .null := F_value_b140.ext E141
        have E_b141 : Exa Z h141 b141 "[C" := B141
        have V_b141 : Arv Z h141 b141 k141 .char (7 : Int32) [(.int (0 : Int32)), (.int (0 : Int32)), (.int (0 : Int32)), (.int (0 : Int32)), (.int (0 : Int32)), (.int (0 : Int32)), (.int (0 : Int32))] (.int (0 : Int32)) := (Arv.new A141 (by decide)).pad (pad_rep [] (.int (0 : Int32)) 7)
        obtain ⟨cl142, Ar142, q142, S142, M142, H142, G142⟩ := V_b141
        obtain ⟨T143, h143, X143, e143, W143, st143⟩ := stC X141 hx hZ e141 Ar142 (j := (0 : Int32)) (inb_of S142 (by decide)) (g := (mkF m 257 #[.val (.int p1), .val (.int p2), .val (.int p3), .val (.int p4), .val (.int v6), .val (.int v17), .val (.int v28), .val (.int v39), .val (.int z63_s0), .val (.int v74), .val (.int v86), .val (.int v98), .val (.int v104), .unset, .unset, .unset] [(.int v6), (.int (0 : Int32)), (.ref b141), (.ref b141), (.ref b140), (.ref b140)])) rfl rfl (hb hby at_257)
        have N143 := Fr.snoc X143 N78 g_b141
        have Zs : n0 ≤ h143.size := Nat.le_trans Zs (Keep.of_wr W143).1
        have Ol : Old Z n0 h143 := Ol.wr W143 g_b141
        have E_b140 : Exa Z h143 b140 "java/lang/String" := E_b140.wr W143
        have F_coder_b140 : Fld Z h143 b140 "java/lang/String" "coder" "B" (.int (0 : Int32)) := F_coder_b140.other W143 (Or.inl ne_b140_b141)
        have F_value_b140 : Fld Z h143 b140 "java/lang/String" "value" "[B" .null := F_value_b140.other W143 (Or.inl ne_b140_b141)
        have E_b141 : Exa Z h143 b141 "[C" := E_b141.wr W143
        have V_b141 : Arv Z h143 b141 k141 .char (7 : Int32) [(.int (nar .char v6)), (.int (0 : Int32)), (.int (0 : Int32)), (.int (0 : Int32)), (.int (0 : Int32)), (.int (0 : Int32)), (.int (0 : Int32))] (.int (0 : Int32)) := Arv.set Ar142 q142 S142 M142 H142 G142 (fits_nar_char _) W143 0 rfl (Nat.le_of_ble_eq_true rfl)
        obtain ⟨cl144, Ar144, q144, S144, M144, H144, G144⟩ := V_b141
        obtain ⟨T145, h145, X145, e145, W145, st145⟩ := stC X143 hx hZ e143 Ar144 (j := (1 : Int32)) (inb_of S144 (by decide)) (g := (mkF m 262 #[.val (.int p1), .val (.int p2), .val (.int p3), .val (.int p4), .val (.int v6), .val (.int v17), .val (.int v28), .val (.int v39), .val (.int z63_s0), .val (.int v74), .val (.int v86), .val (.int v98), .val (.int v104), .unset, .unset, .unset] [(.int v17), (.int (1 : Int32)), (.ref b141), (.ref b141), (.ref b140), (.ref b140)])) rfl rfl (hb hby at_262)
        have N145 := Fr.snoc X145 N143 g_b141
        have Zs : n0 ≤ h145.size := Nat.le_trans Zs (Keep.of_wr W145).1
        have Ol : Old Z n0 h145 := Ol.wr W145 g_b141
        have E_b140 : Exa Z h145 b140 "java/lang/String" := E_b140.wr W145
        have F_coder_b140 : Fld Z h145 b140 "java/lang/String" "coder" "B" (.int (0 : Int32)) := F_coder_b140.other W145 (Or.inl ne_b140_b141)
        have F_value_b140 : Fld Z h145 b140 "java/lang/String" "value" "[B" .null := F_value_b140.other W145 (Or.inl ne_b140_b141)
        have E_b141 : Exa Z h145 b141 "[C" := E_b141.wr W145
        have V_b141 : Arv Z h145 b141 k141 .char (7 : Int32) [(.int (nar .char v6)), (.int (nar .char v17)), (.int (0 : Int32)), (.int (0 : Int32)), (.int (0 : Int32)), (.int (0 : Int32)), (.int (0 : Int32))] (.int (0 : Int32)) := Arv.set Ar144 q144 S144 M144 H144 G144 (fits_nar_char _) W145 1 rfl (Nat.le_of_ble_eq_true rfl)
        obtain ⟨cl146, Ar146, q146, S146, M146, H146, G146⟩ := V_b141
        obtain ⟨T147, h147, X147, e147, W147, st147⟩ := stC X145 hx hZ e145 Ar146 (j := (2 : Int32)) (inb_of S146 (by decide)) (g := (mkF m 267 #[.val (.int p1), .val (.int p2), .val (.int p3), .val (.int p4), .val (.int v6), .val (.int v17), .val (.int v28), .val (.int v39), .val (.int z63_s0), .val (.int v74), .val (.int v86), .val (.int v98), .val (.int v104), .unset, .unset, .unset] [(.int v28), (.int (2 : Int32)), (.ref b141), (.ref b141), (.ref b140), (.ref b140)])) rfl rfl (hb hby at_267)
        have N147 := Fr.snoc X147 N145 g_b141
        have Zs : n0 ≤ h147.size := Nat.le_trans Zs (Keep.of_wr W147).1
        have Ol : Old Z n0 h147 := Ol.wr W147 g_b141
        have E_b140 : Exa Z h147 b140 "java/lang/String" := E_b140.wr W147
        have F_coder_b140 : Fld Z h147 b140 "java/lang/String" "coder" "B" (.int (0 : Int32)) := F_coder_b140.other W147 (Or.inl ne_b140_b141)
        have F_value_b140 : Fld Z h147 b140 "java/lang/String" "value" "[B" .null := F_value_b140.other W147 (Or.inl ne_b140_b141)
        have E_b141 : Exa Z h147 b141 "[C" := E_b141.wr W147
        have V_b141 : Arv Z h147 b141 k141 .char (7 : Int32) [(.int (nar .char v6)), (.int (nar .char v17)), (.int (nar .char v28)), (.int (0 : Int32)), (.int (0 : Int32)), (.int (0 : Int32)), (.int (0 : Int32))] (.int (0 : Int32)) := Arv.set Ar146 q146 S146 M146 H146 G146 (fits_nar_char _) W147 2 rfl (Nat.le_of_ble_eq_true rfl)
        obtain ⟨cl148, Ar148, q148, S148, M148, H148, G148⟩ := V_b141
        obtain ⟨T149, h149, X149, e149, W149, st149⟩ := stC X147 hx hZ e147 Ar148 (j := (3 : Int32)) (inb_of S148 (by decide)) (g := (mkF m 272 #[.val (.int p1), .val (.int p2), .val (.int p3), .val (.int p4), .val (.int v6), .val (.int v17), .val (.int v28), .val (.int v39), .val (.int z63_s0), .val (.int v74), .val (.int v86), .val (.int v98), .val (.int v104), .unset, .unset, .unset] [(.int v39), (.int (3 : Int32)), (.ref b141), (.ref b141), (.ref b140), (.ref b140)])) rfl rfl (hb hby at_272)
        have N149 := Fr.snoc X149 N147 g_b141
        have Zs : n0 ≤ h149.size := Nat.le_trans Zs (Keep.of_wr W149).1
        have Ol : Old Z n0 h149 := Ol.wr W149 g_b141
        have E_b140 : Exa Z h149 b140 "java/lang/String" := E_b140.wr W149
        have F_coder_b140 : Fld Z h149 b140 "java/lang/String" "coder" "B" (.int (0 : Int32)) := F_coder_b140.other W149 (Or.inl ne_b140_b141)
        have F_value_b140 : Fld Z h149 b140 "java/lang/String" "value" "[B" .null := F_value_b140.other W149 (Or.inl ne_b140_b141)
        have E_b141 : Exa Z h149 b141 "[C" := E_b141.wr W149
        have V_b141 : Arv Z h149 b141 k141 .char (7 : Int32) [(.int (nar .char v6)), (.int (nar .char v17)), (.int (nar .char v28)), (.int (nar .char v39)), (.int (0 : Int32)), (.int (0 : Int32)), (.int (0 : Int32))] (.int (0 : Int32)) := Arv.set Ar148 q148 S148 M148 H148 G148 (fits_nar_char _) W149 3 rfl (Nat.le_of_ble_eq_true rfl)
        obtain ⟨cl150, Ar150, q150, S150, M150, H150, G150⟩ := V_b141
        obtain ⟨T151, h151, X151, e151, W151, st151⟩ := stC X149 hx hZ e149 Ar150 (j := (4 : Int32)) (inb_of S150 (by decide)) (g := (mkF m 277 #[.val (.int p1), .val (.int p2), .val (.int p3), .val (.int p4), .val (.int v6), .val (.int v17), .val (.int v28), .val (.int v39), .val (.int z63_s0), .val (.int v74), .val (.int v86), .val (.int v98), .val (.int v104), .unset, .unset, .unset] [(.int z63_s0), (.int (4 : Int32)), (.ref b141), (.ref b141), (.ref b140), (.ref b140)])) rfl rfl (hb hby at_277)
        have N151 := Fr.snoc X151 N149 g_b141
        have Zs : n0 ≤ h151.size := Nat.le_trans Zs (Keep.of_wr W151).1
        have Ol : Old Z n0 h151 := Ol.wr W151 g_b141
        have E_b140 : Exa Z h151 b140 "java/lang/String" := E_b140.wr W151
        have F_coder_b140 : Fld Z h151 b140 "java/lang/String" "coder" "B" (.int (0 : Int32)) := F_coder_b140.other W151 (Or.inl ne_b140_b141)
        have F_value_b140 : Fld Z h151 b140 "java/lang/String" "value" "[B" .null := F_value_b140.other W151 (Or.inl ne_b140_b141)
        have E_b141 : Exa Z h151 b141 "[C" := E_b141.wr W151
        have V_b141 : Arv Z h151 b141 k141 .char (7 : Int32) [(.int (nar .char v6)), (.int (nar .char v17)), (.int (nar .char v28)), (.int (nar .char v39)), (.int (nar .char z63_s0)), (.int (0 : Int32)), (.int (0 : Int32))] (.int (0 : Int32)) := Arv.set Ar150 q150 S150 M150 H150 G150 (fits_nar_char _) W151 4 rfl (Nat.le_of_ble_eq_true rfl)
        obtain ⟨cl152, Ar152, q152, S152, M152, H152, G152⟩ := V_b141
        obtain ⟨T153, h153, X153, e153, W153, st153⟩ := stC X151 hx hZ e151 Ar152 (j := (5 : Int32)) (inb_of S152 (by decide)) (g := (mkF m 282 #[.val (.int p1), .val (.int p2), .val (.int p3), .val (.int p4), .val (.int v6), .val (.int v17), .val (.int v28), .val (.int v39), .val (.int z63_s0), .val (.int v74), .val (.int v86), .val (.int v98), .val (.int v104), .unset, .unset, .unset] [(.int v74), (.int (5 : Int32)), (.ref b141), (.ref b141), (.ref b140), (.ref b140)])) rfl rfl (hb hby at_282)
        have N153 := Fr.snoc X153 N151 g_b141
        have Zs : n0 ≤ h153.size := Nat.le_trans Zs (Keep.of_wr W153).1
        have Ol : Old Z n0 h153 := Ol.wr W153 g_b141
        have E_b140 : Exa Z h153 b140 "java/lang/String" := E_b140.wr W153
        have F_coder_b140 : Fld Z h153 b140 "java/lang/String" "coder" "B" (.int (0 : Int32)) := F_coder_b140.other W153 (Or.inl ne_b140_b141)
        have F_value_b140 : Fld Z h153 b140 "java/lang/String" "value" "[B" .null := F_value_b140.other W153 (Or.inl ne_b140_b141)
        have E_b141 : Exa Z h153 b141 "[C" := E_b141.wr W153
        have V_b141 : Arv Z h153 b141 k141 .char (7 : Int32) [(.int (nar .char v6)), (.int (nar .char v17)), (.int (nar .char v28)), (.int (nar .char v39)), (.int (nar .char z63_s0)), (.int (nar .char v74)), (.int (0 : Int32))] (.int (0 : Int32)) := Arv.set Ar152 q152 S152 M152 H152 G152 (fits_nar_char _) W153 5 rfl (Nat.le_of_ble_eq_true rfl)
        obtain ⟨cl154, Ar154, q154, S154, M154, H154, G154⟩ := V_b141
        obtain ⟨T155, h155, X155, e155, W155, st155⟩ := stC X153 hx hZ e153 Ar154 (j := (6 : Int32)) (inb_of S154 (by decide)) (g := (mkF m 288 #[.val (.int p1), .val (.int p2), .val (.int p3), .val (.int p4), .val (.int v6), .val (.int v17), .val (.int v28), .val (.int v39), .val (.int z63_s0), .val (.int v74), .val (.int v86), .val (.int v98), .val (.int v104), .unset, .unset, .unset] [(.int v86), (.int (6 : Int32)), (.ref b141), (.ref b141), (.ref b140), (.ref b140)])) rfl rfl (hb hby at_288)
        have N155 := Fr.snoc X155 N153 g_b141
        have Zs : n0 ≤ h155.size := Nat.le_trans Zs (Keep.of_wr W155).1
        have Ol : Old Z n0 h155 := Ol.wr W155 g_b141
        have E_b140 : Exa Z h155 b140 "java/lang/String" := E_b140.wr W155
        have F_coder_b140 : Fld Z h155 b140 "java/lang/String" "coder" "B" (.int (0 : Int32)) := F_coder_b140.other W155 (Or.inl ne_b140_b141)
        have F_value_b140 : Fld Z h155 b140 "java/lang/String" "value" "[B" .null := F_value_b140.other W155 (Or.inl ne_b140_b141)
        have E_b141 : Exa Z h155 b141 "[C" := E_b141.wr W155
        have V_b141 : Arv Z h155 b141 k141 .char (7 : Int32) [(.int (nar .char v6)), (.int (nar .char v17)), (.int (nar .char v28)), (.int (nar .char v39)), (.int (nar .char z63_s0)), (.int (nar .char v74)), (.int (nar .char v86))] (.int (0 : Int32)) := Arv.set Ar154 q154 S154 M154 H154 G154 (fits_nar_char _) W155 6 rfl (Nat.le_of_ble_eq_true rfl)
        obtain ⟨_, _, ⟨T156, L156, k156, n156⟩, -, X156, ⟨Lc156, hQ156, l156, y156, z156⟩, st156⟩ := X155.specialBack hx (y := (⟨"java/lang/String", "<init>", "([C)V"⟩ : MethodName)) rfl hown (mvT hZ (hw _ (List.mem_of_getElem? (i := 8) rfl))) (mvT hZ (hw _ (List.mem_of_getElem? (i := 9) rfl))) (mvT hZ (hw _ (List.mem_of_getElem? (i := 10) rfl))) (by decide) (own_new (W := 1) hZ hw g_b140 Zs E_b140 F_value_b140 F_coder_b140 (cs := [(nar .char v6), (nar .char v17), (nar .char v28), (nar .char v39), (nar .char z63_s0), (nar .char v74), (nar .char v86)]) (n := 7) V_b141 (Sta.ext Ol.2 S_COMPACT_STRINGS) hzc rfl rfl (by decide) (by decide) (own_l7 B_v6 B_v17 B_v28 B_v39 B_z63_s0 B_v74 B_v86) (by decide) (by decide)) (g := (mkF m 289 #[.val (.int p1), .val (.int p2), .val (.int p3), .val (.int p4), .val (.int v6), .val (.int v17), .val (.int v28), .val (.int v39), .val (.int z63_s0), .val (.int v74), .val (.int v86), .val (.int v98), .val (.int v104), .unset, .unset, .unset] [(.ref b141), (.ref b140), (.ref b140)])) rfl (by rw [hml]; rfl) (Steps.refl _) (a := b140) (argsL := [(.ref b141)]) (rest := [(.ref b140)]) (lenOf pd_7 rfl) rfl (by show 2 * 0 + _ ≤ _; exact Nat.le_of_eq rfl) (hb hby at_289) (fun _ _ => ⟨rfl, e155, (by decide : 2 + 1 ≤ _), (by decide : 11 + 7 ≤ _)⟩)
        dsimp only [Pt.U, Pt.locs, Pt.cells, Pt.slots] at X156 l156 y156 z156 st156 hQ156
        subst l156 y156 z156
        obtain ⟨rfl, N156q, K156, T156x⟩ := hQ156
        have Zs : n0 ≤ T156.heap.size := Nat.le_trans Zs K156.1
        have Ol : Old Z n0 T156.heap := Ol.keep K156 (allS g_b140 all0)
        have E_b140 : Exa Z T156.heap b140 "java/lang/String" := E_b140.keep K156
        have E_b141 : Exa Z T156.heap b141 "[C" := E_b141.keep K156
        have T_b140 : Stx Z T156.heap b140 [(nar .char v6), (nar .char v17), (nar .char v28), (nar .char v39), (nar .char z63_s0), (nar .char v74), (nar .char v86)] := T156x
        have N156 := Fr.app N155 N156q
        obtain ⟨_, _, ⟨T157, L157, k157, n157⟩, -, X157, ⟨Lc157, hQ157, l157, y157, z157⟩, st157⟩ := Jvm.LawKit.callS X156 hx (y := (⟨"com/example/reta/reta/calendar/MonthsNumberPinLaw", "reference", "(ICCCCCCC)I"⟩ : MethodName)) hown (mvT hZ (hw _ (List.mem_of_getElem? (i := 34) rfl))) (mvT hZ (hw _ (List.mem_of_getElem? (i := 35) rfl))) (mvT hZ (hw _ (List.mem_of_getElem? (i := 2) rfl))) (mvT hZ (hw _ (List.mem_of_getElem? (i := 36) rfl))) (by decide) (backOf (W := 0) (rmRF l Z a0 hw [] (7 : Int32) v6 v17 v28 v39 z63_s0 v74 v86 T156.heap n0 Zs ) hZ (hw _ (List.mem_of_getElem? (i := 36) rfl)) (hw _ (List.mem_of_getElem? (i := 2) rfl)) (by decide) (by decide)) (g := (mkF m 314 #[.val (.int p1), .val (.int p2), .val (.int p3), .val (.int p4), .val (.int v6), .val (.int v17), .val (.int v28), .val (.int v39), .val (.int z63_s0), .val (.int v74), .val (.int v86), .val (.int v98), .val (.int v104), .val (.ref b140), .val (.int (7 : Int32)), .unset] [(.int v86), (.int v74), (.int z63_s0), (.int v39), (.int v28), (.int v17), (.int v6), (.int (7 : Int32))])) rfl (by rw [hml]; rfl) (argsL := [(.int (7 : Int32)), (.int v6), (.int v17), (.int v28), (.int v39), (.int z63_s0), (.int v74), (.int v86)]) (rest := []) (lenOf pd_5 rfl) rfl (by show 2 * 0 + _ ≤ _; exact Nat.le_of_eq rfl) (hb hby at_314) (fun _ _ => ⟨rfl, rfl, (by decide : 3 + 0 ≤ _), (by decide : 18 + 0 ≤ _)⟩)
        dsimp only [Pt.U, Pt.locs, Pt.cells, Pt.slots] at X157 l157 y157 z157 st157 hQ157
        subst l157 y157 z157
        obtain ⟨rfl, N157q, e157⟩ := hQ157
        have N157 := Fr.app N156 N157q
        obtain ⟨v317, hv317⟩ : ∃ z : Int32, z = (fRF (7 : Int32) v6 v17 v28 v39 z63_s0 v74 v86) := ⟨_, rfl⟩
        have pre158 : ∀ t, Steps p.tables e below (T157.setTop (mkF m 319 #[.val (.int p1), .val (.int p2), .val (.int p3), .val (.int p4), .val (.int v6), .val (.int v17), .val (.int v28), .val (.int v39), .val (.int z63_s0), .val (.int v74), .val (.int v86), .val (.int v98), .val (.int v104), .val (.ref b140), .val (.int (7 : Int32)), .val (.int v317)] [])) t → Steps p.tables e below (s₁.setTop (entryFrame m #[(.int p1), (.int p2), (.int p3), (.int p4)] maxLocals)) t := fun t k => pre113 t (by
          show Steps p.tables e below (T78.setTop (mkF m 180 #[.val (.int p1), .val (.int p2), .val (.int p3), .val (.int p4), .val (.int v6), .val (.int v17), .val (.int v28), .val (.int v39), .val (.int z63_s0), .val (.int v74), .val (.int v86), .val (.int v98), .val (.int v104), .unset, .unset, .unset] [(.int (2 : Int32)), (.int v104)])) _
          refine XS.icmpYes X78.here hx rfl (pc0 := 180) (pc' := 245) rfl (hb hby at_180) rfl (feq hc180).2 (by decide) (by decide) ?_
          show Steps p.tables e below (T78.setTop (mkF m 245 #[.val (.int p1), .val (.int p2), .val (.int p3), .val (.int p4), .val (.int v6), .val (.int v17), .val (.int v28), .val (.int v39), .val (.int z63_s0), .val (.int v74), .val (.int v86), .val (.int v98), .val (.int v104), .unset, .unset, .unset] [])) _
          refine st140 _ ?_
          show Steps p.tables e below (T140.setTop (mkF m 248 #[.val (.int p1), .val (.int p2), .val (.int p3), .val (.int p4), .val (.int v6), .val (.int v17), .val (.int v28), .val (.int v39), .val (.int z63_s0), .val (.int v74), .val (.int v86), .val (.int v98), .val (.int v104), .unset, .unset, .unset] [(.ref b140)])) _
          refine XS.dup X140.here hx rfl (hb hby at_248) rfl rfl ?_
          show Steps p.tables e below (T140.setTop (mkF m 249 #[.val (.int p1), .val (.int p2), .val (.int p3), .val (.int p4), .val (.int v6), .val (.int v17), .val (.int v28), .val (.int v39), .val (.int z63_s0), .val (.int v74), .val (.int v86), .val (.int v98), .val (.int v104), .unset, .unset, .unset] [(.ref b140), (.ref b140)])) _
          refine XS.bipush X140.here hx rfl (hb hby at_249) ?_
          show Steps p.tables e below (T140.setTop (mkF m 251 #[.val (.int p1), .val (.int p2), .val (.int p3), .val (.int p4), .val (.int v6), .val (.int v17), .val (.int v28), .val (.int v39), .val (.int z63_s0), .val (.int v74), .val (.int v86), .val (.int v98), .val (.int v104), .unset, .unset, .unset] [(.int (7 : Int32)), (.ref b140), (.ref b140)])) _
          refine st141 _ ?_
          show Steps p.tables e below (T141.setTop (mkF m 253 #[.val (.int p1), .val (.int p2), .val (.int p3), .val (.int p4), .val (.int v6), .val (.int v17), .val (.int v28), .val (.int v39), .val (.int z63_s0), .val (.int v74), .val (.int v86), .val (.int v98), .val (.int v104), .unset, .unset, .unset] [(.ref b141), (.ref b140), (.ref b140)])) _
          refine XS.dup X141.here hx rfl (hb hby at_253) rfl rfl ?_
          show Steps p.tables e below (T141.setTop (mkF m 254 #[.val (.int p1), .val (.int p2), .val (.int p3), .val (.int p4), .val (.int v6), .val (.int v17), .val (.int v28), .val (.int v39), .val (.int z63_s0), .val (.int v74), .val (.int v86), .val (.int v98), .val (.int v104), .unset, .unset, .unset] [(.ref b141), (.ref b141), (.ref b140), (.ref b140)])) _
          refine XS.iconst X141.here hx rfl (hb hby at_254) ?_
          show Steps p.tables e below (T141.setTop (mkF m 255 #[.val (.int p1), .val (.int p2), .val (.int p3), .val (.int p4), .val (.int v6), .val (.int v17), .val (.int v28), .val (.int v39), .val (.int z63_s0), .val (.int v74), .val (.int v86), .val (.int v98), .val (.int v104), .unset, .unset, .unset] [(.int (0 : Int32)), (.ref b141), (.ref b141), (.ref b140), (.ref b140)])) _
          refine XS.iload X141.here hx rfl (hb hby at_255) rfl ?_
          show Steps p.tables e below (T141.setTop (mkF m 257 #[.val (.int p1), .val (.int p2), .val (.int p3), .val (.int p4), .val (.int v6), .val (.int v17), .val (.int v28), .val (.int v39), .val (.int z63_s0), .val (.int v74), .val (.int v86), .val (.int v98), .val (.int v104), .unset, .unset, .unset] [(.int v6), (.int (0 : Int32)), (.ref b141), (.ref b141), (.ref b140), (.ref b140)])) _
          refine st143 _ ?_
          show Steps p.tables e below (T143.setTop (mkF m 258 #[.val (.int p1), .val (.int p2), .val (.int p3), .val (.int p4), .val (.int v6), .val (.int v17), .val (.int v28), .val (.int v39), .val (.int z63_s0), .val (.int v74), .val (.int v86), .val (.int v98), .val (.int v104), .unset, .unset, .unset] [(.ref b141), (.ref b140), (.ref b140)])) _
          refine XS.dup X143.here hx rfl (hb hby at_258) rfl rfl ?_
          show Steps p.tables e below (T143.setTop (mkF m 259 #[.val (.int p1), .val (.int p2), .val (.int p3), .val (.int p4), .val (.int v6), .val (.int v17), .val (.int v28), .val (.int v39), .val (.int z63_s0), .val (.int v74), .val (.int v86), .val (.int v98), .val (.int v104), .unset, .unset, .unset] [(.ref b141), (.ref b141), (.ref b140), (.ref b140)])) _
          refine XS.iconst X143.here hx rfl (hb hby at_259) ?_
          show Steps p.tables e below (T143.setTop (mkF m 260 #[.val (.int p1), .val (.int p2), .val (.int p3), .val (.int p4), .val (.int v6), .val (.int v17), .val (.int v28), .val (.int v39), .val (.int z63_s0), .val (.int v74), .val (.int v86), .val (.int v98), .val (.int v104), .unset, .unset, .unset] [(.int (1 : Int32)), (.ref b141), (.ref b141), (.ref b140), (.ref b140)])) _
          refine XS.iload X143.here hx rfl (hb hby at_260) rfl ?_
          show Steps p.tables e below (T143.setTop (mkF m 262 #[.val (.int p1), .val (.int p2), .val (.int p3), .val (.int p4), .val (.int v6), .val (.int v17), .val (.int v28), .val (.int v39), .val (.int z63_s0), .val (.int v74), .val (.int v86), .val (.int v98), .val (.int v104), .unset, .unset, .unset] [(.int v17), (.int (1 : Int32)), (.ref b141), (.ref b141), (.ref b140), (.ref b140)])) _
          refine st145 _ ?_
          show Steps p.tables e below (T145.setTop (mkF m 263 #[.val (.int p1), .val (.int p2), .val (.int p3), .val (.int p4), .val (.int v6), .val (.int v17), .val (.int v28), .val (.int v39), .val (.int z63_s0), .val (.int v74), .val (.int v86), .val (.int v98), .val (.int v104), .unset, .unset, .unset] [(.ref b141), (.ref b140), (.ref b140)])) _
          refine XS.dup X145.here hx rfl (hb hby at_263) rfl rfl ?_
          show Steps p.tables e below (T145.setTop (mkF m 264 #[.val (.int p1), .val (.int p2), .val (.int p3), .val (.int p4), .val (.int v6), .val (.int v17), .val (.int v28), .val (.int v39), .val (.int z63_s0), .val (.int v74), .val (.int v86), .val (.int v98), .val (.int v104), .unset, .unset, .unset] [(.ref b141), (.ref b141), (.ref b140), (.ref b140)])) _
          refine XS.iconst X145.here hx rfl (hb hby at_264) ?_
          show Steps p.tables e below (T145.setTop (mkF m 265 #[.val (.int p1), .val (.int p2), .val (.int p3), .val (.int p4), .val (.int v6), .val (.int v17), .val (.int v28), .val (.int v39), .val (.int z63_s0), .val (.int v74), .val (.int v86), .val (.int v98), .val (.int v104), .unset, .unset, .unset] [(.int (2 : Int32)), (.ref b141), (.ref b141), (.ref b140), (.ref b140)])) _
          refine XS.iload X145.here hx rfl (hb hby at_265) rfl ?_
          show Steps p.tables e below (T145.setTop (mkF m 267 #[.val (.int p1), .val (.int p2), .val (.int p3), .val (.int p4), .val (.int v6), .val (.int v17), .val (.int v28), .val (.int v39), .val (.int z63_s0), .val (.int v74), .val (.int v86), .val (.int v98), .val (.int v104), .unset, .unset, .unset] [(.int v28), (.int (2 : Int32)), (.ref b141), (.ref b141), (.ref b140), (.ref b140)])) _
          refine st147 _ ?_
          show Steps p.tables e below (T147.setTop (mkF m 268 #[.val (.int p1), .val (.int p2), .val (.int p3), .val (.int p4), .val (.int v6), .val (.int v17), .val (.int v28), .val (.int v39), .val (.int z63_s0), .val (.int v74), .val (.int v86), .val (.int v98), .val (.int v104), .unset, .unset, .unset] [(.ref b141), (.ref b140), (.ref b140)])) _
          refine XS.dup X147.here hx rfl (hb hby at_268) rfl rfl ?_
          show Steps p.tables e below (T147.setTop (mkF m 269 #[.val (.int p1), .val (.int p2), .val (.int p3), .val (.int p4), .val (.int v6), .val (.int v17), .val (.int v28), .val (.int v39), .val (.int z63_s0), .val (.int v74), .val (.int v86), .val (.int v98), .val (.int v104), .unset, .unset, .unset] [(.ref b141), (.ref b141), (.ref b140), (.ref b140)])) _
          refine XS.iconst X147.here hx rfl (hb hby at_269) ?_
          show Steps p.tables e below (T147.setTop (mkF m 270 #[.val (.int p1), .val (.int p2), .val (.int p3), .val (.int p4), .val (.int v6), .val (.int v17), .val (.int v28), .val (.int v39), .val (.int z63_s0), .val (.int v74), .val (.int v86), .val (.int v98), .val (.int v104), .unset, .unset, .unset] [(.int (3 : Int32)), (.ref b141), (.ref b141), (.ref b140), (.ref b140)])) _
          refine XS.iload X147.here hx rfl (hb hby at_270) rfl ?_
          show Steps p.tables e below (T147.setTop (mkF m 272 #[.val (.int p1), .val (.int p2), .val (.int p3), .val (.int p4), .val (.int v6), .val (.int v17), .val (.int v28), .val (.int v39), .val (.int z63_s0), .val (.int v74), .val (.int v86), .val (.int v98), .val (.int v104), .unset, .unset, .unset] [(.int v39), (.int (3 : Int32)), (.ref b141), (.ref b141), (.ref b140), (.ref b140)])) _
          refine st149 _ ?_
          show Steps p.tables e below (T149.setTop (mkF m 273 #[.val (.int p1), .val (.int p2), .val (.int p3), .val (.int p4), .val (.int v6), .val (.int v17), .val (.int v28), .val (.int v39), .val (.int z63_s0), .val (.int v74), .val (.int v86), .val (.int v98), .val (.int v104), .unset, .unset, .unset] [(.ref b141), (.ref b140), (.ref b140)])) _
          refine XS.dup X149.here hx rfl (hb hby at_273) rfl rfl ?_
          show Steps p.tables e below (T149.setTop (mkF m 274 #[.val (.int p1), .val (.int p2), .val (.int p3), .val (.int p4), .val (.int v6), .val (.int v17), .val (.int v28), .val (.int v39), .val (.int z63_s0), .val (.int v74), .val (.int v86), .val (.int v98), .val (.int v104), .unset, .unset, .unset] [(.ref b141), (.ref b141), (.ref b140), (.ref b140)])) _
          refine XS.iconst X149.here hx rfl (hb hby at_274) ?_
          show Steps p.tables e below (T149.setTop (mkF m 275 #[.val (.int p1), .val (.int p2), .val (.int p3), .val (.int p4), .val (.int v6), .val (.int v17), .val (.int v28), .val (.int v39), .val (.int z63_s0), .val (.int v74), .val (.int v86), .val (.int v98), .val (.int v104), .unset, .unset, .unset] [(.int (4 : Int32)), (.ref b141), (.ref b141), (.ref b140), (.ref b140)])) _
          refine XS.iload X149.here hx rfl (hb hby at_275) rfl ?_
          show Steps p.tables e below (T149.setTop (mkF m 277 #[.val (.int p1), .val (.int p2), .val (.int p3), .val (.int p4), .val (.int v6), .val (.int v17), .val (.int v28), .val (.int v39), .val (.int z63_s0), .val (.int v74), .val (.int v86), .val (.int v98), .val (.int v104), .unset, .unset, .unset] [(.int z63_s0), (.int (4 : Int32)), (.ref b141), (.ref b141), (.ref b140), (.ref b140)])) _
          refine st151 _ ?_
          show Steps p.tables e below (T151.setTop (mkF m 278 #[.val (.int p1), .val (.int p2), .val (.int p3), .val (.int p4), .val (.int v6), .val (.int v17), .val (.int v28), .val (.int v39), .val (.int z63_s0), .val (.int v74), .val (.int v86), .val (.int v98), .val (.int v104), .unset, .unset, .unset] [(.ref b141), (.ref b140), (.ref b140)])) _
          refine XS.dup X151.here hx rfl (hb hby at_278) rfl rfl ?_
          show Steps p.tables e below (T151.setTop (mkF m 279 #[.val (.int p1), .val (.int p2), .val (.int p3), .val (.int p4), .val (.int v6), .val (.int v17), .val (.int v28), .val (.int v39), .val (.int z63_s0), .val (.int v74), .val (.int v86), .val (.int v98), .val (.int v104), .unset, .unset, .unset] [(.ref b141), (.ref b141), (.ref b140), (.ref b140)])) _
          refine XS.iconst X151.here hx rfl (hb hby at_279) ?_
          show Steps p.tables e below (T151.setTop (mkF m 280 #[.val (.int p1), .val (.int p2), .val (.int p3), .val (.int p4), .val (.int v6), .val (.int v17), .val (.int v28), .val (.int v39), .val (.int z63_s0), .val (.int v74), .val (.int v86), .val (.int v98), .val (.int v104), .unset, .unset, .unset] [(.int (5 : Int32)), (.ref b141), (.ref b141), (.ref b140), (.ref b140)])) _
          refine XS.iload X151.here hx rfl (hb hby at_280) rfl ?_
          show Steps p.tables e below (T151.setTop (mkF m 282 #[.val (.int p1), .val (.int p2), .val (.int p3), .val (.int p4), .val (.int v6), .val (.int v17), .val (.int v28), .val (.int v39), .val (.int z63_s0), .val (.int v74), .val (.int v86), .val (.int v98), .val (.int v104), .unset, .unset, .unset] [(.int v74), (.int (5 : Int32)), (.ref b141), (.ref b141), (.ref b140), (.ref b140)])) _
          refine st153 _ ?_
          show Steps p.tables e below (T153.setTop (mkF m 283 #[.val (.int p1), .val (.int p2), .val (.int p3), .val (.int p4), .val (.int v6), .val (.int v17), .val (.int v28), .val (.int v39), .val (.int z63_s0), .val (.int v74), .val (.int v86), .val (.int v98), .val (.int v104), .unset, .unset, .unset] [(.ref b141), (.ref b140), (.ref b140)])) _
          refine XS.dup X153.here hx rfl (hb hby at_283) rfl rfl ?_
          show Steps p.tables e below (T153.setTop (mkF m 284 #[.val (.int p1), .val (.int p2), .val (.int p3), .val (.int p4), .val (.int v6), .val (.int v17), .val (.int v28), .val (.int v39), .val (.int z63_s0), .val (.int v74), .val (.int v86), .val (.int v98), .val (.int v104), .unset, .unset, .unset] [(.ref b141), (.ref b141), (.ref b140), (.ref b140)])) _
          refine XS.bipush X153.here hx rfl (hb hby at_284) ?_
          show Steps p.tables e below (T153.setTop (mkF m 286 #[.val (.int p1), .val (.int p2), .val (.int p3), .val (.int p4), .val (.int v6), .val (.int v17), .val (.int v28), .val (.int v39), .val (.int z63_s0), .val (.int v74), .val (.int v86), .val (.int v98), .val (.int v104), .unset, .unset, .unset] [(.int (6 : Int32)), (.ref b141), (.ref b141), (.ref b140), (.ref b140)])) _
          refine XS.iload X153.here hx rfl (hb hby at_286) rfl ?_
          show Steps p.tables e below (T153.setTop (mkF m 288 #[.val (.int p1), .val (.int p2), .val (.int p3), .val (.int p4), .val (.int v6), .val (.int v17), .val (.int v28), .val (.int v39), .val (.int z63_s0), .val (.int v74), .val (.int v86), .val (.int v98), .val (.int v104), .unset, .unset, .unset] [(.int v86), (.int (6 : Int32)), (.ref b141), (.ref b141), (.ref b140), (.ref b140)])) _
          refine st155 _ ?_
          show Steps p.tables e below (T155.setTop (mkF m 289 #[.val (.int p1), .val (.int p2), .val (.int p3), .val (.int p4), .val (.int v6), .val (.int v17), .val (.int v28), .val (.int v39), .val (.int z63_s0), .val (.int v74), .val (.int v86), .val (.int v98), .val (.int v104), .unset, .unset, .unset] [(.ref b141), (.ref b140), (.ref b140)])) _
          refine st156.trans ?_
          show Steps p.tables e below (T156.setTop (mkF m 292 #[.val (.int p1), .val (.int p2), .val (.int p3), .val (.int p4), .val (.int v6), .val (.int v17), .val (.int v28), .val (.int v39), .val (.int z63_s0), .val (.int v74), .val (.int v86), .val (.int v98), .val (.int v104), .unset, .unset, .unset] [(.ref b140)])) _
          refine XS.astore X156.here hx rfl (hb hby at_292) rfl rfl (l' := #[.val (.int p1), .val (.int p2), .val (.int p3), .val (.int p4), .val (.int v6), .val (.int v17), .val (.int v28), .val (.int v39), .val (.int z63_s0), .val (.int v74), .val (.int v86), .val (.int v98), .val (.int v104), .val (.ref b140), .unset, .unset]) rfl ?_
          show Steps p.tables e below (T156.setTop (mkF m 294 #[.val (.int p1), .val (.int p2), .val (.int p3), .val (.int p4), .val (.int v6), .val (.int v17), .val (.int v28), .val (.int v39), .val (.int z63_s0), .val (.int v74), .val (.int v86), .val (.int v98), .val (.int v104), .val (.ref b140), .unset, .unset] [])) _
          refine XS.bipush X156.here hx rfl (hb hby at_294) ?_
          show Steps p.tables e below (T156.setTop (mkF m 296 #[.val (.int p1), .val (.int p2), .val (.int p3), .val (.int p4), .val (.int v6), .val (.int v17), .val (.int v28), .val (.int v39), .val (.int z63_s0), .val (.int v74), .val (.int v86), .val (.int v98), .val (.int v104), .val (.ref b140), .unset, .unset] [(.int (7 : Int32))])) _
          refine XS.istore X156.here hx rfl (hb hby at_296) rfl (l' := #[.val (.int p1), .val (.int p2), .val (.int p3), .val (.int p4), .val (.int v6), .val (.int v17), .val (.int v28), .val (.int v39), .val (.int z63_s0), .val (.int v74), .val (.int v86), .val (.int v98), .val (.int v104), .val (.ref b140), .val (.int (7 : Int32)), .unset]) rfl ?_
          show Steps p.tables e below (T156.setTop (mkF m 298 #[.val (.int p1), .val (.int p2), .val (.int p3), .val (.int p4), .val (.int v6), .val (.int v17), .val (.int v28), .val (.int v39), .val (.int z63_s0), .val (.int v74), .val (.int v86), .val (.int v98), .val (.int v104), .val (.ref b140), .val (.int (7 : Int32)), .unset] [])) _
          refine XS.iload X156.here hx rfl (hb hby at_298) rfl ?_
          show Steps p.tables e below (T156.setTop (mkF m 300 #[.val (.int p1), .val (.int p2), .val (.int p3), .val (.int p4), .val (.int v6), .val (.int v17), .val (.int v28), .val (.int v39), .val (.int z63_s0), .val (.int v74), .val (.int v86), .val (.int v98), .val (.int v104), .val (.ref b140), .val (.int (7 : Int32)), .unset] [(.int (7 : Int32))])) _
          refine XS.iload X156.here hx rfl (hb hby at_300) rfl ?_
          show Steps p.tables e below (T156.setTop (mkF m 302 #[.val (.int p1), .val (.int p2), .val (.int p3), .val (.int p4), .val (.int v6), .val (.int v17), .val (.int v28), .val (.int v39), .val (.int z63_s0), .val (.int v74), .val (.int v86), .val (.int v98), .val (.int v104), .val (.ref b140), .val (.int (7 : Int32)), .unset] [(.int v6), (.int (7 : Int32))])) _
          refine XS.iload X156.here hx rfl (hb hby at_302) rfl ?_
          show Steps p.tables e below (T156.setTop (mkF m 304 #[.val (.int p1), .val (.int p2), .val (.int p3), .val (.int p4), .val (.int v6), .val (.int v17), .val (.int v28), .val (.int v39), .val (.int z63_s0), .val (.int v74), .val (.int v86), .val (.int v98), .val (.int v104), .val (.ref b140), .val (.int (7 : Int32)), .unset] [(.int v17), (.int v6), (.int (7 : Int32))])) _
          refine XS.iload X156.here hx rfl (hb hby at_304) rfl ?_
          show Steps p.tables e below (T156.setTop (mkF m 306 #[.val (.int p1), .val (.int p2), .val (.int p3), .val (.int p4), .val (.int v6), .val (.int v17), .val (.int v28), .val (.int v39), .val (.int z63_s0), .val (.int v74), .val (.int v86), .val (.int v98), .val (.int v104), .val (.ref b140), .val (.int (7 : Int32)), .unset] [(.int v28), (.int v17), (.int v6), (.int (7 : Int32))])) _
          refine XS.iload X156.here hx rfl (hb hby at_306) rfl ?_
          show Steps p.tables e below (T156.setTop (mkF m 308 #[.val (.int p1), .val (.int p2), .val (.int p3), .val (.int p4), .val (.int v6), .val (.int v17), .val (.int v28), .val (.int v39), .val (.int z63_s0), .val (.int v74), .val (.int v86), .val (.int v98), .val (.int v104), .val (.ref b140), .val (.int (7 : Int32)), .unset] [(.int v39), (.int v28), (.int v17), (.int v6), (.int (7 : Int32))])) _
          refine XS.iload X156.here hx rfl (hb hby at_308) rfl ?_
          show Steps p.tables e below (T156.setTop (mkF m 310 #[.val (.int p1), .val (.int p2), .val (.int p3), .val (.int p4), .val (.int v6), .val (.int v17), .val (.int v28), .val (.int v39), .val (.int z63_s0), .val (.int v74), .val (.int v86), .val (.int v98), .val (.int v104), .val (.ref b140), .val (.int (7 : Int32)), .unset] [(.int z63_s0), (.int v39), (.int v28), (.int v17), (.int v6), (.int (7 : Int32))])) _
          refine XS.iload X156.here hx rfl (hb hby at_310) rfl ?_
          show Steps p.tables e below (T156.setTop (mkF m 312 #[.val (.int p1), .val (.int p2), .val (.int p3), .val (.int p4), .val (.int v6), .val (.int v17), .val (.int v28), .val (.int v39), .val (.int z63_s0), .val (.int v74), .val (.int v86), .val (.int v98), .val (.int v104), .val (.ref b140), .val (.int (7 : Int32)), .unset] [(.int v74), (.int z63_s0), (.int v39), (.int v28), (.int v17), (.int v6), (.int (7 : Int32))])) _
          refine XS.iload X156.here hx rfl (hb hby at_312) rfl ?_
          show Steps p.tables e below (T156.setTop (mkF m 314 #[.val (.int p1), .val (.int p2), .val (.int p3), .val (.int p4), .val (.int v6), .val (.int v17), .val (.int v28), .val (.int v39), .val (.int z63_s0), .val (.int v74), .val (.int v86), .val (.int v98), .val (.int v104), .val (.ref b140), .val (.int (7 : Int32)), .unset] [(.int v86), (.int v74), (.int z63_s0), (.int v39), (.int v28), (.int v17), (.int v6), (.int (7 : Int32))])) _
          refine st157 _ ?_
          show Steps p.tables e below (T157.setTop (mkF m 317 #[.val (.int p1), .val (.int p2), .val (.int p3), .val (.int p4), .val (.int v6), .val (.int v17), .val (.int v28), .val (.int v39), .val (.int z63_s0), .val (.int v74), .val (.int v86), .val (.int v98), .val (.int v104), .val (.ref b140), .val (.int (7 : Int32)), .unset] [(.int (fRF (7 : Int32) v6 v17 v28 v39 z63_s0 v74 v86))])) _
          refine XS.istore X157.here hx rfl (hb hby at_317) rfl (l' := #[.val (.int p1), .val (.int p2), .val (.int p3), .val (.int p4), .val (.int v6), .val (.int v17), .val (.int v28), .val (.int v39), .val (.int z63_s0), .val (.int v74), .val (.int v86), .val (.int v98), .val (.int v104), .val (.ref b140), .val (.int (7 : Int32)), .val (.int (fRF (7 : Int32) v6 v17 v28 v39 z63_s0 v74 v86))]) rfl ?_
          rw [hv317] at k
          exact k)
        obtain ⟨_, _, ⟨T159, L159, k159, n159⟩, -, X159, h2159, g2159, ⟨Lc159, hQ159, l159, y159, z159, R159⟩, st159⟩ := callSS (s := (s.setVm s.vm)) X157 hx (y := (⟨"com/example/reta/reta/calendar/Months", "number", "(Ljava/lang/CharSequence;)I"⟩ : MethodName)) hown (mvT hZ (hw _ (List.mem_of_getElem? (i := 37) rfl))) (mvT hZ (hw _ (List.mem_of_getElem? (i := 38) rfl))) (mvT hZ (hw _ (List.mem_of_getElem? (i := 39) rfl))) (mvT hZ (hw _ (List.mem_of_getElem? (i := 40) rfl))) (by decide) (backOfSH (W := 0) (rmN7 l Z a0 hw [] b140 (nar .char v6) (nar .char v17) (nar .char v28) (nar .char v39) (nar .char z63_s0) (nar .char v74) (nar .char v86) zc fm T156.heap n0 Zs E_b140 T_b140 Ol S_COMPACT_STRINGS S_SIOOBE_FORMATTER hzc hfm S_HYPHEN) hZ (hw _ (List.mem_of_getElem? (i := 40) rfl)) (hw _ (List.mem_of_getElem? (i := 39) rfl)) (by decide) (by decide) hEL (CHv.ext Ol.2 hCH)) (g := (mkF m 321 #[.val (.int p1), .val (.int p2), .val (.int p3), .val (.int p4), .val (.int v6), .val (.int v17), .val (.int v28), .val (.int v39), .val (.int z63_s0), .val (.int v74), .val (.int v86), .val (.int v98), .val (.int v104), .val (.ref b140), .val (.int (7 : Int32)), .val (.int v317)] [(.ref b140)])) rfl (by rw [hml]; rfl) (argsL := [(.ref b140)]) (rest := []) (lenOf pd_6 rfl) rfl (by show 2 * 0 + _ ≤ _; exact Nat.le_of_eq rfl) (hb hby at_321) (fun _ _ => ⟨rfl, e157, (by decide : 3 + 2 ≤ _), (by decide : 18 + 32 ≤ _)⟩)
        dsimp only [Pt.U, Pt.locs, Pt.cells, Pt.slots] at X159 h2159 g2159 l159 y159 z159 st159 hQ159 R159
        subst l159 y159 z159
        obtain ⟨X159, hS159, hZ, hown⟩ := rebS ((State.WarmedH.refl s).since 0) (by rw [e157]; exact (Nat.zero_le _)) X159 h2159 g2159 hZ hown
        obtain ⟨rfl, N159q, K159⟩ := hQ159
        have Zs : n0 ≤ T159.heap.size := Nat.le_trans Zs K159.1
        have Ol : Old Z n0 T159.heap := Ol.keep K159 all0
        have E_b140 : Exa Z T159.heap b140 "java/lang/String" := E_b140.keep K159
        have E_b141 : Exa Z T159.heap b141 "[C" := E_b141.keep K159
        have T_b140 : Stx Z T159.heap b140 [(nar .char v6), (nar .char v17), (nar .char v28), (nar .char v39), (nar .char z63_s0), (nar .char v74), (nar .char v86)] := T_b140.keep K159
        have N159 := Fr.app N157 N159q
        have pre160 : ∀ t, Steps p.tables e below (T159.setTop (mkF m 326 #[.val (.int p1), .val (.int p2), .val (.int p3), .val (.int p4), .val (.int v6), .val (.int v17), .val (.int v28), .val (.int v39), .val (.int z63_s0), .val (.int v74), .val (.int v86), .val (.int v98), .val (.int v104), .val (.ref b140), .val (.int (7 : Int32)), .val (.int v317)] [(.int v317), (.int (fN7 (nar .char v6) (nar .char v17) (nar .char v28) (nar .char v39) (nar .char z63_s0) (nar .char v74) (nar .char v86)))])) t → Steps p.tables e below (s₁.setTop (entryFrame m #[(.int p1), (.int p2), (.int p3), (.int p4)] maxLocals)) t := fun t k => pre158 t (by
          show Steps p.tables e below (T157.setTop (mkF m 319 #[.val (.int p1), .val (.int p2), .val (.int p3), .val (.int p4), .val (.int v6), .val (.int v17), .val (.int v28), .val (.int v39), .val (.int z63_s0), .val (.int v74), .val (.int v86), .val (.int v98), .val (.int v104), .val (.ref b140), .val (.int (7 : Int32)), .val (.int v317)] [])) _
          refine XS.aload X157.here hx rfl (hb hby at_319) rfl rfl ?_
          show Steps p.tables e below (T157.setTop (mkF m 321 #[.val (.int p1), .val (.int p2), .val (.int p3), .val (.int p4), .val (.int v6), .val (.int v17), .val (.int v28), .val (.int v39), .val (.int z63_s0), .val (.int v74), .val (.int v86), .val (.int v98), .val (.int v104), .val (.ref b140), .val (.int (7 : Int32)), .val (.int v317)] [(.ref b140)])) _
          refine st159.trans ?_
          show Steps p.tables e below (T159.setTop (mkF m 324 #[.val (.int p1), .val (.int p2), .val (.int p3), .val (.int p4), .val (.int v6), .val (.int v17), .val (.int v28), .val (.int v39), .val (.int z63_s0), .val (.int v74), .val (.int v86), .val (.int v98), .val (.int v104), .val (.ref b140), .val (.int (7 : Int32)), .val (.int v317)] [(.int (fN7 (nar .char v6) (nar .char v17) (nar .char v28) (nar .char v39) (nar .char z63_s0) (nar .char v74) (nar .char v86)))])) _
          refine XS.iload X159.here hx rfl (hb hby at_324) rfl ?_
          exact k)
        obtain ⟨z334_s0_4, hz334_s0_4⟩ : ∃ z : Int32, z = (if (fN7 (nar .char v6) (nar .char v17) (nar .char v28) (nar .char v39) (nar .char z63_s0) (nar .char v74) (nar .char v86)) = v317 then (1 : Int32) else (0 : Int32)) := ⟨_, rfl⟩
        obtain ⟨T163, Lc163, X163, e163, N163, pre163⟩ : ∃ (T' : State) (locs' : List Loc), Stand p l e room_1 (s.setVm T159.vm) m #[(.int p1), (.int p2), (.int p3), (.int p4)] below meth c T' locs' 5 50 ∧ T'.heap = T159.heap ∧ Fr n0 locs' ∧ ∀ t, Steps p.tables e below (T'.setTop (mkF m 334 #[.val (.int p1), .val (.int p2), .val (.int p3), .val (.int p4), .val (.int v6), .val (.int v17), .val (.int v28), .val (.int v39), .val (.int z63_s0), .val (.int v74), .val (.int v86), .val (.int v98), .val (.int v104), .val (.ref b140), .val (.int (7 : Int32)), .val (.int v317)] [(.int z334_s0_4)])) t → Steps p.tables e below (s₁.setTop (entryFrame m #[(.int p1), (.int p2), (.int p3), (.int p4)] maxLocals)) t := by
          by_cases hc326 : (fN7 (nar .char v6) (nar .char v17) (nar .char v28) (nar .char v39) (nar .char z63_s0) (nar .char v74) (nar .char v86)) = v317
          ·
            have pre161 : ∀ t, Steps p.tables e below (T159.setTop (mkF m 334 #[.val (.int p1), .val (.int p2), .val (.int p3), .val (.int p4), .val (.int v6), .val (.int v17), .val (.int v28), .val (.int v39), .val (.int z63_s0), .val (.int v74), .val (.int v86), .val (.int v98), .val (.int v104), .val (.ref b140), .val (.int (7 : Int32)), .val (.int v317)] [(.int (1 : Int32))])) t → Steps p.tables e below (s₁.setTop (entryFrame m #[(.int p1), (.int p2), (.int p3), (.int p4)] maxLocals)) t := fun t k => pre160 t (by
              show Steps p.tables e below (T159.setTop (mkF m 326 #[.val (.int p1), .val (.int p2), .val (.int p3), .val (.int p4), .val (.int v6), .val (.int v17), .val (.int v28), .val (.int v39), .val (.int z63_s0), .val (.int v74), .val (.int v86), .val (.int v98), .val (.int v104), .val (.ref b140), .val (.int (7 : Int32)), .val (.int v317)] [(.int v317), (.int (fN7 (nar .char v6) (nar .char v17) (nar .char v28) (nar .char v39) (nar .char z63_s0) (nar .char v74) (nar .char v86)))])) _
              refine XS.icmpNo X159.here hx rfl (hb hby at_326) rfl (teq hc326).2 ?_
              show Steps p.tables e below (T159.setTop (mkF m 329 #[.val (.int p1), .val (.int p2), .val (.int p3), .val (.int p4), .val (.int v6), .val (.int v17), .val (.int v28), .val (.int v39), .val (.int z63_s0), .val (.int v74), .val (.int v86), .val (.int v98), .val (.int v104), .val (.ref b140), .val (.int (7 : Int32)), .val (.int v317)] [])) _
              refine XS.iconst X159.here hx rfl (hb hby at_329) ?_
              show Steps p.tables e below (T159.setTop (mkF m 330 #[.val (.int p1), .val (.int p2), .val (.int p3), .val (.int p4), .val (.int v6), .val (.int v17), .val (.int v28), .val (.int v39), .val (.int z63_s0), .val (.int v74), .val (.int v86), .val (.int v98), .val (.int v104), .val (.ref b140), .val (.int (7 : Int32)), .val (.int v317)] [(.int (1 : Int32))])) _
              refine XS.goto X159.here hx rfl (pc0 := 330) (pc' := 334) rfl (hb hby at_330) (by decide) (by decide) ?_
              exact k)
            have q_z334_s0_4 : z334_s0_4 = (1 : Int32) := by rw [hz334_s0_4, if_pos hc326]
            refine ⟨_, _, X159, rfl, N159, fun t k => ?_⟩
            rw [q_z334_s0_4] at k
            exact pre161 t k
          ·
            have pre162 : ∀ t, Steps p.tables e below (T159.setTop (mkF m 334 #[.val (.int p1), .val (.int p2), .val (.int p3), .val (.int p4), .val (.int v6), .val (.int v17), .val (.int v28), .val (.int v39), .val (.int z63_s0), .val (.int v74), .val (.int v86), .val (.int v98), .val (.int v104), .val (.ref b140), .val (.int (7 : Int32)), .val (.int v317)] [(.int (0 : Int32))])) t → Steps p.tables e below (s₁.setTop (entryFrame m #[(.int p1), (.int p2), (.int p3), (.int p4)] maxLocals)) t := fun t k => pre160 t (by
              show Steps p.tables e below (T159.setTop (mkF m 326 #[.val (.int p1), .val (.int p2), .val (.int p3), .val (.int p4), .val (.int v6), .val (.int v17), .val (.int v28), .val (.int v39), .val (.int z63_s0), .val (.int v74), .val (.int v86), .val (.int v98), .val (.int v104), .val (.ref b140), .val (.int (7 : Int32)), .val (.int v317)] [(.int v317), (.int (fN7 (nar .char v6) (nar .char v17) (nar .char v28) (nar .char v39) (nar .char z63_s0) (nar .char v74) (nar .char v86)))])) _
              refine XS.icmpYes X159.here hx rfl (pc0 := 326) (pc' := 333) rfl (hb hby at_326) rfl (feq hc326).2 (by decide) (by decide) ?_
              show Steps p.tables e below (T159.setTop (mkF m 333 #[.val (.int p1), .val (.int p2), .val (.int p3), .val (.int p4), .val (.int v6), .val (.int v17), .val (.int v28), .val (.int v39), .val (.int z63_s0), .val (.int v74), .val (.int v86), .val (.int v98), .val (.int v104), .val (.ref b140), .val (.int (7 : Int32)), .val (.int v317)] [])) _
              refine XS.iconst X159.here hx rfl (hb hby at_333) ?_
              exact k)
            have q_z334_s0_4 : z334_s0_4 = (0 : Int32) := by rw [hz334_s0_4, if_neg hc326]
            refine ⟨_, _, X159, rfl, N159, fun t k => ?_⟩
            rw [q_z334_s0_4] at k
            exact pre162 t k
        obtain rfl : z334_s0_4 = (1 : Int32) := own_law7 B_v6 B_v17 B_v28 B_v39 B_z63_s0 B_v74 B_v86 hv317 hz334_s0_4
        obtain ⟨fs, hr, hrun, hended, hRW⟩ := X163.leaveW (s := s) (vm₁ := T159.vm) hS159 (by rw [e163]; exact (Nat.le_refl _)) (v := some (.int (1 : Int32))) (fun h => by rw [Bd.returns] at h; cases h)
        have hCR := trivial
        refine ⟨_, _, pre163 _ ?_, hrun, hended, _, _, rfl, ?_, ⟨hRW.1, hRW.2.1, hRW.2.2.1, hRW.2.2.2.mono (by decide) (by decide)⟩⟩
        · show Steps p.tables e below (T163.setTop (mkF m 334 #[.val (.int p1), .val (.int p2), .val (.int p3), .val (.int p4), .val (.int v6), .val (.int v17), .val (.int v28), .val (.int v39), .val (.int z63_s0), .val (.int v74), .val (.int v86), .val (.int v98), .val (.int v104), .val (.ref b140), .val (.int (7 : Int32)), .val (.int v317)] [(.int (1 : Int32))])) _
          exact retN X163 hx (t := .boolean) Bd.returns (by simp) (hb hby at_334) hr
        · show Q0 Z p1 p2 p3 p4 zc fm h0 n0 _ T163.heap _
          rw [e163]
          exact ⟨rfl, N163⟩
set_option maxRecDepth 65536 in
set_option maxHeartbeats 40000000 in
theorem comes_1 {Post : Tables → Env → Array Value → State → Outcome → State → Prop} (hpost : ∀ tb e args s v u, (limb_1_1.after args s (.returned v) u = true ∧ limb_1_2.after args s (.returned v) u = true ∧ True) → ReturnedEndW s (.returned v) u (Jvm.fieldLocs frame_1_writes args s ++ Jvm.arrayLocs frame_1_arrays args s ++ Jvm.staticLocs frame_1_statics s) 24 2176 → Post tb e args s (.returned v) u) :
    ArmFor flags0 classFile x code maxLocals ret World_1 tables_1 room_1 Calls_1 rest_1 Pre_1 Post := by
  intro l hfl _ _ p e ha hc hk s m args below hf hA hF happ hP
  obtain ⟨hcalls, hrest, hpre⟩ := hP
  obtain ⟨-, -, -, hnamed, -, -, -, hat⟩ := (Spec.applies_iff hf).mp happ
  obtain ⟨hg, hn⟩ := and_e (Cond.before_iff.mp (show (Jvm.Cond.and given_1 narrow_1).before args s = true from hpre))
  obtain ⟨hcount, ha0⟩ := and_e hg
  obtain ⟨ga0, gb0⟩ := and_e ha0
  obtain ⟨ga1, gb1⟩ := and_e gb0
  obtain ⟨ga2, gb2⟩ := and_e gb1
  obtain ⟨w0, w1, w2, w3, rfl⟩ : ∃ w0 w1 w2 w3 : Value, args = #[w0, w1, w2, w3] := by
    have hs : args.size = 4 := by simpa [Cond.value, given_1] using hcount
    obtain ⟨L⟩ := args
    match L, hs with
    | [w0, w1, w2, w3], _ => exact ⟨w0, w1, w2, w3, rfl⟩
  have hw := fun d (hd : d ∈ tables_1) => atoms_spec (ws := Jvm.Cond.code x code maxLocals ret :: tables_1) hat d (List.mem_cons_of_mem _ hd)
  have hfit : Fit s := fun {y c} hc i hi => by
    obtain ⟨ha, rfl⟩ := Array.getElem?_eq_some_iff.mp hc
    have q := List.all_eq_true.mp ((Array.all_eq_true_iff_forall_mem.mp hF) _ (Array.getElem_mem ha)) i (List.mem_range.mpr hi)
    simpa [Array.getElem?_eq_getElem hi] using q
  obtain ⟨hsets, hown0⟩ := atoms_of _ (rest_1_c_eq ▸ (show rest_1_c.before _ s = true from hrest))
  obtain ⟨i0, ei0⟩ := is_v ga0
  obtain rfl : w0 = (.int i0) := Option.some.inj ei0
  obtain ⟨i1, ei1⟩ := is_v ga1
  obtain rfl : w1 = (.int i1) := Option.some.inj ei1
  obtain ⟨i2, ei2⟩ := is_v ga2
  obtain rfl : w2 = (.int i2) := Option.some.inj ei2
  obtain ⟨i3, ei3⟩ := is_v gb2
  obtain rfl : w3 = (.int i3) := Option.some.inj ei3
  have n5 := not_v (Cond.before_iff.mp (hsets _ (List.mem_of_getElem? (i := 2) rfl)))
  obtain ⟨zc, e10⟩ := is_v (Cond.before_iff.mp (hsets _ (List.mem_of_getElem? (i := 1) rfl)))
  have S_CS : Sta s s.heap "java/lang/String" "COMPACT_STRINGS" "Z" (.int zc) := Sta.start e10 (Or.inl (hsets _ (List.mem_of_getElem? (i := 0) rfl)))
  obtain ⟨fm, e14, hfm⟩ := isR_v (Cond.before_iff.mp (hsets _ (List.mem_of_getElem? (i := 8) rfl)))
  have S_FM : Sta s s.heap "jdk/internal/util/Preconditions" "SIOOBE_FORMATTER" "Ljava/util/function/BiFunction;" fm := Sta.start e14 (Or.inl (hsets _ (List.mem_of_getElem? (i := 7) rfl)))
  have hzc : ¬ zc = 0 := gotF (Cond.eq_ints e10 (Term.int_eval (0))) n5
  have S_HY : Sta s s.heap "com/example/reta/reta/calendar/Months" "HYPHEN" "I" (.int (4 : Int32)) := Sta.start (own_eqi (Cond.before_iff.mpr hn)) (Or.inr ⟨(hw _ (List.mem_of_getElem? (i := 39) rfl)), (hw _ (List.mem_of_getElem? (i := 66) rfl))⟩)
  have hh : ∀ p ∈ ELs, Jvm.Lit.constHeld s p.1 p.2 := fun p hp => hcalls.1 p hp
  have hCH := CHv.start (own_EL hw) hh (hsets _ (List.mem_of_getElem? (i := 2) rfl)) (hw _ (List.mem_of_getElem? (i := 23) rfl)) (hw _ (List.mem_of_getElem? (i := 5) rfl))
  obtain ⟨n, o, h1, h2, h3, _, L, rfl, ⟨rfl, N⟩, hq⟩ := rm0 l s _ hw tables_1 i0 i1 i2 i3 zc fm s.heap s.heap.size (Nat.le_refl _) (Old.start s) S_CS S_FM hzc hfm S_HY p e ha hc hk s m _ below hf ((Spec.applies_iff_loose hf).mp happ).1 ⟨rfl, State.Warmed39.refl s, rfl, hCH⟩ trivial
  refine ⟨n, _, h1, h2, h3, hpost _ _ _ _ _ _ ⟨Cond.after_iff.mpr rfl, Cond.after_iff.mpr (eq_i res_at (Term.int_eval (1)) rfl), trivial⟩ ⟨hq.1, hq.2.1, hq.2.2.1, (hq.2.2.2.sift fun y hy => Or.inr (N y hy)).mono (by decide) (by decide)⟩⟩
theorem main_1_1 : Claimed_1_1 := comes_1 fun _ _ _ _ _ _ h hF => ⟨h.1, hF⟩
theorem main_1_2 : Claimed_1_2 := comes_1 fun _ _ _ _ _ _ h hF => ⟨h.2.1, hF⟩
end Jvm.Pilot.@@N@@
namespace Jvm.Pilot.@@N@@
open Jvm Jvm.ClassFile Sem Op Lib Jvm.Free Jvm.Stand Jvm.Pilot.@@N@@.Jvm.D
/-! MADE BY PROGRAM (witnessworld.py) out of the Statement's table words and the real class files: 20 classes; the members and pool entries that the words name. The judged class is class 1, her method 1. -/
namespace start1
open Jvm.ClassFile
def u (s : String) : CpInfo := .utf8 (stringToUtf16 s)
/-- a pool by its gaps: so many unusable entries, then the entry; so many at the end -/
def gap : Nat → List CpInfo → List CpInfo
  | 0, r => r
  | n + 1, r => .unusable :: gap n r
def poolList (es : List (Nat × CpInfo)) (last : Nat) : List CpInfo := es.foldr (fun e r => gap e.1 (e.2 :: r)) (gap last [])
def pool (es : List (Nat × CpInfo)) (last : Nat) : Array CpInfo := ⟨poolList es last⟩
def fileOf (pool : Array CpInfo) (this : Nat) (attrs : Array Attribute := #[]) (ms : Array MethodInfo := #[]) (fl : Nat := 33) (sup : Nat := 0) (ifs : Array Nat := #[]) (fds : Array FieldInfo := #[]) : ClassFile where
  minorVersion := 0
  majorVersion := 65
  constantPool := pool
  accessFlags := fl
  thisClass := this
  superClass := sup
  interfaces := ifs
  fields := fds
  methods := ms
  attributes := attrs
def plain (name : String) (sup : Option ClassId) : Class where
  name := name
  kind := .ordinary
  loader := none
  accessFlags := 33
  super := sup
  interfaces := #[]
  cf := none
  fields := #[]
  methods := #[]
  instanceTypes := #[]
  staticTypes := #[]
  resolved := #[]
  callSites := []
  init := .initialized
  statics := none
  mirror := none

def pool0 : Array CpInfo := pool [(5, u "<init>"), (0, u "()V"), (1, .class_ 10), (1, u "java/lang/Object")] 113

def k0c0 : Code := { maxStack := 0, maxLocals := 1, code := object_method_1_code, exceptionTable := #[], attributes := #[] }
def k0m0 : Method := { name := "<init>", desc := "()V", sig := { parameters := [], returnType := none }, accessFlags := 1, code := some k0c0 }
/-- java/lang/Object -/
def k0 : Class := { plain "java/lang/Object" none with
  accessFlags := 33
  interfaces := #[]
  cf := some (fileOf pool0 8 #[] #[{ accessFlags := 1, nameIndex := 5, descriptorIndex := 6, attributes := #[] }] 33 0 #[] #[])
  fields := #[]
  methods := #[k0m0]
  instanceTypes := #[]
  staticTypes := #[]
  resolved := Array.replicate 124 none
  statics := none }

def pool1 : Array CpInfo := pool [(2, .class_ 4), (1, u "java/lang/Object"), (0, u "<init>"), (0, u "()V"), (0, .methodref 8 9), (0, .class_ 10), (0, .nameAndType 11 12), (0, u "com/example/reta/reta/calendar/MonthsNumberPinLaw"), (0, u "pick"), (0, u "(III)C"), (0, .string 14), (0, u ""), (0, .class_ 16), (0, u "java/lang/String"), (0, .methodref 15 18), (0, .nameAndType 5 19), (0, u "([C)V"), (0, .methodref 8 21), (0, .nameAndType 22 23), (0, u "reference"), (0, u "(ICCCCCCC)I"), (0, .methodref 25 26), (0, .class_ 27), (0, .nameAndType 28 29), (0, u "com/example/reta/reta/calendar/Months"), (0, u "number"), (0, u "(Ljava/lang/CharSequence;)I"), (0, .methodref 8 31), (0, .nameAndType 32 33), (0, u "dig"), (0, u "(C)I"), (2, u "law"), (0, u "(IIII)Z")] 3

def k1m0 : Method := { name := "<init>", desc := "()V", sig := { parameters := [], returnType := none }, accessFlags := 2, code := none }
def k1c1 : Code := { maxStack := 8, maxLocals := 16, code := code, exceptionTable := #[], attributes := #[] }
def k1m1 : Method := { name := "law", desc := "(IIII)Z", sig := { parameters := [.int, .int, .int, .int], returnType := some .boolean }, accessFlags := 9, code := some k1c1 }
def k1c2 : Code := { maxStack := 3, maxLocals := 4, code := method_3_code, exceptionTable := #[], attributes := #[] }
def k1m2 : Method := { name := "pick", desc := "(III)C", sig := { parameters := [.int, .int, .int], returnType := some .char }, accessFlags := 10, code := some k1c2 }
def k1c3 : Code := { maxStack := 2, maxLocals := 1, code := method_4_code, exceptionTable := #[], attributes := #[] }
def k1m3 : Method := { name := "dig", desc := "(C)I", sig := { parameters := [.char], returnType := some .int }, accessFlags := 10, code := some k1c3 }
def k1c4 : Code := { maxStack := 3, maxLocals := 16, code := method_5_code, exceptionTable := #[], attributes := #[] }
def k1m4 : Method := { name := "reference", desc := "(ICCCCCCC)I", sig := { parameters := [.int, .char, .char, .char, .char, .char, .char, .char], returnType := some .int }, accessFlags := 10, code := some k1c4 }
/-- com/example/reta/reta/calendar/MonthsNumberPinLaw -/
def k1 : Class := { plain "com/example/reta/reta/calendar/MonthsNumberPinLaw" (some 0) with
  accessFlags := 49
  interfaces := #[]
  cf := some (fileOf pool1 8 #[] #[{ accessFlags := 2, nameIndex := 5, descriptorIndex := 6, attributes := #[] }, { accessFlags := 9, nameIndex := 36, descriptorIndex := 37, attributes := #[] }, { accessFlags := 10, nameIndex := 11, descriptorIndex := 12, attributes := #[] }, { accessFlags := 10, nameIndex := 32, descriptorIndex := 33, attributes := #[] }, { accessFlags := 10, nameIndex := 22, descriptorIndex := 23, attributes := #[] }] 49 2 #[] #[])
  fields := #[]
  methods := #[k1m0, k1m1, k1m2, k1m3, k1m4]
  instanceTypes := #[]
  staticTypes := #[]
  resolved := Array.replicate 41 none
  statics := none }

def pool2 : Array CpInfo := pool [(1, .class_ 2), (0, u "java/io/Serializable"), (0, .class_ 4), (0, u "java/lang/Object")] 2

/-- java/io/Serializable -/
def k2 : Class := { plain "java/io/Serializable" (some 0) with
  accessFlags := 1537
  interfaces := #[]
  cf := some (fileOf pool2 1 #[] #[] 1537 3 #[] #[])
  fields := #[]
  methods := #[]
  instanceTypes := #[]
  staticTypes := #[]
  resolved := Array.replicate 7 none
  statics := none }

def pool3 : Array CpInfo := pool [(1, .class_ 2), (0, u "java/lang/Comparable"), (0, .class_ 4), (0, u "java/lang/Object")] 7

/-- java/lang/Comparable -/
def k3 : Class := { plain "java/lang/Comparable" (some 0) with
  accessFlags := 1537
  interfaces := #[]
  cf := some (fileOf pool3 1 #[] #[] 1537 3 #[] #[])
  fields := #[]
  methods := #[]
  instanceTypes := #[]
  staticTypes := #[]
  resolved := Array.replicate 12 none
  statics := none }

def pool4 : Array CpInfo := pool [(2, .class_ 4), (1, u "java/lang/CharSequence"), (0, u "length"), (0, u "()I"), (38, u "charAt"), (0, u "(I)C"), (0, .class_ 48), (0, u "java/lang/CharSequence$1CodePointIterator"), (10, .class_ 60), (0, u "java/lang/CharSequence$1CharIterator"), (5, .class_ 67), (0, u "java/lang/Object")] 63

def k4m0 : Method := { name := "length", desc := "()I", sig := { parameters := [], returnType := some .int }, accessFlags := 1025, code := none }
def k4m1 : Method := { name := "charAt", desc := "(I)C", sig := { parameters := [.int], returnType := some .char }, accessFlags := 1025, code := none }
/-- java/lang/CharSequence -/
def k4 : Class := { plain "java/lang/CharSequence" (some 0) with
  accessFlags := 1537
  interfaces := #[]
  cf := some (fileOf pool4 2 #[.nestMembers #[47, 59]] #[{ accessFlags := 1025, nameIndex := 5, descriptorIndex := 6, attributes := #[] }, { accessFlags := 1025, nameIndex := 45, descriptorIndex := 46, attributes := #[] }] 1537 66 #[] #[])
  fields := #[]
  methods := #[k4m0, k4m1]
  instanceTypes := #[]
  staticTypes := #[]
  resolved := Array.replicate 131 none
  statics := none }

def pool5 : Array CpInfo := pool [(1, .class_ 2), (0, u "java/lang/constant/Constable"), (0, .class_ 4), (0, u "java/lang/Object")] 6

/-- java/lang/constant/Constable -/
def k5 : Class := { plain "java/lang/constant/Constable" (some 0) with
  accessFlags := 1537
  interfaces := #[]
  cf := some (fileOf pool5 1 #[] #[] 1537 3 #[] #[])
  fields := #[]
  methods := #[]
  instanceTypes := #[]
  staticTypes := #[]
  resolved := Array.replicate 11 none
  statics := none }

def pool6 : Array CpInfo := pool [(1, .class_ 2), (0, u "java/lang/constant/ConstantDesc"), (0, .class_ 4), (0, u "java/lang/Object")] 32

/-- java/lang/constant/ConstantDesc -/
def k6 : Class := { plain "java/lang/constant/ConstantDesc" (some 0) with
  accessFlags := 1537
  interfaces := #[]
  cf := some (fileOf pool6 1 #[] #[] 1537 3 #[] #[])
  fields := #[]
  methods := #[]
  instanceTypes := #[]
  staticTypes := #[]
  resolved := Array.replicate 37 none
  statics := none }

def pool7 : Array CpInfo := pool [(1, .methodref 2 3), (0, .class_ 4), (0, .nameAndType 5 6), (0, u "java/lang/Object"), (0, u "<init>"), (0, u "()V"), (2, .fieldref 10 11), (0, .class_ 12), (0, .nameAndType 13 14), (0, u "java/lang/String"), (0, u "value"), (0, u "[B"), (0, .fieldref 10 16), (0, .nameAndType 17 18), (0, u "coder"), (0, u "B"), (2, u "hash"), (0, u "I"), (2, u "hashIsZero"), (0, u "Z"), (0, .methodref 10 28), (0, .nameAndType 5 29), (0, u "([CIILjava/lang/Void;)V"), (8, .fieldref 10 39), (0, .nameAndType 40 26), (0, u "COMPACT_STRINGS"), (1, .class_ 44), (1, u "java/lang/StringUTF16"), (0, u "compress"), (1, .methodref 42 48), (0, .nameAndType 49 50), (0, u "coderFromArrayLen"), (0, u "([BI)B"), (56, .class_ 109), (1, u "java/lang/StringLatin1"), (32, u "()Z"), (34, .methodref 42 178), (0, .nameAndType 45 179), (0, u "([CII)[B"), (154, u "()I"), (0, .methodref 10 336), (0, .nameAndType 17 337), (0, u "()B"), (25, u "([BI)C"), (27, u "(II)V"), (35, u "(I)C"), (64, .methodref 10 493), (0, .nameAndType 494 142), (0, u "isLatin1"), (0, .methodref 107 496), (0, .nameAndType 497 363), (0, u "charAt"), (3, u "checkIndex"), (5, u "length"), (67, .class_ 576), (0, u "java/lang/CharSequence"), (22, u "CASE_INSENSITIVE_ORDER"), (0, u "Ljava/util/Comparator;"), (409, u "([C)V"), (42, .fieldref 1054 1055), (0, .class_ 1056), (0, .nameAndType 1057 1058), (0, u "jdk/internal/util/Preconditions"), (0, u "SIOOBE_FORMATTER"), (0, u "Ljava/util/function/BiFunction;"), (0, .methodref 1054 1060), (0, .nameAndType 501 1061), (0, u "(IILjava/util/function/BiFunction;)I"), (39, u "serialPersistentFields"), (0, u "[Ljava/io/ObjectStreamField;"), (0, .class_ 1104), (0, u "java/lang/String$CaseInsensitiveComparator"), (1, .class_ 1107), (0, u "java/io/Serializable"), (0, .class_ 1109), (0, u "java/lang/Comparable"), (0, .class_ 1111), (0, u "java/lang/constant/Constable"), (0, .class_ 1113), (0, u "java/lang/constant/ConstantDesc"), (2, u "serialVersionUID"), (0, u "J"), (3, u "REPL"), (0, u "C"), (2, u "LATIN1"), (1, u "UTF16")] 323

def k7m0 : Method := { name := "<init>", desc := "()V", sig := { parameters := [], returnType := none }, accessFlags := 1, code := none }
def k7c1 : Code := { maxStack := 5, maxLocals := 2, code := jdk_42_method_3_code, exceptionTable := #[], attributes := #[] }
def k7m1 : Method := { name := "<init>", desc := "([C)V", sig := { parameters := [(.array .char)], returnType := none }, accessFlags := 1, code := some k7c1 }
def k7c2 : Code := { maxStack := 2, maxLocals := 1, code := jdk_42_method_54_code, exceptionTable := #[], attributes := #[] }
def k7m2 : Method := { name := "length", desc := "()I", sig := { parameters := [], returnType := some .int }, accessFlags := 1, code := some k7c2 }
def k7c3 : Code := { maxStack := 2, maxLocals := 2, code := jdk_42_method_56_code, exceptionTable := #[], attributes := #[] }
def k7m3 : Method := { name := "charAt", desc := "(I)C", sig := { parameters := [.int], returnType := some .char }, accessFlags := 1, code := some k7c3 }
def k7c4 : Code := { maxStack := 4, maxLocals := 6, code := jdk_42_method_149_code, exceptionTable := #[], attributes := #[] }
def k7m4 : Method := { name := "<init>", desc := "([CIILjava/lang/Void;)V", sig := { parameters := [(.array .char), .int, .int, (.object "java/lang/Void")], returnType := none }, accessFlags := 2, code := some k7c4 }
def k7c5 : Code := { maxStack := 1, maxLocals := 1, code := jdk_42_method_152_code, exceptionTable := #[], attributes := #[] }
def k7m5 : Method := { name := "coder", desc := "()B", sig := { parameters := [], returnType := some .byte }, accessFlags := 0, code := some k7c5 }
def k7c6 : Code := { maxStack := 1, maxLocals := 1, code := jdk_42_method_154_code, exceptionTable := #[], attributes := #[] }
def k7m6 : Method := { name := "isLatin1", desc := "()Z", sig := { parameters := [], returnType := some .boolean }, accessFlags := 0, code := some k7c6 }
def k7c7 : Code := { maxStack := 3, maxLocals := 2, code := jdk_42_method_155_code, exceptionTable := #[], attributes := #[] }
def k7m7 : Method := { name := "checkIndex", desc := "(II)V", sig := { parameters := [.int, .int], returnType := none }, accessFlags := 8, code := some k7c7 }
/-- java/lang/String -/
def k7 : Class := { plain "java/lang/String" (some 0) with
  accessFlags := 49
  interfaces := #[2, 3, 4, 5, 6]
  cf := some (fileOf pool7 10 #[.nestMembers #[1103]] #[{ accessFlags := 1, nameIndex := 5, descriptorIndex := 6, attributes := #[] }, { accessFlags := 1, nameIndex := 5, descriptorIndex := 1010, attributes := #[] }, { accessFlags := 1, nameIndex := 507, descriptorIndex := 334, attributes := #[] }, { accessFlags := 1, nameIndex := 497, descriptorIndex := 427, attributes := #[] }, { accessFlags := 2, nameIndex := 5, descriptorIndex := 29, attributes := #[] }, { accessFlags := 0, nameIndex := 17, descriptorIndex := 337, attributes := #[] }, { accessFlags := 0, nameIndex := 494, descriptorIndex := 142, attributes := #[] }, { accessFlags := 8, nameIndex := 501, descriptorIndex := 391, attributes := #[] }] 49 2 #[1106, 1108, 575, 1110, 1112] #[{ accessFlags := 18, nameIndex := 13, descriptorIndex := 14, attributes := #[] }, { accessFlags := 18, nameIndex := 17, descriptorIndex := 18, attributes := #[] }, { accessFlags := 2, nameIndex := 21, descriptorIndex := 22, attributes := #[] }, { accessFlags := 2, nameIndex := 25, descriptorIndex := 26, attributes := #[] }, { accessFlags := 26, nameIndex := 1116, descriptorIndex := 1117, attributes := #[] }, { accessFlags := 24, nameIndex := 40, descriptorIndex := 26, attributes := #[] }, { accessFlags := 26, nameIndex := 1101, descriptorIndex := 1102, attributes := #[] }, { accessFlags := 26, nameIndex := 1121, descriptorIndex := 1122, attributes := #[] }, { accessFlags := 25, nameIndex := 599, descriptorIndex := 600, attributes := #[] }, { accessFlags := 24, nameIndex := 1125, descriptorIndex := 18, attributes := #[] }, { accessFlags := 24, nameIndex := 1127, descriptorIndex := 18, attributes := #[] }])
  fields := #[{ name := "value", type := (.array .byte), accessFlags := 18, slot := 0, constantValue := 0 }, { name := "coder", type := .byte, accessFlags := 18, slot := 1, constantValue := 0 }, { name := "hash", type := .int, accessFlags := 2, slot := 2, constantValue := 0 }, { name := "hashIsZero", type := .boolean, accessFlags := 2, slot := 3, constantValue := 0 }, { name := "serialVersionUID", type := .long, accessFlags := 26, slot := 0, constantValue := 0 }, { name := "COMPACT_STRINGS", type := .boolean, accessFlags := 24, slot := 1, constantValue := 0 }, { name := "serialPersistentFields", type := (.array (.object "java/io/ObjectStreamField")), accessFlags := 26, slot := 2, constantValue := 0 }, { name := "REPL", type := .char, accessFlags := 26, slot := 3, constantValue := 0 }, { name := "CASE_INSENSITIVE_ORDER", type := (.object "java/util/Comparator"), accessFlags := 25, slot := 4, constantValue := 0 }, { name := "LATIN1", type := .byte, accessFlags := 24, slot := 5, constantValue := 0 }, { name := "UTF16", type := .byte, accessFlags := 24, slot := 6, constantValue := 0 }]
  methods := #[k7m0, k7m1, k7m2, k7m3, k7m4, k7m5, k7m6, k7m7]
  instanceTypes := #[(.array .byte), .byte, .int, .boolean]
  staticTypes := #[.long, .boolean, (.array (.object "java/io/ObjectStreamField")), .char, (.object "java/util/Comparator"), .byte, .byte]
  resolved := Array.replicate 1451 none
  statics := some 0 }

def pool8 : Array CpInfo := pool [(6, .class_ 8), (1, u "java/lang/Object"), (0, u "<init>"), (0, u "()V"), (1, .class_ 14), (1, u "java/lang/StringUTF16"), (31, u "$assertionsDisabled"), (0, u "Z"), (13, u "HI_BYTE_SHIFT"), (0, u "I"), (2, u "LO_BYTE_SHIFT"), (49, .methodref 12 116), (0, .nameAndType 117 118), (0, u "compress"), (0, u "([CI[BII)I"), (3, u "([CII)[B"), (138, u "coderFromArrayLen"), (0, u "([BI)B"), (106, .class_ 371), (1, u "java/lang/StringUTF16$LinesSpliterator"), (58, u "MAX_LENGTH"), (196, .class_ 628), (0, u "java/lang/StringUTF16$CodePointsSpliterator"), (0, .class_ 630), (0, u "java/lang/StringUTF16$CharsSpliterator")] 4

def k8m0 : Method := { name := "<init>", desc := "()V", sig := { parameters := [], returnType := none }, accessFlags := 0, code := none }
def k8c1 : Code := { maxStack := 2, maxLocals := 2, code := jdk_52_method_15_code, exceptionTable := #[], attributes := #[] }
def k8m1 : Method := { name := "coderFromArrayLen", desc := "([BI)B", sig := { parameters := [(.array .byte), .int], returnType := some .byte }, accessFlags := 8, code := some k8c1 }
def k8c2 : Code := { maxStack := 5, maxLocals := 6, code := jdk_52_method_16_code, exceptionTable := #[], attributes := #[] }
def k8m2 : Method := { name := "compress", desc := "([CII)[B", sig := { parameters := [(.array .char), .int, .int], returnType := some (.array .byte) }, accessFlags := 9, code := some k8c2 }
def k8c3 : Code := { maxStack := 3, maxLocals := 7, code := jdk_52_method_21_code, exceptionTable := #[], attributes := #[] }
def k8m3 : Method := { name := "compress", desc := "([CI[BII)I", sig := { parameters := [(.array .char), .int, (.array .byte), .int, .int], returnType := some .int }, accessFlags := 9, code := some k8c3 }
/-- java/lang/StringUTF16 -/
def k8 : Class := { plain "java/lang/StringUTF16" (some 0) with
  accessFlags := 48
  interfaces := #[]
  cf := some (fileOf pool8 12 #[.nestMembers #[627, 629, 369]] #[{ accessFlags := 0, nameIndex := 9, descriptorIndex := 10, attributes := #[] }, { accessFlags := 8, nameIndex := 261, descriptorIndex := 262, attributes := #[] }, { accessFlags := 9, nameIndex := 117, descriptorIndex := 122, attributes := #[] }, { accessFlags := 9, nameIndex := 117, descriptorIndex := 118, attributes := #[] }] 48 6 #[] #[{ accessFlags := 26, nameIndex := 61, descriptorIndex := 62, attributes := #[] }, { accessFlags := 26, nameIndex := 65, descriptorIndex := 62, attributes := #[] }, { accessFlags := 24, nameIndex := 430, descriptorIndex := 62, attributes := #[] }, { accessFlags := 4120, nameIndex := 46, descriptorIndex := 47, attributes := #[] }])
  fields := #[{ name := "HI_BYTE_SHIFT", type := .int, accessFlags := 26, slot := 0, constantValue := 0 }, { name := "LO_BYTE_SHIFT", type := .int, accessFlags := 26, slot := 1, constantValue := 0 }, { name := "MAX_LENGTH", type := .int, accessFlags := 24, slot := 2, constantValue := 0 }, { name := "$assertionsDisabled", type := .boolean, accessFlags := 4120, slot := 3, constantValue := 0 }]
  methods := #[k8m0, k8m1, k8m2, k8m3]
  instanceTypes := #[]
  staticTypes := #[.int, .int, .int, .boolean]
  resolved := Array.replicate 635 none
  statics := none }

def pool9 : Array CpInfo := pool [(2, .class_ 4), (1, u "java/lang/Object"), (0, u "<init>"), (0, u "()V"), (0, .class_ 8), (0, u "com/example/reta/reta/calendar/Months"), (0, .interfaceMethodref 10 11), (0, .class_ 12), (0, .nameAndType 13 14), (0, u "java/lang/CharSequence"), (0, u "length"), (0, u "()I"), (0, .string 16), (0, u "AAAA-MM"), (0, .methodref 18 11), (0, .class_ 19), (0, u "java/lang/String"), (0, .fieldref 7 21), (0, .nameAndType 22 23), (0, u "HYPHEN"), (0, u "I"), (0, .interfaceMethodref 10 25), (0, .nameAndType 26 27), (0, u "charAt"), (0, u "(I)C"), (0, .methodref 7 29), (0, .nameAndType 30 31), (0, u "digits"), (0, u "(Ljava/lang/CharSequence;II)I"), (30, u "FORM"), (0, u "Ljava/lang/String;"), (1, u "NOT_A_MONTH"), (1, u "MONTHS_A_YEAR"), (3, u "number"), (0, u "(Ljava/lang/CharSequence;)I")] 8

def k9m0 : Method := { name := "<init>", desc := "()V", sig := { parameters := [], returnType := none }, accessFlags := 2, code := none }
def k9c1 : Code := { maxStack := 3, maxLocals := 4, code := prog_1_method_2_code, exceptionTable := #[], attributes := #[] }
def k9m1 : Method := { name := "number", desc := "(Ljava/lang/CharSequence;)I", sig := { parameters := [(.object "java/lang/CharSequence")], returnType := some .int }, accessFlags := 9, code := some k9c1 }
def k9c2 : Code := { maxStack := 3, maxLocals := 6, code := prog_1_method_7_code, exceptionTable := #[], attributes := #[] }
def k9m2 : Method := { name := "digits", desc := "(Ljava/lang/CharSequence;II)I", sig := { parameters := [(.object "java/lang/CharSequence"), .int, .int], returnType := some .int }, accessFlags := 10, code := some k9c2 }
/-- com/example/reta/reta/calendar/Months -/
def k9 : Class := { plain "com/example/reta/reta/calendar/Months" (some 0) with
  accessFlags := 49
  interfaces := #[]
  cf := some (fileOf pool9 7 #[] #[{ accessFlags := 2, nameIndex := 5, descriptorIndex := 6, attributes := #[] }, { accessFlags := 9, nameIndex := 71, descriptorIndex := 72, attributes := #[] }, { accessFlags := 10, nameIndex := 30, descriptorIndex := 31, attributes := #[] }] 49 2 #[] #[{ accessFlags := 25, nameIndex := 62, descriptorIndex := 63, attributes := #[] }, { accessFlags := 25, nameIndex := 65, descriptorIndex := 23, attributes := #[] }, { accessFlags := 26, nameIndex := 67, descriptorIndex := 23, attributes := #[] }, { accessFlags := 26, nameIndex := 22, descriptorIndex := 23, attributes := #[] }])
  fields := #[{ name := "FORM", type := (.object "java/lang/String"), accessFlags := 25, slot := 0, constantValue := 0 }, { name := "NOT_A_MONTH", type := .int, accessFlags := 25, slot := 1, constantValue := 0 }, { name := "MONTHS_A_YEAR", type := .int, accessFlags := 26, slot := 2, constantValue := 0 }, { name := "HYPHEN", type := .int, accessFlags := 26, slot := 3, constantValue := 0 }]
  methods := #[k9m0, k9m1, k9m2]
  instanceTypes := #[]
  staticTypes := #[(.object "java/lang/String"), .int, .int, .int]
  resolved := Array.replicate 81 none
  statics := some 1 }

def pool10 : Array CpInfo := pool [(1, .class_ 2), (0, u "java/lang/String"), (1, .class_ 6), (1, u "java/lang/Object"), (0, u "<init>"), (0, u "()V"), (0, .methodref 1 10), (0, .nameAndType 11 12), (0, u "checkIndex"), (0, u "(II)V"), (1, .class_ 16), (1, u "java/lang/StringLatin1"), (36, u "([BI)C"), (67, u "$assertionsDisabled"), (0, u "Z"), (98, .class_ 223), (1, u "java/lang/StringLatin1$LinesSpliterator"), (28, u "charAt"), (137, .class_ 391), (0, u "java/lang/StringLatin1$CharsSpliterator")] 3

def k10m0 : Method := { name := "<init>", desc := "()V", sig := { parameters := [], returnType := none }, accessFlags := 0, code := none }
def k10c1 : Code := { maxStack := 2, maxLocals := 2, code := jdk_43_method_2_code, exceptionTable := #[], attributes := #[] }
def k10m1 : Method := { name := "charAt", desc := "([BI)C", sig := { parameters := [(.array .byte), .int], returnType := some .char }, accessFlags := 9, code := some k10c1 }
/-- java/lang/StringLatin1 -/
def k10 : Class := { plain "java/lang/StringLatin1" (some 0) with
  accessFlags := 48
  interfaces := #[]
  cf := some (fileOf pool10 14 #[.nestMembers #[390, 221]] #[{ accessFlags := 0, nameIndex := 7, descriptorIndex := 8, attributes := #[] }, { accessFlags := 9, nameIndex := 252, descriptorIndex := 53, attributes := #[] }] 48 4 #[] #[{ accessFlags := 4120, nameIndex := 121, descriptorIndex := 122, attributes := #[] }])
  fields := #[{ name := "$assertionsDisabled", type := .boolean, accessFlags := 4120, slot := 0, constantValue := 0 }]
  methods := #[k10m0, k10m1]
  instanceTypes := #[]
  staticTypes := #[.boolean]
  resolved := Array.replicate 395 none
  statics := none }

def pool11 : Array CpInfo := pool [(2, .class_ 4), (1, u "java/lang/Object"), (0, u "<init>"), (0, u "()V"), (17, .class_ 26), (1, u "jdk/internal/util/Preconditions"), (6, u "checkIndex"), (21, .class_ 56), (0, u "jdk/internal/util/Preconditions$4"), (57, .class_ 115), (0, u "jdk/internal/util/Preconditions$1"), (7, u "SIOOBE_FORMATTER"), (0, u "Ljava/util/function/BiFunction;"), (0, .class_ 126), (0, u "jdk/internal/util/Preconditions$2"), (3, u "AIOOBE_FORMATTER"), (0, .class_ 132), (0, u "jdk/internal/util/Preconditions$3"), (3, u "IOOBE_FORMATTER"), (41, u "(IILjava/util/function/BiFunction;)I")] 15

def k11m0 : Method := { name := "<init>", desc := "()V", sig := { parameters := [], returnType := none }, accessFlags := 1, code := none }
def k11c1 : Code := { maxStack := 3, maxLocals := 3, code := jdk_41_method_11_code, exceptionTable := #[], attributes := #[] }
def k11m1 : Method := { name := "checkIndex", desc := "(IILjava/util/function/BiFunction;)I", sig := { parameters := [.int, .int, (.object "java/util/function/BiFunction")], returnType := some .int }, accessFlags := 9, code := some k11c1 }
/-- jdk/internal/util/Preconditions -/
def k11 : Class := { plain "jdk/internal/util/Preconditions" (some 0) with
  accessFlags := 33
  interfaces := #[]
  cf := some (fileOf pool11 24 #[.nestMembers #[55, 131, 125, 114]] #[{ accessFlags := 1, nameIndex := 5, descriptorIndex := 6, attributes := #[] }, { accessFlags := 9, nameIndex := 33, descriptorIndex := 178, attributes := #[] }] 33 2 #[] #[{ accessFlags := 25, nameIndex := 123, descriptorIndex := 124, attributes := #[] }, { accessFlags := 25, nameIndex := 130, descriptorIndex := 124, attributes := #[] }, { accessFlags := 25, nameIndex := 136, descriptorIndex := 124, attributes := #[] }])
  fields := #[{ name := "SIOOBE_FORMATTER", type := (.object "java/util/function/BiFunction"), accessFlags := 25, slot := 0, constantValue := 0 }, { name := "AIOOBE_FORMATTER", type := (.object "java/util/function/BiFunction"), accessFlags := 25, slot := 1, constantValue := 0 }, { name := "IOOBE_FORMATTER", type := (.object "java/util/function/BiFunction"), accessFlags := 25, slot := 2, constantValue := 0 }]
  methods := #[k11m0, k11m1]
  instanceTypes := #[]
  staticTypes := #[(.object "java/util/function/BiFunction"), (.object "java/util/function/BiFunction"), (.object "java/util/function/BiFunction")]
  resolved := Array.replicate 194 none
  statics := some 2 }

def pool12 : Array CpInfo := pool [(9, u "<init>"), (6, .class_ 18), (1, u "java/lang/Object"), (0, u "()V"), (1, .class_ 23), (1, u "jdk/internal/util/ArraysSupport"), (0, u "LOG2_ARRAY_LONG_INDEX_SCALE"), (0, u "I"), (2, u "U"), (0, u "Ljdk/internal/misc/Unsafe;"), (8, u "BIG_ENDIAN"), (0, u "Z"), (8, u "LOG2_BYTE_BIT_SIZE"), (4, u "LOG2_ARRAY_INT_INDEX_SCALE"), (54, u "JLA"), (0, u "Ljdk/internal/access/JavaLangAccess;"), (11, u "LOG2_ARRAY_BOOLEAN_INDEX_SCALE"), (9, u "LOG2_ARRAY_BYTE_INDEX_SCALE"), (5, u "LOG2_ARRAY_CHAR_INDEX_SCALE"), (5, u "LOG2_ARRAY_SHORT_INDEX_SCALE"), (18, u "LOG2_ARRAY_FLOAT_INDEX_SCALE"), (24, u "LOG2_ARRAY_DOUBLE_INDEX_SCALE"), (89, u "T_BOOLEAN"), (2, u "T_CHAR"), (1, u "T_FLOAT"), (1, u "T_DOUBLE"), (1, u "T_BYTE"), (1, u "T_SHORT"), (1, u "T_INT"), (1, u "T_LONG"), (1, u "SOFT_MAX_ARRAY_LENGTH")] 83

def k12m0 : Method := { name := "<init>", desc := "()V", sig := { parameters := [], returnType := none }, accessFlags := 2, code := none }
/-- jdk/internal/util/ArraysSupport -/
def k12 : Class := { plain "jdk/internal/util/ArraysSupport" (some 0) with
  accessFlags := 33
  interfaces := #[]
  cf := some (fileOf pool12 21 #[] #[{ accessFlags := 2, nameIndex := 9, descriptorIndex := 19, attributes := #[] }] 33 16 #[] #[{ accessFlags := 24, nameIndex := 28, descriptorIndex := 29, attributes := #[] }, { accessFlags := 26, nameIndex := 38, descriptorIndex := 39, attributes := #[] }, { accessFlags := 25, nameIndex := 121, descriptorIndex := 25, attributes := #[] }, { accessFlags := 25, nameIndex := 131, descriptorIndex := 25, attributes := #[] }, { accessFlags := 25, nameIndex := 137, descriptorIndex := 25, attributes := #[] }, { accessFlags := 25, nameIndex := 143, descriptorIndex := 25, attributes := #[] }, { accessFlags := 25, nameIndex := 53, descriptorIndex := 25, attributes := #[] }, { accessFlags := 25, nameIndex := 24, descriptorIndex := 25, attributes := #[] }, { accessFlags := 25, nameIndex := 162, descriptorIndex := 25, attributes := #[] }, { accessFlags := 25, nameIndex := 187, descriptorIndex := 25, attributes := #[] }, { accessFlags := 26, nameIndex := 48, descriptorIndex := 25, attributes := #[] }, { accessFlags := 25, nameIndex := 277, descriptorIndex := 25, attributes := #[] }, { accessFlags := 25, nameIndex := 280, descriptorIndex := 25, attributes := #[] }, { accessFlags := 25, nameIndex := 282, descriptorIndex := 25, attributes := #[] }, { accessFlags := 25, nameIndex := 284, descriptorIndex := 25, attributes := #[] }, { accessFlags := 25, nameIndex := 286, descriptorIndex := 25, attributes := #[] }, { accessFlags := 25, nameIndex := 288, descriptorIndex := 25, attributes := #[] }, { accessFlags := 25, nameIndex := 290, descriptorIndex := 25, attributes := #[] }, { accessFlags := 25, nameIndex := 292, descriptorIndex := 25, attributes := #[] }, { accessFlags := 26, nameIndex := 108, descriptorIndex := 109, attributes := #[] }, { accessFlags := 25, nameIndex := 294, descriptorIndex := 25, attributes := #[] }])
  fields := #[{ name := "U", type := (.object "jdk/internal/misc/Unsafe"), accessFlags := 24, slot := 0, constantValue := 0 }, { name := "BIG_ENDIAN", type := .boolean, accessFlags := 26, slot := 1, constantValue := 0 }, { name := "LOG2_ARRAY_BOOLEAN_INDEX_SCALE", type := .int, accessFlags := 25, slot := 2, constantValue := 0 }, { name := "LOG2_ARRAY_BYTE_INDEX_SCALE", type := .int, accessFlags := 25, slot := 3, constantValue := 0 }, { name := "LOG2_ARRAY_CHAR_INDEX_SCALE", type := .int, accessFlags := 25, slot := 4, constantValue := 0 }, { name := "LOG2_ARRAY_SHORT_INDEX_SCALE", type := .int, accessFlags := 25, slot := 5, constantValue := 0 }, { name := "LOG2_ARRAY_INT_INDEX_SCALE", type := .int, accessFlags := 25, slot := 6, constantValue := 0 }, { name := "LOG2_ARRAY_LONG_INDEX_SCALE", type := .int, accessFlags := 25, slot := 7, constantValue := 0 }, { name := "LOG2_ARRAY_FLOAT_INDEX_SCALE", type := .int, accessFlags := 25, slot := 8, constantValue := 0 }, { name := "LOG2_ARRAY_DOUBLE_INDEX_SCALE", type := .int, accessFlags := 25, slot := 9, constantValue := 0 }, { name := "LOG2_BYTE_BIT_SIZE", type := .int, accessFlags := 26, slot := 10, constantValue := 0 }, { name := "T_BOOLEAN", type := .int, accessFlags := 25, slot := 11, constantValue := 0 }, { name := "T_CHAR", type := .int, accessFlags := 25, slot := 12, constantValue := 0 }, { name := "T_FLOAT", type := .int, accessFlags := 25, slot := 13, constantValue := 0 }, { name := "T_DOUBLE", type := .int, accessFlags := 25, slot := 14, constantValue := 0 }, { name := "T_BYTE", type := .int, accessFlags := 25, slot := 15, constantValue := 0 }, { name := "T_SHORT", type := .int, accessFlags := 25, slot := 16, constantValue := 0 }, { name := "T_INT", type := .int, accessFlags := 25, slot := 17, constantValue := 0 }, { name := "T_LONG", type := .int, accessFlags := 25, slot := 18, constantValue := 0 }, { name := "JLA", type := (.object "jdk/internal/access/JavaLangAccess"), accessFlags := 26, slot := 19, constantValue := 0 }, { name := "SOFT_MAX_ARRAY_LENGTH", type := .int, accessFlags := 25, slot := 20, constantValue := 0 }]
  methods := #[k12m0]
  instanceTypes := #[]
  staticTypes := #[(.object "jdk/internal/misc/Unsafe"), .boolean, .int, .int, .int, .int, .int, .int, .int, .int, .int, .int, .int, .int, .int, .int, .int, .int, .int, (.object "jdk/internal/access/JavaLangAccess"), .int]
  resolved := Array.replicate 378 none
  statics := none }

def pool13 : Array CpInfo := pool [(1, u "java/lang/Cloneable"), (0, .class_ 1), (0, u "java/lang/Object"), (0, .class_ 3)] 3

/-- java/lang/Cloneable -/
def k13 : Class := { plain "java/lang/Cloneable" (some 0) with
  accessFlags := 1537
  interfaces := #[]
  cf := some (fileOf pool13 2 #[] #[] 1537 4 #[] #[])
  fields := #[]
  methods := #[]
  instanceTypes := #[]
  staticTypes := #[]
  resolved := Array.replicate 8 none
  statics := none }

/-- the primitive byte -/
def k14 : Class := { plain "byte" none with kind := .primitive 'B', accessFlags := 0x411 }
/-- [B -/
def k15 : Class := { plain "[B" (some 0) with kind := .array 14 .byte, interfaces := #[13, 2], accessFlags := 1041 }

/-- the primitive char -/
def k16 : Class := { plain "char" none with kind := .primitive 'C', accessFlags := 0x411 }
/-- [C -/
def k17 : Class := { plain "[C" (some 0) with kind := .array 16 .char, interfaces := #[13, 2], accessFlags := 1041 }

/-- the primitive int -/
def k18 : Class := { plain "int" none with kind := .primitive 'I', accessFlags := 0x411 }
/-- [I -/
def k19 : Class := { plain "[I" (some 0) with kind := .array 18 .int, interfaces := #[13, 2], accessFlags := 1041 }

def heap : Heap := #[{ cls := 7, slots := #[.long 0, .int 1, .null, .int 0, .null, .int 0, .int 0], vm := .statics 7 },
  { cls := 9, slots := #[.null, .int 0, .int 0, .int 4], vm := .statics 9 },
  { cls := 11, slots := #[.null, .null, .null], vm := .statics 11 }]
def classes : Array Class := #[k0, k1, k2, k3, k4, k5, k6, k7, k8, k9, k10, k11, k12, k13, k14, k15, k16, k17, k18, k19]
def interned : List (Array UInt16 × Addr) := []
def slotsUsed : Nat := 14
def theMethod : MethodId := ⟨1, 1⟩
def args0 : Array Value := #[.int 1, .int 2, .int 3, .int 3]
def aboutOver (below : List Frame) : State where
  vm := { classes := classes, interned := interned.toArray }
  heap := heap
  slotsUsed := slotsUsed
  threads := #[{ frames := .invoking theMethod args0 :: below }]
def below0 : List Frame := [.native { method := ⟨0, 0⟩, args := #[] }]
def about1 : State := aboutOver below0
def p0 : Program := .bare "" "" ""
def e0 : Env := launch0.env 0 0 0
theorem w_frames : about1.frames = Frame.invoking theMethod args0 :: below0 := rfl
set_option maxRecDepth 65536 in
theorem w_args : argsFit about1.vm theMethod args0 = true := by decide +kernel
set_option maxRecDepth 65536 in
theorem w_heap : heapFits about1 = true := by decide +kernel
set_option maxRecDepth 65536 in
theorem w_runnable : about1.curStatus? = some .runnable := by decide +kernel
set_option maxRecDepth 65536 in
theorem w_alone : about1.alone = true := by decide +kernel
set_option maxRecDepth 65536 in
theorem w_named : about1.methodNamed? x = some theMethod := by decide +kernel
set_option maxRecDepth 65536 in
theorem w_hears : about1.hears theMethod below0 = true := by decide +kernel
set_option maxRecDepth 65536 in
theorem w_ripe : about1.ripe theMethod args0 below0 = true := by decide +kernel
theorem w_running : about1.status = .running := rfl
set_option maxRecDepth 65536 in
theorem w_room : about1.hasRoom e0.platform room_1 = true :=
  launch0.hasRoom_least _ room_1 (by decide +kernel) (by decide +kernel) (by decide +kernel) (by decide +kernel) (by decide +kernel) (by decide +kernel)
theorem allAtoms_all (ts : List Jvm.Cond) (a : Array Jvm.Value) (st : Jvm.State) : (allAtoms ts).before a st = ts.all (fun c => c.before a st) := by
  induction ts with
  | nil => rfl
  | cons c t ih =>
    show (Jvm.Cond.and c (allAtoms t)).before a st = _
    rw [Jvm.Cond.before_and, ih, List.all_cons]
def words1 : List Jvm.Cond := Jvm.Cond.code x code maxLocals ret :: tables_1
/-- a 'code' word, met by the world's own term for the bytes: nothing is compared byte by byte -/
theorem code_word {y : MethodName} {bytes : ByteArray} {mx : Nat} {rt : Option FieldType} {a : Array Value} {s : State} {m : MethodId} {meth : Method} {c : Code} (h1 : s.methodNamed? y = some m) (h2 : s.vm.method? m = some meth) (h3 : meth.code = some c) (h4 : c.code = bytes)
    (h5 : (c.maxLocals == mx && c.exceptionTable.isEmpty && decide (c.maxStack ≤ mostOperands) && decide (meth.sig.returnType = rt) && !meth.locks && decide (parseMethodDescriptor y.desc = some meth.sig)) = true) : (Jvm.Cond.code y bytes mx rt).before a s = true := by
  simp only [Bool.and_eq_true, beq_iff_eq, Bool.not_eq_true', decide_eq_true_eq] at h5
  obtain ⟨⟨⟨⟨⟨g1, g2⟩, g3⟩, g4⟩, g5⟩, g6⟩ := h5
  simp [Cond.before, Cond.holds, Cond.value, h1, h2, h3, h4, g1, g2, g3, g4, g5, g6]
def isCode : Jvm.Cond → Bool
  | .code _ _ _ _ => true
  | _ => false
theorem all_split {L : List Jvm.Cond} {P : Jvm.Cond → Bool} (h1 : L.all (fun c => isCode c || P c) = true) (h2 : ∀ c ∈ L.filter isCode, P c = true) : L.all P = true := by
  refine List.all_eq_true.mpr fun c hc => ?_
  have h := List.all_eq_true.mp h1 c hc
  rcases Bool.eq_false_or_eq_true (isCode c) with hi | hi
  · exact h2 c (List.mem_filter.mpr ⟨hc, hi⟩)
  · simpa [hi] using h
set_option maxRecDepth 65536 in
theorem w_c0 : (Jvm.Cond.code x code maxLocals ret).before args0 about1 = true := code_word (m := ⟨1, 1⟩) (meth := k1m1) (c := k1c1) (by decide +kernel) rfl rfl rfl (by decide +kernel)
set_option maxRecDepth 65536 in
theorem w_c1 : (Jvm.Cond.code ({ cls := "com/example/reta/reta/calendar/MonthsNumberPinLaw", name := "pick", desc := "(III)C" } : Jvm.MethodName) method_3_code (4 : Nat) (Option.some Jvm.ClassFile.FieldType.char)).before args0 about1 = true := code_word (m := ⟨1, 2⟩) (meth := k1m2) (c := k1c2) (by decide +kernel) rfl rfl rfl (by decide +kernel)
set_option maxRecDepth 65536 in
theorem w_c2 : (Jvm.Cond.code ({ cls := "java/lang/String", name := "<init>", desc := "([C)V" } : Jvm.MethodName) jdk_42_method_3_code (2 : Nat) (Option.none : Option Jvm.ClassFile.FieldType)).before args0 about1 = true := code_word (m := ⟨7, 1⟩) (meth := k7m1) (c := k7c1) (by decide +kernel) rfl rfl rfl (by decide +kernel)
set_option maxRecDepth 65536 in
theorem w_c3 : (Jvm.Cond.code ({ cls := "java/lang/String", name := "<init>", desc := "([CIILjava/lang/Void;)V" } : Jvm.MethodName) jdk_42_method_149_code (6 : Nat) (Option.none : Option Jvm.ClassFile.FieldType)).before args0 about1 = true := code_word (m := ⟨7, 4⟩) (meth := k7m4) (c := k7c4) (by decide +kernel) rfl rfl rfl (by decide +kernel)
set_option maxRecDepth 65536 in
theorem w_c4 : (Jvm.Cond.code ({ cls := "java/lang/Object", name := "<init>", desc := "()V" } : Jvm.MethodName) object_method_1_code (1 : Nat) (Option.none : Option Jvm.ClassFile.FieldType)).before args0 about1 = true := code_word (m := ⟨0, 0⟩) (meth := k0m0) (c := k0c0) (by decide +kernel) rfl rfl rfl (by decide +kernel)
set_option maxRecDepth 65536 in
theorem w_c5 : (Jvm.Cond.code ({ cls := "java/lang/StringUTF16", name := "compress", desc := "([CII)[B" } : Jvm.MethodName) jdk_52_method_16_code (6 : Nat) (Option.some (Jvm.ClassFile.FieldType.array Jvm.ClassFile.FieldType.byte))).before args0 about1 = true := code_word (m := ⟨8, 2⟩) (meth := k8m2) (c := k8c2) (by decide +kernel) rfl rfl rfl (by decide +kernel)
set_option maxRecDepth 65536 in
theorem w_c6 : (Jvm.Cond.code ({ cls := "java/lang/StringUTF16", name := "compress", desc := "([CI[BII)I" } : Jvm.MethodName) jdk_52_method_21_code (7 : Nat) (Option.some Jvm.ClassFile.FieldType.int)).before args0 about1 = true := code_word (m := ⟨8, 3⟩) (meth := k8m3) (c := k8c3) (by decide +kernel) rfl rfl rfl (by decide +kernel)
set_option maxRecDepth 65536 in
theorem w_c7 : (Jvm.Cond.code ({ cls := "java/lang/StringUTF16", name := "coderFromArrayLen", desc := "([BI)B" } : Jvm.MethodName) jdk_52_method_15_code (2 : Nat) (Option.some Jvm.ClassFile.FieldType.byte)).before args0 about1 = true := code_word (m := ⟨8, 1⟩) (meth := k8m1) (c := k8c1) (by decide +kernel) rfl rfl rfl (by decide +kernel)
set_option maxRecDepth 65536 in
theorem w_c8 : (Jvm.Cond.code ({ cls := "com/example/reta/reta/calendar/MonthsNumberPinLaw", name := "reference", desc := "(ICCCCCCC)I" } : Jvm.MethodName) method_5_code (16 : Nat) (Option.some Jvm.ClassFile.FieldType.int)).before args0 about1 = true := code_word (m := ⟨1, 4⟩) (meth := k1m4) (c := k1c4) (by decide +kernel) rfl rfl rfl (by decide +kernel)
set_option maxRecDepth 65536 in
theorem w_c9 : (Jvm.Cond.code ({ cls := "com/example/reta/reta/calendar/Months", name := "number", desc := "(Ljava/lang/CharSequence;)I" } : Jvm.MethodName) prog_1_method_2_code (4 : Nat) (Option.some Jvm.ClassFile.FieldType.int)).before args0 about1 = true := code_word (m := ⟨9, 1⟩) (meth := k9m1) (c := k9c1) (by decide +kernel) rfl rfl rfl (by decide +kernel)
set_option maxRecDepth 65536 in
theorem w_c10 : (Jvm.Cond.code ({ cls := "java/lang/String", name := "length", desc := "()I" } : Jvm.MethodName) jdk_42_method_54_code (1 : Nat) (Option.some Jvm.ClassFile.FieldType.int)).before args0 about1 = true := code_word (m := ⟨7, 2⟩) (meth := k7m2) (c := k7c2) (by decide +kernel) rfl rfl rfl (by decide +kernel)
set_option maxRecDepth 65536 in
theorem w_c11 : (Jvm.Cond.code ({ cls := "java/lang/String", name := "coder", desc := "()B" } : Jvm.MethodName) jdk_42_method_152_code (1 : Nat) (Option.some Jvm.ClassFile.FieldType.byte)).before args0 about1 = true := code_word (m := ⟨7, 5⟩) (meth := k7m5) (c := k7c5) (by decide +kernel) rfl rfl rfl (by decide +kernel)
set_option maxRecDepth 65536 in
theorem w_c12 : (Jvm.Cond.code ({ cls := "com/example/reta/reta/calendar/MonthsNumberPinLaw", name := "dig", desc := "(C)I" } : Jvm.MethodName) method_4_code (1 : Nat) (Option.some Jvm.ClassFile.FieldType.int)).before args0 about1 = true := code_word (m := ⟨1, 3⟩) (meth := k1m3) (c := k1c3) (by decide +kernel) rfl rfl rfl (by decide +kernel)
set_option maxRecDepth 65536 in
theorem w_c13 : (Jvm.Cond.code ({ cls := "java/lang/String", name := "charAt", desc := "(I)C" } : Jvm.MethodName) jdk_42_method_56_code (2 : Nat) (Option.some Jvm.ClassFile.FieldType.char)).before args0 about1 = true := code_word (m := ⟨7, 3⟩) (meth := k7m3) (c := k7c3) (by decide +kernel) rfl rfl rfl (by decide +kernel)
set_option maxRecDepth 65536 in
theorem w_c14 : (Jvm.Cond.code ({ cls := "java/lang/String", name := "isLatin1", desc := "()Z" } : Jvm.MethodName) jdk_42_method_154_code (1 : Nat) (Option.some Jvm.ClassFile.FieldType.boolean)).before args0 about1 = true := code_word (m := ⟨7, 6⟩) (meth := k7m6) (c := k7c6) (by decide +kernel) rfl rfl rfl (by decide +kernel)
set_option maxRecDepth 65536 in
theorem w_c15 : (Jvm.Cond.code ({ cls := "java/lang/StringLatin1", name := "charAt", desc := "([BI)C" } : Jvm.MethodName) jdk_43_method_2_code (2 : Nat) (Option.some Jvm.ClassFile.FieldType.char)).before args0 about1 = true := code_word (m := ⟨10, 1⟩) (meth := k10m1) (c := k10c1) (by decide +kernel) rfl rfl rfl (by decide +kernel)
set_option maxRecDepth 65536 in
theorem w_c16 : (Jvm.Cond.code ({ cls := "java/lang/String", name := "checkIndex", desc := "(II)V" } : Jvm.MethodName) jdk_42_method_155_code (2 : Nat) (Option.none : Option Jvm.ClassFile.FieldType)).before args0 about1 = true := code_word (m := ⟨7, 7⟩) (meth := k7m7) (c := k7c7) (by decide +kernel) rfl rfl rfl (by decide +kernel)
set_option maxRecDepth 65536 in
theorem w_c17 : (Jvm.Cond.code ({ cls := "jdk/internal/util/Preconditions", name := "checkIndex", desc := "(IILjava/util/function/BiFunction;)I" } : Jvm.MethodName) jdk_41_method_11_code (3 : Nat) (Option.some Jvm.ClassFile.FieldType.int)).before args0 about1 = true := code_word (m := ⟨11, 1⟩) (meth := k11m1) (c := k11c1) (by decide +kernel) rfl rfl rfl (by decide +kernel)
set_option maxRecDepth 65536 in
theorem w_c18 : (Jvm.Cond.code ({ cls := "com/example/reta/reta/calendar/Months", name := "digits", desc := "(Ljava/lang/CharSequence;II)I" } : Jvm.MethodName) prog_1_method_7_code (6 : Nat) (Option.some Jvm.ClassFile.FieldType.int)).before args0 about1 = true := code_word (m := ⟨9, 2⟩) (meth := k9m2) (c := k9c2) (by decide +kernel) rfl rfl rfl (by decide +kernel)
def codes1 : List Jvm.Cond := [Jvm.Cond.code x code maxLocals ret, Jvm.Cond.code ({ cls := "com/example/reta/reta/calendar/MonthsNumberPinLaw", name := "pick", desc := "(III)C" } : Jvm.MethodName) method_3_code (4 : Nat) (Option.some Jvm.ClassFile.FieldType.char), Jvm.Cond.code ({ cls := "java/lang/String", name := "<init>", desc := "([C)V" } : Jvm.MethodName) jdk_42_method_3_code (2 : Nat) (Option.none : Option Jvm.ClassFile.FieldType), Jvm.Cond.code ({ cls := "java/lang/String", name := "<init>", desc := "([CIILjava/lang/Void;)V" } : Jvm.MethodName) jdk_42_method_149_code (6 : Nat) (Option.none : Option Jvm.ClassFile.FieldType), Jvm.Cond.code ({ cls := "java/lang/Object", name := "<init>", desc := "()V" } : Jvm.MethodName) object_method_1_code (1 : Nat) (Option.none : Option Jvm.ClassFile.FieldType), Jvm.Cond.code ({ cls := "java/lang/StringUTF16", name := "compress", desc := "([CII)[B" } : Jvm.MethodName) jdk_52_method_16_code (6 : Nat) (Option.some (Jvm.ClassFile.FieldType.array Jvm.ClassFile.FieldType.byte)), Jvm.Cond.code ({ cls := "java/lang/StringUTF16", name := "compress", desc := "([CI[BII)I" } : Jvm.MethodName) jdk_52_method_21_code (7 : Nat) (Option.some Jvm.ClassFile.FieldType.int), Jvm.Cond.code ({ cls := "java/lang/StringUTF16", name := "coderFromArrayLen", desc := "([BI)B" } : Jvm.MethodName) jdk_52_method_15_code (2 : Nat) (Option.some Jvm.ClassFile.FieldType.byte), Jvm.Cond.code ({ cls := "com/example/reta/reta/calendar/MonthsNumberPinLaw", name := "reference", desc := "(ICCCCCCC)I" } : Jvm.MethodName) method_5_code (16 : Nat) (Option.some Jvm.ClassFile.FieldType.int), Jvm.Cond.code ({ cls := "com/example/reta/reta/calendar/Months", name := "number", desc := "(Ljava/lang/CharSequence;)I" } : Jvm.MethodName) prog_1_method_2_code (4 : Nat) (Option.some Jvm.ClassFile.FieldType.int), Jvm.Cond.code ({ cls := "java/lang/String", name := "length", desc := "()I" } : Jvm.MethodName) jdk_42_method_54_code (1 : Nat) (Option.some Jvm.ClassFile.FieldType.int), Jvm.Cond.code ({ cls := "java/lang/String", name := "coder", desc := "()B" } : Jvm.MethodName) jdk_42_method_152_code (1 : Nat) (Option.some Jvm.ClassFile.FieldType.byte), Jvm.Cond.code ({ cls := "com/example/reta/reta/calendar/MonthsNumberPinLaw", name := "dig", desc := "(C)I" } : Jvm.MethodName) method_4_code (1 : Nat) (Option.some Jvm.ClassFile.FieldType.int), Jvm.Cond.code ({ cls := "java/lang/String", name := "charAt", desc := "(I)C" } : Jvm.MethodName) jdk_42_method_56_code (2 : Nat) (Option.some Jvm.ClassFile.FieldType.char), Jvm.Cond.code ({ cls := "java/lang/String", name := "isLatin1", desc := "()Z" } : Jvm.MethodName) jdk_42_method_154_code (1 : Nat) (Option.some Jvm.ClassFile.FieldType.boolean), Jvm.Cond.code ({ cls := "java/lang/StringLatin1", name := "charAt", desc := "([BI)C" } : Jvm.MethodName) jdk_43_method_2_code (2 : Nat) (Option.some Jvm.ClassFile.FieldType.char), Jvm.Cond.code ({ cls := "java/lang/String", name := "checkIndex", desc := "(II)V" } : Jvm.MethodName) jdk_42_method_155_code (2 : Nat) (Option.none : Option Jvm.ClassFile.FieldType), Jvm.Cond.code ({ cls := "jdk/internal/util/Preconditions", name := "checkIndex", desc := "(IILjava/util/function/BiFunction;)I" } : Jvm.MethodName) jdk_41_method_11_code (3 : Nat) (Option.some Jvm.ClassFile.FieldType.int), Jvm.Cond.code ({ cls := "com/example/reta/reta/calendar/Months", name := "digits", desc := "(Ljava/lang/CharSequence;II)I" } : Jvm.MethodName) prog_1_method_7_code (6 : Nat) (Option.some Jvm.ClassFile.FieldType.int)]
set_option maxRecDepth 65536 in
theorem codes_eq : words1.filter isCode = codes1 := rfl
theorem w_codes : ∀ c ∈ words1.filter isCode, c.before args0 about1 = true := by
  rw [codes_eq]
  intro c hc
  simp only [codes1, List.mem_cons, List.not_mem_nil, or_false] at hc
  rcases hc with rfl | rfl | rfl | rfl | rfl | rfl | rfl | rfl | rfl | rfl | rfl | rfl | rfl | rfl | rfl | rfl | rfl | rfl | rfl
  · exact w_c0
  · exact w_c1
  · exact w_c2
  · exact w_c3
  · exact w_c4
  · exact w_c5
  · exact w_c6
  · exact w_c7
  · exact w_c8
  · exact w_c9
  · exact w_c10
  · exact w_c11
  · exact w_c12
  · exact w_c13
  · exact w_c14
  · exact w_c15
  · exact w_c16
  · exact w_c17
  · exact w_c18
set_option maxRecDepth 65536 in
theorem w_t1 : (words1.take 24).all (fun c => isCode c || c.before args0 about1) = true := by decide +kernel
set_option maxRecDepth 65536 in
theorem w_t2 : ((words1.drop 24).take 24).all (fun c => isCode c || c.before args0 about1) = true := by decide +kernel
set_option maxRecDepth 65536 in
theorem w_t3 : (((words1.drop 24).drop 24).take 24).all (fun c => isCode c || c.before args0 about1) = true := by decide +kernel
set_option maxRecDepth 65536 in
theorem w_t4 : (((words1.drop 24).drop 24).drop 24).all (fun c => isCode c || c.before args0 about1) = true := by decide +kernel
theorem w_tables : (allAtoms (Jvm.Cond.code x code maxLocals ret :: tables_1)).before args0 about1 = true := by
  rw [allAtoms_all]
  show words1.all (fun c => c.before args0 about1) = true
  refine all_split ?_ w_codes
  rw [← List.take_append_drop 24 words1, List.all_append, w_t1, ← List.take_append_drop 24 (words1.drop 24), List.all_append, w_t2, ← List.take_append_drop 24 ((words1.drop 24).drop 24), List.all_append, w_t3, w_t4]
  rfl
set_option maxRecDepth 65536 in
theorem w_rest : rest_1_c.before args0 about1 = true := by decide +kernel
set_option maxRecDepth 65536 in
theorem w_case : (Jvm.Cond.and given_1 narrow_1).before args0 about1 = true := by decide +kernel
set_option maxRecDepth 65536 in
theorem w_consts : constsHeld consts_1 about1 := Jvm.Lit.constsHeldB_iff.mp (by decide +kernel)
theorem w_applies : (headSpec (Jvm.Cond.code x code maxLocals ret :: tables_1) room_1).applies x e0.platform about1 = true :=
  (Spec.applies_iff w_frames).mpr ⟨w_running, w_runnable, w_alone, w_named, w_hears, w_ripe, w_room, w_tables⟩
theorem atStart : AtStart classFile x code maxLocals ret World_1 tables_1 room_1 Calls_1 rest_1 Pre_1 launch0 p0 e0 about1 theMethod args0 below0 :=
  ⟨lists_1, trivial, launch0.admits_env _ _ _, launch0.least_env, fairChoices_fair.cas, fairChoices_fair.clock, w_frames, w_args, w_heap, w_applies, ⟨w_consts, trivial⟩, w_rest, w_case⟩
end start1
theorem witness_1 : WitnessClaimed_1 := ⟨start1.p0, start1.e0, start1.about1, start1.theMethod, start1.args0, start1.below0, start1.atStart⟩
end Jvm.Pilot.@@N@@
